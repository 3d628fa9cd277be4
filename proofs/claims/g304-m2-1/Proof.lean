import JvmDerived
import JvmDerived.Pilot.@@N@@Statement
import JvmDerived.Pilot.@@N@@Code
set_option linter.unusedVariables false
set_option linter.unusedSimpArgs false
namespace Jvm.RoadKit
open Sem ClassFile Op Lib Jvm.Stand Jvm.Free Jvm.LawKit
section New
variable {p : Program} {l : Launch} {e : Env} {R : Room} {s : State} {m : MethodId} {args : Array Value} {below : List Frame} {meth : Method} {c : Code} {T : State} {locs : List Loc} {cells slots : Nat}
theorem retI (X : Stand p l e R s m args below meth c T locs cells slots) (hx : p.tables.exec = Jvm.exec) {pc : Nat} {Ls : Array Slot} {z : Int32} {rest : List Value} (hret : meth.sig.returnType = some .int) (hd : decode c.code pc = .ok (.ireturn, 1)) {fs : List Frame}
    (hl : ∀ (f : JFrame) (acts : List Action), f.method = m → f.locked = none → f.entered = [] → (doReturn e (T.setTop f) acts (some (.int z))).1 = T.setFrames fs) : Steps p.tables e below (T.setTop (mkF m pc Ls (.int z :: rest))) (T.setFrames fs) := by
  have hm' : T.vm.method? m = some meth := X.method'
  have hn : narrow .int (.int z) = .int z := rfl
  show Steps p.tables e below (T.setTop { method := m, pc := pc, locals := Ls, stack := _ :: rest, locked := none }) _
  jvm_step X.here [X.here.top, hx, hd, hm', hret, hn]
  first | (intro acts; rw [hl _ acts rfl rfl rfl]) | rw [hl _ _ rfl rfl rfl]
  exact Steps.refl _
end New
end Jvm.RoadKit
namespace Jvm.RoadKit
open Sem ClassFile Op Lib Jvm.Stand Jvm.Free Jvm.LawKit
theorem own_selP {s : State} {args args' : Array Value} {y : MethodName} {n : Nat} (hi : (Cond.instantiable y.cls n).before args' s = true) (hpriv : s.PrivateAt y) (hinst : (Cond.instanceMethod y).before args s = true) (hy : y.cls ≠ "java/lang/invoke/MethodHandle" ∧ y.cls ≠ "java/lang/invoke/VarHandle") : (Cond.selects y.cls y y).before args s = true := by
  obtain ⟨c, k, hc, hk, -, hni, -⟩ := Cond.instantiable_spec hi
  exact Stand.selects_self_of_private hc hk (by rw [Bool.or_eq_false_iff] at hni; exact hni.1) hpriv hinst hy
end Jvm.RoadKit
namespace Jvm.Pilot.@@N@@
open Jvm Jvm.ClassFile Sem Op Lib Jvm.Free Jvm.Stand Jvm.LawKit Jvm.RoadKit Bundle Jvm.Pilot.@@N@@.Jvm.D
theorem own_rem (x d : Int64) (hd : 0 < d.toInt) : 0 ≤ ((x &&& (9223372036854775807 : Int64)) - ((x &&& (9223372036854775807 : Int64)) / d) * d).toInt ∧ ((x &&& (9223372036854775807 : Int64)) - ((x &&& (9223372036854775807 : Int64)) / d) * d).toInt < d.toInt := by
  have hm := c_maskL x 9223372036854775807 63 (by decide) (by decide)
  have h0 : 0 ≤ (x &&& (9223372036854775807 : Int64)).toInt := by rw [hm]; exact Int.emod_nonneg _ (by decide)
  rw [(c_lrem _ d d.toInt rfl).1 h0]
  exact ⟨Int.emod_nonneg _ (by omega), Int.emod_lt_of_pos _ hd⟩
theorem own_add {x y : Int64} (h1 : -9223372036854775808 ≤ x.toInt + y.toInt) (h2 : x.toInt + y.toInt < 9223372036854775808) : (x + y).toInt = x.toInt + y.toInt := by
  have := c_ladd x y; have := rng64 (x + y); omega
theorem own_sub {x y : Int64} (h1 : -9223372036854775808 ≤ x.toInt - y.toInt) (h2 : x.toInt - y.toInt < 9223372036854775808) : (x - y).toInt = x.toInt - y.toInt := by
  have := c_lsub x y; have := rng64 (x - y); omega
theorem own_nz {x : Int64} (h : 0 < x.toInt) : x ≠ 0 := fun q => by rw [q] at h; exact absurd h (by decide)
theorem own_one : (1 : Int64).toInt = 1 := by decide
theorem own_zero : (0 : Int64).toInt = 0 := by decide
theorem own_mil : (1000000 : Int64).toInt = 1000000 := by decide
theorem own_jlt {x y : Int64} (h : ¬ x.toInt < y.toInt) : ¬ x < y := by rw [Int64.lt_iff_toInt_lt]; exact h
theorem own_jeq {x y : Int64} (h : x.toInt = y.toInt) : x = y := Int64.toInt_inj.mp h
def own_ok (t u s : Int64) : Prop := 0 ≤ t.toInt ∧ t.toInt ≤ 1000000 ∧ 0 ≤ u.toInt ∧ 0 ≤ s.toInt ∧ u.toInt + s.toInt ≤ t.toInt
theorem own_ok_add {t u s : Int64} (h : own_ok t u s) : (u + s).toInt = u.toInt + s.toInt := by
  obtain ⟨a, b, c, d, e⟩ := h; exact own_add (by omega) (by omega)
theorem own_av {t u s : Int64} (h : own_ok t u s) : (t - u - s).toInt = t.toInt - u.toInt - s.toInt := by
  obtain ⟨a, b, c, d, e⟩ := h
  have h1 : (t - u).toInt = t.toInt - u.toInt := own_sub (by omega) (by omega)
  rw [own_sub (by omega) (by omega), h1]
theorem own_ok_sell {t u s n : Int64} (h : own_ok t u s) (q : 0 ≤ n.toInt ∧ n.toInt ≤ u.toInt) : own_ok t (u - n) (s + n) := by
  obtain ⟨a, b, c, d, f⟩ := h
  have e1 : (u - n).toInt = u.toInt - n.toInt := own_sub (by omega) (by omega)
  have e2 : (s + n).toInt = s.toInt + n.toInt := own_add (by omega) (by omega)
  exact ⟨a, b, by omega, by omega, by omega⟩
theorem own_ite {p q : Prop} [Decidable p] [Decidable q] (h : p ↔ q) : (if p then (1 : Int32) else 0) = if q then 1 else 0 := by
  by_cases hp : p
  · rw [if_pos hp, if_pos (h.mp hp)]
  · rw [if_neg hp, if_neg (fun x => hp (h.mpr x))]
theorem own_jiff {x y a b : Int64} (h : x.toInt = y.toInt ↔ a.toInt = b.toInt) : x = y ↔ a = b := by
  rw [← Int64.toInt_inj, ← Int64.toInt_inj]; exact h
theorem own_pd0 : parseMethodDescriptor "(J)J" = some ⟨[.long], some .long⟩ := by decide +kernel
theorem own_pd1 : parseMethodDescriptor "(JJJ)V" = some ⟨[.long, .long, .long], none⟩ := by decide +kernel
theorem own_pd2 : parseMethodDescriptor "()Z" = some ⟨[], some .boolean⟩ := by decide +kernel
theorem own_pd3 : parseMethodDescriptor "(J)Lcom/example/turnstyle/turnstyle/domain/Stock;" = some ⟨[.long], some (.object "com/example/turnstyle/turnstyle/domain/Stock")⟩ := by decide +kernel
theorem d3_0 : decode prog_12_method_2_code 0 = .ok (.lload_n 0, 1) := by decide +kernel
theorem d3_1 : decode prog_12_method_2_code 1 = .ok (.lconst 0, 1) := by decide +kernel
theorem d3_2 : decode prog_12_method_2_code 2 = .ok (.lcmp, 1) := by decide +kernel
theorem d3_3 : decode prog_12_method_2_code 3 = .ok (.ifCond .lt 11, 3) := by decide +kernel
theorem d3_6 : decode prog_12_method_2_code 6 = .ok (.lload_n 0, 1) := by decide +kernel
theorem d3_7 : decode prog_12_method_2_code 7 = .ok (.ldc2_w 30, 3) := by decide +kernel
theorem d3_10 : decode prog_12_method_2_code 10 = .ok (.lcmp, 1) := by decide +kernel
theorem d3_11 : decode prog_12_method_2_code 11 = .ok (.ifCond .le 13, 3) := by decide +kernel
theorem d3_14 : decode prog_12_method_2_code 14 = .ok (.new 13, 3) := by decide +kernel
theorem d3_17 : decode prog_12_method_2_code 17 = .ok (.dup, 1) := by decide +kernel
theorem d3_18 : decode prog_12_method_2_code 18 = .ok (.ldc 32, 2) := by decide +kernel
theorem d3_20 : decode prog_12_method_2_code 20 = .ok (.invokespecial 17, 3) := by decide +kernel
theorem d3_23 : decode prog_12_method_2_code 23 = .ok (.athrow, 1) := by decide +kernel
theorem d3_24 : decode prog_12_method_2_code 24 = .ok (.lload_n 0, 1) := by decide +kernel
theorem d3_25 : decode prog_12_method_2_code 25 = .ok (.lreturn, 1) := by decide +kernel
theorem pn_rm_rq : plainName "com/example/turnstyle/turnstyle/domain/Stock" = true := by first | (simp [plainName, overriddenIn]; done) | decide +kernel
theorem ef_rm_rq (m : MethodId) (vt : Int64) : entryFrame m #[(.long vt)] 2 = mkF m 0 #[.val (.long vt), .second] [] := by first | (simp [entryFrame, mkF, argsToLocals, Value.category]; done) | rfl
def Q_rq (Z : State) (vt : Int64) (h0 : Heap) (n0 : Nat) (v : Option Value) (h : Heap) (L : List Loc) : Prop := v = some (.long vt) ∧ Fr n0 L ∧ h = h0
set_option maxRecDepth 65536 in
set_option maxHeartbeats 40000000 in
theorem rm_rq (l : Launch) (Z : State) (a0 : Array Value) (hw : ∀ d ∈ tables_1, d.before a0 Z = true) (ws : List Jvm.Cond) (vt : Int64) (h0 : Heap) (n0 : Nat) (Z0 : n0 ≤ h0.size) (hp : 0 ≤ vt.toInt ∧ vt.toInt ≤ 1000000) :
    MetFree l (⟨"com/example/turnstyle/turnstyle/domain/Stock", "requireTotal", "(J)J"⟩ : MethodName) (head1 (Jvm.Cond.code (⟨"com/example/turnstyle/turnstyle/domain/Stock", "requireTotal", "(J)J"⟩ : MethodName) prog_12_method_2_code 2 (some .long) :: ws) ({ frames := 0, cells := 0, slots := 0, locals := 0 } : Room)) (fun a U => a = #[(.long vt)] ∧ Z.Warmed39 U.vm ∧ U.heap = h0) (fun _ _ _ _ _ => True) (fun _ U o U' => ∃ v L, o = .returned v ∧ Q_rq Z vt h0 n0 v U'.heap L ∧ FrameEnd U o U' L ({ frames := 0, cells := 0, slots := 0, locals := 0 } : Room).cells ({ frames := 0, cells := 0, slots := 0, locals := 0 } : Room).slots) := by
  refine MetFree.of_bodySF (plainFor_of_name pn_rm_rq) hisR ?_
  intro p e s m args below meth c s₁ Bd hml0 hP hK
  obtain ⟨rfl, hZ, hh⟩ := hP
  have hx := Bd.exec
  have hby := Bd.bytes
  have hml : c.maxLocals = 2 := hml0
  have hown : s.vm.findClass "com/example/turnstyle/turnstyle/domain/Stock" = some m.cls := findClass_of_methodNamed Bd.named
  have hnm := (name_of_methodNamed Bd.named Bd.method).1
  have X0 : Stand p l e ({ frames := 0, cells := 0, slots := 0, locals := 0 } : Room) s m #[(.long vt)] below meth c s₁ [] 0 0 := Stand.of_body Bd
  have e0 : s₁.heap = h0 := by rw [← hh, Bd.state]; rfl
  have N0 := Fr.nil n0
  have pre0 : ∀ t, Steps p.tables e below (s₁.setTop (mkF m 0 #[.val (.long vt), .second] [])) t → Steps p.tables e below (s₁.setTop (entryFrame m #[(.long vt)] 2)) t := fun t k => castTop (ef_rm_rq m vt) k
  have pre1 : ∀ t, Steps p.tables e below (s₁.setTop (mkF m 3 #[.val (.long vt), .second] [(.int (lcmpW vt (0 : Int64)))])) t → Steps p.tables e below (s₁.setTop (entryFrame m #[(.long vt)] 2)) t := by
    intro t k
    refine pre0 t ?_
    show Steps p.tables e below (s₁.setTop (mkF m 0 #[.val (.long vt), .second] [])) _
    refine XS.lloadN X0.here hx rfl (hb hby d3_0) rfl ?_
    show Steps p.tables e below (s₁.setTop (mkF m 1 #[.val (.long vt), .second] [(.long vt)])) _
    refine XS.lconst X0.here hx rfl (hb hby d3_1) ?_
    show Steps p.tables e below (s₁.setTop (mkF m 2 #[.val (.long vt), .second] [(.long (0 : Int64)), (.long vt)])) _
    refine XS.lcmp X0.here hx rfl (hb hby d3_2) rfl ?_
    show Steps p.tables e below (s₁.setTop (mkF m 3 #[.val (.long vt), .second] [(.int (lcmpW vt (0 : Int64)))])) _
    exact k
  have hd2 : ¬ (vt < (0 : Int64)) := own_jlt (by rw [own_zero]; omega)
  have pre3 : ∀ t, Steps p.tables e below (s₁.setTop (mkF m 11 #[.val (.long vt), .second] [(.int (lcmpW vt (1000000 : Int64)))])) t → Steps p.tables e below (s₁.setTop (entryFrame m #[(.long vt)] 2)) t := by
    intro t k
    refine pre1 t ?_
    show Steps p.tables e below (s₁.setTop (mkF m 3 #[.val (.long vt), .second] [(.int (lcmpW vt (0 : Int64)))])) _
    refine XS.ifNo X0.here hx rfl (hb hby d3_3) rfl ((if0 _ _).trans (flt (mt (lw_lt _ _).mp hd2)).1) ?_
    show Steps p.tables e below (s₁.setTop (mkF m 6 #[.val (.long vt), .second] [])) _
    refine XS.lloadN X0.here hx rfl (hb hby d3_6) rfl ?_
    show Steps p.tables e below (s₁.setTop (mkF m 7 #[.val (.long vt), .second] [(.long vt)])) _
    refine X0.ldc2Long hx hown (mvT hZ (hw _ (List.mem_of_getElem? (i := 14) rfl))) (g := (mkF m 7 #[.val (.long vt), .second] [(.long vt)])) rfl (hb hby d3_7) _ ?_
    show Steps p.tables e below (s₁.setTop (mkF m 10 #[.val (.long vt), .second] [(.long (1000000 : Int64)), (.long vt)])) _
    refine XS.lcmp X0.here hx rfl (hb hby d3_10) rfl ?_
    show Steps p.tables e below (s₁.setTop (mkF m 11 #[.val (.long vt), .second] [(.int (lcmpW vt (1000000 : Int64)))])) _
    exact k
  have hd4 : ¬ ((1000000 : Int64) < vt) := own_jlt (by rw [own_mil]; omega)
  obtain ⟨fs, hr, hrun, hended, hW, hsame⟩ := X0.leave (v := some (.long vt)) (fun h => by rw [Bd.returns] at h; cases h)
  refine ⟨_, _, pre3 _ ?_, hrun, hended, _, _, rfl, ?_, ⟨_, rfl⟩, hW, hsame.mono (by decide) (by decide)⟩
  · show Steps p.tables e below (s₁.setTop (mkF m 11 #[.val (.long vt), .second] [(.int (lcmpW vt (1000000 : Int64)))])) _
    refine XS.ifYes X0.here hx rfl (pc0 := 11) (pc' := 24) rfl (hb hby d3_11) rfl ((if0 _ _).trans (flt (mt (lw_gt _ _).mp hd4)).2.2.2) (by decide) (by decide) ?_
    show Steps p.tables e below (s₁.setTop (mkF m 24 #[.val (.long vt), .second] [])) _
    refine XS.lloadN X0.here hx rfl (hb hby d3_24) rfl ?_
    show Steps p.tables e below (s₁.setTop (mkF m 25 #[.val (.long vt), .second] [(.long vt)])) _
    jvm_step X0.here [X0.here.top, hx, (hb hby d3_25), X0.method', Bd.returns, narrow]
    first | (intro acts; rw [hr _ acts rfl rfl rfl]) | rw [hr _ _ rfl rfl rfl]
    exact Steps.refl _
  · show Q_rq Z vt h0 n0 _ s₁.heap _
    rw [e0]
    exact ⟨rfl, N0, rfl⟩
theorem d1_0 : decode prog_12_method_1_code 0 = .ok (.aload_n 0, 1) := by decide +kernel
theorem d1_1 : decode prog_12_method_1_code 1 = .ok (.invokespecial 1, 3) := by decide +kernel
theorem d1_4 : decode prog_12_method_1_code 4 = .ok (.lload_n 1, 1) := by decide +kernel
theorem d1_5 : decode prog_12_method_1_code 5 = .ok (.invokestatic 7, 3) := by decide +kernel
theorem d1_8 : decode prog_12_method_1_code 8 = .ok (.pop2, 1) := by decide +kernel
theorem d1_9 : decode prog_12_method_1_code 9 = .ok (.lload_n 3, 1) := by decide +kernel
theorem d1_10 : decode prog_12_method_1_code 10 = .ok (.lconst 0, 1) := by decide +kernel
theorem d1_11 : decode prog_12_method_1_code 11 = .ok (.lcmp, 1) := by decide +kernel
theorem d1_12 : decode prog_12_method_1_code 12 = .ok (.ifCond .lt 19, 3) := by decide +kernel
theorem d1_15 : decode prog_12_method_1_code 15 = .ok (.lload 5, 2) := by decide +kernel
theorem d1_17 : decode prog_12_method_1_code 17 = .ok (.lconst 0, 1) := by decide +kernel
theorem d1_18 : decode prog_12_method_1_code 18 = .ok (.lcmp, 1) := by decide +kernel
theorem d1_19 : decode prog_12_method_1_code 19 = .ok (.ifCond .lt 12, 3) := by decide +kernel
theorem d1_22 : decode prog_12_method_1_code 22 = .ok (.lload_n 3, 1) := by decide +kernel
theorem d1_23 : decode prog_12_method_1_code 23 = .ok (.lload 5, 2) := by decide +kernel
theorem d1_25 : decode prog_12_method_1_code 25 = .ok (.ladd, 1) := by decide +kernel
theorem d1_26 : decode prog_12_method_1_code 26 = .ok (.lload_n 1, 1) := by decide +kernel
theorem d1_27 : decode prog_12_method_1_code 27 = .ok (.lcmp, 1) := by decide +kernel
theorem d1_28 : decode prog_12_method_1_code 28 = .ok (.ifCond .le 13, 3) := by decide +kernel
theorem d1_31 : decode prog_12_method_1_code 31 = .ok (.new 13, 3) := by decide +kernel
theorem d1_34 : decode prog_12_method_1_code 34 = .ok (.dup, 1) := by decide +kernel
theorem d1_35 : decode prog_12_method_1_code 35 = .ok (.ldc 15, 2) := by decide +kernel
theorem d1_37 : decode prog_12_method_1_code 37 = .ok (.invokespecial 17, 3) := by decide +kernel
theorem d1_40 : decode prog_12_method_1_code 40 = .ok (.athrow, 1) := by decide +kernel
theorem d1_41 : decode prog_12_method_1_code 41 = .ok (.aload_n 0, 1) := by decide +kernel
theorem d1_42 : decode prog_12_method_1_code 42 = .ok (.lload_n 1, 1) := by decide +kernel
theorem d1_43 : decode prog_12_method_1_code 43 = .ok (.putfield 20, 3) := by decide +kernel
theorem d1_46 : decode prog_12_method_1_code 46 = .ok (.aload_n 0, 1) := by decide +kernel
theorem d1_47 : decode prog_12_method_1_code 47 = .ok (.lload_n 3, 1) := by decide +kernel
theorem d1_48 : decode prog_12_method_1_code 48 = .ok (.putfield 24, 3) := by decide +kernel
theorem d1_51 : decode prog_12_method_1_code 51 = .ok (.aload_n 0, 1) := by decide +kernel
theorem d1_52 : decode prog_12_method_1_code 52 = .ok (.lload 5, 2) := by decide +kernel
theorem d1_54 : decode prog_12_method_1_code 54 = .ok (.putfield 27, 3) := by decide +kernel
theorem d1_57 : decode prog_12_method_1_code 57 = .ok (.return_, 1) := by decide +kernel
theorem pn_rm_in : plainName "com/example/turnstyle/turnstyle/domain/Stock" = true := by first | (simp [plainName, overriddenIn]; done) | decide +kernel
theorem ef_rm_in (m : MethodId) (va : Addr) (vt : Int64) (vu : Int64) (vs : Int64) : entryFrame m #[(.ref va), (.long vt), (.long vu), (.long vs)] 7 = mkF m 0 #[.val (.ref va), .val (.long vt), .second, .val (.long vu), .second, .val (.long vs), .second] [] := by first | (simp [entryFrame, mkF, argsToLocals, Value.category]; done) | rfl
def Q_in (Z : State) (va : Addr) (vt : Int64) (vu : Int64) (vs : Int64) (h0 : Heap) (n0 : Nat) (v : Option Value) (h : Heap) (L : List Loc) : Prop := v = none ∧ Fr n0 L ∧ Keep h0 h [va] ∧ Exa Z h va "com/example/turnstyle/turnstyle/domain/Stock" ∧ Fld Z h va "com/example/turnstyle/turnstyle/domain/Stock" "total" "J" (.long vt) ∧ Fld Z h va "com/example/turnstyle/turnstyle/domain/Stock" "held" "J" (.long vu) ∧ Fld Z h va "com/example/turnstyle/turnstyle/domain/Stock" "sold" "J" (.long vs)
set_option maxRecDepth 65536 in
set_option maxHeartbeats 40000000 in
theorem rm_in (l : Launch) (Z : State) (a0 : Array Value) (hw : ∀ d ∈ tables_1, d.before a0 Z = true) (ws : List Jvm.Cond) (va : Addr) (vt : Int64) (vu : Int64) (vs : Int64) (h0 : Heap) (n0 : Nat) (Z0 : n0 ≤ h0.size) (E_va : Exa Z h0 va "com/example/turnstyle/turnstyle/domain/Stock") (g_va : n0 ≤ va) (F_total : Fld Z h0 va "com/example/turnstyle/turnstyle/domain/Stock" "total" "J" (.long (0 : Int64))) (F_held : Fld Z h0 va "com/example/turnstyle/turnstyle/domain/Stock" "held" "J" (.long (0 : Int64))) (F_sold : Fld Z h0 va "com/example/turnstyle/turnstyle/domain/Stock" "sold" "J" (.long (0 : Int64))) (hp : own_ok vt vu vs) :
    MetFree l (⟨"com/example/turnstyle/turnstyle/domain/Stock", "<init>", "(JJJ)V"⟩ : MethodName) (head1 (Jvm.Cond.code (⟨"com/example/turnstyle/turnstyle/domain/Stock", "<init>", "(JJJ)V"⟩ : MethodName) prog_12_method_1_code 7 none :: ws) ({ frames := 1, cells := 0, slots := 0, locals := 13 } : Room)) (fun a U => a = #[(.ref va), (.long vt), (.long vu), (.long vs)] ∧ Z.Warmed39 U.vm ∧ U.heap = h0) (fun _ _ _ _ _ => True) (fun _ U o U' => ∃ v L, o = .returned v ∧ Q_in Z va vt vu vs h0 n0 v U'.heap L ∧ FrameEnd U o U' L ({ frames := 1, cells := 0, slots := 0, locals := 13 } : Room).cells ({ frames := 1, cells := 0, slots := 0, locals := 13 } : Room).slots) := by
  refine MetFree.of_bodySF (plainFor_of_name pn_rm_in) hisR ?_
  intro p e s m args below meth c s₁ Bd hml0 hP hK
  obtain ⟨rfl, hZ, hh⟩ := hP
  have hx := Bd.exec
  have hby := Bd.bytes
  have hml : c.maxLocals = 7 := hml0
  have hown : s.vm.findClass "com/example/turnstyle/turnstyle/domain/Stock" = some m.cls := findClass_of_methodNamed Bd.named
  have hnm := (name_of_methodNamed Bd.named Bd.method).1
  have X0 : Stand p l e ({ frames := 1, cells := 0, slots := 0, locals := 13 } : Room) s m #[(.ref va), (.long vt), (.long vu), (.long vs)] below meth c s₁ [] 0 0 := Stand.of_body Bd
  have e0 : s₁.heap = h0 := by rw [← hh, Bd.state]; rfl
  have N0 := Fr.nil n0
  have pre0 : ∀ t, Steps p.tables e below (s₁.setTop (mkF m 0 #[.val (.ref va), .val (.long vt), .second, .val (.long vu), .second, .val (.long vs), .second] [])) t → Steps p.tables e below (s₁.setTop (entryFrame m #[(.ref va), (.long vt), (.long vu), (.long vs)] 7)) t := fun t k => castTop (ef_rm_in m va vt vu vs) k
  obtain ⟨T1, X1, e1, st1⟩ := initO X0 hx hZ hown (hw _ (List.mem_of_getElem? (i := 8) rfl)) (hw _ (List.mem_of_getElem? (i := 9) rfl)) (hw _ (List.mem_of_getElem? (i := 10) rfl)) e0 (g := (mkF m 1 #[.val (.ref va), .val (.long vt), .second, .val (.long vu), .second, .val (.long vs), .second] [(.ref va)])) rfl (by rw [hml]; rfl) rfl (hb hby d1_1) (by decide) (W := 0) (by show 2 * 0 + _ ≤ _; exact Nat.le_of_eq rfl) (by decide)
  obtain ⟨_, _, ⟨T2, L2, k2, n2⟩, -, X2, ⟨Lc2, hQ2, l2, y2, z2⟩, st2⟩ := Jvm.LawKit.callS X1 hx (y := (⟨"com/example/turnstyle/turnstyle/domain/Stock", "requireTotal", "(J)J"⟩ : MethodName)) hown (mvT hZ (hw _ (List.mem_of_getElem? (i := 11) rfl))) (mvT hZ (hw _ (List.mem_of_getElem? (i := 12) rfl))) (mvT hZ (hw _ (List.mem_of_getElem? (i := 4) rfl))) (mvT hZ (hw _ (List.mem_of_getElem? (i := 13) rfl))) (by decide) (backOf (W := 0) (rm_rq l Z a0 hw [] vt h0 n0 Z0 ⟨hp.1, hp.2.1⟩) hZ (hw _ (List.mem_of_getElem? (i := 13) rfl)) (hw _ (List.mem_of_getElem? (i := 4) rfl)) (by decide) (by decide)) (g := (mkF m 5 #[.val (.ref va), .val (.long vt), .second, .val (.long vu), .second, .val (.long vs), .second] [(.long vt)])) rfl (by rw [hml]; rfl) (argsL := [(.long vt)]) (rest := []) (lenOf own_pd0 rfl) rfl (by show 2 * 0 + _ ≤ _; exact Nat.le_of_eq rfl) (hb hby d1_5) (fun _ _ => ⟨rfl, e1, (by decide : 0 + 0 ≤ _), (by decide : 0 + 0 ≤ _)⟩)
  dsimp only [Pt.U, Pt.locs, Pt.cells, Pt.slots] at X2 l2 y2 z2 st2 hQ2
  subst l2 y2 z2
  obtain ⟨rfl, Nq2, hh2⟩ := hQ2
  have Nf2 := Fr.app N0 Nq2
  have pre3 : ∀ t, Steps p.tables e below (T2.setTop (mkF m 12 #[.val (.ref va), .val (.long vt), .second, .val (.long vu), .second, .val (.long vs), .second] [(.int (lcmpW vu (0 : Int64)))])) t → Steps p.tables e below (s₁.setTop (entryFrame m #[(.ref va), (.long vt), (.long vu), (.long vs)] 7)) t := by
    intro t k
    refine pre0 t ?_
    show Steps p.tables e below (s₁.setTop (mkF m 0 #[.val (.ref va), .val (.long vt), .second, .val (.long vu), .second, .val (.long vs), .second] [])) _
    refine XS.aloadN X0.here hx rfl (hb hby d1_0) rfl rfl ?_
    show Steps p.tables e below (s₁.setTop (mkF m 1 #[.val (.ref va), .val (.long vt), .second, .val (.long vu), .second, .val (.long vs), .second] [(.ref va)])) _
    refine st1 _ ?_
    show Steps p.tables e below (T1.setTop (mkF m 4 #[.val (.ref va), .val (.long vt), .second, .val (.long vu), .second, .val (.long vs), .second] [])) _
    refine XS.lloadN X1.here hx rfl (hb hby d1_4) rfl ?_
    show Steps p.tables e below (T1.setTop (mkF m 5 #[.val (.ref va), .val (.long vt), .second, .val (.long vu), .second, .val (.long vs), .second] [(.long vt)])) _
    refine st2 _ ?_
    show Steps p.tables e below (T2.setTop (mkF m 8 #[.val (.ref va), .val (.long vt), .second, .val (.long vu), .second, .val (.long vs), .second] [(.long vt)])) _
    jvm_step X2.here [X2.here.top, hx, (hb hby d1_8), Value.category]
    show Steps p.tables e below (T2.setTop (mkF m 9 #[.val (.ref va), .val (.long vt), .second, .val (.long vu), .second, .val (.long vs), .second] [])) _
    refine XS.lloadN X2.here hx rfl (hb hby d1_9) rfl ?_
    show Steps p.tables e below (T2.setTop (mkF m 10 #[.val (.ref va), .val (.long vt), .second, .val (.long vu), .second, .val (.long vs), .second] [(.long vu)])) _
    refine XS.lconst X2.here hx rfl (hb hby d1_10) ?_
    show Steps p.tables e below (T2.setTop (mkF m 11 #[.val (.ref va), .val (.long vt), .second, .val (.long vu), .second, .val (.long vs), .second] [(.long (0 : Int64)), (.long vu)])) _
    refine XS.lcmp X2.here hx rfl (hb hby d1_11) rfl ?_
    show Steps p.tables e below (T2.setTop (mkF m 12 #[.val (.ref va), .val (.long vt), .second, .val (.long vu), .second, .val (.long vs), .second] [(.int (lcmpW vu (0 : Int64)))])) _
    exact k
  have hd4 : ¬ (vu < (0 : Int64)) := own_jlt (by rw [own_zero]; have := hp.2.2.1; omega)
  have pre5 : ∀ t, Steps p.tables e below (T2.setTop (mkF m 19 #[.val (.ref va), .val (.long vt), .second, .val (.long vu), .second, .val (.long vs), .second] [(.int (lcmpW vs (0 : Int64)))])) t → Steps p.tables e below (s₁.setTop (entryFrame m #[(.ref va), (.long vt), (.long vu), (.long vs)] 7)) t := by
    intro t k
    refine pre3 t ?_
    show Steps p.tables e below (T2.setTop (mkF m 12 #[.val (.ref va), .val (.long vt), .second, .val (.long vu), .second, .val (.long vs), .second] [(.int (lcmpW vu (0 : Int64)))])) _
    refine XS.ifNo X2.here hx rfl (hb hby d1_12) rfl ((if0 _ _).trans (flt (mt (lw_lt _ _).mp hd4)).1) ?_
    show Steps p.tables e below (T2.setTop (mkF m 15 #[.val (.ref va), .val (.long vt), .second, .val (.long vu), .second, .val (.long vs), .second] [])) _
    refine XS.lload X2.here hx rfl (hb hby d1_15) rfl ?_
    show Steps p.tables e below (T2.setTop (mkF m 17 #[.val (.ref va), .val (.long vt), .second, .val (.long vu), .second, .val (.long vs), .second] [(.long vs)])) _
    refine XS.lconst X2.here hx rfl (hb hby d1_17) ?_
    show Steps p.tables e below (T2.setTop (mkF m 18 #[.val (.ref va), .val (.long vt), .second, .val (.long vu), .second, .val (.long vs), .second] [(.long (0 : Int64)), (.long vs)])) _
    refine XS.lcmp X2.here hx rfl (hb hby d1_18) rfl ?_
    show Steps p.tables e below (T2.setTop (mkF m 19 #[.val (.ref va), .val (.long vt), .second, .val (.long vu), .second, .val (.long vs), .second] [(.int (lcmpW vs (0 : Int64)))])) _
    exact k
  have hd6 : ¬ (vs < (0 : Int64)) := own_jlt (by rw [own_zero]; have := hp.2.2.2.1; omega)
  have pre7 : ∀ t, Steps p.tables e below (T2.setTop (mkF m 28 #[.val (.ref va), .val (.long vt), .second, .val (.long vu), .second, .val (.long vs), .second] [(.int (lcmpW (vu + vs) vt))])) t → Steps p.tables e below (s₁.setTop (entryFrame m #[(.ref va), (.long vt), (.long vu), (.long vs)] 7)) t := by
    intro t k
    refine pre5 t ?_
    show Steps p.tables e below (T2.setTop (mkF m 19 #[.val (.ref va), .val (.long vt), .second, .val (.long vu), .second, .val (.long vs), .second] [(.int (lcmpW vs (0 : Int64)))])) _
    refine XS.ifNo X2.here hx rfl (hb hby d1_19) rfl ((if0 _ _).trans (flt (mt (lw_lt _ _).mp hd6)).1) ?_
    show Steps p.tables e below (T2.setTop (mkF m 22 #[.val (.ref va), .val (.long vt), .second, .val (.long vu), .second, .val (.long vs), .second] [])) _
    refine XS.lloadN X2.here hx rfl (hb hby d1_22) rfl ?_
    show Steps p.tables e below (T2.setTop (mkF m 23 #[.val (.ref va), .val (.long vt), .second, .val (.long vu), .second, .val (.long vs), .second] [(.long vu)])) _
    refine XS.lload X2.here hx rfl (hb hby d1_23) rfl ?_
    show Steps p.tables e below (T2.setTop (mkF m 25 #[.val (.ref va), .val (.long vt), .second, .val (.long vu), .second, .val (.long vs), .second] [(.long vs), (.long vu)])) _
    refine XS.ladd X2.here hx rfl (hb hby d1_25) rfl ?_
    show Steps p.tables e below (T2.setTop (mkF m 26 #[.val (.ref va), .val (.long vt), .second, .val (.long vu), .second, .val (.long vs), .second] [(.long (vu + vs))])) _
    refine XS.lloadN X2.here hx rfl (hb hby d1_26) rfl ?_
    show Steps p.tables e below (T2.setTop (mkF m 27 #[.val (.ref va), .val (.long vt), .second, .val (.long vu), .second, .val (.long vs), .second] [(.long vt), (.long (vu + vs))])) _
    refine XS.lcmp X2.here hx rfl (hb hby d1_27) rfl ?_
    show Steps p.tables e below (T2.setTop (mkF m 28 #[.val (.ref va), .val (.long vt), .second, .val (.long vu), .second, .val (.long vs), .second] [(.int (lcmpW (vu + vs) vt))])) _
    exact k
  have hd8 : ¬ (vt < (vu + vs)) := own_jlt (by rw [own_ok_add hp]; have := hp.2.2.2.2; omega)
  obtain ⟨T9, h9, X9, e9, W9, st9⟩ := putF X2 hx hZ hown (host := "") (Or.inl (hw _ (List.mem_of_getElem? (i := 15) rfl))) Via.refl hh2 F_total E_va (Or.inr ⟨(hw _ (List.mem_of_getElem? (i := 16) rfl)), rfl, hnm⟩) (hw _ (List.mem_of_getElem? (i := 3) rfl)) (ty := .long) (by decide) rfl rfl (g := (mkF m 43 #[.val (.ref va), .val (.long vt), .second, .val (.long vu), .second, .val (.long vs), .second] [(.long vt), (.ref va)])) rfl rfl (hb hby d1_43)
  have N9 := Fr.snoc X9 Nf2 g_va
  have Fw9 := Fld.same W9 F_total
  have Zp10 : n0 ≤ h9.size := Nat.le_trans Z0 (Nat.le_of_eq (Wr.size W9).symm)
  have Fc11 := (Fld.other W9 F_held (Or.inr (slot_ne (Or.inr (hw _ (List.mem_of_getElem? (i := 18) rfl))) (Or.inr (hw _ (List.mem_of_getElem? (i := 16) rfl))) (by decide) (t := .long) (t' := .long) (by decide) (by decide))))
  have Fc12 := (Exa.wr W9 E_va)
  obtain ⟨T13, h13, X13, e13, W13, st13⟩ := putF X9 hx hZ hown (host := "") (Or.inl (hw _ (List.mem_of_getElem? (i := 17) rfl))) Via.refl e9 Fc11 Fc12 (Or.inr ⟨(hw _ (List.mem_of_getElem? (i := 18) rfl)), rfl, hnm⟩) (hw _ (List.mem_of_getElem? (i := 3) rfl)) (ty := .long) (by decide) rfl rfl (g := (mkF m 48 #[.val (.ref va), .val (.long vt), .second, .val (.long vu), .second, .val (.long vs), .second] [(.long vu), (.ref va)])) rfl rfl (hb hby d1_48)
  have N13 := Fr.snoc X13 N9 g_va
  have Fw13 := Fld.same W13 Fc11
  have Zp14 : n0 ≤ h13.size := Nat.le_trans Zp10 (Nat.le_of_eq (Wr.size W13).symm)
  have Fc15 := (Fld.other W13 (Fld.other W9 F_sold (Or.inr (slot_ne (Or.inr (hw _ (List.mem_of_getElem? (i := 20) rfl))) (Or.inr (hw _ (List.mem_of_getElem? (i := 16) rfl))) (by decide) (t := .long) (t' := .long) (by decide) (by decide)))) (Or.inr (slot_ne (Or.inr (hw _ (List.mem_of_getElem? (i := 20) rfl))) (Or.inr (hw _ (List.mem_of_getElem? (i := 18) rfl))) (by decide) (t := .long) (t' := .long) (by decide) (by decide))))
  have Fc16 := (Exa.wr W13 Fc12)
  obtain ⟨T17, h17, X17, e17, W17, st17⟩ := putF X13 hx hZ hown (host := "") (Or.inl (hw _ (List.mem_of_getElem? (i := 19) rfl))) Via.refl e13 Fc15 Fc16 (Or.inr ⟨(hw _ (List.mem_of_getElem? (i := 20) rfl)), rfl, hnm⟩) (hw _ (List.mem_of_getElem? (i := 3) rfl)) (ty := .long) (by decide) rfl rfl (g := (mkF m 54 #[.val (.ref va), .val (.long vt), .second, .val (.long vu), .second, .val (.long vs), .second] [(.long vs), (.ref va)])) rfl rfl (hb hby d1_54)
  have N17 := Fr.snoc X17 N13 g_va
  have Fw17 := Fld.same W17 Fc15
  have Zp18 : n0 ≤ h17.size := Nat.le_trans Zp14 (Nat.le_of_eq (Wr.size W17).symm)
  obtain ⟨fs, hr, hrun, hended, hW, hsame⟩ := X17.leave (v := none) (fun _ => rfl)
  refine ⟨_, _, pre7 _ ?_, hrun, hended, _, _, rfl, ?_, ⟨_, rfl⟩, hW, hsame.mono (by decide) (by decide)⟩
  · show Steps p.tables e below (T2.setTop (mkF m 28 #[.val (.ref va), .val (.long vt), .second, .val (.long vu), .second, .val (.long vs), .second] [(.int (lcmpW (vu + vs) vt))])) _
    refine XS.ifYes X2.here hx rfl (pc0 := 28) (pc' := 41) rfl (hb hby d1_28) rfl ((if0 _ _).trans (flt (mt (lw_gt _ _).mp hd8)).2.2.2) (by decide) (by decide) ?_
    show Steps p.tables e below (T2.setTop (mkF m 41 #[.val (.ref va), .val (.long vt), .second, .val (.long vu), .second, .val (.long vs), .second] [])) _
    refine XS.aloadN X2.here hx rfl (hb hby d1_41) rfl rfl ?_
    show Steps p.tables e below (T2.setTop (mkF m 42 #[.val (.ref va), .val (.long vt), .second, .val (.long vu), .second, .val (.long vs), .second] [(.ref va)])) _
    refine XS.lloadN X2.here hx rfl (hb hby d1_42) rfl ?_
    show Steps p.tables e below (T2.setTop (mkF m 43 #[.val (.ref va), .val (.long vt), .second, .val (.long vu), .second, .val (.long vs), .second] [(.long vt), (.ref va)])) _
    refine st9 _ ?_
    show Steps p.tables e below (T9.setTop (mkF m 46 #[.val (.ref va), .val (.long vt), .second, .val (.long vu), .second, .val (.long vs), .second] [])) _
    refine XS.aloadN X9.here hx rfl (hb hby d1_46) rfl rfl ?_
    show Steps p.tables e below (T9.setTop (mkF m 47 #[.val (.ref va), .val (.long vt), .second, .val (.long vu), .second, .val (.long vs), .second] [(.ref va)])) _
    refine XS.lloadN X9.here hx rfl (hb hby d1_47) rfl ?_
    show Steps p.tables e below (T9.setTop (mkF m 48 #[.val (.ref va), .val (.long vt), .second, .val (.long vu), .second, .val (.long vs), .second] [(.long vu), (.ref va)])) _
    refine st13 _ ?_
    show Steps p.tables e below (T13.setTop (mkF m 51 #[.val (.ref va), .val (.long vt), .second, .val (.long vu), .second, .val (.long vs), .second] [])) _
    refine XS.aloadN X13.here hx rfl (hb hby d1_51) rfl rfl ?_
    show Steps p.tables e below (T13.setTop (mkF m 52 #[.val (.ref va), .val (.long vt), .second, .val (.long vu), .second, .val (.long vs), .second] [(.ref va)])) _
    refine XS.lload X13.here hx rfl (hb hby d1_52) rfl ?_
    show Steps p.tables e below (T13.setTop (mkF m 54 #[.val (.ref va), .val (.long vt), .second, .val (.long vu), .second, .val (.long vs), .second] [(.long vs), (.ref va)])) _
    refine st17 _ ?_
    show Steps p.tables e below (T17.setTop (mkF m 57 #[.val (.ref va), .val (.long vt), .second, .val (.long vu), .second, .val (.long vs), .second] [])) _
    exact X17.returnOut hx Bd.returns (hb hby d1_57) hr
  · show Q_in Z va vt vu vs h0 n0 _ T17.heap _
    rw [e17]
    have Kc19 := (Keep.refl h0 [va]).wr W9 (Or.inl (List.mem_of_getElem? (i := 0) rfl))
    have Kc20 := Kc19.wr W13 (Or.inl (List.mem_of_getElem? (i := 0) rfl))
    have Kc21 := Kc20.wr W17 (Or.inl (List.mem_of_getElem? (i := 0) rfl))
    have Fc22 := (Exa.wr W17 Fc16)
    have Fc23 := (Fld.other W17 (Fld.other W13 Fw9 (Or.inr (slot_ne (Or.inr (hw _ (List.mem_of_getElem? (i := 16) rfl))) (Or.inr (hw _ (List.mem_of_getElem? (i := 18) rfl))) (by decide) (t := .long) (t' := .long) (by decide) (by decide)))) (Or.inr (slot_ne (Or.inr (hw _ (List.mem_of_getElem? (i := 16) rfl))) (Or.inr (hw _ (List.mem_of_getElem? (i := 20) rfl))) (by decide) (t := .long) (t' := .long) (by decide) (by decide))))
    have Fc24 := (Fld.other W17 Fw13 (Or.inr (slot_ne (Or.inr (hw _ (List.mem_of_getElem? (i := 18) rfl))) (Or.inr (hw _ (List.mem_of_getElem? (i := 20) rfl))) (by decide) (t := .long) (t' := .long) (by decide) (by decide))))
    exact ⟨rfl, N17, Kc21, Fc22, Fc23, Fc24, Fw17⟩
theorem d4_0 : decode prog_12_method_4_code 0 = .ok (.aload_n 0, 1) := by decide +kernel
theorem d4_1 : decode prog_12_method_4_code 1 = .ok (.getfield 27, 3) := by decide +kernel
theorem d4_4 : decode prog_12_method_4_code 4 = .ok (.aload_n 0, 1) := by decide +kernel
theorem d4_5 : decode prog_12_method_4_code 5 = .ok (.getfield 20, 3) := by decide +kernel
theorem d4_8 : decode prog_12_method_4_code 8 = .ok (.lcmp, 1) := by decide +kernel
theorem d4_9 : decode prog_12_method_4_code 9 = .ok (.ifCond .ne 7, 3) := by decide +kernel
theorem d4_12 : decode prog_12_method_4_code 12 = .ok (.iconst 1, 1) := by decide +kernel
theorem d4_13 : decode prog_12_method_4_code 13 = .ok (.goto 4, 3) := by decide +kernel
theorem d4_16 : decode prog_12_method_4_code 16 = .ok (.iconst 0, 1) := by decide +kernel
theorem d4_17 : decode prog_12_method_4_code 17 = .ok (.ireturn, 1) := by decide +kernel
theorem pn_rm_so : plainName "com/example/turnstyle/turnstyle/domain/Stock" = true := by first | (simp [plainName, overriddenIn]; done) | decide +kernel
theorem ef_rm_so (m : MethodId) (va : Addr) : entryFrame m #[(.ref va)] 1 = mkF m 0 #[.val (.ref va)] [] := by first | (simp [entryFrame, mkF, argsToLocals, Value.category]; done) | rfl
def Q_so (Z : State) (va : Addr) (vt : Int64) (vu : Int64) (vs : Int64) (h0 : Heap) (n0 : Nat) (v : Option Value) (h : Heap) (L : List Loc) : Prop := v = some (.int (if vs = vt then 1 else 0)) ∧ Fr n0 L ∧ h = h0
set_option maxRecDepth 65536 in
set_option maxHeartbeats 40000000 in
theorem rm_so (l : Launch) (Z : State) (a0 : Array Value) (hw : ∀ d ∈ tables_1, d.before a0 Z = true) (ws : List Jvm.Cond) (va : Addr) (vt : Int64) (vu : Int64) (vs : Int64) (h0 : Heap) (n0 : Nat) (Z0 : n0 ≤ h0.size) (F_t : Fld Z h0 va "com/example/turnstyle/turnstyle/domain/Stock" "total" "J" (.long vt)) (F_u : Fld Z h0 va "com/example/turnstyle/turnstyle/domain/Stock" "held" "J" (.long vu)) (F_s : Fld Z h0 va "com/example/turnstyle/turnstyle/domain/Stock" "sold" "J" (.long vs)) :
    MetFree l (⟨"com/example/turnstyle/turnstyle/domain/Stock", "isSoldOut", "()Z"⟩ : MethodName) (head1 (Jvm.Cond.code (⟨"com/example/turnstyle/turnstyle/domain/Stock", "isSoldOut", "()Z"⟩ : MethodName) prog_12_method_4_code 1 (some .boolean) :: ws) ({ frames := 0, cells := 0, slots := 0, locals := 0 } : Room)) (fun a U => a = #[(.ref va)] ∧ Z.Warmed39 U.vm ∧ U.heap = h0) (fun _ _ _ _ _ => True) (fun _ U o U' => ∃ v L, o = .returned v ∧ Q_so Z va vt vu vs h0 n0 v U'.heap L ∧ FrameEnd U o U' L ({ frames := 0, cells := 0, slots := 0, locals := 0 } : Room).cells ({ frames := 0, cells := 0, slots := 0, locals := 0 } : Room).slots) := by
  refine MetFree.of_bodySF (plainFor_of_name pn_rm_so) hisR ?_
  intro p e s m args below meth c s₁ Bd hml0 hP hK
  obtain ⟨rfl, hZ, hh⟩ := hP
  have hx := Bd.exec
  have hby := Bd.bytes
  have hml : c.maxLocals = 1 := hml0
  have hown : s.vm.findClass "com/example/turnstyle/turnstyle/domain/Stock" = some m.cls := findClass_of_methodNamed Bd.named
  have hnm := (name_of_methodNamed Bd.named Bd.method).1
  have X0 : Stand p l e ({ frames := 0, cells := 0, slots := 0, locals := 0 } : Room) s m #[(.ref va)] below meth c s₁ [] 0 0 := Stand.of_body Bd
  have e0 : s₁.heap = h0 := by rw [← hh, Bd.state]; rfl
  have N0 := Fr.nil n0
  have pre0 : ∀ t, Steps p.tables e below (s₁.setTop (mkF m 0 #[.val (.ref va)] [])) t → Steps p.tables e below (s₁.setTop (entryFrame m #[(.ref va)] 1)) t := fun t k => castTop (ef_rm_so m va) k
  obtain ⟨T1, X1, e1, st1⟩ := getF X0 hx hZ hown (host := "") (Or.inl (hw _ (List.mem_of_getElem? (i := 19) rfl))) Via.refl e0 F_s (g := (mkF m 1 #[.val (.ref va)] [(.ref va)])) rfl rfl (hb hby d4_1)
  obtain ⟨T2, X2, e2, st2⟩ := getF X1 hx hZ hown (host := "") (Or.inl (hw _ (List.mem_of_getElem? (i := 15) rfl))) Via.refl e1 F_t (g := (mkF m 5 #[.val (.ref va)] [(.ref va), (.long vs)])) rfl rfl (hb hby d4_5)
  have pre3 : ∀ t, Steps p.tables e below (T2.setTop (mkF m 9 #[.val (.ref va)] [(.int (lcmpW vs vt))])) t → Steps p.tables e below (s₁.setTop (entryFrame m #[(.ref va)] 1)) t := by
    intro t k
    refine pre0 t ?_
    show Steps p.tables e below (s₁.setTop (mkF m 0 #[.val (.ref va)] [])) _
    refine XS.aloadN X0.here hx rfl (hb hby d4_0) rfl rfl ?_
    show Steps p.tables e below (s₁.setTop (mkF m 1 #[.val (.ref va)] [(.ref va)])) _
    refine st1 _ ?_
    show Steps p.tables e below (T1.setTop (mkF m 4 #[.val (.ref va)] [(.long vs)])) _
    refine XS.aloadN X1.here hx rfl (hb hby d4_4) rfl rfl ?_
    show Steps p.tables e below (T1.setTop (mkF m 5 #[.val (.ref va)] [(.ref va), (.long vs)])) _
    refine st2 _ ?_
    show Steps p.tables e below (T2.setTop (mkF m 8 #[.val (.ref va)] [(.long vt), (.long vs)])) _
    refine XS.lcmp X2.here hx rfl (hb hby d4_8) rfl ?_
    show Steps p.tables e below (T2.setTop (mkF m 9 #[.val (.ref va)] [(.int (lcmpW vs vt))])) _
    exact k
  by_cases hc4 : vs = vt
  · obtain ⟨fs, hr, hrun, hended, hW, hsame⟩ := X2.leave (v := some (.int (1 : Int32))) (fun h => by rw [Bd.returns] at h; cases h)
    refine ⟨_, _, pre3 _ ?_, hrun, hended, _, _, rfl, ?_, ⟨_, rfl⟩, hW, hsame.mono (by decide) (by decide)⟩
    · show Steps p.tables e below (T2.setTop (mkF m 9 #[.val (.ref va)] [(.int (lcmpW vs vt))])) _
      refine XS.ifNo X2.here hx rfl (hb hby d4_9) rfl ((if0 _ _).trans (teq ((lw_eq _ _).mpr hc4)).2) ?_
      show Steps p.tables e below (T2.setTop (mkF m 12 #[.val (.ref va)] [])) _
      refine XS.iconst X2.here hx rfl (hb hby d4_12) ?_
      show Steps p.tables e below (T2.setTop (mkF m 13 #[.val (.ref va)] [(.int (1 : Int32))])) _
      refine XS.goto X2.here hx rfl (pc0 := 13) (pc' := 17) rfl (hb hby d4_13) (by decide) (by decide) ?_
      show Steps p.tables e below (T2.setTop (mkF m 17 #[.val (.ref va)] [(.int (1 : Int32))])) _
      exact retN X2 hx (t := .boolean) Bd.returns (by simp) (hb hby d4_17) hr
    · show Q_so Z va vt vu vs h0 n0 _ T2.heap _
      rw [e2]
      exact ⟨by rw [if_pos hc4], N0, rfl⟩
  · obtain ⟨fs, hr, hrun, hended, hW, hsame⟩ := X2.leave (v := some (.int (0 : Int32))) (fun h => by rw [Bd.returns] at h; cases h)
    refine ⟨_, _, pre3 _ ?_, hrun, hended, _, _, rfl, ?_, ⟨_, rfl⟩, hW, hsame.mono (by decide) (by decide)⟩
    · show Steps p.tables e below (T2.setTop (mkF m 9 #[.val (.ref va)] [(.int (lcmpW vs vt))])) _
      refine XS.ifYes X2.here hx rfl (pc0 := 9) (pc' := 16) rfl (hb hby d4_9) rfl ((if0 _ _).trans (feq (mt (lw_eq _ _).mp hc4)).2) (by decide) (by decide) ?_
      show Steps p.tables e below (T2.setTop (mkF m 16 #[.val (.ref va)] [])) _
      refine XS.iconst X2.here hx rfl (hb hby d4_16) ?_
      show Steps p.tables e below (T2.setTop (mkF m 17 #[.val (.ref va)] [(.int (0 : Int32))])) _
      exact retN X2 hx (t := .boolean) Bd.returns (by simp) (hb hby d4_17) hr
    · show Q_so Z va vt vu vs h0 n0 _ T2.heap _
      rw [e2]
      exact ⟨by rw [if_neg hc4], N0, rfl⟩
theorem d6_0 : decode prog_12_method_8_code 0 = .ok (.lload_n 1, 1) := by decide +kernel
theorem d6_1 : decode prog_12_method_8_code 1 = .ok (.lconst 0, 1) := by decide +kernel
theorem d6_2 : decode prog_12_method_8_code 2 = .ok (.lcmp, 1) := by decide +kernel
theorem d6_3 : decode prog_12_method_8_code 3 = .ok (.ifCond .lt 12, 3) := by decide +kernel
theorem d6_6 : decode prog_12_method_8_code 6 = .ok (.lload_n 1, 1) := by decide +kernel
theorem d6_7 : decode prog_12_method_8_code 7 = .ok (.aload_n 0, 1) := by decide +kernel
theorem d6_8 : decode prog_12_method_8_code 8 = .ok (.getfield 24, 3) := by decide +kernel
theorem d6_11 : decode prog_12_method_8_code 11 = .ok (.lcmp, 1) := by decide +kernel
theorem d6_12 : decode prog_12_method_8_code 12 = .ok (.ifCond .le 13, 3) := by decide +kernel
theorem d6_15 : decode prog_12_method_8_code 15 = .ok (.new 13, 3) := by decide +kernel
theorem d6_18 : decode prog_12_method_8_code 18 = .ok (.dup, 1) := by decide +kernel
theorem d6_19 : decode prog_12_method_8_code 19 = .ok (.ldc 46, 2) := by decide +kernel
theorem d6_21 : decode prog_12_method_8_code 21 = .ok (.invokespecial 17, 3) := by decide +kernel
theorem d6_24 : decode prog_12_method_8_code 24 = .ok (.athrow, 1) := by decide +kernel
theorem d6_25 : decode prog_12_method_8_code 25 = .ok (.lload_n 1, 1) := by decide +kernel
theorem d6_26 : decode prog_12_method_8_code 26 = .ok (.lreturn, 1) := by decide +kernel
theorem pn_rm_rh : plainName "com/example/turnstyle/turnstyle/domain/Stock" = true := by first | (simp [plainName, overriddenIn]; done) | decide +kernel
theorem ef_rm_rh (m : MethodId) (va : Addr) (vn : Int64) : entryFrame m #[(.ref va), (.long vn)] 3 = mkF m 0 #[.val (.ref va), .val (.long vn), .second] [] := by first | (simp [entryFrame, mkF, argsToLocals, Value.category]; done) | rfl
def Q_rh (Z : State) (va : Addr) (vn : Int64) (vt : Int64) (vu : Int64) (vs : Int64) (h0 : Heap) (n0 : Nat) (v : Option Value) (h : Heap) (L : List Loc) : Prop := v = some (.long vn) ∧ Fr n0 L ∧ h = h0
set_option maxRecDepth 65536 in
set_option maxHeartbeats 40000000 in
theorem rm_rh (l : Launch) (Z : State) (a0 : Array Value) (hw : ∀ d ∈ tables_1, d.before a0 Z = true) (ws : List Jvm.Cond) (va : Addr) (vn : Int64) (vt : Int64) (vu : Int64) (vs : Int64) (h0 : Heap) (n0 : Nat) (Z0 : n0 ≤ h0.size) (F_t : Fld Z h0 va "com/example/turnstyle/turnstyle/domain/Stock" "total" "J" (.long vt)) (F_u : Fld Z h0 va "com/example/turnstyle/turnstyle/domain/Stock" "held" "J" (.long vu)) (F_s : Fld Z h0 va "com/example/turnstyle/turnstyle/domain/Stock" "sold" "J" (.long vs)) (hq : 0 ≤ vn.toInt ∧ vn.toInt ≤ vu.toInt) :
    MetFree l (⟨"com/example/turnstyle/turnstyle/domain/Stock", "requireHeld", "(J)J"⟩ : MethodName) (head1 (Jvm.Cond.code (⟨"com/example/turnstyle/turnstyle/domain/Stock", "requireHeld", "(J)J"⟩ : MethodName) prog_12_method_8_code 3 (some .long) :: ws) ({ frames := 0, cells := 0, slots := 0, locals := 0 } : Room)) (fun a U => a = #[(.ref va), (.long vn)] ∧ Z.Warmed39 U.vm ∧ U.heap = h0) (fun _ _ _ _ _ => True) (fun _ U o U' => ∃ v L, o = .returned v ∧ Q_rh Z va vn vt vu vs h0 n0 v U'.heap L ∧ FrameEnd U o U' L ({ frames := 0, cells := 0, slots := 0, locals := 0 } : Room).cells ({ frames := 0, cells := 0, slots := 0, locals := 0 } : Room).slots) := by
  refine MetFree.of_bodySF (plainFor_of_name pn_rm_rh) hisR ?_
  intro p e s m args below meth c s₁ Bd hml0 hP hK
  obtain ⟨rfl, hZ, hh⟩ := hP
  have hx := Bd.exec
  have hby := Bd.bytes
  have hml : c.maxLocals = 3 := hml0
  have hown : s.vm.findClass "com/example/turnstyle/turnstyle/domain/Stock" = some m.cls := findClass_of_methodNamed Bd.named
  have hnm := (name_of_methodNamed Bd.named Bd.method).1
  have X0 : Stand p l e ({ frames := 0, cells := 0, slots := 0, locals := 0 } : Room) s m #[(.ref va), (.long vn)] below meth c s₁ [] 0 0 := Stand.of_body Bd
  have e0 : s₁.heap = h0 := by rw [← hh, Bd.state]; rfl
  have N0 := Fr.nil n0
  have pre0 : ∀ t, Steps p.tables e below (s₁.setTop (mkF m 0 #[.val (.ref va), .val (.long vn), .second] [])) t → Steps p.tables e below (s₁.setTop (entryFrame m #[(.ref va), (.long vn)] 3)) t := fun t k => castTop (ef_rm_rh m va vn) k
  have pre1 : ∀ t, Steps p.tables e below (s₁.setTop (mkF m 3 #[.val (.ref va), .val (.long vn), .second] [(.int (lcmpW vn (0 : Int64)))])) t → Steps p.tables e below (s₁.setTop (entryFrame m #[(.ref va), (.long vn)] 3)) t := by
    intro t k
    refine pre0 t ?_
    show Steps p.tables e below (s₁.setTop (mkF m 0 #[.val (.ref va), .val (.long vn), .second] [])) _
    refine XS.lloadN X0.here hx rfl (hb hby d6_0) rfl ?_
    show Steps p.tables e below (s₁.setTop (mkF m 1 #[.val (.ref va), .val (.long vn), .second] [(.long vn)])) _
    refine XS.lconst X0.here hx rfl (hb hby d6_1) ?_
    show Steps p.tables e below (s₁.setTop (mkF m 2 #[.val (.ref va), .val (.long vn), .second] [(.long (0 : Int64)), (.long vn)])) _
    refine XS.lcmp X0.here hx rfl (hb hby d6_2) rfl ?_
    show Steps p.tables e below (s₁.setTop (mkF m 3 #[.val (.ref va), .val (.long vn), .second] [(.int (lcmpW vn (0 : Int64)))])) _
    exact k
  have hd2 : ¬ (vn < (0 : Int64)) := own_jlt (by rw [own_zero]; omega)
  obtain ⟨T3, X3, e3, st3⟩ := getF X0 hx hZ hown (host := "") (Or.inl (hw _ (List.mem_of_getElem? (i := 17) rfl))) Via.refl e0 F_u (g := (mkF m 8 #[.val (.ref va), .val (.long vn), .second] [(.ref va), (.long vn)])) rfl rfl (hb hby d6_8)
  have pre4 : ∀ t, Steps p.tables e below (T3.setTop (mkF m 12 #[.val (.ref va), .val (.long vn), .second] [(.int (lcmpW vn vu))])) t → Steps p.tables e below (s₁.setTop (entryFrame m #[(.ref va), (.long vn)] 3)) t := by
    intro t k
    refine pre1 t ?_
    show Steps p.tables e below (s₁.setTop (mkF m 3 #[.val (.ref va), .val (.long vn), .second] [(.int (lcmpW vn (0 : Int64)))])) _
    refine XS.ifNo X0.here hx rfl (hb hby d6_3) rfl ((if0 _ _).trans (flt (mt (lw_lt _ _).mp hd2)).1) ?_
    show Steps p.tables e below (s₁.setTop (mkF m 6 #[.val (.ref va), .val (.long vn), .second] [])) _
    refine XS.lloadN X0.here hx rfl (hb hby d6_6) rfl ?_
    show Steps p.tables e below (s₁.setTop (mkF m 7 #[.val (.ref va), .val (.long vn), .second] [(.long vn)])) _
    refine XS.aloadN X0.here hx rfl (hb hby d6_7) rfl rfl ?_
    show Steps p.tables e below (s₁.setTop (mkF m 8 #[.val (.ref va), .val (.long vn), .second] [(.ref va), (.long vn)])) _
    refine st3 _ ?_
    show Steps p.tables e below (T3.setTop (mkF m 11 #[.val (.ref va), .val (.long vn), .second] [(.long vu), (.long vn)])) _
    refine XS.lcmp X3.here hx rfl (hb hby d6_11) rfl ?_
    show Steps p.tables e below (T3.setTop (mkF m 12 #[.val (.ref va), .val (.long vn), .second] [(.int (lcmpW vn vu))])) _
    exact k
  have hd5 : ¬ (vu < vn) := own_jlt (by omega)
  obtain ⟨fs, hr, hrun, hended, hW, hsame⟩ := X3.leave (v := some (.long vn)) (fun h => by rw [Bd.returns] at h; cases h)
  refine ⟨_, _, pre4 _ ?_, hrun, hended, _, _, rfl, ?_, ⟨_, rfl⟩, hW, hsame.mono (by decide) (by decide)⟩
  · show Steps p.tables e below (T3.setTop (mkF m 12 #[.val (.ref va), .val (.long vn), .second] [(.int (lcmpW vn vu))])) _
    refine XS.ifYes X3.here hx rfl (pc0 := 12) (pc' := 25) rfl (hb hby d6_12) rfl ((if0 _ _).trans (flt (mt (lw_gt _ _).mp hd5)).2.2.2) (by decide) (by decide) ?_
    show Steps p.tables e below (T3.setTop (mkF m 25 #[.val (.ref va), .val (.long vn), .second] [])) _
    refine XS.lloadN X3.here hx rfl (hb hby d6_25) rfl ?_
    show Steps p.tables e below (T3.setTop (mkF m 26 #[.val (.ref va), .val (.long vn), .second] [(.long vn)])) _
    jvm_step X3.here [X3.here.top, hx, (hb hby d6_26), X3.method', Bd.returns, narrow]
    first | (intro acts; rw [hr _ acts rfl rfl rfl]) | rw [hr _ _ rfl rfl rfl]
    exact Steps.refl _
  · show Q_rh Z va vn vt vu vs h0 n0 _ T3.heap _
    rw [e3]
    exact ⟨rfl, N0, rfl⟩
theorem d5_0 : decode prog_12_method_7_code 0 = .ok (.new 8, 3) := by decide +kernel
theorem d5_3 : decode prog_12_method_7_code 3 = .ok (.dup, 1) := by decide +kernel
theorem d5_4 : decode prog_12_method_7_code 4 = .ok (.aload_n 0, 1) := by decide +kernel
theorem d5_5 : decode prog_12_method_7_code 5 = .ok (.getfield 20, 3) := by decide +kernel
theorem d5_8 : decode prog_12_method_7_code 8 = .ok (.aload_n 0, 1) := by decide +kernel
theorem d5_9 : decode prog_12_method_7_code 9 = .ok (.getfield 24, 3) := by decide +kernel
theorem d5_12 : decode prog_12_method_7_code 12 = .ok (.aload_n 0, 1) := by decide +kernel
theorem d5_13 : decode prog_12_method_7_code 13 = .ok (.lload_n 1, 1) := by decide +kernel
theorem d5_14 : decode prog_12_method_7_code 14 = .ok (.invokevirtual 43, 3) := by decide +kernel
theorem d5_17 : decode prog_12_method_7_code 17 = .ok (.lsub, 1) := by decide +kernel
theorem d5_18 : decode prog_12_method_7_code 18 = .ok (.aload_n 0, 1) := by decide +kernel
theorem d5_19 : decode prog_12_method_7_code 19 = .ok (.getfield 27, 3) := by decide +kernel
theorem d5_22 : decode prog_12_method_7_code 22 = .ok (.lload_n 1, 1) := by decide +kernel
theorem d5_23 : decode prog_12_method_7_code 23 = .ok (.ladd, 1) := by decide +kernel
theorem d5_24 : decode prog_12_method_7_code 24 = .ok (.invokespecial 40, 3) := by decide +kernel
theorem d5_27 : decode prog_12_method_7_code 27 = .ok (.areturn, 1) := by decide +kernel
theorem pn_rm_as : plainName "com/example/turnstyle/turnstyle/domain/Stock" = true := by first | (simp [plainName, overriddenIn]; done) | decide +kernel
theorem ef_rm_as (m : MethodId) (va : Addr) (vn : Int64) : entryFrame m #[(.ref va), (.long vn)] 3 = mkF m 0 #[.val (.ref va), .val (.long vn), .second] [] := by first | (simp [entryFrame, mkF, argsToLocals, Value.category]; done) | rfl
def Q_as (Z : State) (va : Addr) (vn : Int64) (vt : Int64) (vu : Int64) (vs : Int64) (h0 : Heap) (n0 : Nat) (v : Option Value) (h : Heap) (L : List Loc) : Prop := ∃ b : Addr, v = some (.ref b) ∧ Fr n0 L ∧ Keep h0 h [] ∧ n0 ≤ b ∧ h0.size ≤ b ∧ Exa Z h b "com/example/turnstyle/turnstyle/domain/Stock" ∧ Fld Z h b "com/example/turnstyle/turnstyle/domain/Stock" "total" "J" (.long vt) ∧ Fld Z h b "com/example/turnstyle/turnstyle/domain/Stock" "held" "J" (.long (vu - vn)) ∧ Fld Z h b "com/example/turnstyle/turnstyle/domain/Stock" "sold" "J" (.long (vs + vn))
set_option maxRecDepth 65536 in
set_option maxHeartbeats 40000000 in
theorem rm_as (l : Launch) (Z : State) (a0 : Array Value) (hw : ∀ d ∈ tables_1, d.before a0 Z = true) (ws : List Jvm.Cond) (va : Addr) (vn : Int64) (vt : Int64) (vu : Int64) (vs : Int64) (h0 : Heap) (n0 : Nat) (Z0 : n0 ≤ h0.size) (F_t : Fld Z h0 va "com/example/turnstyle/turnstyle/domain/Stock" "total" "J" (.long vt)) (F_u : Fld Z h0 va "com/example/turnstyle/turnstyle/domain/Stock" "held" "J" (.long vu)) (F_s : Fld Z h0 va "com/example/turnstyle/turnstyle/domain/Stock" "sold" "J" (.long vs)) (E_a : Exa Z h0 va "com/example/turnstyle/turnstyle/domain/Stock") (hp : own_ok vt vu vs) (hq : 0 ≤ vn.toInt ∧ vn.toInt ≤ vu.toInt) :
    MetFree l (⟨"com/example/turnstyle/turnstyle/domain/Stock", "afterSelling", "(J)Lcom/example/turnstyle/turnstyle/domain/Stock;"⟩ : MethodName) (head1 (Jvm.Cond.code (⟨"com/example/turnstyle/turnstyle/domain/Stock", "afterSelling", "(J)Lcom/example/turnstyle/turnstyle/domain/Stock;"⟩ : MethodName) prog_12_method_7_code 3 (some (.object "com/example/turnstyle/turnstyle/domain/Stock")) :: ws) ({ frames := 2, cells := 1, slots := 3, locals := 32 } : Room)) (fun a U => a = #[(.ref va), (.long vn)] ∧ Z.Warmed39 U.vm ∧ U.heap = h0) (fun _ _ _ _ _ => True) (fun _ U o U' => ∃ v L, o = .returned v ∧ Q_as Z va vn vt vu vs h0 n0 v U'.heap L ∧ FrameEnd U o U' L ({ frames := 2, cells := 1, slots := 3, locals := 32 } : Room).cells ({ frames := 2, cells := 1, slots := 3, locals := 32 } : Room).slots) := by
  refine MetFree.of_bodySF (plainFor_of_name pn_rm_as) hisR ?_
  intro p e s m args below meth c s₁ Bd hml0 hP hK
  obtain ⟨rfl, hZ, hh⟩ := hP
  have hx := Bd.exec
  have hby := Bd.bytes
  have hml : c.maxLocals = 3 := hml0
  have hown : s.vm.findClass "com/example/turnstyle/turnstyle/domain/Stock" = some m.cls := findClass_of_methodNamed Bd.named
  have hnm := (name_of_methodNamed Bd.named Bd.method).1
  have X0 : Stand p l e ({ frames := 2, cells := 1, slots := 3, locals := 32 } : Room) s m #[(.ref va), (.long vn)] below meth c s₁ [] 0 0 := Stand.of_body Bd
  have e0 : s₁.heap = h0 := by rw [← hh, Bd.state]; rfl
  have N0 := Fr.nil n0
  have pre0 : ∀ t, Steps p.tables e below (s₁.setTop (mkF m 0 #[.val (.ref va), .val (.long vn), .second] [])) t → Steps p.tables e below (s₁.setTop (entryFrame m #[(.ref va), (.long vn)] 3)) t := fun t k => castTop (ef_rm_as m va vn) k
  obtain ⟨T1, h1, X1, e1, E1, A1, D1, U1, st1⟩ := newO X0 hx hZ hown (hw _ (List.mem_of_getElem? (i := 31) rfl)) (hw _ (List.mem_of_getElem? (i := 3) rfl)) (hw _ (List.mem_of_getElem? (i := 4) rfl)) e0 (g := (mkF m 0 #[.val (.ref va), .val (.long vn), .second] [])) rfl (hb hby d5_0) (by decide) (by decide)
  obtain ⟨b1, g1⟩ : ∃ z, z = h0.size := ⟨_, rfl⟩
  rw [← g1] at A1 D1 U1 st1
  have g_b1 : n0 ≤ b1 := Nat.le_trans Z0 (Nat.le_of_eq g1.symm)
  have Zp2 : n0 ≤ h1.size := Nat.le_trans Z0 E1.1
  have Fn3 : Fld Z h1 b1 "com/example/turnstyle/turnstyle/domain/Stock" "total" "J" (.long (0 : Int64)) := D1 (Or.inr (hw _ (List.mem_of_getElem? (i := 16) rfl))) (ty := .long) (by decide)
  have Fn4 : Fld Z h1 b1 "com/example/turnstyle/turnstyle/domain/Stock" "held" "J" (.long (0 : Int64)) := D1 (Or.inr (hw _ (List.mem_of_getElem? (i := 18) rfl))) (ty := .long) (by decide)
  have Fn5 : Fld Z h1 b1 "com/example/turnstyle/turnstyle/domain/Stock" "sold" "J" (.long (0 : Int64)) := D1 (Or.inr (hw _ (List.mem_of_getElem? (i := 20) rfl))) (ty := .long) (by decide)
  have sz_b1 : h0.size ≤ b1 := Nat.le_of_eq g1.symm
  have Fc6 := (Fld.ext E1 F_t)
  obtain ⟨T7, X7, e7, st7⟩ := getF X1 hx hZ hown (host := "") (Or.inl (hw _ (List.mem_of_getElem? (i := 15) rfl))) Via.refl e1 Fc6 (g := (mkF m 5 #[.val (.ref va), .val (.long vn), .second] [(.ref va), (.ref b1), (.ref b1)])) rfl rfl (hb hby d5_5)
  have Fc8 := (Fld.ext E1 F_u)
  obtain ⟨T9, X9, e9, st9⟩ := getF X7 hx hZ hown (host := "") (Or.inl (hw _ (List.mem_of_getElem? (i := 17) rfl))) Via.refl e7 Fc8 (g := (mkF m 9 #[.val (.ref va), .val (.long vn), .second] [(.ref va), (.long vt), (.ref b1), (.ref b1)])) rfl rfl (hb hby d5_9)
  have Fc10 := (Fld.ext E1 F_s)
  have Fc13 := (Exa.ext E1 E_a)
  obtain ⟨cq12, q12, q12'⟩ := (Fc13).cell
  obtain ⟨_, _, ⟨T11, L11, k11, n11⟩, -, X11, ⟨Lc11, hQ11, l11, y11, z11⟩, st11⟩ := X9.privateBack hx (y := (⟨"com/example/turnstyle/turnstyle/domain/Stock", "requireHeld", "(J)J"⟩ : MethodName)) hown (mvT hZ (hw _ (List.mem_of_getElem? (i := 32) rfl))) (mvT hZ (hw _ (List.mem_of_getElem? (i := 33) rfl))) (own_selP (args' := #[]) (mvT hZ (hw _ (List.mem_of_getElem? (i := 3) rfl))) (Cond.privateMethod_at (mvP hZ (hw _ (List.mem_of_getElem? (i := 34) rfl)) (args := #[]))) (mvT hZ (hw _ (List.mem_of_getElem? (i := 33) rfl))) (by decide)) (Cond.privateMethod_at (mvP hZ (hw _ (List.mem_of_getElem? (i := 34) rfl)) (args := #[]))) (mvT hZ (hw _ (List.mem_of_getElem? (i := 35) rfl))) (by decide) (backOf (W := 6) (rm_rh l Z a0 hw [] va vn vt vu vs h1 n0 Zp2 Fc6 Fc8 Fc10 hq) hZ (hw _ (List.mem_of_getElem? (i := 35) rfl)) (hw _ (List.mem_of_getElem? (i := 4) rfl)) (by decide) (by decide)) (g := (mkF m 14 #[.val (.ref va), .val (.long vn), .second] [(.long vn), (.ref va), (.long vu), (.long vt), (.ref b1), (.ref b1)])) rfl (by rw [hml]; rfl) (Steps.refl _) (a := va) (by rw [e9]; exact q12) q12' (argsL := [(.long vn)]) (rest := [(.long vu), (.long vt), (.ref b1), (.ref b1)]) (lenOf own_pd0 rfl) rfl (by show 2 * 0 + _ ≤ _; exact Nat.le_of_eq rfl) (hb hby d5_14) (fun _ _ => ⟨rfl, e9, (by decide : 1 + 0 ≤ _), (by decide : 3 + 0 ≤ _)⟩)
  dsimp only [Pt.U, Pt.locs, Pt.cells, Pt.slots] at X11 l11 y11 z11 st11 hQ11
  subst l11 y11 z11
  obtain ⟨rfl, Nq11, hh11⟩ := hQ11
  have Nf11 := Fr.app N0 Nq11
  obtain ⟨T14, X14, e14, st14⟩ := getF X11 hx hZ hown (host := "") (Or.inl (hw _ (List.mem_of_getElem? (i := 19) rfl))) Via.refl hh11 Fc10 (g := (mkF m 19 #[.val (.ref va), .val (.long vn), .second] [(.ref va), (.long (vu - vn)), (.long vt), (.ref b1), (.ref b1)])) rfl rfl (hb hby d5_19)
  obtain ⟨_, _, ⟨T15, L15, k15, n15⟩, -, X15, ⟨Lc15, hQ15, l15, y15, z15⟩, st15⟩ := X14.specialBack hx (y := (⟨"com/example/turnstyle/turnstyle/domain/Stock", "<init>", "(JJJ)V"⟩ : MethodName)) rfl hown (mvT hZ (hw _ (List.mem_of_getElem? (i := 36) rfl))) (mvT hZ (hw _ (List.mem_of_getElem? (i := 6) rfl))) (mvT hZ (hw _ (List.mem_of_getElem? (i := 7) rfl))) (by decide) (backOf (W := 1) (rm_in l Z a0 hw [] b1 vt (vu - vn) (vs + vn) h1 n0 Zp2 A1 g_b1 Fn3 Fn4 Fn5 (own_ok_sell hp hq)) hZ (hw _ (List.mem_of_getElem? (i := 7) rfl)) (hw _ (List.mem_of_getElem? (i := 4) rfl)) (by decide) (by decide)) (g := (mkF m 24 #[.val (.ref va), .val (.long vn), .second] [(.long (vs + vn)), (.long (vu - vn)), (.long vt), (.ref b1), (.ref b1)])) rfl (by rw [hml]; rfl) (Steps.refl _) (a := b1) (argsL := [(.long vt), (.long (vu - vn)), (.long (vs + vn))]) (rest := [(.ref b1)]) (lenOf own_pd1 rfl) rfl (by show 2 * 0 + _ ≤ _; exact Nat.le_of_eq rfl) (hb hby d5_24) (fun _ _ => ⟨rfl, e14, (by decide : 1 + 0 ≤ _), (by decide : 3 + 0 ≤ _)⟩)
  dsimp only [Pt.U, Pt.locs, Pt.cells, Pt.slots] at X15 l15 y15 z15 st15 hQ15
  subst l15 y15 z15
  obtain ⟨rfl, Nq15, K15, Ex15, Fx15_0, Fx15_1, Fx15_2⟩ := hQ15
  have Nf15 := Fr.app Nf11 Nq15
  have Zp16 : n0 ≤ T15.heap.size := Nat.le_trans Zp2 K15.1
  obtain ⟨fs, hr, hrun, hended, hW, hsame⟩ := X15.leave (v := some (.ref b1)) (fun h => by rw [Bd.returns] at h; cases h)
  refine ⟨_, _, pre0 _ ?_, hrun, hended, _, _, rfl, ?_, ⟨_, rfl⟩, hW, hsame.mono (by decide) (by decide)⟩
  · show Steps p.tables e below (s₁.setTop (mkF m 0 #[.val (.ref va), .val (.long vn), .second] [])) _
    refine st1 _ ?_
    show Steps p.tables e below (T1.setTop (mkF m 3 #[.val (.ref va), .val (.long vn), .second] [(.ref b1)])) _
    refine XS.dup X1.here hx rfl (hb hby d5_3) rfl rfl ?_
    show Steps p.tables e below (T1.setTop (mkF m 4 #[.val (.ref va), .val (.long vn), .second] [(.ref b1), (.ref b1)])) _
    refine XS.aloadN X1.here hx rfl (hb hby d5_4) rfl rfl ?_
    show Steps p.tables e below (T1.setTop (mkF m 5 #[.val (.ref va), .val (.long vn), .second] [(.ref va), (.ref b1), (.ref b1)])) _
    refine st7 _ ?_
    show Steps p.tables e below (T7.setTop (mkF m 8 #[.val (.ref va), .val (.long vn), .second] [(.long vt), (.ref b1), (.ref b1)])) _
    refine XS.aloadN X7.here hx rfl (hb hby d5_8) rfl rfl ?_
    show Steps p.tables e below (T7.setTop (mkF m 9 #[.val (.ref va), .val (.long vn), .second] [(.ref va), (.long vt), (.ref b1), (.ref b1)])) _
    refine st9 _ ?_
    show Steps p.tables e below (T9.setTop (mkF m 12 #[.val (.ref va), .val (.long vn), .second] [(.long vu), (.long vt), (.ref b1), (.ref b1)])) _
    refine XS.aloadN X9.here hx rfl (hb hby d5_12) rfl rfl ?_
    show Steps p.tables e below (T9.setTop (mkF m 13 #[.val (.ref va), .val (.long vn), .second] [(.ref va), (.long vu), (.long vt), (.ref b1), (.ref b1)])) _
    refine XS.lloadN X9.here hx rfl (hb hby d5_13) rfl ?_
    show Steps p.tables e below (T9.setTop (mkF m 14 #[.val (.ref va), .val (.long vn), .second] [(.long vn), (.ref va), (.long vu), (.long vt), (.ref b1), (.ref b1)])) _
    refine st11.trans ?_
    show Steps p.tables e below (T11.setTop (mkF m 17 #[.val (.ref va), .val (.long vn), .second] [(.long vn), (.long vu), (.long vt), (.ref b1), (.ref b1)])) _
    refine XS.lsub X11.here hx rfl (hb hby d5_17) rfl ?_
    show Steps p.tables e below (T11.setTop (mkF m 18 #[.val (.ref va), .val (.long vn), .second] [(.long (vu - vn)), (.long vt), (.ref b1), (.ref b1)])) _
    refine XS.aloadN X11.here hx rfl (hb hby d5_18) rfl rfl ?_
    show Steps p.tables e below (T11.setTop (mkF m 19 #[.val (.ref va), .val (.long vn), .second] [(.ref va), (.long (vu - vn)), (.long vt), (.ref b1), (.ref b1)])) _
    refine st14 _ ?_
    show Steps p.tables e below (T14.setTop (mkF m 22 #[.val (.ref va), .val (.long vn), .second] [(.long vs), (.long (vu - vn)), (.long vt), (.ref b1), (.ref b1)])) _
    refine XS.lloadN X14.here hx rfl (hb hby d5_22) rfl ?_
    show Steps p.tables e below (T14.setTop (mkF m 23 #[.val (.ref va), .val (.long vn), .second] [(.long vn), (.long vs), (.long (vu - vn)), (.long vt), (.ref b1), (.ref b1)])) _
    refine XS.ladd X14.here hx rfl (hb hby d5_23) rfl ?_
    show Steps p.tables e below (T14.setTop (mkF m 24 #[.val (.ref va), .val (.long vn), .second] [(.long (vs + vn)), (.long (vu - vn)), (.long vt), (.ref b1), (.ref b1)])) _
    refine st15.trans ?_
    show Steps p.tables e below (T15.setTop (mkF m 27 #[.val (.ref va), .val (.long vn), .second] [(.ref b1)])) _
    jvm_step X15.here [X15.here.top, hx, (hb hby d5_27), X15.method', Bd.returns, Value.isRef, FieldType.isReference]
    first | (intro acts; rw [hr _ acts rfl rfl rfl]) | rw [hr _ _ rfl rfl rfl]
    exact Steps.refl _
  · show Q_as Z va vn vt vu vs h0 n0 _ T15.heap _
    have Kc17 := (Keep.refl h0 []).ext E1
    have Kc18 := Kc17.trans K15 (allS (Or.inr (Nat.le_trans (Keep.refl h0 []).1 (Nat.le_of_eq g1.symm))) all0)
    exact ⟨b1, rfl, Nf15, Kc18, g_b1, sz_b1, Ex15, Fx15_0, Fx15_1, Fx15_2⟩
theorem pn_rm0 : plainName "com/example/turnstyle/turnstyle/domain/StockIsSoldOutPinLaw" = true := by first | (simp [plainName, overriddenIn]; done) | decide +kernel
theorem ef_rm0 (m : MethodId) (va : Int64) (vb : Int64) (vc : Int64) (vp : Int32) : entryFrame m #[(.long va), (.long vb), (.long vc), (.int vp)] maxLocals = mkF m 0 #[.val (.long va), .second, .val (.long vb), .second, .val (.long vc), .second, .val (.int vp), .unset, .unset, .unset, .unset, .unset, .unset, .unset, .unset, .unset, .unset, .unset, .unset, .unset, .unset, .unset] [] := by first | (simp [entryFrame, mkF, argsToLocals, Value.category, maxLocals]; done) | rfl
def Q0 (Z : State) (va : Int64) (vb : Int64) (vc : Int64) (vp : Int32) (h0 : Heap) (n0 : Nat) (v : Option Value) (h : Heap) (L : List Loc) : Prop := v = some (.int 1) ∧ Fr n0 L
set_option maxRecDepth 65536 in
set_option maxHeartbeats 40000000 in
theorem rm0 (l : Launch) (Z : State) (a0 : Array Value) (hw : ∀ d ∈ tables_1, d.before a0 Z = true) (ws : List Jvm.Cond) (va : Int64) (vb : Int64) (vc : Int64) (vp : Int32) (h0 : Heap) (n0 : Nat) (Z0 : n0 ≤ h0.size) :
    MetFree l x (head1 (Jvm.Cond.code x code maxLocals ret :: ws) room_1) (fun a U => a = #[(.long va), (.long vb), (.long vc), (.int vp)] ∧ Z.Warmed39 U.vm ∧ U.heap = h0) (fun _ _ _ _ _ => True) (fun _ U o U' => ∃ v L, o = .returned v ∧ Q0 Z va vb vc vp h0 n0 v U'.heap L ∧ FrameEnd U o U' L room_1.cells room_1.slots) := by
  refine MetFree.of_bodySF (plainFor_of_name pn_rm0) hisR ?_
  intro p e s m args below meth c s₁ Bd hml0 hP hK
  obtain ⟨rfl, hZ, hh⟩ := hP
  have hx := Bd.exec
  have hby := Bd.bytes
  have hml : c.maxLocals = 22 := hml0
  have hown : s.vm.findClass "com/example/turnstyle/turnstyle/domain/StockIsSoldOutPinLaw" = some m.cls := findClass_of_methodNamed Bd.named
  have hnm := (name_of_methodNamed Bd.named Bd.method).1
  have X0 : Stand p l e room_1 s m #[(.long va), (.long vb), (.long vc), (.int vp)] below meth c s₁ [] 0 0 := Stand.of_body Bd
  have e0 : s₁.heap = h0 := by rw [← hh, Bd.state]; rfl
  have N0 := Fr.nil n0
  have pre0 : ∀ t, Steps p.tables e below (s₁.setTop (mkF m 0 #[.val (.long va), .second, .val (.long vb), .second, .val (.long vc), .second, .val (.int vp), .unset, .unset, .unset, .unset, .unset, .unset, .unset, .unset, .unset, .unset, .unset, .unset, .unset, .unset, .unset] [])) t → Steps p.tables e below (s₁.setTop (entryFrame m #[(.long va), (.long vb), (.long vc), (.int vp)] maxLocals)) t := fun t k => castTop (ef_rm0 m va vb vc vp) k
  have pre1 : ∀ t, Steps p.tables e below (s₁.setTop (mkF m 11 #[.val (.long va), .second, .val (.long vb), .second, .val (.long vc), .second, .val (.int vp), .val (.long (1000000 : Int64)), .second, .unset, .unset, .val (.int (vp &&& (3 : Int32))), .unset, .unset, .unset, .unset, .unset, .unset, .unset, .unset, .unset, .unset] [])) t → Steps p.tables e below (s₁.setTop (entryFrame m #[(.long va), (.long vb), (.long vc), (.int vp)] maxLocals)) t := by
    intro t k
    refine pre0 t ?_
    show Steps p.tables e below (s₁.setTop (mkF m 0 #[.val (.long va), .second, .val (.long vb), .second, .val (.long vc), .second, .val (.int vp), .unset, .unset, .unset, .unset, .unset, .unset, .unset, .unset, .unset, .unset, .unset, .unset, .unset, .unset, .unset] [])) _
    refine X0.ldc2Long hx hown (mvT hZ (hw _ (List.mem_of_getElem? (i := 0) rfl))) (g := (mkF m 0 #[.val (.long va), .second, .val (.long vb), .second, .val (.long vc), .second, .val (.int vp), .unset, .unset, .unset, .unset, .unset, .unset, .unset, .unset, .unset, .unset, .unset, .unset, .unset, .unset, .unset] [])) rfl (hb hby at_0) _ ?_
    show Steps p.tables e below (s₁.setTop (mkF m 3 #[.val (.long va), .second, .val (.long vb), .second, .val (.long vc), .second, .val (.int vp), .unset, .unset, .unset, .unset, .unset, .unset, .unset, .unset, .unset, .unset, .unset, .unset, .unset, .unset, .unset] [(.long (1000000 : Int64))])) _
    refine XS.lstore X0.here hx rfl (hb hby at_3) rfl (l' := #[.val (.long va), .second, .val (.long vb), .second, .val (.long vc), .second, .val (.int vp), .val (.long (1000000 : Int64)), .second, .unset, .unset, .unset, .unset, .unset, .unset, .unset, .unset, .unset, .unset, .unset, .unset, .unset]) rfl ?_
    show Steps p.tables e below (s₁.setTop (mkF m 5 #[.val (.long va), .second, .val (.long vb), .second, .val (.long vc), .second, .val (.int vp), .val (.long (1000000 : Int64)), .second, .unset, .unset, .unset, .unset, .unset, .unset, .unset, .unset, .unset, .unset, .unset, .unset, .unset] [])) _
    refine XS.iload X0.here hx rfl (hb hby at_5) rfl ?_
    show Steps p.tables e below (s₁.setTop (mkF m 7 #[.val (.long va), .second, .val (.long vb), .second, .val (.long vc), .second, .val (.int vp), .val (.long (1000000 : Int64)), .second, .unset, .unset, .unset, .unset, .unset, .unset, .unset, .unset, .unset, .unset, .unset, .unset, .unset] [(.int vp)])) _
    refine XS.iconst X0.here hx rfl (hb hby at_7) ?_
    show Steps p.tables e below (s₁.setTop (mkF m 8 #[.val (.long va), .second, .val (.long vb), .second, .val (.long vc), .second, .val (.int vp), .val (.long (1000000 : Int64)), .second, .unset, .unset, .unset, .unset, .unset, .unset, .unset, .unset, .unset, .unset, .unset, .unset, .unset] [(.int (3 : Int32)), (.int vp)])) _
    refine XS.iand X0.here hx rfl (hb hby at_8) rfl ?_
    show Steps p.tables e below (s₁.setTop (mkF m 9 #[.val (.long va), .second, .val (.long vb), .second, .val (.long vc), .second, .val (.int vp), .val (.long (1000000 : Int64)), .second, .unset, .unset, .unset, .unset, .unset, .unset, .unset, .unset, .unset, .unset, .unset, .unset, .unset] [(.int (vp &&& (3 : Int32)))])) _
    refine XS.istore X0.here hx rfl (hb hby at_9) rfl (l' := #[.val (.long va), .second, .val (.long vb), .second, .val (.long vc), .second, .val (.int vp), .val (.long (1000000 : Int64)), .second, .unset, .unset, .val (.int (vp &&& (3 : Int32))), .unset, .unset, .unset, .unset, .unset, .unset, .unset, .unset, .unset, .unset]) rfl ?_
    show Steps p.tables e below (s₁.setTop (mkF m 11 #[.val (.long va), .second, .val (.long vb), .second, .val (.long vc), .second, .val (.int vp), .val (.long (1000000 : Int64)), .second, .unset, .unset, .val (.int (vp &&& (3 : Int32))), .unset, .unset, .unset, .unset, .unset, .unset, .unset, .unset, .unset, .unset] [])) _
    exact k
  obtain ⟨vt, T2, lo2, X2, Nj2, ej2, hj2, pre2⟩ : ∃ (vt : Int64) (T' : State) (lo : List Loc), Stand p l e room_1 s m #[(.long va), (.long vb), (.long vc), (.int vp)] below meth c T' lo 0 0 ∧ Fr n0 lo ∧ T'.heap = h0 ∧ (0 ≤ vt.toInt ∧ vt.toInt ≤ 1000000) ∧ ∀ t, Steps p.tables e below (T'.setTop (mkF m 47 #[.val (.long va), .second, .val (.long vb), .second, .val (.long vc), .second, .val (.int vp), .val (.long (1000000 : Int64)), .second, .val (.long vt), .second, .val (.int (vp &&& (3 : Int32))), .unset, .unset, .unset, .unset, .unset, .unset, .unset, .unset, .unset, .unset] [])) t → Steps p.tables e below (s₁.setTop (entryFrame m #[(.long va), (.long vb), (.long vc), (.int vp)] maxLocals)) t := by
    have pre3 : ∀ t, Steps p.tables e below (s₁.setTop (mkF m 13 #[.val (.long va), .second, .val (.long vb), .second, .val (.long vc), .second, .val (.int vp), .val (.long (1000000 : Int64)), .second, .unset, .unset, .val (.int (vp &&& (3 : Int32))), .unset, .unset, .unset, .unset, .unset, .unset, .unset, .unset, .unset, .unset] [(.int (vp &&& (3 : Int32)))])) t → Steps p.tables e below (s₁.setTop (entryFrame m #[(.long va), (.long vb), (.long vc), (.int vp)] maxLocals)) t := by
      intro t k
      refine pre1 t ?_
      show Steps p.tables e below (s₁.setTop (mkF m 11 #[.val (.long va), .second, .val (.long vb), .second, .val (.long vc), .second, .val (.int vp), .val (.long (1000000 : Int64)), .second, .unset, .unset, .val (.int (vp &&& (3 : Int32))), .unset, .unset, .unset, .unset, .unset, .unset, .unset, .unset, .unset, .unset] [])) _
      refine XS.iload X0.here hx rfl (hb hby at_11) rfl ?_
      show Steps p.tables e below (s₁.setTop (mkF m 13 #[.val (.long va), .second, .val (.long vb), .second, .val (.long vc), .second, .val (.int vp), .val (.long (1000000 : Int64)), .second, .unset, .unset, .val (.int (vp &&& (3 : Int32))), .unset, .unset, .unset, .unset, .unset, .unset, .unset, .unset, .unset, .unset] [(.int (vp &&& (3 : Int32)))])) _
      exact k
    by_cases hc4 : (vp &&& (3 : Int32)) = (0 : Int32)
    · refine ⟨(0 : Int64), s₁, _, X0, N0, e0, (by decide), fun t k => ?_⟩
      refine pre3 t ?_
      show Steps p.tables e below (s₁.setTop (mkF m 13 #[.val (.long va), .second, .val (.long vb), .second, .val (.long vc), .second, .val (.int vp), .val (.long (1000000 : Int64)), .second, .unset, .unset, .val (.int (vp &&& (3 : Int32))), .unset, .unset, .unset, .unset, .unset, .unset, .unset, .unset, .unset, .unset] [(.int (vp &&& (3 : Int32)))])) _
      refine XS.ifNo X0.here hx rfl (hb hby at_13) rfl ((if0 _ _).trans (teq hc4).2) ?_
      show Steps p.tables e below (s₁.setTop (mkF m 16 #[.val (.long va), .second, .val (.long vb), .second, .val (.long vc), .second, .val (.int vp), .val (.long (1000000 : Int64)), .second, .unset, .unset, .val (.int (vp &&& (3 : Int32))), .unset, .unset, .unset, .unset, .unset, .unset, .unset, .unset, .unset, .unset] [])) _
      refine XS.lconst X0.here hx rfl (hb hby at_16) ?_
      show Steps p.tables e below (s₁.setTop (mkF m 17 #[.val (.long va), .second, .val (.long vb), .second, .val (.long vc), .second, .val (.int vp), .val (.long (1000000 : Int64)), .second, .unset, .unset, .val (.int (vp &&& (3 : Int32))), .unset, .unset, .unset, .unset, .unset, .unset, .unset, .unset, .unset, .unset] [(.long (0 : Int64))])) _
      refine XS.lstore X0.here hx rfl (hb hby at_17) rfl (l' := #[.val (.long va), .second, .val (.long vb), .second, .val (.long vc), .second, .val (.int vp), .val (.long (1000000 : Int64)), .second, .val (.long (0 : Int64)), .second, .val (.int (vp &&& (3 : Int32))), .unset, .unset, .unset, .unset, .unset, .unset, .unset, .unset, .unset, .unset]) rfl ?_
      show Steps p.tables e below (s₁.setTop (mkF m 19 #[.val (.long va), .second, .val (.long vb), .second, .val (.long vc), .second, .val (.int vp), .val (.long (1000000 : Int64)), .second, .val (.long (0 : Int64)), .second, .val (.int (vp &&& (3 : Int32))), .unset, .unset, .unset, .unset, .unset, .unset, .unset, .unset, .unset, .unset] [])) _
      refine XS.goto X0.here hx rfl (pc0 := 19) (pc' := 47) rfl (hb hby at_19) (by decide) (by decide) ?_
      show Steps p.tables e below (s₁.setTop (mkF m 47 #[.val (.long va), .second, .val (.long vb), .second, .val (.long vc), .second, .val (.int vp), .val (.long (1000000 : Int64)), .second, .val (.long (0 : Int64)), .second, .val (.int (vp &&& (3 : Int32))), .unset, .unset, .unset, .unset, .unset, .unset, .unset, .unset, .unset, .unset] [])) _
      exact k
    · have pre5 : ∀ t, Steps p.tables e below (s₁.setTop (mkF m 25 #[.val (.long va), .second, .val (.long vb), .second, .val (.long vc), .second, .val (.int vp), .val (.long (1000000 : Int64)), .second, .unset, .unset, .val (.int (vp &&& (3 : Int32))), .unset, .unset, .unset, .unset, .unset, .unset, .unset, .unset, .unset, .unset] [(.int (1 : Int32)), (.int (vp &&& (3 : Int32)))])) t → Steps p.tables e below (s₁.setTop (entryFrame m #[(.long va), (.long vb), (.long vc), (.int vp)] maxLocals)) t := by
        intro t k
        refine pre3 t ?_
        show Steps p.tables e below (s₁.setTop (mkF m 13 #[.val (.long va), .second, .val (.long vb), .second, .val (.long vc), .second, .val (.int vp), .val (.long (1000000 : Int64)), .second, .unset, .unset, .val (.int (vp &&& (3 : Int32))), .unset, .unset, .unset, .unset, .unset, .unset, .unset, .unset, .unset, .unset] [(.int (vp &&& (3 : Int32)))])) _
        refine XS.ifYes X0.here hx rfl (pc0 := 13) (pc' := 22) rfl (hb hby at_13) rfl ((if0 _ _).trans (feq hc4).2) (by decide) (by decide) ?_
        show Steps p.tables e below (s₁.setTop (mkF m 22 #[.val (.long va), .second, .val (.long vb), .second, .val (.long vc), .second, .val (.int vp), .val (.long (1000000 : Int64)), .second, .unset, .unset, .val (.int (vp &&& (3 : Int32))), .unset, .unset, .unset, .unset, .unset, .unset, .unset, .unset, .unset, .unset] [])) _
        refine XS.iload X0.here hx rfl (hb hby at_22) rfl ?_
        show Steps p.tables e below (s₁.setTop (mkF m 24 #[.val (.long va), .second, .val (.long vb), .second, .val (.long vc), .second, .val (.int vp), .val (.long (1000000 : Int64)), .second, .unset, .unset, .val (.int (vp &&& (3 : Int32))), .unset, .unset, .unset, .unset, .unset, .unset, .unset, .unset, .unset, .unset] [(.int (vp &&& (3 : Int32)))])) _
        refine XS.iconst X0.here hx rfl (hb hby at_24) ?_
        show Steps p.tables e below (s₁.setTop (mkF m 25 #[.val (.long va), .second, .val (.long vb), .second, .val (.long vc), .second, .val (.int vp), .val (.long (1000000 : Int64)), .second, .unset, .unset, .val (.int (vp &&& (3 : Int32))), .unset, .unset, .unset, .unset, .unset, .unset, .unset, .unset, .unset, .unset] [(.int (1 : Int32)), (.int (vp &&& (3 : Int32)))])) _
        exact k
      by_cases hc6 : (vp &&& (3 : Int32)) = (1 : Int32)
      · refine ⟨(1000000 : Int64), s₁, _, X0, N0, e0, (by decide), fun t k => ?_⟩
        refine pre5 t ?_
        show Steps p.tables e below (s₁.setTop (mkF m 25 #[.val (.long va), .second, .val (.long vb), .second, .val (.long vc), .second, .val (.int vp), .val (.long (1000000 : Int64)), .second, .unset, .unset, .val (.int (vp &&& (3 : Int32))), .unset, .unset, .unset, .unset, .unset, .unset, .unset, .unset, .unset, .unset] [(.int (1 : Int32)), (.int (vp &&& (3 : Int32)))])) _
        refine XS.icmpNo X0.here hx rfl (hb hby at_25) rfl (teq hc6).2 ?_
        show Steps p.tables e below (s₁.setTop (mkF m 28 #[.val (.long va), .second, .val (.long vb), .second, .val (.long vc), .second, .val (.int vp), .val (.long (1000000 : Int64)), .second, .unset, .unset, .val (.int (vp &&& (3 : Int32))), .unset, .unset, .unset, .unset, .unset, .unset, .unset, .unset, .unset, .unset] [])) _
        refine XS.lload X0.here hx rfl (hb hby at_28) rfl ?_
        show Steps p.tables e below (s₁.setTop (mkF m 30 #[.val (.long va), .second, .val (.long vb), .second, .val (.long vc), .second, .val (.int vp), .val (.long (1000000 : Int64)), .second, .unset, .unset, .val (.int (vp &&& (3 : Int32))), .unset, .unset, .unset, .unset, .unset, .unset, .unset, .unset, .unset, .unset] [(.long (1000000 : Int64))])) _
        refine XS.lstore X0.here hx rfl (hb hby at_30) rfl (l' := #[.val (.long va), .second, .val (.long vb), .second, .val (.long vc), .second, .val (.int vp), .val (.long (1000000 : Int64)), .second, .val (.long (1000000 : Int64)), .second, .val (.int (vp &&& (3 : Int32))), .unset, .unset, .unset, .unset, .unset, .unset, .unset, .unset, .unset, .unset]) rfl ?_
        show Steps p.tables e below (s₁.setTop (mkF m 32 #[.val (.long va), .second, .val (.long vb), .second, .val (.long vc), .second, .val (.int vp), .val (.long (1000000 : Int64)), .second, .val (.long (1000000 : Int64)), .second, .val (.int (vp &&& (3 : Int32))), .unset, .unset, .unset, .unset, .unset, .unset, .unset, .unset, .unset, .unset] [])) _
        refine XS.goto X0.here hx rfl (pc0 := 32) (pc' := 47) rfl (hb hby at_32) (by decide) (by decide) ?_
        show Steps p.tables e below (s₁.setTop (mkF m 47 #[.val (.long va), .second, .val (.long vb), .second, .val (.long vc), .second, .val (.int vp), .val (.long (1000000 : Int64)), .second, .val (.long (1000000 : Int64)), .second, .val (.int (vp &&& (3 : Int32))), .unset, .unset, .unset, .unset, .unset, .unset, .unset, .unset, .unset, .unset] [])) _
        exact k
      · refine ⟨((va &&& (9223372036854775807 : Int64)) - ((va &&& (9223372036854775807 : Int64)) / ((1000000 : Int64) + (1 : Int64))) * ((1000000 : Int64) + (1 : Int64))), s₁, _, X0, N0, e0, (by have q := own_rem va ((1000000 : Int64) + (1 : Int64)) (by decide); rw [show ((1000000 : Int64) + (1 : Int64)).toInt = 1000001 from by decide] at q; exact ⟨q.1, by have := q.2; omega⟩), fun t k => ?_⟩
        refine pre5 t ?_
        show Steps p.tables e below (s₁.setTop (mkF m 25 #[.val (.long va), .second, .val (.long vb), .second, .val (.long vc), .second, .val (.int vp), .val (.long (1000000 : Int64)), .second, .unset, .unset, .val (.int (vp &&& (3 : Int32))), .unset, .unset, .unset, .unset, .unset, .unset, .unset, .unset, .unset, .unset] [(.int (1 : Int32)), (.int (vp &&& (3 : Int32)))])) _
        refine XS.icmpYes X0.here hx rfl (pc0 := 25) (pc' := 35) rfl (hb hby at_25) rfl (feq hc6).2 (by decide) (by decide) ?_
        show Steps p.tables e below (s₁.setTop (mkF m 35 #[.val (.long va), .second, .val (.long vb), .second, .val (.long vc), .second, .val (.int vp), .val (.long (1000000 : Int64)), .second, .unset, .unset, .val (.int (vp &&& (3 : Int32))), .unset, .unset, .unset, .unset, .unset, .unset, .unset, .unset, .unset, .unset] [])) _
        refine XS.lloadN X0.here hx rfl (hb hby at_35) rfl ?_
        show Steps p.tables e below (s₁.setTop (mkF m 36 #[.val (.long va), .second, .val (.long vb), .second, .val (.long vc), .second, .val (.int vp), .val (.long (1000000 : Int64)), .second, .unset, .unset, .val (.int (vp &&& (3 : Int32))), .unset, .unset, .unset, .unset, .unset, .unset, .unset, .unset, .unset, .unset] [(.long va)])) _
        refine X0.ldc2Long hx hown (mvT hZ (hw _ (List.mem_of_getElem? (i := 1) rfl))) (g := (mkF m 36 #[.val (.long va), .second, .val (.long vb), .second, .val (.long vc), .second, .val (.int vp), .val (.long (1000000 : Int64)), .second, .unset, .unset, .val (.int (vp &&& (3 : Int32))), .unset, .unset, .unset, .unset, .unset, .unset, .unset, .unset, .unset, .unset] [(.long va)])) rfl (hb hby at_36) _ ?_
        show Steps p.tables e below (s₁.setTop (mkF m 39 #[.val (.long va), .second, .val (.long vb), .second, .val (.long vc), .second, .val (.int vp), .val (.long (1000000 : Int64)), .second, .unset, .unset, .val (.int (vp &&& (3 : Int32))), .unset, .unset, .unset, .unset, .unset, .unset, .unset, .unset, .unset, .unset] [(.long (9223372036854775807 : Int64)), (.long va)])) _
        refine XS.land X0.here hx rfl (hb hby at_39) rfl ?_
        show Steps p.tables e below (s₁.setTop (mkF m 40 #[.val (.long va), .second, .val (.long vb), .second, .val (.long vc), .second, .val (.int vp), .val (.long (1000000 : Int64)), .second, .unset, .unset, .val (.int (vp &&& (3 : Int32))), .unset, .unset, .unset, .unset, .unset, .unset, .unset, .unset, .unset, .unset] [(.long (va &&& (9223372036854775807 : Int64)))])) _
        refine XS.lload X0.here hx rfl (hb hby at_40) rfl ?_
        show Steps p.tables e below (s₁.setTop (mkF m 42 #[.val (.long va), .second, .val (.long vb), .second, .val (.long vc), .second, .val (.int vp), .val (.long (1000000 : Int64)), .second, .unset, .unset, .val (.int (vp &&& (3 : Int32))), .unset, .unset, .unset, .unset, .unset, .unset, .unset, .unset, .unset, .unset] [(.long (1000000 : Int64)), (.long (va &&& (9223372036854775807 : Int64)))])) _
        refine XS.lconst X0.here hx rfl (hb hby at_42) ?_
        show Steps p.tables e below (s₁.setTop (mkF m 43 #[.val (.long va), .second, .val (.long vb), .second, .val (.long vc), .second, .val (.int vp), .val (.long (1000000 : Int64)), .second, .unset, .unset, .val (.int (vp &&& (3 : Int32))), .unset, .unset, .unset, .unset, .unset, .unset, .unset, .unset, .unset, .unset] [(.long (1 : Int64)), (.long (1000000 : Int64)), (.long (va &&& (9223372036854775807 : Int64)))])) _
        refine XS.ladd X0.here hx rfl (hb hby at_43) rfl ?_
        show Steps p.tables e below (s₁.setTop (mkF m 44 #[.val (.long va), .second, .val (.long vb), .second, .val (.long vc), .second, .val (.int vp), .val (.long (1000000 : Int64)), .second, .unset, .unset, .val (.int (vp &&& (3 : Int32))), .unset, .unset, .unset, .unset, .unset, .unset, .unset, .unset, .unset, .unset] [(.long ((1000000 : Int64) + (1 : Int64))), (.long (va &&& (9223372036854775807 : Int64)))])) _
        refine XS.lrem X0.here hx rfl (hb hby at_44) rfl (by decide) ?_
        show Steps p.tables e below (s₁.setTop (mkF m 45 #[.val (.long va), .second, .val (.long vb), .second, .val (.long vc), .second, .val (.int vp), .val (.long (1000000 : Int64)), .second, .unset, .unset, .val (.int (vp &&& (3 : Int32))), .unset, .unset, .unset, .unset, .unset, .unset, .unset, .unset, .unset, .unset] [(.long ((va &&& (9223372036854775807 : Int64)) - ((va &&& (9223372036854775807 : Int64)) / ((1000000 : Int64) + (1 : Int64))) * ((1000000 : Int64) + (1 : Int64))))])) _
        refine XS.lstore X0.here hx rfl (hb hby at_45) rfl (l' := #[.val (.long va), .second, .val (.long vb), .second, .val (.long vc), .second, .val (.int vp), .val (.long (1000000 : Int64)), .second, .val (.long ((va &&& (9223372036854775807 : Int64)) - ((va &&& (9223372036854775807 : Int64)) / ((1000000 : Int64) + (1 : Int64))) * ((1000000 : Int64) + (1 : Int64)))), .second, .val (.int (vp &&& (3 : Int32))), .unset, .unset, .unset, .unset, .unset, .unset, .unset, .unset, .unset, .unset]) rfl ?_
        show Steps p.tables e below (s₁.setTop (mkF m 47 #[.val (.long va), .second, .val (.long vb), .second, .val (.long vc), .second, .val (.int vp), .val (.long (1000000 : Int64)), .second, .val (.long ((va &&& (9223372036854775807 : Int64)) - ((va &&& (9223372036854775807 : Int64)) / ((1000000 : Int64) + (1 : Int64))) * ((1000000 : Int64) + (1 : Int64)))), .second, .val (.int (vp &&& (3 : Int32))), .unset, .unset, .unset, .unset, .unset, .unset, .unset, .unset, .unset, .unset] [])) _
        exact k
  have b1 := hj2
  have a1 : (vt + (1 : Int64)).toInt = vt.toInt + 1 := by rw [own_add (by rw [own_one]; omega) (by rw [own_one]; omega), own_one]
  have pre7 : ∀ t, Steps p.tables e below (T2.setTop (mkF m 59 #[.val (.long va), .second, .val (.long vb), .second, .val (.long vc), .second, .val (.int vp), .val (.long (1000000 : Int64)), .second, .val (.long vt), .second, .val (.int (vp &&& (3 : Int32))), .val (.long ((vb &&& (9223372036854775807 : Int64)) - ((vb &&& (9223372036854775807 : Int64)) / (vt + (1 : Int64))) * (vt + (1 : Int64)))), .second, .unset, .unset, .unset, .unset, .unset, .unset, .unset, .unset] [])) t → Steps p.tables e below (s₁.setTop (entryFrame m #[(.long va), (.long vb), (.long vc), (.int vp)] maxLocals)) t := by
    intro t k
    refine pre2 t ?_
    show Steps p.tables e below (T2.setTop (mkF m 47 #[.val (.long va), .second, .val (.long vb), .second, .val (.long vc), .second, .val (.int vp), .val (.long (1000000 : Int64)), .second, .val (.long vt), .second, .val (.int (vp &&& (3 : Int32))), .unset, .unset, .unset, .unset, .unset, .unset, .unset, .unset, .unset, .unset] [])) _
    refine XS.lloadN X2.here hx rfl (hb hby at_47) rfl ?_
    show Steps p.tables e below (T2.setTop (mkF m 48 #[.val (.long va), .second, .val (.long vb), .second, .val (.long vc), .second, .val (.int vp), .val (.long (1000000 : Int64)), .second, .val (.long vt), .second, .val (.int (vp &&& (3 : Int32))), .unset, .unset, .unset, .unset, .unset, .unset, .unset, .unset, .unset, .unset] [(.long vb)])) _
    refine X2.ldc2Long hx hown (mvT hZ (hw _ (List.mem_of_getElem? (i := 1) rfl))) (g := (mkF m 48 #[.val (.long va), .second, .val (.long vb), .second, .val (.long vc), .second, .val (.int vp), .val (.long (1000000 : Int64)), .second, .val (.long vt), .second, .val (.int (vp &&& (3 : Int32))), .unset, .unset, .unset, .unset, .unset, .unset, .unset, .unset, .unset, .unset] [(.long vb)])) rfl (hb hby at_48) _ ?_
    show Steps p.tables e below (T2.setTop (mkF m 51 #[.val (.long va), .second, .val (.long vb), .second, .val (.long vc), .second, .val (.int vp), .val (.long (1000000 : Int64)), .second, .val (.long vt), .second, .val (.int (vp &&& (3 : Int32))), .unset, .unset, .unset, .unset, .unset, .unset, .unset, .unset, .unset, .unset] [(.long (9223372036854775807 : Int64)), (.long vb)])) _
    refine XS.land X2.here hx rfl (hb hby at_51) rfl ?_
    show Steps p.tables e below (T2.setTop (mkF m 52 #[.val (.long va), .second, .val (.long vb), .second, .val (.long vc), .second, .val (.int vp), .val (.long (1000000 : Int64)), .second, .val (.long vt), .second, .val (.int (vp &&& (3 : Int32))), .unset, .unset, .unset, .unset, .unset, .unset, .unset, .unset, .unset, .unset] [(.long (vb &&& (9223372036854775807 : Int64)))])) _
    refine XS.lload X2.here hx rfl (hb hby at_52) rfl ?_
    show Steps p.tables e below (T2.setTop (mkF m 54 #[.val (.long va), .second, .val (.long vb), .second, .val (.long vc), .second, .val (.int vp), .val (.long (1000000 : Int64)), .second, .val (.long vt), .second, .val (.int (vp &&& (3 : Int32))), .unset, .unset, .unset, .unset, .unset, .unset, .unset, .unset, .unset, .unset] [(.long vt), (.long (vb &&& (9223372036854775807 : Int64)))])) _
    refine XS.lconst X2.here hx rfl (hb hby at_54) ?_
    show Steps p.tables e below (T2.setTop (mkF m 55 #[.val (.long va), .second, .val (.long vb), .second, .val (.long vc), .second, .val (.int vp), .val (.long (1000000 : Int64)), .second, .val (.long vt), .second, .val (.int (vp &&& (3 : Int32))), .unset, .unset, .unset, .unset, .unset, .unset, .unset, .unset, .unset, .unset] [(.long (1 : Int64)), (.long vt), (.long (vb &&& (9223372036854775807 : Int64)))])) _
    refine XS.ladd X2.here hx rfl (hb hby at_55) rfl ?_
    show Steps p.tables e below (T2.setTop (mkF m 56 #[.val (.long va), .second, .val (.long vb), .second, .val (.long vc), .second, .val (.int vp), .val (.long (1000000 : Int64)), .second, .val (.long vt), .second, .val (.int (vp &&& (3 : Int32))), .unset, .unset, .unset, .unset, .unset, .unset, .unset, .unset, .unset, .unset] [(.long (vt + (1 : Int64))), (.long (vb &&& (9223372036854775807 : Int64)))])) _
    refine XS.lrem X2.here hx rfl (hb hby at_56) rfl (own_nz (by omega)) ?_
    show Steps p.tables e below (T2.setTop (mkF m 57 #[.val (.long va), .second, .val (.long vb), .second, .val (.long vc), .second, .val (.int vp), .val (.long (1000000 : Int64)), .second, .val (.long vt), .second, .val (.int (vp &&& (3 : Int32))), .unset, .unset, .unset, .unset, .unset, .unset, .unset, .unset, .unset, .unset] [(.long ((vb &&& (9223372036854775807 : Int64)) - ((vb &&& (9223372036854775807 : Int64)) / (vt + (1 : Int64))) * (vt + (1 : Int64))))])) _
    refine XS.lstore X2.here hx rfl (hb hby at_57) rfl (l' := #[.val (.long va), .second, .val (.long vb), .second, .val (.long vc), .second, .val (.int vp), .val (.long (1000000 : Int64)), .second, .val (.long vt), .second, .val (.int (vp &&& (3 : Int32))), .val (.long ((vb &&& (9223372036854775807 : Int64)) - ((vb &&& (9223372036854775807 : Int64)) / (vt + (1 : Int64))) * (vt + (1 : Int64)))), .second, .unset, .unset, .unset, .unset, .unset, .unset, .unset, .unset]) rfl ?_
    show Steps p.tables e below (T2.setTop (mkF m 59 #[.val (.long va), .second, .val (.long vb), .second, .val (.long vc), .second, .val (.int vp), .val (.long (1000000 : Int64)), .second, .val (.long vt), .second, .val (.int (vp &&& (3 : Int32))), .val (.long ((vb &&& (9223372036854775807 : Int64)) - ((vb &&& (9223372036854775807 : Int64)) / (vt + (1 : Int64))) * (vt + (1 : Int64)))), .second, .unset, .unset, .unset, .unset, .unset, .unset, .unset, .unset] [])) _
    exact k
  obtain ⟨vg0, h_vg0⟩ : ∃ z : Int64, z = ((vb &&& (9223372036854775807 : Int64)) - ((vb &&& (9223372036854775807 : Int64)) / (vt + (1 : Int64))) * (vt + (1 : Int64))) := ⟨_, rfl⟩
  have pre8 : ∀ t, Steps p.tables e below (T2.setTop (mkF m 59 #[.val (.long va), .second, .val (.long vb), .second, .val (.long vc), .second, .val (.int vp), .val (.long (1000000 : Int64)), .second, .val (.long vt), .second, .val (.int (vp &&& (3 : Int32))), .val (.long vg0), .second, .unset, .unset, .unset, .unset, .unset, .unset, .unset, .unset] [])) t → Steps p.tables e below (s₁.setTop (entryFrame m #[(.long va), (.long vb), (.long vc), (.int vp)] maxLocals)) t := by
    subst h_vg0
    exact pre7
  have b2 : 0 ≤ vg0.toInt ∧ vg0.toInt ≤ vt.toInt := by have q := own_rem vb (vt + (1 : Int64)) (by omega); rw [← h_vg0] at q; omega
  obtain ⟨vg, T9, lo9, X9, Nj9, ej9, hj9, pre9⟩ : ∃ (vg : Int64) (T' : State) (lo : List Loc), Stand p l e room_1 s m #[(.long va), (.long vb), (.long vc), (.int vp)] below meth c T' lo 0 0 ∧ Fr n0 lo ∧ T'.heap = h0 ∧ (0 ≤ vg.toInt ∧ vg.toInt ≤ vt.toInt) ∧ ∀ t, Steps p.tables e below (T'.setTop (mkF m 72 #[.val (.long va), .second, .val (.long vb), .second, .val (.long vc), .second, .val (.int vp), .val (.long (1000000 : Int64)), .second, .val (.long vt), .second, .val (.int (vp &&& (3 : Int32))), .val (.long vg), .second, .unset, .unset, .unset, .unset, .unset, .unset, .unset, .unset] [])) t → Steps p.tables e below (s₁.setTop (entryFrame m #[(.long va), (.long vb), (.long vc), (.int vp)] maxLocals)) t := by
    have pre10 : ∀ t, Steps p.tables e below (T2.setTop (mkF m 66 #[.val (.long va), .second, .val (.long vb), .second, .val (.long vc), .second, .val (.int vp), .val (.long (1000000 : Int64)), .second, .val (.long vt), .second, .val (.int (vp &&& (3 : Int32))), .val (.long vg0), .second, .unset, .unset, .unset, .unset, .unset, .unset, .unset, .unset] [(.int (1 : Int32)), (.int ((vp >>> ((2 : Int32) &&& 31)) &&& (1 : Int32)))])) t → Steps p.tables e below (s₁.setTop (entryFrame m #[(.long va), (.long vb), (.long vc), (.int vp)] maxLocals)) t := by
      intro t k
      refine pre8 t ?_
      show Steps p.tables e below (T2.setTop (mkF m 59 #[.val (.long va), .second, .val (.long vb), .second, .val (.long vc), .second, .val (.int vp), .val (.long (1000000 : Int64)), .second, .val (.long vt), .second, .val (.int (vp &&& (3 : Int32))), .val (.long vg0), .second, .unset, .unset, .unset, .unset, .unset, .unset, .unset, .unset] [])) _
      refine XS.iload X2.here hx rfl (hb hby at_59) rfl ?_
      show Steps p.tables e below (T2.setTop (mkF m 61 #[.val (.long va), .second, .val (.long vb), .second, .val (.long vc), .second, .val (.int vp), .val (.long (1000000 : Int64)), .second, .val (.long vt), .second, .val (.int (vp &&& (3 : Int32))), .val (.long vg0), .second, .unset, .unset, .unset, .unset, .unset, .unset, .unset, .unset] [(.int vp)])) _
      refine XS.iconst X2.here hx rfl (hb hby at_61) ?_
      show Steps p.tables e below (T2.setTop (mkF m 62 #[.val (.long va), .second, .val (.long vb), .second, .val (.long vc), .second, .val (.int vp), .val (.long (1000000 : Int64)), .second, .val (.long vt), .second, .val (.int (vp &&& (3 : Int32))), .val (.long vg0), .second, .unset, .unset, .unset, .unset, .unset, .unset, .unset, .unset] [(.int (2 : Int32)), (.int vp)])) _
      refine XS.ishr X2.here hx rfl (hb hby at_62) rfl ?_
      show Steps p.tables e below (T2.setTop (mkF m 63 #[.val (.long va), .second, .val (.long vb), .second, .val (.long vc), .second, .val (.int vp), .val (.long (1000000 : Int64)), .second, .val (.long vt), .second, .val (.int (vp &&& (3 : Int32))), .val (.long vg0), .second, .unset, .unset, .unset, .unset, .unset, .unset, .unset, .unset] [(.int (vp >>> ((2 : Int32) &&& 31)))])) _
      refine XS.iconst X2.here hx rfl (hb hby at_63) ?_
      show Steps p.tables e below (T2.setTop (mkF m 64 #[.val (.long va), .second, .val (.long vb), .second, .val (.long vc), .second, .val (.int vp), .val (.long (1000000 : Int64)), .second, .val (.long vt), .second, .val (.int (vp &&& (3 : Int32))), .val (.long vg0), .second, .unset, .unset, .unset, .unset, .unset, .unset, .unset, .unset] [(.int (1 : Int32)), (.int (vp >>> ((2 : Int32) &&& 31)))])) _
      refine XS.iand X2.here hx rfl (hb hby at_64) rfl ?_
      show Steps p.tables e below (T2.setTop (mkF m 65 #[.val (.long va), .second, .val (.long vb), .second, .val (.long vc), .second, .val (.int vp), .val (.long (1000000 : Int64)), .second, .val (.long vt), .second, .val (.int (vp &&& (3 : Int32))), .val (.long vg0), .second, .unset, .unset, .unset, .unset, .unset, .unset, .unset, .unset] [(.int ((vp >>> ((2 : Int32) &&& 31)) &&& (1 : Int32)))])) _
      refine XS.iconst X2.here hx rfl (hb hby at_65) ?_
      show Steps p.tables e below (T2.setTop (mkF m 66 #[.val (.long va), .second, .val (.long vb), .second, .val (.long vc), .second, .val (.int vp), .val (.long (1000000 : Int64)), .second, .val (.long vt), .second, .val (.int (vp &&& (3 : Int32))), .val (.long vg0), .second, .unset, .unset, .unset, .unset, .unset, .unset, .unset, .unset] [(.int (1 : Int32)), (.int ((vp >>> ((2 : Int32) &&& 31)) &&& (1 : Int32)))])) _
      exact k
    by_cases hc11 : ((vp >>> ((2 : Int32) &&& 31)) &&& (1 : Int32)) = (1 : Int32)
    · refine ⟨(0 : Int64), T2, _, X2, Nj2, ej2, ⟨by decide, by rw [own_zero]; omega⟩, fun t k => ?_⟩
      refine pre10 t ?_
      show Steps p.tables e below (T2.setTop (mkF m 66 #[.val (.long va), .second, .val (.long vb), .second, .val (.long vc), .second, .val (.int vp), .val (.long (1000000 : Int64)), .second, .val (.long vt), .second, .val (.int (vp &&& (3 : Int32))), .val (.long vg0), .second, .unset, .unset, .unset, .unset, .unset, .unset, .unset, .unset] [(.int (1 : Int32)), (.int ((vp >>> ((2 : Int32) &&& 31)) &&& (1 : Int32)))])) _
      refine XS.icmpNo X2.here hx rfl (hb hby at_66) rfl (teq hc11).2 ?_
      show Steps p.tables e below (T2.setTop (mkF m 69 #[.val (.long va), .second, .val (.long vb), .second, .val (.long vc), .second, .val (.int vp), .val (.long (1000000 : Int64)), .second, .val (.long vt), .second, .val (.int (vp &&& (3 : Int32))), .val (.long vg0), .second, .unset, .unset, .unset, .unset, .unset, .unset, .unset, .unset] [])) _
      refine XS.lconst X2.here hx rfl (hb hby at_69) ?_
      show Steps p.tables e below (T2.setTop (mkF m 70 #[.val (.long va), .second, .val (.long vb), .second, .val (.long vc), .second, .val (.int vp), .val (.long (1000000 : Int64)), .second, .val (.long vt), .second, .val (.int (vp &&& (3 : Int32))), .val (.long vg0), .second, .unset, .unset, .unset, .unset, .unset, .unset, .unset, .unset] [(.long (0 : Int64))])) _
      refine XS.lstore X2.here hx rfl (hb hby at_70) rfl (l' := #[.val (.long va), .second, .val (.long vb), .second, .val (.long vc), .second, .val (.int vp), .val (.long (1000000 : Int64)), .second, .val (.long vt), .second, .val (.int (vp &&& (3 : Int32))), .val (.long (0 : Int64)), .second, .unset, .unset, .unset, .unset, .unset, .unset, .unset, .unset]) rfl ?_
      show Steps p.tables e below (T2.setTop (mkF m 72 #[.val (.long va), .second, .val (.long vb), .second, .val (.long vc), .second, .val (.int vp), .val (.long (1000000 : Int64)), .second, .val (.long vt), .second, .val (.int (vp &&& (3 : Int32))), .val (.long (0 : Int64)), .second, .unset, .unset, .unset, .unset, .unset, .unset, .unset, .unset] [])) _
      exact k
    · refine ⟨vg0, T2, _, X2, Nj2, ej2, b2, fun t k => ?_⟩
      refine pre10 t ?_
      show Steps p.tables e below (T2.setTop (mkF m 66 #[.val (.long va), .second, .val (.long vb), .second, .val (.long vc), .second, .val (.int vp), .val (.long (1000000 : Int64)), .second, .val (.long vt), .second, .val (.int (vp &&& (3 : Int32))), .val (.long vg0), .second, .unset, .unset, .unset, .unset, .unset, .unset, .unset, .unset] [(.int (1 : Int32)), (.int ((vp >>> ((2 : Int32) &&& 31)) &&& (1 : Int32)))])) _
      refine XS.icmpYes X2.here hx rfl (pc0 := 66) (pc' := 72) rfl (hb hby at_66) rfl (feq hc11).2 (by decide) (by decide) ?_
      show Steps p.tables e below (T2.setTop (mkF m 72 #[.val (.long va), .second, .val (.long vb), .second, .val (.long vc), .second, .val (.int vp), .val (.long (1000000 : Int64)), .second, .val (.long vt), .second, .val (.int (vp &&& (3 : Int32))), .val (.long vg0), .second, .unset, .unset, .unset, .unset, .unset, .unset, .unset, .unset] [])) _
      exact k
  have b3 := hj9
  have a2 : (vg + (1 : Int64)).toInt = vg.toInt + 1 := by rw [own_add (by rw [own_one]; omega) (by rw [own_one]; omega), own_one]
  have pre12 : ∀ t, Steps p.tables e below (T9.setTop (mkF m 85 #[.val (.long va), .second, .val (.long vb), .second, .val (.long vc), .second, .val (.int vp), .val (.long (1000000 : Int64)), .second, .val (.long vt), .second, .val (.int (vp &&& (3 : Int32))), .val (.long vg), .second, .val (.long ((vc &&& (9223372036854775807 : Int64)) - ((vc &&& (9223372036854775807 : Int64)) / (vg + (1 : Int64))) * (vg + (1 : Int64)))), .second, .unset, .unset, .unset, .unset, .unset, .unset] [])) t → Steps p.tables e below (s₁.setTop (entryFrame m #[(.long va), (.long vb), (.long vc), (.int vp)] maxLocals)) t := by
    intro t k
    refine pre9 t ?_
    show Steps p.tables e below (T9.setTop (mkF m 72 #[.val (.long va), .second, .val (.long vb), .second, .val (.long vc), .second, .val (.int vp), .val (.long (1000000 : Int64)), .second, .val (.long vt), .second, .val (.int (vp &&& (3 : Int32))), .val (.long vg), .second, .unset, .unset, .unset, .unset, .unset, .unset, .unset, .unset] [])) _
    refine XS.lload X9.here hx rfl (hb hby at_72) rfl ?_
    show Steps p.tables e below (T9.setTop (mkF m 74 #[.val (.long va), .second, .val (.long vb), .second, .val (.long vc), .second, .val (.int vp), .val (.long (1000000 : Int64)), .second, .val (.long vt), .second, .val (.int (vp &&& (3 : Int32))), .val (.long vg), .second, .unset, .unset, .unset, .unset, .unset, .unset, .unset, .unset] [(.long vc)])) _
    refine X9.ldc2Long hx hown (mvT hZ (hw _ (List.mem_of_getElem? (i := 1) rfl))) (g := (mkF m 74 #[.val (.long va), .second, .val (.long vb), .second, .val (.long vc), .second, .val (.int vp), .val (.long (1000000 : Int64)), .second, .val (.long vt), .second, .val (.int (vp &&& (3 : Int32))), .val (.long vg), .second, .unset, .unset, .unset, .unset, .unset, .unset, .unset, .unset] [(.long vc)])) rfl (hb hby at_74) _ ?_
    show Steps p.tables e below (T9.setTop (mkF m 77 #[.val (.long va), .second, .val (.long vb), .second, .val (.long vc), .second, .val (.int vp), .val (.long (1000000 : Int64)), .second, .val (.long vt), .second, .val (.int (vp &&& (3 : Int32))), .val (.long vg), .second, .unset, .unset, .unset, .unset, .unset, .unset, .unset, .unset] [(.long (9223372036854775807 : Int64)), (.long vc)])) _
    refine XS.land X9.here hx rfl (hb hby at_77) rfl ?_
    show Steps p.tables e below (T9.setTop (mkF m 78 #[.val (.long va), .second, .val (.long vb), .second, .val (.long vc), .second, .val (.int vp), .val (.long (1000000 : Int64)), .second, .val (.long vt), .second, .val (.int (vp &&& (3 : Int32))), .val (.long vg), .second, .unset, .unset, .unset, .unset, .unset, .unset, .unset, .unset] [(.long (vc &&& (9223372036854775807 : Int64)))])) _
    refine XS.lload X9.here hx rfl (hb hby at_78) rfl ?_
    show Steps p.tables e below (T9.setTop (mkF m 80 #[.val (.long va), .second, .val (.long vb), .second, .val (.long vc), .second, .val (.int vp), .val (.long (1000000 : Int64)), .second, .val (.long vt), .second, .val (.int (vp &&& (3 : Int32))), .val (.long vg), .second, .unset, .unset, .unset, .unset, .unset, .unset, .unset, .unset] [(.long vg), (.long (vc &&& (9223372036854775807 : Int64)))])) _
    refine XS.lconst X9.here hx rfl (hb hby at_80) ?_
    show Steps p.tables e below (T9.setTop (mkF m 81 #[.val (.long va), .second, .val (.long vb), .second, .val (.long vc), .second, .val (.int vp), .val (.long (1000000 : Int64)), .second, .val (.long vt), .second, .val (.int (vp &&& (3 : Int32))), .val (.long vg), .second, .unset, .unset, .unset, .unset, .unset, .unset, .unset, .unset] [(.long (1 : Int64)), (.long vg), (.long (vc &&& (9223372036854775807 : Int64)))])) _
    refine XS.ladd X9.here hx rfl (hb hby at_81) rfl ?_
    show Steps p.tables e below (T9.setTop (mkF m 82 #[.val (.long va), .second, .val (.long vb), .second, .val (.long vc), .second, .val (.int vp), .val (.long (1000000 : Int64)), .second, .val (.long vt), .second, .val (.int (vp &&& (3 : Int32))), .val (.long vg), .second, .unset, .unset, .unset, .unset, .unset, .unset, .unset, .unset] [(.long (vg + (1 : Int64))), (.long (vc &&& (9223372036854775807 : Int64)))])) _
    refine XS.lrem X9.here hx rfl (hb hby at_82) rfl (own_nz (by omega)) ?_
    show Steps p.tables e below (T9.setTop (mkF m 83 #[.val (.long va), .second, .val (.long vb), .second, .val (.long vc), .second, .val (.int vp), .val (.long (1000000 : Int64)), .second, .val (.long vt), .second, .val (.int (vp &&& (3 : Int32))), .val (.long vg), .second, .unset, .unset, .unset, .unset, .unset, .unset, .unset, .unset] [(.long ((vc &&& (9223372036854775807 : Int64)) - ((vc &&& (9223372036854775807 : Int64)) / (vg + (1 : Int64))) * (vg + (1 : Int64))))])) _
    refine XS.lstore X9.here hx rfl (hb hby at_83) rfl (l' := #[.val (.long va), .second, .val (.long vb), .second, .val (.long vc), .second, .val (.int vp), .val (.long (1000000 : Int64)), .second, .val (.long vt), .second, .val (.int (vp &&& (3 : Int32))), .val (.long vg), .second, .val (.long ((vc &&& (9223372036854775807 : Int64)) - ((vc &&& (9223372036854775807 : Int64)) / (vg + (1 : Int64))) * (vg + (1 : Int64)))), .second, .unset, .unset, .unset, .unset, .unset, .unset]) rfl ?_
    show Steps p.tables e below (T9.setTop (mkF m 85 #[.val (.long va), .second, .val (.long vb), .second, .val (.long vc), .second, .val (.int vp), .val (.long (1000000 : Int64)), .second, .val (.long vt), .second, .val (.int (vp &&& (3 : Int32))), .val (.long vg), .second, .val (.long ((vc &&& (9223372036854775807 : Int64)) - ((vc &&& (9223372036854775807 : Int64)) / (vg + (1 : Int64))) * (vg + (1 : Int64)))), .second, .unset, .unset, .unset, .unset, .unset, .unset] [])) _
    exact k
  obtain ⟨vh0, h_vh0⟩ : ∃ z : Int64, z = ((vc &&& (9223372036854775807 : Int64)) - ((vc &&& (9223372036854775807 : Int64)) / (vg + (1 : Int64))) * (vg + (1 : Int64))) := ⟨_, rfl⟩
  have pre13 : ∀ t, Steps p.tables e below (T9.setTop (mkF m 85 #[.val (.long va), .second, .val (.long vb), .second, .val (.long vc), .second, .val (.int vp), .val (.long (1000000 : Int64)), .second, .val (.long vt), .second, .val (.int (vp &&& (3 : Int32))), .val (.long vg), .second, .val (.long vh0), .second, .unset, .unset, .unset, .unset, .unset, .unset] [])) t → Steps p.tables e below (s₁.setTop (entryFrame m #[(.long va), (.long vb), (.long vc), (.int vp)] maxLocals)) t := by
    subst h_vh0
    exact pre12
  have b4 : 0 ≤ vh0.toInt ∧ vh0.toInt ≤ vg.toInt := by have q := own_rem vc (vg + (1 : Int64)) (by omega); rw [← h_vh0] at q; omega
  obtain ⟨vh, T14, lo14, X14, Nj14, ej14, hj14, pre14⟩ : ∃ (vh : Int64) (T' : State) (lo : List Loc), Stand p l e room_1 s m #[(.long va), (.long vb), (.long vc), (.int vp)] below meth c T' lo 0 0 ∧ Fr n0 lo ∧ T'.heap = h0 ∧ (0 ≤ vh.toInt ∧ vh.toInt ≤ vg.toInt) ∧ ∀ t, Steps p.tables e below (T'.setTop (mkF m 99 #[.val (.long va), .second, .val (.long vb), .second, .val (.long vc), .second, .val (.int vp), .val (.long (1000000 : Int64)), .second, .val (.long vt), .second, .val (.int (vp &&& (3 : Int32))), .val (.long vg), .second, .val (.long vh), .second, .unset, .unset, .unset, .unset, .unset, .unset] [])) t → Steps p.tables e below (s₁.setTop (entryFrame m #[(.long va), (.long vb), (.long vc), (.int vp)] maxLocals)) t := by
    have pre15 : ∀ t, Steps p.tables e below (T9.setTop (mkF m 92 #[.val (.long va), .second, .val (.long vb), .second, .val (.long vc), .second, .val (.int vp), .val (.long (1000000 : Int64)), .second, .val (.long vt), .second, .val (.int (vp &&& (3 : Int32))), .val (.long vg), .second, .val (.long vh0), .second, .unset, .unset, .unset, .unset, .unset, .unset] [(.int (1 : Int32)), (.int ((vp >>> ((3 : Int32) &&& 31)) &&& (1 : Int32)))])) t → Steps p.tables e below (s₁.setTop (entryFrame m #[(.long va), (.long vb), (.long vc), (.int vp)] maxLocals)) t := by
      intro t k
      refine pre13 t ?_
      show Steps p.tables e below (T9.setTop (mkF m 85 #[.val (.long va), .second, .val (.long vb), .second, .val (.long vc), .second, .val (.int vp), .val (.long (1000000 : Int64)), .second, .val (.long vt), .second, .val (.int (vp &&& (3 : Int32))), .val (.long vg), .second, .val (.long vh0), .second, .unset, .unset, .unset, .unset, .unset, .unset] [])) _
      refine XS.iload X9.here hx rfl (hb hby at_85) rfl ?_
      show Steps p.tables e below (T9.setTop (mkF m 87 #[.val (.long va), .second, .val (.long vb), .second, .val (.long vc), .second, .val (.int vp), .val (.long (1000000 : Int64)), .second, .val (.long vt), .second, .val (.int (vp &&& (3 : Int32))), .val (.long vg), .second, .val (.long vh0), .second, .unset, .unset, .unset, .unset, .unset, .unset] [(.int vp)])) _
      refine XS.iconst X9.here hx rfl (hb hby at_87) ?_
      show Steps p.tables e below (T9.setTop (mkF m 88 #[.val (.long va), .second, .val (.long vb), .second, .val (.long vc), .second, .val (.int vp), .val (.long (1000000 : Int64)), .second, .val (.long vt), .second, .val (.int (vp &&& (3 : Int32))), .val (.long vg), .second, .val (.long vh0), .second, .unset, .unset, .unset, .unset, .unset, .unset] [(.int (3 : Int32)), (.int vp)])) _
      refine XS.ishr X9.here hx rfl (hb hby at_88) rfl ?_
      show Steps p.tables e below (T9.setTop (mkF m 89 #[.val (.long va), .second, .val (.long vb), .second, .val (.long vc), .second, .val (.int vp), .val (.long (1000000 : Int64)), .second, .val (.long vt), .second, .val (.int (vp &&& (3 : Int32))), .val (.long vg), .second, .val (.long vh0), .second, .unset, .unset, .unset, .unset, .unset, .unset] [(.int (vp >>> ((3 : Int32) &&& 31)))])) _
      refine XS.iconst X9.here hx rfl (hb hby at_89) ?_
      show Steps p.tables e below (T9.setTop (mkF m 90 #[.val (.long va), .second, .val (.long vb), .second, .val (.long vc), .second, .val (.int vp), .val (.long (1000000 : Int64)), .second, .val (.long vt), .second, .val (.int (vp &&& (3 : Int32))), .val (.long vg), .second, .val (.long vh0), .second, .unset, .unset, .unset, .unset, .unset, .unset] [(.int (1 : Int32)), (.int (vp >>> ((3 : Int32) &&& 31)))])) _
      refine XS.iand X9.here hx rfl (hb hby at_90) rfl ?_
      show Steps p.tables e below (T9.setTop (mkF m 91 #[.val (.long va), .second, .val (.long vb), .second, .val (.long vc), .second, .val (.int vp), .val (.long (1000000 : Int64)), .second, .val (.long vt), .second, .val (.int (vp &&& (3 : Int32))), .val (.long vg), .second, .val (.long vh0), .second, .unset, .unset, .unset, .unset, .unset, .unset] [(.int ((vp >>> ((3 : Int32) &&& 31)) &&& (1 : Int32)))])) _
      refine XS.iconst X9.here hx rfl (hb hby at_91) ?_
      show Steps p.tables e below (T9.setTop (mkF m 92 #[.val (.long va), .second, .val (.long vb), .second, .val (.long vc), .second, .val (.int vp), .val (.long (1000000 : Int64)), .second, .val (.long vt), .second, .val (.int (vp &&& (3 : Int32))), .val (.long vg), .second, .val (.long vh0), .second, .unset, .unset, .unset, .unset, .unset, .unset] [(.int (1 : Int32)), (.int ((vp >>> ((3 : Int32) &&& 31)) &&& (1 : Int32)))])) _
      exact k
    by_cases hc16 : ((vp >>> ((3 : Int32) &&& 31)) &&& (1 : Int32)) = (1 : Int32)
    · refine ⟨vg, T9, _, X9, Nj9, ej9, ⟨b3.1, by omega⟩, fun t k => ?_⟩
      refine pre15 t ?_
      show Steps p.tables e below (T9.setTop (mkF m 92 #[.val (.long va), .second, .val (.long vb), .second, .val (.long vc), .second, .val (.int vp), .val (.long (1000000 : Int64)), .second, .val (.long vt), .second, .val (.int (vp &&& (3 : Int32))), .val (.long vg), .second, .val (.long vh0), .second, .unset, .unset, .unset, .unset, .unset, .unset] [(.int (1 : Int32)), (.int ((vp >>> ((3 : Int32) &&& 31)) &&& (1 : Int32)))])) _
      refine XS.icmpNo X9.here hx rfl (hb hby at_92) rfl (teq hc16).2 ?_
      show Steps p.tables e below (T9.setTop (mkF m 95 #[.val (.long va), .second, .val (.long vb), .second, .val (.long vc), .second, .val (.int vp), .val (.long (1000000 : Int64)), .second, .val (.long vt), .second, .val (.int (vp &&& (3 : Int32))), .val (.long vg), .second, .val (.long vh0), .second, .unset, .unset, .unset, .unset, .unset, .unset] [])) _
      refine XS.lload X9.here hx rfl (hb hby at_95) rfl ?_
      show Steps p.tables e below (T9.setTop (mkF m 97 #[.val (.long va), .second, .val (.long vb), .second, .val (.long vc), .second, .val (.int vp), .val (.long (1000000 : Int64)), .second, .val (.long vt), .second, .val (.int (vp &&& (3 : Int32))), .val (.long vg), .second, .val (.long vh0), .second, .unset, .unset, .unset, .unset, .unset, .unset] [(.long vg)])) _
      refine XS.lstore X9.here hx rfl (hb hby at_97) rfl (l' := #[.val (.long va), .second, .val (.long vb), .second, .val (.long vc), .second, .val (.int vp), .val (.long (1000000 : Int64)), .second, .val (.long vt), .second, .val (.int (vp &&& (3 : Int32))), .val (.long vg), .second, .val (.long vg), .second, .unset, .unset, .unset, .unset, .unset, .unset]) rfl ?_
      show Steps p.tables e below (T9.setTop (mkF m 99 #[.val (.long va), .second, .val (.long vb), .second, .val (.long vc), .second, .val (.int vp), .val (.long (1000000 : Int64)), .second, .val (.long vt), .second, .val (.int (vp &&& (3 : Int32))), .val (.long vg), .second, .val (.long vg), .second, .unset, .unset, .unset, .unset, .unset, .unset] [])) _
      exact k
    · refine ⟨vh0, T9, _, X9, Nj9, ej9, b4, fun t k => ?_⟩
      refine pre15 t ?_
      show Steps p.tables e below (T9.setTop (mkF m 92 #[.val (.long va), .second, .val (.long vb), .second, .val (.long vc), .second, .val (.int vp), .val (.long (1000000 : Int64)), .second, .val (.long vt), .second, .val (.int (vp &&& (3 : Int32))), .val (.long vg), .second, .val (.long vh0), .second, .unset, .unset, .unset, .unset, .unset, .unset] [(.int (1 : Int32)), (.int ((vp >>> ((3 : Int32) &&& 31)) &&& (1 : Int32)))])) _
      refine XS.icmpYes X9.here hx rfl (pc0 := 92) (pc' := 99) rfl (hb hby at_92) rfl (feq hc16).2 (by decide) (by decide) ?_
      show Steps p.tables e below (T9.setTop (mkF m 99 #[.val (.long va), .second, .val (.long vb), .second, .val (.long vc), .second, .val (.int vp), .val (.long (1000000 : Int64)), .second, .val (.long vt), .second, .val (.int (vp &&& (3 : Int32))), .val (.long vg), .second, .val (.long vh0), .second, .unset, .unset, .unset, .unset, .unset, .unset] [])) _
      exact k
  have b5 := hj14
  have pre17 : ∀ t, Steps p.tables e below (T14.setTop (mkF m 106 #[.val (.long va), .second, .val (.long vb), .second, .val (.long vc), .second, .val (.int vp), .val (.long (1000000 : Int64)), .second, .val (.long vt), .second, .val (.int (vp &&& (3 : Int32))), .val (.long vg), .second, .val (.long vh), .second, .val (.long (vt - vg)), .second, .unset, .unset, .unset, .unset] [])) t → Steps p.tables e below (s₁.setTop (entryFrame m #[(.long va), (.long vb), (.long vc), (.int vp)] maxLocals)) t := by
    intro t k
    refine pre14 t ?_
    show Steps p.tables e below (T14.setTop (mkF m 99 #[.val (.long va), .second, .val (.long vb), .second, .val (.long vc), .second, .val (.int vp), .val (.long (1000000 : Int64)), .second, .val (.long vt), .second, .val (.int (vp &&& (3 : Int32))), .val (.long vg), .second, .val (.long vh), .second, .unset, .unset, .unset, .unset, .unset, .unset] [])) _
    refine XS.lload X14.here hx rfl (hb hby at_99) rfl ?_
    show Steps p.tables e below (T14.setTop (mkF m 101 #[.val (.long va), .second, .val (.long vb), .second, .val (.long vc), .second, .val (.int vp), .val (.long (1000000 : Int64)), .second, .val (.long vt), .second, .val (.int (vp &&& (3 : Int32))), .val (.long vg), .second, .val (.long vh), .second, .unset, .unset, .unset, .unset, .unset, .unset] [(.long vt)])) _
    refine XS.lload X14.here hx rfl (hb hby at_101) rfl ?_
    show Steps p.tables e below (T14.setTop (mkF m 103 #[.val (.long va), .second, .val (.long vb), .second, .val (.long vc), .second, .val (.int vp), .val (.long (1000000 : Int64)), .second, .val (.long vt), .second, .val (.int (vp &&& (3 : Int32))), .val (.long vg), .second, .val (.long vh), .second, .unset, .unset, .unset, .unset, .unset, .unset] [(.long vg), (.long vt)])) _
    refine XS.lsub X14.here hx rfl (hb hby at_103) rfl ?_
    show Steps p.tables e below (T14.setTop (mkF m 104 #[.val (.long va), .second, .val (.long vb), .second, .val (.long vc), .second, .val (.int vp), .val (.long (1000000 : Int64)), .second, .val (.long vt), .second, .val (.int (vp &&& (3 : Int32))), .val (.long vg), .second, .val (.long vh), .second, .unset, .unset, .unset, .unset, .unset, .unset] [(.long (vt - vg))])) _
    refine XS.lstore X14.here hx rfl (hb hby at_104) rfl (l' := #[.val (.long va), .second, .val (.long vb), .second, .val (.long vc), .second, .val (.int vp), .val (.long (1000000 : Int64)), .second, .val (.long vt), .second, .val (.int (vp &&& (3 : Int32))), .val (.long vg), .second, .val (.long vh), .second, .val (.long (vt - vg)), .second, .unset, .unset, .unset, .unset]) rfl ?_
    show Steps p.tables e below (T14.setTop (mkF m 106 #[.val (.long va), .second, .val (.long vb), .second, .val (.long vc), .second, .val (.int vp), .val (.long (1000000 : Int64)), .second, .val (.long vt), .second, .val (.int (vp &&& (3 : Int32))), .val (.long vg), .second, .val (.long vh), .second, .val (.long (vt - vg)), .second, .unset, .unset, .unset, .unset] [])) _
    exact k
  obtain ⟨vs, h_vs⟩ : ∃ z : Int64, z = (vt - vg) := ⟨_, rfl⟩
  have pre18 : ∀ t, Steps p.tables e below (T14.setTop (mkF m 106 #[.val (.long va), .second, .val (.long vb), .second, .val (.long vc), .second, .val (.int vp), .val (.long (1000000 : Int64)), .second, .val (.long vt), .second, .val (.int (vp &&& (3 : Int32))), .val (.long vg), .second, .val (.long vh), .second, .val (.long vs), .second, .unset, .unset, .unset, .unset] [])) t → Steps p.tables e below (s₁.setTop (entryFrame m #[(.long va), (.long vb), (.long vc), (.int vp)] maxLocals)) t := by
    subst h_vs
    exact pre17
  have e1 : vs.toInt = vt.toInt - vg.toInt := by rw [h_vs]; exact own_sub (by omega) (by omega)
  have hok : own_ok vt vh vs := ⟨b1.1, b1.2, b5.1, by omega, by omega⟩
  have e2 : (vs + vh).toInt = vs.toInt + vh.toInt := own_add (by omega) (by omega)
  obtain ⟨T19, h19, X19, e19, E19, A19, D19, U19, st19⟩ := newO X14 hx hZ hown (hw _ (List.mem_of_getElem? (i := 2) rfl)) (hw _ (List.mem_of_getElem? (i := 3) rfl)) (hw _ (List.mem_of_getElem? (i := 4) rfl)) ej14 (g := (mkF m 106 #[.val (.long va), .second, .val (.long vb), .second, .val (.long vc), .second, .val (.int vp), .val (.long (1000000 : Int64)), .second, .val (.long vt), .second, .val (.int (vp &&& (3 : Int32))), .val (.long vg), .second, .val (.long vh), .second, .val (.long vs), .second, .unset, .unset, .unset, .unset] [])) rfl (hb hby at_106) (by decide) (by decide)
  obtain ⟨b19, g19⟩ : ∃ z, z = h0.size := ⟨_, rfl⟩
  rw [← g19] at A19 D19 U19 st19
  have g_b19 : n0 ≤ b19 := Nat.le_trans Z0 (Nat.le_of_eq g19.symm)
  have Zp20 : n0 ≤ h19.size := Nat.le_trans Z0 E19.1
  have Fn21 : Fld Z h19 b19 "com/example/turnstyle/turnstyle/domain/Stock" "total" "J" (.long (0 : Int64)) := D19 (Or.inr (hw _ (List.mem_of_getElem? (i := 16) rfl))) (ty := .long) (by decide)
  have Fn22 : Fld Z h19 b19 "com/example/turnstyle/turnstyle/domain/Stock" "held" "J" (.long (0 : Int64)) := D19 (Or.inr (hw _ (List.mem_of_getElem? (i := 18) rfl))) (ty := .long) (by decide)
  have Fn23 : Fld Z h19 b19 "com/example/turnstyle/turnstyle/domain/Stock" "sold" "J" (.long (0 : Int64)) := D19 (Or.inr (hw _ (List.mem_of_getElem? (i := 20) rfl))) (ty := .long) (by decide)
  obtain ⟨_, _, ⟨T24, L24, k24, n24⟩, -, X24, ⟨Lc24, hQ24, l24, y24, z24⟩, st24⟩ := X19.specialBack hx (y := (⟨"com/example/turnstyle/turnstyle/domain/Stock", "<init>", "(JJJ)V"⟩ : MethodName)) rfl hown (mvT hZ (hw _ (List.mem_of_getElem? (i := 5) rfl))) (mvT hZ (hw _ (List.mem_of_getElem? (i := 6) rfl))) (mvT hZ (hw _ (List.mem_of_getElem? (i := 7) rfl))) (by decide) (backOf (W := 1) (rm_in l Z a0 hw [] b19 vt vh vs h19 n0 Zp20 A19 g_b19 Fn21 Fn22 Fn23 hok) hZ (hw _ (List.mem_of_getElem? (i := 7) rfl)) (hw _ (List.mem_of_getElem? (i := 4) rfl)) (by decide) (by decide)) (g := (mkF m 116 #[.val (.long va), .second, .val (.long vb), .second, .val (.long vc), .second, .val (.int vp), .val (.long (1000000 : Int64)), .second, .val (.long vt), .second, .val (.int (vp &&& (3 : Int32))), .val (.long vg), .second, .val (.long vh), .second, .val (.long vs), .second, .unset, .unset, .unset, .unset] [(.long vs), (.long vh), (.long vt), (.ref b19), (.ref b19)])) rfl (by rw [hml]; rfl) (Steps.refl _) (a := b19) (argsL := [(.long vt), (.long vh), (.long vs)]) (rest := [(.ref b19)]) (lenOf own_pd1 rfl) rfl (by show 2 * 0 + _ ≤ _; exact Nat.le_of_eq rfl) (hb hby at_116) (fun _ _ => ⟨rfl, e19, (by decide : 1 + 0 ≤ _), (by decide : 3 + 0 ≤ _)⟩)
  dsimp only [Pt.U, Pt.locs, Pt.cells, Pt.slots] at X24 l24 y24 z24 st24 hQ24
  subst l24 y24 z24
  obtain ⟨rfl, Nq24, K24, Ex24, Fx24_0, Fx24_1, Fx24_2⟩ := hQ24
  have Nf24 := Fr.app Nj14 Nq24
  have Zp25 : n0 ≤ T24.heap.size := Nat.le_trans Zp20 K24.1
  obtain ⟨cq27, kq27, q27a, q27b, q27c⟩ := isOf hZ rfl Ex24
  obtain ⟨_, _, ⟨T26, L26, k26, n26⟩, -, X26, ⟨Lc26, hQ26, l26, y26, z26⟩, st26⟩ := X24.virtualBack hx (y := (⟨"com/example/turnstyle/turnstyle/domain/Stock", "isSoldOut", "()Z"⟩ : MethodName)) (z := (⟨"com/example/turnstyle/turnstyle/domain/Stock", "isSoldOut", "()Z"⟩ : MethodName)) hown (mvT hZ (hw _ (List.mem_of_getElem? (i := 21) rfl))) (mvT hZ (hw _ (List.mem_of_getElem? (i := 22) rfl))) (notFace_of_selects (args := #[]) (mvT hZ (hw _ (List.mem_of_getElem? (i := 24) rfl)))) (mvT hZ (hw _ (List.mem_of_getElem? (i := 24) rfl))) (mvT hZ (hw _ (List.mem_of_getElem? (i := 23) rfl))) (by decide) (backOf (W := 0) (rm_so l Z a0 hw [] b19 vt vh vs T24.heap n0 Zp25 Fx24_0 Fx24_1 Fx24_2) hZ (hw _ (List.mem_of_getElem? (i := 25) rfl)) (hw _ (List.mem_of_getElem? (i := 4) rfl)) (by decide) (by decide)) q27a q27c (g := (mkF m 123 #[.val (.long va), .second, .val (.long vb), .second, .val (.long vc), .second, .val (.int vp), .val (.long (1000000 : Int64)), .second, .val (.long vt), .second, .val (.int (vp &&& (3 : Int32))), .val (.long vg), .second, .val (.long vh), .second, .val (.long vs), .second, .val (.ref b19), .unset, .unset, .unset] [(.ref b19)])) rfl (by rw [hml]; rfl) (Steps.refl _) (argsL := []) (rest := []) (lenOf own_pd2 rfl) rfl (by show 2 * 0 + _ ≤ _; exact Nat.le_of_eq rfl) (hb hby at_123) (fun _ _ => ⟨rfl, rfl, (by decide : 1 + 0 ≤ _), (by decide : 3 + 0 ≤ _)⟩)
  dsimp only [Pt.U, Pt.locs, Pt.cells, Pt.slots] at X26 l26 y26 z26 st26 hQ26
  subst l26 y26 z26
  obtain ⟨rfl, Nq26, hh26⟩ := hQ26
  have Nf26 := Fr.app Nf24 Nq26
  have pre28 : ∀ t, Steps p.tables e below (T26.setTop (mkF m 126 #[.val (.long va), .second, .val (.long vb), .second, .val (.long vc), .second, .val (.int vp), .val (.long (1000000 : Int64)), .second, .val (.long vt), .second, .val (.int (vp &&& (3 : Int32))), .val (.long vg), .second, .val (.long vh), .second, .val (.long vs), .second, .val (.ref b19), .unset, .unset, .unset] [(.int (if vs = vt then 1 else 0))])) t → Steps p.tables e below (s₁.setTop (entryFrame m #[(.long va), (.long vb), (.long vc), (.int vp)] maxLocals)) t := by
    intro t k
    refine pre18 t ?_
    show Steps p.tables e below (T14.setTop (mkF m 106 #[.val (.long va), .second, .val (.long vb), .second, .val (.long vc), .second, .val (.int vp), .val (.long (1000000 : Int64)), .second, .val (.long vt), .second, .val (.int (vp &&& (3 : Int32))), .val (.long vg), .second, .val (.long vh), .second, .val (.long vs), .second, .unset, .unset, .unset, .unset] [])) _
    refine st19 _ ?_
    show Steps p.tables e below (T19.setTop (mkF m 109 #[.val (.long va), .second, .val (.long vb), .second, .val (.long vc), .second, .val (.int vp), .val (.long (1000000 : Int64)), .second, .val (.long vt), .second, .val (.int (vp &&& (3 : Int32))), .val (.long vg), .second, .val (.long vh), .second, .val (.long vs), .second, .unset, .unset, .unset, .unset] [(.ref b19)])) _
    refine XS.dup X19.here hx rfl (hb hby at_109) rfl rfl ?_
    show Steps p.tables e below (T19.setTop (mkF m 110 #[.val (.long va), .second, .val (.long vb), .second, .val (.long vc), .second, .val (.int vp), .val (.long (1000000 : Int64)), .second, .val (.long vt), .second, .val (.int (vp &&& (3 : Int32))), .val (.long vg), .second, .val (.long vh), .second, .val (.long vs), .second, .unset, .unset, .unset, .unset] [(.ref b19), (.ref b19)])) _
    refine XS.lload X19.here hx rfl (hb hby at_110) rfl ?_
    show Steps p.tables e below (T19.setTop (mkF m 112 #[.val (.long va), .second, .val (.long vb), .second, .val (.long vc), .second, .val (.int vp), .val (.long (1000000 : Int64)), .second, .val (.long vt), .second, .val (.int (vp &&& (3 : Int32))), .val (.long vg), .second, .val (.long vh), .second, .val (.long vs), .second, .unset, .unset, .unset, .unset] [(.long vt), (.ref b19), (.ref b19)])) _
    refine XS.lload X19.here hx rfl (hb hby at_112) rfl ?_
    show Steps p.tables e below (T19.setTop (mkF m 114 #[.val (.long va), .second, .val (.long vb), .second, .val (.long vc), .second, .val (.int vp), .val (.long (1000000 : Int64)), .second, .val (.long vt), .second, .val (.int (vp &&& (3 : Int32))), .val (.long vg), .second, .val (.long vh), .second, .val (.long vs), .second, .unset, .unset, .unset, .unset] [(.long vh), (.long vt), (.ref b19), (.ref b19)])) _
    refine XS.lload X19.here hx rfl (hb hby at_114) rfl ?_
    show Steps p.tables e below (T19.setTop (mkF m 116 #[.val (.long va), .second, .val (.long vb), .second, .val (.long vc), .second, .val (.int vp), .val (.long (1000000 : Int64)), .second, .val (.long vt), .second, .val (.int (vp &&& (3 : Int32))), .val (.long vg), .second, .val (.long vh), .second, .val (.long vs), .second, .unset, .unset, .unset, .unset] [(.long vs), (.long vh), (.long vt), (.ref b19), (.ref b19)])) _
    refine st24.trans ?_
    show Steps p.tables e below (T24.setTop (mkF m 119 #[.val (.long va), .second, .val (.long vb), .second, .val (.long vc), .second, .val (.int vp), .val (.long (1000000 : Int64)), .second, .val (.long vt), .second, .val (.int (vp &&& (3 : Int32))), .val (.long vg), .second, .val (.long vh), .second, .val (.long vs), .second, .unset, .unset, .unset, .unset] [(.ref b19)])) _
    refine XS.astore X24.here hx rfl (hb hby at_119) rfl rfl (l' := #[.val (.long va), .second, .val (.long vb), .second, .val (.long vc), .second, .val (.int vp), .val (.long (1000000 : Int64)), .second, .val (.long vt), .second, .val (.int (vp &&& (3 : Int32))), .val (.long vg), .second, .val (.long vh), .second, .val (.long vs), .second, .val (.ref b19), .unset, .unset, .unset]) rfl ?_
    show Steps p.tables e below (T24.setTop (mkF m 121 #[.val (.long va), .second, .val (.long vb), .second, .val (.long vc), .second, .val (.int vp), .val (.long (1000000 : Int64)), .second, .val (.long vt), .second, .val (.int (vp &&& (3 : Int32))), .val (.long vg), .second, .val (.long vh), .second, .val (.long vs), .second, .val (.ref b19), .unset, .unset, .unset] [])) _
    refine XS.aload X24.here hx rfl (hb hby at_121) rfl rfl ?_
    show Steps p.tables e below (T24.setTop (mkF m 123 #[.val (.long va), .second, .val (.long vb), .second, .val (.long vc), .second, .val (.int vp), .val (.long (1000000 : Int64)), .second, .val (.long vt), .second, .val (.int (vp &&& (3 : Int32))), .val (.long vg), .second, .val (.long vh), .second, .val (.long vs), .second, .val (.ref b19), .unset, .unset, .unset] [(.ref b19)])) _
    refine st26.trans ?_
    show Steps p.tables e below (T26.setTop (mkF m 126 #[.val (.long va), .second, .val (.long vb), .second, .val (.long vc), .second, .val (.int vp), .val (.long (1000000 : Int64)), .second, .val (.long vt), .second, .val (.int (vp &&& (3 : Int32))), .val (.long vg), .second, .val (.long vh), .second, .val (.long vs), .second, .val (.ref b19), .unset, .unset, .unset] [(.int (if vs = vt then 1 else 0))])) _
    exact k
  obtain ⟨vb1, T29, lo29, X29, Nj29, ej29, hj29, pre29⟩ : ∃ (vb1 : Int32) (T' : State) (lo : List Loc), Stand p l e room_1 s m #[(.long va), (.long vb), (.long vc), (.int vp)] below meth c T' lo 1 3 ∧ Fr n0 lo ∧ T'.heap = T24.heap ∧ (vb1 = if vg = 0 then 1 else 0) ∧ ∀ t, Steps p.tables e below (T'.setTop (mkF m 138 #[.val (.long va), .second, .val (.long vb), .second, .val (.long vc), .second, .val (.int vp), .val (.long (1000000 : Int64)), .second, .val (.long vt), .second, .val (.int (vp &&& (3 : Int32))), .val (.long vg), .second, .val (.long vh), .second, .val (.long vs), .second, .val (.ref b19), .unset, .unset, .unset] [(.int vb1), (.int (if vs = vt then 1 else 0))])) t → Steps p.tables e below (s₁.setTop (entryFrame m #[(.long va), (.long vb), (.long vc), (.int vp)] maxLocals)) t := by
    have pre30 : ∀ t, Steps p.tables e below (T26.setTop (mkF m 130 #[.val (.long va), .second, .val (.long vb), .second, .val (.long vc), .second, .val (.int vp), .val (.long (1000000 : Int64)), .second, .val (.long vt), .second, .val (.int (vp &&& (3 : Int32))), .val (.long vg), .second, .val (.long vh), .second, .val (.long vs), .second, .val (.ref b19), .unset, .unset, .unset] [(.int (lcmpW vg (0 : Int64))), (.int (if vs = vt then 1 else 0))])) t → Steps p.tables e below (s₁.setTop (entryFrame m #[(.long va), (.long vb), (.long vc), (.int vp)] maxLocals)) t := by
      intro t k
      refine pre28 t ?_
      show Steps p.tables e below (T26.setTop (mkF m 126 #[.val (.long va), .second, .val (.long vb), .second, .val (.long vc), .second, .val (.int vp), .val (.long (1000000 : Int64)), .second, .val (.long vt), .second, .val (.int (vp &&& (3 : Int32))), .val (.long vg), .second, .val (.long vh), .second, .val (.long vs), .second, .val (.ref b19), .unset, .unset, .unset] [(.int (if vs = vt then 1 else 0))])) _
      refine XS.lload X26.here hx rfl (hb hby at_126) rfl ?_
      show Steps p.tables e below (T26.setTop (mkF m 128 #[.val (.long va), .second, .val (.long vb), .second, .val (.long vc), .second, .val (.int vp), .val (.long (1000000 : Int64)), .second, .val (.long vt), .second, .val (.int (vp &&& (3 : Int32))), .val (.long vg), .second, .val (.long vh), .second, .val (.long vs), .second, .val (.ref b19), .unset, .unset, .unset] [(.long vg), (.int (if vs = vt then 1 else 0))])) _
      refine XS.lconst X26.here hx rfl (hb hby at_128) ?_
      show Steps p.tables e below (T26.setTop (mkF m 129 #[.val (.long va), .second, .val (.long vb), .second, .val (.long vc), .second, .val (.int vp), .val (.long (1000000 : Int64)), .second, .val (.long vt), .second, .val (.int (vp &&& (3 : Int32))), .val (.long vg), .second, .val (.long vh), .second, .val (.long vs), .second, .val (.ref b19), .unset, .unset, .unset] [(.long (0 : Int64)), (.long vg), (.int (if vs = vt then 1 else 0))])) _
      refine XS.lcmp X26.here hx rfl (hb hby at_129) rfl ?_
      show Steps p.tables e below (T26.setTop (mkF m 130 #[.val (.long va), .second, .val (.long vb), .second, .val (.long vc), .second, .val (.int vp), .val (.long (1000000 : Int64)), .second, .val (.long vt), .second, .val (.int (vp &&& (3 : Int32))), .val (.long vg), .second, .val (.long vh), .second, .val (.long vs), .second, .val (.ref b19), .unset, .unset, .unset] [(.int (lcmpW vg (0 : Int64))), (.int (if vs = vt then 1 else 0))])) _
      exact k
    by_cases hc31 : vg = (0 : Int64)
    · refine ⟨(1 : Int32), T26, _, X26, Nf26, hh26, (if_pos hc31).symm, fun t k => ?_⟩
      refine pre30 t ?_
      show Steps p.tables e below (T26.setTop (mkF m 130 #[.val (.long va), .second, .val (.long vb), .second, .val (.long vc), .second, .val (.int vp), .val (.long (1000000 : Int64)), .second, .val (.long vt), .second, .val (.int (vp &&& (3 : Int32))), .val (.long vg), .second, .val (.long vh), .second, .val (.long vs), .second, .val (.ref b19), .unset, .unset, .unset] [(.int (lcmpW vg (0 : Int64))), (.int (if vs = vt then 1 else 0))])) _
      refine XS.ifNo X26.here hx rfl (hb hby at_130) rfl ((if0 _ _).trans (teq ((lw_eq _ _).mpr hc31)).2) ?_
      show Steps p.tables e below (T26.setTop (mkF m 133 #[.val (.long va), .second, .val (.long vb), .second, .val (.long vc), .second, .val (.int vp), .val (.long (1000000 : Int64)), .second, .val (.long vt), .second, .val (.int (vp &&& (3 : Int32))), .val (.long vg), .second, .val (.long vh), .second, .val (.long vs), .second, .val (.ref b19), .unset, .unset, .unset] [(.int (if vs = vt then 1 else 0))])) _
      refine XS.iconst X26.here hx rfl (hb hby at_133) ?_
      show Steps p.tables e below (T26.setTop (mkF m 134 #[.val (.long va), .second, .val (.long vb), .second, .val (.long vc), .second, .val (.int vp), .val (.long (1000000 : Int64)), .second, .val (.long vt), .second, .val (.int (vp &&& (3 : Int32))), .val (.long vg), .second, .val (.long vh), .second, .val (.long vs), .second, .val (.ref b19), .unset, .unset, .unset] [(.int (1 : Int32)), (.int (if vs = vt then 1 else 0))])) _
      refine XS.goto X26.here hx rfl (pc0 := 134) (pc' := 138) rfl (hb hby at_134) (by decide) (by decide) ?_
      show Steps p.tables e below (T26.setTop (mkF m 138 #[.val (.long va), .second, .val (.long vb), .second, .val (.long vc), .second, .val (.int vp), .val (.long (1000000 : Int64)), .second, .val (.long vt), .second, .val (.int (vp &&& (3 : Int32))), .val (.long vg), .second, .val (.long vh), .second, .val (.long vs), .second, .val (.ref b19), .unset, .unset, .unset] [(.int (1 : Int32)), (.int (if vs = vt then 1 else 0))])) _
      exact k
    · refine ⟨(0 : Int32), T26, _, X26, Nf26, hh26, (if_neg hc31).symm, fun t k => ?_⟩
      refine pre30 t ?_
      show Steps p.tables e below (T26.setTop (mkF m 130 #[.val (.long va), .second, .val (.long vb), .second, .val (.long vc), .second, .val (.int vp), .val (.long (1000000 : Int64)), .second, .val (.long vt), .second, .val (.int (vp &&& (3 : Int32))), .val (.long vg), .second, .val (.long vh), .second, .val (.long vs), .second, .val (.ref b19), .unset, .unset, .unset] [(.int (lcmpW vg (0 : Int64))), (.int (if vs = vt then 1 else 0))])) _
      refine XS.ifYes X26.here hx rfl (pc0 := 130) (pc' := 137) rfl (hb hby at_130) rfl ((if0 _ _).trans (feq (mt (lw_eq _ _).mp hc31)).2) (by decide) (by decide) ?_
      show Steps p.tables e below (T26.setTop (mkF m 137 #[.val (.long va), .second, .val (.long vb), .second, .val (.long vc), .second, .val (.int vp), .val (.long (1000000 : Int64)), .second, .val (.long vt), .second, .val (.int (vp &&& (3 : Int32))), .val (.long vg), .second, .val (.long vh), .second, .val (.long vs), .second, .val (.ref b19), .unset, .unset, .unset] [(.int (if vs = vt then 1 else 0))])) _
      refine XS.iconst X26.here hx rfl (hb hby at_137) ?_
      show Steps p.tables e below (T26.setTop (mkF m 138 #[.val (.long va), .second, .val (.long vb), .second, .val (.long vc), .second, .val (.int vp), .val (.long (1000000 : Int64)), .second, .val (.long vt), .second, .val (.int (vp &&& (3 : Int32))), .val (.long vg), .second, .val (.long vh), .second, .val (.long vs), .second, .val (.ref b19), .unset, .unset, .unset] [(.int (0 : Int32)), (.int (if vs = vt then 1 else 0))])) _
      exact k
  have hd32 : (if vs = vt then 1 else 0) = vb1 := by rw [hj29]; exact own_ite (own_jiff (by rw [own_zero]; omega))
  obtain ⟨cq34, kq34, q34a, q34b, q34c⟩ := isOf hZ ej29 Ex24
  obtain ⟨_, _, ⟨T33, L33, k33, n33⟩, -, X33, ⟨Lc33, hQ33, l33, y33, z33⟩, st33⟩ := X29.virtualBack hx (y := (⟨"com/example/turnstyle/turnstyle/domain/Stock", "afterSelling", "(J)Lcom/example/turnstyle/turnstyle/domain/Stock;"⟩ : MethodName)) (z := (⟨"com/example/turnstyle/turnstyle/domain/Stock", "afterSelling", "(J)Lcom/example/turnstyle/turnstyle/domain/Stock;"⟩ : MethodName)) hown (mvT hZ (hw _ (List.mem_of_getElem? (i := 26) rfl))) (mvT hZ (hw _ (List.mem_of_getElem? (i := 27) rfl))) (notFace_of_selects (args := #[]) (mvT hZ (hw _ (List.mem_of_getElem? (i := 29) rfl)))) (mvT hZ (hw _ (List.mem_of_getElem? (i := 29) rfl))) (mvT hZ (hw _ (List.mem_of_getElem? (i := 28) rfl))) (by decide) (backOf (W := 0) (rm_as l Z a0 hw [] b19 vh vt vh vs T24.heap n0 Zp25 Fx24_0 Fx24_1 Fx24_2 Ex24 hok ⟨b5.1, Int.le_refl _⟩) hZ (hw _ (List.mem_of_getElem? (i := 30) rfl)) (hw _ (List.mem_of_getElem? (i := 4) rfl)) (by decide) (by decide)) q34a q34c (g := (mkF m 152 #[.val (.long va), .second, .val (.long vb), .second, .val (.long vc), .second, .val (.int vp), .val (.long (1000000 : Int64)), .second, .val (.long vt), .second, .val (.int (vp &&& (3 : Int32))), .val (.long vg), .second, .val (.long vh), .second, .val (.long vs), .second, .val (.ref b19), .val (.int (1 : Int32)), .unset, .unset] [(.long vh), (.ref b19)])) rfl (by rw [hml]; rfl) (Steps.refl _) (argsL := [(.long vh)]) (rest := []) (lenOf own_pd3 rfl) rfl (by show 2 * 0 + _ ≤ _; exact Nat.le_of_eq rfl) (hb hby at_152) (fun _ _ => ⟨rfl, ej29, (by decide : 1 + 1 ≤ _), (by decide : 3 + 3 ≤ _)⟩)
  dsimp only [Pt.U, Pt.locs, Pt.cells, Pt.slots] at X33 l33 y33 z33 st33 hQ33
  subst l33 y33 z33
  obtain ⟨b33, rfl, Nq33, K33, g_b33, sz_b33, Ex33, Fx33_0, Fx33_1, Fx33_2⟩ := hQ33
  have Nf33 := Fr.app Nj29 Nq33
  have Zp35 : n0 ≤ T33.heap.size := Nat.le_trans Zp25 K33.1
  obtain ⟨cq37, kq37, q37a, q37b, q37c⟩ := isOf hZ rfl Ex33
  obtain ⟨_, _, ⟨T36, L36, k36, n36⟩, -, X36, ⟨Lc36, hQ36, l36, y36, z36⟩, st36⟩ := X33.virtualBack hx (y := (⟨"com/example/turnstyle/turnstyle/domain/Stock", "isSoldOut", "()Z"⟩ : MethodName)) (z := (⟨"com/example/turnstyle/turnstyle/domain/Stock", "isSoldOut", "()Z"⟩ : MethodName)) hown (mvT hZ (hw _ (List.mem_of_getElem? (i := 21) rfl))) (mvT hZ (hw _ (List.mem_of_getElem? (i := 22) rfl))) (notFace_of_selects (args := #[]) (mvT hZ (hw _ (List.mem_of_getElem? (i := 24) rfl)))) (mvT hZ (hw _ (List.mem_of_getElem? (i := 24) rfl))) (mvT hZ (hw _ (List.mem_of_getElem? (i := 23) rfl))) (by decide) (backOf (W := 0) (rm_so l Z a0 hw [] b33 vt (vh - vh) (vs + vh) T33.heap n0 Zp35 Fx33_0 Fx33_1 Fx33_2) hZ (hw _ (List.mem_of_getElem? (i := 25) rfl)) (hw _ (List.mem_of_getElem? (i := 4) rfl)) (by decide) (by decide)) q37a q37c (g := (mkF m 159 #[.val (.long va), .second, .val (.long vb), .second, .val (.long vc), .second, .val (.int vp), .val (.long (1000000 : Int64)), .second, .val (.long vt), .second, .val (.int (vp &&& (3 : Int32))), .val (.long vg), .second, .val (.long vh), .second, .val (.long vs), .second, .val (.ref b19), .val (.int (1 : Int32)), .val (.ref b33), .unset] [(.ref b33)])) rfl (by rw [hml]; rfl) (Steps.refl _) (argsL := []) (rest := []) (lenOf own_pd2 rfl) rfl (by show 2 * 0 + _ ≤ _; exact Nat.le_of_eq rfl) (hb hby at_159) (fun _ _ => ⟨rfl, rfl, (by decide : 2 + 0 ≤ _), (by decide : 6 + 0 ≤ _)⟩)
  dsimp only [Pt.U, Pt.locs, Pt.cells, Pt.slots] at X36 l36 y36 z36 st36 hQ36
  subst l36 y36 z36
  obtain ⟨rfl, Nq36, hh36⟩ := hQ36
  have Nf36 := Fr.app Nf33 Nq36
  have pre38 : ∀ t, Steps p.tables e below (T36.setTop (mkF m 162 #[.val (.long va), .second, .val (.long vb), .second, .val (.long vc), .second, .val (.int vp), .val (.long (1000000 : Int64)), .second, .val (.long vt), .second, .val (.int (vp &&& (3 : Int32))), .val (.long vg), .second, .val (.long vh), .second, .val (.long vs), .second, .val (.ref b19), .val (.int (1 : Int32)), .val (.ref b33), .unset] [(.int (if (vs + vh) = vt then 1 else 0))])) t → Steps p.tables e below (s₁.setTop (entryFrame m #[(.long va), (.long vb), (.long vc), (.int vp)] maxLocals)) t := by
    intro t k
    refine pre29 t ?_
    show Steps p.tables e below (T29.setTop (mkF m 138 #[.val (.long va), .second, .val (.long vb), .second, .val (.long vc), .second, .val (.int vp), .val (.long (1000000 : Int64)), .second, .val (.long vt), .second, .val (.int (vp &&& (3 : Int32))), .val (.long vg), .second, .val (.long vh), .second, .val (.long vs), .second, .val (.ref b19), .unset, .unset, .unset] [(.int vb1), (.int (if vs = vt then 1 else 0))])) _
    refine XS.icmpNo X29.here hx rfl (hb hby at_138) rfl (teq hd32).2 ?_
    show Steps p.tables e below (T29.setTop (mkF m 141 #[.val (.long va), .second, .val (.long vb), .second, .val (.long vc), .second, .val (.int vp), .val (.long (1000000 : Int64)), .second, .val (.long vt), .second, .val (.int (vp &&& (3 : Int32))), .val (.long vg), .second, .val (.long vh), .second, .val (.long vs), .second, .val (.ref b19), .unset, .unset, .unset] [])) _
    refine XS.iconst X29.here hx rfl (hb hby at_141) ?_
    show Steps p.tables e below (T29.setTop (mkF m 142 #[.val (.long va), .second, .val (.long vb), .second, .val (.long vc), .second, .val (.int vp), .val (.long (1000000 : Int64)), .second, .val (.long vt), .second, .val (.int (vp &&& (3 : Int32))), .val (.long vg), .second, .val (.long vh), .second, .val (.long vs), .second, .val (.ref b19), .unset, .unset, .unset] [(.int (1 : Int32))])) _
    refine XS.goto X29.here hx rfl (pc0 := 142) (pc' := 146) rfl (hb hby at_142) (by decide) (by decide) ?_
    show Steps p.tables e below (T29.setTop (mkF m 146 #[.val (.long va), .second, .val (.long vb), .second, .val (.long vc), .second, .val (.int vp), .val (.long (1000000 : Int64)), .second, .val (.long vt), .second, .val (.int (vp &&& (3 : Int32))), .val (.long vg), .second, .val (.long vh), .second, .val (.long vs), .second, .val (.ref b19), .unset, .unset, .unset] [(.int (1 : Int32))])) _
    refine XS.istore X29.here hx rfl (hb hby at_146) rfl (l' := #[.val (.long va), .second, .val (.long vb), .second, .val (.long vc), .second, .val (.int vp), .val (.long (1000000 : Int64)), .second, .val (.long vt), .second, .val (.int (vp &&& (3 : Int32))), .val (.long vg), .second, .val (.long vh), .second, .val (.long vs), .second, .val (.ref b19), .val (.int (1 : Int32)), .unset, .unset]) rfl ?_
    show Steps p.tables e below (T29.setTop (mkF m 148 #[.val (.long va), .second, .val (.long vb), .second, .val (.long vc), .second, .val (.int vp), .val (.long (1000000 : Int64)), .second, .val (.long vt), .second, .val (.int (vp &&& (3 : Int32))), .val (.long vg), .second, .val (.long vh), .second, .val (.long vs), .second, .val (.ref b19), .val (.int (1 : Int32)), .unset, .unset] [])) _
    refine XS.aload X29.here hx rfl (hb hby at_148) rfl rfl ?_
    show Steps p.tables e below (T29.setTop (mkF m 150 #[.val (.long va), .second, .val (.long vb), .second, .val (.long vc), .second, .val (.int vp), .val (.long (1000000 : Int64)), .second, .val (.long vt), .second, .val (.int (vp &&& (3 : Int32))), .val (.long vg), .second, .val (.long vh), .second, .val (.long vs), .second, .val (.ref b19), .val (.int (1 : Int32)), .unset, .unset] [(.ref b19)])) _
    refine XS.lload X29.here hx rfl (hb hby at_150) rfl ?_
    show Steps p.tables e below (T29.setTop (mkF m 152 #[.val (.long va), .second, .val (.long vb), .second, .val (.long vc), .second, .val (.int vp), .val (.long (1000000 : Int64)), .second, .val (.long vt), .second, .val (.int (vp &&& (3 : Int32))), .val (.long vg), .second, .val (.long vh), .second, .val (.long vs), .second, .val (.ref b19), .val (.int (1 : Int32)), .unset, .unset] [(.long vh), (.ref b19)])) _
    refine st33.trans ?_
    show Steps p.tables e below (T33.setTop (mkF m 155 #[.val (.long va), .second, .val (.long vb), .second, .val (.long vc), .second, .val (.int vp), .val (.long (1000000 : Int64)), .second, .val (.long vt), .second, .val (.int (vp &&& (3 : Int32))), .val (.long vg), .second, .val (.long vh), .second, .val (.long vs), .second, .val (.ref b19), .val (.int (1 : Int32)), .unset, .unset] [(.ref b33)])) _
    refine XS.astore X33.here hx rfl (hb hby at_155) rfl rfl (l' := #[.val (.long va), .second, .val (.long vb), .second, .val (.long vc), .second, .val (.int vp), .val (.long (1000000 : Int64)), .second, .val (.long vt), .second, .val (.int (vp &&& (3 : Int32))), .val (.long vg), .second, .val (.long vh), .second, .val (.long vs), .second, .val (.ref b19), .val (.int (1 : Int32)), .val (.ref b33), .unset]) rfl ?_
    show Steps p.tables e below (T33.setTop (mkF m 157 #[.val (.long va), .second, .val (.long vb), .second, .val (.long vc), .second, .val (.int vp), .val (.long (1000000 : Int64)), .second, .val (.long vt), .second, .val (.int (vp &&& (3 : Int32))), .val (.long vg), .second, .val (.long vh), .second, .val (.long vs), .second, .val (.ref b19), .val (.int (1 : Int32)), .val (.ref b33), .unset] [])) _
    refine XS.aload X33.here hx rfl (hb hby at_157) rfl rfl ?_
    show Steps p.tables e below (T33.setTop (mkF m 159 #[.val (.long va), .second, .val (.long vb), .second, .val (.long vc), .second, .val (.int vp), .val (.long (1000000 : Int64)), .second, .val (.long vt), .second, .val (.int (vp &&& (3 : Int32))), .val (.long vg), .second, .val (.long vh), .second, .val (.long vs), .second, .val (.ref b19), .val (.int (1 : Int32)), .val (.ref b33), .unset] [(.ref b33)])) _
    refine st36.trans ?_
    show Steps p.tables e below (T36.setTop (mkF m 162 #[.val (.long va), .second, .val (.long vb), .second, .val (.long vc), .second, .val (.int vp), .val (.long (1000000 : Int64)), .second, .val (.long vt), .second, .val (.int (vp &&& (3 : Int32))), .val (.long vg), .second, .val (.long vh), .second, .val (.long vs), .second, .val (.ref b19), .val (.int (1 : Int32)), .val (.ref b33), .unset] [(.int (if (vs + vh) = vt then 1 else 0))])) _
    exact k
  obtain ⟨vb2, T39, lo39, X39, Nj39, ej39, hj39, pre39⟩ : ∃ (vb2 : Int32) (T' : State) (lo : List Loc), Stand p l e room_1 s m #[(.long va), (.long vb), (.long vc), (.int vp)] below meth c T' lo 2 6 ∧ Fr n0 lo ∧ T'.heap = T33.heap ∧ (vb2 = if vh = vg then 1 else 0) ∧ ∀ t, Steps p.tables e below (T'.setTop (mkF m 175 #[.val (.long va), .second, .val (.long vb), .second, .val (.long vc), .second, .val (.int vp), .val (.long (1000000 : Int64)), .second, .val (.long vt), .second, .val (.int (vp &&& (3 : Int32))), .val (.long vg), .second, .val (.long vh), .second, .val (.long vs), .second, .val (.ref b19), .val (.int (1 : Int32)), .val (.ref b33), .unset] [(.int vb2), (.int (if (vs + vh) = vt then 1 else 0))])) t → Steps p.tables e below (s₁.setTop (entryFrame m #[(.long va), (.long vb), (.long vc), (.int vp)] maxLocals)) t := by
    have pre40 : ∀ t, Steps p.tables e below (T36.setTop (mkF m 167 #[.val (.long va), .second, .val (.long vb), .second, .val (.long vc), .second, .val (.int vp), .val (.long (1000000 : Int64)), .second, .val (.long vt), .second, .val (.int (vp &&& (3 : Int32))), .val (.long vg), .second, .val (.long vh), .second, .val (.long vs), .second, .val (.ref b19), .val (.int (1 : Int32)), .val (.ref b33), .unset] [(.int (lcmpW vh vg)), (.int (if (vs + vh) = vt then 1 else 0))])) t → Steps p.tables e below (s₁.setTop (entryFrame m #[(.long va), (.long vb), (.long vc), (.int vp)] maxLocals)) t := by
      intro t k
      refine pre38 t ?_
      show Steps p.tables e below (T36.setTop (mkF m 162 #[.val (.long va), .second, .val (.long vb), .second, .val (.long vc), .second, .val (.int vp), .val (.long (1000000 : Int64)), .second, .val (.long vt), .second, .val (.int (vp &&& (3 : Int32))), .val (.long vg), .second, .val (.long vh), .second, .val (.long vs), .second, .val (.ref b19), .val (.int (1 : Int32)), .val (.ref b33), .unset] [(.int (if (vs + vh) = vt then 1 else 0))])) _
      refine XS.lload X36.here hx rfl (hb hby at_162) rfl ?_
      show Steps p.tables e below (T36.setTop (mkF m 164 #[.val (.long va), .second, .val (.long vb), .second, .val (.long vc), .second, .val (.int vp), .val (.long (1000000 : Int64)), .second, .val (.long vt), .second, .val (.int (vp &&& (3 : Int32))), .val (.long vg), .second, .val (.long vh), .second, .val (.long vs), .second, .val (.ref b19), .val (.int (1 : Int32)), .val (.ref b33), .unset] [(.long vh), (.int (if (vs + vh) = vt then 1 else 0))])) _
      refine XS.lload X36.here hx rfl (hb hby at_164) rfl ?_
      show Steps p.tables e below (T36.setTop (mkF m 166 #[.val (.long va), .second, .val (.long vb), .second, .val (.long vc), .second, .val (.int vp), .val (.long (1000000 : Int64)), .second, .val (.long vt), .second, .val (.int (vp &&& (3 : Int32))), .val (.long vg), .second, .val (.long vh), .second, .val (.long vs), .second, .val (.ref b19), .val (.int (1 : Int32)), .val (.ref b33), .unset] [(.long vg), (.long vh), (.int (if (vs + vh) = vt then 1 else 0))])) _
      refine XS.lcmp X36.here hx rfl (hb hby at_166) rfl ?_
      show Steps p.tables e below (T36.setTop (mkF m 167 #[.val (.long va), .second, .val (.long vb), .second, .val (.long vc), .second, .val (.int vp), .val (.long (1000000 : Int64)), .second, .val (.long vt), .second, .val (.int (vp &&& (3 : Int32))), .val (.long vg), .second, .val (.long vh), .second, .val (.long vs), .second, .val (.ref b19), .val (.int (1 : Int32)), .val (.ref b33), .unset] [(.int (lcmpW vh vg)), (.int (if (vs + vh) = vt then 1 else 0))])) _
      exact k
    by_cases hc41 : vh = vg
    · refine ⟨(1 : Int32), T36, _, X36, Nf36, hh36, (if_pos hc41).symm, fun t k => ?_⟩
      refine pre40 t ?_
      show Steps p.tables e below (T36.setTop (mkF m 167 #[.val (.long va), .second, .val (.long vb), .second, .val (.long vc), .second, .val (.int vp), .val (.long (1000000 : Int64)), .second, .val (.long vt), .second, .val (.int (vp &&& (3 : Int32))), .val (.long vg), .second, .val (.long vh), .second, .val (.long vs), .second, .val (.ref b19), .val (.int (1 : Int32)), .val (.ref b33), .unset] [(.int (lcmpW vh vg)), (.int (if (vs + vh) = vt then 1 else 0))])) _
      refine XS.ifNo X36.here hx rfl (hb hby at_167) rfl ((if0 _ _).trans (teq ((lw_eq _ _).mpr hc41)).2) ?_
      show Steps p.tables e below (T36.setTop (mkF m 170 #[.val (.long va), .second, .val (.long vb), .second, .val (.long vc), .second, .val (.int vp), .val (.long (1000000 : Int64)), .second, .val (.long vt), .second, .val (.int (vp &&& (3 : Int32))), .val (.long vg), .second, .val (.long vh), .second, .val (.long vs), .second, .val (.ref b19), .val (.int (1 : Int32)), .val (.ref b33), .unset] [(.int (if (vs + vh) = vt then 1 else 0))])) _
      refine XS.iconst X36.here hx rfl (hb hby at_170) ?_
      show Steps p.tables e below (T36.setTop (mkF m 171 #[.val (.long va), .second, .val (.long vb), .second, .val (.long vc), .second, .val (.int vp), .val (.long (1000000 : Int64)), .second, .val (.long vt), .second, .val (.int (vp &&& (3 : Int32))), .val (.long vg), .second, .val (.long vh), .second, .val (.long vs), .second, .val (.ref b19), .val (.int (1 : Int32)), .val (.ref b33), .unset] [(.int (1 : Int32)), (.int (if (vs + vh) = vt then 1 else 0))])) _
      refine XS.goto X36.here hx rfl (pc0 := 171) (pc' := 175) rfl (hb hby at_171) (by decide) (by decide) ?_
      show Steps p.tables e below (T36.setTop (mkF m 175 #[.val (.long va), .second, .val (.long vb), .second, .val (.long vc), .second, .val (.int vp), .val (.long (1000000 : Int64)), .second, .val (.long vt), .second, .val (.int (vp &&& (3 : Int32))), .val (.long vg), .second, .val (.long vh), .second, .val (.long vs), .second, .val (.ref b19), .val (.int (1 : Int32)), .val (.ref b33), .unset] [(.int (1 : Int32)), (.int (if (vs + vh) = vt then 1 else 0))])) _
      exact k
    · refine ⟨(0 : Int32), T36, _, X36, Nf36, hh36, (if_neg hc41).symm, fun t k => ?_⟩
      refine pre40 t ?_
      show Steps p.tables e below (T36.setTop (mkF m 167 #[.val (.long va), .second, .val (.long vb), .second, .val (.long vc), .second, .val (.int vp), .val (.long (1000000 : Int64)), .second, .val (.long vt), .second, .val (.int (vp &&& (3 : Int32))), .val (.long vg), .second, .val (.long vh), .second, .val (.long vs), .second, .val (.ref b19), .val (.int (1 : Int32)), .val (.ref b33), .unset] [(.int (lcmpW vh vg)), (.int (if (vs + vh) = vt then 1 else 0))])) _
      refine XS.ifYes X36.here hx rfl (pc0 := 167) (pc' := 174) rfl (hb hby at_167) rfl ((if0 _ _).trans (feq (mt (lw_eq _ _).mp hc41)).2) (by decide) (by decide) ?_
      show Steps p.tables e below (T36.setTop (mkF m 174 #[.val (.long va), .second, .val (.long vb), .second, .val (.long vc), .second, .val (.int vp), .val (.long (1000000 : Int64)), .second, .val (.long vt), .second, .val (.int (vp &&& (3 : Int32))), .val (.long vg), .second, .val (.long vh), .second, .val (.long vs), .second, .val (.ref b19), .val (.int (1 : Int32)), .val (.ref b33), .unset] [(.int (if (vs + vh) = vt then 1 else 0))])) _
      refine XS.iconst X36.here hx rfl (hb hby at_174) ?_
      show Steps p.tables e below (T36.setTop (mkF m 175 #[.val (.long va), .second, .val (.long vb), .second, .val (.long vc), .second, .val (.int vp), .val (.long (1000000 : Int64)), .second, .val (.long vt), .second, .val (.int (vp &&& (3 : Int32))), .val (.long vg), .second, .val (.long vh), .second, .val (.long vs), .second, .val (.ref b19), .val (.int (1 : Int32)), .val (.ref b33), .unset] [(.int (0 : Int32)), (.int (if (vs + vh) = vt then 1 else 0))])) _
      exact k
  have hd42 : (if (vs + vh) = vt then 1 else 0) = vb2 := by rw [hj39]; exact own_ite (own_jiff (by omega))
  obtain ⟨fs, hr, hrun, hended, hW, hsame⟩ := X39.leave (v := some (.int (1 : Int32))) (fun h => by rw [Bd.returns] at h; cases h)
  refine ⟨_, _, pre39 _ ?_, hrun, hended, _, _, rfl, ?_, ⟨_, rfl⟩, hW, hsame.mono (by decide) (by decide)⟩
  · show Steps p.tables e below (T39.setTop (mkF m 175 #[.val (.long va), .second, .val (.long vb), .second, .val (.long vc), .second, .val (.int vp), .val (.long (1000000 : Int64)), .second, .val (.long vt), .second, .val (.int (vp &&& (3 : Int32))), .val (.long vg), .second, .val (.long vh), .second, .val (.long vs), .second, .val (.ref b19), .val (.int (1 : Int32)), .val (.ref b33), .unset] [(.int vb2), (.int (if (vs + vh) = vt then 1 else 0))])) _
    refine XS.icmpNo X39.here hx rfl (hb hby at_175) rfl (teq hd42).2 ?_
    show Steps p.tables e below (T39.setTop (mkF m 178 #[.val (.long va), .second, .val (.long vb), .second, .val (.long vc), .second, .val (.int vp), .val (.long (1000000 : Int64)), .second, .val (.long vt), .second, .val (.int (vp &&& (3 : Int32))), .val (.long vg), .second, .val (.long vh), .second, .val (.long vs), .second, .val (.ref b19), .val (.int (1 : Int32)), .val (.ref b33), .unset] [])) _
    refine XS.iconst X39.here hx rfl (hb hby at_178) ?_
    show Steps p.tables e below (T39.setTop (mkF m 179 #[.val (.long va), .second, .val (.long vb), .second, .val (.long vc), .second, .val (.int vp), .val (.long (1000000 : Int64)), .second, .val (.long vt), .second, .val (.int (vp &&& (3 : Int32))), .val (.long vg), .second, .val (.long vh), .second, .val (.long vs), .second, .val (.ref b19), .val (.int (1 : Int32)), .val (.ref b33), .unset] [(.int (1 : Int32))])) _
    refine XS.goto X39.here hx rfl (pc0 := 179) (pc' := 183) rfl (hb hby at_179) (by decide) (by decide) ?_
    show Steps p.tables e below (T39.setTop (mkF m 183 #[.val (.long va), .second, .val (.long vb), .second, .val (.long vc), .second, .val (.int vp), .val (.long (1000000 : Int64)), .second, .val (.long vt), .second, .val (.int (vp &&& (3 : Int32))), .val (.long vg), .second, .val (.long vh), .second, .val (.long vs), .second, .val (.ref b19), .val (.int (1 : Int32)), .val (.ref b33), .unset] [(.int (1 : Int32))])) _
    refine XS.istore X39.here hx rfl (hb hby at_183) rfl (l' := #[.val (.long va), .second, .val (.long vb), .second, .val (.long vc), .second, .val (.int vp), .val (.long (1000000 : Int64)), .second, .val (.long vt), .second, .val (.int (vp &&& (3 : Int32))), .val (.long vg), .second, .val (.long vh), .second, .val (.long vs), .second, .val (.ref b19), .val (.int (1 : Int32)), .val (.ref b33), .val (.int (1 : Int32))]) rfl ?_
    show Steps p.tables e below (T39.setTop (mkF m 185 #[.val (.long va), .second, .val (.long vb), .second, .val (.long vc), .second, .val (.int vp), .val (.long (1000000 : Int64)), .second, .val (.long vt), .second, .val (.int (vp &&& (3 : Int32))), .val (.long vg), .second, .val (.long vh), .second, .val (.long vs), .second, .val (.ref b19), .val (.int (1 : Int32)), .val (.ref b33), .val (.int (1 : Int32))] [])) _
    refine XS.iload X39.here hx rfl (hb hby at_185) rfl ?_
    show Steps p.tables e below (T39.setTop (mkF m 187 #[.val (.long va), .second, .val (.long vb), .second, .val (.long vc), .second, .val (.int vp), .val (.long (1000000 : Int64)), .second, .val (.long vt), .second, .val (.int (vp &&& (3 : Int32))), .val (.long vg), .second, .val (.long vh), .second, .val (.long vs), .second, .val (.ref b19), .val (.int (1 : Int32)), .val (.ref b33), .val (.int (1 : Int32))] [(.int (1 : Int32))])) _
    refine XS.ifNo X39.here hx rfl (hb hby at_187) rfl (by decide) ?_
    show Steps p.tables e below (T39.setTop (mkF m 190 #[.val (.long va), .second, .val (.long vb), .second, .val (.long vc), .second, .val (.int vp), .val (.long (1000000 : Int64)), .second, .val (.long vt), .second, .val (.int (vp &&& (3 : Int32))), .val (.long vg), .second, .val (.long vh), .second, .val (.long vs), .second, .val (.ref b19), .val (.int (1 : Int32)), .val (.ref b33), .val (.int (1 : Int32))] [])) _
    refine XS.iload X39.here hx rfl (hb hby at_190) rfl ?_
    show Steps p.tables e below (T39.setTop (mkF m 192 #[.val (.long va), .second, .val (.long vb), .second, .val (.long vc), .second, .val (.int vp), .val (.long (1000000 : Int64)), .second, .val (.long vt), .second, .val (.int (vp &&& (3 : Int32))), .val (.long vg), .second, .val (.long vh), .second, .val (.long vs), .second, .val (.ref b19), .val (.int (1 : Int32)), .val (.ref b33), .val (.int (1 : Int32))] [(.int (1 : Int32))])) _
    refine XS.ifNo X39.here hx rfl (hb hby at_192) rfl (by decide) ?_
    show Steps p.tables e below (T39.setTop (mkF m 195 #[.val (.long va), .second, .val (.long vb), .second, .val (.long vc), .second, .val (.int vp), .val (.long (1000000 : Int64)), .second, .val (.long vt), .second, .val (.int (vp &&& (3 : Int32))), .val (.long vg), .second, .val (.long vh), .second, .val (.long vs), .second, .val (.ref b19), .val (.int (1 : Int32)), .val (.ref b33), .val (.int (1 : Int32))] [])) _
    refine XS.iconst X39.here hx rfl (hb hby at_195) ?_
    show Steps p.tables e below (T39.setTop (mkF m 196 #[.val (.long va), .second, .val (.long vb), .second, .val (.long vc), .second, .val (.int vp), .val (.long (1000000 : Int64)), .second, .val (.long vt), .second, .val (.int (vp &&& (3 : Int32))), .val (.long vg), .second, .val (.long vh), .second, .val (.long vs), .second, .val (.ref b19), .val (.int (1 : Int32)), .val (.ref b33), .val (.int (1 : Int32))] [(.int (1 : Int32))])) _
    refine XS.goto X39.here hx rfl (pc0 := 196) (pc' := 200) rfl (hb hby at_196) (by decide) (by decide) ?_
    show Steps p.tables e below (T39.setTop (mkF m 200 #[.val (.long va), .second, .val (.long vb), .second, .val (.long vc), .second, .val (.int vp), .val (.long (1000000 : Int64)), .second, .val (.long vt), .second, .val (.int (vp &&& (3 : Int32))), .val (.long vg), .second, .val (.long vh), .second, .val (.long vs), .second, .val (.ref b19), .val (.int (1 : Int32)), .val (.ref b33), .val (.int (1 : Int32))] [(.int (1 : Int32))])) _
    exact retN X39 hx (t := .boolean) Bd.returns (by simp) (hb hby at_200) hr
  · show Q0 Z va vb vc vp h0 n0 _ T39.heap _
    rw [ej39]
    exact ⟨rfl, Nj39⟩
set_option maxRecDepth 65536 in
set_option maxHeartbeats 40000000 in
theorem comes_1 {Post : Tables → Env → Array Value → State → Outcome → State → Prop} (hpost : ∀ tb e args s v u, (limb_1_1.after args s (.returned v) u = true ∧ limb_1_2.after args s (.returned v) u = true ∧ True) → FrameEnd s (.returned v) u (Jvm.fieldLocs frame_1_writes args s ++ Jvm.arrayLocs frame_1_arrays args s ++ Jvm.staticLocs frame_1_statics s) 16 128 → Post tb e args s (.returned v) u) :
    ArmFor flags0 classFile x code maxLocals ret World_1 tables_1 room_1 Calls_1 rest_1 Pre_1 Post := by
  intro l hfl _ _ p e ha hc hk s m args below hf hA hF happ hP
  obtain ⟨hcalls, hrest, hpre⟩ := hP
  obtain ⟨-, -, -, hnamed, -, -, -, hat⟩ := (Spec.applies_iff hf).mp happ
  obtain ⟨hg, hn⟩ := and_e (Cond.before_iff.mp (show (Jvm.Cond.and given_1 narrow_1).before args s = true from hpre))
  obtain ⟨ga1, gb1⟩ := and_e hg
  obtain ⟨ga2, gb2⟩ := and_e gb1
  obtain ⟨ga3, gb3⟩ := and_e gb2
  obtain ⟨ga4, gb4⟩ := and_e gb3
  obtain ⟨w0, w1, w2, w3, rfl⟩ : ∃ w0 w1 w2 w3 : Value, args = #[w0, w1, w2, w3] := by
    have hs : args.size = 4 := by simpa [Cond.value, given_1] using ga1
    obtain ⟨L⟩ := args
    match L, hs with
    | [w0, w1, w2, w3], _ => exact ⟨w0, w1, w2, w3, rfl⟩
  have hw := fun d (hd : d ∈ tables_1) => atoms_spec (ws := Jvm.Cond.code x code maxLocals ret :: tables_1) hat d (List.mem_cons_of_mem _ hd)
  have hfit : Fit s := fun {y c} hc i hi => by
    obtain ⟨ha, rfl⟩ := Array.getElem?_eq_some_iff.mp hc
    have q := List.all_eq_true.mp ((Array.all_eq_true_iff_forall_mem.mp hF) _ (Array.getElem_mem ha)) i (List.mem_range.mpr hi)
    simpa [Array.getElem?_eq_getElem hi] using q
  obtain ⟨i0, ei0⟩ := isL_v ga2
  obtain rfl : w0 = (.long i0) := Option.some.inj ei0
  obtain ⟨i1, ei1⟩ := isL_v ga3
  obtain rfl : w1 = (.long i1) := Option.some.inj ei1
  obtain ⟨i2, ei2⟩ := isL_v ga4
  obtain rfl : w2 = (.long i2) := Option.some.inj ei2
  obtain ⟨i3, ei3⟩ := is_v gb4
  obtain rfl : w3 = (.int i3) := Option.some.inj ei3
  obtain ⟨n, o, h1, h2, h3, _, L, rfl, ⟨rfl, N⟩, hq⟩ := rm0 l s _ hw tables_1 i0 i1 i2 i3 s.heap s.heap.size (Nat.le_refl _)  p e ha hc hk s m _ below hf ((Spec.applies_iff_loose hf).mp happ).1 ⟨rfl, State.Warmed39.refl s, rfl⟩ trivial
  refine ⟨n, _, h1, h2, h3, hpost _ _ _ _ _ _ ⟨Cond.after_iff.mpr rfl, Cond.after_iff.mpr (eq_i res_at (Term.int_eval (1)) rfl), trivial⟩ ⟨hq.1, hq.2.1, (hq.2.2.sift fun y hy => Or.inr (N y hy)).mono (by decide) (by decide)⟩⟩
theorem main_1_1 : Claimed_1_1 := comes_1 fun _ _ _ _ _ _ h hF => ⟨h.1, hF⟩
theorem main_1_2 : Claimed_1_2 := comes_1 fun _ _ _ _ _ _ h hF => ⟨h.2.1, hF⟩
end Jvm.Pilot.@@N@@
namespace Jvm.Pilot.@@N@@
open Jvm Jvm.ClassFile Sem Op Lib Jvm.Free Jvm.Stand Jvm.Pilot.@@N@@.Jvm.D
/-! MADE BY PROGRAM (witnessworld.py) out of the Statement's table words and the real class files: 9 classes; the members and pool entries that the words name. The judged class is class 1, her method 1. -/
namespace start1
open Jvm.ClassFile
def u (s : String) : CpInfo := .utf8 (stringToUtf16 s)
/-- a pool by its gaps: so many unusable entries, then the entry; so many at the end -/
def gap : Nat → List CpInfo → List CpInfo
  | 0, r => r
  | n + 1, r => .unusable :: gap n r
def poolList (es : List (Nat × CpInfo)) (last : Nat) : List CpInfo := es.foldr (fun e r => gap e.1 (e.2 :: r)) (gap last [])
def pool (es : List (Nat × CpInfo)) (last : Nat) : Array CpInfo := ⟨poolList es last⟩
def fileOf (pool : Array CpInfo) (this : Nat) (attrs : Array Attribute := #[]) (ms : Array MethodInfo := #[]) (fl : Nat := 33) (sup : Nat := 0) (ifs : Array Nat := #[]) (fds : Array FieldInfo := #[]) : ClassFile where
  minorVersion := 0
  majorVersion := 65
  constantPool := pool
  accessFlags := fl
  thisClass := this
  superClass := sup
  interfaces := ifs
  fields := fds
  methods := ms
  attributes := attrs
def plain (name : String) (sup : Option ClassId) : Class where
  name := name
  kind := .ordinary
  loader := none
  accessFlags := 33
  super := sup
  interfaces := #[]
  cf := none
  fields := #[]
  methods := #[]
  instanceTypes := #[]
  staticTypes := #[]
  resolved := #[]
  callSites := []
  init := .initialized
  statics := none
  mirror := none

def pool0 : Array CpInfo := pool [(5, u "<init>"), (0, u "()V"), (1, .class_ 10), (1, u "java/lang/Object")] 113

def k0c0 : Code := { maxStack := 0, maxLocals := 1, code := object_method_1_code, exceptionTable := #[], attributes := #[] }
def k0m0 : Method := { name := "<init>", desc := "()V", sig := { parameters := [], returnType := none }, accessFlags := 1, code := some k0c0 }
/-- java/lang/Object -/
def k0 : Class := { plain "java/lang/Object" none with
  accessFlags := 33
  interfaces := #[]
  cf := some (fileOf pool0 8 #[] #[{ accessFlags := 1, nameIndex := 5, descriptorIndex := 6, attributes := #[] }] 33 0 #[] #[])
  fields := #[]
  methods := #[k0m0]
  instanceTypes := #[]
  staticTypes := #[]
  resolved := Array.replicate 124 none
  statics := none }

def pool1 : Array CpInfo := pool [(2, .class_ 4), (1, u "java/lang/Object"), (0, u "<init>"), (0, u "()V"), (0, .class_ 8), (0, u "com/example/turnstyle/turnstyle/domain/Stock"), (0, .long 1000000), (1, .class_ 12), (0, u "com/example/turnstyle/turnstyle/domain/StockIsSoldOutPinLaw"), (0, .long 9223372036854775807), (1, .methodref 7 16), (0, .nameAndType 5 17), (0, u "(JJJ)V"), (0, .methodref 7 19), (0, .nameAndType 20 21), (0, u "isSoldOut"), (0, u "()Z"), (0, .methodref 7 23), (0, .nameAndType 24 25), (0, u "afterSelling"), (0, u "(J)Lcom/example/turnstyle/turnstyle/domain/Stock;"), (0, u "MASK"), (0, u "J"), (3, u "law"), (0, u "(JJJI)Z")] 3

def k1m0 : Method := { name := "<init>", desc := "()V", sig := { parameters := [], returnType := none }, accessFlags := 1, code := none }
def k1c1 : Code := { maxStack := 8, maxLocals := 22, code := code, exceptionTable := #[], attributes := #[] }
def k1m1 : Method := { name := "law", desc := "(JJJI)Z", sig := { parameters := [.long, .long, .long, .int], returnType := some .boolean }, accessFlags := 9, code := some k1c1 }
/-- com/example/turnstyle/turnstyle/domain/StockIsSoldOutPinLaw -/
def k1 : Class := { plain "com/example/turnstyle/turnstyle/domain/StockIsSoldOutPinLaw" (some 0) with
  accessFlags := 49
  interfaces := #[]
  cf := some (fileOf pool1 11 #[] #[{ accessFlags := 1, nameIndex := 5, descriptorIndex := 6, attributes := #[] }, { accessFlags := 9, nameIndex := 31, descriptorIndex := 32, attributes := #[] }] 49 2 #[] #[{ accessFlags := 26, nameIndex := 26, descriptorIndex := 27, attributes := #[] }])
  fields := #[{ name := "MASK", type := .long, accessFlags := 26, slot := 0, constantValue := 0 }]
  methods := #[k1m0, k1m1]
  instanceTypes := #[]
  staticTypes := #[.long]
  resolved := Array.replicate 36 none
  statics := none }

def pool2 : Array CpInfo := pool [(1, .methodref 2 3), (0, .class_ 4), (0, .nameAndType 5 6), (0, u "java/lang/Object"), (0, u "<init>"), (0, u "()V"), (0, .methodref 8 9), (0, .class_ 10), (0, .nameAndType 11 12), (0, u "com/example/turnstyle/turnstyle/domain/Stock"), (0, u "requireTotal"), (0, u "(J)J"), (7, .fieldref 8 21), (0, .nameAndType 22 23), (0, u "total"), (0, u "J"), (0, .fieldref 8 25), (0, .nameAndType 26 23), (0, u "held"), (0, .fieldref 8 28), (0, .nameAndType 29 23), (0, u "sold"), (0, .long 1000000), (9, .methodref 8 41), (0, .nameAndType 5 42), (0, u "(JJJ)V"), (0, .methodref 8 44), (0, .nameAndType 45 12), (0, u "requireHeld"), (2, u "MAX_TOTAL"), (4, u "isSoldOut"), (0, u "()Z"), (1, u "(J)Lcom/example/turnstyle/turnstyle/domain/Stock;"), (1, u "afterSelling")] 5

def k2c0 : Code := { maxStack := 4, maxLocals := 7, code := prog_12_method_1_code, exceptionTable := #[], attributes := #[] }
def k2m0 : Method := { name := "<init>", desc := "(JJJ)V", sig := { parameters := [.long, .long, .long], returnType := none }, accessFlags := 1, code := some k2c0 }
def k2c1 : Code := { maxStack := 4, maxLocals := 2, code := prog_12_method_2_code, exceptionTable := #[], attributes := #[] }
def k2m1 : Method := { name := "requireTotal", desc := "(J)J", sig := { parameters := [.long], returnType := some .long }, accessFlags := 9, code := some k2c1 }
def k2c2 : Code := { maxStack := 4, maxLocals := 1, code := prog_12_method_4_code, exceptionTable := #[], attributes := #[] }
def k2m2 : Method := { name := "isSoldOut", desc := "()Z", sig := { parameters := [], returnType := some .boolean }, accessFlags := 1, code := some k2c2 }
def k2c3 : Code := { maxStack := 10, maxLocals := 3, code := prog_12_method_7_code, exceptionTable := #[], attributes := #[] }
def k2m3 : Method := { name := "afterSelling", desc := "(J)Lcom/example/turnstyle/turnstyle/domain/Stock;", sig := { parameters := [.long], returnType := some (.object "com/example/turnstyle/turnstyle/domain/Stock") }, accessFlags := 1, code := some k2c3 }
def k2c4 : Code := { maxStack := 4, maxLocals := 3, code := prog_12_method_8_code, exceptionTable := #[], attributes := #[] }
def k2m4 : Method := { name := "requireHeld", desc := "(J)J", sig := { parameters := [.long], returnType := some .long }, accessFlags := 2, code := some k2c4 }
/-- com/example/turnstyle/turnstyle/domain/Stock -/
def k2 : Class := { plain "com/example/turnstyle/turnstyle/domain/Stock" (some 0) with
  accessFlags := 49
  interfaces := #[]
  cf := some (fileOf pool2 8 #[] #[{ accessFlags := 1, nameIndex := 5, descriptorIndex := 42, attributes := #[] }, { accessFlags := 9, nameIndex := 11, descriptorIndex := 12, attributes := #[] }, { accessFlags := 1, nameIndex := 53, descriptorIndex := 54, attributes := #[] }, { accessFlags := 1, nameIndex := 58, descriptorIndex := 56, attributes := #[] }, { accessFlags := 2, nameIndex := 45, descriptorIndex := 12, attributes := #[] }] 49 2 #[] #[{ accessFlags := 25, nameIndex := 48, descriptorIndex := 23, attributes := #[] }, { accessFlags := 18, nameIndex := 22, descriptorIndex := 23, attributes := #[] }, { accessFlags := 18, nameIndex := 26, descriptorIndex := 23, attributes := #[] }, { accessFlags := 18, nameIndex := 29, descriptorIndex := 23, attributes := #[] }])
  fields := #[{ name := "MAX_TOTAL", type := .long, accessFlags := 25, slot := 0, constantValue := 0 }, { name := "total", type := .long, accessFlags := 18, slot := 0, constantValue := 0 }, { name := "held", type := .long, accessFlags := 18, slot := 1, constantValue := 0 }, { name := "sold", type := .long, accessFlags := 18, slot := 2, constantValue := 0 }]
  methods := #[k2m0, k2m1, k2m2, k2m3, k2m4]
  instanceTypes := #[.long, .long, .long]
  staticTypes := #[.long]
  resolved := Array.replicate 64 none
  statics := none }

def pool3 : Array CpInfo := pool [(1, u "java/lang/Cloneable"), (0, .class_ 1), (0, u "java/lang/Object"), (0, .class_ 3)] 3

/-- java/lang/Cloneable -/
def k3 : Class := { plain "java/lang/Cloneable" (some 0) with
  accessFlags := 1537
  interfaces := #[]
  cf := some (fileOf pool3 2 #[] #[] 1537 4 #[] #[])
  fields := #[]
  methods := #[]
  instanceTypes := #[]
  staticTypes := #[]
  resolved := Array.replicate 8 none
  statics := none }

def pool4 : Array CpInfo := pool [(1, u "java/io/Serializable"), (0, .class_ 1), (0, u "java/lang/Object"), (0, .class_ 3)] 3

/-- java/io/Serializable -/
def k4 : Class := { plain "java/io/Serializable" (some 0) with
  accessFlags := 1537
  interfaces := #[]
  cf := some (fileOf pool4 2 #[] #[] 1537 4 #[] #[])
  fields := #[]
  methods := #[]
  instanceTypes := #[]
  staticTypes := #[]
  resolved := Array.replicate 8 none
  statics := none }

/-- the primitive byte -/
def k5 : Class := { plain "byte" none with kind := .primitive 'B', accessFlags := 0x411 }
/-- [B -/
def k6 : Class := { plain "[B" (some 0) with kind := .array 5 .byte, interfaces := #[3, 4], accessFlags := 1041 }

/-- the primitive int -/
def k7 : Class := { plain "int" none with kind := .primitive 'I', accessFlags := 0x411 }
/-- [I -/
def k8 : Class := { plain "[I" (some 0) with kind := .array 7 .int, interfaces := #[3, 4], accessFlags := 1041 }

def heap : Heap := #[]
def classes : Array Class := #[k0, k1, k2, k3, k4, k5, k6, k7, k8]
def interned : List (Array UInt16 × Addr) := []
def slotsUsed : Nat := 0
def theMethod : MethodId := ⟨1, 1⟩
def args0 : Array Value := #[.long 5, .long 6, .long 7, .int 8]
def aboutOver (below : List Frame) : State where
  vm := { classes := classes, interned := interned.toArray }
  heap := heap
  slotsUsed := slotsUsed
  threads := #[{ frames := .invoking theMethod args0 :: below }]
def below0 : List Frame := [.native { method := ⟨0, 0⟩, args := #[] }]
def about1 : State := aboutOver below0
def p0 : Program := .bare "" "" ""
def e0 : Env := launch0.env 0 0 0
theorem w_frames : about1.frames = Frame.invoking theMethod args0 :: below0 := rfl
set_option maxRecDepth 65536 in
theorem w_args : argsFit about1.vm theMethod args0 = true := by decide +kernel
set_option maxRecDepth 65536 in
theorem w_heap : heapFits about1 = true := by decide +kernel
set_option maxRecDepth 65536 in
theorem w_runnable : about1.curStatus? = some .runnable := by decide +kernel
set_option maxRecDepth 65536 in
theorem w_alone : about1.alone = true := by decide +kernel
set_option maxRecDepth 65536 in
theorem w_named : about1.methodNamed? x = some theMethod := by decide +kernel
set_option maxRecDepth 65536 in
theorem w_hears : about1.hears theMethod below0 = true := by decide +kernel
set_option maxRecDepth 65536 in
theorem w_ripe : about1.ripe theMethod args0 below0 = true := by decide +kernel
theorem w_running : about1.status = .running := rfl
set_option maxRecDepth 65536 in
theorem w_room : about1.hasRoom e0.platform room_1 = true :=
  launch0.hasRoom_least _ room_1 (by decide +kernel) (by decide +kernel) (by decide +kernel) (by decide +kernel) (by decide +kernel) (by decide +kernel)
theorem allAtoms_all (ts : List Jvm.Cond) (a : Array Jvm.Value) (st : Jvm.State) : (allAtoms ts).before a st = ts.all (fun c => c.before a st) := by
  induction ts with
  | nil => rfl
  | cons c t ih =>
    show (Jvm.Cond.and c (allAtoms t)).before a st = _
    rw [Jvm.Cond.before_and, ih, List.all_cons]
def words1 : List Jvm.Cond := Jvm.Cond.code x code maxLocals ret :: tables_1
/-- a 'code' word, met by the world's own term for the bytes: nothing is compared byte by byte -/
theorem code_word {y : MethodName} {bytes : ByteArray} {mx : Nat} {rt : Option FieldType} {a : Array Value} {s : State} {m : MethodId} {meth : Method} {c : Code} (h1 : s.methodNamed? y = some m) (h2 : s.vm.method? m = some meth) (h3 : meth.code = some c) (h4 : c.code = bytes)
    (h5 : (c.maxLocals == mx && c.exceptionTable.isEmpty && decide (c.maxStack ≤ mostOperands) && decide (meth.sig.returnType = rt) && !meth.locks && decide (parseMethodDescriptor y.desc = some meth.sig)) = true) : (Jvm.Cond.code y bytes mx rt).before a s = true := by
  simp only [Bool.and_eq_true, beq_iff_eq, Bool.not_eq_true', decide_eq_true_eq] at h5
  obtain ⟨⟨⟨⟨⟨g1, g2⟩, g3⟩, g4⟩, g5⟩, g6⟩ := h5
  simp [Cond.before, Cond.holds, Cond.value, h1, h2, h3, h4, g1, g2, g3, g4, g5, g6]
def isCode : Jvm.Cond → Bool
  | .code _ _ _ _ => true
  | _ => false
theorem all_split {L : List Jvm.Cond} {P : Jvm.Cond → Bool} (h1 : L.all (fun c => isCode c || P c) = true) (h2 : ∀ c ∈ L.filter isCode, P c = true) : L.all P = true := by
  refine List.all_eq_true.mpr fun c hc => ?_
  have h := List.all_eq_true.mp h1 c hc
  rcases Bool.eq_false_or_eq_true (isCode c) with hi | hi
  · exact h2 c (List.mem_filter.mpr ⟨hc, hi⟩)
  · simpa [hi] using h
set_option maxRecDepth 65536 in
theorem w_c0 : (Jvm.Cond.code x code maxLocals ret).before args0 about1 = true := code_word (m := ⟨1, 1⟩) (meth := k1m1) (c := k1c1) (by decide +kernel) rfl rfl rfl (by decide +kernel)
set_option maxRecDepth 65536 in
theorem w_c1 : (Jvm.Cond.code ({ cls := "com/example/turnstyle/turnstyle/domain/Stock", name := "<init>", desc := "(JJJ)V" } : Jvm.MethodName) prog_12_method_1_code (7 : Nat) (Option.none : Option Jvm.ClassFile.FieldType)).before args0 about1 = true := code_word (m := ⟨2, 0⟩) (meth := k2m0) (c := k2c0) (by decide +kernel) rfl rfl rfl (by decide +kernel)
set_option maxRecDepth 65536 in
theorem w_c2 : (Jvm.Cond.code ({ cls := "java/lang/Object", name := "<init>", desc := "()V" } : Jvm.MethodName) object_method_1_code (1 : Nat) (Option.none : Option Jvm.ClassFile.FieldType)).before args0 about1 = true := code_word (m := ⟨0, 0⟩) (meth := k0m0) (c := k0c0) (by decide +kernel) rfl rfl rfl (by decide +kernel)
set_option maxRecDepth 65536 in
theorem w_c3 : (Jvm.Cond.code ({ cls := "com/example/turnstyle/turnstyle/domain/Stock", name := "requireTotal", desc := "(J)J" } : Jvm.MethodName) prog_12_method_2_code (2 : Nat) (Option.some Jvm.ClassFile.FieldType.long)).before args0 about1 = true := code_word (m := ⟨2, 1⟩) (meth := k2m1) (c := k2c1) (by decide +kernel) rfl rfl rfl (by decide +kernel)
set_option maxRecDepth 65536 in
theorem w_c4 : (Jvm.Cond.code ({ cls := "com/example/turnstyle/turnstyle/domain/Stock", name := "isSoldOut", desc := "()Z" } : Jvm.MethodName) prog_12_method_4_code (1 : Nat) (Option.some Jvm.ClassFile.FieldType.boolean)).before args0 about1 = true := code_word (m := ⟨2, 2⟩) (meth := k2m2) (c := k2c2) (by decide +kernel) rfl rfl rfl (by decide +kernel)
set_option maxRecDepth 65536 in
theorem w_c5 : (Jvm.Cond.code ({ cls := "com/example/turnstyle/turnstyle/domain/Stock", name := "afterSelling", desc := "(J)Lcom/example/turnstyle/turnstyle/domain/Stock;" } : Jvm.MethodName) prog_12_method_7_code (3 : Nat) (Option.some (Jvm.ClassFile.FieldType.object "com/example/turnstyle/turnstyle/domain/Stock"))).before args0 about1 = true := code_word (m := ⟨2, 3⟩) (meth := k2m3) (c := k2c3) (by decide +kernel) rfl rfl rfl (by decide +kernel)
set_option maxRecDepth 65536 in
theorem w_c6 : (Jvm.Cond.code ({ cls := "com/example/turnstyle/turnstyle/domain/Stock", name := "requireHeld", desc := "(J)J" } : Jvm.MethodName) prog_12_method_8_code (3 : Nat) (Option.some Jvm.ClassFile.FieldType.long)).before args0 about1 = true := code_word (m := ⟨2, 4⟩) (meth := k2m4) (c := k2c4) (by decide +kernel) rfl rfl rfl (by decide +kernel)
def codes1 : List Jvm.Cond := [Jvm.Cond.code x code maxLocals ret, Jvm.Cond.code ({ cls := "com/example/turnstyle/turnstyle/domain/Stock", name := "<init>", desc := "(JJJ)V" } : Jvm.MethodName) prog_12_method_1_code (7 : Nat) (Option.none : Option Jvm.ClassFile.FieldType), Jvm.Cond.code ({ cls := "java/lang/Object", name := "<init>", desc := "()V" } : Jvm.MethodName) object_method_1_code (1 : Nat) (Option.none : Option Jvm.ClassFile.FieldType), Jvm.Cond.code ({ cls := "com/example/turnstyle/turnstyle/domain/Stock", name := "requireTotal", desc := "(J)J" } : Jvm.MethodName) prog_12_method_2_code (2 : Nat) (Option.some Jvm.ClassFile.FieldType.long), Jvm.Cond.code ({ cls := "com/example/turnstyle/turnstyle/domain/Stock", name := "isSoldOut", desc := "()Z" } : Jvm.MethodName) prog_12_method_4_code (1 : Nat) (Option.some Jvm.ClassFile.FieldType.boolean), Jvm.Cond.code ({ cls := "com/example/turnstyle/turnstyle/domain/Stock", name := "afterSelling", desc := "(J)Lcom/example/turnstyle/turnstyle/domain/Stock;" } : Jvm.MethodName) prog_12_method_7_code (3 : Nat) (Option.some (Jvm.ClassFile.FieldType.object "com/example/turnstyle/turnstyle/domain/Stock")), Jvm.Cond.code ({ cls := "com/example/turnstyle/turnstyle/domain/Stock", name := "requireHeld", desc := "(J)J" } : Jvm.MethodName) prog_12_method_8_code (3 : Nat) (Option.some Jvm.ClassFile.FieldType.long)]
set_option maxRecDepth 65536 in
theorem codes_eq : words1.filter isCode = codes1 := rfl
theorem w_codes : ∀ c ∈ words1.filter isCode, c.before args0 about1 = true := by
  rw [codes_eq]
  intro c hc
  simp only [codes1, List.mem_cons, List.not_mem_nil, or_false] at hc
  rcases hc with rfl | rfl | rfl | rfl | rfl | rfl | rfl
  · exact w_c0
  · exact w_c1
  · exact w_c2
  · exact w_c3
  · exact w_c4
  · exact w_c5
  · exact w_c6
set_option maxRecDepth 65536 in
theorem w_t1 : (words1.take 24).all (fun c => isCode c || c.before args0 about1) = true := by decide +kernel
set_option maxRecDepth 65536 in
theorem w_t2 : (words1.drop 24).all (fun c => isCode c || c.before args0 about1) = true := by decide +kernel
theorem w_tables : (allAtoms (Jvm.Cond.code x code maxLocals ret :: tables_1)).before args0 about1 = true := by
  rw [allAtoms_all]
  show words1.all (fun c => c.before args0 about1) = true
  refine all_split ?_ w_codes
  rw [← List.take_append_drop 24 words1, List.all_append, w_t1, w_t2]
  rfl
set_option maxRecDepth 65536 in
theorem w_case : (Jvm.Cond.and given_1 narrow_1).before args0 about1 = true := by decide +kernel
theorem w_applies : (headSpec (Jvm.Cond.code x code maxLocals ret :: tables_1) room_1).applies x e0.platform about1 = true :=
  (Spec.applies_iff w_frames).mpr ⟨w_running, w_runnable, w_alone, w_named, w_hears, w_ripe, w_room, w_tables⟩
theorem atStart : AtStart classFile x code maxLocals ret World_1 tables_1 room_1 Calls_1 rest_1 Pre_1 launch0 p0 e0 about1 theMethod args0 below0 :=
  ⟨lists_1, trivial, launch0.admits_env _ _ _, launch0.least_env, fairChoices_fair.cas, fairChoices_fair.clock, w_frames, w_args, w_heap, w_applies, trivial, trivial, w_case⟩
end start1
theorem witness_1 : WitnessClaimed_1 := ⟨start1.p0, start1.e0, start1.about1, start1.theMethod, start1.args0, start1.below0, start1.atStart⟩
end Jvm.Pilot.@@N@@
