import JvmDerived
import JvmDerived.Pilot.@@N@@Statement
import JvmDerived.Pilot.@@N@@Code
set_option linter.unusedVariables false
set_option linter.unusedSimpArgs false
namespace Jvm.RoadKit
open Sem ClassFile Op Lib Jvm.Stand Jvm.Free Jvm.LawKit
section New
variable {p : Program} {l : Launch} {e : Env} {R : Room} {s : State} {m : MethodId} {args : Array Value} {below : List Frame} {meth : Method} {c : Code} {T : State} {locs : List Loc} {cells slots : Nat}
theorem retI (X : Stand p l e R s m args below meth c T locs cells slots) (hx : p.tables.exec = Jvm.exec) {pc : Nat} {Ls : Array Slot} {z : Int32} {rest : List Value} (hret : meth.sig.returnType = some .int) (hd : decode c.code pc = .ok (.ireturn, 1)) {fs : List Frame}
    (hl : ∀ (f : JFrame) (acts : List Action), f.method = m → f.locked = none → f.entered = [] → (doReturn e (T.setTop f) acts (some (.int z))).1 = T.setFrames fs) : Steps p.tables e below (T.setTop (mkF m pc Ls (.int z :: rest))) (T.setFrames fs) := by
  have hm' : T.vm.method? m = some meth := X.method'
  have hn : narrow .int (.int z) = .int z := rfl
  show Steps p.tables e below (T.setTop { method := m, pc := pc, locals := Ls, stack := _ :: rest, locked := none }) _
  jvm_step X.here [X.here.top, hx, hd, hm', hret, hn]
  first | (intro acts; rw [hl _ acts rfl rfl rfl]) | rw [hl _ _ rfl rfl rfl]
  exact Steps.refl _
end New
end Jvm.RoadKit
namespace Jvm.Pilot.@@N@@
open Jvm Jvm.ClassFile Sem Op Lib Jvm.Free Jvm.Stand Jvm.LawKit Jvm.RoadKit Bundle Jvm.Pilot.@@N@@.Jvm.D
theorem own_plE {Z : State} {h : Heap} {a : Addr} {C : String} (E : Exa Z h a C) : ∃ c : Cell, h[a]? = some c ∧ c.vm.isStatics = false := by
  obtain ⟨cell, k, h1, -, -, h4, -⟩ := E; exact ⟨cell, h1, h4⟩
theorem own_plV {Z : State} {h : Heap} {a : Addr} {k : ClassId} {ty : FieldType} {n : Int32} {vs : List Value} {d : Value} (F : Arv Z h a k ty n vs d) : ∃ c : Cell, h[a]? = some c ∧ c.vm.isStatics = false := by
  obtain ⟨c, A, -⟩ := F; exact ⟨c, A.1, A.plain⟩
theorem own_sta_keep {Z : State} {h h' : Heap} {ws : List Addr} {C n d : String} {v : Value} (K : Keep h h' ws) (q : ∀ a ∈ ws, ∃ c : Cell, h[a]? = some c ∧ c.vm.isStatics = false) (F : Sta Z h C n d v) : Sta Z h' C n d v := by
  obtain ⟨cf, i, k, f, st, cell, h1, h2, h3, h4, h5, h6, h7⟩ := F
  refine ⟨cf, i, k, f, st, cell, h1, h2, h3, h4, K.2.1 st cell h5 (fun hm => ?_), h6, h7⟩
  obtain ⟨c, hc, hs⟩ := q st hm
  rw [h5] at hc; cases hc; rw [h6] at hs; cases hs
theorem own_de {args : Array Value} {s : State} {t : Term} {a : Addr} {cl : Cell} {ty : FieldType} (hf : Fit s) (ev : t.eval args s none [] s = some (.ref a)) (A : Arr s s.heap a cl ty) (h : (Jvm.Cond.eq (Term.length t) (Term.int 0)).value args s none s [] = some true) : Arv s s.heap a cl.cls ty (0 : Int32) [] .null := by
  obtain ⟨x, y, hx, hy, -, k2⟩ := cmp_v (Or.inl h)
  have hy' : y = .int 0 := (Option.some.inj hy).symm
  subst hy'
  obtain ⟨z, rfl⟩ := k2
  have hz : z = 0 := gotT (Cond.eq_ints hx hy) h
  subst hz
  obtain ⟨a', c', e', ha', hl', hv'⟩ := Jvm.Lib.length_spec hx
  cases ev.symm.trans e'
  have q : s.arrayAt? a = some cl := Arr.fin (Vm.Alike.refl _) A
  cases q.symm.trans ha'
  exact Arv.start hf A hl' (Value.int.inj hv').symm (by decide) rfl trivial
theorem own_c255 (x : Int32) : ¬ (255 : Int32) < (x &&& (255 : Int32)).toUInt32.toUInt16.toUInt32.toInt32 := by
  have hm := c_mask x 255 8 (by decide) (by decide)
  have hc := c_i2c (x &&& (255 : Int32))
  rw [Int32.lt_iff_toInt_lt, show (255 : Int32).toInt = 255 from by decide]
  omega
theorem own_pd0 : parseMethodDescriptor "(C)Z" = some ⟨[.char], some .boolean⟩ := by decide +kernel
theorem own_pd1 : parseMethodDescriptor "(C)[B" = some ⟨[.char], some (.array .byte)⟩ := by decide +kernel
theorem own_pd2 : parseMethodDescriptor "([BB)V" = some ⟨[(.array .byte), .byte], none⟩ := by decide +kernel
theorem own_pd3 : parseMethodDescriptor "()V" = some ⟨[], none⟩ := by decide +kernel
theorem own_pd4 : parseMethodDescriptor "(II)I" = some ⟨[.int, .int], some .int⟩ := by decide +kernel
theorem own_pd5 : parseMethodDescriptor "(I)[Ljava/lang/Object;" = some ⟨[.int], some (.array (.object "java/lang/Object"))⟩ := by decide +kernel
theorem own_pd6 : parseMethodDescriptor "()[Ljava/lang/Object;" = some ⟨[], some (.array (.object "java/lang/Object"))⟩ := by decide +kernel
theorem own_pd7 : parseMethodDescriptor "(Ljava/lang/Object;[Ljava/lang/Object;I)V" = some ⟨[(.object "java/lang/Object"), (.array (.object "java/lang/Object")), .int], none⟩ := by decide +kernel
theorem own_pd8 : parseMethodDescriptor "(JLjava/util/List;)V" = some ⟨[.long, (.object "java/util/List")], none⟩ := by decide +kernel
theorem own_pd9 : parseMethodDescriptor "()Z" = some ⟨[], some .boolean⟩ := by decide +kernel
theorem own_pd10 : parseMethodDescriptor "(C)Ljava/lang/String;" = some ⟨[.char], some (.object "java/lang/String")⟩ := by decide +kernel
theorem own_pd11 : parseMethodDescriptor "(Ljava/lang/Object;)Z" = some ⟨[(.object "java/lang/Object")], some .boolean⟩ := by decide +kernel
theorem d6_0 : decode jdk_43_method_3_code 0 = .ok (.iload_n 0, 1) := by decide +kernel
theorem d6_1 : decode jdk_43_method_3_code 1 = .ok (.sipush 255, 3) := by decide +kernel
theorem d6_4 : decode jdk_43_method_3_code 4 = .ok (.if_icmp .gt 7, 3) := by decide +kernel
theorem d6_7 : decode jdk_43_method_3_code 7 = .ok (.iconst 1, 1) := by decide +kernel
theorem d6_8 : decode jdk_43_method_3_code 8 = .ok (.goto 4, 3) := by decide +kernel
theorem d6_11 : decode jdk_43_method_3_code 11 = .ok (.iconst 0, 1) := by decide +kernel
theorem d6_12 : decode jdk_43_method_3_code 12 = .ok (.ireturn, 1) := by decide +kernel
theorem pn_rm_ce : plainName "java/lang/StringLatin1" = true := by first | (simp [plainName, overriddenIn]; done) | decide +kernel
theorem ef_rm_ce (m : MethodId) (vc : Int32) : entryFrame m #[(.int vc)] 1 = mkF m 0 #[.val (.int vc)] [] := by first | (simp [entryFrame, mkF, argsToLocals, Value.category]; done) | rfl
def Q_ce (Z : State) (vc : Int32) (h0 : Heap) (n0 : Nat) (v : Option Value) (h : Heap) (L : List Loc) : Prop := v = some (.int 1) ∧ Fr n0 L ∧ h = h0
set_option maxRecDepth 65536 in
set_option maxHeartbeats 40000000 in
theorem rm_ce (l : Launch) (Z : State) (a0 : Array Value) (hw : ∀ d ∈ tables_1, d.before a0 Z = true) (ws : List Jvm.Cond) (vc : Int32) (h0 : Heap) (n0 : Nat) (Z0 : n0 ≤ h0.size) (hc : ¬ (255 : Int32) < vc) :
    MetFree l (⟨"java/lang/StringLatin1", "canEncode", "(C)Z"⟩ : MethodName) (head1 (Jvm.Cond.code (⟨"java/lang/StringLatin1", "canEncode", "(C)Z"⟩ : MethodName) jdk_43_method_3_code 1 (some .boolean) :: ws) ({ frames := 0, cells := 0, slots := 0, locals := 0 } : Room)) (fun a U => a = #[(.int vc)] ∧ Z.Warmed39 U.vm ∧ U.heap = h0) (fun _ _ _ _ _ => True) (fun _ U o U' => ∃ v L, o = .returned v ∧ Q_ce Z vc h0 n0 v U'.heap L ∧ FrameEnd U o U' L ({ frames := 0, cells := 0, slots := 0, locals := 0 } : Room).cells ({ frames := 0, cells := 0, slots := 0, locals := 0 } : Room).slots) := by
  refine MetFree.of_bodySF (plainFor_of_name pn_rm_ce) hisR ?_
  intro p e s m args below meth c s₁ Bd hml0 hP hK
  obtain ⟨rfl, hZ, hh⟩ := hP
  have hx := Bd.exec
  have hby := Bd.bytes
  have hml : c.maxLocals = 1 := hml0
  have hown : s.vm.findClass "java/lang/StringLatin1" = some m.cls := findClass_of_methodNamed Bd.named
  have hnm := (name_of_methodNamed Bd.named Bd.method).1
  have X0 : Stand p l e ({ frames := 0, cells := 0, slots := 0, locals := 0 } : Room) s m #[(.int vc)] below meth c s₁ [] 0 0 := Stand.of_body Bd
  have e0 : s₁.heap = h0 := by rw [← hh, Bd.state]; rfl
  have N0 := Fr.nil n0
  have pre0 : ∀ t, Steps p.tables e below (s₁.setTop (mkF m 0 #[.val (.int vc)] [])) t → Steps p.tables e below (s₁.setTop (entryFrame m #[(.int vc)] 1)) t := fun t k => castTop (ef_rm_ce m vc) k
  have pre1 : ∀ t, Steps p.tables e below (s₁.setTop (mkF m 4 #[.val (.int vc)] [(.int (255 : Int32)), (.int vc)])) t → Steps p.tables e below (s₁.setTop (entryFrame m #[(.int vc)] 1)) t := by
    intro t k
    refine pre0 t ?_
    show Steps p.tables e below (s₁.setTop (mkF m 0 #[.val (.int vc)] [])) _
    refine XS.iloadN X0.here hx rfl (hb hby d6_0) rfl ?_
    show Steps p.tables e below (s₁.setTop (mkF m 1 #[.val (.int vc)] [(.int vc)])) _
    refine XS.sipush X0.here hx rfl (hb hby d6_1) ?_
    show Steps p.tables e below (s₁.setTop (mkF m 4 #[.val (.int vc)] [(.int (255 : Int32)), (.int vc)])) _
    exact k
  have hd2 : ¬ ((255 : Int32) < vc) := hc
  obtain ⟨fs, hr, hrun, hended, hW, hsame⟩ := X0.leave (v := some (.int (1 : Int32))) (fun h => by rw [Bd.returns] at h; cases h)
  refine ⟨_, _, pre1 _ ?_, hrun, hended, _, _, rfl, ?_, ⟨_, rfl⟩, hW, hsame.mono (by decide) (by decide)⟩
  · show Steps p.tables e below (s₁.setTop (mkF m 4 #[.val (.int vc)] [(.int (255 : Int32)), (.int vc)])) _
    refine XS.icmpNo X0.here hx rfl (hb hby d6_4) rfl (flt hd2).2.2.1 ?_
    show Steps p.tables e below (s₁.setTop (mkF m 7 #[.val (.int vc)] [])) _
    refine XS.iconst X0.here hx rfl (hb hby d6_7) ?_
    show Steps p.tables e below (s₁.setTop (mkF m 8 #[.val (.int vc)] [(.int (1 : Int32))])) _
    refine XS.goto X0.here hx rfl (pc0 := 8) (pc' := 12) rfl (hb hby d6_8) (by decide) (by decide) ?_
    show Steps p.tables e below (s₁.setTop (mkF m 12 #[.val (.int vc)] [(.int (1 : Int32))])) _
    exact retN X0 hx (t := .boolean) Bd.returns (by simp) (hb hby d6_12) hr
  · show Q_ce Z vc h0 n0 _ s₁.heap _
    rw [e0]
    exact ⟨rfl, N0, rfl⟩
theorem d7_0 : decode jdk_43_method_46_code 0 = .ok (.iconst 1, 1) := by decide +kernel
theorem d7_1 : decode jdk_43_method_46_code 1 = .ok (.newarray .byte, 2) := by decide +kernel
theorem d7_3 : decode jdk_43_method_46_code 3 = .ok (.dup, 1) := by decide +kernel
theorem d7_4 : decode jdk_43_method_46_code 4 = .ok (.iconst 0, 1) := by decide +kernel
theorem d7_5 : decode jdk_43_method_46_code 5 = .ok (.iload_n 0, 1) := by decide +kernel
theorem d7_6 : decode jdk_43_method_46_code 6 = .ok (.i2b, 1) := by decide +kernel
theorem d7_7 : decode jdk_43_method_46_code 7 = .ok (.bastore, 1) := by decide +kernel
theorem d7_8 : decode jdk_43_method_46_code 8 = .ok (.areturn, 1) := by decide +kernel
theorem pn_rm_tb : plainName "java/lang/StringLatin1" = true := by first | (simp [plainName, overriddenIn]; done) | decide +kernel
theorem ef_rm_tb (m : MethodId) (vc : Int32) : entryFrame m #[(.int vc)] 1 = mkF m 0 #[.val (.int vc)] [] := by first | (simp [entryFrame, mkF, argsToLocals, Value.category]; done) | rfl
def Q_tb (Z : State) (vc : Int32) (h0 : Heap) (n0 : Nat) (v : Option Value) (h : Heap) (L : List Loc) : Prop := ∃ (b : Addr) (kc : ClassId) (y : Int32), v = some (.ref b) ∧ Fr n0 L ∧ Keep h0 h [] ∧ n0 ≤ b ∧ h0.size ≤ b ∧ Arv Z h b kc .byte (1 : Int32) [(.int y)] (.int (0 : Int32))
set_option maxRecDepth 65536 in
set_option maxHeartbeats 40000000 in
theorem rm_tb (l : Launch) (Z : State) (a0 : Array Value) (hw : ∀ d ∈ tables_1, d.before a0 Z = true) (ws : List Jvm.Cond) (vc : Int32) (h0 : Heap) (n0 : Nat) (Z0 : n0 ≤ h0.size) :
    MetFree l (⟨"java/lang/StringLatin1", "toBytes", "(C)[B"⟩ : MethodName) (head1 (Jvm.Cond.code (⟨"java/lang/StringLatin1", "toBytes", "(C)[B"⟩ : MethodName) jdk_43_method_46_code 1 (some (.array .byte)) :: ws) ({ frames := 0, cells := 1, slots := 1, locals := 0 } : Room)) (fun a U => a = #[(.int vc)] ∧ Z.Warmed39 U.vm ∧ U.heap = h0) (fun _ _ _ _ _ => True) (fun _ U o U' => ∃ v L, o = .returned v ∧ Q_tb Z vc h0 n0 v U'.heap L ∧ FrameEnd U o U' L ({ frames := 0, cells := 1, slots := 1, locals := 0 } : Room).cells ({ frames := 0, cells := 1, slots := 1, locals := 0 } : Room).slots) := by
  refine MetFree.of_bodySF (plainFor_of_name pn_rm_tb) hisR ?_
  intro p e s m args below meth c s₁ Bd hml0 hP hK
  obtain ⟨rfl, hZ, hh⟩ := hP
  have hx := Bd.exec
  have hby := Bd.bytes
  have hml : c.maxLocals = 1 := hml0
  have hown : s.vm.findClass "java/lang/StringLatin1" = some m.cls := findClass_of_methodNamed Bd.named
  have hnm := (name_of_methodNamed Bd.named Bd.method).1
  have X0 : Stand p l e ({ frames := 0, cells := 1, slots := 1, locals := 0 } : Room) s m #[(.int vc)] below meth c s₁ [] 0 0 := Stand.of_body Bd
  have e0 : s₁.heap = h0 := by rw [← hh, Bd.state]; rfl
  have N0 := Fr.nil n0
  have pre0 : ∀ t, Steps p.tables e below (s₁.setTop (mkF m 0 #[.val (.int vc)] [])) t → Steps p.tables e below (s₁.setTop (entryFrame m #[(.int vc)] 1)) t := fun t k => castTop (ef_rm_tb m vc) k
  obtain ⟨T1, h1, k1, X1, e1, E1, A1, st1⟩ := newP X0 hx hZ (hw _ (List.mem_of_getElem? (i := 40) rfl)) e0 (g := (mkF m 1 #[.val (.int vc)] [(.int (1 : Int32))])) rfl (hb hby d7_1) rfl (by decide) (cap := 1) (by decide) (by decide) (by decide) (by decide)
  obtain ⟨b1, g1⟩ : ∃ z, z = h0.size := ⟨_, rfl⟩
  rw [← g1] at A1 st1
  have g_b1 : n0 ≤ b1 := Nat.le_trans Z0 (Nat.le_of_eq g1.symm)
  have Zp2 : n0 ≤ h1.size := Nat.le_trans Z0 E1.1
  have V1 : Arv Z h1 b1 k1 .byte (1 : Int32) [(.int (0 : Int32))] (.int (0 : Int32)) := (Arv.new A1 (by decide)).pad (pad_rep [] (.int (0 : Int32)) 1)
  obtain ⟨cl3, Ar3, q3, S3, M3, H3, G3⟩ := id V1
  have hin3 : ¬ ((0 : Int32) < 0 ∨ cl3.slots.size ≤ ((0 : Int32)).toNatClampNeg) := inb_of S3 ⟨by decide, by decide⟩
  obtain ⟨T4, h4, X4, e4, W4, st4⟩ := stB X1 hx hZ e1 Ar3 (j := (0 : Int32)) hin3 (g := (mkF m 7 #[.val (.int vc)] [(.int (vc.toInt8.toInt32)), (.int (0 : Int32)), (.ref b1), (.ref b1)])) rfl rfl (hb hby d7_7)
  have N4 := Fr.snoc X4 N0 g_b1
  have V4 : Arv Z h4 b1 k1 .byte (1 : Int32) [(.int (nar .byte (vc.toInt8.toInt32)))] (.int (0 : Int32)) := Arv.set Ar3 q3 S3 M3 H3 G3 (fits_nar_byte _) W4 0 rfl (Nat.le_of_ble_eq_true rfl)
  have Zp5 : n0 ≤ h4.size := Nat.le_trans Zp2 (Nat.le_of_eq (Wr.size W4).symm)
  obtain ⟨fs, hr, hrun, hended, hW, hsame⟩ := X4.leave (v := some (.ref b1)) (fun h => by rw [Bd.returns] at h; cases h)
  refine ⟨_, _, pre0 _ ?_, hrun, hended, _, _, rfl, ?_, ⟨_, rfl⟩, hW, hsame.mono (by decide) (by decide)⟩
  · show Steps p.tables e below (s₁.setTop (mkF m 0 #[.val (.int vc)] [])) _
    refine XS.iconst X0.here hx rfl (hb hby d7_0) ?_
    show Steps p.tables e below (s₁.setTop (mkF m 1 #[.val (.int vc)] [(.int (1 : Int32))])) _
    refine st1 _ ?_
    show Steps p.tables e below (T1.setTop (mkF m 3 #[.val (.int vc)] [(.ref b1)])) _
    refine XS.dup X1.here hx rfl (hb hby d7_3) rfl rfl ?_
    show Steps p.tables e below (T1.setTop (mkF m 4 #[.val (.int vc)] [(.ref b1), (.ref b1)])) _
    refine XS.iconst X1.here hx rfl (hb hby d7_4) ?_
    show Steps p.tables e below (T1.setTop (mkF m 5 #[.val (.int vc)] [(.int (0 : Int32)), (.ref b1), (.ref b1)])) _
    refine XS.iloadN X1.here hx rfl (hb hby d7_5) rfl ?_
    show Steps p.tables e below (T1.setTop (mkF m 6 #[.val (.int vc)] [(.int vc), (.int (0 : Int32)), (.ref b1), (.ref b1)])) _
    refine XS.i2b X1.here hx rfl (hb hby d7_6) rfl ?_
    show Steps p.tables e below (T1.setTop (mkF m 7 #[.val (.int vc)] [(.int (vc.toInt8.toInt32)), (.int (0 : Int32)), (.ref b1), (.ref b1)])) _
    refine st4 _ ?_
    show Steps p.tables e below (T4.setTop (mkF m 8 #[.val (.int vc)] [(.ref b1)])) _
    jvm_step X4.here [X4.here.top, hx, (hb hby d7_8), X4.method', Bd.returns, Value.isRef, FieldType.isReference]
    first | (intro acts; rw [hr _ acts rfl rfl rfl]) | rw [hr _ _ rfl rfl rfl]
    exact Steps.refl _
  · show Q_tb Z vc h0 n0 _ T4.heap _
    rw [e4]
    have Kc6 := (Keep.refl h0 []).ext E1
    have Kc7 := Kc6.wr W4 (Or.inr (Nat.le_trans (Keep.refl h0 []).1 (Nat.le_of_eq g1.symm)))
    exact ⟨b1, k1, _, rfl, N4, Kc7, g_b1, (Nat.le_trans (Nat.le_refl h0.size) (Nat.le_of_eq g1.symm)), V4⟩
theorem d8_0 : decode jdk_42_method_151_code 0 = .ok (.aload_n 0, 1) := by decide +kernel
theorem d8_1 : decode jdk_42_method_151_code 1 = .ok (.invokespecial 1, 3) := by decide +kernel
theorem d8_4 : decode jdk_42_method_151_code 4 = .ok (.aload_n 0, 1) := by decide +kernel
theorem d8_5 : decode jdk_42_method_151_code 5 = .ok (.aload_n 1, 1) := by decide +kernel
theorem d8_6 : decode jdk_42_method_151_code 6 = .ok (.putfield 9, 3) := by decide +kernel
theorem d8_9 : decode jdk_42_method_151_code 9 = .ok (.aload_n 0, 1) := by decide +kernel
theorem d8_10 : decode jdk_42_method_151_code 10 = .ok (.iload_n 2, 1) := by decide +kernel
theorem d8_11 : decode jdk_42_method_151_code 11 = .ok (.putfield 15, 3) := by decide +kernel
theorem d8_14 : decode jdk_42_method_151_code 14 = .ok (.return_, 1) := by decide +kernel
theorem pn_rm_si : plainName "java/lang/String" = true := by first | (simp [plainName, overriddenIn]; done) | decide +kernel
theorem ef_rm_si (m : MethodId) (va : Addr) (vb : Addr) (vc : Int32) : entryFrame m #[(.ref va), (.ref vb), (.int vc)] 3 = mkF m 0 #[.val (.ref va), .val (.ref vb), .val (.int vc)] [] := by first | (simp [entryFrame, mkF, argsToLocals, Value.category]; done) | rfl
def Q_si (Z : State) (va : Addr) (vb : Addr) (vc : Int32) (h0 : Heap) (n0 : Nat) (v : Option Value) (h : Heap) (L : List Loc) : Prop := v = none ∧ Fr n0 L ∧ Keep h0 h [va] ∧ Exa Z h va "java/lang/String" ∧ Fld Z h va "java/lang/String" "value" "[B" (.ref vb) ∧ Fld Z h va "java/lang/String" "coder" "B" (.int vc)
set_option maxRecDepth 65536 in
set_option maxHeartbeats 40000000 in
theorem rm_si (l : Launch) (Z : State) (a0 : Array Value) (hw : ∀ d ∈ tables_1, d.before a0 Z = true) (ws : List Jvm.Cond) (va : Addr) (vb : Addr) (vc : Int32) (h0 : Heap) (n0 : Nat) (Z0 : n0 ≤ h0.size) (E_va : Exa Z h0 va "java/lang/String") (g_va : n0 ≤ va) (F_value : Fld Z h0 va "java/lang/String" "value" "[B" .null) (F_coder : Fld Z h0 va "java/lang/String" "coder" "B" (.int (0 : Int32))) (hn : narrow .byte (.int vc) = .int vc) (hf : fits .byte (.int vc) = true) :
    MetFree l (⟨"java/lang/String", "<init>", "([BB)V"⟩ : MethodName) (head1 (Jvm.Cond.code (⟨"java/lang/String", "<init>", "([BB)V"⟩ : MethodName) jdk_42_method_151_code 3 none :: ws) ({ frames := 1, cells := 0, slots := 0, locals := 12 } : Room)) (fun a U => a = #[(.ref va), (.ref vb), (.int vc)] ∧ Z.Warmed39 U.vm ∧ U.heap = h0) (fun _ _ _ _ _ => True) (fun _ U o U' => ∃ v L, o = .returned v ∧ Q_si Z va vb vc h0 n0 v U'.heap L ∧ FrameEnd U o U' L ({ frames := 1, cells := 0, slots := 0, locals := 12 } : Room).cells ({ frames := 1, cells := 0, slots := 0, locals := 12 } : Room).slots) := by
  refine MetFree.of_bodySF (plainFor_of_name pn_rm_si) hisR ?_
  intro p e s m args below meth c s₁ Bd hml0 hP hK
  obtain ⟨rfl, hZ, hh⟩ := hP
  have hx := Bd.exec
  have hby := Bd.bytes
  have hml : c.maxLocals = 3 := hml0
  have hown : s.vm.findClass "java/lang/String" = some m.cls := findClass_of_methodNamed Bd.named
  have hnm := (name_of_methodNamed Bd.named Bd.method).1
  have X0 : Stand p l e ({ frames := 1, cells := 0, slots := 0, locals := 12 } : Room) s m #[(.ref va), (.ref vb), (.int vc)] below meth c s₁ [] 0 0 := Stand.of_body Bd
  have e0 : s₁.heap = h0 := by rw [← hh, Bd.state]; rfl
  have N0 := Fr.nil n0
  have pre0 : ∀ t, Steps p.tables e below (s₁.setTop (mkF m 0 #[.val (.ref va), .val (.ref vb), .val (.int vc)] [])) t → Steps p.tables e below (s₁.setTop (entryFrame m #[(.ref va), (.ref vb), (.int vc)] 3)) t := fun t k => castTop (ef_rm_si m va vb vc) k
  obtain ⟨T1, X1, e1, st1⟩ := initO X0 hx hZ hown (hw _ (List.mem_of_getElem? (i := 45) rfl)) (hw _ (List.mem_of_getElem? (i := 19) rfl)) (hw _ (List.mem_of_getElem? (i := 20) rfl)) e0 (g := (mkF m 1 #[.val (.ref va), .val (.ref vb), .val (.int vc)] [(.ref va)])) rfl (by rw [hml]; rfl) rfl (hb hby d8_1) (by decide) (W := 0) (by show 2 * 0 + _ ≤ _; exact Nat.le_of_eq rfl) (by decide)
  obtain ⟨T2, h2, X2, e2, W2, st2⟩ := putF X1 hx hZ hown (host := "") (Or.inl (hw _ (List.mem_of_getElem? (i := 46) rfl))) Via.refl e1 F_value E_va (Or.inr ⟨(hw _ (List.mem_of_getElem? (i := 47) rfl)), rfl, hnm⟩) (hw _ (List.mem_of_getElem? (i := 36) rfl)) (ty := (.array .byte)) (by decide) rfl rfl (g := (mkF m 6 #[.val (.ref va), .val (.ref vb), .val (.int vc)] [(.ref vb), (.ref va)])) rfl rfl (hb hby d8_6)
  have N2 := Fr.snoc X2 N0 g_va
  have Fw2 := Fld.same W2 F_value
  have Zp3 : n0 ≤ h2.size := Nat.le_trans Z0 (Nat.le_of_eq (Wr.size W2).symm)
  have Fc4 := (Fld.other W2 F_coder (Or.inr (slot_ne (Or.inr (hw _ (List.mem_of_getElem? (i := 49) rfl))) (Or.inr (hw _ (List.mem_of_getElem? (i := 47) rfl))) (by decide) (t := .byte) (t' := (.array .byte)) (by decide) (by decide))))
  have Fc5 := (Exa.wr W2 E_va)
  obtain ⟨T6, h6, X6, e6, W6, st6⟩ := putFN X2 hx hZ hown (hw _ (List.mem_of_getElem? (i := 48) rfl)) Via.refl e2 Fc4 Fc5 (Or.inr ⟨(hw _ (List.mem_of_getElem? (i := 49) rfl)), rfl, hnm⟩) (hw _ (List.mem_of_getElem? (i := 36) rfl)) (ty := .byte) (v' := (.int vc)) (by decide) hn hf (g := (mkF m 11 #[.val (.ref va), .val (.ref vb), .val (.int vc)] [(.int vc), (.ref va)])) rfl rfl (hb hby d8_11)
  have N6 := Fr.snoc X6 N2 g_va
  have Fw6 := Fld.same W6 Fc4
  have Zp7 : n0 ≤ h6.size := Nat.le_trans Zp3 (Nat.le_of_eq (Wr.size W6).symm)
  obtain ⟨fs, hr, hrun, hended, hW, hsame⟩ := X6.leave (v := none) (fun _ => rfl)
  refine ⟨_, _, pre0 _ ?_, hrun, hended, _, _, rfl, ?_, ⟨_, rfl⟩, hW, hsame.mono (by decide) (by decide)⟩
  · show Steps p.tables e below (s₁.setTop (mkF m 0 #[.val (.ref va), .val (.ref vb), .val (.int vc)] [])) _
    refine XS.aloadN X0.here hx rfl (hb hby d8_0) rfl rfl ?_
    show Steps p.tables e below (s₁.setTop (mkF m 1 #[.val (.ref va), .val (.ref vb), .val (.int vc)] [(.ref va)])) _
    refine st1 _ ?_
    show Steps p.tables e below (T1.setTop (mkF m 4 #[.val (.ref va), .val (.ref vb), .val (.int vc)] [])) _
    refine XS.aloadN X1.here hx rfl (hb hby d8_4) rfl rfl ?_
    show Steps p.tables e below (T1.setTop (mkF m 5 #[.val (.ref va), .val (.ref vb), .val (.int vc)] [(.ref va)])) _
    refine XS.aloadN X1.here hx rfl (hb hby d8_5) rfl rfl ?_
    show Steps p.tables e below (T1.setTop (mkF m 6 #[.val (.ref va), .val (.ref vb), .val (.int vc)] [(.ref vb), (.ref va)])) _
    refine st2 _ ?_
    show Steps p.tables e below (T2.setTop (mkF m 9 #[.val (.ref va), .val (.ref vb), .val (.int vc)] [])) _
    refine XS.aloadN X2.here hx rfl (hb hby d8_9) rfl rfl ?_
    show Steps p.tables e below (T2.setTop (mkF m 10 #[.val (.ref va), .val (.ref vb), .val (.int vc)] [(.ref va)])) _
    refine XS.iloadN X2.here hx rfl (hb hby d8_10) rfl ?_
    show Steps p.tables e below (T2.setTop (mkF m 11 #[.val (.ref va), .val (.ref vb), .val (.int vc)] [(.int vc), (.ref va)])) _
    refine st6 _ ?_
    show Steps p.tables e below (T6.setTop (mkF m 14 #[.val (.ref va), .val (.ref vb), .val (.int vc)] [])) _
    exact X6.returnOut hx Bd.returns (hb hby d8_14) hr
  · show Q_si Z va vb vc h0 n0 _ T6.heap _
    rw [e6]
    have Kc8 := (Keep.refl h0 [va]).wr W2 (Or.inl (List.mem_of_getElem? (i := 0) rfl))
    have Kc9 := Kc8.wr W6 (Or.inl (List.mem_of_getElem? (i := 0) rfl))
    have Fc10 := (Exa.wr W6 Fc5)
    have Fc11 := (Fld.other W6 Fw2 (Or.inr (slot_ne (Or.inr (hw _ (List.mem_of_getElem? (i := 47) rfl))) (Or.inr (hw _ (List.mem_of_getElem? (i := 49) rfl))) (by decide) (t := (.array .byte)) (t' := .byte) (by decide) (by decide))))
    exact ⟨rfl, N6, Kc9, Fc10, Fc11, Fw6⟩
theorem d5_0 : decode jdk_42_method_139_code 0 = .ok (.getstatic 38, 3) := by decide +kernel
theorem d5_3 : decode jdk_42_method_139_code 3 = .ok (.ifCond .eq 23, 3) := by decide +kernel
theorem d5_6 : decode jdk_42_method_139_code 6 = .ok (.iload_n 0, 1) := by decide +kernel
theorem d5_7 : decode jdk_42_method_139_code 7 = .ok (.invokestatic 1015, 3) := by decide +kernel
theorem d5_10 : decode jdk_42_method_139_code 10 = .ok (.ifCond .eq 16, 3) := by decide +kernel
theorem d5_13 : decode jdk_42_method_139_code 13 = .ok (.new 10, 3) := by decide +kernel
theorem d5_16 : decode jdk_42_method_139_code 16 = .ok (.dup, 1) := by decide +kernel
theorem d5_17 : decode jdk_42_method_139_code 17 = .ok (.iload_n 0, 1) := by decide +kernel
theorem d5_18 : decode jdk_42_method_139_code 18 = .ok (.invokestatic 1018, 3) := by decide +kernel
theorem d5_21 : decode jdk_42_method_139_code 21 = .ok (.iconst 0, 1) := by decide +kernel
theorem d5_22 : decode jdk_42_method_139_code 22 = .ok (.invokespecial 209, 3) := by decide +kernel
theorem d5_25 : decode jdk_42_method_139_code 25 = .ok (.areturn, 1) := by decide +kernel
theorem d5_26 : decode jdk_42_method_139_code 26 = .ok (.new 10, 3) := by decide +kernel
theorem d5_29 : decode jdk_42_method_139_code 29 = .ok (.dup, 1) := by decide +kernel
theorem d5_30 : decode jdk_42_method_139_code 30 = .ok (.iload_n 0, 1) := by decide +kernel
theorem d5_31 : decode jdk_42_method_139_code 31 = .ok (.invokestatic 1021, 3) := by decide +kernel
theorem d5_34 : decode jdk_42_method_139_code 34 = .ok (.iconst 1, 1) := by decide +kernel
theorem d5_35 : decode jdk_42_method_139_code 35 = .ok (.invokespecial 209, 3) := by decide +kernel
theorem d5_38 : decode jdk_42_method_139_code 38 = .ok (.areturn, 1) := by decide +kernel
theorem pn_rm_vo : plainName "java/lang/String" = true := by first | (simp [plainName, overriddenIn]; done) | decide +kernel
theorem ef_rm_vo (m : MethodId) (vc : Int32) : entryFrame m #[(.int vc)] 1 = mkF m 0 #[.val (.int vc)] [] := by first | (simp [entryFrame, mkF, argsToLocals, Value.category]; done) | rfl
def Q_vo (Z : State) (vc : Int32) (vcs : Int32) (h0 : Heap) (n0 : Nat) (v : Option Value) (h : Heap) (L : List Loc) : Prop := ∃ (b vb : Addr) (kc : ClassId) (y : Int32), v = some (.ref b) ∧ Fr n0 L ∧ Keep h0 h [] ∧ n0 ≤ b ∧ h0.size ≤ b ∧ Exa Z h b "java/lang/String" ∧ Fld Z h b "java/lang/String" "value" "[B" (.ref vb) ∧ Fld Z h b "java/lang/String" "coder" "B" (.int (0 : Int32)) ∧ Arv Z h vb kc .byte (1 : Int32) [(.int y)] (.int (0 : Int32))
set_option maxRecDepth 65536 in
set_option maxHeartbeats 40000000 in
theorem rm_vo (l : Launch) (Z : State) (a0 : Array Value) (hw : ∀ d ∈ tables_1, d.before a0 Z = true) (ws : List Jvm.Cond) (vc : Int32) (vcs : Int32) (h0 : Heap) (n0 : Nat) (Z0 : n0 ≤ h0.size) (S_cs : Sta Z h0 "java/lang/String" "COMPACT_STRINGS" "Z" (.int vcs)) (hcs : ¬ vcs = 0) (hc : ¬ (255 : Int32) < vc) :
    MetFree l (⟨"java/lang/String", "valueOf", "(C)Ljava/lang/String;"⟩ : MethodName) (head1 (Jvm.Cond.code (⟨"java/lang/String", "valueOf", "(C)Ljava/lang/String;"⟩ : MethodName) jdk_42_method_139_code 1 (some (.object "java/lang/String")) :: ws) ({ frames := 2, cells := 2, slots := 5, locals := 27 } : Room)) (fun a U => a = #[(.int vc)] ∧ Z.Warmed39 U.vm ∧ U.heap = h0) (fun _ _ _ _ _ => True) (fun _ U o U' => ∃ v L, o = .returned v ∧ Q_vo Z vc vcs h0 n0 v U'.heap L ∧ FrameEnd U o U' L ({ frames := 2, cells := 2, slots := 5, locals := 27 } : Room).cells ({ frames := 2, cells := 2, slots := 5, locals := 27 } : Room).slots) := by
  refine MetFree.of_bodySF (plainFor_of_name pn_rm_vo) hisR ?_
  intro p e s m args below meth c s₁ Bd hml0 hP hK
  obtain ⟨rfl, hZ, hh⟩ := hP
  have hx := Bd.exec
  have hby := Bd.bytes
  have hml : c.maxLocals = 1 := hml0
  have hown : s.vm.findClass "java/lang/String" = some m.cls := findClass_of_methodNamed Bd.named
  have hnm := (name_of_methodNamed Bd.named Bd.method).1
  have X0 : Stand p l e ({ frames := 2, cells := 2, slots := 5, locals := 27 } : Room) s m #[(.int vc)] below meth c s₁ [] 0 0 := Stand.of_body Bd
  have e0 : s₁.heap = h0 := by rw [← hh, Bd.state]; rfl
  have N0 := Fr.nil n0
  have pre0 : ∀ t, Steps p.tables e below (s₁.setTop (mkF m 0 #[.val (.int vc)] [])) t → Steps p.tables e below (s₁.setTop (entryFrame m #[(.int vc)] 1)) t := fun t k => castTop (ef_rm_vo m vc) k
  obtain ⟨T1, X1, e1, st1⟩ := getS2 X0 hx hZ hown (host := "") (Or.inl (hw _ (List.mem_of_getElem? (i := 30) rfl))) Via.refl e0 S_cs (g := (mkF m 0 #[.val (.int vc)] [])) rfl (hb hby d5_0)
  have pre2 : ∀ t, Steps p.tables e below (T1.setTop (mkF m 3 #[.val (.int vc)] [(.int vcs)])) t → Steps p.tables e below (s₁.setTop (entryFrame m #[(.int vc)] 1)) t := by
    intro t k
    refine pre0 t ?_
    show Steps p.tables e below (s₁.setTop (mkF m 0 #[.val (.int vc)] [])) _
    refine st1 _ ?_
    show Steps p.tables e below (T1.setTop (mkF m 3 #[.val (.int vc)] [(.int vcs)])) _
    exact k
  have hd3 : ¬ (vcs = (0 : Int32)) := hcs
  obtain ⟨_, _, ⟨T4, L4, k4, n4⟩, -, X4, ⟨Lc4, hQ4, l4, y4, z4⟩, st4⟩ := Jvm.LawKit.callS X1 hx (y := (⟨"java/lang/StringLatin1", "canEncode", "(C)Z"⟩ : MethodName)) hown (mvT hZ (hw _ (List.mem_of_getElem? (i := 31) rfl))) (mvT hZ (hw _ (List.mem_of_getElem? (i := 32) rfl))) (mvT hZ (hw _ (List.mem_of_getElem? (i := 33) rfl))) (mvT hZ (hw _ (List.mem_of_getElem? (i := 34) rfl))) (by decide) (backOf (W := 0) (rm_ce l Z a0 hw [] vc h0 n0 Z0 hc) hZ (hw _ (List.mem_of_getElem? (i := 34) rfl)) (hw _ (List.mem_of_getElem? (i := 33) rfl)) (by decide) (by decide)) (g := (mkF m 7 #[.val (.int vc)] [(.int vc)])) rfl (by rw [hml]; rfl) (argsL := [(.int vc)]) (rest := []) (lenOf own_pd0 rfl) rfl (by show 2 * 0 + _ ≤ _; exact Nat.le_of_eq rfl) (hb hby d5_7) (fun _ _ => ⟨rfl, e1, (by decide : 0 + 0 ≤ _), (by decide : 0 + 0 ≤ _)⟩)
  dsimp only [Pt.U, Pt.locs, Pt.cells, Pt.slots] at X4 l4 y4 z4 st4 hQ4
  subst l4 y4 z4
  obtain ⟨rfl, Nq4, hh4⟩ := hQ4
  have Nf4 := Fr.app N0 Nq4
  obtain ⟨T5, h5, X5, e5, E5, A5, D5, U5, st5⟩ := newO X4 hx hZ hown (hw _ (List.mem_of_getElem? (i := 35) rfl)) (hw _ (List.mem_of_getElem? (i := 36) rfl)) (hw _ (List.mem_of_getElem? (i := 28) rfl)) hh4 (g := (mkF m 13 #[.val (.int vc)] [])) rfl (hb hby d5_13) (by decide) (by decide)
  obtain ⟨b5, g5⟩ : ∃ z, z = h0.size := ⟨_, rfl⟩
  rw [← g5] at A5 D5 U5 st5
  have g_b5 : n0 ≤ b5 := Nat.le_trans Z0 (Nat.le_of_eq g5.symm)
  have Zp6 : n0 ≤ h5.size := Nat.le_trans Z0 E5.1
  have Fn7 : Fld Z h5 b5 "java/lang/String" "value" "[B" .null := D5 (Or.inr (hw _ (List.mem_of_getElem? (i := 47) rfl))) (ty := (.array .byte)) (by decide)
  have Fn8 : Fld Z h5 b5 "java/lang/String" "coder" "B" (.int (0 : Int32)) := D5 (Or.inr (hw _ (List.mem_of_getElem? (i := 49) rfl))) (ty := .byte) (by decide)
  obtain ⟨_, _, ⟨T9, L9, k9, n9⟩, -, X9, ⟨Lc9, hQ9, l9, y9, z9⟩, st9⟩ := Jvm.LawKit.callS X5 hx (y := (⟨"java/lang/StringLatin1", "toBytes", "(C)[B"⟩ : MethodName)) hown (mvT hZ (hw _ (List.mem_of_getElem? (i := 37) rfl))) (mvT hZ (hw _ (List.mem_of_getElem? (i := 38) rfl))) (mvT hZ (hw _ (List.mem_of_getElem? (i := 33) rfl))) (mvT hZ (hw _ (List.mem_of_getElem? (i := 39) rfl))) (by decide) (backOf (W := 2) (rm_tb l Z a0 hw [] vc h5 n0 Zp6 ) hZ (hw _ (List.mem_of_getElem? (i := 39) rfl)) (hw _ (List.mem_of_getElem? (i := 33) rfl)) (by decide) (by decide)) (g := (mkF m 18 #[.val (.int vc)] [(.int vc), (.ref b5), (.ref b5)])) rfl (by rw [hml]; rfl) (argsL := [(.int vc)]) (rest := [(.ref b5), (.ref b5)]) (lenOf own_pd1 rfl) rfl (by show 2 * 0 + _ ≤ _; exact Nat.le_of_eq rfl) (hb hby d5_18) (fun _ _ => ⟨rfl, e5, (by decide : 1 + 1 ≤ _), (by decide : 4 + 1 ≤ _)⟩)
  dsimp only [Pt.U, Pt.locs, Pt.cells, Pt.slots] at X9 l9 y9 z9 st9 hQ9
  subst l9 y9 z9
  obtain ⟨b9, kc9, y9, rfl, Nq9, K9, g_b9, sz_b9, V9⟩ := hQ9
  have Nf9 := Fr.app Nf4 Nq9
  have Zp10 : n0 ≤ T9.heap.size := Nat.le_trans Zp6 K9.1
  have Fc11 := (A5.keep K9)
  have Fc12 := (Fn7.keep K9 nin0)
  have Fc13 := (Fn8.keep K9 nin0)
  obtain ⟨_, _, ⟨T14, L14, k14, n14⟩, -, X14, ⟨Lc14, hQ14, l14, y14, z14⟩, st14⟩ := X9.specialBack hx (y := (⟨"java/lang/String", "<init>", "([BB)V"⟩ : MethodName)) rfl hown (mvT hZ (hw _ (List.mem_of_getElem? (i := 41) rfl))) (mvT hZ (hw _ (List.mem_of_getElem? (i := 42) rfl))) (mvT hZ (hw _ (List.mem_of_getElem? (i := 44) rfl))) (by decide) (backOf (W := 1) (rm_si l Z a0 hw [] b5 b9 (0 : Int32) T9.heap n0 Zp10 Fc11 g_b5 Fc12 Fc13 rfl rfl) hZ (hw _ (List.mem_of_getElem? (i := 44) rfl)) (hw _ (List.mem_of_getElem? (i := 28) rfl)) (by decide) (by decide)) (g := (mkF m 22 #[.val (.int vc)] [(.int (0 : Int32)), (.ref b9), (.ref b5), (.ref b5)])) rfl (by rw [hml]; rfl) (Steps.refl _) (a := b5) (argsL := [(.ref b9), (.int (0 : Int32))]) (rest := [(.ref b5)]) (lenOf own_pd2 rfl) rfl (by show 2 * 0 + _ ≤ _; exact Nat.le_of_eq rfl) (hb hby d5_22) (fun _ _ => ⟨rfl, rfl, (by decide : 2 + 0 ≤ _), (by decide : 5 + 0 ≤ _)⟩)
  dsimp only [Pt.U, Pt.locs, Pt.cells, Pt.slots] at X14 l14 y14 z14 st14 hQ14
  subst l14 y14 z14
  obtain ⟨rfl, Nq14, K14, Ex14, Fx14_0, Fx14_1⟩ := hQ14
  have Nf14 := Fr.app Nf9 Nq14
  have Zp15 : n0 ≤ T14.heap.size := Nat.le_trans Zp10 K14.1
  obtain ⟨fs, hr, hrun, hended, hW, hsame⟩ := X14.leave (v := some (.ref b5)) (fun h => by rw [Bd.returns] at h; cases h)
  refine ⟨_, _, pre2 _ ?_, hrun, hended, _, _, rfl, ?_, ⟨_, rfl⟩, hW, hsame.mono (by decide) (by decide)⟩
  · show Steps p.tables e below (T1.setTop (mkF m 3 #[.val (.int vc)] [(.int vcs)])) _
    refine XS.ifNo X1.here hx rfl (hb hby d5_3) rfl ((if0 _ _).trans (feq hd3).1) ?_
    show Steps p.tables e below (T1.setTop (mkF m 6 #[.val (.int vc)] [])) _
    refine XS.iloadN X1.here hx rfl (hb hby d5_6) rfl ?_
    show Steps p.tables e below (T1.setTop (mkF m 7 #[.val (.int vc)] [(.int vc)])) _
    refine st4 _ ?_
    show Steps p.tables e below (T4.setTop (mkF m 10 #[.val (.int vc)] [(.int (1 : Int32))])) _
    refine XS.ifNo X4.here hx rfl (hb hby d5_10) rfl (by decide) ?_
    show Steps p.tables e below (T4.setTop (mkF m 13 #[.val (.int vc)] [])) _
    refine st5 _ ?_
    show Steps p.tables e below (T5.setTop (mkF m 16 #[.val (.int vc)] [(.ref b5)])) _
    refine XS.dup X5.here hx rfl (hb hby d5_16) rfl rfl ?_
    show Steps p.tables e below (T5.setTop (mkF m 17 #[.val (.int vc)] [(.ref b5), (.ref b5)])) _
    refine XS.iloadN X5.here hx rfl (hb hby d5_17) rfl ?_
    show Steps p.tables e below (T5.setTop (mkF m 18 #[.val (.int vc)] [(.int vc), (.ref b5), (.ref b5)])) _
    refine st9 _ ?_
    show Steps p.tables e below (T9.setTop (mkF m 21 #[.val (.int vc)] [(.ref b9), (.ref b5), (.ref b5)])) _
    refine XS.iconst X9.here hx rfl (hb hby d5_21) ?_
    show Steps p.tables e below (T9.setTop (mkF m 22 #[.val (.int vc)] [(.int (0 : Int32)), (.ref b9), (.ref b5), (.ref b5)])) _
    refine st14.trans ?_
    show Steps p.tables e below (T14.setTop (mkF m 25 #[.val (.int vc)] [(.ref b5)])) _
    jvm_step X14.here [X14.here.top, hx, (hb hby d5_25), X14.method', Bd.returns, Value.isRef, FieldType.isReference]
    first | (intro acts; rw [hr _ acts rfl rfl rfl]) | rw [hr _ _ rfl rfl rfl]
    exact Steps.refl _
  · show Q_vo Z vc vcs h0 n0 _ T14.heap _
    have Kc16 := (Keep.refl h0 []).ext E5
    have Kc17 := Kc16.trans K9 all0
    have Kc18 := Kc17.trans K14 (allS (Or.inr (Nat.le_trans (Keep.refl h0 []).1 (Nat.le_of_eq g5.symm))) all0)
    have Fc19 := (V9.keep K14 (ninS (Ne.symm (Nat.ne_of_lt (Nat.lt_of_lt_of_le (A5).lt sz_b9))) nin0))
    exact ⟨b5, b9, kc9, y9, rfl, Nf14, Kc18, g_b5, (Nat.le_trans (Nat.le_refl h0.size) (Nat.le_of_eq g5.symm)), Ex14, Fx14_0, Fx14_1, Fc19⟩
theorem d3_0 : decode jdk_22_method_1_code 0 = .ok (.aload_n 0, 1) := by decide +kernel
theorem d3_1 : decode jdk_22_method_1_code 1 = .ok (.invokespecial 1, 3) := by decide +kernel
theorem d3_4 : decode jdk_22_method_1_code 4 = .ok (.return_, 1) := by decide +kernel
theorem pn_rm_ci : plainName "java/util/AbstractCollection" = true := by first | (simp [plainName, overriddenIn]; done) | decide +kernel
theorem ef_rm_ci (m : MethodId) (va : Addr) : entryFrame m #[(.ref va)] 1 = mkF m 0 #[.val (.ref va)] [] := by first | (simp [entryFrame, mkF, argsToLocals, Value.category]; done) | rfl
def Q_ci (Z : State) (va : Addr) (h0 : Heap) (n0 : Nat) (v : Option Value) (h : Heap) (L : List Loc) : Prop := v = none ∧ Fr n0 L ∧ h = h0
set_option maxRecDepth 65536 in
set_option maxHeartbeats 40000000 in
theorem rm_ci (l : Launch) (Z : State) (a0 : Array Value) (hw : ∀ d ∈ tables_1, d.before a0 Z = true) (ws : List Jvm.Cond) (va : Addr) (h0 : Heap) (n0 : Nat) (Z0 : n0 ≤ h0.size) :
    MetFree l (⟨"java/util/AbstractCollection", "<init>", "()V"⟩ : MethodName) (head1 (Jvm.Cond.code (⟨"java/util/AbstractCollection", "<init>", "()V"⟩ : MethodName) jdk_22_method_1_code 1 none :: ws) ({ frames := 1, cells := 0, slots := 0, locals := 12 } : Room)) (fun a U => a = #[(.ref va)] ∧ Z.Warmed39 U.vm ∧ U.heap = h0) (fun _ _ _ _ _ => True) (fun _ U o U' => ∃ v L, o = .returned v ∧ Q_ci Z va h0 n0 v U'.heap L ∧ FrameEnd U o U' L ({ frames := 1, cells := 0, slots := 0, locals := 12 } : Room).cells ({ frames := 1, cells := 0, slots := 0, locals := 12 } : Room).slots) := by
  refine MetFree.of_bodySF (plainFor_of_name pn_rm_ci) hisR ?_
  intro p e s m args below meth c s₁ Bd hml0 hP hK
  obtain ⟨rfl, hZ, hh⟩ := hP
  have hx := Bd.exec
  have hby := Bd.bytes
  have hml : c.maxLocals = 1 := hml0
  have hown : s.vm.findClass "java/util/AbstractCollection" = some m.cls := findClass_of_methodNamed Bd.named
  have hnm := (name_of_methodNamed Bd.named Bd.method).1
  have X0 : Stand p l e ({ frames := 1, cells := 0, slots := 0, locals := 12 } : Room) s m #[(.ref va)] below meth c s₁ [] 0 0 := Stand.of_body Bd
  have e0 : s₁.heap = h0 := by rw [← hh, Bd.state]; rfl
  have N0 := Fr.nil n0
  have pre0 : ∀ t, Steps p.tables e below (s₁.setTop (mkF m 0 #[.val (.ref va)] [])) t → Steps p.tables e below (s₁.setTop (entryFrame m #[(.ref va)] 1)) t := fun t k => castTop (ef_rm_ci m va) k
  obtain ⟨T1, X1, e1, st1⟩ := initO X0 hx hZ hown (hw _ (List.mem_of_getElem? (i := 18) rfl)) (hw _ (List.mem_of_getElem? (i := 19) rfl)) (hw _ (List.mem_of_getElem? (i := 20) rfl)) e0 (g := (mkF m 1 #[.val (.ref va)] [(.ref va)])) rfl (by rw [hml]; rfl) rfl (hb hby d3_1) (by decide) (W := 0) (by show 2 * 0 + _ ≤ _; exact Nat.le_of_eq rfl) (by decide)
  obtain ⟨fs, hr, hrun, hended, hW, hsame⟩ := X1.leave (v := none) (fun _ => rfl)
  refine ⟨_, _, pre0 _ ?_, hrun, hended, _, _, rfl, ?_, ⟨_, rfl⟩, hW, hsame.mono (by decide) (by decide)⟩
  · show Steps p.tables e below (s₁.setTop (mkF m 0 #[.val (.ref va)] [])) _
    refine XS.aloadN X0.here hx rfl (hb hby d3_0) rfl rfl ?_
    show Steps p.tables e below (s₁.setTop (mkF m 1 #[.val (.ref va)] [(.ref va)])) _
    refine st1 _ ?_
    show Steps p.tables e below (T1.setTop (mkF m 4 #[.val (.ref va)] [])) _
    exact X1.returnOut hx Bd.returns (hb hby d3_4) hr
  · show Q_ci Z va h0 n0 _ T1.heap _
    rw [e1]
    exact ⟨rfl, N0, rfl⟩
theorem d2_0 : decode jdk_39_method_1_code 0 = .ok (.aload_n 0, 1) := by decide +kernel
theorem d2_1 : decode jdk_39_method_1_code 1 = .ok (.invokespecial 1, 3) := by decide +kernel
theorem d2_4 : decode jdk_39_method_1_code 4 = .ok (.aload_n 0, 1) := by decide +kernel
theorem d2_5 : decode jdk_39_method_1_code 5 = .ok (.iconst 0, 1) := by decide +kernel
theorem d2_6 : decode jdk_39_method_1_code 6 = .ok (.putfield 7, 3) := by decide +kernel
theorem d2_9 : decode jdk_39_method_1_code 9 = .ok (.return_, 1) := by decide +kernel
theorem pn_rm_li : plainName "java/util/AbstractList" = true := by first | (simp [plainName, overriddenIn]; done) | decide +kernel
theorem ef_rm_li (m : MethodId) (va : Addr) : entryFrame m #[(.ref va)] 1 = mkF m 0 #[.val (.ref va)] [] := by first | (simp [entryFrame, mkF, argsToLocals, Value.category]; done) | rfl
def Q_li (Z : State) (va : Addr) (h0 : Heap) (n0 : Nat) (v : Option Value) (h : Heap) (L : List Loc) : Prop := v = none ∧ Fr n0 L ∧ Keep h0 h [va] ∧ Exa Z h va "java/util/ArrayList" ∧ Fld Z h va "java/util/AbstractList" "modCount" "I" (.int (0 : Int32)) ∧ Fld Z h va "java/util/ArrayList" "elementData" "[Ljava/lang/Object;" .null ∧ Fld Z h va "java/util/ArrayList" "size" "I" (.int (0 : Int32))
set_option maxRecDepth 65536 in
set_option maxHeartbeats 40000000 in
theorem rm_li (l : Launch) (Z : State) (a0 : Array Value) (hw : ∀ d ∈ tables_1, d.before a0 Z = true) (ws : List Jvm.Cond) (va : Addr) (h0 : Heap) (n0 : Nat) (Z0 : n0 ≤ h0.size) (E_a : Exa Z h0 va "java/util/ArrayList") (g_va : n0 ≤ va) (F_m : Fld Z h0 va "java/util/AbstractList" "modCount" "I" (.int (0 : Int32))) (F_e : Fld Z h0 va "java/util/ArrayList" "elementData" "[Ljava/lang/Object;" .null) (F_s : Fld Z h0 va "java/util/ArrayList" "size" "I" (.int (0 : Int32))) :
    MetFree l (⟨"java/util/AbstractList", "<init>", "()V"⟩ : MethodName) (head1 (Jvm.Cond.code (⟨"java/util/AbstractList", "<init>", "()V"⟩ : MethodName) jdk_39_method_1_code 1 none :: ws) ({ frames := 2, cells := 0, slots := 0, locals := 24 } : Room)) (fun a U => a = #[(.ref va)] ∧ Z.Warmed39 U.vm ∧ U.heap = h0) (fun _ _ _ _ _ => True) (fun _ U o U' => ∃ v L, o = .returned v ∧ Q_li Z va h0 n0 v U'.heap L ∧ FrameEnd U o U' L ({ frames := 2, cells := 0, slots := 0, locals := 24 } : Room).cells ({ frames := 2, cells := 0, slots := 0, locals := 24 } : Room).slots) := by
  refine MetFree.of_bodySF (plainFor_of_name pn_rm_li) hisR ?_
  intro p e s m args below meth c s₁ Bd hml0 hP hK
  obtain ⟨rfl, hZ, hh⟩ := hP
  have hx := Bd.exec
  have hby := Bd.bytes
  have hml : c.maxLocals = 1 := hml0
  have hown : s.vm.findClass "java/util/AbstractList" = some m.cls := findClass_of_methodNamed Bd.named
  have hnm := (name_of_methodNamed Bd.named Bd.method).1
  have X0 : Stand p l e ({ frames := 2, cells := 0, slots := 0, locals := 24 } : Room) s m #[(.ref va)] below meth c s₁ [] 0 0 := Stand.of_body Bd
  have e0 : s₁.heap = h0 := by rw [← hh, Bd.state]; rfl
  have N0 := Fr.nil n0
  have pre0 : ∀ t, Steps p.tables e below (s₁.setTop (mkF m 0 #[.val (.ref va)] [])) t → Steps p.tables e below (s₁.setTop (entryFrame m #[(.ref va)] 1)) t := fun t k => castTop (ef_rm_li m va) k
  obtain ⟨_, _, ⟨T1, L1, k1, n1⟩, -, X1, ⟨Lc1, hQ1, l1, y1, z1⟩, st1⟩ := X0.specialBack hx (y := (⟨"java/util/AbstractCollection", "<init>", "()V"⟩ : MethodName)) rfl hown (mvT hZ (hw _ (List.mem_of_getElem? (i := 12) rfl))) (mvT hZ (hw _ (List.mem_of_getElem? (i := 13) rfl))) (mvT hZ (hw _ (List.mem_of_getElem? (i := 17) rfl))) (by decide) (backOf (W := 0) (rm_ci l Z a0 hw [] va h0 n0 Z0 ) hZ (hw _ (List.mem_of_getElem? (i := 17) rfl)) (hw _ (List.mem_of_getElem? (i := 16) rfl)) (by decide) (by decide)) (g := (mkF m 1 #[.val (.ref va)] [(.ref va)])) rfl (by rw [hml]; rfl) (Steps.refl _) (a := va) (argsL := []) (rest := []) (lenOf own_pd3 rfl) rfl (by show 2 * 0 + _ ≤ _; exact Nat.le_of_eq rfl) (hb hby d2_1) (fun _ _ => ⟨rfl, e0, (by decide : 0 + 0 ≤ _), (by decide : 0 + 0 ≤ _)⟩)
  dsimp only [Pt.U, Pt.locs, Pt.cells, Pt.slots] at X1 l1 y1 z1 st1 hQ1
  subst l1 y1 z1
  obtain ⟨rfl, Nq1, hh1⟩ := hQ1
  have Nf1 := Fr.app N0 Nq1
  obtain ⟨T2, h2, X2, e2, W2, st2⟩ := putF X1 hx hZ hown (host := "") (Or.inl (hw _ (List.mem_of_getElem? (i := 21) rfl))) Via.refl hh1 F_m E_a (Or.inl (hw _ (List.mem_of_getElem? (i := 22) rfl))) (hw _ (List.mem_of_getElem? (i := 1) rfl)) (ty := .int) (by decide) rfl rfl (g := (mkF m 6 #[.val (.ref va)] [(.int (0 : Int32)), (.ref va)])) rfl rfl (hb hby d2_6)
  have N2 := Fr.snoc X2 Nf1 g_va
  have Fw2 := Fld.same W2 F_m
  have Zp3 : n0 ≤ h2.size := Nat.le_trans Z0 (Nat.le_of_eq (Wr.size W2).symm)
  obtain ⟨fs, hr, hrun, hended, hW, hsame⟩ := X2.leave (v := none) (fun _ => rfl)
  refine ⟨_, _, pre0 _ ?_, hrun, hended, _, _, rfl, ?_, ⟨_, rfl⟩, hW, hsame.mono (by decide) (by decide)⟩
  · show Steps p.tables e below (s₁.setTop (mkF m 0 #[.val (.ref va)] [])) _
    refine XS.aloadN X0.here hx rfl (hb hby d2_0) rfl rfl ?_
    show Steps p.tables e below (s₁.setTop (mkF m 1 #[.val (.ref va)] [(.ref va)])) _
    refine st1.trans ?_
    show Steps p.tables e below (T1.setTop (mkF m 4 #[.val (.ref va)] [])) _
    refine XS.aloadN X1.here hx rfl (hb hby d2_4) rfl rfl ?_
    show Steps p.tables e below (T1.setTop (mkF m 5 #[.val (.ref va)] [(.ref va)])) _
    refine XS.iconst X1.here hx rfl (hb hby d2_5) ?_
    show Steps p.tables e below (T1.setTop (mkF m 6 #[.val (.ref va)] [(.int (0 : Int32)), (.ref va)])) _
    refine st2 _ ?_
    show Steps p.tables e below (T2.setTop (mkF m 9 #[.val (.ref va)] [])) _
    exact X2.returnOut hx Bd.returns (hb hby d2_9) hr
  · show Q_li Z va h0 n0 _ T2.heap _
    rw [e2]
    have Kc4 := (Keep.refl h0 [va]).wr W2 (Or.inl (List.mem_of_getElem? (i := 0) rfl))
    have Fc5 := (Exa.wr W2 E_a)
    have Fc6 := (Fld.other W2 F_e (Or.inr (slot_ne (Or.inl (hw _ (List.mem_of_getElem? (i := 25) rfl))) (Or.inl (hw _ (List.mem_of_getElem? (i := 22) rfl))) (by decide) (t := (.array (.object "java/lang/Object"))) (t' := .int) (by decide) (by decide))))
    have Fc7 := (Fld.other W2 F_s (Or.inr (slot_ne (Or.inl (hw _ (List.mem_of_getElem? (i := 62) rfl))) (Or.inl (hw _ (List.mem_of_getElem? (i := 22) rfl))) (by decide) (t := .int) (t' := .int) (by decide) (by decide))))
    exact ⟨rfl, N2, Kc4, Fc5, Fw2, Fc6, Fc7⟩
theorem d1_0 : decode jdk_38_method_2_code 0 = .ok (.aload_n 0, 1) := by decide +kernel
theorem d1_1 : decode jdk_38_method_2_code 1 = .ok (.invokespecial 1, 3) := by decide +kernel
theorem d1_4 : decode jdk_38_method_2_code 4 = .ok (.aload_n 0, 1) := by decide +kernel
theorem d1_5 : decode jdk_38_method_2_code 5 = .ok (.getstatic 39, 3) := by decide +kernel
theorem d1_8 : decode jdk_38_method_2_code 8 = .ok (.putfield 9, 3) := by decide +kernel
theorem d1_11 : decode jdk_38_method_2_code 11 = .ok (.return_, 1) := by decide +kernel
theorem pn_rm_ai : plainName "java/util/ArrayList" = true := by first | (simp [plainName, overriddenIn]; done) | decide +kernel
theorem ef_rm_ai (m : MethodId) (va : Addr) : entryFrame m #[(.ref va)] 1 = mkF m 0 #[.val (.ref va)] [] := by first | (simp [entryFrame, mkF, argsToLocals, Value.category]; done) | rfl
def Q_ai (Z : State) (va : Addr) (ade : Addr) (h0 : Heap) (n0 : Nat) (v : Option Value) (h : Heap) (L : List Loc) : Prop := v = none ∧ Fr n0 L ∧ Keep h0 h [va] ∧ Exa Z h va "java/util/ArrayList" ∧ Fld Z h va "java/util/AbstractList" "modCount" "I" (.int (0 : Int32)) ∧ Fld Z h va "java/util/ArrayList" "elementData" "[Ljava/lang/Object;" (.ref ade) ∧ Fld Z h va "java/util/ArrayList" "size" "I" (.int (0 : Int32))
set_option maxRecDepth 65536 in
set_option maxHeartbeats 40000000 in
theorem rm_ai (l : Launch) (Z : State) (a0 : Array Value) (hw : ∀ d ∈ tables_1, d.before a0 Z = true) (ws : List Jvm.Cond) (va : Addr) (ade : Addr) (h0 : Heap) (n0 : Nat) (Z0 : n0 ≤ h0.size) (E_a : Exa Z h0 va "java/util/ArrayList") (g_va : n0 ≤ va) (F_m : Fld Z h0 va "java/util/AbstractList" "modCount" "I" (.int (0 : Int32))) (F_e : Fld Z h0 va "java/util/ArrayList" "elementData" "[Ljava/lang/Object;" .null) (F_s : Fld Z h0 va "java/util/ArrayList" "size" "I" (.int (0 : Int32))) (S_de : Sta Z h0 "java/util/ArrayList" "DEFAULTCAPACITY_EMPTY_ELEMENTDATA" "[Ljava/lang/Object;" (.ref ade)) :
    MetFree l (⟨"java/util/ArrayList", "<init>", "()V"⟩ : MethodName) (head1 (Jvm.Cond.code (⟨"java/util/ArrayList", "<init>", "()V"⟩ : MethodName) jdk_38_method_2_code 1 none :: ws) ({ frames := 3, cells := 0, slots := 0, locals := 36 } : Room)) (fun a U => a = #[(.ref va)] ∧ Z.Warmed39 U.vm ∧ U.heap = h0) (fun _ _ _ _ _ => True) (fun _ U o U' => ∃ v L, o = .returned v ∧ Q_ai Z va ade h0 n0 v U'.heap L ∧ FrameEnd U o U' L ({ frames := 3, cells := 0, slots := 0, locals := 36 } : Room).cells ({ frames := 3, cells := 0, slots := 0, locals := 36 } : Room).slots) := by
  refine MetFree.of_bodySF (plainFor_of_name pn_rm_ai) hisR ?_
  intro p e s m args below meth c s₁ Bd hml0 hP hK
  obtain ⟨rfl, hZ, hh⟩ := hP
  have hx := Bd.exec
  have hby := Bd.bytes
  have hml : c.maxLocals = 1 := hml0
  have hown : s.vm.findClass "java/util/ArrayList" = some m.cls := findClass_of_methodNamed Bd.named
  have hnm := (name_of_methodNamed Bd.named Bd.method).1
  have X0 : Stand p l e ({ frames := 3, cells := 0, slots := 0, locals := 36 } : Room) s m #[(.ref va)] below meth c s₁ [] 0 0 := Stand.of_body Bd
  have e0 : s₁.heap = h0 := by rw [← hh, Bd.state]; rfl
  have N0 := Fr.nil n0
  have pre0 : ∀ t, Steps p.tables e below (s₁.setTop (mkF m 0 #[.val (.ref va)] [])) t → Steps p.tables e below (s₁.setTop (entryFrame m #[(.ref va)] 1)) t := fun t k => castTop (ef_rm_ai m va) k
  obtain ⟨_, _, ⟨T1, L1, k1, n1⟩, -, X1, ⟨Lc1, hQ1, l1, y1, z1⟩, st1⟩ := X0.specialBack hx (y := (⟨"java/util/AbstractList", "<init>", "()V"⟩ : MethodName)) rfl hown (mvT hZ (hw _ (List.mem_of_getElem? (i := 6) rfl))) (mvT hZ (hw _ (List.mem_of_getElem? (i := 7) rfl))) (mvT hZ (hw _ (List.mem_of_getElem? (i := 11) rfl))) (by decide) (backOf (W := 0) (rm_li l Z a0 hw [] va h0 n0 Z0 E_a g_va F_m F_e F_s) hZ (hw _ (List.mem_of_getElem? (i := 11) rfl)) (hw _ (List.mem_of_getElem? (i := 10) rfl)) (by decide) (by decide)) (g := (mkF m 1 #[.val (.ref va)] [(.ref va)])) rfl (by rw [hml]; rfl) (Steps.refl _) (a := va) (argsL := []) (rest := []) (lenOf own_pd3 rfl) rfl (by show 2 * 0 + _ ≤ _; exact Nat.le_of_eq rfl) (hb hby d1_1) (fun _ _ => ⟨rfl, e0, (by decide : 0 + 0 ≤ _), (by decide : 0 + 0 ≤ _)⟩)
  dsimp only [Pt.U, Pt.locs, Pt.cells, Pt.slots] at X1 l1 y1 z1 st1 hQ1
  subst l1 y1 z1
  obtain ⟨rfl, Nq1, K1, Ex1, Fm1, Fe1, Fs1⟩ := hQ1
  have Nf1 := Fr.app N0 Nq1
  have Zp2 : n0 ≤ T1.heap.size := Nat.le_trans Z0 K1.1
  have Fc3 := (own_sta_keep K1 (allS (own_plE E_a) all0) S_de)
  obtain ⟨T4, X4, e4, st4⟩ := getS2 X1 hx hZ hown (host := "") (Or.inl (hw _ (List.mem_of_getElem? (i := 23) rfl))) Via.refl rfl Fc3 (g := (mkF m 5 #[.val (.ref va)] [(.ref va)])) rfl (hb hby d1_5)
  obtain ⟨T5, h5, X5, e5, W5, st5⟩ := putF X4 hx hZ hown (host := "") (Or.inl (hw _ (List.mem_of_getElem? (i := 24) rfl))) Via.refl e4 Fe1 Ex1 (Or.inl (hw _ (List.mem_of_getElem? (i := 25) rfl))) (hw _ (List.mem_of_getElem? (i := 1) rfl)) (ty := (.array (.object "java/lang/Object"))) (by decide) rfl rfl (g := (mkF m 8 #[.val (.ref va)] [(.ref ade), (.ref va)])) rfl rfl (hb hby d1_8)
  have N5 := Fr.snoc X5 Nf1 g_va
  have Fw5 := Fld.same W5 Fe1
  have Zp6 : n0 ≤ h5.size := Nat.le_trans Zp2 (Nat.le_of_eq (Wr.size W5).symm)
  obtain ⟨fs, hr, hrun, hended, hW, hsame⟩ := X5.leave (v := none) (fun _ => rfl)
  refine ⟨_, _, pre0 _ ?_, hrun, hended, _, _, rfl, ?_, ⟨_, rfl⟩, hW, hsame.mono (by decide) (by decide)⟩
  · show Steps p.tables e below (s₁.setTop (mkF m 0 #[.val (.ref va)] [])) _
    refine XS.aloadN X0.here hx rfl (hb hby d1_0) rfl rfl ?_
    show Steps p.tables e below (s₁.setTop (mkF m 1 #[.val (.ref va)] [(.ref va)])) _
    refine st1.trans ?_
    show Steps p.tables e below (T1.setTop (mkF m 4 #[.val (.ref va)] [])) _
    refine XS.aloadN X1.here hx rfl (hb hby d1_4) rfl rfl ?_
    show Steps p.tables e below (T1.setTop (mkF m 5 #[.val (.ref va)] [(.ref va)])) _
    refine st4 _ ?_
    show Steps p.tables e below (T4.setTop (mkF m 8 #[.val (.ref va)] [(.ref ade), (.ref va)])) _
    refine st5 _ ?_
    show Steps p.tables e below (T5.setTop (mkF m 11 #[.val (.ref va)] [])) _
    exact X5.returnOut hx Bd.returns (hb hby d1_11) hr
  · show Q_ai Z va ade h0 n0 _ T5.heap _
    rw [e5]
    have Kc7 := (Keep.refl h0 [va]).trans K1 (allS (Or.inl (List.mem_of_getElem? (i := 0) rfl)) all0)
    have Kc8 := Kc7.wr W5 (Or.inl (List.mem_of_getElem? (i := 0) rfl))
    have Fc9 := (Exa.wr W5 Ex1)
    have Fc10 := (Fld.other W5 Fm1 (Or.inr (slot_ne (Or.inl (hw _ (List.mem_of_getElem? (i := 22) rfl))) (Or.inl (hw _ (List.mem_of_getElem? (i := 25) rfl))) (by decide) (t := .int) (t' := (.array (.object "java/lang/Object"))) (by decide) (by decide))))
    have Fc11 := (Fld.other W5 Fs1 (Or.inr (slot_ne (Or.inl (hw _ (List.mem_of_getElem? (i := 62) rfl))) (Or.inl (hw _ (List.mem_of_getElem? (i := 25) rfl))) (by decide) (t := .int) (t' := (.array (.object "java/lang/Object"))) (by decide) (by decide))))
    exact ⟨rfl, N5, Kc8, Fc9, Fc10, Fw5, Fc11⟩
theorem d13_0 : decode jdk_29_method_65_code 0 = .ok (.iload_n 0, 1) := by decide +kernel
theorem d13_1 : decode jdk_29_method_65_code 1 = .ok (.iload_n 1, 1) := by decide +kernel
theorem d13_2 : decode jdk_29_method_65_code 2 = .ok (.if_icmp .lt 7, 3) := by decide +kernel
theorem d13_5 : decode jdk_29_method_65_code 5 = .ok (.iload_n 0, 1) := by decide +kernel
theorem d13_6 : decode jdk_29_method_65_code 6 = .ok (.goto 4, 3) := by decide +kernel
theorem d13_9 : decode jdk_29_method_65_code 9 = .ok (.iload_n 1, 1) := by decide +kernel
theorem d13_10 : decode jdk_29_method_65_code 10 = .ok (.ireturn, 1) := by decide +kernel
theorem ef_rm_mx (m : MethodId) (vp : Int32) (vq : Int32) : entryFrame m #[(.int vp), (.int vq)] 2 = mkF m 0 #[.val (.int vp), .val (.int vq)] [] := by first | (simp [entryFrame, mkF, argsToLocals, Value.category]; done) | rfl
def Q_mx (Z : State) (vp : Int32) (vq : Int32) (h0 : Heap) (n0 : Nat) (v : Option Value) (h : Heap) (L : List Loc) : Prop := v = some (.int vp) ∧ Fr n0 L ∧ h = h0
set_option maxRecDepth 65536 in
set_option maxHeartbeats 40000000 in
theorem rm_mx (l : Launch) (Z : State) (a0 : Array Value) (hw : ∀ d ∈ tables_1, d.before a0 Z = true) (ws : List Jvm.Cond) (vp : Int32) (vq : Int32) (h0 : Heap) (n0 : Nat) (Z0 : n0 ≤ h0.size) (hm : ¬ vp < vq) :
    MetFree l (⟨"java/lang/Math", "max", "(II)I"⟩ : MethodName) (head1 (Jvm.Cond.code (⟨"java/lang/Math", "max", "(II)I"⟩ : MethodName) jdk_29_method_65_code 2 (some .int) :: ws) ({ frames := 0, cells := 0, slots := 0, locals := 0 } : Room)) (fun a U => a = #[(.int vp), (.int vq)] ∧ Z.Warmed39 U.vm ∧ U.heap = h0) (fun _ _ _ _ _ => True) (fun _ U o U' => ∃ v L, o = .returned v ∧ Q_mx Z vp vq h0 n0 v U'.heap L ∧ FrameEnd U o U' L ({ frames := 0, cells := 0, slots := 0, locals := 0 } : Room).cells ({ frames := 0, cells := 0, slots := 0, locals := 0 } : Room).slots) := by
  refine MetFree.of_bodySF (Jvm.Free.JP.mathPlain rfl (by decide +kernel)) hisR ?_
  intro p e s m args below meth c s₁ Bd hml0 hP hK
  obtain ⟨rfl, hZ, hh⟩ := hP
  have hx := Bd.exec
  have hby := Bd.bytes
  have hml : c.maxLocals = 2 := hml0
  have hown : s.vm.findClass "java/lang/Math" = some m.cls := findClass_of_methodNamed Bd.named
  have hnm := (name_of_methodNamed Bd.named Bd.method).1
  have X0 : Stand p l e ({ frames := 0, cells := 0, slots := 0, locals := 0 } : Room) s m #[(.int vp), (.int vq)] below meth c s₁ [] 0 0 := Stand.of_body Bd
  have e0 : s₁.heap = h0 := by rw [← hh, Bd.state]; rfl
  have N0 := Fr.nil n0
  have pre0 : ∀ t, Steps p.tables e below (s₁.setTop (mkF m 0 #[.val (.int vp), .val (.int vq)] [])) t → Steps p.tables e below (s₁.setTop (entryFrame m #[(.int vp), (.int vq)] 2)) t := fun t k => castTop (ef_rm_mx m vp vq) k
  have pre1 : ∀ t, Steps p.tables e below (s₁.setTop (mkF m 2 #[.val (.int vp), .val (.int vq)] [(.int vq), (.int vp)])) t → Steps p.tables e below (s₁.setTop (entryFrame m #[(.int vp), (.int vq)] 2)) t := by
    intro t k
    refine pre0 t ?_
    show Steps p.tables e below (s₁.setTop (mkF m 0 #[.val (.int vp), .val (.int vq)] [])) _
    refine XS.iloadN X0.here hx rfl (hb hby d13_0) rfl ?_
    show Steps p.tables e below (s₁.setTop (mkF m 1 #[.val (.int vp), .val (.int vq)] [(.int vp)])) _
    refine XS.iloadN X0.here hx rfl (hb hby d13_1) rfl ?_
    show Steps p.tables e below (s₁.setTop (mkF m 2 #[.val (.int vp), .val (.int vq)] [(.int vq), (.int vp)])) _
    exact k
  have hd2 : ¬ (vp < vq) := hm
  obtain ⟨fs, hr, hrun, hended, hW, hsame⟩ := X0.leave (v := some (.int vp)) (fun h => by rw [Bd.returns] at h; cases h)
  refine ⟨_, _, pre1 _ ?_, hrun, hended, _, _, rfl, ?_, ⟨_, rfl⟩, hW, hsame.mono (by decide) (by decide)⟩
  · show Steps p.tables e below (s₁.setTop (mkF m 2 #[.val (.int vp), .val (.int vq)] [(.int vq), (.int vp)])) _
    refine XS.icmpNo X0.here hx rfl (hb hby d13_2) rfl (flt hd2).1 ?_
    show Steps p.tables e below (s₁.setTop (mkF m 5 #[.val (.int vp), .val (.int vq)] [])) _
    refine XS.iloadN X0.here hx rfl (hb hby d13_5) rfl ?_
    show Steps p.tables e below (s₁.setTop (mkF m 6 #[.val (.int vp), .val (.int vq)] [(.int vp)])) _
    refine XS.goto X0.here hx rfl (pc0 := 6) (pc' := 10) rfl (hb hby d13_6) (by decide) (by decide) ?_
    show Steps p.tables e below (s₁.setTop (mkF m 10 #[.val (.int vp), .val (.int vq)] [(.int vp)])) _
    exact retI X0 hx Bd.returns (hb hby d13_10) hr
  · show Q_mx Z vp vq h0 n0 _ s₁.heap _
    rw [e0]
    exact ⟨rfl, N0, rfl⟩
theorem d12_0 : decode jdk_38_method_6_code 0 = .ok (.aload_n 0, 1) := by decide +kernel
theorem d12_1 : decode jdk_38_method_6_code 1 = .ok (.getfield 9, 3) := by decide +kernel
theorem d12_4 : decode jdk_38_method_6_code 4 = .ok (.arraylength, 1) := by decide +kernel
theorem d12_5 : decode jdk_38_method_6_code 5 = .ok (.istore_n 2, 1) := by decide +kernel
theorem d12_6 : decode jdk_38_method_6_code 6 = .ok (.iload_n 2, 1) := by decide +kernel
theorem d12_7 : decode jdk_38_method_6_code 7 = .ok (.ifCond .gt 13, 3) := by decide +kernel
theorem d12_10 : decode jdk_38_method_6_code 10 = .ok (.aload_n 0, 1) := by decide +kernel
theorem d12_11 : decode jdk_38_method_6_code 11 = .ok (.getfield 9, 3) := by decide +kernel
theorem d12_14 : decode jdk_38_method_6_code 14 = .ok (.getstatic 39, 3) := by decide +kernel
theorem d12_17 : decode jdk_38_method_6_code 17 = .ok (.if_acmp .eq 28, 3) := by decide +kernel
theorem d12_20 : decode jdk_38_method_6_code 20 = .ok (.iload_n 2, 1) := by decide +kernel
theorem d12_21 : decode jdk_38_method_6_code 21 = .ok (.iload_n 1, 1) := by decide +kernel
theorem d12_22 : decode jdk_38_method_6_code 22 = .ok (.iload_n 2, 1) := by decide +kernel
theorem d12_23 : decode jdk_38_method_6_code 23 = .ok (.isub, 1) := by decide +kernel
theorem d12_24 : decode jdk_38_method_6_code 24 = .ok (.iload_n 2, 1) := by decide +kernel
theorem d12_25 : decode jdk_38_method_6_code 25 = .ok (.iconst 1, 1) := by decide +kernel
theorem d12_26 : decode jdk_38_method_6_code 26 = .ok (.ishr, 1) := by decide +kernel
theorem d12_27 : decode jdk_38_method_6_code 27 = .ok (.invokestatic 73, 3) := by decide +kernel
theorem d12_30 : decode jdk_38_method_6_code 30 = .ok (.istore_n 3, 1) := by decide +kernel
theorem d12_31 : decode jdk_38_method_6_code 31 = .ok (.aload_n 0, 1) := by decide +kernel
theorem d12_32 : decode jdk_38_method_6_code 32 = .ok (.aload_n 0, 1) := by decide +kernel
theorem d12_33 : decode jdk_38_method_6_code 33 = .ok (.getfield 9, 3) := by decide +kernel
theorem d12_36 : decode jdk_38_method_6_code 36 = .ok (.iload_n 3, 1) := by decide +kernel
theorem d12_37 : decode jdk_38_method_6_code 37 = .ok (.invokestatic 66, 3) := by decide +kernel
theorem d12_40 : decode jdk_38_method_6_code 40 = .ok (.dup_x1, 1) := by decide +kernel
theorem d12_41 : decode jdk_38_method_6_code 41 = .ok (.putfield 9, 3) := by decide +kernel
theorem d12_44 : decode jdk_38_method_6_code 44 = .ok (.areturn, 1) := by decide +kernel
theorem d12_45 : decode jdk_38_method_6_code 45 = .ok (.aload_n 0, 1) := by decide +kernel
theorem d12_46 : decode jdk_38_method_6_code 46 = .ok (.bipush 10, 2) := by decide +kernel
theorem d12_48 : decode jdk_38_method_6_code 48 = .ok (.iload_n 1, 1) := by decide +kernel
theorem d12_49 : decode jdk_38_method_6_code 49 = .ok (.invokestatic 79, 3) := by decide +kernel
theorem d12_52 : decode jdk_38_method_6_code 52 = .ok (.anewarray 7, 3) := by decide +kernel
theorem d12_55 : decode jdk_38_method_6_code 55 = .ok (.dup_x1, 1) := by decide +kernel
theorem d12_56 : decode jdk_38_method_6_code 56 = .ok (.putfield 9, 3) := by decide +kernel
theorem d12_59 : decode jdk_38_method_6_code 59 = .ok (.areturn, 1) := by decide +kernel
theorem pn_rm_g1 : plainName "java/util/ArrayList" = true := by first | (simp [plainName, overriddenIn]; done) | decide +kernel
theorem ef_rm_g1 (m : MethodId) (va : Addr) (vq : Int32) : entryFrame m #[(.ref va), (.int vq)] 4 = mkF m 0 #[.val (.ref va), .val (.int vq), .unset, .unset] [] := by first | (simp [entryFrame, mkF, argsToLocals, Value.category]; done) | rfl
def Q_g1 (Z : State) (va : Addr) (vq : Int32) (vm : Int32) (ade : Addr) (kde : ClassId) (h0 : Heap) (n0 : Nat) (v : Option Value) (h : Heap) (L : List Loc) : Prop := ∃ (b : Addr) (kb : ClassId), v = some (.ref b) ∧ Fr n0 L ∧ Keep h0 h [va] ∧ n0 ≤ b ∧ h0.size ≤ b ∧ Exa Z h va "java/util/ArrayList" ∧ Fld Z h va "java/util/AbstractList" "modCount" "I" (.int vm) ∧ Fld Z h va "java/util/ArrayList" "elementData" "[Ljava/lang/Object;" (.ref b) ∧ Fld Z h va "java/util/ArrayList" "size" "I" (.int (0 : Int32)) ∧ Arv Z h b kb (.object "java/lang/Object") (10 : Int32) [.null, .null, .null, .null, .null, .null, .null, .null, .null, .null] .null ∧ Ovr Z kb "java/lang/Object"
set_option maxRecDepth 65536 in
set_option maxHeartbeats 40000000 in
theorem rm_g1 (l : Launch) (Z : State) (a0 : Array Value) (hw : ∀ d ∈ tables_1, d.before a0 Z = true) (ws : List Jvm.Cond) (va : Addr) (vq : Int32) (vm : Int32) (ade : Addr) (kde : ClassId) (h0 : Heap) (n0 : Nat) (Z0 : n0 ≤ h0.size) (E_a : Exa Z h0 va "java/util/ArrayList") (g_va : n0 ≤ va) (F_m : Fld Z h0 va "java/util/AbstractList" "modCount" "I" (.int vm)) (F_e : Fld Z h0 va "java/util/ArrayList" "elementData" "[Ljava/lang/Object;" (.ref ade)) (F_s : Fld Z h0 va "java/util/ArrayList" "size" "I" (.int (0 : Int32))) (S_de : Sta Z h0 "java/util/ArrayList" "DEFAULTCAPACITY_EMPTY_ELEMENTDATA" "[Ljava/lang/Object;" (.ref ade)) (V_de : Arv Z h0 ade kde (.object "java/lang/Object") (0 : Int32) [] .null) (hm : ¬ (10 : Int32) < vq) :
    MetFree l (⟨"java/util/ArrayList", "grow", "(I)[Ljava/lang/Object;"⟩ : MethodName) (head1 (Jvm.Cond.code (⟨"java/util/ArrayList", "grow", "(I)[Ljava/lang/Object;"⟩ : MethodName) jdk_38_method_6_code 4 (some (.array (.object "java/lang/Object"))) :: ws) ({ frames := 1, cells := 1, slots := 10, locals := 14 } : Room)) (fun a U => a = #[(.ref va), (.int vq)] ∧ Z.Warmed39 U.vm ∧ U.heap = h0) (fun _ _ _ _ _ => True) (fun _ U o U' => ∃ v L, o = .returned v ∧ Q_g1 Z va vq vm ade kde h0 n0 v U'.heap L ∧ FrameEnd U o U' L ({ frames := 1, cells := 1, slots := 10, locals := 14 } : Room).cells ({ frames := 1, cells := 1, slots := 10, locals := 14 } : Room).slots) := by
  refine MetFree.of_bodySF (plainFor_of_name pn_rm_g1) hisR ?_
  intro p e s m args below meth c s₁ Bd hml0 hP hK
  obtain ⟨rfl, hZ, hh⟩ := hP
  have hx := Bd.exec
  have hby := Bd.bytes
  have hml : c.maxLocals = 4 := hml0
  have hown : s.vm.findClass "java/util/ArrayList" = some m.cls := findClass_of_methodNamed Bd.named
  have hnm := (name_of_methodNamed Bd.named Bd.method).1
  have X0 : Stand p l e ({ frames := 1, cells := 1, slots := 10, locals := 14 } : Room) s m #[(.ref va), (.int vq)] below meth c s₁ [] 0 0 := Stand.of_body Bd
  have e0 : s₁.heap = h0 := by rw [← hh, Bd.state]; rfl
  have N0 := Fr.nil n0
  have pre0 : ∀ t, Steps p.tables e below (s₁.setTop (mkF m 0 #[.val (.ref va), .val (.int vq), .unset, .unset] [])) t → Steps p.tables e below (s₁.setTop (entryFrame m #[(.ref va), (.int vq)] 4)) t := fun t k => castTop (ef_rm_g1 m va vq) k
  obtain ⟨T1, X1, e1, st1⟩ := getF X0 hx hZ hown (host := "") (Or.inl (hw _ (List.mem_of_getElem? (i := 24) rfl))) Via.refl e0 F_e (g := (mkF m 1 #[.val (.ref va), .val (.int vq), .unset, .unset] [(.ref va)])) rfl rfl (hb hby d12_1)
  obtain ⟨cl2, Ar2, -, S2, M2, -, -⟩ := id V_de
  obtain ⟨T3, X3, e3, st3⟩ := getF X1 hx hZ hown (host := "") (Or.inl (hw _ (List.mem_of_getElem? (i := 24) rfl))) Via.refl e1 F_e (g := (mkF m 11 #[.val (.ref va), .val (.int vq), .val (.int (0 : Int32)), .unset] [(.ref va)])) rfl rfl (hb hby d12_11)
  obtain ⟨T4, X4, e4, st4⟩ := getS2 X3 hx hZ hown (host := "") (Or.inl (hw _ (List.mem_of_getElem? (i := 23) rfl))) Via.refl e3 S_de (g := (mkF m 14 #[.val (.ref va), .val (.int vq), .val (.int (0 : Int32)), .unset] [(.ref ade)])) rfl (hb hby d12_14)
  obtain ⟨_, _, ⟨T5, L5, k5, n5⟩, -, X5, ⟨Lc5, hQ5, l5, y5, z5⟩, st5⟩ := Jvm.LawKit.callS X4 hx (y := (⟨"java/lang/Math", "max", "(II)I"⟩ : MethodName)) hown (mvT hZ (hw _ (List.mem_of_getElem? (i := 78) rfl))) (mvT hZ (hw _ (List.mem_of_getElem? (i := 79) rfl))) (mvT hZ (hw _ (List.mem_of_getElem? (i := 80) rfl))) (mvT hZ (hw _ (List.mem_of_getElem? (i := 81) rfl))) (by decide) (backOf (W := 1) (rm_mx l Z a0 hw [] (10 : Int32) vq h0 n0 Z0 hm) hZ (hw _ (List.mem_of_getElem? (i := 81) rfl)) (hw _ (List.mem_of_getElem? (i := 80) rfl)) (by decide) (by decide)) (g := (mkF m 49 #[.val (.ref va), .val (.int vq), .val (.int (0 : Int32)), .unset] [(.int vq), (.int (10 : Int32)), (.ref va)])) rfl (by rw [hml]; rfl) (argsL := [(.int (10 : Int32)), (.int vq)]) (rest := [(.ref va)]) (lenOf own_pd4 rfl) rfl (by show 2 * 0 + _ ≤ _; exact Nat.le_of_eq rfl) (hb hby d12_49) (fun _ _ => ⟨rfl, e4, (by decide : 0 + 0 ≤ _), (by decide : 0 + 0 ≤ _)⟩)
  dsimp only [Pt.U, Pt.locs, Pt.cells, Pt.slots] at X5 l5 y5 z5 st5 hQ5
  subst l5 y5 z5
  obtain ⟨rfl, Nq5, hh5⟩ := hQ5
  have Nf5 := Fr.app N0 Nq5
  obtain ⟨T6, h6, k6, X6, e6, E6, A6, O6, st6⟩ := newR X5 hx hZ hown (hw _ (List.mem_of_getElem? (i := 82) rfl)) (hw _ (List.mem_of_getElem? (i := 83) rfl)) hh5 (g := (mkF m 52 #[.val (.ref va), .val (.int vq), .val (.int (0 : Int32)), .unset] [(.int (10 : Int32)), (.ref va)])) rfl (hb hby d12_52) rfl (by decide) (cap := 10) (by decide) (by decide) (by decide) (by decide)
  obtain ⟨b6, g6⟩ : ∃ z, z = h0.size := ⟨_, rfl⟩
  rw [← g6] at A6 st6
  have g_b6 : n0 ≤ b6 := Nat.le_trans Z0 (Nat.le_of_eq g6.symm)
  have Zp7 : n0 ≤ h6.size := Nat.le_trans Z0 E6.1
  have V6 : Arv Z h6 b6 k6 (.object "java/lang/Object") (10 : Int32) [.null, .null, .null, .null, .null, .null, .null, .null, .null, .null] .null := (Arv.new A6 (by decide)).pad (pad_rep [] .null 10)
  have Fc8 := (Fld.ext E6 F_e)
  have Fc9 := (Exa.ext E6 E_a)
  obtain ⟨T10, h10, X10, e10, W10, st10⟩ := putF X6 hx hZ hown (host := "") (Or.inl (hw _ (List.mem_of_getElem? (i := 24) rfl))) Via.refl e6 Fc8 Fc9 (Or.inl (hw _ (List.mem_of_getElem? (i := 25) rfl))) (hw _ (List.mem_of_getElem? (i := 1) rfl)) (ty := (.array (.object "java/lang/Object"))) (by decide) rfl rfl (g := (mkF m 56 #[.val (.ref va), .val (.int vq), .val (.int (0 : Int32)), .unset] [(.ref b6), (.ref va), (.ref b6)])) rfl rfl (hb hby d12_56)
  have N10 := Fr.snoc X10 Nf5 g_va
  have Fw10 := Fld.same W10 Fc8
  have Zp11 : n0 ≤ h10.size := Nat.le_trans Zp7 (Nat.le_of_eq (Wr.size W10).symm)
  obtain ⟨fs, hr, hrun, hended, hW, hsame⟩ := X10.leave (v := some (.ref b6)) (fun h => by rw [Bd.returns] at h; cases h)
  refine ⟨_, _, pre0 _ ?_, hrun, hended, _, _, rfl, ?_, ⟨_, rfl⟩, hW, hsame.mono (by decide) (by decide)⟩
  · show Steps p.tables e below (s₁.setTop (mkF m 0 #[.val (.ref va), .val (.int vq), .unset, .unset] [])) _
    refine XS.aloadN X0.here hx rfl (hb hby d12_0) rfl rfl ?_
    show Steps p.tables e below (s₁.setTop (mkF m 1 #[.val (.ref va), .val (.int vq), .unset, .unset] [(.ref va)])) _
    refine st1 _ ?_
    show Steps p.tables e below (T1.setTop (mkF m 4 #[.val (.ref va), .val (.int vq), .unset, .unset] [(.ref ade)])) _
    refine X1.arraylength hx (by rw [e1]; exact Ar2.1) (State.isArrayOf_alike hZ.alike Ar2.2.1) (g := (mkF m 4 #[.val (.ref va), .val (.int vq), .unset, .unset] [(.ref ade)])) rfl rfl (hb hby d12_4) _ ?_
    rw [len_of S2 M2]
    show Steps p.tables e below (T1.setTop (mkF m 5 #[.val (.ref va), .val (.int vq), .unset, .unset] [(.int (0 : Int32))])) _
    refine XS.istoreN X1.here hx rfl (hb hby d12_5) rfl (l' := #[.val (.ref va), .val (.int vq), .val (.int (0 : Int32)), .unset]) rfl ?_
    show Steps p.tables e below (T1.setTop (mkF m 6 #[.val (.ref va), .val (.int vq), .val (.int (0 : Int32)), .unset] [])) _
    refine XS.iloadN X1.here hx rfl (hb hby d12_6) rfl ?_
    show Steps p.tables e below (T1.setTop (mkF m 7 #[.val (.ref va), .val (.int vq), .val (.int (0 : Int32)), .unset] [(.int (0 : Int32))])) _
    refine XS.ifNo X1.here hx rfl (hb hby d12_7) rfl (by decide) ?_
    show Steps p.tables e below (T1.setTop (mkF m 10 #[.val (.ref va), .val (.int vq), .val (.int (0 : Int32)), .unset] [])) _
    refine XS.aloadN X1.here hx rfl (hb hby d12_10) rfl rfl ?_
    show Steps p.tables e below (T1.setTop (mkF m 11 #[.val (.ref va), .val (.int vq), .val (.int (0 : Int32)), .unset] [(.ref va)])) _
    refine st3 _ ?_
    show Steps p.tables e below (T3.setTop (mkF m 14 #[.val (.ref va), .val (.int vq), .val (.int (0 : Int32)), .unset] [(.ref ade)])) _
    refine st4 _ ?_
    show Steps p.tables e below (T4.setTop (mkF m 17 #[.val (.ref va), .val (.int vq), .val (.int (0 : Int32)), .unset] [(.ref ade), (.ref ade)])) _
    refine Jvm.RoadKit.acmp (g := (mkF m 17 #[.val (.ref va), .val (.int vq), .val (.int (0 : Int32)), .unset] [(.ref ade), (.ref ade)])) X4 hx rfl rfl rfl (pc0 := 17) (pc' := 45) (same := true) rfl (hb hby d12_17) rfl (decide_eq_true rfl) (by decide) (by decide) ?_
    show Steps p.tables e below (T4.setTop (mkF m 45 #[.val (.ref va), .val (.int vq), .val (.int (0 : Int32)), .unset] [])) _
    refine XS.aloadN X4.here hx rfl (hb hby d12_45) rfl rfl ?_
    show Steps p.tables e below (T4.setTop (mkF m 46 #[.val (.ref va), .val (.int vq), .val (.int (0 : Int32)), .unset] [(.ref va)])) _
    refine XS.bipush X4.here hx rfl (hb hby d12_46) ?_
    show Steps p.tables e below (T4.setTop (mkF m 48 #[.val (.ref va), .val (.int vq), .val (.int (0 : Int32)), .unset] [(.int (10 : Int32)), (.ref va)])) _
    refine XS.iloadN X4.here hx rfl (hb hby d12_48) rfl ?_
    show Steps p.tables e below (T4.setTop (mkF m 49 #[.val (.ref va), .val (.int vq), .val (.int (0 : Int32)), .unset] [(.int vq), (.int (10 : Int32)), (.ref va)])) _
    refine st5 _ ?_
    show Steps p.tables e below (T5.setTop (mkF m 52 #[.val (.ref va), .val (.int vq), .val (.int (0 : Int32)), .unset] [(.int (10 : Int32)), (.ref va)])) _
    refine st6 _ ?_
    show Steps p.tables e below (T6.setTop (mkF m 55 #[.val (.ref va), .val (.int vq), .val (.int (0 : Int32)), .unset] [(.ref b6), (.ref va)])) _
    refine XS.dupX1 X6.here hx rfl (hb hby d12_55) rfl rfl rfl ?_
    show Steps p.tables e below (T6.setTop (mkF m 56 #[.val (.ref va), .val (.int vq), .val (.int (0 : Int32)), .unset] [(.ref b6), (.ref va), (.ref b6)])) _
    refine st10 _ ?_
    show Steps p.tables e below (T10.setTop (mkF m 59 #[.val (.ref va), .val (.int vq), .val (.int (0 : Int32)), .unset] [(.ref b6)])) _
    jvm_step X10.here [X10.here.top, hx, (hb hby d12_59), X10.method', Bd.returns, Value.isRef, FieldType.isReference]
    first | (intro acts; rw [hr _ acts rfl rfl rfl]) | rw [hr _ _ rfl rfl rfl]
    exact Steps.refl _
  · show Q_g1 Z va vq vm ade kde h0 n0 _ T10.heap _
    rw [e10]
    have Kc12 := (Keep.refl h0 [va]).ext E6
    have Kc13 := Kc12.wr W10 (Or.inl (List.mem_of_getElem? (i := 0) rfl))
    have Fc14 := (Exa.wr W10 Fc9)
    have Fc15 := (Fld.other W10 (Fld.ext E6 F_m) (Or.inr (slot_ne (Or.inl (hw _ (List.mem_of_getElem? (i := 22) rfl))) (Or.inl (hw _ (List.mem_of_getElem? (i := 25) rfl))) (by decide) (t := .int) (t' := (.array (.object "java/lang/Object"))) (by decide) (by decide))))
    have Fc16 := (Fld.other W10 (Fld.ext E6 F_s) (Or.inr (slot_ne (Or.inl (hw _ (List.mem_of_getElem? (i := 62) rfl))) (Or.inl (hw _ (List.mem_of_getElem? (i := 25) rfl))) (by decide) (t := .int) (t' := (.array (.object "java/lang/Object"))) (by decide) (by decide))))
    have Fc17 := (V6.other W10 (Ne.symm (Nat.ne_of_lt (Nat.lt_of_lt_of_le (E_a).lt (Nat.le_of_eq g6.symm)))))
    exact ⟨b6, k6, rfl, N10, Kc13, g_b6, (Nat.le_trans (Nat.le_refl h0.size) (Nat.le_of_eq g6.symm)), Fc14, Fc15, Fw10, Fc16, Fc17, O6⟩
theorem d11_0 : decode jdk_38_method_7_code 0 = .ok (.aload_n 0, 1) := by decide +kernel
theorem d11_1 : decode jdk_38_method_7_code 1 = .ok (.aload_n 0, 1) := by decide +kernel
theorem d11_2 : decode jdk_38_method_7_code 2 = .ok (.getfield 48, 3) := by decide +kernel
theorem d11_5 : decode jdk_38_method_7_code 5 = .ok (.iconst 1, 1) := by decide +kernel
theorem d11_6 : decode jdk_38_method_7_code 6 = .ok (.iadd, 1) := by decide +kernel
theorem d11_7 : decode jdk_38_method_7_code 7 = .ok (.invokevirtual 69, 3) := by decide +kernel
theorem d11_10 : decode jdk_38_method_7_code 10 = .ok (.areturn, 1) := by decide +kernel
theorem pn_rm_g0 : plainName "java/util/ArrayList" = true := by first | (simp [plainName, overriddenIn]; done) | decide +kernel
theorem ef_rm_g0 (m : MethodId) (va : Addr) : entryFrame m #[(.ref va)] 1 = mkF m 0 #[.val (.ref va)] [] := by first | (simp [entryFrame, mkF, argsToLocals, Value.category]; done) | rfl
def Q_g0 (Z : State) (va : Addr) (vm : Int32) (ade : Addr) (kde : ClassId) (h0 : Heap) (n0 : Nat) (v : Option Value) (h : Heap) (L : List Loc) : Prop := ∃ (b : Addr) (kb : ClassId), v = some (.ref b) ∧ Fr n0 L ∧ Keep h0 h [va] ∧ n0 ≤ b ∧ h0.size ≤ b ∧ Exa Z h va "java/util/ArrayList" ∧ Fld Z h va "java/util/AbstractList" "modCount" "I" (.int vm) ∧ Fld Z h va "java/util/ArrayList" "elementData" "[Ljava/lang/Object;" (.ref b) ∧ Fld Z h va "java/util/ArrayList" "size" "I" (.int (0 : Int32)) ∧ Arv Z h b kb (.object "java/lang/Object") (10 : Int32) [.null, .null, .null, .null, .null, .null, .null, .null, .null, .null] .null ∧ Ovr Z kb "java/lang/Object"
set_option maxRecDepth 65536 in
set_option maxHeartbeats 40000000 in
theorem rm_g0 (l : Launch) (Z : State) (a0 : Array Value) (hw : ∀ d ∈ tables_1, d.before a0 Z = true) (ws : List Jvm.Cond) (va : Addr) (vm : Int32) (ade : Addr) (kde : ClassId) (h0 : Heap) (n0 : Nat) (Z0 : n0 ≤ h0.size) (E_a : Exa Z h0 va "java/util/ArrayList") (g_va : n0 ≤ va) (F_m : Fld Z h0 va "java/util/AbstractList" "modCount" "I" (.int vm)) (F_e : Fld Z h0 va "java/util/ArrayList" "elementData" "[Ljava/lang/Object;" (.ref ade)) (F_s : Fld Z h0 va "java/util/ArrayList" "size" "I" (.int (0 : Int32))) (S_de : Sta Z h0 "java/util/ArrayList" "DEFAULTCAPACITY_EMPTY_ELEMENTDATA" "[Ljava/lang/Object;" (.ref ade)) (V_de : Arv Z h0 ade kde (.object "java/lang/Object") (0 : Int32) [] .null) :
    MetFree l (⟨"java/util/ArrayList", "grow", "()[Ljava/lang/Object;"⟩ : MethodName) (head1 (Jvm.Cond.code (⟨"java/util/ArrayList", "grow", "()[Ljava/lang/Object;"⟩ : MethodName) jdk_38_method_7_code 1 (some (.array (.object "java/lang/Object"))) :: ws) ({ frames := 2, cells := 1, slots := 10, locals := 29 } : Room)) (fun a U => a = #[(.ref va)] ∧ Z.Warmed39 U.vm ∧ U.heap = h0) (fun _ _ _ _ _ => True) (fun _ U o U' => ∃ v L, o = .returned v ∧ Q_g0 Z va vm ade kde h0 n0 v U'.heap L ∧ FrameEnd U o U' L ({ frames := 2, cells := 1, slots := 10, locals := 29 } : Room).cells ({ frames := 2, cells := 1, slots := 10, locals := 29 } : Room).slots) := by
  refine MetFree.of_bodySF (plainFor_of_name pn_rm_g0) hisR ?_
  intro p e s m args below meth c s₁ Bd hml0 hP hK
  obtain ⟨rfl, hZ, hh⟩ := hP
  have hx := Bd.exec
  have hby := Bd.bytes
  have hml : c.maxLocals = 1 := hml0
  have hown : s.vm.findClass "java/util/ArrayList" = some m.cls := findClass_of_methodNamed Bd.named
  have hnm := (name_of_methodNamed Bd.named Bd.method).1
  have X0 : Stand p l e ({ frames := 2, cells := 1, slots := 10, locals := 29 } : Room) s m #[(.ref va)] below meth c s₁ [] 0 0 := Stand.of_body Bd
  have e0 : s₁.heap = h0 := by rw [← hh, Bd.state]; rfl
  have N0 := Fr.nil n0
  have pre0 : ∀ t, Steps p.tables e below (s₁.setTop (mkF m 0 #[.val (.ref va)] [])) t → Steps p.tables e below (s₁.setTop (entryFrame m #[(.ref va)] 1)) t := fun t k => castTop (ef_rm_g0 m va) k
  obtain ⟨T1, X1, e1, st1⟩ := getF X0 hx hZ hown (host := "") (Or.inl (hw _ (List.mem_of_getElem? (i := 61) rfl))) Via.refl e0 F_s (g := (mkF m 2 #[.val (.ref va)] [(.ref va), (.ref va)])) rfl rfl (hb hby d11_2)
  obtain ⟨cq3, q3, q3'⟩ := (E_a).cell
  obtain ⟨_, _, ⟨T2, L2, k2, n2⟩, -, X2, ⟨Lc2, hQ2, l2, y2, z2⟩, st2⟩ := X1.privateBack hx (y := (⟨"java/util/ArrayList", "grow", "(I)[Ljava/lang/Object;"⟩ : MethodName)) hown (mvT hZ (hw _ (List.mem_of_getElem? (i := 73) rfl))) (mvT hZ (hw _ (List.mem_of_getElem? (i := 74) rfl))) (mvT hZ (hw _ (List.mem_of_getElem? (i := 76) rfl))) (Cond.privateMethod_at (mvP hZ (hw _ (List.mem_of_getElem? (i := 75) rfl)) (args := #[]))) (mvT hZ (hw _ (List.mem_of_getElem? (i := 77) rfl))) (by decide) (backOf (W := 0) (rm_g1 l Z a0 hw [] va (1 : Int32) vm ade kde h0 n0 Z0 E_a g_va F_m F_e F_s S_de V_de (by decide)) hZ (hw _ (List.mem_of_getElem? (i := 77) rfl)) (hw _ (List.mem_of_getElem? (i := 2) rfl)) (by decide) (by decide)) (g := (mkF m 7 #[.val (.ref va)] [(.int (1 : Int32)), (.ref va)])) rfl (by rw [hml]; rfl) (Steps.refl _) (a := va) (by rw [e1]; exact q3) q3' (argsL := [(.int (1 : Int32))]) (rest := []) (lenOf own_pd5 rfl) rfl (by show 2 * 0 + _ ≤ _; exact Nat.le_of_eq rfl) (hb hby d11_7) (fun _ _ => ⟨rfl, e1, (by decide : 0 + 1 ≤ _), (by decide : 0 + 10 ≤ _)⟩)
  dsimp only [Pt.U, Pt.locs, Pt.cells, Pt.slots] at X2 l2 y2 z2 st2 hQ2
  subst l2 y2 z2
  obtain ⟨b2, kb2, rfl, Nq2, K2, g_b2, sz_b2, Ex2, Fm2, Fe2, Fs2, V2, O2⟩ := hQ2
  have Nf2 := Fr.app N0 Nq2
  have Zp4 : n0 ≤ T2.heap.size := Nat.le_trans Z0 K2.1
  obtain ⟨fs, hr, hrun, hended, hW, hsame⟩ := X2.leave (v := some (.ref b2)) (fun h => by rw [Bd.returns] at h; cases h)
  refine ⟨_, _, pre0 _ ?_, hrun, hended, _, _, rfl, ?_, ⟨_, rfl⟩, hW, hsame.mono (by decide) (by decide)⟩
  · show Steps p.tables e below (s₁.setTop (mkF m 0 #[.val (.ref va)] [])) _
    refine XS.aloadN X0.here hx rfl (hb hby d11_0) rfl rfl ?_
    show Steps p.tables e below (s₁.setTop (mkF m 1 #[.val (.ref va)] [(.ref va)])) _
    refine XS.aloadN X0.here hx rfl (hb hby d11_1) rfl rfl ?_
    show Steps p.tables e below (s₁.setTop (mkF m 2 #[.val (.ref va)] [(.ref va), (.ref va)])) _
    refine st1 _ ?_
    show Steps p.tables e below (T1.setTop (mkF m 5 #[.val (.ref va)] [(.int (0 : Int32)), (.ref va)])) _
    refine XS.iconst X1.here hx rfl (hb hby d11_5) ?_
    show Steps p.tables e below (T1.setTop (mkF m 6 #[.val (.ref va)] [(.int (1 : Int32)), (.int (0 : Int32)), (.ref va)])) _
    refine XS.iadd X1.here hx rfl (hb hby d11_6) rfl ?_
    show Steps p.tables e below (T1.setTop (mkF m 7 #[.val (.ref va)] [(.int (1 : Int32)), (.ref va)])) _
    refine st2.trans ?_
    show Steps p.tables e below (T2.setTop (mkF m 10 #[.val (.ref va)] [(.ref b2)])) _
    jvm_step X2.here [X2.here.top, hx, (hb hby d11_10), X2.method', Bd.returns, Value.isRef, FieldType.isReference]
    first | (intro acts; rw [hr _ acts rfl rfl rfl]) | rw [hr _ _ rfl rfl rfl]
    exact Steps.refl _
  · show Q_g0 Z va vm ade kde h0 n0 _ T2.heap _
    have Kc5 := (Keep.refl h0 [va]).trans K2 (allS (Or.inl (List.mem_of_getElem? (i := 0) rfl)) all0)
    exact ⟨b2, kb2, rfl, Nf2, Kc5, g_b2, (Nat.le_trans (Nat.le_refl h0.size) sz_b2), Ex2, Fm2, Fe2, Fs2, V2, O2⟩
theorem d10_0 : decode jdk_38_method_24_code 0 = .ok (.iload_n 3, 1) := by decide +kernel
theorem d10_1 : decode jdk_38_method_24_code 1 = .ok (.aload_n 2, 1) := by decide +kernel
theorem d10_2 : decode jdk_38_method_24_code 2 = .ok (.arraylength, 1) := by decide +kernel
theorem d10_3 : decode jdk_38_method_24_code 3 = .ok (.if_icmp .ne 8, 3) := by decide +kernel
theorem d10_6 : decode jdk_38_method_24_code 6 = .ok (.aload_n 0, 1) := by decide +kernel
theorem d10_7 : decode jdk_38_method_24_code 7 = .ok (.invokevirtual 129, 3) := by decide +kernel
theorem d10_10 : decode jdk_38_method_24_code 10 = .ok (.astore_n 2, 1) := by decide +kernel
theorem d10_11 : decode jdk_38_method_24_code 11 = .ok (.aload_n 2, 1) := by decide +kernel
theorem d10_12 : decode jdk_38_method_24_code 12 = .ok (.iload_n 3, 1) := by decide +kernel
theorem d10_13 : decode jdk_38_method_24_code 13 = .ok (.aload_n 1, 1) := by decide +kernel
theorem d10_14 : decode jdk_38_method_24_code 14 = .ok (.aastore, 1) := by decide +kernel
theorem d10_15 : decode jdk_38_method_24_code 15 = .ok (.aload_n 0, 1) := by decide +kernel
theorem d10_16 : decode jdk_38_method_24_code 16 = .ok (.iload_n 3, 1) := by decide +kernel
theorem d10_17 : decode jdk_38_method_24_code 17 = .ok (.iconst 1, 1) := by decide +kernel
theorem d10_18 : decode jdk_38_method_24_code 18 = .ok (.iadd, 1) := by decide +kernel
theorem d10_19 : decode jdk_38_method_24_code 19 = .ok (.putfield 48, 3) := by decide +kernel
theorem d10_22 : decode jdk_38_method_24_code 22 = .ok (.return_, 1) := by decide +kernel
theorem pn_rm_a30 : plainName "java/util/ArrayList" = true := by first | (simp [plainName, overriddenIn]; done) | decide +kernel
theorem ef_rm_a30 (m : MethodId) (va : Addr) (vx : Addr) (ade : Addr) (vz : Int32) : entryFrame m #[(.ref va), (.ref vx), (.ref ade), (.int vz)] 4 = mkF m 0 #[.val (.ref va), .val (.ref vx), .val (.ref ade), .val (.int vz)] [] := by first | (simp [entryFrame, mkF, argsToLocals, Value.category]; done) | rfl
def Q_a30 (Z : State) (va : Addr) (vx : Addr) (ade : Addr) (vz : Int32) (vm : Int32) (kde : ClassId) (h0 : Heap) (n0 : Nat) (v : Option Value) (h : Heap) (L : List Loc) : Prop := ∃ (b : Addr) (kb : ClassId), v = none ∧ Fr n0 L ∧ Keep h0 h [va] ∧ n0 ≤ b ∧ h0.size ≤ b ∧ Exa Z h va "java/util/ArrayList" ∧ Fld Z h va "java/util/AbstractList" "modCount" "I" (.int vm) ∧ Fld Z h va "java/util/ArrayList" "elementData" "[Ljava/lang/Object;" (.ref b) ∧ Fld Z h va "java/util/ArrayList" "size" "I" (.int (1 : Int32)) ∧ Arv Z h b kb (.object "java/lang/Object") (10 : Int32) [(.ref vx), .null, .null, .null, .null, .null, .null, .null, .null, .null] .null ∧ Ovr Z kb "java/lang/Object"
set_option maxRecDepth 65536 in
set_option maxHeartbeats 40000000 in
theorem rm_a30 (l : Launch) (Z : State) (a0 : Array Value) (hw : ∀ d ∈ tables_1, d.before a0 Z = true) (ws : List Jvm.Cond) (va : Addr) (vx : Addr) (ade : Addr) (vz : Int32) (vm : Int32) (kde : ClassId) (h0 : Heap) (n0 : Nat) (Z0 : n0 ≤ h0.size) (E_a : Exa Z h0 va "java/util/ArrayList") (g_va : n0 ≤ va) (F_m : Fld Z h0 va "java/util/AbstractList" "modCount" "I" (.int vm)) (F_e : Fld Z h0 va "java/util/ArrayList" "elementData" "[Ljava/lang/Object;" (.ref ade)) (F_s : Fld Z h0 va "java/util/ArrayList" "size" "I" (.int (0 : Int32))) (S_de : Sta Z h0 "java/util/ArrayList" "DEFAULTCAPACITY_EMPTY_ELEMENTDATA" "[Ljava/lang/Object;" (.ref ade)) (V_de : Arv Z h0 ade kde (.object "java/lang/Object") (0 : Int32) [] .null) (E_x : Exa Z h0 vx "java/lang/String") (hz : vz = (0 : Int32)) :
    MetFree l (⟨"java/util/ArrayList", "add", "(Ljava/lang/Object;[Ljava/lang/Object;I)V"⟩ : MethodName) (head1 (Jvm.Cond.code (⟨"java/util/ArrayList", "add", "(Ljava/lang/Object;[Ljava/lang/Object;I)V"⟩ : MethodName) jdk_38_method_24_code 4 none :: ws) ({ frames := 3, cells := 1, slots := 10, locals := 41 } : Room)) (fun a U => a = #[(.ref va), (.ref vx), (.ref ade), (.int vz)] ∧ Z.Warmed39 U.vm ∧ U.heap = h0) (fun _ _ _ _ _ => True) (fun _ U o U' => ∃ v L, o = .returned v ∧ Q_a30 Z va vx ade vz vm kde h0 n0 v U'.heap L ∧ FrameEnd U o U' L ({ frames := 3, cells := 1, slots := 10, locals := 41 } : Room).cells ({ frames := 3, cells := 1, slots := 10, locals := 41 } : Room).slots) := by
  subst hz
  refine MetFree.of_bodySF (plainFor_of_name pn_rm_a30) hisR ?_
  intro p e s m args below meth c s₁ Bd hml0 hP hK
  obtain ⟨rfl, hZ, hh⟩ := hP
  have hx := Bd.exec
  have hby := Bd.bytes
  have hml : c.maxLocals = 4 := hml0
  have hown : s.vm.findClass "java/util/ArrayList" = some m.cls := findClass_of_methodNamed Bd.named
  have hnm := (name_of_methodNamed Bd.named Bd.method).1
  have X0 : Stand p l e ({ frames := 3, cells := 1, slots := 10, locals := 41 } : Room) s m #[(.ref va), (.ref vx), (.ref ade), (.int (0 : Int32))] below meth c s₁ [] 0 0 := Stand.of_body Bd
  have e0 : s₁.heap = h0 := by rw [← hh, Bd.state]; rfl
  have N0 := Fr.nil n0
  have pre0 : ∀ t, Steps p.tables e below (s₁.setTop (mkF m 0 #[.val (.ref va), .val (.ref vx), .val (.ref ade), .val (.int (0 : Int32))] [])) t → Steps p.tables e below (s₁.setTop (entryFrame m #[(.ref va), (.ref vx), (.ref ade), (.int (0 : Int32))] 4)) t := fun t k => castTop (ef_rm_a30 m va vx ade (0 : Int32)) k
  obtain ⟨cl1, Ar1, -, S1, M1, -, -⟩ := id V_de
  obtain ⟨cq3, q3, q3'⟩ := (E_a).cell
  obtain ⟨_, _, ⟨T2, L2, k2, n2⟩, -, X2, ⟨Lc2, hQ2, l2, y2, z2⟩, st2⟩ := X0.privateBack hx (y := (⟨"java/util/ArrayList", "grow", "()[Ljava/lang/Object;"⟩ : MethodName)) hown (mvT hZ (hw _ (List.mem_of_getElem? (i := 68) rfl))) (mvT hZ (hw _ (List.mem_of_getElem? (i := 69) rfl))) (mvT hZ (hw _ (List.mem_of_getElem? (i := 71) rfl))) (Cond.privateMethod_at (mvP hZ (hw _ (List.mem_of_getElem? (i := 70) rfl)) (args := #[]))) (mvT hZ (hw _ (List.mem_of_getElem? (i := 72) rfl))) (by decide) (backOf (W := 0) (rm_g0 l Z a0 hw [] va vm ade kde h0 n0 Z0 E_a g_va F_m F_e F_s S_de V_de) hZ (hw _ (List.mem_of_getElem? (i := 72) rfl)) (hw _ (List.mem_of_getElem? (i := 2) rfl)) (by decide) (by decide)) (g := (mkF m 7 #[.val (.ref va), .val (.ref vx), .val (.ref ade), .val (.int (0 : Int32))] [(.ref va)])) rfl (by rw [hml]; rfl) (Steps.refl _) (a := va) (by rw [e0]; exact q3) q3' (argsL := []) (rest := []) (lenOf own_pd6 rfl) rfl (by show 2 * 0 + _ ≤ _; exact Nat.le_of_eq rfl) (hb hby d10_7) (fun _ _ => ⟨rfl, e0, (by decide : 0 + 1 ≤ _), (by decide : 0 + 10 ≤ _)⟩)
  dsimp only [Pt.U, Pt.locs, Pt.cells, Pt.slots] at X2 l2 y2 z2 st2 hQ2
  subst l2 y2 z2
  obtain ⟨b2, kb2, rfl, Nq2, K2, g_b2, sz_b2, Ex2, Fm2, Fe2, Fs2, V2, O2⟩ := hQ2
  have Nf2 := Fr.app N0 Nq2
  have Zp4 : n0 ≤ T2.heap.size := Nat.le_trans Z0 K2.1
  obtain ⟨cl5, Ar5, q5, S5, M5, H5, G5⟩ := id V2
  have hin5 : ¬ ((0 : Int32) < 0 ∨ cl5.slots.size ≤ ((0 : Int32)).toNatClampNeg) := inb_of S5 ⟨by decide, by decide⟩
  have Fc6 := (E_x.keep K2)
  obtain ⟨T7, h7, X7, e7, W7, st7⟩ := stR X2 hx hZ rfl Ar5 (j := (0 : Int32)) hin5 rfl (Sto.ofV Ar5 q5 O2 (Ins.of_exa Fc6 (hw _ (List.mem_of_getElem? (i := 84) rfl)))) (g := (mkF m 14 #[.val (.ref va), .val (.ref vx), .val (.ref b2), .val (.int (0 : Int32))] [(.ref vx), (.int (0 : Int32)), (.ref b2)])) rfl rfl (hb hby d10_14)
  have N7 := Fr.snoc X7 Nf2 g_b2
  have V7 : Arv Z h7 b2 kb2 (.object "java/lang/Object") (10 : Int32) [(.ref vx), .null, .null, .null, .null, .null, .null, .null, .null, .null] .null := Arv.set Ar5 q5 S5 M5 H5 G5 rfl W7 0 rfl (Nat.le_of_ble_eq_true rfl)
  have Zp8 : n0 ≤ h7.size := Nat.le_trans Zp4 (Nat.le_of_eq (Wr.size W7).symm)
  have Fc9 := (Fld.other W7 Fs2 (Or.inl (Nat.ne_of_lt (Nat.lt_of_lt_of_le (E_a).lt sz_b2))))
  have Fc10 := (Exa.wr W7 Ex2)
  obtain ⟨T11, h11, X11, e11, W11, st11⟩ := putF X7 hx hZ hown (host := "") (Or.inl (hw _ (List.mem_of_getElem? (i := 61) rfl))) Via.refl e7 Fc9 Fc10 (Or.inl (hw _ (List.mem_of_getElem? (i := 62) rfl))) (hw _ (List.mem_of_getElem? (i := 1) rfl)) (ty := .int) (by decide) rfl rfl (g := (mkF m 19 #[.val (.ref va), .val (.ref vx), .val (.ref b2), .val (.int (0 : Int32))] [(.int (1 : Int32)), (.ref va)])) rfl rfl (hb hby d10_19)
  have N11 := Fr.snoc X11 N7 g_va
  have Fw11 := Fld.same W11 Fc9
  have Zp12 : n0 ≤ h11.size := Nat.le_trans Zp8 (Nat.le_of_eq (Wr.size W11).symm)
  obtain ⟨fs, hr, hrun, hended, hW, hsame⟩ := X11.leave (v := none) (fun _ => rfl)
  refine ⟨_, _, pre0 _ ?_, hrun, hended, _, _, rfl, ?_, ⟨_, rfl⟩, hW, hsame.mono (by decide) (by decide)⟩
  · show Steps p.tables e below (s₁.setTop (mkF m 0 #[.val (.ref va), .val (.ref vx), .val (.ref ade), .val (.int (0 : Int32))] [])) _
    refine XS.iloadN X0.here hx rfl (hb hby d10_0) rfl ?_
    show Steps p.tables e below (s₁.setTop (mkF m 1 #[.val (.ref va), .val (.ref vx), .val (.ref ade), .val (.int (0 : Int32))] [(.int (0 : Int32))])) _
    refine XS.aloadN X0.here hx rfl (hb hby d10_1) rfl rfl ?_
    show Steps p.tables e below (s₁.setTop (mkF m 2 #[.val (.ref va), .val (.ref vx), .val (.ref ade), .val (.int (0 : Int32))] [(.ref ade), (.int (0 : Int32))])) _
    refine X0.arraylength hx (by rw [e0]; exact Ar1.1) (State.isArrayOf_alike hZ.alike Ar1.2.1) (g := (mkF m 2 #[.val (.ref va), .val (.ref vx), .val (.ref ade), .val (.int (0 : Int32))] [(.ref ade), (.int (0 : Int32))])) rfl rfl (hb hby d10_2) _ ?_
    rw [len_of S1 M1]
    show Steps p.tables e below (s₁.setTop (mkF m 3 #[.val (.ref va), .val (.ref vx), .val (.ref ade), .val (.int (0 : Int32))] [(.int (0 : Int32)), (.int (0 : Int32))])) _
    refine XS.icmpNo X0.here hx rfl (hb hby d10_3) rfl (by decide) ?_
    show Steps p.tables e below (s₁.setTop (mkF m 6 #[.val (.ref va), .val (.ref vx), .val (.ref ade), .val (.int (0 : Int32))] [])) _
    refine XS.aloadN X0.here hx rfl (hb hby d10_6) rfl rfl ?_
    show Steps p.tables e below (s₁.setTop (mkF m 7 #[.val (.ref va), .val (.ref vx), .val (.ref ade), .val (.int (0 : Int32))] [(.ref va)])) _
    refine st2.trans ?_
    show Steps p.tables e below (T2.setTop (mkF m 10 #[.val (.ref va), .val (.ref vx), .val (.ref ade), .val (.int (0 : Int32))] [(.ref b2)])) _
    refine XS.astoreN X2.here hx rfl (hb hby d10_10) rfl rfl (l' := #[.val (.ref va), .val (.ref vx), .val (.ref b2), .val (.int (0 : Int32))]) rfl ?_
    show Steps p.tables e below (T2.setTop (mkF m 11 #[.val (.ref va), .val (.ref vx), .val (.ref b2), .val (.int (0 : Int32))] [])) _
    refine XS.aloadN X2.here hx rfl (hb hby d10_11) rfl rfl ?_
    show Steps p.tables e below (T2.setTop (mkF m 12 #[.val (.ref va), .val (.ref vx), .val (.ref b2), .val (.int (0 : Int32))] [(.ref b2)])) _
    refine XS.iloadN X2.here hx rfl (hb hby d10_12) rfl ?_
    show Steps p.tables e below (T2.setTop (mkF m 13 #[.val (.ref va), .val (.ref vx), .val (.ref b2), .val (.int (0 : Int32))] [(.int (0 : Int32)), (.ref b2)])) _
    refine XS.aloadN X2.here hx rfl (hb hby d10_13) rfl rfl ?_
    show Steps p.tables e below (T2.setTop (mkF m 14 #[.val (.ref va), .val (.ref vx), .val (.ref b2), .val (.int (0 : Int32))] [(.ref vx), (.int (0 : Int32)), (.ref b2)])) _
    refine st7 _ ?_
    show Steps p.tables e below (T7.setTop (mkF m 15 #[.val (.ref va), .val (.ref vx), .val (.ref b2), .val (.int (0 : Int32))] [])) _
    refine XS.aloadN X7.here hx rfl (hb hby d10_15) rfl rfl ?_
    show Steps p.tables e below (T7.setTop (mkF m 16 #[.val (.ref va), .val (.ref vx), .val (.ref b2), .val (.int (0 : Int32))] [(.ref va)])) _
    refine XS.iloadN X7.here hx rfl (hb hby d10_16) rfl ?_
    show Steps p.tables e below (T7.setTop (mkF m 17 #[.val (.ref va), .val (.ref vx), .val (.ref b2), .val (.int (0 : Int32))] [(.int (0 : Int32)), (.ref va)])) _
    refine XS.iconst X7.here hx rfl (hb hby d10_17) ?_
    show Steps p.tables e below (T7.setTop (mkF m 18 #[.val (.ref va), .val (.ref vx), .val (.ref b2), .val (.int (0 : Int32))] [(.int (1 : Int32)), (.int (0 : Int32)), (.ref va)])) _
    refine XS.iadd X7.here hx rfl (hb hby d10_18) rfl ?_
    show Steps p.tables e below (T7.setTop (mkF m 19 #[.val (.ref va), .val (.ref vx), .val (.ref b2), .val (.int (0 : Int32))] [(.int (1 : Int32)), (.ref va)])) _
    refine st11 _ ?_
    show Steps p.tables e below (T11.setTop (mkF m 22 #[.val (.ref va), .val (.ref vx), .val (.ref b2), .val (.int (0 : Int32))] [])) _
    exact X11.returnOut hx Bd.returns (hb hby d10_22) hr
  · show Q_a30 Z va vx ade (0 : Int32) vm kde h0 n0 _ T11.heap _
    rw [e11]
    have Kc13 := (Keep.refl h0 [va]).trans K2 (allS (Or.inl (List.mem_of_getElem? (i := 0) rfl)) all0)
    have Kc14 := Kc13.wr W7 (Or.inr (Nat.le_trans (Keep.refl h0 [va]).1 sz_b2))
    have Kc15 := Kc14.wr W11 (Or.inl (List.mem_of_getElem? (i := 0) rfl))
    have Fc16 := (Exa.wr W11 Fc10)
    have Fc17 := (Fld.other W11 (Fld.other W7 Fm2 (Or.inl (Nat.ne_of_lt (Nat.lt_of_lt_of_le (E_a).lt sz_b2)))) (Or.inr (slot_ne (Or.inl (hw _ (List.mem_of_getElem? (i := 22) rfl))) (Or.inl (hw _ (List.mem_of_getElem? (i := 62) rfl))) (by decide) (t := .int) (t' := .int) (by decide) (by decide))))
    have Fc18 := (Fld.other W11 (Fld.other W7 Fe2 (Or.inl (Nat.ne_of_lt (Nat.lt_of_lt_of_le (E_a).lt sz_b2)))) (Or.inr (slot_ne (Or.inl (hw _ (List.mem_of_getElem? (i := 25) rfl))) (Or.inl (hw _ (List.mem_of_getElem? (i := 62) rfl))) (by decide) (t := (.array (.object "java/lang/Object"))) (t' := .int) (by decide) (by decide))))
    have Fc19 := (V7.other W11 (Ne.symm (Nat.ne_of_lt (Nat.lt_of_lt_of_le (E_a).lt sz_b2))))
    exact ⟨b2, kb2, rfl, N11, Kc15, g_b2, (Nat.le_trans (Nat.le_refl h0.size) sz_b2), Fc16, Fc17, Fc18, Fw11, Fc19, O2⟩
theorem d9_0 : decode jdk_38_method_25_code 0 = .ok (.aload_n 0, 1) := by decide +kernel
theorem d9_1 : decode jdk_38_method_25_code 1 = .ok (.dup, 1) := by decide +kernel
theorem d9_2 : decode jdk_38_method_25_code 2 = .ok (.getfield 63, 3) := by decide +kernel
theorem d9_5 : decode jdk_38_method_25_code 5 = .ok (.iconst 1, 1) := by decide +kernel
theorem d9_6 : decode jdk_38_method_25_code 6 = .ok (.iadd, 1) := by decide +kernel
theorem d9_7 : decode jdk_38_method_25_code 7 = .ok (.putfield 63, 3) := by decide +kernel
theorem d9_10 : decode jdk_38_method_25_code 10 = .ok (.aload_n 0, 1) := by decide +kernel
theorem d9_11 : decode jdk_38_method_25_code 11 = .ok (.aload_n 1, 1) := by decide +kernel
theorem d9_12 : decode jdk_38_method_25_code 12 = .ok (.aload_n 0, 1) := by decide +kernel
theorem d9_13 : decode jdk_38_method_25_code 13 = .ok (.getfield 9, 3) := by decide +kernel
theorem d9_16 : decode jdk_38_method_25_code 16 = .ok (.aload_n 0, 1) := by decide +kernel
theorem d9_17 : decode jdk_38_method_25_code 17 = .ok (.getfield 48, 3) := by decide +kernel
theorem d9_20 : decode jdk_38_method_25_code 20 = .ok (.invokevirtual 131, 3) := by decide +kernel
theorem d9_23 : decode jdk_38_method_25_code 23 = .ok (.iconst 1, 1) := by decide +kernel
theorem d9_24 : decode jdk_38_method_25_code 24 = .ok (.ireturn, 1) := by decide +kernel
theorem pn_rm_a10 : plainName "java/util/ArrayList" = true := by first | (simp [plainName, overriddenIn]; done) | decide +kernel
theorem ef_rm_a10 (m : MethodId) (va : Addr) (vx : Addr) : entryFrame m #[(.ref va), (.ref vx)] 2 = mkF m 0 #[.val (.ref va), .val (.ref vx)] [] := by first | (simp [entryFrame, mkF, argsToLocals, Value.category]; done) | rfl
def Q_a10 (Z : State) (va : Addr) (vx : Addr) (vm : Int32) (ade : Addr) (kde : ClassId) (h0 : Heap) (n0 : Nat) (v : Option Value) (h : Heap) (L : List Loc) : Prop := ∃ (b : Addr) (kb : ClassId), v = some (.int 1) ∧ Fr n0 L ∧ Keep h0 h [va] ∧ n0 ≤ b ∧ h0.size ≤ b ∧ Exa Z h va "java/util/ArrayList" ∧ Fld Z h va "java/util/AbstractList" "modCount" "I" (.int (vm + (1 : Int32))) ∧ Fld Z h va "java/util/ArrayList" "elementData" "[Ljava/lang/Object;" (.ref b) ∧ Fld Z h va "java/util/ArrayList" "size" "I" (.int (1 : Int32)) ∧ Arv Z h b kb (.object "java/lang/Object") (10 : Int32) [(.ref vx), .null, .null, .null, .null, .null, .null, .null, .null, .null] .null ∧ Ovr Z kb "java/lang/Object"
set_option maxRecDepth 65536 in
set_option maxHeartbeats 40000000 in
theorem rm_a10 (l : Launch) (Z : State) (a0 : Array Value) (hw : ∀ d ∈ tables_1, d.before a0 Z = true) (ws : List Jvm.Cond) (va : Addr) (vx : Addr) (vm : Int32) (ade : Addr) (kde : ClassId) (h0 : Heap) (n0 : Nat) (Z0 : n0 ≤ h0.size) (E_a : Exa Z h0 va "java/util/ArrayList") (g_va : n0 ≤ va) (F_m : Fld Z h0 va "java/util/AbstractList" "modCount" "I" (.int vm)) (F_e : Fld Z h0 va "java/util/ArrayList" "elementData" "[Ljava/lang/Object;" (.ref ade)) (F_s : Fld Z h0 va "java/util/ArrayList" "size" "I" (.int (0 : Int32))) (S_de : Sta Z h0 "java/util/ArrayList" "DEFAULTCAPACITY_EMPTY_ELEMENTDATA" "[Ljava/lang/Object;" (.ref ade)) (V_de : Arv Z h0 ade kde (.object "java/lang/Object") (0 : Int32) [] .null) (E_x : Exa Z h0 vx "java/lang/String") :
    MetFree l (⟨"java/util/ArrayList", "add", "(Ljava/lang/Object;)Z"⟩ : MethodName) (head1 (Jvm.Cond.code (⟨"java/util/ArrayList", "add", "(Ljava/lang/Object;)Z"⟩ : MethodName) jdk_38_method_25_code 2 (some .boolean) :: ws) ({ frames := 4, cells := 1, slots := 10, locals := 56 } : Room)) (fun a U => a = #[(.ref va), (.ref vx)] ∧ Z.Warmed39 U.vm ∧ U.heap = h0) (fun _ _ _ _ _ => True) (fun _ U o U' => ∃ v L, o = .returned v ∧ Q_a10 Z va vx vm ade kde h0 n0 v U'.heap L ∧ FrameEnd U o U' L ({ frames := 4, cells := 1, slots := 10, locals := 56 } : Room).cells ({ frames := 4, cells := 1, slots := 10, locals := 56 } : Room).slots) := by
  refine MetFree.of_bodySF (plainFor_of_name pn_rm_a10) hisR ?_
  intro p e s m args below meth c s₁ Bd hml0 hP hK
  obtain ⟨rfl, hZ, hh⟩ := hP
  have hx := Bd.exec
  have hby := Bd.bytes
  have hml : c.maxLocals = 2 := hml0
  have hown : s.vm.findClass "java/util/ArrayList" = some m.cls := findClass_of_methodNamed Bd.named
  have hnm := (name_of_methodNamed Bd.named Bd.method).1
  have X0 : Stand p l e ({ frames := 4, cells := 1, slots := 10, locals := 56 } : Room) s m #[(.ref va), (.ref vx)] below meth c s₁ [] 0 0 := Stand.of_body Bd
  have e0 : s₁.heap = h0 := by rw [← hh, Bd.state]; rfl
  have N0 := Fr.nil n0
  have pre0 : ∀ t, Steps p.tables e below (s₁.setTop (mkF m 0 #[.val (.ref va), .val (.ref vx)] [])) t → Steps p.tables e below (s₁.setTop (entryFrame m #[(.ref va), (.ref vx)] 2)) t := fun t k => castTop (ef_rm_a10 m va vx) k
  obtain ⟨T1, X1, e1, st1⟩ := getF X0 hx hZ hown (host := "") (Or.inl (hw _ (List.mem_of_getElem? (i := 59) rfl))) (Via.of (hw _ (List.mem_of_getElem? (i := 60) rfl))) e0 F_m (g := (mkF m 2 #[.val (.ref va), .val (.ref vx)] [(.ref va), (.ref va)])) rfl rfl (hb hby d9_2)
  obtain ⟨T2, h2, X2, e2, W2, st2⟩ := putF X1 hx hZ hown (host := "") (Or.inl (hw _ (List.mem_of_getElem? (i := 59) rfl))) (Via.of (hw _ (List.mem_of_getElem? (i := 60) rfl))) e1 F_m E_a (Or.inl (hw _ (List.mem_of_getElem? (i := 22) rfl))) (hw _ (List.mem_of_getElem? (i := 1) rfl)) (ty := .int) (by decide) rfl rfl (g := (mkF m 7 #[.val (.ref va), .val (.ref vx)] [(.int (vm + (1 : Int32))), (.ref va)])) rfl rfl (hb hby d9_7)
  have N2 := Fr.snoc X2 N0 g_va
  have Fw2 := Fld.same W2 F_m
  have Zp3 : n0 ≤ h2.size := Nat.le_trans Z0 (Nat.le_of_eq (Wr.size W2).symm)
  have Fc4 := (Fld.other W2 F_e (Or.inr (slot_ne (Or.inl (hw _ (List.mem_of_getElem? (i := 25) rfl))) (Or.inl (hw _ (List.mem_of_getElem? (i := 22) rfl))) (by decide) (t := (.array (.object "java/lang/Object"))) (t' := .int) (by decide) (by decide))))
  obtain ⟨T5, X5, e5, st5⟩ := getF X2 hx hZ hown (host := "") (Or.inl (hw _ (List.mem_of_getElem? (i := 24) rfl))) Via.refl e2 Fc4 (g := (mkF m 13 #[.val (.ref va), .val (.ref vx)] [(.ref va), (.ref vx), (.ref va)])) rfl rfl (hb hby d9_13)
  have Fc6 := (Fld.other W2 F_s (Or.inr (slot_ne (Or.inl (hw _ (List.mem_of_getElem? (i := 62) rfl))) (Or.inl (hw _ (List.mem_of_getElem? (i := 22) rfl))) (by decide) (t := .int) (t' := .int) (by decide) (by decide))))
  obtain ⟨T7, X7, e7, st7⟩ := getF X5 hx hZ hown (host := "") (Or.inl (hw _ (List.mem_of_getElem? (i := 61) rfl))) Via.refl e5 Fc6 (g := (mkF m 17 #[.val (.ref va), .val (.ref vx)] [(.ref va), (.ref ade), (.ref vx), (.ref va)])) rfl rfl (hb hby d9_17)
  have Fc8 := (Exa.wr W2 E_a)
  have Fc9 := (Sta.wr W2 S_de)
  have Fc10 := (V_de.other W2 (Ne.symm (Exa.neArv E_a V_de (hw _ (List.mem_of_getElem? (i := 1) rfl)))))
  have Fc11 := (Exa.wr W2 E_x)
  obtain ⟨cq13, q13, q13'⟩ := (Fc8).cell
  obtain ⟨_, _, ⟨T12, L12, k12, n12⟩, -, X12, ⟨Lc12, hQ12, l12, y12, z12⟩, st12⟩ := X7.privateBack hx (y := (⟨"java/util/ArrayList", "add", "(Ljava/lang/Object;[Ljava/lang/Object;I)V"⟩ : MethodName)) hown (mvT hZ (hw _ (List.mem_of_getElem? (i := 63) rfl))) (mvT hZ (hw _ (List.mem_of_getElem? (i := 64) rfl))) (mvT hZ (hw _ (List.mem_of_getElem? (i := 66) rfl))) (Cond.privateMethod_at (mvP hZ (hw _ (List.mem_of_getElem? (i := 65) rfl)) (args := #[]))) (mvT hZ (hw _ (List.mem_of_getElem? (i := 67) rfl))) (by decide) (backOf (W := 0) (rm_a30 l Z a0 hw [] va vx ade (0 : Int32) (vm + (1 : Int32)) kde h2 n0 Zp3 Fc8 g_va Fw2 Fc4 Fc6 Fc9 Fc10 Fc11 rfl) hZ (hw _ (List.mem_of_getElem? (i := 67) rfl)) (hw _ (List.mem_of_getElem? (i := 2) rfl)) (by decide) (by decide)) (g := (mkF m 20 #[.val (.ref va), .val (.ref vx)] [(.int (0 : Int32)), (.ref ade), (.ref vx), (.ref va)])) rfl (by rw [hml]; rfl) (Steps.refl _) (a := va) (by rw [e7]; exact q13) q13' (argsL := [(.ref vx), (.ref ade), (.int (0 : Int32))]) (rest := []) (lenOf own_pd7 rfl) rfl (by show 2 * 0 + _ ≤ _; exact Nat.le_of_eq rfl) (hb hby d9_20) (fun _ _ => ⟨rfl, e7, (by decide : 0 + 1 ≤ _), (by decide : 0 + 10 ≤ _)⟩)
  dsimp only [Pt.U, Pt.locs, Pt.cells, Pt.slots] at X12 l12 y12 z12 st12 hQ12
  subst l12 y12 z12
  obtain ⟨b12, kb12, rfl, Nq12, K12, g_b12, sz_b12, Ex12, Fm12, Fe12, Fs12, V12, O12⟩ := hQ12
  have Nf12 := Fr.app N2 Nq12
  have Zp14 : n0 ≤ T12.heap.size := Nat.le_trans Zp3 K12.1
  obtain ⟨fs, hr, hrun, hended, hW, hsame⟩ := X12.leave (v := some (.int (1 : Int32))) (fun h => by rw [Bd.returns] at h; cases h)
  refine ⟨_, _, pre0 _ ?_, hrun, hended, _, _, rfl, ?_, ⟨_, rfl⟩, hW, hsame.mono (by decide) (by decide)⟩
  · show Steps p.tables e below (s₁.setTop (mkF m 0 #[.val (.ref va), .val (.ref vx)] [])) _
    refine XS.aloadN X0.here hx rfl (hb hby d9_0) rfl rfl ?_
    show Steps p.tables e below (s₁.setTop (mkF m 1 #[.val (.ref va), .val (.ref vx)] [(.ref va)])) _
    refine XS.dup X0.here hx rfl (hb hby d9_1) rfl rfl ?_
    show Steps p.tables e below (s₁.setTop (mkF m 2 #[.val (.ref va), .val (.ref vx)] [(.ref va), (.ref va)])) _
    refine st1 _ ?_
    show Steps p.tables e below (T1.setTop (mkF m 5 #[.val (.ref va), .val (.ref vx)] [(.int vm), (.ref va)])) _
    refine XS.iconst X1.here hx rfl (hb hby d9_5) ?_
    show Steps p.tables e below (T1.setTop (mkF m 6 #[.val (.ref va), .val (.ref vx)] [(.int (1 : Int32)), (.int vm), (.ref va)])) _
    refine XS.iadd X1.here hx rfl (hb hby d9_6) rfl ?_
    show Steps p.tables e below (T1.setTop (mkF m 7 #[.val (.ref va), .val (.ref vx)] [(.int (vm + (1 : Int32))), (.ref va)])) _
    refine st2 _ ?_
    show Steps p.tables e below (T2.setTop (mkF m 10 #[.val (.ref va), .val (.ref vx)] [])) _
    refine XS.aloadN X2.here hx rfl (hb hby d9_10) rfl rfl ?_
    show Steps p.tables e below (T2.setTop (mkF m 11 #[.val (.ref va), .val (.ref vx)] [(.ref va)])) _
    refine XS.aloadN X2.here hx rfl (hb hby d9_11) rfl rfl ?_
    show Steps p.tables e below (T2.setTop (mkF m 12 #[.val (.ref va), .val (.ref vx)] [(.ref vx), (.ref va)])) _
    refine XS.aloadN X2.here hx rfl (hb hby d9_12) rfl rfl ?_
    show Steps p.tables e below (T2.setTop (mkF m 13 #[.val (.ref va), .val (.ref vx)] [(.ref va), (.ref vx), (.ref va)])) _
    refine st5 _ ?_
    show Steps p.tables e below (T5.setTop (mkF m 16 #[.val (.ref va), .val (.ref vx)] [(.ref ade), (.ref vx), (.ref va)])) _
    refine XS.aloadN X5.here hx rfl (hb hby d9_16) rfl rfl ?_
    show Steps p.tables e below (T5.setTop (mkF m 17 #[.val (.ref va), .val (.ref vx)] [(.ref va), (.ref ade), (.ref vx), (.ref va)])) _
    refine st7 _ ?_
    show Steps p.tables e below (T7.setTop (mkF m 20 #[.val (.ref va), .val (.ref vx)] [(.int (0 : Int32)), (.ref ade), (.ref vx), (.ref va)])) _
    refine st12.trans ?_
    show Steps p.tables e below (T12.setTop (mkF m 23 #[.val (.ref va), .val (.ref vx)] [])) _
    refine XS.iconst X12.here hx rfl (hb hby d9_23) ?_
    show Steps p.tables e below (T12.setTop (mkF m 24 #[.val (.ref va), .val (.ref vx)] [(.int (1 : Int32))])) _
    exact retN X12 hx (t := .boolean) Bd.returns (by simp) (hb hby d9_24) hr
  · show Q_a10 Z va vx vm ade kde h0 n0 _ T12.heap _
    have Kc15 := (Keep.refl h0 [va]).wr W2 (Or.inl (List.mem_of_getElem? (i := 0) rfl))
    have Kc16 := Kc15.trans K12 (allS (Or.inl (List.mem_of_getElem? (i := 0) rfl)) all0)
    exact ⟨b12, kb12, rfl, Nf12, Kc16, g_b12, (Nat.le_trans (Nat.le_trans (Nat.le_refl h0.size) (Nat.le_of_eq (Wr.size W2).symm)) sz_b12), Ex12, Fm12, Fe12, Fs12, V12, O12⟩
theorem pn_rm_a31 : plainName "java/util/ArrayList" = true := by first | (simp [plainName, overriddenIn]; done) | decide +kernel
theorem ef_rm_a31 (m : MethodId) (va : Addr) (vx : Addr) (vb : Addr) (vz : Int32) : entryFrame m #[(.ref va), (.ref vx), (.ref vb), (.int vz)] 4 = mkF m 0 #[.val (.ref va), .val (.ref vx), .val (.ref vb), .val (.int vz)] [] := by first | (simp [entryFrame, mkF, argsToLocals, Value.category]; done) | rfl
def Q_a31 (Z : State) (va : Addr) (vx : Addr) (vb : Addr) (vz : Int32) (vm : Int32) (kb : ClassId) (vy : Addr) (h0 : Heap) (n0 : Nat) (v : Option Value) (h : Heap) (L : List Loc) : Prop := v = none ∧ Fr n0 L ∧ Keep h0 h [va, vb] ∧ Exa Z h va "java/util/ArrayList"
set_option maxRecDepth 65536 in
set_option maxHeartbeats 40000000 in
theorem rm_a31 (l : Launch) (Z : State) (a0 : Array Value) (hw : ∀ d ∈ tables_1, d.before a0 Z = true) (ws : List Jvm.Cond) (va : Addr) (vx : Addr) (vb : Addr) (vz : Int32) (vm : Int32) (kb : ClassId) (vy : Addr) (h0 : Heap) (n0 : Nat) (Z0 : n0 ≤ h0.size) (E_a : Exa Z h0 va "java/util/ArrayList") (g_va : n0 ≤ va) (F_m : Fld Z h0 va "java/util/AbstractList" "modCount" "I" (.int vm)) (F_e : Fld Z h0 va "java/util/ArrayList" "elementData" "[Ljava/lang/Object;" (.ref vb)) (F_s : Fld Z h0 va "java/util/ArrayList" "size" "I" (.int (1 : Int32))) (V_b : Arv Z h0 vb kb (.object "java/lang/Object") (10 : Int32) [(.ref vy), .null, .null, .null, .null, .null, .null, .null, .null, .null] .null) (O_b : Ovr Z kb "java/lang/Object") (g_vb : n0 ≤ vb) (nab : va ≠ vb) (E_x : Exa Z h0 vx "java/lang/String") (hz : vz = (1 : Int32)) :
    MetFree l (⟨"java/util/ArrayList", "add", "(Ljava/lang/Object;[Ljava/lang/Object;I)V"⟩ : MethodName) (head1 (Jvm.Cond.code (⟨"java/util/ArrayList", "add", "(Ljava/lang/Object;[Ljava/lang/Object;I)V"⟩ : MethodName) jdk_38_method_24_code 4 none :: ws) ({ frames := 0, cells := 0, slots := 0, locals := 0 } : Room)) (fun a U => a = #[(.ref va), (.ref vx), (.ref vb), (.int vz)] ∧ Z.Warmed39 U.vm ∧ U.heap = h0) (fun _ _ _ _ _ => True) (fun _ U o U' => ∃ v L, o = .returned v ∧ Q_a31 Z va vx vb vz vm kb vy h0 n0 v U'.heap L ∧ FrameEnd U o U' L ({ frames := 0, cells := 0, slots := 0, locals := 0 } : Room).cells ({ frames := 0, cells := 0, slots := 0, locals := 0 } : Room).slots) := by
  subst hz
  refine MetFree.of_bodySF (plainFor_of_name pn_rm_a31) hisR ?_
  intro p e s m args below meth c s₁ Bd hml0 hP hK
  obtain ⟨rfl, hZ, hh⟩ := hP
  have hx := Bd.exec
  have hby := Bd.bytes
  have hml : c.maxLocals = 4 := hml0
  have hown : s.vm.findClass "java/util/ArrayList" = some m.cls := findClass_of_methodNamed Bd.named
  have hnm := (name_of_methodNamed Bd.named Bd.method).1
  have X0 : Stand p l e ({ frames := 0, cells := 0, slots := 0, locals := 0 } : Room) s m #[(.ref va), (.ref vx), (.ref vb), (.int (1 : Int32))] below meth c s₁ [] 0 0 := Stand.of_body Bd
  have e0 : s₁.heap = h0 := by rw [← hh, Bd.state]; rfl
  have N0 := Fr.nil n0
  have pre0 : ∀ t, Steps p.tables e below (s₁.setTop (mkF m 0 #[.val (.ref va), .val (.ref vx), .val (.ref vb), .val (.int (1 : Int32))] [])) t → Steps p.tables e below (s₁.setTop (entryFrame m #[(.ref va), (.ref vx), (.ref vb), (.int (1 : Int32))] 4)) t := fun t k => castTop (ef_rm_a31 m va vx vb (1 : Int32)) k
  obtain ⟨cl1, Ar1, -, S1, M1, -, -⟩ := id V_b
  obtain ⟨cl2, Ar2, q2, S2, M2, H2, G2⟩ := id V_b
  have hin2 : ¬ ((1 : Int32) < 0 ∨ cl2.slots.size ≤ ((1 : Int32)).toNatClampNeg) := inb_of S2 ⟨by decide, by decide⟩
  obtain ⟨T3, h3, X3, e3, W3, st3⟩ := stR X0 hx hZ e0 Ar2 (j := (1 : Int32)) hin2 rfl (Sto.ofV Ar2 q2 O_b (Ins.of_exa E_x (hw _ (List.mem_of_getElem? (i := 84) rfl)))) (g := (mkF m 14 #[.val (.ref va), .val (.ref vx), .val (.ref vb), .val (.int (1 : Int32))] [(.ref vx), (.int (1 : Int32)), (.ref vb)])) rfl rfl (hb hby d10_14)
  have N3 := Fr.snoc X3 N0 g_vb
  have V3 : Arv Z h3 vb kb (.object "java/lang/Object") (10 : Int32) [(.ref vy), (.ref vx), .null, .null, .null, .null, .null, .null, .null, .null] .null := Arv.set Ar2 q2 S2 M2 H2 G2 rfl W3 1 rfl (Nat.le_of_ble_eq_true rfl)
  have Zp4 : n0 ≤ h3.size := Nat.le_trans Z0 (Nat.le_of_eq (Wr.size W3).symm)
  have Fc5 := (Fld.other W3 F_s (Or.inl nab))
  have Fc6 := (Exa.wr W3 E_a)
  obtain ⟨T7, h7, X7, e7, W7, st7⟩ := putF X3 hx hZ hown (host := "") (Or.inl (hw _ (List.mem_of_getElem? (i := 61) rfl))) Via.refl e3 Fc5 Fc6 (Or.inl (hw _ (List.mem_of_getElem? (i := 62) rfl))) (hw _ (List.mem_of_getElem? (i := 1) rfl)) (ty := .int) (by decide) rfl rfl (g := (mkF m 19 #[.val (.ref va), .val (.ref vx), .val (.ref vb), .val (.int (1 : Int32))] [(.int (2 : Int32)), (.ref va)])) rfl rfl (hb hby d10_19)
  have N7 := Fr.snoc X7 N3 g_va
  have Fw7 := Fld.same W7 Fc5
  have Zp8 : n0 ≤ h7.size := Nat.le_trans Zp4 (Nat.le_of_eq (Wr.size W7).symm)
  obtain ⟨fs, hr, hrun, hended, hW, hsame⟩ := X7.leave (v := none) (fun _ => rfl)
  refine ⟨_, _, pre0 _ ?_, hrun, hended, _, _, rfl, ?_, ⟨_, rfl⟩, hW, hsame.mono (by decide) (by decide)⟩
  · show Steps p.tables e below (s₁.setTop (mkF m 0 #[.val (.ref va), .val (.ref vx), .val (.ref vb), .val (.int (1 : Int32))] [])) _
    refine XS.iloadN X0.here hx rfl (hb hby d10_0) rfl ?_
    show Steps p.tables e below (s₁.setTop (mkF m 1 #[.val (.ref va), .val (.ref vx), .val (.ref vb), .val (.int (1 : Int32))] [(.int (1 : Int32))])) _
    refine XS.aloadN X0.here hx rfl (hb hby d10_1) rfl rfl ?_
    show Steps p.tables e below (s₁.setTop (mkF m 2 #[.val (.ref va), .val (.ref vx), .val (.ref vb), .val (.int (1 : Int32))] [(.ref vb), (.int (1 : Int32))])) _
    refine X0.arraylength hx (by rw [e0]; exact Ar1.1) (State.isArrayOf_alike hZ.alike Ar1.2.1) (g := (mkF m 2 #[.val (.ref va), .val (.ref vx), .val (.ref vb), .val (.int (1 : Int32))] [(.ref vb), (.int (1 : Int32))])) rfl rfl (hb hby d10_2) _ ?_
    rw [len_of S1 M1]
    show Steps p.tables e below (s₁.setTop (mkF m 3 #[.val (.ref va), .val (.ref vx), .val (.ref vb), .val (.int (1 : Int32))] [(.int (10 : Int32)), (.int (1 : Int32))])) _
    refine XS.icmpYes X0.here hx rfl (pc0 := 3) (pc' := 11) rfl (hb hby d10_3) rfl (by decide) (by decide) (by decide) ?_
    show Steps p.tables e below (s₁.setTop (mkF m 11 #[.val (.ref va), .val (.ref vx), .val (.ref vb), .val (.int (1 : Int32))] [])) _
    refine XS.aloadN X0.here hx rfl (hb hby d10_11) rfl rfl ?_
    show Steps p.tables e below (s₁.setTop (mkF m 12 #[.val (.ref va), .val (.ref vx), .val (.ref vb), .val (.int (1 : Int32))] [(.ref vb)])) _
    refine XS.iloadN X0.here hx rfl (hb hby d10_12) rfl ?_
    show Steps p.tables e below (s₁.setTop (mkF m 13 #[.val (.ref va), .val (.ref vx), .val (.ref vb), .val (.int (1 : Int32))] [(.int (1 : Int32)), (.ref vb)])) _
    refine XS.aloadN X0.here hx rfl (hb hby d10_13) rfl rfl ?_
    show Steps p.tables e below (s₁.setTop (mkF m 14 #[.val (.ref va), .val (.ref vx), .val (.ref vb), .val (.int (1 : Int32))] [(.ref vx), (.int (1 : Int32)), (.ref vb)])) _
    refine st3 _ ?_
    show Steps p.tables e below (T3.setTop (mkF m 15 #[.val (.ref va), .val (.ref vx), .val (.ref vb), .val (.int (1 : Int32))] [])) _
    refine XS.aloadN X3.here hx rfl (hb hby d10_15) rfl rfl ?_
    show Steps p.tables e below (T3.setTop (mkF m 16 #[.val (.ref va), .val (.ref vx), .val (.ref vb), .val (.int (1 : Int32))] [(.ref va)])) _
    refine XS.iloadN X3.here hx rfl (hb hby d10_16) rfl ?_
    show Steps p.tables e below (T3.setTop (mkF m 17 #[.val (.ref va), .val (.ref vx), .val (.ref vb), .val (.int (1 : Int32))] [(.int (1 : Int32)), (.ref va)])) _
    refine XS.iconst X3.here hx rfl (hb hby d10_17) ?_
    show Steps p.tables e below (T3.setTop (mkF m 18 #[.val (.ref va), .val (.ref vx), .val (.ref vb), .val (.int (1 : Int32))] [(.int (1 : Int32)), (.int (1 : Int32)), (.ref va)])) _
    refine XS.iadd X3.here hx rfl (hb hby d10_18) rfl ?_
    show Steps p.tables e below (T3.setTop (mkF m 19 #[.val (.ref va), .val (.ref vx), .val (.ref vb), .val (.int (1 : Int32))] [(.int (2 : Int32)), (.ref va)])) _
    refine st7 _ ?_
    show Steps p.tables e below (T7.setTop (mkF m 22 #[.val (.ref va), .val (.ref vx), .val (.ref vb), .val (.int (1 : Int32))] [])) _
    exact X7.returnOut hx Bd.returns (hb hby d10_22) hr
  · show Q_a31 Z va vx vb (1 : Int32) vm kb vy h0 n0 _ T7.heap _
    rw [e7]
    have Kc9 := (Keep.refl h0 [va, vb]).wr W3 (Or.inl (List.mem_of_getElem? (i := 1) rfl))
    have Kc10 := Kc9.wr W7 (Or.inl (List.mem_of_getElem? (i := 0) rfl))
    have Fc11 := (Exa.wr W7 Fc6)
    exact ⟨rfl, N7, Kc10, Fc11⟩
theorem pn_rm_a11 : plainName "java/util/ArrayList" = true := by first | (simp [plainName, overriddenIn]; done) | decide +kernel
theorem ef_rm_a11 (m : MethodId) (va : Addr) (vx : Addr) : entryFrame m #[(.ref va), (.ref vx)] 2 = mkF m 0 #[.val (.ref va), .val (.ref vx)] [] := by first | (simp [entryFrame, mkF, argsToLocals, Value.category]; done) | rfl
def Q_a11 (Z : State) (va : Addr) (vx : Addr) (vm : Int32) (vb : Addr) (kb : ClassId) (vy : Addr) (h0 : Heap) (n0 : Nat) (v : Option Value) (h : Heap) (L : List Loc) : Prop := v = some (.int 1) ∧ Fr n0 L ∧ Keep h0 h [va, vb] ∧ Exa Z h va "java/util/ArrayList"
set_option maxRecDepth 65536 in
set_option maxHeartbeats 40000000 in
theorem rm_a11 (l : Launch) (Z : State) (a0 : Array Value) (hw : ∀ d ∈ tables_1, d.before a0 Z = true) (ws : List Jvm.Cond) (va : Addr) (vx : Addr) (vm : Int32) (vb : Addr) (kb : ClassId) (vy : Addr) (h0 : Heap) (n0 : Nat) (Z0 : n0 ≤ h0.size) (E_a : Exa Z h0 va "java/util/ArrayList") (g_va : n0 ≤ va) (F_m : Fld Z h0 va "java/util/AbstractList" "modCount" "I" (.int vm)) (F_e : Fld Z h0 va "java/util/ArrayList" "elementData" "[Ljava/lang/Object;" (.ref vb)) (F_s : Fld Z h0 va "java/util/ArrayList" "size" "I" (.int (1 : Int32))) (V_b : Arv Z h0 vb kb (.object "java/lang/Object") (10 : Int32) [(.ref vy), .null, .null, .null, .null, .null, .null, .null, .null, .null] .null) (O_b : Ovr Z kb "java/lang/Object") (g_vb : n0 ≤ vb) (nab : va ≠ vb) (E_x : Exa Z h0 vx "java/lang/String") :
    MetFree l (⟨"java/util/ArrayList", "add", "(Ljava/lang/Object;)Z"⟩ : MethodName) (head1 (Jvm.Cond.code (⟨"java/util/ArrayList", "add", "(Ljava/lang/Object;)Z"⟩ : MethodName) jdk_38_method_25_code 2 (some .boolean) :: ws) ({ frames := 1, cells := 0, slots := 0, locals := 15 } : Room)) (fun a U => a = #[(.ref va), (.ref vx)] ∧ Z.Warmed39 U.vm ∧ U.heap = h0) (fun _ _ _ _ _ => True) (fun _ U o U' => ∃ v L, o = .returned v ∧ Q_a11 Z va vx vm vb kb vy h0 n0 v U'.heap L ∧ FrameEnd U o U' L ({ frames := 1, cells := 0, slots := 0, locals := 15 } : Room).cells ({ frames := 1, cells := 0, slots := 0, locals := 15 } : Room).slots) := by
  refine MetFree.of_bodySF (plainFor_of_name pn_rm_a11) hisR ?_
  intro p e s m args below meth c s₁ Bd hml0 hP hK
  obtain ⟨rfl, hZ, hh⟩ := hP
  have hx := Bd.exec
  have hby := Bd.bytes
  have hml : c.maxLocals = 2 := hml0
  have hown : s.vm.findClass "java/util/ArrayList" = some m.cls := findClass_of_methodNamed Bd.named
  have hnm := (name_of_methodNamed Bd.named Bd.method).1
  have X0 : Stand p l e ({ frames := 1, cells := 0, slots := 0, locals := 15 } : Room) s m #[(.ref va), (.ref vx)] below meth c s₁ [] 0 0 := Stand.of_body Bd
  have e0 : s₁.heap = h0 := by rw [← hh, Bd.state]; rfl
  have N0 := Fr.nil n0
  have pre0 : ∀ t, Steps p.tables e below (s₁.setTop (mkF m 0 #[.val (.ref va), .val (.ref vx)] [])) t → Steps p.tables e below (s₁.setTop (entryFrame m #[(.ref va), (.ref vx)] 2)) t := fun t k => castTop (ef_rm_a11 m va vx) k
  obtain ⟨T1, X1, e1, st1⟩ := getF X0 hx hZ hown (host := "") (Or.inl (hw _ (List.mem_of_getElem? (i := 59) rfl))) (Via.of (hw _ (List.mem_of_getElem? (i := 60) rfl))) e0 F_m (g := (mkF m 2 #[.val (.ref va), .val (.ref vx)] [(.ref va), (.ref va)])) rfl rfl (hb hby d9_2)
  obtain ⟨T2, h2, X2, e2, W2, st2⟩ := putF X1 hx hZ hown (host := "") (Or.inl (hw _ (List.mem_of_getElem? (i := 59) rfl))) (Via.of (hw _ (List.mem_of_getElem? (i := 60) rfl))) e1 F_m E_a (Or.inl (hw _ (List.mem_of_getElem? (i := 22) rfl))) (hw _ (List.mem_of_getElem? (i := 1) rfl)) (ty := .int) (by decide) rfl rfl (g := (mkF m 7 #[.val (.ref va), .val (.ref vx)] [(.int (vm + (1 : Int32))), (.ref va)])) rfl rfl (hb hby d9_7)
  have N2 := Fr.snoc X2 N0 g_va
  have Fw2 := Fld.same W2 F_m
  have Zp3 : n0 ≤ h2.size := Nat.le_trans Z0 (Nat.le_of_eq (Wr.size W2).symm)
  have Fc4 := (Fld.other W2 F_e (Or.inr (slot_ne (Or.inl (hw _ (List.mem_of_getElem? (i := 25) rfl))) (Or.inl (hw _ (List.mem_of_getElem? (i := 22) rfl))) (by decide) (t := (.array (.object "java/lang/Object"))) (t' := .int) (by decide) (by decide))))
  obtain ⟨T5, X5, e5, st5⟩ := getF X2 hx hZ hown (host := "") (Or.inl (hw _ (List.mem_of_getElem? (i := 24) rfl))) Via.refl e2 Fc4 (g := (mkF m 13 #[.val (.ref va), .val (.ref vx)] [(.ref va), (.ref vx), (.ref va)])) rfl rfl (hb hby d9_13)
  have Fc6 := (Fld.other W2 F_s (Or.inr (slot_ne (Or.inl (hw _ (List.mem_of_getElem? (i := 62) rfl))) (Or.inl (hw _ (List.mem_of_getElem? (i := 22) rfl))) (by decide) (t := .int) (t' := .int) (by decide) (by decide))))
  obtain ⟨T7, X7, e7, st7⟩ := getF X5 hx hZ hown (host := "") (Or.inl (hw _ (List.mem_of_getElem? (i := 61) rfl))) Via.refl e5 Fc6 (g := (mkF m 17 #[.val (.ref va), .val (.ref vx)] [(.ref va), (.ref vb), (.ref vx), (.ref va)])) rfl rfl (hb hby d9_17)
  have Fc8 := (Exa.wr W2 E_a)
  have Fc9 := (V_b.other W2 (Ne.symm nab))
  have Fc10 := (Exa.wr W2 E_x)
  obtain ⟨cq12, q12, q12'⟩ := (Fc8).cell
  obtain ⟨_, _, ⟨T11, L11, k11, n11⟩, -, X11, ⟨Lc11, hQ11, l11, y11, z11⟩, st11⟩ := X7.privateBack hx (y := (⟨"java/util/ArrayList", "add", "(Ljava/lang/Object;[Ljava/lang/Object;I)V"⟩ : MethodName)) hown (mvT hZ (hw _ (List.mem_of_getElem? (i := 63) rfl))) (mvT hZ (hw _ (List.mem_of_getElem? (i := 64) rfl))) (mvT hZ (hw _ (List.mem_of_getElem? (i := 66) rfl))) (Cond.privateMethod_at (mvP hZ (hw _ (List.mem_of_getElem? (i := 65) rfl)) (args := #[]))) (mvT hZ (hw _ (List.mem_of_getElem? (i := 67) rfl))) (by decide) (backOf (W := 0) (rm_a31 l Z a0 hw [] va vx vb (1 : Int32) (vm + (1 : Int32)) kb vy h2 n0 Zp3 Fc8 g_va Fw2 Fc4 Fc6 Fc9 O_b g_vb nab Fc10 rfl) hZ (hw _ (List.mem_of_getElem? (i := 67) rfl)) (hw _ (List.mem_of_getElem? (i := 2) rfl)) (by decide) (by decide)) (g := (mkF m 20 #[.val (.ref va), .val (.ref vx)] [(.int (1 : Int32)), (.ref vb), (.ref vx), (.ref va)])) rfl (by rw [hml]; rfl) (Steps.refl _) (a := va) (by rw [e7]; exact q12) q12' (argsL := [(.ref vx), (.ref vb), (.int (1 : Int32))]) (rest := []) (lenOf own_pd7 rfl) rfl (by show 2 * 0 + _ ≤ _; exact Nat.le_of_eq rfl) (hb hby d9_20) (fun _ _ => ⟨rfl, e7, (by decide : 0 + 0 ≤ _), (by decide : 0 + 0 ≤ _)⟩)
  dsimp only [Pt.U, Pt.locs, Pt.cells, Pt.slots] at X11 l11 y11 z11 st11 hQ11
  subst l11 y11 z11
  obtain ⟨rfl, Nq11, K11, Ex11⟩ := hQ11
  have Nf11 := Fr.app N2 Nq11
  have Zp13 : n0 ≤ T11.heap.size := Nat.le_trans Zp3 K11.1
  obtain ⟨fs, hr, hrun, hended, hW, hsame⟩ := X11.leave (v := some (.int (1 : Int32))) (fun h => by rw [Bd.returns] at h; cases h)
  refine ⟨_, _, pre0 _ ?_, hrun, hended, _, _, rfl, ?_, ⟨_, rfl⟩, hW, hsame.mono (by decide) (by decide)⟩
  · show Steps p.tables e below (s₁.setTop (mkF m 0 #[.val (.ref va), .val (.ref vx)] [])) _
    refine XS.aloadN X0.here hx rfl (hb hby d9_0) rfl rfl ?_
    show Steps p.tables e below (s₁.setTop (mkF m 1 #[.val (.ref va), .val (.ref vx)] [(.ref va)])) _
    refine XS.dup X0.here hx rfl (hb hby d9_1) rfl rfl ?_
    show Steps p.tables e below (s₁.setTop (mkF m 2 #[.val (.ref va), .val (.ref vx)] [(.ref va), (.ref va)])) _
    refine st1 _ ?_
    show Steps p.tables e below (T1.setTop (mkF m 5 #[.val (.ref va), .val (.ref vx)] [(.int vm), (.ref va)])) _
    refine XS.iconst X1.here hx rfl (hb hby d9_5) ?_
    show Steps p.tables e below (T1.setTop (mkF m 6 #[.val (.ref va), .val (.ref vx)] [(.int (1 : Int32)), (.int vm), (.ref va)])) _
    refine XS.iadd X1.here hx rfl (hb hby d9_6) rfl ?_
    show Steps p.tables e below (T1.setTop (mkF m 7 #[.val (.ref va), .val (.ref vx)] [(.int (vm + (1 : Int32))), (.ref va)])) _
    refine st2 _ ?_
    show Steps p.tables e below (T2.setTop (mkF m 10 #[.val (.ref va), .val (.ref vx)] [])) _
    refine XS.aloadN X2.here hx rfl (hb hby d9_10) rfl rfl ?_
    show Steps p.tables e below (T2.setTop (mkF m 11 #[.val (.ref va), .val (.ref vx)] [(.ref va)])) _
    refine XS.aloadN X2.here hx rfl (hb hby d9_11) rfl rfl ?_
    show Steps p.tables e below (T2.setTop (mkF m 12 #[.val (.ref va), .val (.ref vx)] [(.ref vx), (.ref va)])) _
    refine XS.aloadN X2.here hx rfl (hb hby d9_12) rfl rfl ?_
    show Steps p.tables e below (T2.setTop (mkF m 13 #[.val (.ref va), .val (.ref vx)] [(.ref va), (.ref vx), (.ref va)])) _
    refine st5 _ ?_
    show Steps p.tables e below (T5.setTop (mkF m 16 #[.val (.ref va), .val (.ref vx)] [(.ref vb), (.ref vx), (.ref va)])) _
    refine XS.aloadN X5.here hx rfl (hb hby d9_16) rfl rfl ?_
    show Steps p.tables e below (T5.setTop (mkF m 17 #[.val (.ref va), .val (.ref vx)] [(.ref va), (.ref vb), (.ref vx), (.ref va)])) _
    refine st7 _ ?_
    show Steps p.tables e below (T7.setTop (mkF m 20 #[.val (.ref va), .val (.ref vx)] [(.int (1 : Int32)), (.ref vb), (.ref vx), (.ref va)])) _
    refine st11.trans ?_
    show Steps p.tables e below (T11.setTop (mkF m 23 #[.val (.ref va), .val (.ref vx)] [])) _
    refine XS.iconst X11.here hx rfl (hb hby d9_23) ?_
    show Steps p.tables e below (T11.setTop (mkF m 24 #[.val (.ref va), .val (.ref vx)] [(.int (1 : Int32))])) _
    exact retN X11 hx (t := .boolean) Bd.returns (by simp) (hb hby d9_24) hr
  · show Q_a11 Z va vx vm vb kb vy h0 n0 _ T11.heap _
    have Kc14 := (Keep.refl h0 [va, vb]).wr W2 (Or.inl (List.mem_of_getElem? (i := 0) rfl))
    have Kc15 := Kc14.trans K11 (allS (Or.inl (List.mem_of_getElem? (i := 0) rfl)) (allS (Or.inl (List.mem_of_getElem? (i := 1) rfl)) all0))
    exact ⟨rfl, Nf11, Kc15, Ex11⟩
theorem d15_0 : decode jdk_30_method_1_code 0 = .ok (.aload_n 0, 1) := by decide +kernel
theorem d15_1 : decode jdk_30_method_1_code 1 = .ok (.invokespecial 1, 3) := by decide +kernel
theorem d15_4 : decode jdk_30_method_1_code 4 = .ok (.return_, 1) := by decide +kernel
theorem pn_rm_rec : plainName "java/lang/Record" = true := by first | (simp [plainName, overriddenIn]; done) | decide +kernel
theorem ef_rm_rec (m : MethodId) (va : Addr) : entryFrame m #[(.ref va)] 1 = mkF m 0 #[.val (.ref va)] [] := by first | (simp [entryFrame, mkF, argsToLocals, Value.category]; done) | rfl
def Q_rec (Z : State) (va : Addr) (h0 : Heap) (n0 : Nat) (v : Option Value) (h : Heap) (L : List Loc) : Prop := v = none ∧ Fr n0 L ∧ h = h0
set_option maxRecDepth 65536 in
set_option maxHeartbeats 40000000 in
theorem rm_rec (l : Launch) (Z : State) (a0 : Array Value) (hw : ∀ d ∈ tables_1, d.before a0 Z = true) (ws : List Jvm.Cond) (va : Addr) (h0 : Heap) (n0 : Nat) (Z0 : n0 ≤ h0.size) :
    MetFree l (⟨"java/lang/Record", "<init>", "()V"⟩ : MethodName) (head1 (Jvm.Cond.code (⟨"java/lang/Record", "<init>", "()V"⟩ : MethodName) jdk_30_method_1_code 1 none :: ws) ({ frames := 1, cells := 0, slots := 0, locals := 12 } : Room)) (fun a U => a = #[(.ref va)] ∧ Z.Warmed39 U.vm ∧ U.heap = h0) (fun _ _ _ _ _ => True) (fun _ U o U' => ∃ v L, o = .returned v ∧ Q_rec Z va h0 n0 v U'.heap L ∧ FrameEnd U o U' L ({ frames := 1, cells := 0, slots := 0, locals := 12 } : Room).cells ({ frames := 1, cells := 0, slots := 0, locals := 12 } : Room).slots) := by
  refine MetFree.of_bodySF (plainFor_of_name pn_rm_rec) hisR ?_
  intro p e s m args below meth c s₁ Bd hml0 hP hK
  obtain ⟨rfl, hZ, hh⟩ := hP
  have hx := Bd.exec
  have hby := Bd.bytes
  have hml : c.maxLocals = 1 := hml0
  have hown : s.vm.findClass "java/lang/Record" = some m.cls := findClass_of_methodNamed Bd.named
  have hnm := (name_of_methodNamed Bd.named Bd.method).1
  have X0 : Stand p l e ({ frames := 1, cells := 0, slots := 0, locals := 12 } : Room) s m #[(.ref va)] below meth c s₁ [] 0 0 := Stand.of_body Bd
  have e0 : s₁.heap = h0 := by rw [← hh, Bd.state]; rfl
  have N0 := Fr.nil n0
  have pre0 : ∀ t, Steps p.tables e below (s₁.setTop (mkF m 0 #[.val (.ref va)] [])) t → Steps p.tables e below (s₁.setTop (entryFrame m #[(.ref va)] 1)) t := fun t k => castTop (ef_rm_rec m va) k
  obtain ⟨T1, X1, e1, st1⟩ := initO X0 hx hZ hown (hw _ (List.mem_of_getElem? (i := 96) rfl)) (hw _ (List.mem_of_getElem? (i := 19) rfl)) (hw _ (List.mem_of_getElem? (i := 20) rfl)) e0 (g := (mkF m 1 #[.val (.ref va)] [(.ref va)])) rfl (by rw [hml]; rfl) rfl (hb hby d15_1) (by decide) (W := 0) (by show 2 * 0 + _ ≤ _; exact Nat.le_of_eq rfl) (by decide)
  obtain ⟨fs, hr, hrun, hended, hW, hsame⟩ := X1.leave (v := none) (fun _ => rfl)
  refine ⟨_, _, pre0 _ ?_, hrun, hended, _, _, rfl, ?_, ⟨_, rfl⟩, hW, hsame.mono (by decide) (by decide)⟩
  · show Steps p.tables e below (s₁.setTop (mkF m 0 #[.val (.ref va)] [])) _
    refine XS.aloadN X0.here hx rfl (hb hby d15_0) rfl rfl ?_
    show Steps p.tables e below (s₁.setTop (mkF m 1 #[.val (.ref va)] [(.ref va)])) _
    refine st1 _ ?_
    show Steps p.tables e below (T1.setTop (mkF m 4 #[.val (.ref va)] [])) _
    exact X1.returnOut hx Bd.returns (hb hby d15_4) hr
  · show Q_rec Z va h0 n0 _ T1.heap _
    rw [e1]
    exact ⟨rfl, N0, rfl⟩
theorem d14_0 : decode prog_44_method_1_code 0 = .ok (.aload_n 0, 1) := by decide +kernel
theorem d14_1 : decode prog_44_method_1_code 1 = .ok (.invokespecial 1, 3) := by decide +kernel
theorem d14_4 : decode prog_44_method_1_code 4 = .ok (.aload_n 0, 1) := by decide +kernel
theorem d14_5 : decode prog_44_method_1_code 5 = .ok (.lload_n 1, 1) := by decide +kernel
theorem d14_6 : decode prog_44_method_1_code 6 = .ok (.putfield 7, 3) := by decide +kernel
theorem d14_9 : decode prog_44_method_1_code 9 = .ok (.aload_n 0, 1) := by decide +kernel
theorem d14_10 : decode prog_44_method_1_code 10 = .ok (.aload_n 3, 1) := by decide +kernel
theorem d14_11 : decode prog_44_method_1_code 11 = .ok (.putfield 13, 3) := by decide +kernel
theorem d14_14 : decode prog_44_method_1_code 14 = .ok (.return_, 1) := by decide +kernel
theorem pn_rm_rep : plainName "com/example/adhoc/adhoc/submission/Validator$Report" = true := by first | (simp [plainName, overriddenIn]; done) | decide +kernel
theorem ef_rm_rep (m : MethodId) (va : Addr) (vf : Int64) (vl : Addr) : entryFrame m #[(.ref va), (.long vf), (.ref vl)] 4 = mkF m 0 #[.val (.ref va), .val (.long vf), .second, .val (.ref vl)] [] := by first | (simp [entryFrame, mkF, argsToLocals, Value.category]; done) | rfl
def Q_rep (Z : State) (va : Addr) (vf : Int64) (vl : Addr) (h0 : Heap) (n0 : Nat) (v : Option Value) (h : Heap) (L : List Loc) : Prop := v = none ∧ Fr n0 L ∧ Keep h0 h [va] ∧ Exa Z h va "com/example/adhoc/adhoc/submission/Validator$Report" ∧ Fld Z h va "com/example/adhoc/adhoc/submission/Validator$Report" "faults" "J" (.long vf) ∧ Fld Z h va "com/example/adhoc/adhoc/submission/Validator$Report" "warnings" "Ljava/util/List;" (.ref vl)
set_option maxRecDepth 65536 in
set_option maxHeartbeats 40000000 in
theorem rm_rep (l : Launch) (Z : State) (a0 : Array Value) (hw : ∀ d ∈ tables_1, d.before a0 Z = true) (ws : List Jvm.Cond) (va : Addr) (vf : Int64) (vl : Addr) (h0 : Heap) (n0 : Nat) (Z0 : n0 ≤ h0.size) (E_va : Exa Z h0 va "com/example/adhoc/adhoc/submission/Validator$Report") (g_va : n0 ≤ va) (F_faults : Fld Z h0 va "com/example/adhoc/adhoc/submission/Validator$Report" "faults" "J" (.long (0 : Int64))) (F_warnings : Fld Z h0 va "com/example/adhoc/adhoc/submission/Validator$Report" "warnings" "Ljava/util/List;" .null) :
    MetFree l (⟨"com/example/adhoc/adhoc/submission/Validator$Report", "<init>", "(JLjava/util/List;)V"⟩ : MethodName) (head1 (Jvm.Cond.code (⟨"com/example/adhoc/adhoc/submission/Validator$Report", "<init>", "(JLjava/util/List;)V"⟩ : MethodName) prog_44_method_1_code 4 none :: ws) ({ frames := 2, cells := 0, slots := 0, locals := 24 } : Room)) (fun a U => a = #[(.ref va), (.long vf), (.ref vl)] ∧ Z.Warmed39 U.vm ∧ U.heap = h0) (fun _ _ _ _ _ => True) (fun _ U o U' => ∃ v L, o = .returned v ∧ Q_rep Z va vf vl h0 n0 v U'.heap L ∧ FrameEnd U o U' L ({ frames := 2, cells := 0, slots := 0, locals := 24 } : Room).cells ({ frames := 2, cells := 0, slots := 0, locals := 24 } : Room).slots) := by
  refine MetFree.of_bodySF (plainFor_of_name pn_rm_rep) hisR ?_
  intro p e s m args below meth c s₁ Bd hml0 hP hK
  obtain ⟨rfl, hZ, hh⟩ := hP
  have hx := Bd.exec
  have hby := Bd.bytes
  have hml : c.maxLocals = 4 := hml0
  have hown : s.vm.findClass "com/example/adhoc/adhoc/submission/Validator$Report" = some m.cls := findClass_of_methodNamed Bd.named
  have hnm := (name_of_methodNamed Bd.named Bd.method).1
  have X0 : Stand p l e ({ frames := 2, cells := 0, slots := 0, locals := 24 } : Room) s m #[(.ref va), (.long vf), (.ref vl)] below meth c s₁ [] 0 0 := Stand.of_body Bd
  have e0 : s₁.heap = h0 := by rw [← hh, Bd.state]; rfl
  have N0 := Fr.nil n0
  have pre0 : ∀ t, Steps p.tables e below (s₁.setTop (mkF m 0 #[.val (.ref va), .val (.long vf), .second, .val (.ref vl)] [])) t → Steps p.tables e below (s₁.setTop (entryFrame m #[(.ref va), (.long vf), (.ref vl)] 4)) t := fun t k => castTop (ef_rm_rep m va vf vl) k
  obtain ⟨_, _, ⟨T1, L1, k1, n1⟩, -, X1, ⟨Lc1, hQ1, l1, y1, z1⟩, st1⟩ := X0.specialBack hx (y := (⟨"java/lang/Record", "<init>", "()V"⟩ : MethodName)) rfl hown (mvT hZ (hw _ (List.mem_of_getElem? (i := 91) rfl))) (mvT hZ (hw _ (List.mem_of_getElem? (i := 92) rfl))) (mvT hZ (hw _ (List.mem_of_getElem? (i := 95) rfl))) (by decide) (backOf (W := 0) (rm_rec l Z a0 hw [] va h0 n0 Z0 ) hZ (hw _ (List.mem_of_getElem? (i := 95) rfl)) (hw _ (List.mem_of_getElem? (i := 94) rfl)) (by decide) (by decide)) (g := (mkF m 1 #[.val (.ref va), .val (.long vf), .second, .val (.ref vl)] [(.ref va)])) rfl (by rw [hml]; rfl) (Steps.refl _) (a := va) (argsL := []) (rest := []) (lenOf own_pd3 rfl) rfl (by show 2 * 0 + _ ≤ _; exact Nat.le_of_eq rfl) (hb hby d14_1) (fun _ _ => ⟨rfl, e0, (by decide : 0 + 0 ≤ _), (by decide : 0 + 0 ≤ _)⟩)
  dsimp only [Pt.U, Pt.locs, Pt.cells, Pt.slots] at X1 l1 y1 z1 st1 hQ1
  subst l1 y1 z1
  obtain ⟨rfl, Nq1, hh1⟩ := hQ1
  have Nf1 := Fr.app N0 Nq1
  obtain ⟨T2, h2, X2, e2, W2, st2⟩ := putF X1 hx hZ hown (host := "") (Or.inl (hw _ (List.mem_of_getElem? (i := 97) rfl))) Via.refl hh1 F_faults E_va (Or.inr ⟨(hw _ (List.mem_of_getElem? (i := 98) rfl)), rfl, hnm⟩) (hw _ (List.mem_of_getElem? (i := 86) rfl)) (ty := .long) (by decide) rfl rfl (g := (mkF m 6 #[.val (.ref va), .val (.long vf), .second, .val (.ref vl)] [(.long vf), (.ref va)])) rfl rfl (hb hby d14_6)
  have N2 := Fr.snoc X2 Nf1 g_va
  have Fw2 := Fld.same W2 F_faults
  have Zp3 : n0 ≤ h2.size := Nat.le_trans Z0 (Nat.le_of_eq (Wr.size W2).symm)
  have Fc4 := (Fld.other W2 F_warnings (Or.inr (slot_ne (Or.inr (hw _ (List.mem_of_getElem? (i := 100) rfl))) (Or.inr (hw _ (List.mem_of_getElem? (i := 98) rfl))) (by decide) (t := (.object "java/util/List")) (t' := .long) (by decide) (by decide))))
  have Fc5 := (Exa.wr W2 E_va)
  obtain ⟨T6, h6, X6, e6, W6, st6⟩ := putF X2 hx hZ hown (host := "") (Or.inl (hw _ (List.mem_of_getElem? (i := 99) rfl))) Via.refl e2 Fc4 Fc5 (Or.inr ⟨(hw _ (List.mem_of_getElem? (i := 100) rfl)), rfl, hnm⟩) (hw _ (List.mem_of_getElem? (i := 86) rfl)) (ty := (.object "java/util/List")) (by decide) rfl rfl (g := (mkF m 11 #[.val (.ref va), .val (.long vf), .second, .val (.ref vl)] [(.ref vl), (.ref va)])) rfl rfl (hb hby d14_11)
  have N6 := Fr.snoc X6 N2 g_va
  have Fw6 := Fld.same W6 Fc4
  have Zp7 : n0 ≤ h6.size := Nat.le_trans Zp3 (Nat.le_of_eq (Wr.size W6).symm)
  obtain ⟨fs, hr, hrun, hended, hW, hsame⟩ := X6.leave (v := none) (fun _ => rfl)
  refine ⟨_, _, pre0 _ ?_, hrun, hended, _, _, rfl, ?_, ⟨_, rfl⟩, hW, hsame.mono (by decide) (by decide)⟩
  · show Steps p.tables e below (s₁.setTop (mkF m 0 #[.val (.ref va), .val (.long vf), .second, .val (.ref vl)] [])) _
    refine XS.aloadN X0.here hx rfl (hb hby d14_0) rfl rfl ?_
    show Steps p.tables e below (s₁.setTop (mkF m 1 #[.val (.ref va), .val (.long vf), .second, .val (.ref vl)] [(.ref va)])) _
    refine st1.trans ?_
    show Steps p.tables e below (T1.setTop (mkF m 4 #[.val (.ref va), .val (.long vf), .second, .val (.ref vl)] [])) _
    refine XS.aloadN X1.here hx rfl (hb hby d14_4) rfl rfl ?_
    show Steps p.tables e below (T1.setTop (mkF m 5 #[.val (.ref va), .val (.long vf), .second, .val (.ref vl)] [(.ref va)])) _
    refine XS.lloadN X1.here hx rfl (hb hby d14_5) rfl ?_
    show Steps p.tables e below (T1.setTop (mkF m 6 #[.val (.ref va), .val (.long vf), .second, .val (.ref vl)] [(.long vf), (.ref va)])) _
    refine st2 _ ?_
    show Steps p.tables e below (T2.setTop (mkF m 9 #[.val (.ref va), .val (.long vf), .second, .val (.ref vl)] [])) _
    refine XS.aloadN X2.here hx rfl (hb hby d14_9) rfl rfl ?_
    show Steps p.tables e below (T2.setTop (mkF m 10 #[.val (.ref va), .val (.long vf), .second, .val (.ref vl)] [(.ref va)])) _
    refine XS.aloadN X2.here hx rfl (hb hby d14_10) rfl rfl ?_
    show Steps p.tables e below (T2.setTop (mkF m 11 #[.val (.ref va), .val (.long vf), .second, .val (.ref vl)] [(.ref vl), (.ref va)])) _
    refine st6 _ ?_
    show Steps p.tables e below (T6.setTop (mkF m 14 #[.val (.ref va), .val (.long vf), .second, .val (.ref vl)] [])) _
    exact X6.returnOut hx Bd.returns (hb hby d14_14) hr
  · show Q_rep Z va vf vl h0 n0 _ T6.heap _
    rw [e6]
    have Kc8 := (Keep.refl h0 [va]).wr W2 (Or.inl (List.mem_of_getElem? (i := 0) rfl))
    have Kc9 := Kc8.wr W6 (Or.inl (List.mem_of_getElem? (i := 0) rfl))
    have Fc10 := (Exa.wr W6 Fc5)
    have Fc11 := (Fld.other W6 Fw2 (Or.inr (slot_ne (Or.inr (hw _ (List.mem_of_getElem? (i := 98) rfl))) (Or.inr (hw _ (List.mem_of_getElem? (i := 100) rfl))) (by decide) (t := .long) (t' := (.object "java/util/List")) (by decide) (by decide))))
    exact ⟨rfl, N6, Kc9, Fc10, Fc11, Fw6⟩
theorem d16_0 : decode prog_44_method_2_code 0 = .ok (.aload_n 0, 1) := by decide +kernel
theorem d16_1 : decode prog_44_method_2_code 1 = .ok (.getfield 7, 3) := by decide +kernel
theorem d16_4 : decode prog_44_method_2_code 4 = .ok (.lconst 0, 1) := by decide +kernel
theorem d16_5 : decode prog_44_method_2_code 5 = .ok (.lcmp, 1) := by decide +kernel
theorem d16_6 : decode prog_44_method_2_code 6 = .ok (.ifCond .ne 7, 3) := by decide +kernel
theorem d16_9 : decode prog_44_method_2_code 9 = .ok (.iconst 1, 1) := by decide +kernel
theorem d16_10 : decode prog_44_method_2_code 10 = .ok (.goto 4, 3) := by decide +kernel
theorem d16_13 : decode prog_44_method_2_code 13 = .ok (.iconst 0, 1) := by decide +kernel
theorem d16_14 : decode prog_44_method_2_code 14 = .ok (.ireturn, 1) := by decide +kernel
theorem pn_rm_val : plainName "com/example/adhoc/adhoc/submission/Validator$Report" = true := by first | (simp [plainName, overriddenIn]; done) | decide +kernel
theorem ef_rm_val (m : MethodId) (va : Addr) : entryFrame m #[(.ref va)] 1 = mkF m 0 #[.val (.ref va)] [] := by first | (simp [entryFrame, mkF, argsToLocals, Value.category]; done) | rfl
def Q_val (Z : State) (va : Addr) (vf : Int64) (h0 : Heap) (n0 : Nat) (v : Option Value) (h : Heap) (L : List Loc) : Prop := v = some (.int (if vf = 0 then 1 else 0)) ∧ Fr n0 L ∧ h = h0
set_option maxRecDepth 65536 in
set_option maxHeartbeats 40000000 in
theorem rm_val (l : Launch) (Z : State) (a0 : Array Value) (hw : ∀ d ∈ tables_1, d.before a0 Z = true) (ws : List Jvm.Cond) (va : Addr) (vf : Int64) (h0 : Heap) (n0 : Nat) (Z0 : n0 ≤ h0.size) (F_f : Fld Z h0 va "com/example/adhoc/adhoc/submission/Validator$Report" "faults" "J" (.long vf)) :
    MetFree l (⟨"com/example/adhoc/adhoc/submission/Validator$Report", "isValid", "()Z"⟩ : MethodName) (head1 (Jvm.Cond.code (⟨"com/example/adhoc/adhoc/submission/Validator$Report", "isValid", "()Z"⟩ : MethodName) prog_44_method_2_code 1 (some .boolean) :: ws) ({ frames := 0, cells := 0, slots := 0, locals := 0 } : Room)) (fun a U => a = #[(.ref va)] ∧ Z.Warmed39 U.vm ∧ U.heap = h0) (fun _ _ _ _ _ => True) (fun _ U o U' => ∃ v L, o = .returned v ∧ Q_val Z va vf h0 n0 v U'.heap L ∧ FrameEnd U o U' L ({ frames := 0, cells := 0, slots := 0, locals := 0 } : Room).cells ({ frames := 0, cells := 0, slots := 0, locals := 0 } : Room).slots) := by
  refine MetFree.of_bodySF (plainFor_of_name pn_rm_val) hisR ?_
  intro p e s m args below meth c s₁ Bd hml0 hP hK
  obtain ⟨rfl, hZ, hh⟩ := hP
  have hx := Bd.exec
  have hby := Bd.bytes
  have hml : c.maxLocals = 1 := hml0
  have hown : s.vm.findClass "com/example/adhoc/adhoc/submission/Validator$Report" = some m.cls := findClass_of_methodNamed Bd.named
  have hnm := (name_of_methodNamed Bd.named Bd.method).1
  have X0 : Stand p l e ({ frames := 0, cells := 0, slots := 0, locals := 0 } : Room) s m #[(.ref va)] below meth c s₁ [] 0 0 := Stand.of_body Bd
  have e0 : s₁.heap = h0 := by rw [← hh, Bd.state]; rfl
  have N0 := Fr.nil n0
  have pre0 : ∀ t, Steps p.tables e below (s₁.setTop (mkF m 0 #[.val (.ref va)] [])) t → Steps p.tables e below (s₁.setTop (entryFrame m #[(.ref va)] 1)) t := fun t k => castTop (ef_rm_val m va) k
  obtain ⟨T1, X1, e1, st1⟩ := getF X0 hx hZ hown (host := "") (Or.inl (hw _ (List.mem_of_getElem? (i := 97) rfl))) Via.refl e0 F_f (g := (mkF m 1 #[.val (.ref va)] [(.ref va)])) rfl rfl (hb hby d16_1)
  have pre2 : ∀ t, Steps p.tables e below (T1.setTop (mkF m 6 #[.val (.ref va)] [(.int (lcmpW vf (0 : Int64)))])) t → Steps p.tables e below (s₁.setTop (entryFrame m #[(.ref va)] 1)) t := by
    intro t k
    refine pre0 t ?_
    show Steps p.tables e below (s₁.setTop (mkF m 0 #[.val (.ref va)] [])) _
    refine XS.aloadN X0.here hx rfl (hb hby d16_0) rfl rfl ?_
    show Steps p.tables e below (s₁.setTop (mkF m 1 #[.val (.ref va)] [(.ref va)])) _
    refine st1 _ ?_
    show Steps p.tables e below (T1.setTop (mkF m 4 #[.val (.ref va)] [(.long vf)])) _
    refine XS.lconst X1.here hx rfl (hb hby d16_4) ?_
    show Steps p.tables e below (T1.setTop (mkF m 5 #[.val (.ref va)] [(.long (0 : Int64)), (.long vf)])) _
    refine XS.lcmp X1.here hx rfl (hb hby d16_5) rfl ?_
    show Steps p.tables e below (T1.setTop (mkF m 6 #[.val (.ref va)] [(.int (lcmpW vf (0 : Int64)))])) _
    exact k
  by_cases hc3 : vf = (0 : Int64)
  · obtain ⟨fs, hr, hrun, hended, hW, hsame⟩ := X1.leave (v := some (.int (1 : Int32))) (fun h => by rw [Bd.returns] at h; cases h)
    refine ⟨_, _, pre2 _ ?_, hrun, hended, _, _, rfl, ?_, ⟨_, rfl⟩, hW, hsame.mono (by decide) (by decide)⟩
    · show Steps p.tables e below (T1.setTop (mkF m 6 #[.val (.ref va)] [(.int (lcmpW vf (0 : Int64)))])) _
      refine XS.ifNo X1.here hx rfl (hb hby d16_6) rfl ((if0 _ _).trans (teq ((lw_eq _ _).mpr hc3)).2) ?_
      show Steps p.tables e below (T1.setTop (mkF m 9 #[.val (.ref va)] [])) _
      refine XS.iconst X1.here hx rfl (hb hby d16_9) ?_
      show Steps p.tables e below (T1.setTop (mkF m 10 #[.val (.ref va)] [(.int (1 : Int32))])) _
      refine XS.goto X1.here hx rfl (pc0 := 10) (pc' := 14) rfl (hb hby d16_10) (by decide) (by decide) ?_
      show Steps p.tables e below (T1.setTop (mkF m 14 #[.val (.ref va)] [(.int (1 : Int32))])) _
      exact retN X1 hx (t := .boolean) Bd.returns (by simp) (hb hby d16_14) hr
    · show Q_val Z va vf h0 n0 _ T1.heap _
      rw [e1]
      exact ⟨by rw [if_pos hc3], N0, rfl⟩
  · obtain ⟨fs, hr, hrun, hended, hW, hsame⟩ := X1.leave (v := some (.int (0 : Int32))) (fun h => by rw [Bd.returns] at h; cases h)
    refine ⟨_, _, pre2 _ ?_, hrun, hended, _, _, rfl, ?_, ⟨_, rfl⟩, hW, hsame.mono (by decide) (by decide)⟩
    · show Steps p.tables e below (T1.setTop (mkF m 6 #[.val (.ref va)] [(.int (lcmpW vf (0 : Int64)))])) _
      refine XS.ifYes X1.here hx rfl (pc0 := 6) (pc' := 13) rfl (hb hby d16_6) rfl ((if0 _ _).trans (feq (mt (lw_eq _ _).mp hc3)).2) (by decide) (by decide) ?_
      show Steps p.tables e below (T1.setTop (mkF m 13 #[.val (.ref va)] [])) _
      refine XS.iconst X1.here hx rfl (hb hby d16_13) ?_
      show Steps p.tables e below (T1.setTop (mkF m 14 #[.val (.ref va)] [(.int (0 : Int32))])) _
      exact retN X1 hx (t := .boolean) Bd.returns (by simp) (hb hby d16_14) hr
    · show Q_val Z va vf h0 n0 _ T1.heap _
      rw [e1]
      exact ⟨by rw [if_neg hc3], N0, rfl⟩
theorem pn_rm0 : plainName "com/example/adhoc/adhoc/submission/ReportIsValidPinLaw" = true := by first | (simp [plainName, overriddenIn]; done) | decide +kernel
theorem ef_rm0 (m : MethodId) (vf : Int64) (vw : Int32) (vc1 : Int32) (vc2 : Int32) : entryFrame m #[(.long vf), (.int vw), (.int vc1), (.int vc2)] maxLocals = mkF m 0 #[.val (.long vf), .second, .val (.int vw), .val (.int vc1), .val (.int vc2), .unset, .unset, .unset, .unset, .unset, .unset] [] := by first | (simp [entryFrame, mkF, argsToLocals, Value.category, maxLocals]; done) | rfl
def Q0 (Z : State) (vf : Int64) (vw : Int32) (vc1 : Int32) (vc2 : Int32) (vcs : Int32) (ade : Addr) (kde : ClassId) (h0 : Heap) (n0 : Nat) (v : Option Value) (h : Heap) (L : List Loc) : Prop := v = some (.int 1) ∧ Fr n0 L
set_option maxRecDepth 65536 in
set_option maxHeartbeats 40000000 in
theorem rm0 (l : Launch) (Z : State) (a0 : Array Value) (hw : ∀ d ∈ tables_1, d.before a0 Z = true) (ws : List Jvm.Cond) (vf : Int64) (vw : Int32) (vc1 : Int32) (vc2 : Int32) (vcs : Int32) (ade : Addr) (kde : ClassId) (h0 : Heap) (n0 : Nat) (Z0 : n0 ≤ h0.size) (S_cs : Sta Z h0 "java/lang/String" "COMPACT_STRINGS" "Z" (.int vcs)) (hcs : ¬ vcs = 0) (S_de : Sta Z h0 "java/util/ArrayList" "DEFAULTCAPACITY_EMPTY_ELEMENTDATA" "[Ljava/lang/Object;" (.ref ade)) (V_de : Arv Z h0 ade kde (.object "java/lang/Object") (0 : Int32) [] .null) :
    MetFree l x (head1 (Jvm.Cond.code x code maxLocals ret :: ws) room_1) (fun a U => a = #[(.long vf), (.int vw), (.int vc1), (.int vc2)] ∧ Z.Warmed39 U.vm ∧ U.heap = h0) (fun _ _ _ _ _ => True) (fun _ U o U' => ∃ v L, o = .returned v ∧ Q0 Z vf vw vc1 vc2 vcs ade kde h0 n0 v U'.heap L ∧ FrameEnd U o U' L room_1.cells room_1.slots) := by
  refine MetFree.of_bodySF (plainFor_of_name pn_rm0) hisR ?_
  intro p e s m args below meth c s₁ Bd hml0 hP hK
  obtain ⟨rfl, hZ, hh⟩ := hP
  have hx := Bd.exec
  have hby := Bd.bytes
  have hml : c.maxLocals = 11 := hml0
  have hown : s.vm.findClass "com/example/adhoc/adhoc/submission/ReportIsValidPinLaw" = some m.cls := findClass_of_methodNamed Bd.named
  have hnm := (name_of_methodNamed Bd.named Bd.method).1
  have X0 : Stand p l e room_1 s m #[(.long vf), (.int vw), (.int vc1), (.int vc2)] below meth c s₁ [] 0 0 := Stand.of_body Bd
  have e0 : s₁.heap = h0 := by rw [← hh, Bd.state]; rfl
  have N0 := Fr.nil n0
  have pre0 : ∀ t, Steps p.tables e below (s₁.setTop (mkF m 0 #[.val (.long vf), .second, .val (.int vw), .val (.int vc1), .val (.int vc2), .unset, .unset, .unset, .unset, .unset, .unset] [])) t → Steps p.tables e below (s₁.setTop (entryFrame m #[(.long vf), (.int vw), (.int vc1), (.int vc2)] maxLocals)) t := fun t k => castTop (ef_rm0 m vf vw vc1 vc2) k
  obtain ⟨T1, h1, X1, e1, E1, A1, D1, U1, st1⟩ := newO X0 hx hZ hown (hw _ (List.mem_of_getElem? (i := 0) rfl)) (hw _ (List.mem_of_getElem? (i := 1) rfl)) (hw _ (List.mem_of_getElem? (i := 2) rfl)) e0 (g := (mkF m 5 #[.val (.long vf), .second, .val (.int vw), .val (.int vc1), .val (.int vc2), .val (.int (vw &&& (3 : Int32))), .unset, .unset, .unset, .unset, .unset] [])) rfl (hb hby at_5) (by decide) (by decide)
  obtain ⟨b1, g1⟩ : ∃ z, z = h0.size := ⟨_, rfl⟩
  rw [← g1] at A1 D1 U1 st1
  have g_b1 : n0 ≤ b1 := Nat.le_trans Z0 (Nat.le_of_eq g1.symm)
  have Zp2 : n0 ≤ h1.size := Nat.le_trans Z0 E1.1
  have Fn3 : Fld Z h1 b1 "java/util/AbstractList" "modCount" "I" (.int (0 : Int32)) := D1 (Or.inl (hw _ (List.mem_of_getElem? (i := 22) rfl))) (ty := .int) (by decide)
  have Fn4 : Fld Z h1 b1 "java/util/ArrayList" "elementData" "[Ljava/lang/Object;" .null := D1 (Or.inl (hw _ (List.mem_of_getElem? (i := 25) rfl))) (ty := (.array (.object "java/lang/Object"))) (by decide)
  have Fn5 : Fld Z h1 b1 "java/util/ArrayList" "size" "I" (.int (0 : Int32)) := D1 (Or.inl (hw _ (List.mem_of_getElem? (i := 62) rfl))) (ty := .int) (by decide)
  have Fc6 := (Sta.ext E1 S_de)
  obtain ⟨_, _, ⟨T7, L7, k7, n7⟩, -, X7, ⟨Lc7, hQ7, l7, y7, z7⟩, st7⟩ := X1.specialBack hx (y := (⟨"java/util/ArrayList", "<init>", "()V"⟩ : MethodName)) rfl hown (mvT hZ (hw _ (List.mem_of_getElem? (i := 3) rfl))) (mvT hZ (hw _ (List.mem_of_getElem? (i := 4) rfl))) (mvT hZ (hw _ (List.mem_of_getElem? (i := 5) rfl))) (by decide) (backOf (W := 1) (rm_ai l Z a0 hw [] b1 ade h1 n0 Zp2 A1 g_b1 Fn3 Fn4 Fn5 Fc6) hZ (hw _ (List.mem_of_getElem? (i := 5) rfl)) (hw _ (List.mem_of_getElem? (i := 2) rfl)) (by decide) (by decide)) (g := (mkF m 9 #[.val (.long vf), .second, .val (.int vw), .val (.int vc1), .val (.int vc2), .val (.int (vw &&& (3 : Int32))), .unset, .unset, .unset, .unset, .unset] [(.ref b1), (.ref b1)])) rfl (by rw [hml]; rfl) (Steps.refl _) (a := b1) (argsL := []) (rest := [(.ref b1)]) (lenOf own_pd3 rfl) rfl (by show 2 * 0 + _ ≤ _; exact Nat.le_of_eq rfl) (hb hby at_9) (fun _ _ => ⟨rfl, e1, (by decide : 1 + 0 ≤ _), (by decide : 3 + 0 ≤ _)⟩)
  dsimp only [Pt.U, Pt.locs, Pt.cells, Pt.slots] at X7 l7 y7 z7 st7 hQ7
  subst l7 y7 z7
  obtain ⟨rfl, Nq7, K7, Ex7, Fm7, Fe7, Fs7⟩ := hQ7
  have Nf7 := Fr.app N0 Nq7
  have Zp8 : n0 ≤ T7.heap.size := Nat.le_trans Zp2 K7.1
  have pre9 : ∀ t, Steps p.tables e below (T7.setTop (mkF m 17 #[.val (.long vf), .second, .val (.int vw), .val (.int vc1), .val (.int vc2), .val (.int (vw &&& (3 : Int32))), .val (.ref b1), .unset, .unset, .unset, .unset] [(.int (1 : Int32)), (.int (vw &&& (3 : Int32)))])) t → Steps p.tables e below (s₁.setTop (entryFrame m #[(.long vf), (.int vw), (.int vc1), (.int vc2)] maxLocals)) t := by
    intro t k
    refine pre0 t ?_
    show Steps p.tables e below (s₁.setTop (mkF m 0 #[.val (.long vf), .second, .val (.int vw), .val (.int vc1), .val (.int vc2), .unset, .unset, .unset, .unset, .unset, .unset] [])) _
    refine XS.iloadN X0.here hx rfl (hb hby at_0) rfl ?_
    show Steps p.tables e below (s₁.setTop (mkF m 1 #[.val (.long vf), .second, .val (.int vw), .val (.int vc1), .val (.int vc2), .unset, .unset, .unset, .unset, .unset, .unset] [(.int vw)])) _
    refine XS.iconst X0.here hx rfl (hb hby at_1) ?_
    show Steps p.tables e below (s₁.setTop (mkF m 2 #[.val (.long vf), .second, .val (.int vw), .val (.int vc1), .val (.int vc2), .unset, .unset, .unset, .unset, .unset, .unset] [(.int (3 : Int32)), (.int vw)])) _
    refine XS.iand X0.here hx rfl (hb hby at_2) rfl ?_
    show Steps p.tables e below (s₁.setTop (mkF m 3 #[.val (.long vf), .second, .val (.int vw), .val (.int vc1), .val (.int vc2), .unset, .unset, .unset, .unset, .unset, .unset] [(.int (vw &&& (3 : Int32)))])) _
    refine XS.istore X0.here hx rfl (hb hby at_3) rfl (l' := #[.val (.long vf), .second, .val (.int vw), .val (.int vc1), .val (.int vc2), .val (.int (vw &&& (3 : Int32))), .unset, .unset, .unset, .unset, .unset]) rfl ?_
    show Steps p.tables e below (s₁.setTop (mkF m 5 #[.val (.long vf), .second, .val (.int vw), .val (.int vc1), .val (.int vc2), .val (.int (vw &&& (3 : Int32))), .unset, .unset, .unset, .unset, .unset] [])) _
    refine st1 _ ?_
    show Steps p.tables e below (T1.setTop (mkF m 8 #[.val (.long vf), .second, .val (.int vw), .val (.int vc1), .val (.int vc2), .val (.int (vw &&& (3 : Int32))), .unset, .unset, .unset, .unset, .unset] [(.ref b1)])) _
    refine XS.dup X1.here hx rfl (hb hby at_8) rfl rfl ?_
    show Steps p.tables e below (T1.setTop (mkF m 9 #[.val (.long vf), .second, .val (.int vw), .val (.int vc1), .val (.int vc2), .val (.int (vw &&& (3 : Int32))), .unset, .unset, .unset, .unset, .unset] [(.ref b1), (.ref b1)])) _
    refine st7.trans ?_
    show Steps p.tables e below (T7.setTop (mkF m 12 #[.val (.long vf), .second, .val (.int vw), .val (.int vc1), .val (.int vc2), .val (.int (vw &&& (3 : Int32))), .unset, .unset, .unset, .unset, .unset] [(.ref b1)])) _
    refine XS.astore X7.here hx rfl (hb hby at_12) rfl rfl (l' := #[.val (.long vf), .second, .val (.int vw), .val (.int vc1), .val (.int vc2), .val (.int (vw &&& (3 : Int32))), .val (.ref b1), .unset, .unset, .unset, .unset]) rfl ?_
    show Steps p.tables e below (T7.setTop (mkF m 14 #[.val (.long vf), .second, .val (.int vw), .val (.int vc1), .val (.int vc2), .val (.int (vw &&& (3 : Int32))), .val (.ref b1), .unset, .unset, .unset, .unset] [])) _
    refine XS.iload X7.here hx rfl (hb hby at_14) rfl ?_
    show Steps p.tables e below (T7.setTop (mkF m 16 #[.val (.long vf), .second, .val (.int vw), .val (.int vc1), .val (.int vc2), .val (.int (vw &&& (3 : Int32))), .val (.ref b1), .unset, .unset, .unset, .unset] [(.int (vw &&& (3 : Int32)))])) _
    refine XS.iconst X7.here hx rfl (hb hby at_16) ?_
    show Steps p.tables e below (T7.setTop (mkF m 17 #[.val (.long vf), .second, .val (.int vw), .val (.int vc1), .val (.int vc2), .val (.int (vw &&& (3 : Int32))), .val (.ref b1), .unset, .unset, .unset, .unset] [(.int (1 : Int32)), (.int (vw &&& (3 : Int32)))])) _
    exact k
  by_cases hc10 : (vw &&& (3 : Int32)) < (1 : Int32)
  · have pre11 : ∀ t, Steps p.tables e below (T7.setTop (mkF m 40 #[.val (.long vf), .second, .val (.int vw), .val (.int vc1), .val (.int vc2), .val (.int (vw &&& (3 : Int32))), .val (.ref b1), .unset, .unset, .unset, .unset] [(.int (2 : Int32)), (.int (vw &&& (3 : Int32)))])) t → Steps p.tables e below (s₁.setTop (entryFrame m #[(.long vf), (.int vw), (.int vc1), (.int vc2)] maxLocals)) t := by
      intro t k
      refine pre9 t ?_
      show Steps p.tables e below (T7.setTop (mkF m 17 #[.val (.long vf), .second, .val (.int vw), .val (.int vc1), .val (.int vc2), .val (.int (vw &&& (3 : Int32))), .val (.ref b1), .unset, .unset, .unset, .unset] [(.int (1 : Int32)), (.int (vw &&& (3 : Int32)))])) _
      refine XS.icmpYes X7.here hx rfl (pc0 := 17) (pc' := 37) rfl (hb hby at_17) rfl (tlt hc10).1 (by decide) (by decide) ?_
      show Steps p.tables e below (T7.setTop (mkF m 37 #[.val (.long vf), .second, .val (.int vw), .val (.int vc1), .val (.int vc2), .val (.int (vw &&& (3 : Int32))), .val (.ref b1), .unset, .unset, .unset, .unset] [])) _
      refine XS.iload X7.here hx rfl (hb hby at_37) rfl ?_
      show Steps p.tables e below (T7.setTop (mkF m 39 #[.val (.long vf), .second, .val (.int vw), .val (.int vc1), .val (.int vc2), .val (.int (vw &&& (3 : Int32))), .val (.ref b1), .unset, .unset, .unset, .unset] [(.int (vw &&& (3 : Int32)))])) _
      refine XS.iconst X7.here hx rfl (hb hby at_39) ?_
      show Steps p.tables e below (T7.setTop (mkF m 40 #[.val (.long vf), .second, .val (.int vw), .val (.int vc1), .val (.int vc2), .val (.int (vw &&& (3 : Int32))), .val (.ref b1), .unset, .unset, .unset, .unset] [(.int (2 : Int32)), (.int (vw &&& (3 : Int32)))])) _
      exact k
    by_cases hc12 : (vw &&& (3 : Int32)) < (2 : Int32)
    · obtain ⟨T13, h13, X13, e13, E13, A13, D13, U13, st13⟩ := newO X7 hx hZ hown (hw _ (List.mem_of_getElem? (i := 0) rfl)) (hw _ (List.mem_of_getElem? (i := 1) rfl)) (hw _ (List.mem_of_getElem? (i := 2) rfl)) rfl (g := (mkF m 61 #[.val (.long vf), .second, .val (.int vw), .val (.int vc1), .val (.int vc2), .val (.int (vw &&& (3 : Int32))), .val (.ref b1), .unset, .unset, .unset, .unset] [])) rfl (hb hby at_61) (by decide) (by decide)
      obtain ⟨b13, g13⟩ : ∃ z, z = T7.heap.size := ⟨_, rfl⟩
      rw [← g13] at A13 D13 U13 st13
      have g_b13 : n0 ≤ b13 := Nat.le_trans Zp8 (Nat.le_of_eq g13.symm)
      have Zp14 : n0 ≤ h13.size := Nat.le_trans Zp8 E13.1
      have Fn15 : Fld Z h13 b13 "java/util/AbstractList" "modCount" "I" (.int (0 : Int32)) := D13 (Or.inl (hw _ (List.mem_of_getElem? (i := 22) rfl))) (ty := .int) (by decide)
      have Fn16 : Fld Z h13 b13 "java/util/ArrayList" "elementData" "[Ljava/lang/Object;" .null := D13 (Or.inl (hw _ (List.mem_of_getElem? (i := 25) rfl))) (ty := (.array (.object "java/lang/Object"))) (by decide)
      have Fn17 : Fld Z h13 b13 "java/util/ArrayList" "size" "I" (.int (0 : Int32)) := D13 (Or.inl (hw _ (List.mem_of_getElem? (i := 62) rfl))) (ty := .int) (by decide)
      have Fc18 := (Sta.ext E13 (own_sta_keep K7 (allS (own_plE A1) all0) Fc6))
      obtain ⟨_, _, ⟨T19, L19, k19, n19⟩, -, X19, ⟨Lc19, hQ19, l19, y19, z19⟩, st19⟩ := X13.specialBack hx (y := (⟨"java/util/ArrayList", "<init>", "()V"⟩ : MethodName)) rfl hown (mvT hZ (hw _ (List.mem_of_getElem? (i := 3) rfl))) (mvT hZ (hw _ (List.mem_of_getElem? (i := 4) rfl))) (mvT hZ (hw _ (List.mem_of_getElem? (i := 5) rfl))) (by decide) (backOf (W := 1) (rm_ai l Z a0 hw [] b13 ade h13 n0 Zp14 A13 g_b13 Fn15 Fn16 Fn17 Fc18) hZ (hw _ (List.mem_of_getElem? (i := 5) rfl)) (hw _ (List.mem_of_getElem? (i := 2) rfl)) (by decide) (by decide)) (g := (mkF m 65 #[.val (.long vf), .second, .val (.int vw), .val (.int vc1), .val (.int vc2), .val (.int (vw &&& (3 : Int32))), .val (.ref b1), .unset, .unset, .unset, .unset] [(.ref b13), (.ref b13)])) rfl (by rw [hml]; rfl) (Steps.refl _) (a := b13) (argsL := []) (rest := [(.ref b13)]) (lenOf own_pd3 rfl) rfl (by show 2 * 0 + _ ≤ _; exact Nat.le_of_eq rfl) (hb hby at_65) (fun _ _ => ⟨rfl, e13, (by decide : 2 + 0 ≤ _), (by decide : 6 + 0 ≤ _)⟩)
      dsimp only [Pt.U, Pt.locs, Pt.cells, Pt.slots] at X19 l19 y19 z19 st19 hQ19
      subst l19 y19 z19
      obtain ⟨rfl, Nq19, K19, Ex19, Fm19, Fe19, Fs19⟩ := hQ19
      have Nf19 := Fr.app Nf7 Nq19
      have Zp20 : n0 ≤ T19.heap.size := Nat.le_trans Zp14 K19.1
      obtain ⟨T21, h21, X21, e21, E21, A21, D21, U21, st21⟩ := newO X19 hx hZ hown (hw _ (List.mem_of_getElem? (i := 85) rfl)) (hw _ (List.mem_of_getElem? (i := 86) rfl)) (hw _ (List.mem_of_getElem? (i := 87) rfl)) rfl (g := (mkF m 70 #[.val (.long vf), .second, .val (.int vw), .val (.int vc1), .val (.int vc2), .val (.int (vw &&& (3 : Int32))), .val (.ref b1), .val (.ref b13), .unset, .unset, .unset] [])) rfl (hb hby at_70) (by decide) (by decide)
      obtain ⟨b21, g21⟩ : ∃ z, z = T19.heap.size := ⟨_, rfl⟩
      rw [← g21] at A21 D21 U21 st21
      have g_b21 : n0 ≤ b21 := Nat.le_trans Zp20 (Nat.le_of_eq g21.symm)
      have Zp22 : n0 ≤ h21.size := Nat.le_trans Zp20 E21.1
      have Fn23 : Fld Z h21 b21 "com/example/adhoc/adhoc/submission/Validator$Report" "faults" "J" (.long (0 : Int64)) := D21 (Or.inr (hw _ (List.mem_of_getElem? (i := 98) rfl))) (ty := .long) (by decide)
      have Fn24 : Fld Z h21 b21 "com/example/adhoc/adhoc/submission/Validator$Report" "warnings" "Ljava/util/List;" .null := D21 (Or.inr (hw _ (List.mem_of_getElem? (i := 100) rfl))) (ty := (.object "java/util/List")) (by decide)
      obtain ⟨_, _, ⟨T25, L25, k25, n25⟩, -, X25, ⟨Lc25, hQ25, l25, y25, z25⟩, st25⟩ := X21.specialBack hx (y := (⟨"com/example/adhoc/adhoc/submission/Validator$Report", "<init>", "(JLjava/util/List;)V"⟩ : MethodName)) rfl hown (mvT hZ (hw _ (List.mem_of_getElem? (i := 88) rfl))) (mvT hZ (hw _ (List.mem_of_getElem? (i := 89) rfl))) (mvT hZ (hw _ (List.mem_of_getElem? (i := 90) rfl))) (by decide) (backOf (W := 1) (rm_rep l Z a0 hw [] b21 vf b1 h21 n0 Zp22 A21 g_b21 Fn23 Fn24) hZ (hw _ (List.mem_of_getElem? (i := 90) rfl)) (hw _ (List.mem_of_getElem? (i := 87) rfl)) (by decide) (by decide)) (g := (mkF m 77 #[.val (.long vf), .second, .val (.int vw), .val (.int vc1), .val (.int vc2), .val (.int (vw &&& (3 : Int32))), .val (.ref b1), .val (.ref b13), .unset, .unset, .unset] [(.ref b1), (.long vf), (.ref b21), (.ref b21)])) rfl (by rw [hml]; rfl) (Steps.refl _) (a := b21) (argsL := [(.long vf), (.ref b1)]) (rest := [(.ref b21)]) (lenOf own_pd8 rfl) rfl (by show 2 * 0 + _ ≤ _; exact Nat.le_of_eq rfl) (hb hby at_77) (fun _ _ => ⟨rfl, e21, (by decide : 3 + 0 ≤ _), (by decide : 8 + 0 ≤ _)⟩)
      dsimp only [Pt.U, Pt.locs, Pt.cells, Pt.slots] at X25 l25 y25 z25 st25 hQ25
      subst l25 y25 z25
      obtain ⟨rfl, Nq25, K25, Ex25, Fx25_0, Fx25_1⟩ := hQ25
      have Nf25 := Fr.app Nf19 Nq25
      have Zp26 : n0 ≤ T25.heap.size := Nat.le_trans Zp22 K25.1
      obtain ⟨T27, h27, X27, e27, E27, A27, D27, U27, st27⟩ := newO X25 hx hZ hown (hw _ (List.mem_of_getElem? (i := 85) rfl)) (hw _ (List.mem_of_getElem? (i := 86) rfl)) (hw _ (List.mem_of_getElem? (i := 87) rfl)) rfl (g := (mkF m 82 #[.val (.long vf), .second, .val (.int vw), .val (.int vc1), .val (.int vc2), .val (.int (vw &&& (3 : Int32))), .val (.ref b1), .val (.ref b13), .val (.ref b21), .unset, .unset] [])) rfl (hb hby at_82) (by decide) (by decide)
      obtain ⟨b27, g27⟩ : ∃ z, z = T25.heap.size := ⟨_, rfl⟩
      rw [← g27] at A27 D27 U27 st27
      have g_b27 : n0 ≤ b27 := Nat.le_trans Zp26 (Nat.le_of_eq g27.symm)
      have Zp28 : n0 ≤ h27.size := Nat.le_trans Zp26 E27.1
      have Fn29 : Fld Z h27 b27 "com/example/adhoc/adhoc/submission/Validator$Report" "faults" "J" (.long (0 : Int64)) := D27 (Or.inr (hw _ (List.mem_of_getElem? (i := 98) rfl))) (ty := .long) (by decide)
      have Fn30 : Fld Z h27 b27 "com/example/adhoc/adhoc/submission/Validator$Report" "warnings" "Ljava/util/List;" .null := D27 (Or.inr (hw _ (List.mem_of_getElem? (i := 100) rfl))) (ty := (.object "java/util/List")) (by decide)
      obtain ⟨_, _, ⟨T31, L31, k31, n31⟩, -, X31, ⟨Lc31, hQ31, l31, y31, z31⟩, st31⟩ := X27.specialBack hx (y := (⟨"com/example/adhoc/adhoc/submission/Validator$Report", "<init>", "(JLjava/util/List;)V"⟩ : MethodName)) rfl hown (mvT hZ (hw _ (List.mem_of_getElem? (i := 88) rfl))) (mvT hZ (hw _ (List.mem_of_getElem? (i := 89) rfl))) (mvT hZ (hw _ (List.mem_of_getElem? (i := 90) rfl))) (by decide) (backOf (W := 1) (rm_rep l Z a0 hw [] b27 vf b13 h27 n0 Zp28 A27 g_b27 Fn29 Fn30) hZ (hw _ (List.mem_of_getElem? (i := 90) rfl)) (hw _ (List.mem_of_getElem? (i := 87) rfl)) (by decide) (by decide)) (g := (mkF m 89 #[.val (.long vf), .second, .val (.int vw), .val (.int vc1), .val (.int vc2), .val (.int (vw &&& (3 : Int32))), .val (.ref b1), .val (.ref b13), .val (.ref b21), .unset, .unset] [(.ref b13), (.long vf), (.ref b27), (.ref b27)])) rfl (by rw [hml]; rfl) (Steps.refl _) (a := b27) (argsL := [(.long vf), (.ref b13)]) (rest := [(.ref b27)]) (lenOf own_pd8 rfl) rfl (by show 2 * 0 + _ ≤ _; exact Nat.le_of_eq rfl) (hb hby at_89) (fun _ _ => ⟨rfl, e27, (by decide : 4 + 0 ≤ _), (by decide : 10 + 0 ≤ _)⟩)
      dsimp only [Pt.U, Pt.locs, Pt.cells, Pt.slots] at X31 l31 y31 z31 st31 hQ31
      subst l31 y31 z31
      obtain ⟨rfl, Nq31, K31, Ex31, Fx31_0, Fx31_1⟩ := hQ31
      have Nf31 := Fr.app Nf25 Nq31
      have Zp32 : n0 ≤ T31.heap.size := Nat.le_trans Zp28 K31.1
      have pre33 : ∀ t, Steps p.tables e below (T31.setTop (mkF m 94 #[.val (.long vf), .second, .val (.int vw), .val (.int vc1), .val (.int vc2), .val (.int (vw &&& (3 : Int32))), .val (.ref b1), .val (.ref b13), .val (.ref b21), .val (.ref b27), .unset] [])) t → Steps p.tables e below (s₁.setTop (entryFrame m #[(.long vf), (.int vw), (.int vc1), (.int vc2)] maxLocals)) t := by
        intro t k
        refine pre11 t ?_
        show Steps p.tables e below (T7.setTop (mkF m 40 #[.val (.long vf), .second, .val (.int vw), .val (.int vc1), .val (.int vc2), .val (.int (vw &&& (3 : Int32))), .val (.ref b1), .unset, .unset, .unset, .unset] [(.int (2 : Int32)), (.int (vw &&& (3 : Int32)))])) _
        refine XS.icmpYes X7.here hx rfl (pc0 := 40) (pc' := 61) rfl (hb hby at_40) rfl (tlt hc12).1 (by decide) (by decide) ?_
        show Steps p.tables e below (T7.setTop (mkF m 61 #[.val (.long vf), .second, .val (.int vw), .val (.int vc1), .val (.int vc2), .val (.int (vw &&& (3 : Int32))), .val (.ref b1), .unset, .unset, .unset, .unset] [])) _
        refine st13 _ ?_
        show Steps p.tables e below (T13.setTop (mkF m 64 #[.val (.long vf), .second, .val (.int vw), .val (.int vc1), .val (.int vc2), .val (.int (vw &&& (3 : Int32))), .val (.ref b1), .unset, .unset, .unset, .unset] [(.ref b13)])) _
        refine XS.dup X13.here hx rfl (hb hby at_64) rfl rfl ?_
        show Steps p.tables e below (T13.setTop (mkF m 65 #[.val (.long vf), .second, .val (.int vw), .val (.int vc1), .val (.int vc2), .val (.int (vw &&& (3 : Int32))), .val (.ref b1), .unset, .unset, .unset, .unset] [(.ref b13), (.ref b13)])) _
        refine st19.trans ?_
        show Steps p.tables e below (T19.setTop (mkF m 68 #[.val (.long vf), .second, .val (.int vw), .val (.int vc1), .val (.int vc2), .val (.int (vw &&& (3 : Int32))), .val (.ref b1), .unset, .unset, .unset, .unset] [(.ref b13)])) _
        refine XS.astore X19.here hx rfl (hb hby at_68) rfl rfl (l' := #[.val (.long vf), .second, .val (.int vw), .val (.int vc1), .val (.int vc2), .val (.int (vw &&& (3 : Int32))), .val (.ref b1), .val (.ref b13), .unset, .unset, .unset]) rfl ?_
        show Steps p.tables e below (T19.setTop (mkF m 70 #[.val (.long vf), .second, .val (.int vw), .val (.int vc1), .val (.int vc2), .val (.int (vw &&& (3 : Int32))), .val (.ref b1), .val (.ref b13), .unset, .unset, .unset] [])) _
        refine st21 _ ?_
        show Steps p.tables e below (T21.setTop (mkF m 73 #[.val (.long vf), .second, .val (.int vw), .val (.int vc1), .val (.int vc2), .val (.int (vw &&& (3 : Int32))), .val (.ref b1), .val (.ref b13), .unset, .unset, .unset] [(.ref b21)])) _
        refine XS.dup X21.here hx rfl (hb hby at_73) rfl rfl ?_
        show Steps p.tables e below (T21.setTop (mkF m 74 #[.val (.long vf), .second, .val (.int vw), .val (.int vc1), .val (.int vc2), .val (.int (vw &&& (3 : Int32))), .val (.ref b1), .val (.ref b13), .unset, .unset, .unset] [(.ref b21), (.ref b21)])) _
        refine XS.lloadN X21.here hx rfl (hb hby at_74) rfl ?_
        show Steps p.tables e below (T21.setTop (mkF m 75 #[.val (.long vf), .second, .val (.int vw), .val (.int vc1), .val (.int vc2), .val (.int (vw &&& (3 : Int32))), .val (.ref b1), .val (.ref b13), .unset, .unset, .unset] [(.long vf), (.ref b21), (.ref b21)])) _
        refine XS.aload X21.here hx rfl (hb hby at_75) rfl rfl ?_
        show Steps p.tables e below (T21.setTop (mkF m 77 #[.val (.long vf), .second, .val (.int vw), .val (.int vc1), .val (.int vc2), .val (.int (vw &&& (3 : Int32))), .val (.ref b1), .val (.ref b13), .unset, .unset, .unset] [(.ref b1), (.long vf), (.ref b21), (.ref b21)])) _
        refine st25.trans ?_
        show Steps p.tables e below (T25.setTop (mkF m 80 #[.val (.long vf), .second, .val (.int vw), .val (.int vc1), .val (.int vc2), .val (.int (vw &&& (3 : Int32))), .val (.ref b1), .val (.ref b13), .unset, .unset, .unset] [(.ref b21)])) _
        refine XS.astore X25.here hx rfl (hb hby at_80) rfl rfl (l' := #[.val (.long vf), .second, .val (.int vw), .val (.int vc1), .val (.int vc2), .val (.int (vw &&& (3 : Int32))), .val (.ref b1), .val (.ref b13), .val (.ref b21), .unset, .unset]) rfl ?_
        show Steps p.tables e below (T25.setTop (mkF m 82 #[.val (.long vf), .second, .val (.int vw), .val (.int vc1), .val (.int vc2), .val (.int (vw &&& (3 : Int32))), .val (.ref b1), .val (.ref b13), .val (.ref b21), .unset, .unset] [])) _
        refine st27 _ ?_
        show Steps p.tables e below (T27.setTop (mkF m 85 #[.val (.long vf), .second, .val (.int vw), .val (.int vc1), .val (.int vc2), .val (.int (vw &&& (3 : Int32))), .val (.ref b1), .val (.ref b13), .val (.ref b21), .unset, .unset] [(.ref b27)])) _
        refine XS.dup X27.here hx rfl (hb hby at_85) rfl rfl ?_
        show Steps p.tables e below (T27.setTop (mkF m 86 #[.val (.long vf), .second, .val (.int vw), .val (.int vc1), .val (.int vc2), .val (.int (vw &&& (3 : Int32))), .val (.ref b1), .val (.ref b13), .val (.ref b21), .unset, .unset] [(.ref b27), (.ref b27)])) _
        refine XS.lloadN X27.here hx rfl (hb hby at_86) rfl ?_
        show Steps p.tables e below (T27.setTop (mkF m 87 #[.val (.long vf), .second, .val (.int vw), .val (.int vc1), .val (.int vc2), .val (.int (vw &&& (3 : Int32))), .val (.ref b1), .val (.ref b13), .val (.ref b21), .unset, .unset] [(.long vf), (.ref b27), (.ref b27)])) _
        refine XS.aload X27.here hx rfl (hb hby at_87) rfl rfl ?_
        show Steps p.tables e below (T27.setTop (mkF m 89 #[.val (.long vf), .second, .val (.int vw), .val (.int vc1), .val (.int vc2), .val (.int (vw &&& (3 : Int32))), .val (.ref b1), .val (.ref b13), .val (.ref b21), .unset, .unset] [(.ref b13), (.long vf), (.ref b27), (.ref b27)])) _
        refine st31.trans ?_
        show Steps p.tables e below (T31.setTop (mkF m 92 #[.val (.long vf), .second, .val (.int vw), .val (.int vc1), .val (.int vc2), .val (.int (vw &&& (3 : Int32))), .val (.ref b1), .val (.ref b13), .val (.ref b21), .unset, .unset] [(.ref b27)])) _
        refine XS.astore X31.here hx rfl (hb hby at_92) rfl rfl (l' := #[.val (.long vf), .second, .val (.int vw), .val (.int vc1), .val (.int vc2), .val (.int (vw &&& (3 : Int32))), .val (.ref b1), .val (.ref b13), .val (.ref b21), .val (.ref b27), .unset]) rfl ?_
        show Steps p.tables e below (T31.setTop (mkF m 94 #[.val (.long vf), .second, .val (.int vw), .val (.int vc1), .val (.int vc2), .val (.int (vw &&& (3 : Int32))), .val (.ref b1), .val (.ref b13), .val (.ref b21), .val (.ref b27), .unset] [])) _
        exact k
      obtain ⟨ve, T34, lo34, X34, Nj34, ej34, hj34, pre34⟩ : ∃ (ve : Int32) (T' : State) (lo : List Loc), Stand p l e room_1 s m #[(.long vf), (.int vw), (.int vc1), (.int vc2)] below meth c T' lo 4 10 ∧ Fr n0 lo ∧ T'.heap = T31.heap ∧ (ve = if vf = 0 then 1 else 0) ∧ ∀ t, Steps p.tables e below (T'.setTop (mkF m 109 #[.val (.long vf), .second, .val (.int vw), .val (.int vc1), .val (.int vc2), .val (.int (vw &&& (3 : Int32))), .val (.ref b1), .val (.ref b13), .val (.ref b21), .val (.ref b27), .val (.int ve)] [])) t → Steps p.tables e below (s₁.setTop (entryFrame m #[(.long vf), (.int vw), (.int vc1), (.int vc2)] maxLocals)) t := by
        have pre35 : ∀ t, Steps p.tables e below (T31.setTop (mkF m 97 #[.val (.long vf), .second, .val (.int vw), .val (.int vc1), .val (.int vc2), .val (.int (vw &&& (3 : Int32))), .val (.ref b1), .val (.ref b13), .val (.ref b21), .val (.ref b27), .unset] [(.int (lcmpW vf (0 : Int64)))])) t → Steps p.tables e below (s₁.setTop (entryFrame m #[(.long vf), (.int vw), (.int vc1), (.int vc2)] maxLocals)) t := by
          intro t k
          refine pre33 t ?_
          show Steps p.tables e below (T31.setTop (mkF m 94 #[.val (.long vf), .second, .val (.int vw), .val (.int vc1), .val (.int vc2), .val (.int (vw &&& (3 : Int32))), .val (.ref b1), .val (.ref b13), .val (.ref b21), .val (.ref b27), .unset] [])) _
          refine XS.lloadN X31.here hx rfl (hb hby at_94) rfl ?_
          show Steps p.tables e below (T31.setTop (mkF m 95 #[.val (.long vf), .second, .val (.int vw), .val (.int vc1), .val (.int vc2), .val (.int (vw &&& (3 : Int32))), .val (.ref b1), .val (.ref b13), .val (.ref b21), .val (.ref b27), .unset] [(.long vf)])) _
          refine XS.lconst X31.here hx rfl (hb hby at_95) ?_
          show Steps p.tables e below (T31.setTop (mkF m 96 #[.val (.long vf), .second, .val (.int vw), .val (.int vc1), .val (.int vc2), .val (.int (vw &&& (3 : Int32))), .val (.ref b1), .val (.ref b13), .val (.ref b21), .val (.ref b27), .unset] [(.long (0 : Int64)), (.long vf)])) _
          refine XS.lcmp X31.here hx rfl (hb hby at_96) rfl ?_
          show Steps p.tables e below (T31.setTop (mkF m 97 #[.val (.long vf), .second, .val (.int vw), .val (.int vc1), .val (.int vc2), .val (.int (vw &&& (3 : Int32))), .val (.ref b1), .val (.ref b13), .val (.ref b21), .val (.ref b27), .unset] [(.int (lcmpW vf (0 : Int64)))])) _
          exact k
        by_cases hc36 : vf = (0 : Int64)
        · refine ⟨(1 : Int32), T31, _, X31, Nf31, rfl, (if_pos hc36).symm, fun t k => ?_⟩
          refine pre35 t ?_
          show Steps p.tables e below (T31.setTop (mkF m 97 #[.val (.long vf), .second, .val (.int vw), .val (.int vc1), .val (.int vc2), .val (.int (vw &&& (3 : Int32))), .val (.ref b1), .val (.ref b13), .val (.ref b21), .val (.ref b27), .unset] [(.int (lcmpW vf (0 : Int64)))])) _
          refine XS.ifNo X31.here hx rfl (hb hby at_97) rfl ((if0 _ _).trans (teq ((lw_eq _ _).mpr hc36)).2) ?_
          show Steps p.tables e below (T31.setTop (mkF m 100 #[.val (.long vf), .second, .val (.int vw), .val (.int vc1), .val (.int vc2), .val (.int (vw &&& (3 : Int32))), .val (.ref b1), .val (.ref b13), .val (.ref b21), .val (.ref b27), .unset] [])) _
          refine XS.iconst X31.here hx rfl (hb hby at_100) ?_
          show Steps p.tables e below (T31.setTop (mkF m 101 #[.val (.long vf), .second, .val (.int vw), .val (.int vc1), .val (.int vc2), .val (.int (vw &&& (3 : Int32))), .val (.ref b1), .val (.ref b13), .val (.ref b21), .val (.ref b27), .unset] [(.int (1 : Int32))])) _
          refine XS.istore X31.here hx rfl (hb hby at_101) rfl (l' := #[.val (.long vf), .second, .val (.int vw), .val (.int vc1), .val (.int vc2), .val (.int (vw &&& (3 : Int32))), .val (.ref b1), .val (.ref b13), .val (.ref b21), .val (.ref b27), .val (.int (1 : Int32))]) rfl ?_
          show Steps p.tables e below (T31.setTop (mkF m 103 #[.val (.long vf), .second, .val (.int vw), .val (.int vc1), .val (.int vc2), .val (.int (vw &&& (3 : Int32))), .val (.ref b1), .val (.ref b13), .val (.ref b21), .val (.ref b27), .val (.int (1 : Int32))] [])) _
          refine XS.goto X31.here hx rfl (pc0 := 103) (pc' := 109) rfl (hb hby at_103) (by decide) (by decide) ?_
          show Steps p.tables e below (T31.setTop (mkF m 109 #[.val (.long vf), .second, .val (.int vw), .val (.int vc1), .val (.int vc2), .val (.int (vw &&& (3 : Int32))), .val (.ref b1), .val (.ref b13), .val (.ref b21), .val (.ref b27), .val (.int (1 : Int32))] [])) _
          exact k
        · refine ⟨(0 : Int32), T31, _, X31, Nf31, rfl, (if_neg hc36).symm, fun t k => ?_⟩
          refine pre35 t ?_
          show Steps p.tables e below (T31.setTop (mkF m 97 #[.val (.long vf), .second, .val (.int vw), .val (.int vc1), .val (.int vc2), .val (.int (vw &&& (3 : Int32))), .val (.ref b1), .val (.ref b13), .val (.ref b21), .val (.ref b27), .unset] [(.int (lcmpW vf (0 : Int64)))])) _
          refine XS.ifYes X31.here hx rfl (pc0 := 97) (pc' := 106) rfl (hb hby at_97) rfl ((if0 _ _).trans (feq (mt (lw_eq _ _).mp hc36)).2) (by decide) (by decide) ?_
          show Steps p.tables e below (T31.setTop (mkF m 106 #[.val (.long vf), .second, .val (.int vw), .val (.int vc1), .val (.int vc2), .val (.int (vw &&& (3 : Int32))), .val (.ref b1), .val (.ref b13), .val (.ref b21), .val (.ref b27), .unset] [])) _
          refine XS.iconst X31.here hx rfl (hb hby at_106) ?_
          show Steps p.tables e below (T31.setTop (mkF m 107 #[.val (.long vf), .second, .val (.int vw), .val (.int vc1), .val (.int vc2), .val (.int (vw &&& (3 : Int32))), .val (.ref b1), .val (.ref b13), .val (.ref b21), .val (.ref b27), .unset] [(.int (0 : Int32))])) _
          refine XS.istore X31.here hx rfl (hb hby at_107) rfl (l' := #[.val (.long vf), .second, .val (.int vw), .val (.int vc1), .val (.int vc2), .val (.int (vw &&& (3 : Int32))), .val (.ref b1), .val (.ref b13), .val (.ref b21), .val (.ref b27), .val (.int (0 : Int32))]) rfl ?_
          show Steps p.tables e below (T31.setTop (mkF m 109 #[.val (.long vf), .second, .val (.int vw), .val (.int vc1), .val (.int vc2), .val (.int (vw &&& (3 : Int32))), .val (.ref b1), .val (.ref b13), .val (.ref b21), .val (.ref b27), .val (.int (0 : Int32))] [])) _
          exact k
      have Fc37 := ((Fld.ext E27 Fx25_0).keep K31 (ninS (Nat.ne_of_lt (Nat.lt_of_lt_of_le (Ex25).lt (Nat.le_of_eq g27.symm))) nin0))
      have Fc40 := ((Exa.ext E27 Ex25).keep K31)
      obtain ⟨cq39, kq39, q39a, q39b, q39c⟩ := isOf hZ ej34 Fc40
      obtain ⟨_, _, ⟨T38, L38, k38, n38⟩, -, X38, ⟨Lc38, hQ38, l38, y38, z38⟩, st38⟩ := X34.virtualBack hx (y := (⟨"com/example/adhoc/adhoc/submission/Validator$Report", "isValid", "()Z"⟩ : MethodName)) (z := (⟨"com/example/adhoc/adhoc/submission/Validator$Report", "isValid", "()Z"⟩ : MethodName)) hown (mvT hZ (hw _ (List.mem_of_getElem? (i := 101) rfl))) (mvT hZ (hw _ (List.mem_of_getElem? (i := 102) rfl))) (notFace_of_selects (args := #[]) (mvT hZ (hw _ (List.mem_of_getElem? (i := 104) rfl)))) (mvT hZ (hw _ (List.mem_of_getElem? (i := 104) rfl))) (mvT hZ (hw _ (List.mem_of_getElem? (i := 103) rfl))) (by decide) (backOf (W := 0) (rm_val l Z a0 hw [] b21 vf T31.heap n0 Zp32 Fc37) hZ (hw _ (List.mem_of_getElem? (i := 105) rfl)) (hw _ (List.mem_of_getElem? (i := 87) rfl)) (by decide) (by decide)) q39a q39c (g := (mkF m 111 #[.val (.long vf), .second, .val (.int vw), .val (.int vc1), .val (.int vc2), .val (.int (vw &&& (3 : Int32))), .val (.ref b1), .val (.ref b13), .val (.ref b21), .val (.ref b27), .val (.int ve)] [(.ref b21)])) rfl (by rw [hml]; rfl) (Steps.refl _) (argsL := []) (rest := []) (lenOf own_pd9 rfl) rfl (by show 2 * 0 + _ ≤ _; exact Nat.le_of_eq rfl) (hb hby at_111) (fun _ _ => ⟨rfl, ej34, (by decide : 4 + 0 ≤ _), (by decide : 10 + 0 ≤ _)⟩)
      dsimp only [Pt.U, Pt.locs, Pt.cells, Pt.slots] at X38 l38 y38 z38 st38 hQ38
      subst l38 y38 z38
      obtain ⟨rfl, Nq38, hh38⟩ := hQ38
      have Nf38 := Fr.app Nj34 Nq38
      have pre41 : ∀ t, Steps p.tables e below (T38.setTop (mkF m 116 #[.val (.long vf), .second, .val (.int vw), .val (.int vc1), .val (.int vc2), .val (.int (vw &&& (3 : Int32))), .val (.ref b1), .val (.ref b13), .val (.ref b21), .val (.ref b27), .val (.int ve)] [(.int ve), (.int (if vf = 0 then 1 else 0))])) t → Steps p.tables e below (s₁.setTop (entryFrame m #[(.long vf), (.int vw), (.int vc1), (.int vc2)] maxLocals)) t := by
        intro t k
        refine pre34 t ?_
        show Steps p.tables e below (T34.setTop (mkF m 109 #[.val (.long vf), .second, .val (.int vw), .val (.int vc1), .val (.int vc2), .val (.int (vw &&& (3 : Int32))), .val (.ref b1), .val (.ref b13), .val (.ref b21), .val (.ref b27), .val (.int ve)] [])) _
        refine XS.aload X34.here hx rfl (hb hby at_109) rfl rfl ?_
        show Steps p.tables e below (T34.setTop (mkF m 111 #[.val (.long vf), .second, .val (.int vw), .val (.int vc1), .val (.int vc2), .val (.int (vw &&& (3 : Int32))), .val (.ref b1), .val (.ref b13), .val (.ref b21), .val (.ref b27), .val (.int ve)] [(.ref b21)])) _
        refine st38.trans ?_
        show Steps p.tables e below (T38.setTop (mkF m 114 #[.val (.long vf), .second, .val (.int vw), .val (.int vc1), .val (.int vc2), .val (.int (vw &&& (3 : Int32))), .val (.ref b1), .val (.ref b13), .val (.ref b21), .val (.ref b27), .val (.int ve)] [(.int (if vf = 0 then 1 else 0))])) _
        refine XS.iload X38.here hx rfl (hb hby at_114) rfl ?_
        show Steps p.tables e below (T38.setTop (mkF m 116 #[.val (.long vf), .second, .val (.int vw), .val (.int vc1), .val (.int vc2), .val (.int (vw &&& (3 : Int32))), .val (.ref b1), .val (.ref b13), .val (.ref b21), .val (.ref b27), .val (.int ve)] [(.int ve), (.int (if vf = 0 then 1 else 0))])) _
        exact k
      have hd42 : (if vf = 0 then 1 else 0) = ve := hj34.symm
      obtain ⟨cq44, kq44, q44a, q44b, q44c⟩ := isOf hZ hh38 Ex31
      obtain ⟨_, _, ⟨T43, L43, k43, n43⟩, -, X43, ⟨Lc43, hQ43, l43, y43, z43⟩, st43⟩ := X38.virtualBack hx (y := (⟨"com/example/adhoc/adhoc/submission/Validator$Report", "isValid", "()Z"⟩ : MethodName)) (z := (⟨"com/example/adhoc/adhoc/submission/Validator$Report", "isValid", "()Z"⟩ : MethodName)) hown (mvT hZ (hw _ (List.mem_of_getElem? (i := 101) rfl))) (mvT hZ (hw _ (List.mem_of_getElem? (i := 102) rfl))) (notFace_of_selects (args := #[]) (mvT hZ (hw _ (List.mem_of_getElem? (i := 104) rfl)))) (mvT hZ (hw _ (List.mem_of_getElem? (i := 104) rfl))) (mvT hZ (hw _ (List.mem_of_getElem? (i := 103) rfl))) (by decide) (backOf (W := 0) (rm_val l Z a0 hw [] b27 vf T31.heap n0 Zp32 Fx31_0) hZ (hw _ (List.mem_of_getElem? (i := 105) rfl)) (hw _ (List.mem_of_getElem? (i := 87) rfl)) (by decide) (by decide)) q44a q44c (g := (mkF m 121 #[.val (.long vf), .second, .val (.int vw), .val (.int vc1), .val (.int vc2), .val (.int (vw &&& (3 : Int32))), .val (.ref b1), .val (.ref b13), .val (.ref b21), .val (.ref b27), .val (.int ve)] [(.ref b27)])) rfl (by rw [hml]; rfl) (Steps.refl _) (argsL := []) (rest := []) (lenOf own_pd9 rfl) rfl (by show 2 * 0 + _ ≤ _; exact Nat.le_of_eq rfl) (hb hby at_121) (fun _ _ => ⟨rfl, hh38, (by decide : 4 + 0 ≤ _), (by decide : 10 + 0 ≤ _)⟩)
      dsimp only [Pt.U, Pt.locs, Pt.cells, Pt.slots] at X43 l43 y43 z43 st43 hQ43
      subst l43 y43 z43
      obtain ⟨rfl, Nq43, hh43⟩ := hQ43
      have Nf43 := Fr.app Nf38 Nq43
      have pre45 : ∀ t, Steps p.tables e below (T43.setTop (mkF m 126 #[.val (.long vf), .second, .val (.int vw), .val (.int vc1), .val (.int vc2), .val (.int (vw &&& (3 : Int32))), .val (.ref b1), .val (.ref b13), .val (.ref b21), .val (.ref b27), .val (.int ve)] [(.int ve), (.int (if vf = 0 then 1 else 0))])) t → Steps p.tables e below (s₁.setTop (entryFrame m #[(.long vf), (.int vw), (.int vc1), (.int vc2)] maxLocals)) t := by
        intro t k
        refine pre41 t ?_
        show Steps p.tables e below (T38.setTop (mkF m 116 #[.val (.long vf), .second, .val (.int vw), .val (.int vc1), .val (.int vc2), .val (.int (vw &&& (3 : Int32))), .val (.ref b1), .val (.ref b13), .val (.ref b21), .val (.ref b27), .val (.int ve)] [(.int ve), (.int (if vf = 0 then 1 else 0))])) _
        refine XS.icmpNo X38.here hx rfl (hb hby at_116) rfl (teq hd42).2 ?_
        show Steps p.tables e below (T38.setTop (mkF m 119 #[.val (.long vf), .second, .val (.int vw), .val (.int vc1), .val (.int vc2), .val (.int (vw &&& (3 : Int32))), .val (.ref b1), .val (.ref b13), .val (.ref b21), .val (.ref b27), .val (.int ve)] [])) _
        refine XS.aload X38.here hx rfl (hb hby at_119) rfl rfl ?_
        show Steps p.tables e below (T38.setTop (mkF m 121 #[.val (.long vf), .second, .val (.int vw), .val (.int vc1), .val (.int vc2), .val (.int (vw &&& (3 : Int32))), .val (.ref b1), .val (.ref b13), .val (.ref b21), .val (.ref b27), .val (.int ve)] [(.ref b27)])) _
        refine st43.trans ?_
        show Steps p.tables e below (T43.setTop (mkF m 124 #[.val (.long vf), .second, .val (.int vw), .val (.int vc1), .val (.int vc2), .val (.int (vw &&& (3 : Int32))), .val (.ref b1), .val (.ref b13), .val (.ref b21), .val (.ref b27), .val (.int ve)] [(.int (if vf = 0 then 1 else 0))])) _
        refine XS.iload X43.here hx rfl (hb hby at_124) rfl ?_
        show Steps p.tables e below (T43.setTop (mkF m 126 #[.val (.long vf), .second, .val (.int vw), .val (.int vc1), .val (.int vc2), .val (.int (vw &&& (3 : Int32))), .val (.ref b1), .val (.ref b13), .val (.ref b21), .val (.ref b27), .val (.int ve)] [(.int ve), (.int (if vf = 0 then 1 else 0))])) _
        exact k
      have hd46 : (if vf = 0 then 1 else 0) = ve := hj34.symm
      obtain ⟨fs, hr, hrun, hended, hW, hsame⟩ := X43.leave (v := some (.int (1 : Int32))) (fun h => by rw [Bd.returns] at h; cases h)
      refine ⟨_, _, pre45 _ ?_, hrun, hended, _, _, rfl, ?_, ⟨_, rfl⟩, hW, hsame.mono (by decide) (by decide)⟩
      · show Steps p.tables e below (T43.setTop (mkF m 126 #[.val (.long vf), .second, .val (.int vw), .val (.int vc1), .val (.int vc2), .val (.int (vw &&& (3 : Int32))), .val (.ref b1), .val (.ref b13), .val (.ref b21), .val (.ref b27), .val (.int ve)] [(.int ve), (.int (if vf = 0 then 1 else 0))])) _
        refine XS.icmpNo X43.here hx rfl (hb hby at_126) rfl (teq hd46).2 ?_
        show Steps p.tables e below (T43.setTop (mkF m 129 #[.val (.long vf), .second, .val (.int vw), .val (.int vc1), .val (.int vc2), .val (.int (vw &&& (3 : Int32))), .val (.ref b1), .val (.ref b13), .val (.ref b21), .val (.ref b27), .val (.int ve)] [])) _
        refine XS.iconst X43.here hx rfl (hb hby at_129) ?_
        show Steps p.tables e below (T43.setTop (mkF m 130 #[.val (.long vf), .second, .val (.int vw), .val (.int vc1), .val (.int vc2), .val (.int (vw &&& (3 : Int32))), .val (.ref b1), .val (.ref b13), .val (.ref b21), .val (.ref b27), .val (.int ve)] [(.int (1 : Int32))])) _
        refine XS.goto X43.here hx rfl (pc0 := 130) (pc' := 134) rfl (hb hby at_130) (by decide) (by decide) ?_
        show Steps p.tables e below (T43.setTop (mkF m 134 #[.val (.long vf), .second, .val (.int vw), .val (.int vc1), .val (.int vc2), .val (.int (vw &&& (3 : Int32))), .val (.ref b1), .val (.ref b13), .val (.ref b21), .val (.ref b27), .val (.int ve)] [(.int (1 : Int32))])) _
        exact retN X43 hx (t := .boolean) Bd.returns (by simp) (hb hby at_134) hr
      · show Q0 Z vf vw vc1 vc2 vcs ade kde h0 n0 _ T43.heap _
        rw [hh43]
        exact ⟨rfl, Nf43⟩
    · have Fc47 := (own_sta_keep K7 (allS (own_plE A1) all0) (Sta.ext E1 S_cs))
      obtain ⟨_, _, ⟨T48, L48, k48, n48⟩, -, X48, ⟨Lc48, hQ48, l48, y48, z48⟩, st48⟩ := Jvm.LawKit.callS X7 hx (y := (⟨"java/lang/String", "valueOf", "(C)Ljava/lang/String;"⟩ : MethodName)) hown (mvT hZ (hw _ (List.mem_of_getElem? (i := 26) rfl))) (mvT hZ (hw _ (List.mem_of_getElem? (i := 27) rfl))) (mvT hZ (hw _ (List.mem_of_getElem? (i := 28) rfl))) (mvT hZ (hw _ (List.mem_of_getElem? (i := 29) rfl))) (by decide) (backOf (W := 1) (rm_vo l Z a0 hw [] ((vc2 &&& (255 : Int32)).toUInt32.toUInt16.toUInt32.toInt32) vcs T7.heap n0 Zp8 Fc47 hcs (own_c255 _)) hZ (hw _ (List.mem_of_getElem? (i := 29) rfl)) (hw _ (List.mem_of_getElem? (i := 28) rfl)) (by decide) (by decide)) (g := (mkF m 52 #[.val (.long vf), .second, .val (.int vw), .val (.int vc1), .val (.int vc2), .val (.int (vw &&& (3 : Int32))), .val (.ref b1), .unset, .unset, .unset, .unset] [(.int ((vc2 &&& (255 : Int32)).toUInt32.toUInt16.toUInt32.toInt32)), (.ref b1)])) rfl (by rw [hml]; rfl) (argsL := [(.int ((vc2 &&& (255 : Int32)).toUInt32.toUInt16.toUInt32.toInt32))]) (rest := [(.ref b1)]) (lenOf own_pd10 rfl) rfl (by show 2 * 0 + _ ≤ _; exact Nat.le_of_eq rfl) (hb hby at_52) (fun _ _ => ⟨rfl, rfl, (by decide : 1 + 2 ≤ _), (by decide : 3 + 5 ≤ _)⟩)
      dsimp only [Pt.U, Pt.locs, Pt.cells, Pt.slots] at X48 l48 y48 z48 st48 hQ48
      subst l48 y48 z48
      obtain ⟨b48, vb48, kc48, y48, rfl, Nq48, K48, g_b48, sz_b48, Ex48, Fv48, Fc48, V48⟩ := hQ48
      have Nf48 := Fr.app Nf7 Nq48
      have Zp49 : n0 ≤ T48.heap.size := Nat.le_trans Zp8 K48.1
      have Fc50 := (Ex7.keep K48)
      have Fc51 := (Fm7.keep K48 nin0)
      have Fc52 := (Fe7.keep K48 nin0)
      have Fc53 := (Fs7.keep K48 nin0)
      have Fc54 := (own_sta_keep K48 all0 (own_sta_keep K7 (allS (own_plE A1) all0) Fc6))
      have Fc55 := (((V_de.ext E1).keep K7 (ninS (Nat.ne_of_lt (Nat.lt_of_lt_of_le (V_de).lt (Nat.le_of_eq g1.symm))) nin0)).keep K48 nin0)
      obtain ⟨cq57, kq57, q57a, q57b, q57c⟩ := isOf hZ rfl Fc50
      obtain ⟨_, _, ⟨T56, L56, k56, n56⟩, -, X56, ⟨Lc56, hQ56, l56, y56, z56⟩, st56⟩ := X48.interfaceBack hx (xi := (⟨"java/util/List", "add", "(Ljava/lang/Object;)Z"⟩ : MethodName)) (y := (⟨"java/util/ArrayList", "add", "(Ljava/lang/Object;)Z"⟩ : MethodName)) hown (mvT hZ (hw _ (List.mem_of_getElem? (i := 50) rfl))) (mvT hZ (hw _ (List.mem_of_getElem? (i := 51) rfl))) (mvT hZ (hw _ (List.mem_of_getElem? (i := 52) rfl))) (mvT hZ (hw _ (List.mem_of_getElem? (i := 53) rfl))) (mvT hZ (hw _ (List.mem_of_getElem? (i := 54) rfl))) (mvT hZ (hw _ (List.mem_of_getElem? (i := 55) rfl))) (mvT hZ (hw _ (List.mem_of_getElem? (i := 56) rfl))) (mvT hZ (hw _ (List.mem_of_getElem? (i := 57) rfl))) (by decide) (backOf (W := 0) (rm_a10 l Z a0 hw [] b1 b48 (0 : Int32) ade kde T48.heap n0 Zp49 Fc50 g_b1 Fc51 Fc52 Fc53 Fc54 Fc55 Ex48) hZ (hw _ (List.mem_of_getElem? (i := 58) rfl)) (hw _ (List.mem_of_getElem? (i := 2) rfl)) (by decide) (by decide)) q57a q57b q57c (g := (mkF m 55 #[.val (.long vf), .second, .val (.int vw), .val (.int vc1), .val (.int vc2), .val (.int (vw &&& (3 : Int32))), .val (.ref b1), .unset, .unset, .unset, .unset] [(.ref b48), (.ref b1)])) rfl (by rw [hml]; rfl) (Steps.refl _) (argsL := [(.ref b48)]) (rest := []) (lenOf own_pd11 rfl) rfl (by show 2 * 0 + _ ≤ _; exact Nat.le_of_eq rfl) (hb hby at_55) (fun _ _ => ⟨rfl, rfl, (by decide : 3 + 1 ≤ _), (by decide : 8 + 10 ≤ _)⟩)
      dsimp only [Pt.U, Pt.locs, Pt.cells, Pt.slots] at X56 l56 y56 z56 st56 hQ56
      subst l56 y56 z56
      obtain ⟨b56, kb56, rfl, Nq56, K56, g_b56, sz_b56, Ex56, Fm56, Fe56, Fs56, V56, O56⟩ := hQ56
      have Nf56 := Fr.app Nf48 Nq56
      have Zp58 : n0 ≤ T56.heap.size := Nat.le_trans Zp49 K56.1
      obtain ⟨T59, h59, X59, e59, E59, A59, D59, U59, st59⟩ := newO X56 hx hZ hown (hw _ (List.mem_of_getElem? (i := 0) rfl)) (hw _ (List.mem_of_getElem? (i := 1) rfl)) (hw _ (List.mem_of_getElem? (i := 2) rfl)) rfl (g := (mkF m 61 #[.val (.long vf), .second, .val (.int vw), .val (.int vc1), .val (.int vc2), .val (.int (vw &&& (3 : Int32))), .val (.ref b1), .unset, .unset, .unset, .unset] [])) rfl (hb hby at_61) (by decide) (by decide)
      obtain ⟨b59, g59⟩ : ∃ z, z = T56.heap.size := ⟨_, rfl⟩
      rw [← g59] at A59 D59 U59 st59
      have g_b59 : n0 ≤ b59 := Nat.le_trans Zp58 (Nat.le_of_eq g59.symm)
      have Zp60 : n0 ≤ h59.size := Nat.le_trans Zp58 E59.1
      have Fn61 : Fld Z h59 b59 "java/util/AbstractList" "modCount" "I" (.int (0 : Int32)) := D59 (Or.inl (hw _ (List.mem_of_getElem? (i := 22) rfl))) (ty := .int) (by decide)
      have Fn62 : Fld Z h59 b59 "java/util/ArrayList" "elementData" "[Ljava/lang/Object;" .null := D59 (Or.inl (hw _ (List.mem_of_getElem? (i := 25) rfl))) (ty := (.array (.object "java/lang/Object"))) (by decide)
      have Fn63 : Fld Z h59 b59 "java/util/ArrayList" "size" "I" (.int (0 : Int32)) := D59 (Or.inl (hw _ (List.mem_of_getElem? (i := 62) rfl))) (ty := .int) (by decide)
      have Fc64 := (Sta.ext E59 (own_sta_keep K56 (allS (own_plE Fc50) all0) Fc54))
      obtain ⟨_, _, ⟨T65, L65, k65, n65⟩, -, X65, ⟨Lc65, hQ65, l65, y65, z65⟩, st65⟩ := X59.specialBack hx (y := (⟨"java/util/ArrayList", "<init>", "()V"⟩ : MethodName)) rfl hown (mvT hZ (hw _ (List.mem_of_getElem? (i := 3) rfl))) (mvT hZ (hw _ (List.mem_of_getElem? (i := 4) rfl))) (mvT hZ (hw _ (List.mem_of_getElem? (i := 5) rfl))) (by decide) (backOf (W := 1) (rm_ai l Z a0 hw [] b59 ade h59 n0 Zp60 A59 g_b59 Fn61 Fn62 Fn63 Fc64) hZ (hw _ (List.mem_of_getElem? (i := 5) rfl)) (hw _ (List.mem_of_getElem? (i := 2) rfl)) (by decide) (by decide)) (g := (mkF m 65 #[.val (.long vf), .second, .val (.int vw), .val (.int vc1), .val (.int vc2), .val (.int (vw &&& (3 : Int32))), .val (.ref b1), .unset, .unset, .unset, .unset] [(.ref b59), (.ref b59)])) rfl (by rw [hml]; rfl) (Steps.refl _) (a := b59) (argsL := []) (rest := [(.ref b59)]) (lenOf own_pd3 rfl) rfl (by show 2 * 0 + _ ≤ _; exact Nat.le_of_eq rfl) (hb hby at_65) (fun _ _ => ⟨rfl, e59, (by decide : 5 + 0 ≤ _), (by decide : 21 + 0 ≤ _)⟩)
      dsimp only [Pt.U, Pt.locs, Pt.cells, Pt.slots] at X65 l65 y65 z65 st65 hQ65
      subst l65 y65 z65
      obtain ⟨rfl, Nq65, K65, Ex65, Fm65, Fe65, Fs65⟩ := hQ65
      have Nf65 := Fr.app Nf56 Nq65
      have Zp66 : n0 ≤ T65.heap.size := Nat.le_trans Zp60 K65.1
      obtain ⟨T67, h67, X67, e67, E67, A67, D67, U67, st67⟩ := newO X65 hx hZ hown (hw _ (List.mem_of_getElem? (i := 85) rfl)) (hw _ (List.mem_of_getElem? (i := 86) rfl)) (hw _ (List.mem_of_getElem? (i := 87) rfl)) rfl (g := (mkF m 70 #[.val (.long vf), .second, .val (.int vw), .val (.int vc1), .val (.int vc2), .val (.int (vw &&& (3 : Int32))), .val (.ref b1), .val (.ref b59), .unset, .unset, .unset] [])) rfl (hb hby at_70) (by decide) (by decide)
      obtain ⟨b67, g67⟩ : ∃ z, z = T65.heap.size := ⟨_, rfl⟩
      rw [← g67] at A67 D67 U67 st67
      have g_b67 : n0 ≤ b67 := Nat.le_trans Zp66 (Nat.le_of_eq g67.symm)
      have Zp68 : n0 ≤ h67.size := Nat.le_trans Zp66 E67.1
      have Fn69 : Fld Z h67 b67 "com/example/adhoc/adhoc/submission/Validator$Report" "faults" "J" (.long (0 : Int64)) := D67 (Or.inr (hw _ (List.mem_of_getElem? (i := 98) rfl))) (ty := .long) (by decide)
      have Fn70 : Fld Z h67 b67 "com/example/adhoc/adhoc/submission/Validator$Report" "warnings" "Ljava/util/List;" .null := D67 (Or.inr (hw _ (List.mem_of_getElem? (i := 100) rfl))) (ty := (.object "java/util/List")) (by decide)
      obtain ⟨_, _, ⟨T71, L71, k71, n71⟩, -, X71, ⟨Lc71, hQ71, l71, y71, z71⟩, st71⟩ := X67.specialBack hx (y := (⟨"com/example/adhoc/adhoc/submission/Validator$Report", "<init>", "(JLjava/util/List;)V"⟩ : MethodName)) rfl hown (mvT hZ (hw _ (List.mem_of_getElem? (i := 88) rfl))) (mvT hZ (hw _ (List.mem_of_getElem? (i := 89) rfl))) (mvT hZ (hw _ (List.mem_of_getElem? (i := 90) rfl))) (by decide) (backOf (W := 1) (rm_rep l Z a0 hw [] b67 vf b1 h67 n0 Zp68 A67 g_b67 Fn69 Fn70) hZ (hw _ (List.mem_of_getElem? (i := 90) rfl)) (hw _ (List.mem_of_getElem? (i := 87) rfl)) (by decide) (by decide)) (g := (mkF m 77 #[.val (.long vf), .second, .val (.int vw), .val (.int vc1), .val (.int vc2), .val (.int (vw &&& (3 : Int32))), .val (.ref b1), .val (.ref b59), .unset, .unset, .unset] [(.ref b1), (.long vf), (.ref b67), (.ref b67)])) rfl (by rw [hml]; rfl) (Steps.refl _) (a := b67) (argsL := [(.long vf), (.ref b1)]) (rest := [(.ref b67)]) (lenOf own_pd8 rfl) rfl (by show 2 * 0 + _ ≤ _; exact Nat.le_of_eq rfl) (hb hby at_77) (fun _ _ => ⟨rfl, e67, (by decide : 6 + 0 ≤ _), (by decide : 23 + 0 ≤ _)⟩)
      dsimp only [Pt.U, Pt.locs, Pt.cells, Pt.slots] at X71 l71 y71 z71 st71 hQ71
      subst l71 y71 z71
      obtain ⟨rfl, Nq71, K71, Ex71, Fx71_0, Fx71_1⟩ := hQ71
      have Nf71 := Fr.app Nf65 Nq71
      have Zp72 : n0 ≤ T71.heap.size := Nat.le_trans Zp68 K71.1
      obtain ⟨T73, h73, X73, e73, E73, A73, D73, U73, st73⟩ := newO X71 hx hZ hown (hw _ (List.mem_of_getElem? (i := 85) rfl)) (hw _ (List.mem_of_getElem? (i := 86) rfl)) (hw _ (List.mem_of_getElem? (i := 87) rfl)) rfl (g := (mkF m 82 #[.val (.long vf), .second, .val (.int vw), .val (.int vc1), .val (.int vc2), .val (.int (vw &&& (3 : Int32))), .val (.ref b1), .val (.ref b59), .val (.ref b67), .unset, .unset] [])) rfl (hb hby at_82) (by decide) (by decide)
      obtain ⟨b73, g73⟩ : ∃ z, z = T71.heap.size := ⟨_, rfl⟩
      rw [← g73] at A73 D73 U73 st73
      have g_b73 : n0 ≤ b73 := Nat.le_trans Zp72 (Nat.le_of_eq g73.symm)
      have Zp74 : n0 ≤ h73.size := Nat.le_trans Zp72 E73.1
      have Fn75 : Fld Z h73 b73 "com/example/adhoc/adhoc/submission/Validator$Report" "faults" "J" (.long (0 : Int64)) := D73 (Or.inr (hw _ (List.mem_of_getElem? (i := 98) rfl))) (ty := .long) (by decide)
      have Fn76 : Fld Z h73 b73 "com/example/adhoc/adhoc/submission/Validator$Report" "warnings" "Ljava/util/List;" .null := D73 (Or.inr (hw _ (List.mem_of_getElem? (i := 100) rfl))) (ty := (.object "java/util/List")) (by decide)
      obtain ⟨_, _, ⟨T77, L77, k77, n77⟩, -, X77, ⟨Lc77, hQ77, l77, y77, z77⟩, st77⟩ := X73.specialBack hx (y := (⟨"com/example/adhoc/adhoc/submission/Validator$Report", "<init>", "(JLjava/util/List;)V"⟩ : MethodName)) rfl hown (mvT hZ (hw _ (List.mem_of_getElem? (i := 88) rfl))) (mvT hZ (hw _ (List.mem_of_getElem? (i := 89) rfl))) (mvT hZ (hw _ (List.mem_of_getElem? (i := 90) rfl))) (by decide) (backOf (W := 1) (rm_rep l Z a0 hw [] b73 vf b59 h73 n0 Zp74 A73 g_b73 Fn75 Fn76) hZ (hw _ (List.mem_of_getElem? (i := 90) rfl)) (hw _ (List.mem_of_getElem? (i := 87) rfl)) (by decide) (by decide)) (g := (mkF m 89 #[.val (.long vf), .second, .val (.int vw), .val (.int vc1), .val (.int vc2), .val (.int (vw &&& (3 : Int32))), .val (.ref b1), .val (.ref b59), .val (.ref b67), .unset, .unset] [(.ref b59), (.long vf), (.ref b73), (.ref b73)])) rfl (by rw [hml]; rfl) (Steps.refl _) (a := b73) (argsL := [(.long vf), (.ref b59)]) (rest := [(.ref b73)]) (lenOf own_pd8 rfl) rfl (by show 2 * 0 + _ ≤ _; exact Nat.le_of_eq rfl) (hb hby at_89) (fun _ _ => ⟨rfl, e73, (by decide : 7 + 0 ≤ _), (by decide : 25 + 0 ≤ _)⟩)
      dsimp only [Pt.U, Pt.locs, Pt.cells, Pt.slots] at X77 l77 y77 z77 st77 hQ77
      subst l77 y77 z77
      obtain ⟨rfl, Nq77, K77, Ex77, Fx77_0, Fx77_1⟩ := hQ77
      have Nf77 := Fr.app Nf71 Nq77
      have Zp78 : n0 ≤ T77.heap.size := Nat.le_trans Zp74 K77.1
      have pre79 : ∀ t, Steps p.tables e below (T77.setTop (mkF m 94 #[.val (.long vf), .second, .val (.int vw), .val (.int vc1), .val (.int vc2), .val (.int (vw &&& (3 : Int32))), .val (.ref b1), .val (.ref b59), .val (.ref b67), .val (.ref b73), .unset] [])) t → Steps p.tables e below (s₁.setTop (entryFrame m #[(.long vf), (.int vw), (.int vc1), (.int vc2)] maxLocals)) t := by
        intro t k
        refine pre11 t ?_
        show Steps p.tables e below (T7.setTop (mkF m 40 #[.val (.long vf), .second, .val (.int vw), .val (.int vc1), .val (.int vc2), .val (.int (vw &&& (3 : Int32))), .val (.ref b1), .unset, .unset, .unset, .unset] [(.int (2 : Int32)), (.int (vw &&& (3 : Int32)))])) _
        refine XS.icmpNo X7.here hx rfl (hb hby at_40) rfl (flt hc12).1 ?_
        show Steps p.tables e below (T7.setTop (mkF m 43 #[.val (.long vf), .second, .val (.int vw), .val (.int vc1), .val (.int vc2), .val (.int (vw &&& (3 : Int32))), .val (.ref b1), .unset, .unset, .unset, .unset] [])) _
        refine XS.aload X7.here hx rfl (hb hby at_43) rfl rfl ?_
        show Steps p.tables e below (T7.setTop (mkF m 45 #[.val (.long vf), .second, .val (.int vw), .val (.int vc1), .val (.int vc2), .val (.int (vw &&& (3 : Int32))), .val (.ref b1), .unset, .unset, .unset, .unset] [(.ref b1)])) _
        refine XS.iload X7.here hx rfl (hb hby at_45) rfl ?_
        show Steps p.tables e below (T7.setTop (mkF m 47 #[.val (.long vf), .second, .val (.int vw), .val (.int vc1), .val (.int vc2), .val (.int (vw &&& (3 : Int32))), .val (.ref b1), .unset, .unset, .unset, .unset] [(.int vc2), (.ref b1)])) _
        refine XS.sipush X7.here hx rfl (hb hby at_47) ?_
        show Steps p.tables e below (T7.setTop (mkF m 50 #[.val (.long vf), .second, .val (.int vw), .val (.int vc1), .val (.int vc2), .val (.int (vw &&& (3 : Int32))), .val (.ref b1), .unset, .unset, .unset, .unset] [(.int (255 : Int32)), (.int vc2), (.ref b1)])) _
        refine XS.iand X7.here hx rfl (hb hby at_50) rfl ?_
        show Steps p.tables e below (T7.setTop (mkF m 51 #[.val (.long vf), .second, .val (.int vw), .val (.int vc1), .val (.int vc2), .val (.int (vw &&& (3 : Int32))), .val (.ref b1), .unset, .unset, .unset, .unset] [(.int (vc2 &&& (255 : Int32))), (.ref b1)])) _
        refine XS.i2c X7.here hx rfl (hb hby at_51) rfl ?_
        show Steps p.tables e below (T7.setTop (mkF m 52 #[.val (.long vf), .second, .val (.int vw), .val (.int vc1), .val (.int vc2), .val (.int (vw &&& (3 : Int32))), .val (.ref b1), .unset, .unset, .unset, .unset] [(.int ((vc2 &&& (255 : Int32)).toUInt32.toUInt16.toUInt32.toInt32)), (.ref b1)])) _
        refine st48 _ ?_
        show Steps p.tables e below (T48.setTop (mkF m 55 #[.val (.long vf), .second, .val (.int vw), .val (.int vc1), .val (.int vc2), .val (.int (vw &&& (3 : Int32))), .val (.ref b1), .unset, .unset, .unset, .unset] [(.ref b48), (.ref b1)])) _
        refine st56.trans ?_
        show Steps p.tables e below (T56.setTop (mkF m 60 #[.val (.long vf), .second, .val (.int vw), .val (.int vc1), .val (.int vc2), .val (.int (vw &&& (3 : Int32))), .val (.ref b1), .unset, .unset, .unset, .unset] [(.int (1 : Int32))])) _
        refine XS.pop X56.here hx rfl (hb hby at_60) rfl rfl ?_
        show Steps p.tables e below (T56.setTop (mkF m 61 #[.val (.long vf), .second, .val (.int vw), .val (.int vc1), .val (.int vc2), .val (.int (vw &&& (3 : Int32))), .val (.ref b1), .unset, .unset, .unset, .unset] [])) _
        refine st59 _ ?_
        show Steps p.tables e below (T59.setTop (mkF m 64 #[.val (.long vf), .second, .val (.int vw), .val (.int vc1), .val (.int vc2), .val (.int (vw &&& (3 : Int32))), .val (.ref b1), .unset, .unset, .unset, .unset] [(.ref b59)])) _
        refine XS.dup X59.here hx rfl (hb hby at_64) rfl rfl ?_
        show Steps p.tables e below (T59.setTop (mkF m 65 #[.val (.long vf), .second, .val (.int vw), .val (.int vc1), .val (.int vc2), .val (.int (vw &&& (3 : Int32))), .val (.ref b1), .unset, .unset, .unset, .unset] [(.ref b59), (.ref b59)])) _
        refine st65.trans ?_
        show Steps p.tables e below (T65.setTop (mkF m 68 #[.val (.long vf), .second, .val (.int vw), .val (.int vc1), .val (.int vc2), .val (.int (vw &&& (3 : Int32))), .val (.ref b1), .unset, .unset, .unset, .unset] [(.ref b59)])) _
        refine XS.astore X65.here hx rfl (hb hby at_68) rfl rfl (l' := #[.val (.long vf), .second, .val (.int vw), .val (.int vc1), .val (.int vc2), .val (.int (vw &&& (3 : Int32))), .val (.ref b1), .val (.ref b59), .unset, .unset, .unset]) rfl ?_
        show Steps p.tables e below (T65.setTop (mkF m 70 #[.val (.long vf), .second, .val (.int vw), .val (.int vc1), .val (.int vc2), .val (.int (vw &&& (3 : Int32))), .val (.ref b1), .val (.ref b59), .unset, .unset, .unset] [])) _
        refine st67 _ ?_
        show Steps p.tables e below (T67.setTop (mkF m 73 #[.val (.long vf), .second, .val (.int vw), .val (.int vc1), .val (.int vc2), .val (.int (vw &&& (3 : Int32))), .val (.ref b1), .val (.ref b59), .unset, .unset, .unset] [(.ref b67)])) _
        refine XS.dup X67.here hx rfl (hb hby at_73) rfl rfl ?_
        show Steps p.tables e below (T67.setTop (mkF m 74 #[.val (.long vf), .second, .val (.int vw), .val (.int vc1), .val (.int vc2), .val (.int (vw &&& (3 : Int32))), .val (.ref b1), .val (.ref b59), .unset, .unset, .unset] [(.ref b67), (.ref b67)])) _
        refine XS.lloadN X67.here hx rfl (hb hby at_74) rfl ?_
        show Steps p.tables e below (T67.setTop (mkF m 75 #[.val (.long vf), .second, .val (.int vw), .val (.int vc1), .val (.int vc2), .val (.int (vw &&& (3 : Int32))), .val (.ref b1), .val (.ref b59), .unset, .unset, .unset] [(.long vf), (.ref b67), (.ref b67)])) _
        refine XS.aload X67.here hx rfl (hb hby at_75) rfl rfl ?_
        show Steps p.tables e below (T67.setTop (mkF m 77 #[.val (.long vf), .second, .val (.int vw), .val (.int vc1), .val (.int vc2), .val (.int (vw &&& (3 : Int32))), .val (.ref b1), .val (.ref b59), .unset, .unset, .unset] [(.ref b1), (.long vf), (.ref b67), (.ref b67)])) _
        refine st71.trans ?_
        show Steps p.tables e below (T71.setTop (mkF m 80 #[.val (.long vf), .second, .val (.int vw), .val (.int vc1), .val (.int vc2), .val (.int (vw &&& (3 : Int32))), .val (.ref b1), .val (.ref b59), .unset, .unset, .unset] [(.ref b67)])) _
        refine XS.astore X71.here hx rfl (hb hby at_80) rfl rfl (l' := #[.val (.long vf), .second, .val (.int vw), .val (.int vc1), .val (.int vc2), .val (.int (vw &&& (3 : Int32))), .val (.ref b1), .val (.ref b59), .val (.ref b67), .unset, .unset]) rfl ?_
        show Steps p.tables e below (T71.setTop (mkF m 82 #[.val (.long vf), .second, .val (.int vw), .val (.int vc1), .val (.int vc2), .val (.int (vw &&& (3 : Int32))), .val (.ref b1), .val (.ref b59), .val (.ref b67), .unset, .unset] [])) _
        refine st73 _ ?_
        show Steps p.tables e below (T73.setTop (mkF m 85 #[.val (.long vf), .second, .val (.int vw), .val (.int vc1), .val (.int vc2), .val (.int (vw &&& (3 : Int32))), .val (.ref b1), .val (.ref b59), .val (.ref b67), .unset, .unset] [(.ref b73)])) _
        refine XS.dup X73.here hx rfl (hb hby at_85) rfl rfl ?_
        show Steps p.tables e below (T73.setTop (mkF m 86 #[.val (.long vf), .second, .val (.int vw), .val (.int vc1), .val (.int vc2), .val (.int (vw &&& (3 : Int32))), .val (.ref b1), .val (.ref b59), .val (.ref b67), .unset, .unset] [(.ref b73), (.ref b73)])) _
        refine XS.lloadN X73.here hx rfl (hb hby at_86) rfl ?_
        show Steps p.tables e below (T73.setTop (mkF m 87 #[.val (.long vf), .second, .val (.int vw), .val (.int vc1), .val (.int vc2), .val (.int (vw &&& (3 : Int32))), .val (.ref b1), .val (.ref b59), .val (.ref b67), .unset, .unset] [(.long vf), (.ref b73), (.ref b73)])) _
        refine XS.aload X73.here hx rfl (hb hby at_87) rfl rfl ?_
        show Steps p.tables e below (T73.setTop (mkF m 89 #[.val (.long vf), .second, .val (.int vw), .val (.int vc1), .val (.int vc2), .val (.int (vw &&& (3 : Int32))), .val (.ref b1), .val (.ref b59), .val (.ref b67), .unset, .unset] [(.ref b59), (.long vf), (.ref b73), (.ref b73)])) _
        refine st77.trans ?_
        show Steps p.tables e below (T77.setTop (mkF m 92 #[.val (.long vf), .second, .val (.int vw), .val (.int vc1), .val (.int vc2), .val (.int (vw &&& (3 : Int32))), .val (.ref b1), .val (.ref b59), .val (.ref b67), .unset, .unset] [(.ref b73)])) _
        refine XS.astore X77.here hx rfl (hb hby at_92) rfl rfl (l' := #[.val (.long vf), .second, .val (.int vw), .val (.int vc1), .val (.int vc2), .val (.int (vw &&& (3 : Int32))), .val (.ref b1), .val (.ref b59), .val (.ref b67), .val (.ref b73), .unset]) rfl ?_
        show Steps p.tables e below (T77.setTop (mkF m 94 #[.val (.long vf), .second, .val (.int vw), .val (.int vc1), .val (.int vc2), .val (.int (vw &&& (3 : Int32))), .val (.ref b1), .val (.ref b59), .val (.ref b67), .val (.ref b73), .unset] [])) _
        exact k
      obtain ⟨ve, T80, lo80, X80, Nj80, ej80, hj80, pre80⟩ : ∃ (ve : Int32) (T' : State) (lo : List Loc), Stand p l e room_1 s m #[(.long vf), (.int vw), (.int vc1), (.int vc2)] below meth c T' lo 7 25 ∧ Fr n0 lo ∧ T'.heap = T77.heap ∧ (ve = if vf = 0 then 1 else 0) ∧ ∀ t, Steps p.tables e below (T'.setTop (mkF m 109 #[.val (.long vf), .second, .val (.int vw), .val (.int vc1), .val (.int vc2), .val (.int (vw &&& (3 : Int32))), .val (.ref b1), .val (.ref b59), .val (.ref b67), .val (.ref b73), .val (.int ve)] [])) t → Steps p.tables e below (s₁.setTop (entryFrame m #[(.long vf), (.int vw), (.int vc1), (.int vc2)] maxLocals)) t := by
        have pre81 : ∀ t, Steps p.tables e below (T77.setTop (mkF m 97 #[.val (.long vf), .second, .val (.int vw), .val (.int vc1), .val (.int vc2), .val (.int (vw &&& (3 : Int32))), .val (.ref b1), .val (.ref b59), .val (.ref b67), .val (.ref b73), .unset] [(.int (lcmpW vf (0 : Int64)))])) t → Steps p.tables e below (s₁.setTop (entryFrame m #[(.long vf), (.int vw), (.int vc1), (.int vc2)] maxLocals)) t := by
          intro t k
          refine pre79 t ?_
          show Steps p.tables e below (T77.setTop (mkF m 94 #[.val (.long vf), .second, .val (.int vw), .val (.int vc1), .val (.int vc2), .val (.int (vw &&& (3 : Int32))), .val (.ref b1), .val (.ref b59), .val (.ref b67), .val (.ref b73), .unset] [])) _
          refine XS.lloadN X77.here hx rfl (hb hby at_94) rfl ?_
          show Steps p.tables e below (T77.setTop (mkF m 95 #[.val (.long vf), .second, .val (.int vw), .val (.int vc1), .val (.int vc2), .val (.int (vw &&& (3 : Int32))), .val (.ref b1), .val (.ref b59), .val (.ref b67), .val (.ref b73), .unset] [(.long vf)])) _
          refine XS.lconst X77.here hx rfl (hb hby at_95) ?_
          show Steps p.tables e below (T77.setTop (mkF m 96 #[.val (.long vf), .second, .val (.int vw), .val (.int vc1), .val (.int vc2), .val (.int (vw &&& (3 : Int32))), .val (.ref b1), .val (.ref b59), .val (.ref b67), .val (.ref b73), .unset] [(.long (0 : Int64)), (.long vf)])) _
          refine XS.lcmp X77.here hx rfl (hb hby at_96) rfl ?_
          show Steps p.tables e below (T77.setTop (mkF m 97 #[.val (.long vf), .second, .val (.int vw), .val (.int vc1), .val (.int vc2), .val (.int (vw &&& (3 : Int32))), .val (.ref b1), .val (.ref b59), .val (.ref b67), .val (.ref b73), .unset] [(.int (lcmpW vf (0 : Int64)))])) _
          exact k
        by_cases hc82 : vf = (0 : Int64)
        · refine ⟨(1 : Int32), T77, _, X77, Nf77, rfl, (if_pos hc82).symm, fun t k => ?_⟩
          refine pre81 t ?_
          show Steps p.tables e below (T77.setTop (mkF m 97 #[.val (.long vf), .second, .val (.int vw), .val (.int vc1), .val (.int vc2), .val (.int (vw &&& (3 : Int32))), .val (.ref b1), .val (.ref b59), .val (.ref b67), .val (.ref b73), .unset] [(.int (lcmpW vf (0 : Int64)))])) _
          refine XS.ifNo X77.here hx rfl (hb hby at_97) rfl ((if0 _ _).trans (teq ((lw_eq _ _).mpr hc82)).2) ?_
          show Steps p.tables e below (T77.setTop (mkF m 100 #[.val (.long vf), .second, .val (.int vw), .val (.int vc1), .val (.int vc2), .val (.int (vw &&& (3 : Int32))), .val (.ref b1), .val (.ref b59), .val (.ref b67), .val (.ref b73), .unset] [])) _
          refine XS.iconst X77.here hx rfl (hb hby at_100) ?_
          show Steps p.tables e below (T77.setTop (mkF m 101 #[.val (.long vf), .second, .val (.int vw), .val (.int vc1), .val (.int vc2), .val (.int (vw &&& (3 : Int32))), .val (.ref b1), .val (.ref b59), .val (.ref b67), .val (.ref b73), .unset] [(.int (1 : Int32))])) _
          refine XS.istore X77.here hx rfl (hb hby at_101) rfl (l' := #[.val (.long vf), .second, .val (.int vw), .val (.int vc1), .val (.int vc2), .val (.int (vw &&& (3 : Int32))), .val (.ref b1), .val (.ref b59), .val (.ref b67), .val (.ref b73), .val (.int (1 : Int32))]) rfl ?_
          show Steps p.tables e below (T77.setTop (mkF m 103 #[.val (.long vf), .second, .val (.int vw), .val (.int vc1), .val (.int vc2), .val (.int (vw &&& (3 : Int32))), .val (.ref b1), .val (.ref b59), .val (.ref b67), .val (.ref b73), .val (.int (1 : Int32))] [])) _
          refine XS.goto X77.here hx rfl (pc0 := 103) (pc' := 109) rfl (hb hby at_103) (by decide) (by decide) ?_
          show Steps p.tables e below (T77.setTop (mkF m 109 #[.val (.long vf), .second, .val (.int vw), .val (.int vc1), .val (.int vc2), .val (.int (vw &&& (3 : Int32))), .val (.ref b1), .val (.ref b59), .val (.ref b67), .val (.ref b73), .val (.int (1 : Int32))] [])) _
          exact k
        · refine ⟨(0 : Int32), T77, _, X77, Nf77, rfl, (if_neg hc82).symm, fun t k => ?_⟩
          refine pre81 t ?_
          show Steps p.tables e below (T77.setTop (mkF m 97 #[.val (.long vf), .second, .val (.int vw), .val (.int vc1), .val (.int vc2), .val (.int (vw &&& (3 : Int32))), .val (.ref b1), .val (.ref b59), .val (.ref b67), .val (.ref b73), .unset] [(.int (lcmpW vf (0 : Int64)))])) _
          refine XS.ifYes X77.here hx rfl (pc0 := 97) (pc' := 106) rfl (hb hby at_97) rfl ((if0 _ _).trans (feq (mt (lw_eq _ _).mp hc82)).2) (by decide) (by decide) ?_
          show Steps p.tables e below (T77.setTop (mkF m 106 #[.val (.long vf), .second, .val (.int vw), .val (.int vc1), .val (.int vc2), .val (.int (vw &&& (3 : Int32))), .val (.ref b1), .val (.ref b59), .val (.ref b67), .val (.ref b73), .unset] [])) _
          refine XS.iconst X77.here hx rfl (hb hby at_106) ?_
          show Steps p.tables e below (T77.setTop (mkF m 107 #[.val (.long vf), .second, .val (.int vw), .val (.int vc1), .val (.int vc2), .val (.int (vw &&& (3 : Int32))), .val (.ref b1), .val (.ref b59), .val (.ref b67), .val (.ref b73), .unset] [(.int (0 : Int32))])) _
          refine XS.istore X77.here hx rfl (hb hby at_107) rfl (l' := #[.val (.long vf), .second, .val (.int vw), .val (.int vc1), .val (.int vc2), .val (.int (vw &&& (3 : Int32))), .val (.ref b1), .val (.ref b59), .val (.ref b67), .val (.ref b73), .val (.int (0 : Int32))]) rfl ?_
          show Steps p.tables e below (T77.setTop (mkF m 109 #[.val (.long vf), .second, .val (.int vw), .val (.int vc1), .val (.int vc2), .val (.int (vw &&& (3 : Int32))), .val (.ref b1), .val (.ref b59), .val (.ref b67), .val (.ref b73), .val (.int (0 : Int32))] [])) _
          exact k
      have Fc83 := ((Fld.ext E73 Fx71_0).keep K77 (ninS (Nat.ne_of_lt (Nat.lt_of_lt_of_le (Ex71).lt (Nat.le_of_eq g73.symm))) nin0))
      have Fc86 := ((Exa.ext E73 Ex71).keep K77)
      obtain ⟨cq85, kq85, q85a, q85b, q85c⟩ := isOf hZ ej80 Fc86
      obtain ⟨_, _, ⟨T84, L84, k84, n84⟩, -, X84, ⟨Lc84, hQ84, l84, y84, z84⟩, st84⟩ := X80.virtualBack hx (y := (⟨"com/example/adhoc/adhoc/submission/Validator$Report", "isValid", "()Z"⟩ : MethodName)) (z := (⟨"com/example/adhoc/adhoc/submission/Validator$Report", "isValid", "()Z"⟩ : MethodName)) hown (mvT hZ (hw _ (List.mem_of_getElem? (i := 101) rfl))) (mvT hZ (hw _ (List.mem_of_getElem? (i := 102) rfl))) (notFace_of_selects (args := #[]) (mvT hZ (hw _ (List.mem_of_getElem? (i := 104) rfl)))) (mvT hZ (hw _ (List.mem_of_getElem? (i := 104) rfl))) (mvT hZ (hw _ (List.mem_of_getElem? (i := 103) rfl))) (by decide) (backOf (W := 0) (rm_val l Z a0 hw [] b67 vf T77.heap n0 Zp78 Fc83) hZ (hw _ (List.mem_of_getElem? (i := 105) rfl)) (hw _ (List.mem_of_getElem? (i := 87) rfl)) (by decide) (by decide)) q85a q85c (g := (mkF m 111 #[.val (.long vf), .second, .val (.int vw), .val (.int vc1), .val (.int vc2), .val (.int (vw &&& (3 : Int32))), .val (.ref b1), .val (.ref b59), .val (.ref b67), .val (.ref b73), .val (.int ve)] [(.ref b67)])) rfl (by rw [hml]; rfl) (Steps.refl _) (argsL := []) (rest := []) (lenOf own_pd9 rfl) rfl (by show 2 * 0 + _ ≤ _; exact Nat.le_of_eq rfl) (hb hby at_111) (fun _ _ => ⟨rfl, ej80, (by decide : 7 + 0 ≤ _), (by decide : 25 + 0 ≤ _)⟩)
      dsimp only [Pt.U, Pt.locs, Pt.cells, Pt.slots] at X84 l84 y84 z84 st84 hQ84
      subst l84 y84 z84
      obtain ⟨rfl, Nq84, hh84⟩ := hQ84
      have Nf84 := Fr.app Nj80 Nq84
      have pre87 : ∀ t, Steps p.tables e below (T84.setTop (mkF m 116 #[.val (.long vf), .second, .val (.int vw), .val (.int vc1), .val (.int vc2), .val (.int (vw &&& (3 : Int32))), .val (.ref b1), .val (.ref b59), .val (.ref b67), .val (.ref b73), .val (.int ve)] [(.int ve), (.int (if vf = 0 then 1 else 0))])) t → Steps p.tables e below (s₁.setTop (entryFrame m #[(.long vf), (.int vw), (.int vc1), (.int vc2)] maxLocals)) t := by
        intro t k
        refine pre80 t ?_
        show Steps p.tables e below (T80.setTop (mkF m 109 #[.val (.long vf), .second, .val (.int vw), .val (.int vc1), .val (.int vc2), .val (.int (vw &&& (3 : Int32))), .val (.ref b1), .val (.ref b59), .val (.ref b67), .val (.ref b73), .val (.int ve)] [])) _
        refine XS.aload X80.here hx rfl (hb hby at_109) rfl rfl ?_
        show Steps p.tables e below (T80.setTop (mkF m 111 #[.val (.long vf), .second, .val (.int vw), .val (.int vc1), .val (.int vc2), .val (.int (vw &&& (3 : Int32))), .val (.ref b1), .val (.ref b59), .val (.ref b67), .val (.ref b73), .val (.int ve)] [(.ref b67)])) _
        refine st84.trans ?_
        show Steps p.tables e below (T84.setTop (mkF m 114 #[.val (.long vf), .second, .val (.int vw), .val (.int vc1), .val (.int vc2), .val (.int (vw &&& (3 : Int32))), .val (.ref b1), .val (.ref b59), .val (.ref b67), .val (.ref b73), .val (.int ve)] [(.int (if vf = 0 then 1 else 0))])) _
        refine XS.iload X84.here hx rfl (hb hby at_114) rfl ?_
        show Steps p.tables e below (T84.setTop (mkF m 116 #[.val (.long vf), .second, .val (.int vw), .val (.int vc1), .val (.int vc2), .val (.int (vw &&& (3 : Int32))), .val (.ref b1), .val (.ref b59), .val (.ref b67), .val (.ref b73), .val (.int ve)] [(.int ve), (.int (if vf = 0 then 1 else 0))])) _
        exact k
      have hd88 : (if vf = 0 then 1 else 0) = ve := hj80.symm
      obtain ⟨cq90, kq90, q90a, q90b, q90c⟩ := isOf hZ hh84 Ex77
      obtain ⟨_, _, ⟨T89, L89, k89, n89⟩, -, X89, ⟨Lc89, hQ89, l89, y89, z89⟩, st89⟩ := X84.virtualBack hx (y := (⟨"com/example/adhoc/adhoc/submission/Validator$Report", "isValid", "()Z"⟩ : MethodName)) (z := (⟨"com/example/adhoc/adhoc/submission/Validator$Report", "isValid", "()Z"⟩ : MethodName)) hown (mvT hZ (hw _ (List.mem_of_getElem? (i := 101) rfl))) (mvT hZ (hw _ (List.mem_of_getElem? (i := 102) rfl))) (notFace_of_selects (args := #[]) (mvT hZ (hw _ (List.mem_of_getElem? (i := 104) rfl)))) (mvT hZ (hw _ (List.mem_of_getElem? (i := 104) rfl))) (mvT hZ (hw _ (List.mem_of_getElem? (i := 103) rfl))) (by decide) (backOf (W := 0) (rm_val l Z a0 hw [] b73 vf T77.heap n0 Zp78 Fx77_0) hZ (hw _ (List.mem_of_getElem? (i := 105) rfl)) (hw _ (List.mem_of_getElem? (i := 87) rfl)) (by decide) (by decide)) q90a q90c (g := (mkF m 121 #[.val (.long vf), .second, .val (.int vw), .val (.int vc1), .val (.int vc2), .val (.int (vw &&& (3 : Int32))), .val (.ref b1), .val (.ref b59), .val (.ref b67), .val (.ref b73), .val (.int ve)] [(.ref b73)])) rfl (by rw [hml]; rfl) (Steps.refl _) (argsL := []) (rest := []) (lenOf own_pd9 rfl) rfl (by show 2 * 0 + _ ≤ _; exact Nat.le_of_eq rfl) (hb hby at_121) (fun _ _ => ⟨rfl, hh84, (by decide : 7 + 0 ≤ _), (by decide : 25 + 0 ≤ _)⟩)
      dsimp only [Pt.U, Pt.locs, Pt.cells, Pt.slots] at X89 l89 y89 z89 st89 hQ89
      subst l89 y89 z89
      obtain ⟨rfl, Nq89, hh89⟩ := hQ89
      have Nf89 := Fr.app Nf84 Nq89
      have pre91 : ∀ t, Steps p.tables e below (T89.setTop (mkF m 126 #[.val (.long vf), .second, .val (.int vw), .val (.int vc1), .val (.int vc2), .val (.int (vw &&& (3 : Int32))), .val (.ref b1), .val (.ref b59), .val (.ref b67), .val (.ref b73), .val (.int ve)] [(.int ve), (.int (if vf = 0 then 1 else 0))])) t → Steps p.tables e below (s₁.setTop (entryFrame m #[(.long vf), (.int vw), (.int vc1), (.int vc2)] maxLocals)) t := by
        intro t k
        refine pre87 t ?_
        show Steps p.tables e below (T84.setTop (mkF m 116 #[.val (.long vf), .second, .val (.int vw), .val (.int vc1), .val (.int vc2), .val (.int (vw &&& (3 : Int32))), .val (.ref b1), .val (.ref b59), .val (.ref b67), .val (.ref b73), .val (.int ve)] [(.int ve), (.int (if vf = 0 then 1 else 0))])) _
        refine XS.icmpNo X84.here hx rfl (hb hby at_116) rfl (teq hd88).2 ?_
        show Steps p.tables e below (T84.setTop (mkF m 119 #[.val (.long vf), .second, .val (.int vw), .val (.int vc1), .val (.int vc2), .val (.int (vw &&& (3 : Int32))), .val (.ref b1), .val (.ref b59), .val (.ref b67), .val (.ref b73), .val (.int ve)] [])) _
        refine XS.aload X84.here hx rfl (hb hby at_119) rfl rfl ?_
        show Steps p.tables e below (T84.setTop (mkF m 121 #[.val (.long vf), .second, .val (.int vw), .val (.int vc1), .val (.int vc2), .val (.int (vw &&& (3 : Int32))), .val (.ref b1), .val (.ref b59), .val (.ref b67), .val (.ref b73), .val (.int ve)] [(.ref b73)])) _
        refine st89.trans ?_
        show Steps p.tables e below (T89.setTop (mkF m 124 #[.val (.long vf), .second, .val (.int vw), .val (.int vc1), .val (.int vc2), .val (.int (vw &&& (3 : Int32))), .val (.ref b1), .val (.ref b59), .val (.ref b67), .val (.ref b73), .val (.int ve)] [(.int (if vf = 0 then 1 else 0))])) _
        refine XS.iload X89.here hx rfl (hb hby at_124) rfl ?_
        show Steps p.tables e below (T89.setTop (mkF m 126 #[.val (.long vf), .second, .val (.int vw), .val (.int vc1), .val (.int vc2), .val (.int (vw &&& (3 : Int32))), .val (.ref b1), .val (.ref b59), .val (.ref b67), .val (.ref b73), .val (.int ve)] [(.int ve), (.int (if vf = 0 then 1 else 0))])) _
        exact k
      have hd92 : (if vf = 0 then 1 else 0) = ve := hj80.symm
      obtain ⟨fs, hr, hrun, hended, hW, hsame⟩ := X89.leave (v := some (.int (1 : Int32))) (fun h => by rw [Bd.returns] at h; cases h)
      refine ⟨_, _, pre91 _ ?_, hrun, hended, _, _, rfl, ?_, ⟨_, rfl⟩, hW, hsame.mono (by decide) (by decide)⟩
      · show Steps p.tables e below (T89.setTop (mkF m 126 #[.val (.long vf), .second, .val (.int vw), .val (.int vc1), .val (.int vc2), .val (.int (vw &&& (3 : Int32))), .val (.ref b1), .val (.ref b59), .val (.ref b67), .val (.ref b73), .val (.int ve)] [(.int ve), (.int (if vf = 0 then 1 else 0))])) _
        refine XS.icmpNo X89.here hx rfl (hb hby at_126) rfl (teq hd92).2 ?_
        show Steps p.tables e below (T89.setTop (mkF m 129 #[.val (.long vf), .second, .val (.int vw), .val (.int vc1), .val (.int vc2), .val (.int (vw &&& (3 : Int32))), .val (.ref b1), .val (.ref b59), .val (.ref b67), .val (.ref b73), .val (.int ve)] [])) _
        refine XS.iconst X89.here hx rfl (hb hby at_129) ?_
        show Steps p.tables e below (T89.setTop (mkF m 130 #[.val (.long vf), .second, .val (.int vw), .val (.int vc1), .val (.int vc2), .val (.int (vw &&& (3 : Int32))), .val (.ref b1), .val (.ref b59), .val (.ref b67), .val (.ref b73), .val (.int ve)] [(.int (1 : Int32))])) _
        refine XS.goto X89.here hx rfl (pc0 := 130) (pc' := 134) rfl (hb hby at_130) (by decide) (by decide) ?_
        show Steps p.tables e below (T89.setTop (mkF m 134 #[.val (.long vf), .second, .val (.int vw), .val (.int vc1), .val (.int vc2), .val (.int (vw &&& (3 : Int32))), .val (.ref b1), .val (.ref b59), .val (.ref b67), .val (.ref b73), .val (.int ve)] [(.int (1 : Int32))])) _
        exact retN X89 hx (t := .boolean) Bd.returns (by simp) (hb hby at_134) hr
      · show Q0 Z vf vw vc1 vc2 vcs ade kde h0 n0 _ T89.heap _
        rw [hh89]
        exact ⟨rfl, Nf89⟩
  · have Fc93 := (own_sta_keep K7 (allS (own_plE A1) all0) (Sta.ext E1 S_cs))
    obtain ⟨_, _, ⟨T94, L94, k94, n94⟩, -, X94, ⟨Lc94, hQ94, l94, y94, z94⟩, st94⟩ := Jvm.LawKit.callS X7 hx (y := (⟨"java/lang/String", "valueOf", "(C)Ljava/lang/String;"⟩ : MethodName)) hown (mvT hZ (hw _ (List.mem_of_getElem? (i := 26) rfl))) (mvT hZ (hw _ (List.mem_of_getElem? (i := 27) rfl))) (mvT hZ (hw _ (List.mem_of_getElem? (i := 28) rfl))) (mvT hZ (hw _ (List.mem_of_getElem? (i := 29) rfl))) (by decide) (backOf (W := 1) (rm_vo l Z a0 hw [] ((vc1 &&& (255 : Int32)).toUInt32.toUInt16.toUInt32.toInt32) vcs T7.heap n0 Zp8 Fc93 hcs (own_c255 _)) hZ (hw _ (List.mem_of_getElem? (i := 29) rfl)) (hw _ (List.mem_of_getElem? (i := 28) rfl)) (by decide) (by decide)) (g := (mkF m 28 #[.val (.long vf), .second, .val (.int vw), .val (.int vc1), .val (.int vc2), .val (.int (vw &&& (3 : Int32))), .val (.ref b1), .unset, .unset, .unset, .unset] [(.int ((vc1 &&& (255 : Int32)).toUInt32.toUInt16.toUInt32.toInt32)), (.ref b1)])) rfl (by rw [hml]; rfl) (argsL := [(.int ((vc1 &&& (255 : Int32)).toUInt32.toUInt16.toUInt32.toInt32))]) (rest := [(.ref b1)]) (lenOf own_pd10 rfl) rfl (by show 2 * 0 + _ ≤ _; exact Nat.le_of_eq rfl) (hb hby at_28) (fun _ _ => ⟨rfl, rfl, (by decide : 1 + 2 ≤ _), (by decide : 3 + 5 ≤ _)⟩)
    dsimp only [Pt.U, Pt.locs, Pt.cells, Pt.slots] at X94 l94 y94 z94 st94 hQ94
    subst l94 y94 z94
    obtain ⟨b94, vb94, kc94, y94, rfl, Nq94, K94, g_b94, sz_b94, Ex94, Fv94, Fc94, V94⟩ := hQ94
    have Nf94 := Fr.app Nf7 Nq94
    have Zp95 : n0 ≤ T94.heap.size := Nat.le_trans Zp8 K94.1
    have Fc96 := (Ex7.keep K94)
    have Fc97 := (Fm7.keep K94 nin0)
    have Fc98 := (Fe7.keep K94 nin0)
    have Fc99 := (Fs7.keep K94 nin0)
    have Fc100 := (own_sta_keep K94 all0 (own_sta_keep K7 (allS (own_plE A1) all0) Fc6))
    have Fc101 := (((V_de.ext E1).keep K7 (ninS (Nat.ne_of_lt (Nat.lt_of_lt_of_le (V_de).lt (Nat.le_of_eq g1.symm))) nin0)).keep K94 nin0)
    obtain ⟨cq103, kq103, q103a, q103b, q103c⟩ := isOf hZ rfl Fc96
    obtain ⟨_, _, ⟨T102, L102, k102, n102⟩, -, X102, ⟨Lc102, hQ102, l102, y102, z102⟩, st102⟩ := X94.interfaceBack hx (xi := (⟨"java/util/List", "add", "(Ljava/lang/Object;)Z"⟩ : MethodName)) (y := (⟨"java/util/ArrayList", "add", "(Ljava/lang/Object;)Z"⟩ : MethodName)) hown (mvT hZ (hw _ (List.mem_of_getElem? (i := 50) rfl))) (mvT hZ (hw _ (List.mem_of_getElem? (i := 51) rfl))) (mvT hZ (hw _ (List.mem_of_getElem? (i := 52) rfl))) (mvT hZ (hw _ (List.mem_of_getElem? (i := 53) rfl))) (mvT hZ (hw _ (List.mem_of_getElem? (i := 54) rfl))) (mvT hZ (hw _ (List.mem_of_getElem? (i := 55) rfl))) (mvT hZ (hw _ (List.mem_of_getElem? (i := 56) rfl))) (mvT hZ (hw _ (List.mem_of_getElem? (i := 57) rfl))) (by decide) (backOf (W := 0) (rm_a10 l Z a0 hw [] b1 b94 (0 : Int32) ade kde T94.heap n0 Zp95 Fc96 g_b1 Fc97 Fc98 Fc99 Fc100 Fc101 Ex94) hZ (hw _ (List.mem_of_getElem? (i := 58) rfl)) (hw _ (List.mem_of_getElem? (i := 2) rfl)) (by decide) (by decide)) q103a q103b q103c (g := (mkF m 31 #[.val (.long vf), .second, .val (.int vw), .val (.int vc1), .val (.int vc2), .val (.int (vw &&& (3 : Int32))), .val (.ref b1), .unset, .unset, .unset, .unset] [(.ref b94), (.ref b1)])) rfl (by rw [hml]; rfl) (Steps.refl _) (argsL := [(.ref b94)]) (rest := []) (lenOf own_pd11 rfl) rfl (by show 2 * 0 + _ ≤ _; exact Nat.le_of_eq rfl) (hb hby at_31) (fun _ _ => ⟨rfl, rfl, (by decide : 3 + 1 ≤ _), (by decide : 8 + 10 ≤ _)⟩)
    dsimp only [Pt.U, Pt.locs, Pt.cells, Pt.slots] at X102 l102 y102 z102 st102 hQ102
    subst l102 y102 z102
    obtain ⟨b102, kb102, rfl, Nq102, K102, g_b102, sz_b102, Ex102, Fm102, Fe102, Fs102, V102, O102⟩ := hQ102
    have Nf102 := Fr.app Nf94 Nq102
    have Zp104 : n0 ≤ T102.heap.size := Nat.le_trans Zp95 K102.1
    have pre105 : ∀ t, Steps p.tables e below (T102.setTop (mkF m 40 #[.val (.long vf), .second, .val (.int vw), .val (.int vc1), .val (.int vc2), .val (.int (vw &&& (3 : Int32))), .val (.ref b1), .unset, .unset, .unset, .unset] [(.int (2 : Int32)), (.int (vw &&& (3 : Int32)))])) t → Steps p.tables e below (s₁.setTop (entryFrame m #[(.long vf), (.int vw), (.int vc1), (.int vc2)] maxLocals)) t := by
      intro t k
      refine pre9 t ?_
      show Steps p.tables e below (T7.setTop (mkF m 17 #[.val (.long vf), .second, .val (.int vw), .val (.int vc1), .val (.int vc2), .val (.int (vw &&& (3 : Int32))), .val (.ref b1), .unset, .unset, .unset, .unset] [(.int (1 : Int32)), (.int (vw &&& (3 : Int32)))])) _
      refine XS.icmpNo X7.here hx rfl (hb hby at_17) rfl (flt hc10).1 ?_
      show Steps p.tables e below (T7.setTop (mkF m 20 #[.val (.long vf), .second, .val (.int vw), .val (.int vc1), .val (.int vc2), .val (.int (vw &&& (3 : Int32))), .val (.ref b1), .unset, .unset, .unset, .unset] [])) _
      refine XS.aload X7.here hx rfl (hb hby at_20) rfl rfl ?_
      show Steps p.tables e below (T7.setTop (mkF m 22 #[.val (.long vf), .second, .val (.int vw), .val (.int vc1), .val (.int vc2), .val (.int (vw &&& (3 : Int32))), .val (.ref b1), .unset, .unset, .unset, .unset] [(.ref b1)])) _
      refine XS.iloadN X7.here hx rfl (hb hby at_22) rfl ?_
      show Steps p.tables e below (T7.setTop (mkF m 23 #[.val (.long vf), .second, .val (.int vw), .val (.int vc1), .val (.int vc2), .val (.int (vw &&& (3 : Int32))), .val (.ref b1), .unset, .unset, .unset, .unset] [(.int vc1), (.ref b1)])) _
      refine XS.sipush X7.here hx rfl (hb hby at_23) ?_
      show Steps p.tables e below (T7.setTop (mkF m 26 #[.val (.long vf), .second, .val (.int vw), .val (.int vc1), .val (.int vc2), .val (.int (vw &&& (3 : Int32))), .val (.ref b1), .unset, .unset, .unset, .unset] [(.int (255 : Int32)), (.int vc1), (.ref b1)])) _
      refine XS.iand X7.here hx rfl (hb hby at_26) rfl ?_
      show Steps p.tables e below (T7.setTop (mkF m 27 #[.val (.long vf), .second, .val (.int vw), .val (.int vc1), .val (.int vc2), .val (.int (vw &&& (3 : Int32))), .val (.ref b1), .unset, .unset, .unset, .unset] [(.int (vc1 &&& (255 : Int32))), (.ref b1)])) _
      refine XS.i2c X7.here hx rfl (hb hby at_27) rfl ?_
      show Steps p.tables e below (T7.setTop (mkF m 28 #[.val (.long vf), .second, .val (.int vw), .val (.int vc1), .val (.int vc2), .val (.int (vw &&& (3 : Int32))), .val (.ref b1), .unset, .unset, .unset, .unset] [(.int ((vc1 &&& (255 : Int32)).toUInt32.toUInt16.toUInt32.toInt32)), (.ref b1)])) _
      refine st94 _ ?_
      show Steps p.tables e below (T94.setTop (mkF m 31 #[.val (.long vf), .second, .val (.int vw), .val (.int vc1), .val (.int vc2), .val (.int (vw &&& (3 : Int32))), .val (.ref b1), .unset, .unset, .unset, .unset] [(.ref b94), (.ref b1)])) _
      refine st102.trans ?_
      show Steps p.tables e below (T102.setTop (mkF m 36 #[.val (.long vf), .second, .val (.int vw), .val (.int vc1), .val (.int vc2), .val (.int (vw &&& (3 : Int32))), .val (.ref b1), .unset, .unset, .unset, .unset] [(.int (1 : Int32))])) _
      refine XS.pop X102.here hx rfl (hb hby at_36) rfl rfl ?_
      show Steps p.tables e below (T102.setTop (mkF m 37 #[.val (.long vf), .second, .val (.int vw), .val (.int vc1), .val (.int vc2), .val (.int (vw &&& (3 : Int32))), .val (.ref b1), .unset, .unset, .unset, .unset] [])) _
      refine XS.iload X102.here hx rfl (hb hby at_37) rfl ?_
      show Steps p.tables e below (T102.setTop (mkF m 39 #[.val (.long vf), .second, .val (.int vw), .val (.int vc1), .val (.int vc2), .val (.int (vw &&& (3 : Int32))), .val (.ref b1), .unset, .unset, .unset, .unset] [(.int (vw &&& (3 : Int32)))])) _
      refine XS.iconst X102.here hx rfl (hb hby at_39) ?_
      show Steps p.tables e below (T102.setTop (mkF m 40 #[.val (.long vf), .second, .val (.int vw), .val (.int vc1), .val (.int vc2), .val (.int (vw &&& (3 : Int32))), .val (.ref b1), .unset, .unset, .unset, .unset] [(.int (2 : Int32)), (.int (vw &&& (3 : Int32)))])) _
      exact k
    by_cases hc106 : (vw &&& (3 : Int32)) < (2 : Int32)
    · obtain ⟨T107, h107, X107, e107, E107, A107, D107, U107, st107⟩ := newO X102 hx hZ hown (hw _ (List.mem_of_getElem? (i := 0) rfl)) (hw _ (List.mem_of_getElem? (i := 1) rfl)) (hw _ (List.mem_of_getElem? (i := 2) rfl)) rfl (g := (mkF m 61 #[.val (.long vf), .second, .val (.int vw), .val (.int vc1), .val (.int vc2), .val (.int (vw &&& (3 : Int32))), .val (.ref b1), .unset, .unset, .unset, .unset] [])) rfl (hb hby at_61) (by decide) (by decide)
      obtain ⟨b107, g107⟩ : ∃ z, z = T102.heap.size := ⟨_, rfl⟩
      rw [← g107] at A107 D107 U107 st107
      have g_b107 : n0 ≤ b107 := Nat.le_trans Zp104 (Nat.le_of_eq g107.symm)
      have Zp108 : n0 ≤ h107.size := Nat.le_trans Zp104 E107.1
      have Fn109 : Fld Z h107 b107 "java/util/AbstractList" "modCount" "I" (.int (0 : Int32)) := D107 (Or.inl (hw _ (List.mem_of_getElem? (i := 22) rfl))) (ty := .int) (by decide)
      have Fn110 : Fld Z h107 b107 "java/util/ArrayList" "elementData" "[Ljava/lang/Object;" .null := D107 (Or.inl (hw _ (List.mem_of_getElem? (i := 25) rfl))) (ty := (.array (.object "java/lang/Object"))) (by decide)
      have Fn111 : Fld Z h107 b107 "java/util/ArrayList" "size" "I" (.int (0 : Int32)) := D107 (Or.inl (hw _ (List.mem_of_getElem? (i := 62) rfl))) (ty := .int) (by decide)
      have Fc112 := (Sta.ext E107 (own_sta_keep K102 (allS (own_plE Fc96) all0) Fc100))
      obtain ⟨_, _, ⟨T113, L113, k113, n113⟩, -, X113, ⟨Lc113, hQ113, l113, y113, z113⟩, st113⟩ := X107.specialBack hx (y := (⟨"java/util/ArrayList", "<init>", "()V"⟩ : MethodName)) rfl hown (mvT hZ (hw _ (List.mem_of_getElem? (i := 3) rfl))) (mvT hZ (hw _ (List.mem_of_getElem? (i := 4) rfl))) (mvT hZ (hw _ (List.mem_of_getElem? (i := 5) rfl))) (by decide) (backOf (W := 1) (rm_ai l Z a0 hw [] b107 ade h107 n0 Zp108 A107 g_b107 Fn109 Fn110 Fn111 Fc112) hZ (hw _ (List.mem_of_getElem? (i := 5) rfl)) (hw _ (List.mem_of_getElem? (i := 2) rfl)) (by decide) (by decide)) (g := (mkF m 65 #[.val (.long vf), .second, .val (.int vw), .val (.int vc1), .val (.int vc2), .val (.int (vw &&& (3 : Int32))), .val (.ref b1), .unset, .unset, .unset, .unset] [(.ref b107), (.ref b107)])) rfl (by rw [hml]; rfl) (Steps.refl _) (a := b107) (argsL := []) (rest := [(.ref b107)]) (lenOf own_pd3 rfl) rfl (by show 2 * 0 + _ ≤ _; exact Nat.le_of_eq rfl) (hb hby at_65) (fun _ _ => ⟨rfl, e107, (by decide : 5 + 0 ≤ _), (by decide : 21 + 0 ≤ _)⟩)
      dsimp only [Pt.U, Pt.locs, Pt.cells, Pt.slots] at X113 l113 y113 z113 st113 hQ113
      subst l113 y113 z113
      obtain ⟨rfl, Nq113, K113, Ex113, Fm113, Fe113, Fs113⟩ := hQ113
      have Nf113 := Fr.app Nf102 Nq113
      have Zp114 : n0 ≤ T113.heap.size := Nat.le_trans Zp108 K113.1
      obtain ⟨T115, h115, X115, e115, E115, A115, D115, U115, st115⟩ := newO X113 hx hZ hown (hw _ (List.mem_of_getElem? (i := 85) rfl)) (hw _ (List.mem_of_getElem? (i := 86) rfl)) (hw _ (List.mem_of_getElem? (i := 87) rfl)) rfl (g := (mkF m 70 #[.val (.long vf), .second, .val (.int vw), .val (.int vc1), .val (.int vc2), .val (.int (vw &&& (3 : Int32))), .val (.ref b1), .val (.ref b107), .unset, .unset, .unset] [])) rfl (hb hby at_70) (by decide) (by decide)
      obtain ⟨b115, g115⟩ : ∃ z, z = T113.heap.size := ⟨_, rfl⟩
      rw [← g115] at A115 D115 U115 st115
      have g_b115 : n0 ≤ b115 := Nat.le_trans Zp114 (Nat.le_of_eq g115.symm)
      have Zp116 : n0 ≤ h115.size := Nat.le_trans Zp114 E115.1
      have Fn117 : Fld Z h115 b115 "com/example/adhoc/adhoc/submission/Validator$Report" "faults" "J" (.long (0 : Int64)) := D115 (Or.inr (hw _ (List.mem_of_getElem? (i := 98) rfl))) (ty := .long) (by decide)
      have Fn118 : Fld Z h115 b115 "com/example/adhoc/adhoc/submission/Validator$Report" "warnings" "Ljava/util/List;" .null := D115 (Or.inr (hw _ (List.mem_of_getElem? (i := 100) rfl))) (ty := (.object "java/util/List")) (by decide)
      obtain ⟨_, _, ⟨T119, L119, k119, n119⟩, -, X119, ⟨Lc119, hQ119, l119, y119, z119⟩, st119⟩ := X115.specialBack hx (y := (⟨"com/example/adhoc/adhoc/submission/Validator$Report", "<init>", "(JLjava/util/List;)V"⟩ : MethodName)) rfl hown (mvT hZ (hw _ (List.mem_of_getElem? (i := 88) rfl))) (mvT hZ (hw _ (List.mem_of_getElem? (i := 89) rfl))) (mvT hZ (hw _ (List.mem_of_getElem? (i := 90) rfl))) (by decide) (backOf (W := 1) (rm_rep l Z a0 hw [] b115 vf b1 h115 n0 Zp116 A115 g_b115 Fn117 Fn118) hZ (hw _ (List.mem_of_getElem? (i := 90) rfl)) (hw _ (List.mem_of_getElem? (i := 87) rfl)) (by decide) (by decide)) (g := (mkF m 77 #[.val (.long vf), .second, .val (.int vw), .val (.int vc1), .val (.int vc2), .val (.int (vw &&& (3 : Int32))), .val (.ref b1), .val (.ref b107), .unset, .unset, .unset] [(.ref b1), (.long vf), (.ref b115), (.ref b115)])) rfl (by rw [hml]; rfl) (Steps.refl _) (a := b115) (argsL := [(.long vf), (.ref b1)]) (rest := [(.ref b115)]) (lenOf own_pd8 rfl) rfl (by show 2 * 0 + _ ≤ _; exact Nat.le_of_eq rfl) (hb hby at_77) (fun _ _ => ⟨rfl, e115, (by decide : 6 + 0 ≤ _), (by decide : 23 + 0 ≤ _)⟩)
      dsimp only [Pt.U, Pt.locs, Pt.cells, Pt.slots] at X119 l119 y119 z119 st119 hQ119
      subst l119 y119 z119
      obtain ⟨rfl, Nq119, K119, Ex119, Fx119_0, Fx119_1⟩ := hQ119
      have Nf119 := Fr.app Nf113 Nq119
      have Zp120 : n0 ≤ T119.heap.size := Nat.le_trans Zp116 K119.1
      obtain ⟨T121, h121, X121, e121, E121, A121, D121, U121, st121⟩ := newO X119 hx hZ hown (hw _ (List.mem_of_getElem? (i := 85) rfl)) (hw _ (List.mem_of_getElem? (i := 86) rfl)) (hw _ (List.mem_of_getElem? (i := 87) rfl)) rfl (g := (mkF m 82 #[.val (.long vf), .second, .val (.int vw), .val (.int vc1), .val (.int vc2), .val (.int (vw &&& (3 : Int32))), .val (.ref b1), .val (.ref b107), .val (.ref b115), .unset, .unset] [])) rfl (hb hby at_82) (by decide) (by decide)
      obtain ⟨b121, g121⟩ : ∃ z, z = T119.heap.size := ⟨_, rfl⟩
      rw [← g121] at A121 D121 U121 st121
      have g_b121 : n0 ≤ b121 := Nat.le_trans Zp120 (Nat.le_of_eq g121.symm)
      have Zp122 : n0 ≤ h121.size := Nat.le_trans Zp120 E121.1
      have Fn123 : Fld Z h121 b121 "com/example/adhoc/adhoc/submission/Validator$Report" "faults" "J" (.long (0 : Int64)) := D121 (Or.inr (hw _ (List.mem_of_getElem? (i := 98) rfl))) (ty := .long) (by decide)
      have Fn124 : Fld Z h121 b121 "com/example/adhoc/adhoc/submission/Validator$Report" "warnings" "Ljava/util/List;" .null := D121 (Or.inr (hw _ (List.mem_of_getElem? (i := 100) rfl))) (ty := (.object "java/util/List")) (by decide)
      obtain ⟨_, _, ⟨T125, L125, k125, n125⟩, -, X125, ⟨Lc125, hQ125, l125, y125, z125⟩, st125⟩ := X121.specialBack hx (y := (⟨"com/example/adhoc/adhoc/submission/Validator$Report", "<init>", "(JLjava/util/List;)V"⟩ : MethodName)) rfl hown (mvT hZ (hw _ (List.mem_of_getElem? (i := 88) rfl))) (mvT hZ (hw _ (List.mem_of_getElem? (i := 89) rfl))) (mvT hZ (hw _ (List.mem_of_getElem? (i := 90) rfl))) (by decide) (backOf (W := 1) (rm_rep l Z a0 hw [] b121 vf b107 h121 n0 Zp122 A121 g_b121 Fn123 Fn124) hZ (hw _ (List.mem_of_getElem? (i := 90) rfl)) (hw _ (List.mem_of_getElem? (i := 87) rfl)) (by decide) (by decide)) (g := (mkF m 89 #[.val (.long vf), .second, .val (.int vw), .val (.int vc1), .val (.int vc2), .val (.int (vw &&& (3 : Int32))), .val (.ref b1), .val (.ref b107), .val (.ref b115), .unset, .unset] [(.ref b107), (.long vf), (.ref b121), (.ref b121)])) rfl (by rw [hml]; rfl) (Steps.refl _) (a := b121) (argsL := [(.long vf), (.ref b107)]) (rest := [(.ref b121)]) (lenOf own_pd8 rfl) rfl (by show 2 * 0 + _ ≤ _; exact Nat.le_of_eq rfl) (hb hby at_89) (fun _ _ => ⟨rfl, e121, (by decide : 7 + 0 ≤ _), (by decide : 25 + 0 ≤ _)⟩)
      dsimp only [Pt.U, Pt.locs, Pt.cells, Pt.slots] at X125 l125 y125 z125 st125 hQ125
      subst l125 y125 z125
      obtain ⟨rfl, Nq125, K125, Ex125, Fx125_0, Fx125_1⟩ := hQ125
      have Nf125 := Fr.app Nf119 Nq125
      have Zp126 : n0 ≤ T125.heap.size := Nat.le_trans Zp122 K125.1
      have pre127 : ∀ t, Steps p.tables e below (T125.setTop (mkF m 94 #[.val (.long vf), .second, .val (.int vw), .val (.int vc1), .val (.int vc2), .val (.int (vw &&& (3 : Int32))), .val (.ref b1), .val (.ref b107), .val (.ref b115), .val (.ref b121), .unset] [])) t → Steps p.tables e below (s₁.setTop (entryFrame m #[(.long vf), (.int vw), (.int vc1), (.int vc2)] maxLocals)) t := by
        intro t k
        refine pre105 t ?_
        show Steps p.tables e below (T102.setTop (mkF m 40 #[.val (.long vf), .second, .val (.int vw), .val (.int vc1), .val (.int vc2), .val (.int (vw &&& (3 : Int32))), .val (.ref b1), .unset, .unset, .unset, .unset] [(.int (2 : Int32)), (.int (vw &&& (3 : Int32)))])) _
        refine XS.icmpYes X102.here hx rfl (pc0 := 40) (pc' := 61) rfl (hb hby at_40) rfl (tlt hc106).1 (by decide) (by decide) ?_
        show Steps p.tables e below (T102.setTop (mkF m 61 #[.val (.long vf), .second, .val (.int vw), .val (.int vc1), .val (.int vc2), .val (.int (vw &&& (3 : Int32))), .val (.ref b1), .unset, .unset, .unset, .unset] [])) _
        refine st107 _ ?_
        show Steps p.tables e below (T107.setTop (mkF m 64 #[.val (.long vf), .second, .val (.int vw), .val (.int vc1), .val (.int vc2), .val (.int (vw &&& (3 : Int32))), .val (.ref b1), .unset, .unset, .unset, .unset] [(.ref b107)])) _
        refine XS.dup X107.here hx rfl (hb hby at_64) rfl rfl ?_
        show Steps p.tables e below (T107.setTop (mkF m 65 #[.val (.long vf), .second, .val (.int vw), .val (.int vc1), .val (.int vc2), .val (.int (vw &&& (3 : Int32))), .val (.ref b1), .unset, .unset, .unset, .unset] [(.ref b107), (.ref b107)])) _
        refine st113.trans ?_
        show Steps p.tables e below (T113.setTop (mkF m 68 #[.val (.long vf), .second, .val (.int vw), .val (.int vc1), .val (.int vc2), .val (.int (vw &&& (3 : Int32))), .val (.ref b1), .unset, .unset, .unset, .unset] [(.ref b107)])) _
        refine XS.astore X113.here hx rfl (hb hby at_68) rfl rfl (l' := #[.val (.long vf), .second, .val (.int vw), .val (.int vc1), .val (.int vc2), .val (.int (vw &&& (3 : Int32))), .val (.ref b1), .val (.ref b107), .unset, .unset, .unset]) rfl ?_
        show Steps p.tables e below (T113.setTop (mkF m 70 #[.val (.long vf), .second, .val (.int vw), .val (.int vc1), .val (.int vc2), .val (.int (vw &&& (3 : Int32))), .val (.ref b1), .val (.ref b107), .unset, .unset, .unset] [])) _
        refine st115 _ ?_
        show Steps p.tables e below (T115.setTop (mkF m 73 #[.val (.long vf), .second, .val (.int vw), .val (.int vc1), .val (.int vc2), .val (.int (vw &&& (3 : Int32))), .val (.ref b1), .val (.ref b107), .unset, .unset, .unset] [(.ref b115)])) _
        refine XS.dup X115.here hx rfl (hb hby at_73) rfl rfl ?_
        show Steps p.tables e below (T115.setTop (mkF m 74 #[.val (.long vf), .second, .val (.int vw), .val (.int vc1), .val (.int vc2), .val (.int (vw &&& (3 : Int32))), .val (.ref b1), .val (.ref b107), .unset, .unset, .unset] [(.ref b115), (.ref b115)])) _
        refine XS.lloadN X115.here hx rfl (hb hby at_74) rfl ?_
        show Steps p.tables e below (T115.setTop (mkF m 75 #[.val (.long vf), .second, .val (.int vw), .val (.int vc1), .val (.int vc2), .val (.int (vw &&& (3 : Int32))), .val (.ref b1), .val (.ref b107), .unset, .unset, .unset] [(.long vf), (.ref b115), (.ref b115)])) _
        refine XS.aload X115.here hx rfl (hb hby at_75) rfl rfl ?_
        show Steps p.tables e below (T115.setTop (mkF m 77 #[.val (.long vf), .second, .val (.int vw), .val (.int vc1), .val (.int vc2), .val (.int (vw &&& (3 : Int32))), .val (.ref b1), .val (.ref b107), .unset, .unset, .unset] [(.ref b1), (.long vf), (.ref b115), (.ref b115)])) _
        refine st119.trans ?_
        show Steps p.tables e below (T119.setTop (mkF m 80 #[.val (.long vf), .second, .val (.int vw), .val (.int vc1), .val (.int vc2), .val (.int (vw &&& (3 : Int32))), .val (.ref b1), .val (.ref b107), .unset, .unset, .unset] [(.ref b115)])) _
        refine XS.astore X119.here hx rfl (hb hby at_80) rfl rfl (l' := #[.val (.long vf), .second, .val (.int vw), .val (.int vc1), .val (.int vc2), .val (.int (vw &&& (3 : Int32))), .val (.ref b1), .val (.ref b107), .val (.ref b115), .unset, .unset]) rfl ?_
        show Steps p.tables e below (T119.setTop (mkF m 82 #[.val (.long vf), .second, .val (.int vw), .val (.int vc1), .val (.int vc2), .val (.int (vw &&& (3 : Int32))), .val (.ref b1), .val (.ref b107), .val (.ref b115), .unset, .unset] [])) _
        refine st121 _ ?_
        show Steps p.tables e below (T121.setTop (mkF m 85 #[.val (.long vf), .second, .val (.int vw), .val (.int vc1), .val (.int vc2), .val (.int (vw &&& (3 : Int32))), .val (.ref b1), .val (.ref b107), .val (.ref b115), .unset, .unset] [(.ref b121)])) _
        refine XS.dup X121.here hx rfl (hb hby at_85) rfl rfl ?_
        show Steps p.tables e below (T121.setTop (mkF m 86 #[.val (.long vf), .second, .val (.int vw), .val (.int vc1), .val (.int vc2), .val (.int (vw &&& (3 : Int32))), .val (.ref b1), .val (.ref b107), .val (.ref b115), .unset, .unset] [(.ref b121), (.ref b121)])) _
        refine XS.lloadN X121.here hx rfl (hb hby at_86) rfl ?_
        show Steps p.tables e below (T121.setTop (mkF m 87 #[.val (.long vf), .second, .val (.int vw), .val (.int vc1), .val (.int vc2), .val (.int (vw &&& (3 : Int32))), .val (.ref b1), .val (.ref b107), .val (.ref b115), .unset, .unset] [(.long vf), (.ref b121), (.ref b121)])) _
        refine XS.aload X121.here hx rfl (hb hby at_87) rfl rfl ?_
        show Steps p.tables e below (T121.setTop (mkF m 89 #[.val (.long vf), .second, .val (.int vw), .val (.int vc1), .val (.int vc2), .val (.int (vw &&& (3 : Int32))), .val (.ref b1), .val (.ref b107), .val (.ref b115), .unset, .unset] [(.ref b107), (.long vf), (.ref b121), (.ref b121)])) _
        refine st125.trans ?_
        show Steps p.tables e below (T125.setTop (mkF m 92 #[.val (.long vf), .second, .val (.int vw), .val (.int vc1), .val (.int vc2), .val (.int (vw &&& (3 : Int32))), .val (.ref b1), .val (.ref b107), .val (.ref b115), .unset, .unset] [(.ref b121)])) _
        refine XS.astore X125.here hx rfl (hb hby at_92) rfl rfl (l' := #[.val (.long vf), .second, .val (.int vw), .val (.int vc1), .val (.int vc2), .val (.int (vw &&& (3 : Int32))), .val (.ref b1), .val (.ref b107), .val (.ref b115), .val (.ref b121), .unset]) rfl ?_
        show Steps p.tables e below (T125.setTop (mkF m 94 #[.val (.long vf), .second, .val (.int vw), .val (.int vc1), .val (.int vc2), .val (.int (vw &&& (3 : Int32))), .val (.ref b1), .val (.ref b107), .val (.ref b115), .val (.ref b121), .unset] [])) _
        exact k
      obtain ⟨ve, T128, lo128, X128, Nj128, ej128, hj128, pre128⟩ : ∃ (ve : Int32) (T' : State) (lo : List Loc), Stand p l e room_1 s m #[(.long vf), (.int vw), (.int vc1), (.int vc2)] below meth c T' lo 7 25 ∧ Fr n0 lo ∧ T'.heap = T125.heap ∧ (ve = if vf = 0 then 1 else 0) ∧ ∀ t, Steps p.tables e below (T'.setTop (mkF m 109 #[.val (.long vf), .second, .val (.int vw), .val (.int vc1), .val (.int vc2), .val (.int (vw &&& (3 : Int32))), .val (.ref b1), .val (.ref b107), .val (.ref b115), .val (.ref b121), .val (.int ve)] [])) t → Steps p.tables e below (s₁.setTop (entryFrame m #[(.long vf), (.int vw), (.int vc1), (.int vc2)] maxLocals)) t := by
        have pre129 : ∀ t, Steps p.tables e below (T125.setTop (mkF m 97 #[.val (.long vf), .second, .val (.int vw), .val (.int vc1), .val (.int vc2), .val (.int (vw &&& (3 : Int32))), .val (.ref b1), .val (.ref b107), .val (.ref b115), .val (.ref b121), .unset] [(.int (lcmpW vf (0 : Int64)))])) t → Steps p.tables e below (s₁.setTop (entryFrame m #[(.long vf), (.int vw), (.int vc1), (.int vc2)] maxLocals)) t := by
          intro t k
          refine pre127 t ?_
          show Steps p.tables e below (T125.setTop (mkF m 94 #[.val (.long vf), .second, .val (.int vw), .val (.int vc1), .val (.int vc2), .val (.int (vw &&& (3 : Int32))), .val (.ref b1), .val (.ref b107), .val (.ref b115), .val (.ref b121), .unset] [])) _
          refine XS.lloadN X125.here hx rfl (hb hby at_94) rfl ?_
          show Steps p.tables e below (T125.setTop (mkF m 95 #[.val (.long vf), .second, .val (.int vw), .val (.int vc1), .val (.int vc2), .val (.int (vw &&& (3 : Int32))), .val (.ref b1), .val (.ref b107), .val (.ref b115), .val (.ref b121), .unset] [(.long vf)])) _
          refine XS.lconst X125.here hx rfl (hb hby at_95) ?_
          show Steps p.tables e below (T125.setTop (mkF m 96 #[.val (.long vf), .second, .val (.int vw), .val (.int vc1), .val (.int vc2), .val (.int (vw &&& (3 : Int32))), .val (.ref b1), .val (.ref b107), .val (.ref b115), .val (.ref b121), .unset] [(.long (0 : Int64)), (.long vf)])) _
          refine XS.lcmp X125.here hx rfl (hb hby at_96) rfl ?_
          show Steps p.tables e below (T125.setTop (mkF m 97 #[.val (.long vf), .second, .val (.int vw), .val (.int vc1), .val (.int vc2), .val (.int (vw &&& (3 : Int32))), .val (.ref b1), .val (.ref b107), .val (.ref b115), .val (.ref b121), .unset] [(.int (lcmpW vf (0 : Int64)))])) _
          exact k
        by_cases hc130 : vf = (0 : Int64)
        · refine ⟨(1 : Int32), T125, _, X125, Nf125, rfl, (if_pos hc130).symm, fun t k => ?_⟩
          refine pre129 t ?_
          show Steps p.tables e below (T125.setTop (mkF m 97 #[.val (.long vf), .second, .val (.int vw), .val (.int vc1), .val (.int vc2), .val (.int (vw &&& (3 : Int32))), .val (.ref b1), .val (.ref b107), .val (.ref b115), .val (.ref b121), .unset] [(.int (lcmpW vf (0 : Int64)))])) _
          refine XS.ifNo X125.here hx rfl (hb hby at_97) rfl ((if0 _ _).trans (teq ((lw_eq _ _).mpr hc130)).2) ?_
          show Steps p.tables e below (T125.setTop (mkF m 100 #[.val (.long vf), .second, .val (.int vw), .val (.int vc1), .val (.int vc2), .val (.int (vw &&& (3 : Int32))), .val (.ref b1), .val (.ref b107), .val (.ref b115), .val (.ref b121), .unset] [])) _
          refine XS.iconst X125.here hx rfl (hb hby at_100) ?_
          show Steps p.tables e below (T125.setTop (mkF m 101 #[.val (.long vf), .second, .val (.int vw), .val (.int vc1), .val (.int vc2), .val (.int (vw &&& (3 : Int32))), .val (.ref b1), .val (.ref b107), .val (.ref b115), .val (.ref b121), .unset] [(.int (1 : Int32))])) _
          refine XS.istore X125.here hx rfl (hb hby at_101) rfl (l' := #[.val (.long vf), .second, .val (.int vw), .val (.int vc1), .val (.int vc2), .val (.int (vw &&& (3 : Int32))), .val (.ref b1), .val (.ref b107), .val (.ref b115), .val (.ref b121), .val (.int (1 : Int32))]) rfl ?_
          show Steps p.tables e below (T125.setTop (mkF m 103 #[.val (.long vf), .second, .val (.int vw), .val (.int vc1), .val (.int vc2), .val (.int (vw &&& (3 : Int32))), .val (.ref b1), .val (.ref b107), .val (.ref b115), .val (.ref b121), .val (.int (1 : Int32))] [])) _
          refine XS.goto X125.here hx rfl (pc0 := 103) (pc' := 109) rfl (hb hby at_103) (by decide) (by decide) ?_
          show Steps p.tables e below (T125.setTop (mkF m 109 #[.val (.long vf), .second, .val (.int vw), .val (.int vc1), .val (.int vc2), .val (.int (vw &&& (3 : Int32))), .val (.ref b1), .val (.ref b107), .val (.ref b115), .val (.ref b121), .val (.int (1 : Int32))] [])) _
          exact k
        · refine ⟨(0 : Int32), T125, _, X125, Nf125, rfl, (if_neg hc130).symm, fun t k => ?_⟩
          refine pre129 t ?_
          show Steps p.tables e below (T125.setTop (mkF m 97 #[.val (.long vf), .second, .val (.int vw), .val (.int vc1), .val (.int vc2), .val (.int (vw &&& (3 : Int32))), .val (.ref b1), .val (.ref b107), .val (.ref b115), .val (.ref b121), .unset] [(.int (lcmpW vf (0 : Int64)))])) _
          refine XS.ifYes X125.here hx rfl (pc0 := 97) (pc' := 106) rfl (hb hby at_97) rfl ((if0 _ _).trans (feq (mt (lw_eq _ _).mp hc130)).2) (by decide) (by decide) ?_
          show Steps p.tables e below (T125.setTop (mkF m 106 #[.val (.long vf), .second, .val (.int vw), .val (.int vc1), .val (.int vc2), .val (.int (vw &&& (3 : Int32))), .val (.ref b1), .val (.ref b107), .val (.ref b115), .val (.ref b121), .unset] [])) _
          refine XS.iconst X125.here hx rfl (hb hby at_106) ?_
          show Steps p.tables e below (T125.setTop (mkF m 107 #[.val (.long vf), .second, .val (.int vw), .val (.int vc1), .val (.int vc2), .val (.int (vw &&& (3 : Int32))), .val (.ref b1), .val (.ref b107), .val (.ref b115), .val (.ref b121), .unset] [(.int (0 : Int32))])) _
          refine XS.istore X125.here hx rfl (hb hby at_107) rfl (l' := #[.val (.long vf), .second, .val (.int vw), .val (.int vc1), .val (.int vc2), .val (.int (vw &&& (3 : Int32))), .val (.ref b1), .val (.ref b107), .val (.ref b115), .val (.ref b121), .val (.int (0 : Int32))]) rfl ?_
          show Steps p.tables e below (T125.setTop (mkF m 109 #[.val (.long vf), .second, .val (.int vw), .val (.int vc1), .val (.int vc2), .val (.int (vw &&& (3 : Int32))), .val (.ref b1), .val (.ref b107), .val (.ref b115), .val (.ref b121), .val (.int (0 : Int32))] [])) _
          exact k
      have Fc131 := ((Fld.ext E121 Fx119_0).keep K125 (ninS (Nat.ne_of_lt (Nat.lt_of_lt_of_le (Ex119).lt (Nat.le_of_eq g121.symm))) nin0))
      have Fc134 := ((Exa.ext E121 Ex119).keep K125)
      obtain ⟨cq133, kq133, q133a, q133b, q133c⟩ := isOf hZ ej128 Fc134
      obtain ⟨_, _, ⟨T132, L132, k132, n132⟩, -, X132, ⟨Lc132, hQ132, l132, y132, z132⟩, st132⟩ := X128.virtualBack hx (y := (⟨"com/example/adhoc/adhoc/submission/Validator$Report", "isValid", "()Z"⟩ : MethodName)) (z := (⟨"com/example/adhoc/adhoc/submission/Validator$Report", "isValid", "()Z"⟩ : MethodName)) hown (mvT hZ (hw _ (List.mem_of_getElem? (i := 101) rfl))) (mvT hZ (hw _ (List.mem_of_getElem? (i := 102) rfl))) (notFace_of_selects (args := #[]) (mvT hZ (hw _ (List.mem_of_getElem? (i := 104) rfl)))) (mvT hZ (hw _ (List.mem_of_getElem? (i := 104) rfl))) (mvT hZ (hw _ (List.mem_of_getElem? (i := 103) rfl))) (by decide) (backOf (W := 0) (rm_val l Z a0 hw [] b115 vf T125.heap n0 Zp126 Fc131) hZ (hw _ (List.mem_of_getElem? (i := 105) rfl)) (hw _ (List.mem_of_getElem? (i := 87) rfl)) (by decide) (by decide)) q133a q133c (g := (mkF m 111 #[.val (.long vf), .second, .val (.int vw), .val (.int vc1), .val (.int vc2), .val (.int (vw &&& (3 : Int32))), .val (.ref b1), .val (.ref b107), .val (.ref b115), .val (.ref b121), .val (.int ve)] [(.ref b115)])) rfl (by rw [hml]; rfl) (Steps.refl _) (argsL := []) (rest := []) (lenOf own_pd9 rfl) rfl (by show 2 * 0 + _ ≤ _; exact Nat.le_of_eq rfl) (hb hby at_111) (fun _ _ => ⟨rfl, ej128, (by decide : 7 + 0 ≤ _), (by decide : 25 + 0 ≤ _)⟩)
      dsimp only [Pt.U, Pt.locs, Pt.cells, Pt.slots] at X132 l132 y132 z132 st132 hQ132
      subst l132 y132 z132
      obtain ⟨rfl, Nq132, hh132⟩ := hQ132
      have Nf132 := Fr.app Nj128 Nq132
      have pre135 : ∀ t, Steps p.tables e below (T132.setTop (mkF m 116 #[.val (.long vf), .second, .val (.int vw), .val (.int vc1), .val (.int vc2), .val (.int (vw &&& (3 : Int32))), .val (.ref b1), .val (.ref b107), .val (.ref b115), .val (.ref b121), .val (.int ve)] [(.int ve), (.int (if vf = 0 then 1 else 0))])) t → Steps p.tables e below (s₁.setTop (entryFrame m #[(.long vf), (.int vw), (.int vc1), (.int vc2)] maxLocals)) t := by
        intro t k
        refine pre128 t ?_
        show Steps p.tables e below (T128.setTop (mkF m 109 #[.val (.long vf), .second, .val (.int vw), .val (.int vc1), .val (.int vc2), .val (.int (vw &&& (3 : Int32))), .val (.ref b1), .val (.ref b107), .val (.ref b115), .val (.ref b121), .val (.int ve)] [])) _
        refine XS.aload X128.here hx rfl (hb hby at_109) rfl rfl ?_
        show Steps p.tables e below (T128.setTop (mkF m 111 #[.val (.long vf), .second, .val (.int vw), .val (.int vc1), .val (.int vc2), .val (.int (vw &&& (3 : Int32))), .val (.ref b1), .val (.ref b107), .val (.ref b115), .val (.ref b121), .val (.int ve)] [(.ref b115)])) _
        refine st132.trans ?_
        show Steps p.tables e below (T132.setTop (mkF m 114 #[.val (.long vf), .second, .val (.int vw), .val (.int vc1), .val (.int vc2), .val (.int (vw &&& (3 : Int32))), .val (.ref b1), .val (.ref b107), .val (.ref b115), .val (.ref b121), .val (.int ve)] [(.int (if vf = 0 then 1 else 0))])) _
        refine XS.iload X132.here hx rfl (hb hby at_114) rfl ?_
        show Steps p.tables e below (T132.setTop (mkF m 116 #[.val (.long vf), .second, .val (.int vw), .val (.int vc1), .val (.int vc2), .val (.int (vw &&& (3 : Int32))), .val (.ref b1), .val (.ref b107), .val (.ref b115), .val (.ref b121), .val (.int ve)] [(.int ve), (.int (if vf = 0 then 1 else 0))])) _
        exact k
      have hd136 : (if vf = 0 then 1 else 0) = ve := hj128.symm
      obtain ⟨cq138, kq138, q138a, q138b, q138c⟩ := isOf hZ hh132 Ex125
      obtain ⟨_, _, ⟨T137, L137, k137, n137⟩, -, X137, ⟨Lc137, hQ137, l137, y137, z137⟩, st137⟩ := X132.virtualBack hx (y := (⟨"com/example/adhoc/adhoc/submission/Validator$Report", "isValid", "()Z"⟩ : MethodName)) (z := (⟨"com/example/adhoc/adhoc/submission/Validator$Report", "isValid", "()Z"⟩ : MethodName)) hown (mvT hZ (hw _ (List.mem_of_getElem? (i := 101) rfl))) (mvT hZ (hw _ (List.mem_of_getElem? (i := 102) rfl))) (notFace_of_selects (args := #[]) (mvT hZ (hw _ (List.mem_of_getElem? (i := 104) rfl)))) (mvT hZ (hw _ (List.mem_of_getElem? (i := 104) rfl))) (mvT hZ (hw _ (List.mem_of_getElem? (i := 103) rfl))) (by decide) (backOf (W := 0) (rm_val l Z a0 hw [] b121 vf T125.heap n0 Zp126 Fx125_0) hZ (hw _ (List.mem_of_getElem? (i := 105) rfl)) (hw _ (List.mem_of_getElem? (i := 87) rfl)) (by decide) (by decide)) q138a q138c (g := (mkF m 121 #[.val (.long vf), .second, .val (.int vw), .val (.int vc1), .val (.int vc2), .val (.int (vw &&& (3 : Int32))), .val (.ref b1), .val (.ref b107), .val (.ref b115), .val (.ref b121), .val (.int ve)] [(.ref b121)])) rfl (by rw [hml]; rfl) (Steps.refl _) (argsL := []) (rest := []) (lenOf own_pd9 rfl) rfl (by show 2 * 0 + _ ≤ _; exact Nat.le_of_eq rfl) (hb hby at_121) (fun _ _ => ⟨rfl, hh132, (by decide : 7 + 0 ≤ _), (by decide : 25 + 0 ≤ _)⟩)
      dsimp only [Pt.U, Pt.locs, Pt.cells, Pt.slots] at X137 l137 y137 z137 st137 hQ137
      subst l137 y137 z137
      obtain ⟨rfl, Nq137, hh137⟩ := hQ137
      have Nf137 := Fr.app Nf132 Nq137
      have pre139 : ∀ t, Steps p.tables e below (T137.setTop (mkF m 126 #[.val (.long vf), .second, .val (.int vw), .val (.int vc1), .val (.int vc2), .val (.int (vw &&& (3 : Int32))), .val (.ref b1), .val (.ref b107), .val (.ref b115), .val (.ref b121), .val (.int ve)] [(.int ve), (.int (if vf = 0 then 1 else 0))])) t → Steps p.tables e below (s₁.setTop (entryFrame m #[(.long vf), (.int vw), (.int vc1), (.int vc2)] maxLocals)) t := by
        intro t k
        refine pre135 t ?_
        show Steps p.tables e below (T132.setTop (mkF m 116 #[.val (.long vf), .second, .val (.int vw), .val (.int vc1), .val (.int vc2), .val (.int (vw &&& (3 : Int32))), .val (.ref b1), .val (.ref b107), .val (.ref b115), .val (.ref b121), .val (.int ve)] [(.int ve), (.int (if vf = 0 then 1 else 0))])) _
        refine XS.icmpNo X132.here hx rfl (hb hby at_116) rfl (teq hd136).2 ?_
        show Steps p.tables e below (T132.setTop (mkF m 119 #[.val (.long vf), .second, .val (.int vw), .val (.int vc1), .val (.int vc2), .val (.int (vw &&& (3 : Int32))), .val (.ref b1), .val (.ref b107), .val (.ref b115), .val (.ref b121), .val (.int ve)] [])) _
        refine XS.aload X132.here hx rfl (hb hby at_119) rfl rfl ?_
        show Steps p.tables e below (T132.setTop (mkF m 121 #[.val (.long vf), .second, .val (.int vw), .val (.int vc1), .val (.int vc2), .val (.int (vw &&& (3 : Int32))), .val (.ref b1), .val (.ref b107), .val (.ref b115), .val (.ref b121), .val (.int ve)] [(.ref b121)])) _
        refine st137.trans ?_
        show Steps p.tables e below (T137.setTop (mkF m 124 #[.val (.long vf), .second, .val (.int vw), .val (.int vc1), .val (.int vc2), .val (.int (vw &&& (3 : Int32))), .val (.ref b1), .val (.ref b107), .val (.ref b115), .val (.ref b121), .val (.int ve)] [(.int (if vf = 0 then 1 else 0))])) _
        refine XS.iload X137.here hx rfl (hb hby at_124) rfl ?_
        show Steps p.tables e below (T137.setTop (mkF m 126 #[.val (.long vf), .second, .val (.int vw), .val (.int vc1), .val (.int vc2), .val (.int (vw &&& (3 : Int32))), .val (.ref b1), .val (.ref b107), .val (.ref b115), .val (.ref b121), .val (.int ve)] [(.int ve), (.int (if vf = 0 then 1 else 0))])) _
        exact k
      have hd140 : (if vf = 0 then 1 else 0) = ve := hj128.symm
      obtain ⟨fs, hr, hrun, hended, hW, hsame⟩ := X137.leave (v := some (.int (1 : Int32))) (fun h => by rw [Bd.returns] at h; cases h)
      refine ⟨_, _, pre139 _ ?_, hrun, hended, _, _, rfl, ?_, ⟨_, rfl⟩, hW, hsame.mono (by decide) (by decide)⟩
      · show Steps p.tables e below (T137.setTop (mkF m 126 #[.val (.long vf), .second, .val (.int vw), .val (.int vc1), .val (.int vc2), .val (.int (vw &&& (3 : Int32))), .val (.ref b1), .val (.ref b107), .val (.ref b115), .val (.ref b121), .val (.int ve)] [(.int ve), (.int (if vf = 0 then 1 else 0))])) _
        refine XS.icmpNo X137.here hx rfl (hb hby at_126) rfl (teq hd140).2 ?_
        show Steps p.tables e below (T137.setTop (mkF m 129 #[.val (.long vf), .second, .val (.int vw), .val (.int vc1), .val (.int vc2), .val (.int (vw &&& (3 : Int32))), .val (.ref b1), .val (.ref b107), .val (.ref b115), .val (.ref b121), .val (.int ve)] [])) _
        refine XS.iconst X137.here hx rfl (hb hby at_129) ?_
        show Steps p.tables e below (T137.setTop (mkF m 130 #[.val (.long vf), .second, .val (.int vw), .val (.int vc1), .val (.int vc2), .val (.int (vw &&& (3 : Int32))), .val (.ref b1), .val (.ref b107), .val (.ref b115), .val (.ref b121), .val (.int ve)] [(.int (1 : Int32))])) _
        refine XS.goto X137.here hx rfl (pc0 := 130) (pc' := 134) rfl (hb hby at_130) (by decide) (by decide) ?_
        show Steps p.tables e below (T137.setTop (mkF m 134 #[.val (.long vf), .second, .val (.int vw), .val (.int vc1), .val (.int vc2), .val (.int (vw &&& (3 : Int32))), .val (.ref b1), .val (.ref b107), .val (.ref b115), .val (.ref b121), .val (.int ve)] [(.int (1 : Int32))])) _
        exact retN X137 hx (t := .boolean) Bd.returns (by simp) (hb hby at_134) hr
      · show Q0 Z vf vw vc1 vc2 vcs ade kde h0 n0 _ T137.heap _
        rw [hh137]
        exact ⟨rfl, Nf137⟩
    · have Fc141 := (own_sta_keep K102 (allS (own_plE Fc96) all0) (own_sta_keep K94 all0 Fc93))
      obtain ⟨_, _, ⟨T142, L142, k142, n142⟩, -, X142, ⟨Lc142, hQ142, l142, y142, z142⟩, st142⟩ := Jvm.LawKit.callS X102 hx (y := (⟨"java/lang/String", "valueOf", "(C)Ljava/lang/String;"⟩ : MethodName)) hown (mvT hZ (hw _ (List.mem_of_getElem? (i := 26) rfl))) (mvT hZ (hw _ (List.mem_of_getElem? (i := 27) rfl))) (mvT hZ (hw _ (List.mem_of_getElem? (i := 28) rfl))) (mvT hZ (hw _ (List.mem_of_getElem? (i := 29) rfl))) (by decide) (backOf (W := 1) (rm_vo l Z a0 hw [] ((vc2 &&& (255 : Int32)).toUInt32.toUInt16.toUInt32.toInt32) vcs T102.heap n0 Zp104 Fc141 hcs (own_c255 _)) hZ (hw _ (List.mem_of_getElem? (i := 29) rfl)) (hw _ (List.mem_of_getElem? (i := 28) rfl)) (by decide) (by decide)) (g := (mkF m 52 #[.val (.long vf), .second, .val (.int vw), .val (.int vc1), .val (.int vc2), .val (.int (vw &&& (3 : Int32))), .val (.ref b1), .unset, .unset, .unset, .unset] [(.int ((vc2 &&& (255 : Int32)).toUInt32.toUInt16.toUInt32.toInt32)), (.ref b1)])) rfl (by rw [hml]; rfl) (argsL := [(.int ((vc2 &&& (255 : Int32)).toUInt32.toUInt16.toUInt32.toInt32))]) (rest := [(.ref b1)]) (lenOf own_pd10 rfl) rfl (by show 2 * 0 + _ ≤ _; exact Nat.le_of_eq rfl) (hb hby at_52) (fun _ _ => ⟨rfl, rfl, (by decide : 4 + 2 ≤ _), (by decide : 18 + 5 ≤ _)⟩)
      dsimp only [Pt.U, Pt.locs, Pt.cells, Pt.slots] at X142 l142 y142 z142 st142 hQ142
      subst l142 y142 z142
      obtain ⟨b142, vb142, kc142, y142, rfl, Nq142, K142, g_b142, sz_b142, Ex142, Fv142, Fc142, V142⟩ := hQ142
      have Nf142 := Fr.app Nf102 Nq142
      have Zp143 : n0 ≤ T142.heap.size := Nat.le_trans Zp104 K142.1
      have Fc144 := (Ex102.keep K142)
      have Fc145 := (Fm102.keep K142 nin0)
      have Fc146 := (Fe102.keep K142 nin0)
      have Fc147 := (Fs102.keep K142 nin0)
      have Fc148 := (V102.keep K142 nin0)
      obtain ⟨cq150, kq150, q150a, q150b, q150c⟩ := isOf hZ rfl Fc144
      obtain ⟨_, _, ⟨T149, L149, k149, n149⟩, -, X149, ⟨Lc149, hQ149, l149, y149, z149⟩, st149⟩ := X142.interfaceBack hx (xi := (⟨"java/util/List", "add", "(Ljava/lang/Object;)Z"⟩ : MethodName)) (y := (⟨"java/util/ArrayList", "add", "(Ljava/lang/Object;)Z"⟩ : MethodName)) hown (mvT hZ (hw _ (List.mem_of_getElem? (i := 50) rfl))) (mvT hZ (hw _ (List.mem_of_getElem? (i := 51) rfl))) (mvT hZ (hw _ (List.mem_of_getElem? (i := 52) rfl))) (mvT hZ (hw _ (List.mem_of_getElem? (i := 53) rfl))) (mvT hZ (hw _ (List.mem_of_getElem? (i := 54) rfl))) (mvT hZ (hw _ (List.mem_of_getElem? (i := 55) rfl))) (mvT hZ (hw _ (List.mem_of_getElem? (i := 56) rfl))) (mvT hZ (hw _ (List.mem_of_getElem? (i := 57) rfl))) (by decide) (backOf (W := 0) (rm_a11 l Z a0 hw [] b1 b142 ((0 : Int32) + (1 : Int32)) b102 kb102 b94 T142.heap n0 Zp143 Fc144 g_b1 Fc145 Fc146 Fc147 Fc148 O102 g_b102 (Nat.ne_of_lt (Nat.lt_of_lt_of_le (Fc96).lt sz_b102)) Ex142) hZ (hw _ (List.mem_of_getElem? (i := 58) rfl)) (hw _ (List.mem_of_getElem? (i := 2) rfl)) (by decide) (by decide)) q150a q150b q150c (g := (mkF m 55 #[.val (.long vf), .second, .val (.int vw), .val (.int vc1), .val (.int vc2), .val (.int (vw &&& (3 : Int32))), .val (.ref b1), .unset, .unset, .unset, .unset] [(.ref b142), (.ref b1)])) rfl (by rw [hml]; rfl) (Steps.refl _) (argsL := [(.ref b142)]) (rest := []) (lenOf own_pd11 rfl) rfl (by show 2 * 0 + _ ≤ _; exact Nat.le_of_eq rfl) (hb hby at_55) (fun _ _ => ⟨rfl, rfl, (by decide : 6 + 0 ≤ _), (by decide : 23 + 0 ≤ _)⟩)
      dsimp only [Pt.U, Pt.locs, Pt.cells, Pt.slots] at X149 l149 y149 z149 st149 hQ149
      subst l149 y149 z149
      obtain ⟨rfl, Nq149, K149, Ex149⟩ := hQ149
      have Nf149 := Fr.app Nf142 Nq149
      have Zp151 : n0 ≤ T149.heap.size := Nat.le_trans Zp143 K149.1
      obtain ⟨T152, h152, X152, e152, E152, A152, D152, U152, st152⟩ := newO X149 hx hZ hown (hw _ (List.mem_of_getElem? (i := 0) rfl)) (hw _ (List.mem_of_getElem? (i := 1) rfl)) (hw _ (List.mem_of_getElem? (i := 2) rfl)) rfl (g := (mkF m 61 #[.val (.long vf), .second, .val (.int vw), .val (.int vc1), .val (.int vc2), .val (.int (vw &&& (3 : Int32))), .val (.ref b1), .unset, .unset, .unset, .unset] [])) rfl (hb hby at_61) (by decide) (by decide)
      obtain ⟨b152, g152⟩ : ∃ z, z = T149.heap.size := ⟨_, rfl⟩
      rw [← g152] at A152 D152 U152 st152
      have g_b152 : n0 ≤ b152 := Nat.le_trans Zp151 (Nat.le_of_eq g152.symm)
      have Zp153 : n0 ≤ h152.size := Nat.le_trans Zp151 E152.1
      have Fn154 : Fld Z h152 b152 "java/util/AbstractList" "modCount" "I" (.int (0 : Int32)) := D152 (Or.inl (hw _ (List.mem_of_getElem? (i := 22) rfl))) (ty := .int) (by decide)
      have Fn155 : Fld Z h152 b152 "java/util/ArrayList" "elementData" "[Ljava/lang/Object;" .null := D152 (Or.inl (hw _ (List.mem_of_getElem? (i := 25) rfl))) (ty := (.array (.object "java/lang/Object"))) (by decide)
      have Fn156 : Fld Z h152 b152 "java/util/ArrayList" "size" "I" (.int (0 : Int32)) := D152 (Or.inl (hw _ (List.mem_of_getElem? (i := 62) rfl))) (ty := .int) (by decide)
      have Fc157 := (Sta.ext E152 (own_sta_keep K149 (allS (own_plE Fc144) (allS (own_plV Fc148) all0)) (own_sta_keep K142 all0 (own_sta_keep K102 (allS (own_plE Fc96) all0) Fc100))))
      obtain ⟨_, _, ⟨T158, L158, k158, n158⟩, -, X158, ⟨Lc158, hQ158, l158, y158, z158⟩, st158⟩ := X152.specialBack hx (y := (⟨"java/util/ArrayList", "<init>", "()V"⟩ : MethodName)) rfl hown (mvT hZ (hw _ (List.mem_of_getElem? (i := 3) rfl))) (mvT hZ (hw _ (List.mem_of_getElem? (i := 4) rfl))) (mvT hZ (hw _ (List.mem_of_getElem? (i := 5) rfl))) (by decide) (backOf (W := 1) (rm_ai l Z a0 hw [] b152 ade h152 n0 Zp153 A152 g_b152 Fn154 Fn155 Fn156 Fc157) hZ (hw _ (List.mem_of_getElem? (i := 5) rfl)) (hw _ (List.mem_of_getElem? (i := 2) rfl)) (by decide) (by decide)) (g := (mkF m 65 #[.val (.long vf), .second, .val (.int vw), .val (.int vc1), .val (.int vc2), .val (.int (vw &&& (3 : Int32))), .val (.ref b1), .unset, .unset, .unset, .unset] [(.ref b152), (.ref b152)])) rfl (by rw [hml]; rfl) (Steps.refl _) (a := b152) (argsL := []) (rest := [(.ref b152)]) (lenOf own_pd3 rfl) rfl (by show 2 * 0 + _ ≤ _; exact Nat.le_of_eq rfl) (hb hby at_65) (fun _ _ => ⟨rfl, e152, (by decide : 7 + 0 ≤ _), (by decide : 26 + 0 ≤ _)⟩)
      dsimp only [Pt.U, Pt.locs, Pt.cells, Pt.slots] at X158 l158 y158 z158 st158 hQ158
      subst l158 y158 z158
      obtain ⟨rfl, Nq158, K158, Ex158, Fm158, Fe158, Fs158⟩ := hQ158
      have Nf158 := Fr.app Nf149 Nq158
      have Zp159 : n0 ≤ T158.heap.size := Nat.le_trans Zp153 K158.1
      obtain ⟨T160, h160, X160, e160, E160, A160, D160, U160, st160⟩ := newO X158 hx hZ hown (hw _ (List.mem_of_getElem? (i := 85) rfl)) (hw _ (List.mem_of_getElem? (i := 86) rfl)) (hw _ (List.mem_of_getElem? (i := 87) rfl)) rfl (g := (mkF m 70 #[.val (.long vf), .second, .val (.int vw), .val (.int vc1), .val (.int vc2), .val (.int (vw &&& (3 : Int32))), .val (.ref b1), .val (.ref b152), .unset, .unset, .unset] [])) rfl (hb hby at_70) (by decide) (by decide)
      obtain ⟨b160, g160⟩ : ∃ z, z = T158.heap.size := ⟨_, rfl⟩
      rw [← g160] at A160 D160 U160 st160
      have g_b160 : n0 ≤ b160 := Nat.le_trans Zp159 (Nat.le_of_eq g160.symm)
      have Zp161 : n0 ≤ h160.size := Nat.le_trans Zp159 E160.1
      have Fn162 : Fld Z h160 b160 "com/example/adhoc/adhoc/submission/Validator$Report" "faults" "J" (.long (0 : Int64)) := D160 (Or.inr (hw _ (List.mem_of_getElem? (i := 98) rfl))) (ty := .long) (by decide)
      have Fn163 : Fld Z h160 b160 "com/example/adhoc/adhoc/submission/Validator$Report" "warnings" "Ljava/util/List;" .null := D160 (Or.inr (hw _ (List.mem_of_getElem? (i := 100) rfl))) (ty := (.object "java/util/List")) (by decide)
      obtain ⟨_, _, ⟨T164, L164, k164, n164⟩, -, X164, ⟨Lc164, hQ164, l164, y164, z164⟩, st164⟩ := X160.specialBack hx (y := (⟨"com/example/adhoc/adhoc/submission/Validator$Report", "<init>", "(JLjava/util/List;)V"⟩ : MethodName)) rfl hown (mvT hZ (hw _ (List.mem_of_getElem? (i := 88) rfl))) (mvT hZ (hw _ (List.mem_of_getElem? (i := 89) rfl))) (mvT hZ (hw _ (List.mem_of_getElem? (i := 90) rfl))) (by decide) (backOf (W := 1) (rm_rep l Z a0 hw [] b160 vf b1 h160 n0 Zp161 A160 g_b160 Fn162 Fn163) hZ (hw _ (List.mem_of_getElem? (i := 90) rfl)) (hw _ (List.mem_of_getElem? (i := 87) rfl)) (by decide) (by decide)) (g := (mkF m 77 #[.val (.long vf), .second, .val (.int vw), .val (.int vc1), .val (.int vc2), .val (.int (vw &&& (3 : Int32))), .val (.ref b1), .val (.ref b152), .unset, .unset, .unset] [(.ref b1), (.long vf), (.ref b160), (.ref b160)])) rfl (by rw [hml]; rfl) (Steps.refl _) (a := b160) (argsL := [(.long vf), (.ref b1)]) (rest := [(.ref b160)]) (lenOf own_pd8 rfl) rfl (by show 2 * 0 + _ ≤ _; exact Nat.le_of_eq rfl) (hb hby at_77) (fun _ _ => ⟨rfl, e160, (by decide : 8 + 0 ≤ _), (by decide : 28 + 0 ≤ _)⟩)
      dsimp only [Pt.U, Pt.locs, Pt.cells, Pt.slots] at X164 l164 y164 z164 st164 hQ164
      subst l164 y164 z164
      obtain ⟨rfl, Nq164, K164, Ex164, Fx164_0, Fx164_1⟩ := hQ164
      have Nf164 := Fr.app Nf158 Nq164
      have Zp165 : n0 ≤ T164.heap.size := Nat.le_trans Zp161 K164.1
      obtain ⟨T166, h166, X166, e166, E166, A166, D166, U166, st166⟩ := newO X164 hx hZ hown (hw _ (List.mem_of_getElem? (i := 85) rfl)) (hw _ (List.mem_of_getElem? (i := 86) rfl)) (hw _ (List.mem_of_getElem? (i := 87) rfl)) rfl (g := (mkF m 82 #[.val (.long vf), .second, .val (.int vw), .val (.int vc1), .val (.int vc2), .val (.int (vw &&& (3 : Int32))), .val (.ref b1), .val (.ref b152), .val (.ref b160), .unset, .unset] [])) rfl (hb hby at_82) (by decide) (by decide)
      obtain ⟨b166, g166⟩ : ∃ z, z = T164.heap.size := ⟨_, rfl⟩
      rw [← g166] at A166 D166 U166 st166
      have g_b166 : n0 ≤ b166 := Nat.le_trans Zp165 (Nat.le_of_eq g166.symm)
      have Zp167 : n0 ≤ h166.size := Nat.le_trans Zp165 E166.1
      have Fn168 : Fld Z h166 b166 "com/example/adhoc/adhoc/submission/Validator$Report" "faults" "J" (.long (0 : Int64)) := D166 (Or.inr (hw _ (List.mem_of_getElem? (i := 98) rfl))) (ty := .long) (by decide)
      have Fn169 : Fld Z h166 b166 "com/example/adhoc/adhoc/submission/Validator$Report" "warnings" "Ljava/util/List;" .null := D166 (Or.inr (hw _ (List.mem_of_getElem? (i := 100) rfl))) (ty := (.object "java/util/List")) (by decide)
      obtain ⟨_, _, ⟨T170, L170, k170, n170⟩, -, X170, ⟨Lc170, hQ170, l170, y170, z170⟩, st170⟩ := X166.specialBack hx (y := (⟨"com/example/adhoc/adhoc/submission/Validator$Report", "<init>", "(JLjava/util/List;)V"⟩ : MethodName)) rfl hown (mvT hZ (hw _ (List.mem_of_getElem? (i := 88) rfl))) (mvT hZ (hw _ (List.mem_of_getElem? (i := 89) rfl))) (mvT hZ (hw _ (List.mem_of_getElem? (i := 90) rfl))) (by decide) (backOf (W := 1) (rm_rep l Z a0 hw [] b166 vf b152 h166 n0 Zp167 A166 g_b166 Fn168 Fn169) hZ (hw _ (List.mem_of_getElem? (i := 90) rfl)) (hw _ (List.mem_of_getElem? (i := 87) rfl)) (by decide) (by decide)) (g := (mkF m 89 #[.val (.long vf), .second, .val (.int vw), .val (.int vc1), .val (.int vc2), .val (.int (vw &&& (3 : Int32))), .val (.ref b1), .val (.ref b152), .val (.ref b160), .unset, .unset] [(.ref b152), (.long vf), (.ref b166), (.ref b166)])) rfl (by rw [hml]; rfl) (Steps.refl _) (a := b166) (argsL := [(.long vf), (.ref b152)]) (rest := [(.ref b166)]) (lenOf own_pd8 rfl) rfl (by show 2 * 0 + _ ≤ _; exact Nat.le_of_eq rfl) (hb hby at_89) (fun _ _ => ⟨rfl, e166, (by decide : 9 + 0 ≤ _), (by decide : 30 + 0 ≤ _)⟩)
      dsimp only [Pt.U, Pt.locs, Pt.cells, Pt.slots] at X170 l170 y170 z170 st170 hQ170
      subst l170 y170 z170
      obtain ⟨rfl, Nq170, K170, Ex170, Fx170_0, Fx170_1⟩ := hQ170
      have Nf170 := Fr.app Nf164 Nq170
      have Zp171 : n0 ≤ T170.heap.size := Nat.le_trans Zp167 K170.1
      have pre172 : ∀ t, Steps p.tables e below (T170.setTop (mkF m 94 #[.val (.long vf), .second, .val (.int vw), .val (.int vc1), .val (.int vc2), .val (.int (vw &&& (3 : Int32))), .val (.ref b1), .val (.ref b152), .val (.ref b160), .val (.ref b166), .unset] [])) t → Steps p.tables e below (s₁.setTop (entryFrame m #[(.long vf), (.int vw), (.int vc1), (.int vc2)] maxLocals)) t := by
        intro t k
        refine pre105 t ?_
        show Steps p.tables e below (T102.setTop (mkF m 40 #[.val (.long vf), .second, .val (.int vw), .val (.int vc1), .val (.int vc2), .val (.int (vw &&& (3 : Int32))), .val (.ref b1), .unset, .unset, .unset, .unset] [(.int (2 : Int32)), (.int (vw &&& (3 : Int32)))])) _
        refine XS.icmpNo X102.here hx rfl (hb hby at_40) rfl (flt hc106).1 ?_
        show Steps p.tables e below (T102.setTop (mkF m 43 #[.val (.long vf), .second, .val (.int vw), .val (.int vc1), .val (.int vc2), .val (.int (vw &&& (3 : Int32))), .val (.ref b1), .unset, .unset, .unset, .unset] [])) _
        refine XS.aload X102.here hx rfl (hb hby at_43) rfl rfl ?_
        show Steps p.tables e below (T102.setTop (mkF m 45 #[.val (.long vf), .second, .val (.int vw), .val (.int vc1), .val (.int vc2), .val (.int (vw &&& (3 : Int32))), .val (.ref b1), .unset, .unset, .unset, .unset] [(.ref b1)])) _
        refine XS.iload X102.here hx rfl (hb hby at_45) rfl ?_
        show Steps p.tables e below (T102.setTop (mkF m 47 #[.val (.long vf), .second, .val (.int vw), .val (.int vc1), .val (.int vc2), .val (.int (vw &&& (3 : Int32))), .val (.ref b1), .unset, .unset, .unset, .unset] [(.int vc2), (.ref b1)])) _
        refine XS.sipush X102.here hx rfl (hb hby at_47) ?_
        show Steps p.tables e below (T102.setTop (mkF m 50 #[.val (.long vf), .second, .val (.int vw), .val (.int vc1), .val (.int vc2), .val (.int (vw &&& (3 : Int32))), .val (.ref b1), .unset, .unset, .unset, .unset] [(.int (255 : Int32)), (.int vc2), (.ref b1)])) _
        refine XS.iand X102.here hx rfl (hb hby at_50) rfl ?_
        show Steps p.tables e below (T102.setTop (mkF m 51 #[.val (.long vf), .second, .val (.int vw), .val (.int vc1), .val (.int vc2), .val (.int (vw &&& (3 : Int32))), .val (.ref b1), .unset, .unset, .unset, .unset] [(.int (vc2 &&& (255 : Int32))), (.ref b1)])) _
        refine XS.i2c X102.here hx rfl (hb hby at_51) rfl ?_
        show Steps p.tables e below (T102.setTop (mkF m 52 #[.val (.long vf), .second, .val (.int vw), .val (.int vc1), .val (.int vc2), .val (.int (vw &&& (3 : Int32))), .val (.ref b1), .unset, .unset, .unset, .unset] [(.int ((vc2 &&& (255 : Int32)).toUInt32.toUInt16.toUInt32.toInt32)), (.ref b1)])) _
        refine st142 _ ?_
        show Steps p.tables e below (T142.setTop (mkF m 55 #[.val (.long vf), .second, .val (.int vw), .val (.int vc1), .val (.int vc2), .val (.int (vw &&& (3 : Int32))), .val (.ref b1), .unset, .unset, .unset, .unset] [(.ref b142), (.ref b1)])) _
        refine st149.trans ?_
        show Steps p.tables e below (T149.setTop (mkF m 60 #[.val (.long vf), .second, .val (.int vw), .val (.int vc1), .val (.int vc2), .val (.int (vw &&& (3 : Int32))), .val (.ref b1), .unset, .unset, .unset, .unset] [(.int (1 : Int32))])) _
        refine XS.pop X149.here hx rfl (hb hby at_60) rfl rfl ?_
        show Steps p.tables e below (T149.setTop (mkF m 61 #[.val (.long vf), .second, .val (.int vw), .val (.int vc1), .val (.int vc2), .val (.int (vw &&& (3 : Int32))), .val (.ref b1), .unset, .unset, .unset, .unset] [])) _
        refine st152 _ ?_
        show Steps p.tables e below (T152.setTop (mkF m 64 #[.val (.long vf), .second, .val (.int vw), .val (.int vc1), .val (.int vc2), .val (.int (vw &&& (3 : Int32))), .val (.ref b1), .unset, .unset, .unset, .unset] [(.ref b152)])) _
        refine XS.dup X152.here hx rfl (hb hby at_64) rfl rfl ?_
        show Steps p.tables e below (T152.setTop (mkF m 65 #[.val (.long vf), .second, .val (.int vw), .val (.int vc1), .val (.int vc2), .val (.int (vw &&& (3 : Int32))), .val (.ref b1), .unset, .unset, .unset, .unset] [(.ref b152), (.ref b152)])) _
        refine st158.trans ?_
        show Steps p.tables e below (T158.setTop (mkF m 68 #[.val (.long vf), .second, .val (.int vw), .val (.int vc1), .val (.int vc2), .val (.int (vw &&& (3 : Int32))), .val (.ref b1), .unset, .unset, .unset, .unset] [(.ref b152)])) _
        refine XS.astore X158.here hx rfl (hb hby at_68) rfl rfl (l' := #[.val (.long vf), .second, .val (.int vw), .val (.int vc1), .val (.int vc2), .val (.int (vw &&& (3 : Int32))), .val (.ref b1), .val (.ref b152), .unset, .unset, .unset]) rfl ?_
        show Steps p.tables e below (T158.setTop (mkF m 70 #[.val (.long vf), .second, .val (.int vw), .val (.int vc1), .val (.int vc2), .val (.int (vw &&& (3 : Int32))), .val (.ref b1), .val (.ref b152), .unset, .unset, .unset] [])) _
        refine st160 _ ?_
        show Steps p.tables e below (T160.setTop (mkF m 73 #[.val (.long vf), .second, .val (.int vw), .val (.int vc1), .val (.int vc2), .val (.int (vw &&& (3 : Int32))), .val (.ref b1), .val (.ref b152), .unset, .unset, .unset] [(.ref b160)])) _
        refine XS.dup X160.here hx rfl (hb hby at_73) rfl rfl ?_
        show Steps p.tables e below (T160.setTop (mkF m 74 #[.val (.long vf), .second, .val (.int vw), .val (.int vc1), .val (.int vc2), .val (.int (vw &&& (3 : Int32))), .val (.ref b1), .val (.ref b152), .unset, .unset, .unset] [(.ref b160), (.ref b160)])) _
        refine XS.lloadN X160.here hx rfl (hb hby at_74) rfl ?_
        show Steps p.tables e below (T160.setTop (mkF m 75 #[.val (.long vf), .second, .val (.int vw), .val (.int vc1), .val (.int vc2), .val (.int (vw &&& (3 : Int32))), .val (.ref b1), .val (.ref b152), .unset, .unset, .unset] [(.long vf), (.ref b160), (.ref b160)])) _
        refine XS.aload X160.here hx rfl (hb hby at_75) rfl rfl ?_
        show Steps p.tables e below (T160.setTop (mkF m 77 #[.val (.long vf), .second, .val (.int vw), .val (.int vc1), .val (.int vc2), .val (.int (vw &&& (3 : Int32))), .val (.ref b1), .val (.ref b152), .unset, .unset, .unset] [(.ref b1), (.long vf), (.ref b160), (.ref b160)])) _
        refine st164.trans ?_
        show Steps p.tables e below (T164.setTop (mkF m 80 #[.val (.long vf), .second, .val (.int vw), .val (.int vc1), .val (.int vc2), .val (.int (vw &&& (3 : Int32))), .val (.ref b1), .val (.ref b152), .unset, .unset, .unset] [(.ref b160)])) _
        refine XS.astore X164.here hx rfl (hb hby at_80) rfl rfl (l' := #[.val (.long vf), .second, .val (.int vw), .val (.int vc1), .val (.int vc2), .val (.int (vw &&& (3 : Int32))), .val (.ref b1), .val (.ref b152), .val (.ref b160), .unset, .unset]) rfl ?_
        show Steps p.tables e below (T164.setTop (mkF m 82 #[.val (.long vf), .second, .val (.int vw), .val (.int vc1), .val (.int vc2), .val (.int (vw &&& (3 : Int32))), .val (.ref b1), .val (.ref b152), .val (.ref b160), .unset, .unset] [])) _
        refine st166 _ ?_
        show Steps p.tables e below (T166.setTop (mkF m 85 #[.val (.long vf), .second, .val (.int vw), .val (.int vc1), .val (.int vc2), .val (.int (vw &&& (3 : Int32))), .val (.ref b1), .val (.ref b152), .val (.ref b160), .unset, .unset] [(.ref b166)])) _
        refine XS.dup X166.here hx rfl (hb hby at_85) rfl rfl ?_
        show Steps p.tables e below (T166.setTop (mkF m 86 #[.val (.long vf), .second, .val (.int vw), .val (.int vc1), .val (.int vc2), .val (.int (vw &&& (3 : Int32))), .val (.ref b1), .val (.ref b152), .val (.ref b160), .unset, .unset] [(.ref b166), (.ref b166)])) _
        refine XS.lloadN X166.here hx rfl (hb hby at_86) rfl ?_
        show Steps p.tables e below (T166.setTop (mkF m 87 #[.val (.long vf), .second, .val (.int vw), .val (.int vc1), .val (.int vc2), .val (.int (vw &&& (3 : Int32))), .val (.ref b1), .val (.ref b152), .val (.ref b160), .unset, .unset] [(.long vf), (.ref b166), (.ref b166)])) _
        refine XS.aload X166.here hx rfl (hb hby at_87) rfl rfl ?_
        show Steps p.tables e below (T166.setTop (mkF m 89 #[.val (.long vf), .second, .val (.int vw), .val (.int vc1), .val (.int vc2), .val (.int (vw &&& (3 : Int32))), .val (.ref b1), .val (.ref b152), .val (.ref b160), .unset, .unset] [(.ref b152), (.long vf), (.ref b166), (.ref b166)])) _
        refine st170.trans ?_
        show Steps p.tables e below (T170.setTop (mkF m 92 #[.val (.long vf), .second, .val (.int vw), .val (.int vc1), .val (.int vc2), .val (.int (vw &&& (3 : Int32))), .val (.ref b1), .val (.ref b152), .val (.ref b160), .unset, .unset] [(.ref b166)])) _
        refine XS.astore X170.here hx rfl (hb hby at_92) rfl rfl (l' := #[.val (.long vf), .second, .val (.int vw), .val (.int vc1), .val (.int vc2), .val (.int (vw &&& (3 : Int32))), .val (.ref b1), .val (.ref b152), .val (.ref b160), .val (.ref b166), .unset]) rfl ?_
        show Steps p.tables e below (T170.setTop (mkF m 94 #[.val (.long vf), .second, .val (.int vw), .val (.int vc1), .val (.int vc2), .val (.int (vw &&& (3 : Int32))), .val (.ref b1), .val (.ref b152), .val (.ref b160), .val (.ref b166), .unset] [])) _
        exact k
      obtain ⟨ve, T173, lo173, X173, Nj173, ej173, hj173, pre173⟩ : ∃ (ve : Int32) (T' : State) (lo : List Loc), Stand p l e room_1 s m #[(.long vf), (.int vw), (.int vc1), (.int vc2)] below meth c T' lo 9 30 ∧ Fr n0 lo ∧ T'.heap = T170.heap ∧ (ve = if vf = 0 then 1 else 0) ∧ ∀ t, Steps p.tables e below (T'.setTop (mkF m 109 #[.val (.long vf), .second, .val (.int vw), .val (.int vc1), .val (.int vc2), .val (.int (vw &&& (3 : Int32))), .val (.ref b1), .val (.ref b152), .val (.ref b160), .val (.ref b166), .val (.int ve)] [])) t → Steps p.tables e below (s₁.setTop (entryFrame m #[(.long vf), (.int vw), (.int vc1), (.int vc2)] maxLocals)) t := by
        have pre174 : ∀ t, Steps p.tables e below (T170.setTop (mkF m 97 #[.val (.long vf), .second, .val (.int vw), .val (.int vc1), .val (.int vc2), .val (.int (vw &&& (3 : Int32))), .val (.ref b1), .val (.ref b152), .val (.ref b160), .val (.ref b166), .unset] [(.int (lcmpW vf (0 : Int64)))])) t → Steps p.tables e below (s₁.setTop (entryFrame m #[(.long vf), (.int vw), (.int vc1), (.int vc2)] maxLocals)) t := by
          intro t k
          refine pre172 t ?_
          show Steps p.tables e below (T170.setTop (mkF m 94 #[.val (.long vf), .second, .val (.int vw), .val (.int vc1), .val (.int vc2), .val (.int (vw &&& (3 : Int32))), .val (.ref b1), .val (.ref b152), .val (.ref b160), .val (.ref b166), .unset] [])) _
          refine XS.lloadN X170.here hx rfl (hb hby at_94) rfl ?_
          show Steps p.tables e below (T170.setTop (mkF m 95 #[.val (.long vf), .second, .val (.int vw), .val (.int vc1), .val (.int vc2), .val (.int (vw &&& (3 : Int32))), .val (.ref b1), .val (.ref b152), .val (.ref b160), .val (.ref b166), .unset] [(.long vf)])) _
          refine XS.lconst X170.here hx rfl (hb hby at_95) ?_
          show Steps p.tables e below (T170.setTop (mkF m 96 #[.val (.long vf), .second, .val (.int vw), .val (.int vc1), .val (.int vc2), .val (.int (vw &&& (3 : Int32))), .val (.ref b1), .val (.ref b152), .val (.ref b160), .val (.ref b166), .unset] [(.long (0 : Int64)), (.long vf)])) _
          refine XS.lcmp X170.here hx rfl (hb hby at_96) rfl ?_
          show Steps p.tables e below (T170.setTop (mkF m 97 #[.val (.long vf), .second, .val (.int vw), .val (.int vc1), .val (.int vc2), .val (.int (vw &&& (3 : Int32))), .val (.ref b1), .val (.ref b152), .val (.ref b160), .val (.ref b166), .unset] [(.int (lcmpW vf (0 : Int64)))])) _
          exact k
        by_cases hc175 : vf = (0 : Int64)
        · refine ⟨(1 : Int32), T170, _, X170, Nf170, rfl, (if_pos hc175).symm, fun t k => ?_⟩
          refine pre174 t ?_
          show Steps p.tables e below (T170.setTop (mkF m 97 #[.val (.long vf), .second, .val (.int vw), .val (.int vc1), .val (.int vc2), .val (.int (vw &&& (3 : Int32))), .val (.ref b1), .val (.ref b152), .val (.ref b160), .val (.ref b166), .unset] [(.int (lcmpW vf (0 : Int64)))])) _
          refine XS.ifNo X170.here hx rfl (hb hby at_97) rfl ((if0 _ _).trans (teq ((lw_eq _ _).mpr hc175)).2) ?_
          show Steps p.tables e below (T170.setTop (mkF m 100 #[.val (.long vf), .second, .val (.int vw), .val (.int vc1), .val (.int vc2), .val (.int (vw &&& (3 : Int32))), .val (.ref b1), .val (.ref b152), .val (.ref b160), .val (.ref b166), .unset] [])) _
          refine XS.iconst X170.here hx rfl (hb hby at_100) ?_
          show Steps p.tables e below (T170.setTop (mkF m 101 #[.val (.long vf), .second, .val (.int vw), .val (.int vc1), .val (.int vc2), .val (.int (vw &&& (3 : Int32))), .val (.ref b1), .val (.ref b152), .val (.ref b160), .val (.ref b166), .unset] [(.int (1 : Int32))])) _
          refine XS.istore X170.here hx rfl (hb hby at_101) rfl (l' := #[.val (.long vf), .second, .val (.int vw), .val (.int vc1), .val (.int vc2), .val (.int (vw &&& (3 : Int32))), .val (.ref b1), .val (.ref b152), .val (.ref b160), .val (.ref b166), .val (.int (1 : Int32))]) rfl ?_
          show Steps p.tables e below (T170.setTop (mkF m 103 #[.val (.long vf), .second, .val (.int vw), .val (.int vc1), .val (.int vc2), .val (.int (vw &&& (3 : Int32))), .val (.ref b1), .val (.ref b152), .val (.ref b160), .val (.ref b166), .val (.int (1 : Int32))] [])) _
          refine XS.goto X170.here hx rfl (pc0 := 103) (pc' := 109) rfl (hb hby at_103) (by decide) (by decide) ?_
          show Steps p.tables e below (T170.setTop (mkF m 109 #[.val (.long vf), .second, .val (.int vw), .val (.int vc1), .val (.int vc2), .val (.int (vw &&& (3 : Int32))), .val (.ref b1), .val (.ref b152), .val (.ref b160), .val (.ref b166), .val (.int (1 : Int32))] [])) _
          exact k
        · refine ⟨(0 : Int32), T170, _, X170, Nf170, rfl, (if_neg hc175).symm, fun t k => ?_⟩
          refine pre174 t ?_
          show Steps p.tables e below (T170.setTop (mkF m 97 #[.val (.long vf), .second, .val (.int vw), .val (.int vc1), .val (.int vc2), .val (.int (vw &&& (3 : Int32))), .val (.ref b1), .val (.ref b152), .val (.ref b160), .val (.ref b166), .unset] [(.int (lcmpW vf (0 : Int64)))])) _
          refine XS.ifYes X170.here hx rfl (pc0 := 97) (pc' := 106) rfl (hb hby at_97) rfl ((if0 _ _).trans (feq (mt (lw_eq _ _).mp hc175)).2) (by decide) (by decide) ?_
          show Steps p.tables e below (T170.setTop (mkF m 106 #[.val (.long vf), .second, .val (.int vw), .val (.int vc1), .val (.int vc2), .val (.int (vw &&& (3 : Int32))), .val (.ref b1), .val (.ref b152), .val (.ref b160), .val (.ref b166), .unset] [])) _
          refine XS.iconst X170.here hx rfl (hb hby at_106) ?_
          show Steps p.tables e below (T170.setTop (mkF m 107 #[.val (.long vf), .second, .val (.int vw), .val (.int vc1), .val (.int vc2), .val (.int (vw &&& (3 : Int32))), .val (.ref b1), .val (.ref b152), .val (.ref b160), .val (.ref b166), .unset] [(.int (0 : Int32))])) _
          refine XS.istore X170.here hx rfl (hb hby at_107) rfl (l' := #[.val (.long vf), .second, .val (.int vw), .val (.int vc1), .val (.int vc2), .val (.int (vw &&& (3 : Int32))), .val (.ref b1), .val (.ref b152), .val (.ref b160), .val (.ref b166), .val (.int (0 : Int32))]) rfl ?_
          show Steps p.tables e below (T170.setTop (mkF m 109 #[.val (.long vf), .second, .val (.int vw), .val (.int vc1), .val (.int vc2), .val (.int (vw &&& (3 : Int32))), .val (.ref b1), .val (.ref b152), .val (.ref b160), .val (.ref b166), .val (.int (0 : Int32))] [])) _
          exact k
      have Fc176 := ((Fld.ext E166 Fx164_0).keep K170 (ninS (Nat.ne_of_lt (Nat.lt_of_lt_of_le (Ex164).lt (Nat.le_of_eq g166.symm))) nin0))
      have Fc179 := ((Exa.ext E166 Ex164).keep K170)
      obtain ⟨cq178, kq178, q178a, q178b, q178c⟩ := isOf hZ ej173 Fc179
      obtain ⟨_, _, ⟨T177, L177, k177, n177⟩, -, X177, ⟨Lc177, hQ177, l177, y177, z177⟩, st177⟩ := X173.virtualBack hx (y := (⟨"com/example/adhoc/adhoc/submission/Validator$Report", "isValid", "()Z"⟩ : MethodName)) (z := (⟨"com/example/adhoc/adhoc/submission/Validator$Report", "isValid", "()Z"⟩ : MethodName)) hown (mvT hZ (hw _ (List.mem_of_getElem? (i := 101) rfl))) (mvT hZ (hw _ (List.mem_of_getElem? (i := 102) rfl))) (notFace_of_selects (args := #[]) (mvT hZ (hw _ (List.mem_of_getElem? (i := 104) rfl)))) (mvT hZ (hw _ (List.mem_of_getElem? (i := 104) rfl))) (mvT hZ (hw _ (List.mem_of_getElem? (i := 103) rfl))) (by decide) (backOf (W := 0) (rm_val l Z a0 hw [] b160 vf T170.heap n0 Zp171 Fc176) hZ (hw _ (List.mem_of_getElem? (i := 105) rfl)) (hw _ (List.mem_of_getElem? (i := 87) rfl)) (by decide) (by decide)) q178a q178c (g := (mkF m 111 #[.val (.long vf), .second, .val (.int vw), .val (.int vc1), .val (.int vc2), .val (.int (vw &&& (3 : Int32))), .val (.ref b1), .val (.ref b152), .val (.ref b160), .val (.ref b166), .val (.int ve)] [(.ref b160)])) rfl (by rw [hml]; rfl) (Steps.refl _) (argsL := []) (rest := []) (lenOf own_pd9 rfl) rfl (by show 2 * 0 + _ ≤ _; exact Nat.le_of_eq rfl) (hb hby at_111) (fun _ _ => ⟨rfl, ej173, (by decide : 9 + 0 ≤ _), (by decide : 30 + 0 ≤ _)⟩)
      dsimp only [Pt.U, Pt.locs, Pt.cells, Pt.slots] at X177 l177 y177 z177 st177 hQ177
      subst l177 y177 z177
      obtain ⟨rfl, Nq177, hh177⟩ := hQ177
      have Nf177 := Fr.app Nj173 Nq177
      have pre180 : ∀ t, Steps p.tables e below (T177.setTop (mkF m 116 #[.val (.long vf), .second, .val (.int vw), .val (.int vc1), .val (.int vc2), .val (.int (vw &&& (3 : Int32))), .val (.ref b1), .val (.ref b152), .val (.ref b160), .val (.ref b166), .val (.int ve)] [(.int ve), (.int (if vf = 0 then 1 else 0))])) t → Steps p.tables e below (s₁.setTop (entryFrame m #[(.long vf), (.int vw), (.int vc1), (.int vc2)] maxLocals)) t := by
        intro t k
        refine pre173 t ?_
        show Steps p.tables e below (T173.setTop (mkF m 109 #[.val (.long vf), .second, .val (.int vw), .val (.int vc1), .val (.int vc2), .val (.int (vw &&& (3 : Int32))), .val (.ref b1), .val (.ref b152), .val (.ref b160), .val (.ref b166), .val (.int ve)] [])) _
        refine XS.aload X173.here hx rfl (hb hby at_109) rfl rfl ?_
        show Steps p.tables e below (T173.setTop (mkF m 111 #[.val (.long vf), .second, .val (.int vw), .val (.int vc1), .val (.int vc2), .val (.int (vw &&& (3 : Int32))), .val (.ref b1), .val (.ref b152), .val (.ref b160), .val (.ref b166), .val (.int ve)] [(.ref b160)])) _
        refine st177.trans ?_
        show Steps p.tables e below (T177.setTop (mkF m 114 #[.val (.long vf), .second, .val (.int vw), .val (.int vc1), .val (.int vc2), .val (.int (vw &&& (3 : Int32))), .val (.ref b1), .val (.ref b152), .val (.ref b160), .val (.ref b166), .val (.int ve)] [(.int (if vf = 0 then 1 else 0))])) _
        refine XS.iload X177.here hx rfl (hb hby at_114) rfl ?_
        show Steps p.tables e below (T177.setTop (mkF m 116 #[.val (.long vf), .second, .val (.int vw), .val (.int vc1), .val (.int vc2), .val (.int (vw &&& (3 : Int32))), .val (.ref b1), .val (.ref b152), .val (.ref b160), .val (.ref b166), .val (.int ve)] [(.int ve), (.int (if vf = 0 then 1 else 0))])) _
        exact k
      have hd181 : (if vf = 0 then 1 else 0) = ve := hj173.symm
      obtain ⟨cq183, kq183, q183a, q183b, q183c⟩ := isOf hZ hh177 Ex170
      obtain ⟨_, _, ⟨T182, L182, k182, n182⟩, -, X182, ⟨Lc182, hQ182, l182, y182, z182⟩, st182⟩ := X177.virtualBack hx (y := (⟨"com/example/adhoc/adhoc/submission/Validator$Report", "isValid", "()Z"⟩ : MethodName)) (z := (⟨"com/example/adhoc/adhoc/submission/Validator$Report", "isValid", "()Z"⟩ : MethodName)) hown (mvT hZ (hw _ (List.mem_of_getElem? (i := 101) rfl))) (mvT hZ (hw _ (List.mem_of_getElem? (i := 102) rfl))) (notFace_of_selects (args := #[]) (mvT hZ (hw _ (List.mem_of_getElem? (i := 104) rfl)))) (mvT hZ (hw _ (List.mem_of_getElem? (i := 104) rfl))) (mvT hZ (hw _ (List.mem_of_getElem? (i := 103) rfl))) (by decide) (backOf (W := 0) (rm_val l Z a0 hw [] b166 vf T170.heap n0 Zp171 Fx170_0) hZ (hw _ (List.mem_of_getElem? (i := 105) rfl)) (hw _ (List.mem_of_getElem? (i := 87) rfl)) (by decide) (by decide)) q183a q183c (g := (mkF m 121 #[.val (.long vf), .second, .val (.int vw), .val (.int vc1), .val (.int vc2), .val (.int (vw &&& (3 : Int32))), .val (.ref b1), .val (.ref b152), .val (.ref b160), .val (.ref b166), .val (.int ve)] [(.ref b166)])) rfl (by rw [hml]; rfl) (Steps.refl _) (argsL := []) (rest := []) (lenOf own_pd9 rfl) rfl (by show 2 * 0 + _ ≤ _; exact Nat.le_of_eq rfl) (hb hby at_121) (fun _ _ => ⟨rfl, hh177, (by decide : 9 + 0 ≤ _), (by decide : 30 + 0 ≤ _)⟩)
      dsimp only [Pt.U, Pt.locs, Pt.cells, Pt.slots] at X182 l182 y182 z182 st182 hQ182
      subst l182 y182 z182
      obtain ⟨rfl, Nq182, hh182⟩ := hQ182
      have Nf182 := Fr.app Nf177 Nq182
      have pre184 : ∀ t, Steps p.tables e below (T182.setTop (mkF m 126 #[.val (.long vf), .second, .val (.int vw), .val (.int vc1), .val (.int vc2), .val (.int (vw &&& (3 : Int32))), .val (.ref b1), .val (.ref b152), .val (.ref b160), .val (.ref b166), .val (.int ve)] [(.int ve), (.int (if vf = 0 then 1 else 0))])) t → Steps p.tables e below (s₁.setTop (entryFrame m #[(.long vf), (.int vw), (.int vc1), (.int vc2)] maxLocals)) t := by
        intro t k
        refine pre180 t ?_
        show Steps p.tables e below (T177.setTop (mkF m 116 #[.val (.long vf), .second, .val (.int vw), .val (.int vc1), .val (.int vc2), .val (.int (vw &&& (3 : Int32))), .val (.ref b1), .val (.ref b152), .val (.ref b160), .val (.ref b166), .val (.int ve)] [(.int ve), (.int (if vf = 0 then 1 else 0))])) _
        refine XS.icmpNo X177.here hx rfl (hb hby at_116) rfl (teq hd181).2 ?_
        show Steps p.tables e below (T177.setTop (mkF m 119 #[.val (.long vf), .second, .val (.int vw), .val (.int vc1), .val (.int vc2), .val (.int (vw &&& (3 : Int32))), .val (.ref b1), .val (.ref b152), .val (.ref b160), .val (.ref b166), .val (.int ve)] [])) _
        refine XS.aload X177.here hx rfl (hb hby at_119) rfl rfl ?_
        show Steps p.tables e below (T177.setTop (mkF m 121 #[.val (.long vf), .second, .val (.int vw), .val (.int vc1), .val (.int vc2), .val (.int (vw &&& (3 : Int32))), .val (.ref b1), .val (.ref b152), .val (.ref b160), .val (.ref b166), .val (.int ve)] [(.ref b166)])) _
        refine st182.trans ?_
        show Steps p.tables e below (T182.setTop (mkF m 124 #[.val (.long vf), .second, .val (.int vw), .val (.int vc1), .val (.int vc2), .val (.int (vw &&& (3 : Int32))), .val (.ref b1), .val (.ref b152), .val (.ref b160), .val (.ref b166), .val (.int ve)] [(.int (if vf = 0 then 1 else 0))])) _
        refine XS.iload X182.here hx rfl (hb hby at_124) rfl ?_
        show Steps p.tables e below (T182.setTop (mkF m 126 #[.val (.long vf), .second, .val (.int vw), .val (.int vc1), .val (.int vc2), .val (.int (vw &&& (3 : Int32))), .val (.ref b1), .val (.ref b152), .val (.ref b160), .val (.ref b166), .val (.int ve)] [(.int ve), (.int (if vf = 0 then 1 else 0))])) _
        exact k
      have hd185 : (if vf = 0 then 1 else 0) = ve := hj173.symm
      obtain ⟨fs, hr, hrun, hended, hW, hsame⟩ := X182.leave (v := some (.int (1 : Int32))) (fun h => by rw [Bd.returns] at h; cases h)
      refine ⟨_, _, pre184 _ ?_, hrun, hended, _, _, rfl, ?_, ⟨_, rfl⟩, hW, hsame.mono (by decide) (by decide)⟩
      · show Steps p.tables e below (T182.setTop (mkF m 126 #[.val (.long vf), .second, .val (.int vw), .val (.int vc1), .val (.int vc2), .val (.int (vw &&& (3 : Int32))), .val (.ref b1), .val (.ref b152), .val (.ref b160), .val (.ref b166), .val (.int ve)] [(.int ve), (.int (if vf = 0 then 1 else 0))])) _
        refine XS.icmpNo X182.here hx rfl (hb hby at_126) rfl (teq hd185).2 ?_
        show Steps p.tables e below (T182.setTop (mkF m 129 #[.val (.long vf), .second, .val (.int vw), .val (.int vc1), .val (.int vc2), .val (.int (vw &&& (3 : Int32))), .val (.ref b1), .val (.ref b152), .val (.ref b160), .val (.ref b166), .val (.int ve)] [])) _
        refine XS.iconst X182.here hx rfl (hb hby at_129) ?_
        show Steps p.tables e below (T182.setTop (mkF m 130 #[.val (.long vf), .second, .val (.int vw), .val (.int vc1), .val (.int vc2), .val (.int (vw &&& (3 : Int32))), .val (.ref b1), .val (.ref b152), .val (.ref b160), .val (.ref b166), .val (.int ve)] [(.int (1 : Int32))])) _
        refine XS.goto X182.here hx rfl (pc0 := 130) (pc' := 134) rfl (hb hby at_130) (by decide) (by decide) ?_
        show Steps p.tables e below (T182.setTop (mkF m 134 #[.val (.long vf), .second, .val (.int vw), .val (.int vc1), .val (.int vc2), .val (.int (vw &&& (3 : Int32))), .val (.ref b1), .val (.ref b152), .val (.ref b160), .val (.ref b166), .val (.int ve)] [(.int (1 : Int32))])) _
        exact retN X182 hx (t := .boolean) Bd.returns (by simp) (hb hby at_134) hr
      · show Q0 Z vf vw vc1 vc2 vcs ade kde h0 n0 _ T182.heap _
        rw [hh182]
        exact ⟨rfl, Nf182⟩
set_option maxRecDepth 65536 in
set_option maxHeartbeats 40000000 in
theorem comes_1 {Post : Tables → Env → Array Value → State → Outcome → State → Prop} (hpost : ∀ tb e args s v u, (limb_1_1.after args s (.returned v) u = true ∧ limb_1_2.after args s (.returned v) u = true ∧ True) → FrameEnd s (.returned v) u (Jvm.fieldLocs frame_1_writes args s ++ Jvm.arrayLocs frame_1_arrays args s ++ Jvm.staticLocs frame_1_statics s) 32 128 → Post tb e args s (.returned v) u) :
    ArmFor flags0 classFile x code maxLocals ret World_1 tables_1 room_1 Calls_1 rest_1 Pre_1 Post := by
  intro l hfl _ _ p e ha hc hk s m args below hf hA hF happ hP
  obtain ⟨hcalls, hrest, hpre⟩ := hP
  obtain ⟨-, -, -, hnamed, -, -, -, hat⟩ := (Spec.applies_iff hf).mp happ
  obtain ⟨hg, hn⟩ := and_e (Cond.before_iff.mp (show (Jvm.Cond.and given_1 narrow_1).before args s = true from hpre))
  obtain ⟨ga1, gb1⟩ := and_e hg
  obtain ⟨ga2, gb2⟩ := and_e gb1
  obtain ⟨ga3, gb3⟩ := and_e gb2
  obtain ⟨ga4, gb4⟩ := and_e gb3
  obtain ⟨w0, w1, w2, w3, rfl⟩ : ∃ w0 w1 w2 w3 : Value, args = #[w0, w1, w2, w3] := by
    have hs : args.size = 4 := by simpa [Cond.value, given_1] using ga1
    obtain ⟨L⟩ := args
    match L, hs with
    | [w0, w1, w2, w3], _ => exact ⟨w0, w1, w2, w3, rfl⟩
  have hw := fun d (hd : d ∈ tables_1) => atoms_spec (ws := Jvm.Cond.code x code maxLocals ret :: tables_1) hat d (List.mem_cons_of_mem _ hd)
  have hfit : Fit s := fun {y c} hc i hi => by
    obtain ⟨ha, rfl⟩ := Array.getElem?_eq_some_iff.mp hc
    have q := List.all_eq_true.mp ((Array.all_eq_true_iff_forall_mem.mp hF) _ (Array.getElem_mem ha)) i (List.mem_range.mpr hi)
    simpa [Array.getElem?_eq_getElem hi] using q
  obtain ⟨i0, ei0⟩ := isL_v ga2
  obtain rfl : w0 = (.long i0) := Option.some.inj ei0
  obtain ⟨i1, ei1⟩ := is_v ga3
  obtain rfl : w1 = (.int i1) := Option.some.inj ei1
  obtain ⟨i2, ei2⟩ := is_v ga4
  obtain rfl : w2 = (.int i2) := Option.some.inj ei2
  obtain ⟨i3, ei3⟩ := is_v gb4
  obtain rfl : w3 = (.int i3) := Option.some.inj ei3
  obtain ⟨hsets, hown0⟩ := atoms_of _ (rest_1_c_eq ▸ (show rest_1_c.before _ s = true from hrest))
  obtain ⟨vcs, evcs⟩ := is_v (Cond.before_iff.mp (hsets _ (List.mem_of_getElem? (i := 10) rfl)))
  have S_cs := Sta.start evcs (Or.inl (hsets _ (List.mem_of_getElem? (i := 9) rfl)))
  have hcs : ¬ vcs = 0 := gotF (Cond.eq_ints evcs (Term.int_eval 0)) (not_v (Cond.before_iff.mp (hsets _ (List.mem_of_getElem? (i := 11) rfl))))
  obtain ⟨ade, evde⟩ := arr_v (Cond.before_iff.mp (hsets _ (List.mem_of_getElem? (i := 6) rfl)))
  have S_de := Sta.start evde (Or.inr ⟨(hw _ (List.mem_of_getElem? (i := 2) rfl)), (hsets _ (List.mem_of_getElem? (i := 2) rfl))⟩)
  obtain ⟨clde, A_de⟩ := Arr.start evde (Cond.before_iff.mp (hsets _ (List.mem_of_getElem? (i := 6) rfl)))
  have V_de := own_de hfit evde A_de (Cond.before_iff.mp (hsets _ (List.mem_of_getElem? (i := 8) rfl)))
  obtain ⟨n, o, h1, h2, h3, _, L, rfl, ⟨rfl, N⟩, hq⟩ := rm0 l s _ hw tables_1 i0 i1 i2 i3 vcs ade _ s.heap s.heap.size (Nat.le_refl _) S_cs hcs S_de V_de p e ha hc hk s m _ below hf ((Spec.applies_iff_loose hf).mp happ).1 ⟨rfl, State.Warmed39.refl s, rfl⟩ trivial
  refine ⟨n, _, h1, h2, h3, hpost _ _ _ _ _ _ ⟨Cond.after_iff.mpr rfl, Cond.after_iff.mpr (eq_i res_at (Term.int_eval (1)) rfl), trivial⟩ ⟨hq.1, hq.2.1, (hq.2.2.sift fun y hy => Or.inr (N y hy)).mono (by decide) (by decide)⟩⟩
theorem main_1_1 : Claimed_1_1 := comes_1 fun _ _ _ _ _ _ h hF => ⟨h.1, hF⟩
theorem main_1_2 : Claimed_1_2 := comes_1 fun _ _ _ _ _ _ h hF => ⟨h.2.1, hF⟩
end Jvm.Pilot.@@N@@
namespace Jvm.Pilot.@@N@@
open Jvm Jvm.ClassFile Sem Op Lib Jvm.Free Jvm.Stand Jvm.Pilot.@@N@@.Jvm.D
/-! MADE BY PROGRAM (witnessworld.py) out of the Statement's table words and the real class files: 28 classes; the members and pool entries that the words name. The judged class is class 1, her method 1. -/
namespace start1
open Jvm.ClassFile
def u (s : String) : CpInfo := .utf8 (stringToUtf16 s)
/-- a pool by its gaps: so many unusable entries, then the entry; so many at the end -/
def gap : Nat → List CpInfo → List CpInfo
  | 0, r => r
  | n + 1, r => .unusable :: gap n r
def poolList (es : List (Nat × CpInfo)) (last : Nat) : List CpInfo := es.foldr (fun e r => gap e.1 (e.2 :: r)) (gap last [])
def pool (es : List (Nat × CpInfo)) (last : Nat) : Array CpInfo := ⟨poolList es last⟩
def fileOf (pool : Array CpInfo) (this : Nat) (attrs : Array Attribute := #[]) (ms : Array MethodInfo := #[]) (fl : Nat := 33) (sup : Nat := 0) (ifs : Array Nat := #[]) (fds : Array FieldInfo := #[]) : ClassFile where
  minorVersion := 0
  majorVersion := 65
  constantPool := pool
  accessFlags := fl
  thisClass := this
  superClass := sup
  interfaces := ifs
  fields := fds
  methods := ms
  attributes := attrs
def plain (name : String) (sup : Option ClassId) : Class where
  name := name
  kind := .ordinary
  loader := none
  accessFlags := 33
  super := sup
  interfaces := #[]
  cf := none
  fields := #[]
  methods := #[]
  instanceTypes := #[]
  staticTypes := #[]
  resolved := #[]
  callSites := []
  init := .initialized
  statics := none
  mirror := none

def pool0 : Array CpInfo := pool [(5, u "<init>"), (0, u "()V"), (1, .class_ 10), (1, u "java/lang/Object")] 113

def k0c0 : Code := { maxStack := 0, maxLocals := 1, code := object_method_1_code, exceptionTable := #[], attributes := #[] }
def k0m0 : Method := { name := "<init>", desc := "()V", sig := { parameters := [], returnType := none }, accessFlags := 1, code := some k0c0 }
/-- java/lang/Object -/
def k0 : Class := { plain "java/lang/Object" none with
  accessFlags := 33
  interfaces := #[]
  cf := some (fileOf pool0 8 #[] #[{ accessFlags := 1, nameIndex := 5, descriptorIndex := 6, attributes := #[] }] 33 0 #[] #[])
  fields := #[]
  methods := #[k0m0]
  instanceTypes := #[]
  staticTypes := #[]
  resolved := Array.replicate 124 none
  statics := none }

def pool1 : Array CpInfo := pool [(2, .class_ 4), (0, .nameAndType 5 6), (0, u "java/lang/Object"), (0, u "<init>"), (0, u "()V"), (0, .class_ 8), (0, u "java/util/ArrayList"), (0, .methodref 7 3), (0, .methodref 11 12), (0, .class_ 13), (0, .nameAndType 14 15), (0, u "java/lang/String"), (0, u "valueOf"), (0, u "(C)Ljava/lang/String;"), (0, .interfaceMethodref 17 18), (0, .class_ 19), (0, .nameAndType 20 21), (0, u "java/util/List"), (0, u "add"), (0, u "(Ljava/lang/Object;)Z"), (0, .class_ 23), (0, u "com/example/adhoc/adhoc/submission/Validator$Report"), (0, .methodref 22 25), (0, .nameAndType 5 26), (0, u "(JLjava/util/List;)V"), (0, .methodref 22 28), (0, .nameAndType 29 30), (0, u "isValid"), (0, u "()Z"), (0, .class_ 32), (0, u "com/example/adhoc/adhoc/submission/ReportIsValidPinLaw"), (2, u "law"), (0, u "(JIII)Z")] 7

def k1m0 : Method := { name := "<init>", desc := "()V", sig := { parameters := [], returnType := none }, accessFlags := 2, code := none }
def k1c1 : Code := { maxStack := 5, maxLocals := 11, code := code, exceptionTable := #[], attributes := #[] }
def k1m1 : Method := { name := "law", desc := "(JIII)Z", sig := { parameters := [.long, .int, .int, .int], returnType := some .boolean }, accessFlags := 9, code := some k1c1 }
/-- com/example/adhoc/adhoc/submission/ReportIsValidPinLaw -/
def k1 : Class := { plain "com/example/adhoc/adhoc/submission/ReportIsValidPinLaw" (some 0) with
  accessFlags := 49
  interfaces := #[]
  cf := some (fileOf pool1 31 #[] #[{ accessFlags := 2, nameIndex := 5, descriptorIndex := 6, attributes := #[] }, { accessFlags := 9, nameIndex := 35, descriptorIndex := 36, attributes := #[] }] 49 2 #[] #[])
  fields := #[]
  methods := #[k1m0, k1m1]
  instanceTypes := #[]
  staticTypes := #[]
  resolved := Array.replicate 44 none
  statics := none }

def pool2 : Array CpInfo := pool [(8, .class_ 10), (1, u "java/lang/Iterable"), (24, .class_ 36), (0, u "java/lang/Object")] 25

/-- java/lang/Iterable -/
def k2 : Class := { plain "java/lang/Iterable" (some 0) with
  accessFlags := 1537
  interfaces := #[]
  cf := some (fileOf pool2 8 #[] #[] 1537 35 #[] #[])
  fields := #[]
  methods := #[]
  instanceTypes := #[]
  staticTypes := #[]
  resolved := Array.replicate 62 none
  statics := none }

def pool3 : Array CpInfo := pool [(10, .class_ 12), (1, u "java/util/Collection"), (47, .class_ 61), (0, u "java/lang/Object"), (0, .class_ 63), (0, u "java/lang/Iterable")] 51

/-- java/util/Collection -/
def k3 : Class := { plain "java/util/Collection" (some 0) with
  accessFlags := 1537
  interfaces := #[2]
  cf := some (fileOf pool3 10 #[] #[] 1537 60 #[62] #[])
  fields := #[]
  methods := #[]
  instanceTypes := #[]
  staticTypes := #[]
  resolved := Array.replicate 115 none
  statics := none }

def pool4 : Array CpInfo := pool [(1, .methodref 2 3), (0, .class_ 4), (0, .nameAndType 5 6), (0, u "java/lang/Object"), (0, u "<init>"), (0, u "()V"), (1, .class_ 10), (1, u "java/util/AbstractCollection"), (66, .class_ 78), (0, u "java/util/Collection")] 81

def k4c0 : Code := { maxStack := 1, maxLocals := 1, code := jdk_22_method_1_code, exceptionTable := #[], attributes := #[] }
def k4m0 : Method := { name := "<init>", desc := "()V", sig := { parameters := [], returnType := none }, accessFlags := 4, code := some k4c0 }
/-- java/util/AbstractCollection -/
def k4 : Class := { plain "java/util/AbstractCollection" (some 0) with
  accessFlags := 1057
  interfaces := #[3]
  cf := some (fileOf pool4 8 #[] #[{ accessFlags := 4, nameIndex := 5, descriptorIndex := 6, attributes := #[] }] 1057 2 #[77] #[])
  fields := #[]
  methods := #[k4m0]
  instanceTypes := #[]
  staticTypes := #[]
  resolved := Array.replicate 160 none
  statics := none }

def pool5 : Array CpInfo := pool [(8, .class_ 10), (1, u "java/util/SequencedCollection"), (15, .class_ 27), (0, u "java/lang/Object"), (0, .class_ 29), (0, u "java/util/Collection")] 27

/-- java/util/SequencedCollection -/
def k5 : Class := { plain "java/util/SequencedCollection" (some 0) with
  accessFlags := 1537
  interfaces := #[3]
  cf := some (fileOf pool5 8 #[] #[] 1537 26 #[28] #[])
  fields := #[]
  methods := #[]
  instanceTypes := #[]
  staticTypes := #[]
  resolved := Array.replicate 57 none
  statics := none }

def pool6 : Array CpInfo := pool [(8, .class_ 10), (1, u "java/util/List"), (49, u "add"), (3, u "(Ljava/lang/Object;)Z"), (38, .class_ 104), (0, u "java/lang/Object"), (15, .class_ 121), (0, u "java/util/SequencedCollection")] 129

def k6m0 : Method := { name := "add", desc := "(Ljava/lang/Object;)Z", sig := { parameters := [(.object "java/lang/Object")], returnType := some .boolean }, accessFlags := 1025, code := none }
/-- java/util/List -/
def k6 : Class := { plain "java/util/List" (some 0) with
  accessFlags := 1537
  interfaces := #[5]
  cf := some (fileOf pool6 8 #[] #[{ accessFlags := 1025, nameIndex := 60, descriptorIndex := 64, attributes := #[] }] 1537 103 #[120] #[])
  fields := #[]
  methods := #[k6m0]
  instanceTypes := #[]
  staticTypes := #[]
  resolved := Array.replicate 251 none
  statics := none }

def pool7 : Array CpInfo := pool [(1, .methodref 2 3), (0, .class_ 4), (0, .nameAndType 5 6), (0, u "java/util/AbstractCollection"), (0, u "<init>"), (0, u "()V"), (0, .fieldref 8 9), (0, .class_ 10), (0, .nameAndType 11 12), (0, u "java/util/AbstractList"), (0, u "modCount"), (0, u "I"), (64, .class_ 78), (0, u "java/util/AbstractList$Itr"), (3, .class_ 83), (0, u "java/util/AbstractList$ListItr"), (9, .class_ 94), (0, u "java/util/AbstractList$RandomAccessSubList"), (3, .class_ 99), (0, u "java/util/AbstractList$SubList"), (33, .class_ 134), (0, u "java/util/List"), (73, .class_ 209), (0, u "java/util/AbstractList$SubList$1"), (0, .class_ 211), (0, u "java/util/AbstractList$RandomAccessSpliterator")] 6

def k7c0 : Code := { maxStack := 2, maxLocals := 1, code := jdk_39_method_1_code, exceptionTable := #[], attributes := #[] }
def k7m0 : Method := { name := "<init>", desc := "()V", sig := { parameters := [], returnType := none }, accessFlags := 4, code := some k7c0 }
/-- java/util/AbstractList -/
def k7 : Class := { plain "java/util/AbstractList" (some 4) with
  accessFlags := 1057
  interfaces := #[6]
  cf := some (fileOf pool7 8 #[.nestMembers #[93, 98, 208, 210, 82, 77]] #[{ accessFlags := 4, nameIndex := 5, descriptorIndex := 6, attributes := #[] }] 1057 2 #[133] #[{ accessFlags := 132, nameIndex := 11, descriptorIndex := 12, attributes := #[] }])
  fields := #[{ name := "modCount", type := .int, accessFlags := 132, slot := 0, constantValue := 0 }]
  methods := #[k7m0]
  instanceTypes := #[.int]
  staticTypes := #[]
  resolved := Array.replicate 218 none
  statics := none }

def pool8 : Array CpInfo := pool [(1, .class_ 2), (0, u "java/util/RandomAccess"), (0, .class_ 4), (0, u "java/lang/Object")] 2

/-- java/util/RandomAccess -/
def k8 : Class := { plain "java/util/RandomAccess" (some 0) with
  accessFlags := 1537
  interfaces := #[]
  cf := some (fileOf pool8 1 #[] #[] 1537 3 #[] #[])
  fields := #[]
  methods := #[]
  instanceTypes := #[]
  staticTypes := #[]
  resolved := Array.replicate 7 none
  statics := none }

def pool9 : Array CpInfo := pool [(1, .class_ 2), (0, u "java/lang/Cloneable"), (0, .class_ 4), (0, u "java/lang/Object")] 2

/-- java/lang/Cloneable -/
def k9 : Class := { plain "java/lang/Cloneable" (some 0) with
  accessFlags := 1537
  interfaces := #[]
  cf := some (fileOf pool9 1 #[] #[] 1537 3 #[] #[])
  fields := #[]
  methods := #[]
  instanceTypes := #[]
  staticTypes := #[]
  resolved := Array.replicate 7 none
  statics := none }

def pool10 : Array CpInfo := pool [(1, .class_ 2), (0, u "java/io/Serializable"), (0, .class_ 4), (0, u "java/lang/Object")] 2

/-- java/io/Serializable -/
def k10 : Class := { plain "java/io/Serializable" (some 0) with
  accessFlags := 1537
  interfaces := #[]
  cf := some (fileOf pool10 1 #[] #[] 1537 3 #[] #[])
  fields := #[]
  methods := #[]
  instanceTypes := #[]
  staticTypes := #[]
  resolved := Array.replicate 7 none
  statics := none }

def pool11 : Array CpInfo := pool [(1, .methodref 2 3), (0, .class_ 4), (0, .nameAndType 5 6), (0, u "java/util/AbstractList"), (0, u "<init>"), (0, u "()V"), (0, .class_ 8), (0, u "java/lang/Object"), (0, .fieldref 10 11), (0, .class_ 12), (0, .nameAndType 13 14), (0, u "java/util/ArrayList"), (0, u "elementData"), (0, u "[Ljava/lang/Object;"), (2, u "EMPTY_ELEMENTDATA"), (21, .fieldref 10 40), (0, .nameAndType 41 14), (0, u "DEFAULTCAPACITY_EMPTY_ELEMENTDATA"), (5, u "()[Ljava/lang/Object;"), (0, .fieldref 10 49), (0, .nameAndType 50 51), (0, u "size"), (0, u "I"), (11, .fieldref 10 64), (0, .nameAndType 65 51), (0, u "modCount"), (3, .methodref 10 70), (0, .nameAndType 71 72), (0, u "grow"), (0, u "(I)[Ljava/lang/Object;"), (6, .methodref 80 81), (0, .class_ 82), (0, .nameAndType 83 84), (0, u "java/lang/Math"), (0, u "max"), (0, u "(II)I"), (11, u "(Ljava/lang/Object;)Z"), (32, .methodref 10 130), (0, .nameAndType 71 47), (0, .methodref 10 132), (0, .nameAndType 133 134), (0, u "add"), (0, u "(Ljava/lang/Object;[Ljava/lang/Object;I)V"), (13, .class_ 149), (0, u "java/util/List"), (112, .class_ 263), (0, u "java/util/ArrayList$ListItr"), (3, .class_ 268), (0, u "java/util/ArrayList$Itr"), (7, .class_ 277), (0, u "java/util/ArrayList$SubList"), (12, .class_ 291), (0, u "java/util/ArrayList$ArrayListSpliterator"), (37, .class_ 330), (0, u "java/util/RandomAccess"), (0, .class_ 332), (0, u "java/lang/Cloneable"), (0, .class_ 334), (0, u "java/io/Serializable"), (0, u "serialVersionUID"), (0, u "J"), (3, u "DEFAULT_CAPACITY"), (159, .class_ 501), (0, u "java/util/ArrayList$SubList$2"), (0, .class_ 503), (0, u "java/util/ArrayList$SubList$1")] 5

def k11c0 : Code := { maxStack := 2, maxLocals := 1, code := jdk_38_method_2_code, exceptionTable := #[], attributes := #[] }
def k11m0 : Method := { name := "<init>", desc := "()V", sig := { parameters := [], returnType := none }, accessFlags := 1, code := some k11c0 }
def k11c1 : Code := { maxStack := 4, maxLocals := 4, code := jdk_38_method_6_code, exceptionTable := #[], attributes := #[] }
def k11m1 : Method := { name := "grow", desc := "(I)[Ljava/lang/Object;", sig := { parameters := [.int], returnType := some (.array (.object "java/lang/Object")) }, accessFlags := 2, code := some k11c1 }
def k11c2 : Code := { maxStack := 3, maxLocals := 1, code := jdk_38_method_7_code, exceptionTable := #[], attributes := #[] }
def k11m2 : Method := { name := "grow", desc := "()[Ljava/lang/Object;", sig := { parameters := [], returnType := some (.array (.object "java/lang/Object")) }, accessFlags := 2, code := some k11c2 }
def k11c3 : Code := { maxStack := 3, maxLocals := 4, code := jdk_38_method_24_code, exceptionTable := #[], attributes := #[] }
def k11m3 : Method := { name := "add", desc := "(Ljava/lang/Object;[Ljava/lang/Object;I)V", sig := { parameters := [(.object "java/lang/Object"), (.array (.object "java/lang/Object")), .int], returnType := none }, accessFlags := 2, code := some k11c3 }
def k11c4 : Code := { maxStack := 4, maxLocals := 2, code := jdk_38_method_25_code, exceptionTable := #[], attributes := #[] }
def k11m4 : Method := { name := "add", desc := "(Ljava/lang/Object;)Z", sig := { parameters := [(.object "java/lang/Object")], returnType := some .boolean }, accessFlags := 1, code := some k11c4 }
/-- java/util/ArrayList -/
def k11 : Class := { plain "java/util/ArrayList" (some 7) with
  accessFlags := 33
  interfaces := #[6, 8, 9, 10]
  cf := some (fileOf pool11 10 #[.nestMembers #[290, 276, 500, 502, 262, 267]] #[{ accessFlags := 1, nameIndex := 5, descriptorIndex := 6, attributes := #[] }, { accessFlags := 2, nameIndex := 71, descriptorIndex := 72, attributes := #[] }, { accessFlags := 2, nameIndex := 71, descriptorIndex := 47, attributes := #[] }, { accessFlags := 2, nameIndex := 133, descriptorIndex := 134, attributes := #[] }, { accessFlags := 1, nameIndex := 133, descriptorIndex := 96, attributes := #[] }] 33 2 #[148, 329, 331, 333] #[{ accessFlags := 26, nameIndex := 335, descriptorIndex := 336, attributes := #[] }, { accessFlags := 26, nameIndex := 340, descriptorIndex := 51, attributes := #[] }, { accessFlags := 26, nameIndex := 17, descriptorIndex := 14, attributes := #[] }, { accessFlags := 26, nameIndex := 41, descriptorIndex := 14, attributes := #[] }, { accessFlags := 128, nameIndex := 13, descriptorIndex := 14, attributes := #[] }, { accessFlags := 2, nameIndex := 50, descriptorIndex := 51, attributes := #[] }])
  fields := #[{ name := "serialVersionUID", type := .long, accessFlags := 26, slot := 0, constantValue := 0 }, { name := "DEFAULT_CAPACITY", type := .int, accessFlags := 26, slot := 1, constantValue := 0 }, { name := "EMPTY_ELEMENTDATA", type := (.array (.object "java/lang/Object")), accessFlags := 26, slot := 2, constantValue := 0 }, { name := "DEFAULTCAPACITY_EMPTY_ELEMENTDATA", type := (.array (.object "java/lang/Object")), accessFlags := 26, slot := 3, constantValue := 0 }, { name := "elementData", type := (.array (.object "java/lang/Object")), accessFlags := 128, slot := 1, constantValue := 0 }, { name := "size", type := .int, accessFlags := 2, slot := 2, constantValue := 0 }]
  methods := #[k11m0, k11m1, k11m2, k11m3, k11m4]
  instanceTypes := #[.int, (.array (.object "java/lang/Object")), .int]
  staticTypes := #[.long, .int, (.array (.object "java/lang/Object")), (.array (.object "java/lang/Object"))]
  resolved := Array.replicate 509 none
  statics := some 0 }

def pool12 : Array CpInfo := pool [(1, .class_ 2), (0, u "java/lang/Comparable"), (0, .class_ 4), (0, u "java/lang/Object")] 7

/-- java/lang/Comparable -/
def k12 : Class := { plain "java/lang/Comparable" (some 0) with
  accessFlags := 1537
  interfaces := #[]
  cf := some (fileOf pool12 1 #[] #[] 1537 3 #[] #[])
  fields := #[]
  methods := #[]
  instanceTypes := #[]
  staticTypes := #[]
  resolved := Array.replicate 12 none
  statics := none }

def pool13 : Array CpInfo := pool [(2, .class_ 4), (1, u "java/lang/CharSequence"), (42, .class_ 48), (0, u "java/lang/CharSequence$1CodePointIterator"), (10, .class_ 60), (0, u "java/lang/CharSequence$1CharIterator"), (5, .class_ 67), (0, u "java/lang/Object")] 63

/-- java/lang/CharSequence -/
def k13 : Class := { plain "java/lang/CharSequence" (some 0) with
  accessFlags := 1537
  interfaces := #[]
  cf := some (fileOf pool13 2 #[.nestMembers #[47, 59]] #[] 1537 66 #[] #[])
  fields := #[]
  methods := #[]
  instanceTypes := #[]
  staticTypes := #[]
  resolved := Array.replicate 131 none
  statics := none }

def pool14 : Array CpInfo := pool [(1, .class_ 2), (0, u "java/lang/constant/Constable"), (0, .class_ 4), (0, u "java/lang/Object")] 6

/-- java/lang/constant/Constable -/
def k14 : Class := { plain "java/lang/constant/Constable" (some 0) with
  accessFlags := 1537
  interfaces := #[]
  cf := some (fileOf pool14 1 #[] #[] 1537 3 #[] #[])
  fields := #[]
  methods := #[]
  instanceTypes := #[]
  staticTypes := #[]
  resolved := Array.replicate 11 none
  statics := none }

def pool15 : Array CpInfo := pool [(1, .class_ 2), (0, u "java/lang/constant/ConstantDesc"), (0, .class_ 4), (0, u "java/lang/Object")] 32

/-- java/lang/constant/ConstantDesc -/
def k15 : Class := { plain "java/lang/constant/ConstantDesc" (some 0) with
  accessFlags := 1537
  interfaces := #[]
  cf := some (fileOf pool15 1 #[] #[] 1537 3 #[] #[])
  fields := #[]
  methods := #[]
  instanceTypes := #[]
  staticTypes := #[]
  resolved := Array.replicate 37 none
  statics := none }

def pool16 : Array CpInfo := pool [(1, .methodref 2 3), (0, .class_ 4), (0, .nameAndType 5 6), (0, u "java/lang/Object"), (0, u "<init>"), (0, u "()V"), (2, .fieldref 10 11), (0, .class_ 12), (0, .nameAndType 13 14), (0, u "java/lang/String"), (0, u "value"), (0, u "[B"), (0, .fieldref 10 16), (0, .nameAndType 17 18), (0, u "coder"), (0, u "B"), (2, u "hash"), (0, u "I"), (2, u "hashIsZero"), (0, u "Z"), (11, .fieldref 10 39), (0, .nameAndType 40 26), (0, u "COMPACT_STRINGS"), (12, u "toBytes"), (53, .class_ 109), (1, u "java/lang/StringLatin1"), (99, .methodref 10 210), (0, .nameAndType 5 211), (0, u "([BB)V"), (157, u "(C)Z"), (205, .class_ 576), (0, u "java/lang/CharSequence"), (22, u "CASE_INSENSITIVE_ORDER"), (0, u "Ljava/util/Comparator;"), (181, u "valueOf"), (0, u "(C)Ljava/lang/String;"), (231, .methodref 107 1016), (0, .nameAndType 1017 369), (0, u "canEncode"), (0, .methodref 107 1019), (0, .nameAndType 53 1020), (0, u "(C)[B"), (80, u "serialPersistentFields"), (0, u "[Ljava/io/ObjectStreamField;"), (0, .class_ 1104), (0, u "java/lang/String$CaseInsensitiveComparator"), (1, .class_ 1107), (0, u "java/io/Serializable"), (0, .class_ 1109), (0, u "java/lang/Comparable"), (0, .class_ 1111), (0, u "java/lang/constant/Constable"), (0, .class_ 1113), (0, u "java/lang/constant/ConstantDesc"), (2, u "serialVersionUID"), (0, u "J"), (3, u "REPL"), (0, u "C"), (2, u "LATIN1"), (1, u "UTF16")] 323

def k16m0 : Method := { name := "<init>", desc := "()V", sig := { parameters := [], returnType := none }, accessFlags := 1, code := none }
def k16c1 : Code := { maxStack := 4, maxLocals := 1, code := jdk_42_method_139_code, exceptionTable := #[], attributes := #[] }
def k16m1 : Method := { name := "valueOf", desc := "(C)Ljava/lang/String;", sig := { parameters := [.char], returnType := some (.object "java/lang/String") }, accessFlags := 9, code := some k16c1 }
def k16c2 : Code := { maxStack := 2, maxLocals := 3, code := jdk_42_method_151_code, exceptionTable := #[], attributes := #[] }
def k16m2 : Method := { name := "<init>", desc := "([BB)V", sig := { parameters := [(.array .byte), .byte], returnType := none }, accessFlags := 0, code := some k16c2 }
/-- java/lang/String -/
def k16 : Class := { plain "java/lang/String" (some 0) with
  accessFlags := 49
  interfaces := #[10, 12, 13, 14, 15]
  cf := some (fileOf pool16 10 #[.nestMembers #[1103]] #[{ accessFlags := 1, nameIndex := 5, descriptorIndex := 6, attributes := #[] }, { accessFlags := 9, nameIndex := 782, descriptorIndex := 783, attributes := #[] }, { accessFlags := 0, nameIndex := 5, descriptorIndex := 211, attributes := #[] }] 49 2 #[1106, 1108, 575, 1110, 1112] #[{ accessFlags := 18, nameIndex := 13, descriptorIndex := 14, attributes := #[] }, { accessFlags := 18, nameIndex := 17, descriptorIndex := 18, attributes := #[] }, { accessFlags := 2, nameIndex := 21, descriptorIndex := 22, attributes := #[] }, { accessFlags := 2, nameIndex := 25, descriptorIndex := 26, attributes := #[] }, { accessFlags := 26, nameIndex := 1116, descriptorIndex := 1117, attributes := #[] }, { accessFlags := 24, nameIndex := 40, descriptorIndex := 26, attributes := #[] }, { accessFlags := 26, nameIndex := 1101, descriptorIndex := 1102, attributes := #[] }, { accessFlags := 26, nameIndex := 1121, descriptorIndex := 1122, attributes := #[] }, { accessFlags := 25, nameIndex := 599, descriptorIndex := 600, attributes := #[] }, { accessFlags := 24, nameIndex := 1125, descriptorIndex := 18, attributes := #[] }, { accessFlags := 24, nameIndex := 1127, descriptorIndex := 18, attributes := #[] }])
  fields := #[{ name := "value", type := (.array .byte), accessFlags := 18, slot := 0, constantValue := 0 }, { name := "coder", type := .byte, accessFlags := 18, slot := 1, constantValue := 0 }, { name := "hash", type := .int, accessFlags := 2, slot := 2, constantValue := 0 }, { name := "hashIsZero", type := .boolean, accessFlags := 2, slot := 3, constantValue := 0 }, { name := "serialVersionUID", type := .long, accessFlags := 26, slot := 0, constantValue := 0 }, { name := "COMPACT_STRINGS", type := .boolean, accessFlags := 24, slot := 1, constantValue := 0 }, { name := "serialPersistentFields", type := (.array (.object "java/io/ObjectStreamField")), accessFlags := 26, slot := 2, constantValue := 0 }, { name := "REPL", type := .char, accessFlags := 26, slot := 3, constantValue := 0 }, { name := "CASE_INSENSITIVE_ORDER", type := (.object "java/util/Comparator"), accessFlags := 25, slot := 4, constantValue := 0 }, { name := "LATIN1", type := .byte, accessFlags := 24, slot := 5, constantValue := 0 }, { name := "UTF16", type := .byte, accessFlags := 24, slot := 6, constantValue := 0 }]
  methods := #[k16m0, k16m1, k16m2]
  instanceTypes := #[(.array .byte), .byte, .int, .boolean]
  staticTypes := #[.long, .boolean, (.array (.object "java/io/ObjectStreamField")), .char, (.object "java/util/Comparator"), .byte, .byte]
  resolved := Array.replicate 1451 none
  statics := some 1 }

def pool17 : Array CpInfo := pool [(4, .class_ 6), (1, u "java/lang/Object"), (0, u "<init>"), (0, u "()V"), (5, .class_ 16), (1, u "java/lang/StringLatin1"), (73, u "canEncode"), (14, u "(C)Z"), (15, u "$assertionsDisabled"), (0, u "Z"), (98, .class_ 223), (1, u "java/lang/StringLatin1$LinesSpliterator"), (156, u "toBytes"), (1, u "(C)[B"), (7, .class_ 391), (0, u "java/lang/StringLatin1$CharsSpliterator")] 3

def k17m0 : Method := { name := "<init>", desc := "()V", sig := { parameters := [], returnType := none }, accessFlags := 0, code := none }
def k17c1 : Code := { maxStack := 2, maxLocals := 1, code := jdk_43_method_3_code, exceptionTable := #[], attributes := #[] }
def k17m1 : Method := { name := "canEncode", desc := "(C)Z", sig := { parameters := [.char], returnType := some .boolean }, accessFlags := 9, code := some k17c1 }
def k17c2 : Code := { maxStack := 4, maxLocals := 1, code := jdk_43_method_46_code, exceptionTable := #[], attributes := #[] }
def k17m2 : Method := { name := "toBytes", desc := "(C)[B", sig := { parameters := [.char], returnType := some (.array .byte) }, accessFlags := 9, code := some k17c2 }
/-- java/lang/StringLatin1 -/
def k17 : Class := { plain "java/lang/StringLatin1" (some 0) with
  accessFlags := 48
  interfaces := #[]
  cf := some (fileOf pool17 14 #[.nestMembers #[390, 221]] #[{ accessFlags := 0, nameIndex := 7, descriptorIndex := 8, attributes := #[] }, { accessFlags := 9, nameIndex := 90, descriptorIndex := 105, attributes := #[] }, { accessFlags := 9, nameIndex := 380, descriptorIndex := 382, attributes := #[] }] 48 4 #[] #[{ accessFlags := 4120, nameIndex := 121, descriptorIndex := 122, attributes := #[] }])
  fields := #[{ name := "$assertionsDisabled", type := .boolean, accessFlags := 4120, slot := 0, constantValue := 0 }]
  methods := #[k17m0, k17m1, k17m2]
  instanceTypes := #[]
  staticTypes := #[.boolean]
  resolved := Array.replicate 395 none
  statics := none }

def pool18 : Array CpInfo := pool [(1, .class_ 2), (0, u "java/lang/Math"), (1, .class_ 6), (1, u "java/lang/Object"), (0, u "<init>"), (0, u "()V"), (89, .class_ 100), (1, u "java/lang/Math$RandomNumberGeneratorHolder"), (71, u "negativeZeroFloatBits"), (0, u "J"), (2, u "negativeZeroDoubleBits"), (21, u "max"), (46, u "$assertionsDisabled"), (0, u "Z"), (88, u "(II)I"), (2, u "twoToTheDoubleScaleDown"), (0, u "D"), (4, u "twoToTheDoubleScaleUp"), (9, u "E"), (3, u "PI"), (2, u "TAU"), (2, u "DEGREES_TO_RADIANS"), (0, u "RADIANS_TO_DEGREES")] 94

def k18m0 : Method := { name := "<init>", desc := "()V", sig := { parameters := [], returnType := none }, accessFlags := 2, code := none }
def k18c1 : Code := { maxStack := 2, maxLocals := 2, code := jdk_29_method_65_code, exceptionTable := #[], attributes := #[] }
def k18m1 : Method := { name := "max", desc := "(II)I", sig := { parameters := [.int, .int], returnType := some .int }, accessFlags := 9, code := some k18c1 }
/-- java/lang/Math -/
def k18 : Class := { plain "java/lang/Math" (some 0) with
  accessFlags := 49
  interfaces := #[]
  cf := some (fileOf pool18 1 #[.nestMembers #[98]] #[{ accessFlags := 2, nameIndex := 7, descriptorIndex := 8, attributes := #[] }, { accessFlags := 9, nameIndex := 198, descriptorIndex := 335, attributes := #[] }] 49 4 #[] #[{ accessFlags := 25, nameIndex := 354, descriptorIndex := 339, attributes := #[] }, { accessFlags := 25, nameIndex := 358, descriptorIndex := 339, attributes := #[] }, { accessFlags := 25, nameIndex := 361, descriptorIndex := 339, attributes := #[] }, { accessFlags := 26, nameIndex := 364, descriptorIndex := 339, attributes := #[] }, { accessFlags := 26, nameIndex := 365, descriptorIndex := 339, attributes := #[] }, { accessFlags := 26, nameIndex := 172, descriptorIndex := 173, attributes := #[] }, { accessFlags := 26, nameIndex := 176, descriptorIndex := 173, attributes := #[] }, { accessFlags := 8, nameIndex := 344, descriptorIndex := 339, attributes := #[] }, { accessFlags := 8, nameIndex := 338, descriptorIndex := 339, attributes := #[] }, { accessFlags := 4120, nameIndex := 245, descriptorIndex := 246, attributes := #[] }])
  fields := #[{ name := "E", type := .double, accessFlags := 25, slot := 0, constantValue := 0 }, { name := "PI", type := .double, accessFlags := 25, slot := 1, constantValue := 0 }, { name := "TAU", type := .double, accessFlags := 25, slot := 2, constantValue := 0 }, { name := "DEGREES_TO_RADIANS", type := .double, accessFlags := 26, slot := 3, constantValue := 0 }, { name := "RADIANS_TO_DEGREES", type := .double, accessFlags := 26, slot := 4, constantValue := 0 }, { name := "negativeZeroFloatBits", type := .long, accessFlags := 26, slot := 5, constantValue := 0 }, { name := "negativeZeroDoubleBits", type := .long, accessFlags := 26, slot := 6, constantValue := 0 }, { name := "twoToTheDoubleScaleUp", type := .double, accessFlags := 8, slot := 7, constantValue := 0 }, { name := "twoToTheDoubleScaleDown", type := .double, accessFlags := 8, slot := 8, constantValue := 0 }, { name := "$assertionsDisabled", type := .boolean, accessFlags := 4120, slot := 9, constantValue := 0 }]
  methods := #[k18m0, k18m1]
  instanceTypes := #[]
  staticTypes := #[.double, .double, .double, .double, .double, .long, .long, .double, .double, .boolean]
  resolved := Array.replicate 460 none
  statics := none }

def pool19 : Array CpInfo := pool [(1, .methodref 2 3), (0, .class_ 4), (0, .nameAndType 5 6), (0, u "java/lang/Object"), (0, u "<init>"), (0, u "()V"), (0, .class_ 8), (0, u "java/lang/Record")] 13

def k19c0 : Code := { maxStack := 1, maxLocals := 1, code := jdk_30_method_1_code, exceptionTable := #[], attributes := #[] }
def k19m0 : Method := { name := "<init>", desc := "()V", sig := { parameters := [], returnType := none }, accessFlags := 4, code := some k19c0 }
/-- java/lang/Record -/
def k19 : Class := { plain "java/lang/Record" (some 0) with
  accessFlags := 1057
  interfaces := #[]
  cf := some (fileOf pool19 7 #[] #[{ accessFlags := 4, nameIndex := 5, descriptorIndex := 6, attributes := #[] }] 1057 2 #[] #[])
  fields := #[]
  methods := #[k19m0]
  instanceTypes := #[]
  staticTypes := #[]
  resolved := Array.replicate 22 none
  statics := none }

def pool20 : Array CpInfo := pool [(1, .methodref 2 3), (0, .class_ 4), (0, .nameAndType 5 6), (0, u "java/lang/Record"), (0, u "<init>"), (0, u "()V"), (0, .fieldref 8 9), (0, .class_ 10), (0, .nameAndType 11 12), (0, u "com/example/adhoc/adhoc/submission/Validator$Report"), (0, u "faults"), (0, u "J"), (0, .fieldref 8 14), (0, .nameAndType 15 16), (0, u "warnings"), (0, u "Ljava/util/List;"), (14, u "(JLjava/util/List;)V"), (4, u "isValid"), (0, u "()Z"), (10, .class_ 49), (0, u "com/example/adhoc/adhoc/submission/Validator")] 20

def k20c0 : Code := { maxStack := 3, maxLocals := 4, code := prog_44_method_1_code, exceptionTable := #[], attributes := #[] }
def k20m0 : Method := { name := "<init>", desc := "(JLjava/util/List;)V", sig := { parameters := [.long, (.object "java/util/List")], returnType := none }, accessFlags := 1, code := some k20c0 }
def k20c1 : Code := { maxStack := 4, maxLocals := 1, code := prog_44_method_2_code, exceptionTable := #[], attributes := #[] }
def k20m1 : Method := { name := "isValid", desc := "()Z", sig := { parameters := [], returnType := some .boolean }, accessFlags := 1, code := some k20c1 }
/-- com/example/adhoc/adhoc/submission/Validator$Report -/
def k20 : Class := { plain "com/example/adhoc/adhoc/submission/Validator$Report" (some 19) with
  accessFlags := 49
  interfaces := #[]
  cf := some (fileOf pool20 8 #[.nestHost 48] #[{ accessFlags := 1, nameIndex := 5, descriptorIndex := 31, attributes := #[] }, { accessFlags := 1, nameIndex := 36, descriptorIndex := 37, attributes := #[] }] 49 2 #[] #[{ accessFlags := 18, nameIndex := 11, descriptorIndex := 12, attributes := #[] }, { accessFlags := 18, nameIndex := 15, descriptorIndex := 16, attributes := #[] }])
  fields := #[{ name := "faults", type := .long, accessFlags := 18, slot := 0, constantValue := 0 }, { name := "warnings", type := (.object "java/util/List"), accessFlags := 18, slot := 1, constantValue := 0 }]
  methods := #[k20m0, k20m1]
  instanceTypes := #[.long, (.object "java/util/List")]
  staticTypes := #[]
  resolved := Array.replicate 70 none
  statics := none }

def pool21 : Array CpInfo := pool [(2, .class_ 4), (1, u "java/lang/Object"), (0, u "<init>"), (0, u "()V"), (17, .class_ 26), (1, u "jdk/internal/util/Preconditions"), (28, .class_ 56), (0, u "jdk/internal/util/Preconditions$4"), (57, .class_ 115), (0, u "jdk/internal/util/Preconditions$1"), (7, u "SIOOBE_FORMATTER"), (0, u "Ljava/util/function/BiFunction;"), (0, .class_ 126), (0, u "jdk/internal/util/Preconditions$2"), (3, u "AIOOBE_FORMATTER"), (0, .class_ 132), (0, u "jdk/internal/util/Preconditions$3"), (3, u "IOOBE_FORMATTER")] 57

def k21m0 : Method := { name := "<init>", desc := "()V", sig := { parameters := [], returnType := none }, accessFlags := 1, code := none }
/-- jdk/internal/util/Preconditions -/
def k21 : Class := { plain "jdk/internal/util/Preconditions" (some 0) with
  accessFlags := 33
  interfaces := #[]
  cf := some (fileOf pool21 24 #[.nestMembers #[55, 131, 125, 114]] #[{ accessFlags := 1, nameIndex := 5, descriptorIndex := 6, attributes := #[] }] 33 2 #[] #[{ accessFlags := 25, nameIndex := 123, descriptorIndex := 124, attributes := #[] }, { accessFlags := 25, nameIndex := 130, descriptorIndex := 124, attributes := #[] }, { accessFlags := 25, nameIndex := 136, descriptorIndex := 124, attributes := #[] }])
  fields := #[{ name := "SIOOBE_FORMATTER", type := (.object "java/util/function/BiFunction"), accessFlags := 25, slot := 0, constantValue := 0 }, { name := "AIOOBE_FORMATTER", type := (.object "java/util/function/BiFunction"), accessFlags := 25, slot := 1, constantValue := 0 }, { name := "IOOBE_FORMATTER", type := (.object "java/util/function/BiFunction"), accessFlags := 25, slot := 2, constantValue := 0 }]
  methods := #[k21m0]
  instanceTypes := #[]
  staticTypes := #[(.object "java/util/function/BiFunction"), (.object "java/util/function/BiFunction"), (.object "java/util/function/BiFunction")]
  resolved := Array.replicate 194 none
  statics := some 2 }

def pool22 : Array CpInfo := pool [(9, u "<init>"), (6, .class_ 18), (1, u "java/lang/Object"), (0, u "()V"), (1, .class_ 23), (1, u "jdk/internal/util/ArraysSupport"), (0, u "LOG2_ARRAY_LONG_INDEX_SCALE"), (0, u "I"), (2, u "U"), (0, u "Ljdk/internal/misc/Unsafe;"), (8, u "BIG_ENDIAN"), (0, u "Z"), (8, u "LOG2_BYTE_BIT_SIZE"), (4, u "LOG2_ARRAY_INT_INDEX_SCALE"), (54, u "JLA"), (0, u "Ljdk/internal/access/JavaLangAccess;"), (11, u "LOG2_ARRAY_BOOLEAN_INDEX_SCALE"), (9, u "LOG2_ARRAY_BYTE_INDEX_SCALE"), (5, u "LOG2_ARRAY_CHAR_INDEX_SCALE"), (5, u "LOG2_ARRAY_SHORT_INDEX_SCALE"), (18, u "LOG2_ARRAY_FLOAT_INDEX_SCALE"), (24, u "LOG2_ARRAY_DOUBLE_INDEX_SCALE"), (89, u "T_BOOLEAN"), (2, u "T_CHAR"), (1, u "T_FLOAT"), (1, u "T_DOUBLE"), (1, u "T_BYTE"), (1, u "T_SHORT"), (1, u "T_INT"), (1, u "T_LONG"), (1, u "SOFT_MAX_ARRAY_LENGTH")] 83

def k22m0 : Method := { name := "<init>", desc := "()V", sig := { parameters := [], returnType := none }, accessFlags := 2, code := none }
/-- jdk/internal/util/ArraysSupport -/
def k22 : Class := { plain "jdk/internal/util/ArraysSupport" (some 0) with
  accessFlags := 33
  interfaces := #[]
  cf := some (fileOf pool22 21 #[] #[{ accessFlags := 2, nameIndex := 9, descriptorIndex := 19, attributes := #[] }] 33 16 #[] #[{ accessFlags := 24, nameIndex := 28, descriptorIndex := 29, attributes := #[] }, { accessFlags := 26, nameIndex := 38, descriptorIndex := 39, attributes := #[] }, { accessFlags := 25, nameIndex := 121, descriptorIndex := 25, attributes := #[] }, { accessFlags := 25, nameIndex := 131, descriptorIndex := 25, attributes := #[] }, { accessFlags := 25, nameIndex := 137, descriptorIndex := 25, attributes := #[] }, { accessFlags := 25, nameIndex := 143, descriptorIndex := 25, attributes := #[] }, { accessFlags := 25, nameIndex := 53, descriptorIndex := 25, attributes := #[] }, { accessFlags := 25, nameIndex := 24, descriptorIndex := 25, attributes := #[] }, { accessFlags := 25, nameIndex := 162, descriptorIndex := 25, attributes := #[] }, { accessFlags := 25, nameIndex := 187, descriptorIndex := 25, attributes := #[] }, { accessFlags := 26, nameIndex := 48, descriptorIndex := 25, attributes := #[] }, { accessFlags := 25, nameIndex := 277, descriptorIndex := 25, attributes := #[] }, { accessFlags := 25, nameIndex := 280, descriptorIndex := 25, attributes := #[] }, { accessFlags := 25, nameIndex := 282, descriptorIndex := 25, attributes := #[] }, { accessFlags := 25, nameIndex := 284, descriptorIndex := 25, attributes := #[] }, { accessFlags := 25, nameIndex := 286, descriptorIndex := 25, attributes := #[] }, { accessFlags := 25, nameIndex := 288, descriptorIndex := 25, attributes := #[] }, { accessFlags := 25, nameIndex := 290, descriptorIndex := 25, attributes := #[] }, { accessFlags := 25, nameIndex := 292, descriptorIndex := 25, attributes := #[] }, { accessFlags := 26, nameIndex := 108, descriptorIndex := 109, attributes := #[] }, { accessFlags := 25, nameIndex := 294, descriptorIndex := 25, attributes := #[] }])
  fields := #[{ name := "U", type := (.object "jdk/internal/misc/Unsafe"), accessFlags := 24, slot := 0, constantValue := 0 }, { name := "BIG_ENDIAN", type := .boolean, accessFlags := 26, slot := 1, constantValue := 0 }, { name := "LOG2_ARRAY_BOOLEAN_INDEX_SCALE", type := .int, accessFlags := 25, slot := 2, constantValue := 0 }, { name := "LOG2_ARRAY_BYTE_INDEX_SCALE", type := .int, accessFlags := 25, slot := 3, constantValue := 0 }, { name := "LOG2_ARRAY_CHAR_INDEX_SCALE", type := .int, accessFlags := 25, slot := 4, constantValue := 0 }, { name := "LOG2_ARRAY_SHORT_INDEX_SCALE", type := .int, accessFlags := 25, slot := 5, constantValue := 0 }, { name := "LOG2_ARRAY_INT_INDEX_SCALE", type := .int, accessFlags := 25, slot := 6, constantValue := 0 }, { name := "LOG2_ARRAY_LONG_INDEX_SCALE", type := .int, accessFlags := 25, slot := 7, constantValue := 0 }, { name := "LOG2_ARRAY_FLOAT_INDEX_SCALE", type := .int, accessFlags := 25, slot := 8, constantValue := 0 }, { name := "LOG2_ARRAY_DOUBLE_INDEX_SCALE", type := .int, accessFlags := 25, slot := 9, constantValue := 0 }, { name := "LOG2_BYTE_BIT_SIZE", type := .int, accessFlags := 26, slot := 10, constantValue := 0 }, { name := "T_BOOLEAN", type := .int, accessFlags := 25, slot := 11, constantValue := 0 }, { name := "T_CHAR", type := .int, accessFlags := 25, slot := 12, constantValue := 0 }, { name := "T_FLOAT", type := .int, accessFlags := 25, slot := 13, constantValue := 0 }, { name := "T_DOUBLE", type := .int, accessFlags := 25, slot := 14, constantValue := 0 }, { name := "T_BYTE", type := .int, accessFlags := 25, slot := 15, constantValue := 0 }, { name := "T_SHORT", type := .int, accessFlags := 25, slot := 16, constantValue := 0 }, { name := "T_INT", type := .int, accessFlags := 25, slot := 17, constantValue := 0 }, { name := "T_LONG", type := .int, accessFlags := 25, slot := 18, constantValue := 0 }, { name := "JLA", type := (.object "jdk/internal/access/JavaLangAccess"), accessFlags := 26, slot := 19, constantValue := 0 }, { name := "SOFT_MAX_ARRAY_LENGTH", type := .int, accessFlags := 25, slot := 20, constantValue := 0 }]
  methods := #[k22m0]
  instanceTypes := #[]
  staticTypes := #[(.object "jdk/internal/misc/Unsafe"), .boolean, .int, .int, .int, .int, .int, .int, .int, .int, .int, .int, .int, .int, .int, .int, .int, .int, .int, (.object "jdk/internal/access/JavaLangAccess"), .int]
  resolved := Array.replicate 378 none
  statics := none }

/-- the primitive byte -/
def k23 : Class := { plain "byte" none with kind := .primitive 'B', accessFlags := 0x411 }
/-- [B -/
def k24 : Class := { plain "[B" (some 0) with kind := .array 23 .byte, interfaces := #[9, 10], accessFlags := 1041 }

/-- the primitive int -/
def k25 : Class := { plain "int" none with kind := .primitive 'I', accessFlags := 0x411 }
/-- [I -/
def k26 : Class := { plain "[I" (some 0) with kind := .array 25 .int, interfaces := #[9, 10], accessFlags := 1041 }

/-- [Ljava/lang/Object; -/
def k27 : Class := { plain "[Ljava/lang/Object;" (some 0) with kind := .array 0 (.object "java/lang/Object"), interfaces := #[9, 10], accessFlags := 1041 }

def heap : Heap := #[{ cls := 11, slots := #[.long 0, .int 0, .ref 3, .ref 4], vm := .statics 11 },
  { cls := 16, slots := #[.long 0, .int 1, .null, .int 0, .null, .int 0, .int 0], vm := .statics 16 },
  { cls := 21, slots := #[.null, .null, .null], vm := .statics 21 },
  { cls := 27, slots := #[], vm := .none },
  { cls := 27, slots := #[], vm := .none }]
def classes : Array Class := #[k0, k1, k2, k3, k4, k5, k6, k7, k8, k9, k10, k11, k12, k13, k14, k15, k16, k17, k18, k19, k20, k21, k22, k23, k24, k25, k26, k27]
def interned : List (Array UInt16 × Addr) := []
def slotsUsed : Nat := 14
def theMethod : MethodId := ⟨1, 1⟩
def args0 : Array Value := #[.long 5, .int 3, .int 7, .int 8]
def aboutOver (below : List Frame) : State where
  vm := { classes := classes, interned := interned.toArray }
  heap := heap
  slotsUsed := slotsUsed
  threads := #[{ frames := .invoking theMethod args0 :: below }]
def below0 : List Frame := [.native { method := ⟨0, 0⟩, args := #[] }]
def about1 : State := aboutOver below0
def p0 : Program := .bare "" "" ""
def e0 : Env := launch0.env 0 0 0
theorem w_frames : about1.frames = Frame.invoking theMethod args0 :: below0 := rfl
set_option maxRecDepth 65536 in
theorem w_args : argsFit about1.vm theMethod args0 = true := by decide +kernel
set_option maxRecDepth 65536 in
theorem w_heap : heapFits about1 = true := by decide +kernel
set_option maxRecDepth 65536 in
theorem w_runnable : about1.curStatus? = some .runnable := by decide +kernel
set_option maxRecDepth 65536 in
theorem w_alone : about1.alone = true := by decide +kernel
set_option maxRecDepth 65536 in
theorem w_named : about1.methodNamed? x = some theMethod := by decide +kernel
set_option maxRecDepth 65536 in
theorem w_hears : about1.hears theMethod below0 = true := by decide +kernel
set_option maxRecDepth 65536 in
theorem w_ripe : about1.ripe theMethod args0 below0 = true := by decide +kernel
theorem w_running : about1.status = .running := rfl
set_option maxRecDepth 65536 in
theorem w_room : about1.hasRoom e0.platform room_1 = true :=
  launch0.hasRoom_least _ room_1 (by decide +kernel) (by decide +kernel) (by decide +kernel) (by decide +kernel) (by decide +kernel) (by decide +kernel)
theorem allAtoms_all (ts : List Jvm.Cond) (a : Array Jvm.Value) (st : Jvm.State) : (allAtoms ts).before a st = ts.all (fun c => c.before a st) := by
  induction ts with
  | nil => rfl
  | cons c t ih =>
    show (Jvm.Cond.and c (allAtoms t)).before a st = _
    rw [Jvm.Cond.before_and, ih, List.all_cons]
def words1 : List Jvm.Cond := Jvm.Cond.code x code maxLocals ret :: tables_1
/-- a 'code' word, met by the world's own term for the bytes: nothing is compared byte by byte -/
theorem code_word {y : MethodName} {bytes : ByteArray} {mx : Nat} {rt : Option FieldType} {a : Array Value} {s : State} {m : MethodId} {meth : Method} {c : Code} (h1 : s.methodNamed? y = some m) (h2 : s.vm.method? m = some meth) (h3 : meth.code = some c) (h4 : c.code = bytes)
    (h5 : (c.maxLocals == mx && c.exceptionTable.isEmpty && decide (c.maxStack ≤ mostOperands) && decide (meth.sig.returnType = rt) && !meth.locks && decide (parseMethodDescriptor y.desc = some meth.sig)) = true) : (Jvm.Cond.code y bytes mx rt).before a s = true := by
  simp only [Bool.and_eq_true, beq_iff_eq, Bool.not_eq_true', decide_eq_true_eq] at h5
  obtain ⟨⟨⟨⟨⟨g1, g2⟩, g3⟩, g4⟩, g5⟩, g6⟩ := h5
  simp [Cond.before, Cond.holds, Cond.value, h1, h2, h3, h4, g1, g2, g3, g4, g5, g6]
def isCode : Jvm.Cond → Bool
  | .code _ _ _ _ => true
  | _ => false
theorem all_split {L : List Jvm.Cond} {P : Jvm.Cond → Bool} (h1 : L.all (fun c => isCode c || P c) = true) (h2 : ∀ c ∈ L.filter isCode, P c = true) : L.all P = true := by
  refine List.all_eq_true.mpr fun c hc => ?_
  have h := List.all_eq_true.mp h1 c hc
  rcases Bool.eq_false_or_eq_true (isCode c) with hi | hi
  · exact h2 c (List.mem_filter.mpr ⟨hc, hi⟩)
  · simpa [hi] using h
set_option maxRecDepth 65536 in
theorem w_c0 : (Jvm.Cond.code x code maxLocals ret).before args0 about1 = true := code_word (m := ⟨1, 1⟩) (meth := k1m1) (c := k1c1) (by decide +kernel) rfl rfl rfl (by decide +kernel)
set_option maxRecDepth 65536 in
theorem w_c1 : (Jvm.Cond.code ({ cls := "java/util/ArrayList", name := "<init>", desc := "()V" } : Jvm.MethodName) jdk_38_method_2_code (1 : Nat) (Option.none : Option Jvm.ClassFile.FieldType)).before args0 about1 = true := code_word (m := ⟨11, 0⟩) (meth := k11m0) (c := k11c0) (by decide +kernel) rfl rfl rfl (by decide +kernel)
set_option maxRecDepth 65536 in
theorem w_c2 : (Jvm.Cond.code ({ cls := "java/util/AbstractList", name := "<init>", desc := "()V" } : Jvm.MethodName) jdk_39_method_1_code (1 : Nat) (Option.none : Option Jvm.ClassFile.FieldType)).before args0 about1 = true := code_word (m := ⟨7, 0⟩) (meth := k7m0) (c := k7c0) (by decide +kernel) rfl rfl rfl (by decide +kernel)
set_option maxRecDepth 65536 in
theorem w_c3 : (Jvm.Cond.code ({ cls := "java/util/AbstractCollection", name := "<init>", desc := "()V" } : Jvm.MethodName) jdk_22_method_1_code (1 : Nat) (Option.none : Option Jvm.ClassFile.FieldType)).before args0 about1 = true := code_word (m := ⟨4, 0⟩) (meth := k4m0) (c := k4c0) (by decide +kernel) rfl rfl rfl (by decide +kernel)
set_option maxRecDepth 65536 in
theorem w_c4 : (Jvm.Cond.code ({ cls := "java/lang/Object", name := "<init>", desc := "()V" } : Jvm.MethodName) object_method_1_code (1 : Nat) (Option.none : Option Jvm.ClassFile.FieldType)).before args0 about1 = true := code_word (m := ⟨0, 0⟩) (meth := k0m0) (c := k0c0) (by decide +kernel) rfl rfl rfl (by decide +kernel)
set_option maxRecDepth 65536 in
theorem w_c5 : (Jvm.Cond.code ({ cls := "java/lang/String", name := "valueOf", desc := "(C)Ljava/lang/String;" } : Jvm.MethodName) jdk_42_method_139_code (1 : Nat) (Option.some (Jvm.ClassFile.FieldType.object "java/lang/String"))).before args0 about1 = true := code_word (m := ⟨16, 1⟩) (meth := k16m1) (c := k16c1) (by decide +kernel) rfl rfl rfl (by decide +kernel)
set_option maxRecDepth 65536 in
theorem w_c6 : (Jvm.Cond.code ({ cls := "java/lang/StringLatin1", name := "canEncode", desc := "(C)Z" } : Jvm.MethodName) jdk_43_method_3_code (1 : Nat) (Option.some Jvm.ClassFile.FieldType.boolean)).before args0 about1 = true := code_word (m := ⟨17, 1⟩) (meth := k17m1) (c := k17c1) (by decide +kernel) rfl rfl rfl (by decide +kernel)
set_option maxRecDepth 65536 in
theorem w_c7 : (Jvm.Cond.code ({ cls := "java/lang/StringLatin1", name := "toBytes", desc := "(C)[B" } : Jvm.MethodName) jdk_43_method_46_code (1 : Nat) (Option.some (Jvm.ClassFile.FieldType.array Jvm.ClassFile.FieldType.byte))).before args0 about1 = true := code_word (m := ⟨17, 2⟩) (meth := k17m2) (c := k17c2) (by decide +kernel) rfl rfl rfl (by decide +kernel)
set_option maxRecDepth 65536 in
theorem w_c8 : (Jvm.Cond.code ({ cls := "java/lang/String", name := "<init>", desc := "([BB)V" } : Jvm.MethodName) jdk_42_method_151_code (3 : Nat) (Option.none : Option Jvm.ClassFile.FieldType)).before args0 about1 = true := code_word (m := ⟨16, 2⟩) (meth := k16m2) (c := k16c2) (by decide +kernel) rfl rfl rfl (by decide +kernel)
set_option maxRecDepth 65536 in
theorem w_c9 : (Jvm.Cond.code ({ cls := "java/util/ArrayList", name := "add", desc := "(Ljava/lang/Object;)Z" } : Jvm.MethodName) jdk_38_method_25_code (2 : Nat) (Option.some Jvm.ClassFile.FieldType.boolean)).before args0 about1 = true := code_word (m := ⟨11, 4⟩) (meth := k11m4) (c := k11c4) (by decide +kernel) rfl rfl rfl (by decide +kernel)
set_option maxRecDepth 65536 in
theorem w_c10 : (Jvm.Cond.code ({ cls := "java/util/ArrayList", name := "add", desc := "(Ljava/lang/Object;[Ljava/lang/Object;I)V" } : Jvm.MethodName) jdk_38_method_24_code (4 : Nat) (Option.none : Option Jvm.ClassFile.FieldType)).before args0 about1 = true := code_word (m := ⟨11, 3⟩) (meth := k11m3) (c := k11c3) (by decide +kernel) rfl rfl rfl (by decide +kernel)
set_option maxRecDepth 65536 in
theorem w_c11 : (Jvm.Cond.code ({ cls := "java/util/ArrayList", name := "grow", desc := "()[Ljava/lang/Object;" } : Jvm.MethodName) jdk_38_method_7_code (1 : Nat) (Option.some (Jvm.ClassFile.FieldType.array (Jvm.ClassFile.FieldType.object "java/lang/Object")))).before args0 about1 = true := code_word (m := ⟨11, 2⟩) (meth := k11m2) (c := k11c2) (by decide +kernel) rfl rfl rfl (by decide +kernel)
set_option maxRecDepth 65536 in
theorem w_c12 : (Jvm.Cond.code ({ cls := "java/util/ArrayList", name := "grow", desc := "(I)[Ljava/lang/Object;" } : Jvm.MethodName) jdk_38_method_6_code (4 : Nat) (Option.some (Jvm.ClassFile.FieldType.array (Jvm.ClassFile.FieldType.object "java/lang/Object")))).before args0 about1 = true := code_word (m := ⟨11, 1⟩) (meth := k11m1) (c := k11c1) (by decide +kernel) rfl rfl rfl (by decide +kernel)
set_option maxRecDepth 65536 in
theorem w_c13 : (Jvm.Cond.code ({ cls := "java/lang/Math", name := "max", desc := "(II)I" } : Jvm.MethodName) jdk_29_method_65_code (2 : Nat) (Option.some Jvm.ClassFile.FieldType.int)).before args0 about1 = true := code_word (m := ⟨18, 1⟩) (meth := k18m1) (c := k18c1) (by decide +kernel) rfl rfl rfl (by decide +kernel)
set_option maxRecDepth 65536 in
theorem w_c14 : (Jvm.Cond.code ({ cls := "com/example/adhoc/adhoc/submission/Validator$Report", name := "<init>", desc := "(JLjava/util/List;)V" } : Jvm.MethodName) prog_44_method_1_code (4 : Nat) (Option.none : Option Jvm.ClassFile.FieldType)).before args0 about1 = true := code_word (m := ⟨20, 0⟩) (meth := k20m0) (c := k20c0) (by decide +kernel) rfl rfl rfl (by decide +kernel)
set_option maxRecDepth 65536 in
theorem w_c15 : (Jvm.Cond.code ({ cls := "java/lang/Record", name := "<init>", desc := "()V" } : Jvm.MethodName) jdk_30_method_1_code (1 : Nat) (Option.none : Option Jvm.ClassFile.FieldType)).before args0 about1 = true := code_word (m := ⟨19, 0⟩) (meth := k19m0) (c := k19c0) (by decide +kernel) rfl rfl rfl (by decide +kernel)
set_option maxRecDepth 65536 in
theorem w_c16 : (Jvm.Cond.code ({ cls := "com/example/adhoc/adhoc/submission/Validator$Report", name := "isValid", desc := "()Z" } : Jvm.MethodName) prog_44_method_2_code (1 : Nat) (Option.some Jvm.ClassFile.FieldType.boolean)).before args0 about1 = true := code_word (m := ⟨20, 1⟩) (meth := k20m1) (c := k20c1) (by decide +kernel) rfl rfl rfl (by decide +kernel)
def codes1 : List Jvm.Cond := [Jvm.Cond.code x code maxLocals ret, Jvm.Cond.code ({ cls := "java/util/ArrayList", name := "<init>", desc := "()V" } : Jvm.MethodName) jdk_38_method_2_code (1 : Nat) (Option.none : Option Jvm.ClassFile.FieldType), Jvm.Cond.code ({ cls := "java/util/AbstractList", name := "<init>", desc := "()V" } : Jvm.MethodName) jdk_39_method_1_code (1 : Nat) (Option.none : Option Jvm.ClassFile.FieldType), Jvm.Cond.code ({ cls := "java/util/AbstractCollection", name := "<init>", desc := "()V" } : Jvm.MethodName) jdk_22_method_1_code (1 : Nat) (Option.none : Option Jvm.ClassFile.FieldType), Jvm.Cond.code ({ cls := "java/lang/Object", name := "<init>", desc := "()V" } : Jvm.MethodName) object_method_1_code (1 : Nat) (Option.none : Option Jvm.ClassFile.FieldType), Jvm.Cond.code ({ cls := "java/lang/String", name := "valueOf", desc := "(C)Ljava/lang/String;" } : Jvm.MethodName) jdk_42_method_139_code (1 : Nat) (Option.some (Jvm.ClassFile.FieldType.object "java/lang/String")), Jvm.Cond.code ({ cls := "java/lang/StringLatin1", name := "canEncode", desc := "(C)Z" } : Jvm.MethodName) jdk_43_method_3_code (1 : Nat) (Option.some Jvm.ClassFile.FieldType.boolean), Jvm.Cond.code ({ cls := "java/lang/StringLatin1", name := "toBytes", desc := "(C)[B" } : Jvm.MethodName) jdk_43_method_46_code (1 : Nat) (Option.some (Jvm.ClassFile.FieldType.array Jvm.ClassFile.FieldType.byte)), Jvm.Cond.code ({ cls := "java/lang/String", name := "<init>", desc := "([BB)V" } : Jvm.MethodName) jdk_42_method_151_code (3 : Nat) (Option.none : Option Jvm.ClassFile.FieldType), Jvm.Cond.code ({ cls := "java/util/ArrayList", name := "add", desc := "(Ljava/lang/Object;)Z" } : Jvm.MethodName) jdk_38_method_25_code (2 : Nat) (Option.some Jvm.ClassFile.FieldType.boolean), Jvm.Cond.code ({ cls := "java/util/ArrayList", name := "add", desc := "(Ljava/lang/Object;[Ljava/lang/Object;I)V" } : Jvm.MethodName) jdk_38_method_24_code (4 : Nat) (Option.none : Option Jvm.ClassFile.FieldType), Jvm.Cond.code ({ cls := "java/util/ArrayList", name := "grow", desc := "()[Ljava/lang/Object;" } : Jvm.MethodName) jdk_38_method_7_code (1 : Nat) (Option.some (Jvm.ClassFile.FieldType.array (Jvm.ClassFile.FieldType.object "java/lang/Object"))), Jvm.Cond.code ({ cls := "java/util/ArrayList", name := "grow", desc := "(I)[Ljava/lang/Object;" } : Jvm.MethodName) jdk_38_method_6_code (4 : Nat) (Option.some (Jvm.ClassFile.FieldType.array (Jvm.ClassFile.FieldType.object "java/lang/Object"))), Jvm.Cond.code ({ cls := "java/lang/Math", name := "max", desc := "(II)I" } : Jvm.MethodName) jdk_29_method_65_code (2 : Nat) (Option.some Jvm.ClassFile.FieldType.int), Jvm.Cond.code ({ cls := "com/example/adhoc/adhoc/submission/Validator$Report", name := "<init>", desc := "(JLjava/util/List;)V" } : Jvm.MethodName) prog_44_method_1_code (4 : Nat) (Option.none : Option Jvm.ClassFile.FieldType), Jvm.Cond.code ({ cls := "java/lang/Record", name := "<init>", desc := "()V" } : Jvm.MethodName) jdk_30_method_1_code (1 : Nat) (Option.none : Option Jvm.ClassFile.FieldType), Jvm.Cond.code ({ cls := "com/example/adhoc/adhoc/submission/Validator$Report", name := "isValid", desc := "()Z" } : Jvm.MethodName) prog_44_method_2_code (1 : Nat) (Option.some Jvm.ClassFile.FieldType.boolean)]
set_option maxRecDepth 65536 in
theorem codes_eq : words1.filter isCode = codes1 := rfl
theorem w_codes : ∀ c ∈ words1.filter isCode, c.before args0 about1 = true := by
  rw [codes_eq]
  intro c hc
  simp only [codes1, List.mem_cons, List.not_mem_nil, or_false] at hc
  rcases hc with rfl | rfl | rfl | rfl | rfl | rfl | rfl | rfl | rfl | rfl | rfl | rfl | rfl | rfl | rfl | rfl | rfl
  · exact w_c0
  · exact w_c1
  · exact w_c2
  · exact w_c3
  · exact w_c4
  · exact w_c5
  · exact w_c6
  · exact w_c7
  · exact w_c8
  · exact w_c9
  · exact w_c10
  · exact w_c11
  · exact w_c12
  · exact w_c13
  · exact w_c14
  · exact w_c15
  · exact w_c16
set_option maxRecDepth 65536 in
theorem w_t1 : (words1.take 24).all (fun c => isCode c || c.before args0 about1) = true := by decide +kernel
set_option maxRecDepth 65536 in
theorem w_t2 : ((words1.drop 24).take 24).all (fun c => isCode c || c.before args0 about1) = true := by decide +kernel
set_option maxRecDepth 65536 in
theorem w_t3 : (((words1.drop 24).drop 24).take 24).all (fun c => isCode c || c.before args0 about1) = true := by decide +kernel
set_option maxRecDepth 65536 in
theorem w_t4 : ((((words1.drop 24).drop 24).drop 24).take 24).all (fun c => isCode c || c.before args0 about1) = true := by decide +kernel
set_option maxRecDepth 65536 in
theorem w_t5 : ((((words1.drop 24).drop 24).drop 24).drop 24).all (fun c => isCode c || c.before args0 about1) = true := by decide +kernel
theorem w_tables : (allAtoms (Jvm.Cond.code x code maxLocals ret :: tables_1)).before args0 about1 = true := by
  rw [allAtoms_all]
  show words1.all (fun c => c.before args0 about1) = true
  refine all_split ?_ w_codes
  rw [← List.take_append_drop 24 words1, List.all_append, w_t1, ← List.take_append_drop 24 (words1.drop 24), List.all_append, w_t2, ← List.take_append_drop 24 ((words1.drop 24).drop 24), List.all_append, w_t3, ← List.take_append_drop 24 (((words1.drop 24).drop 24).drop 24), List.all_append, w_t4, w_t5]
  rfl
set_option maxRecDepth 65536 in
theorem w_rest : rest_1_c.before args0 about1 = true := by decide +kernel
set_option maxRecDepth 65536 in
theorem w_case : (Jvm.Cond.and given_1 narrow_1).before args0 about1 = true := by decide +kernel
theorem w_applies : (headSpec (Jvm.Cond.code x code maxLocals ret :: tables_1) room_1).applies x e0.platform about1 = true :=
  (Spec.applies_iff w_frames).mpr ⟨w_running, w_runnable, w_alone, w_named, w_hears, w_ripe, w_room, w_tables⟩
theorem atStart : AtStart classFile x code maxLocals ret World_1 tables_1 room_1 Calls_1 rest_1 Pre_1 launch0 p0 e0 about1 theMethod args0 below0 :=
  ⟨lists_1, trivial, launch0.admits_env _ _ _, launch0.least_env, fairChoices_fair.cas, fairChoices_fair.clock, w_frames, w_args, w_heap, w_applies, trivial, w_rest, w_case⟩
end start1
theorem witness_1 : WitnessClaimed_1 := ⟨start1.p0, start1.e0, start1.about1, start1.theMethod, start1.args0, start1.below0, start1.atStart⟩
end Jvm.Pilot.@@N@@
