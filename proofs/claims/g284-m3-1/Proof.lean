import JvmDerived
import JvmDerived.Pilot.@@N@@Statement
import JvmDerived.Pilot.@@N@@Code
set_option linter.unusedVariables false
set_option linter.unusedSimpArgs false
namespace Jvm.RoadKit
open Sem ClassFile Op Lib Jvm.Stand Jvm.Free Jvm.LawKit
section New
variable {p : Program} {l : Launch} {e : Env} {R : Room} {s : State} {m : MethodId} {args : Array Value} {below : List Frame} {meth : Method} {c : Code} {T : State} {locs : List Loc} {cells slots : Nat}
theorem retI (X : Stand p l e R s m args below meth c T locs cells slots) (hx : p.tables.exec = Jvm.exec) {pc : Nat} {Ls : Array Slot} {z : Int32} {rest : List Value} (hret : meth.sig.returnType = some .int) (hd : decode c.code pc = .ok (.ireturn, 1)) {fs : List Frame}
    (hl : ∀ (f : JFrame) (acts : List Action), f.method = m → f.locked = none → f.entered = [] → (doReturn e (T.setTop f) acts (some (.int z))).1 = T.setFrames fs) : Steps p.tables e below (T.setTop (mkF m pc Ls (.int z :: rest))) (T.setFrames fs) := by
  have hm' : T.vm.method? m = some meth := X.method'
  have hn : narrow .int (.int z) = .int z := rfl
  show Steps p.tables e below (T.setTop { method := m, pc := pc, locals := Ls, stack := _ :: rest, locked := none }) _
  jvm_step X.here [X.here.top, hx, hd, hm', hret, hn]
  first | (intro acts; rw [hl _ acts rfl rfl rfl]) | rw [hl _ _ rfl rfl rfl]
  exact Steps.refl _
end New
end Jvm.RoadKit
namespace Jvm.RoadKit
open Sem ClassFile Op Lib Bundle Jvm.Stand Jvm.Free Jvm.LawKit Jvm.Free.SB Jvm.Free.SBG
theorem own_safe {Z : State} {EL : List (String × Nat)} {vm : Vm} {h : Heap} {x : Addr} (hal : Z.vm.Alike vm) (E : Exa Z h x "java/lang/String") (F : Fld Z h x "java/lang/String" "value" "[B" .null) : Safe Z EL vm h x := fun B => by
  obtain ⟨p, -, u, a, -, q, -, G, rfl | rfl⟩ := B
  · obtain ⟨cell, cf, k, i, f, e1, e2, -, -, -, -, e3⟩ := F
    cases (show h[q.sa]? = some q.sC from G.ha).symm.trans e1
    obtain ⟨cS, ⟨⟨-, -, -, ⟨c1, k1, i1, f1, -⟩, -, -, -, v1, -⟩, -⟩, -⟩ := G
    obtain ⟨k', z⟩ := ff_back (U := Wst Z vm h) hal f1
    have e4 := z.symm.trans e2
    simp only [Option.some.injEq, Prod.mk.injEq] at e4
    rw [e4.2.2.2, e3] at v1
    cases v1
  · obtain ⟨cell, k, e1, e2, e3, -, -⟩ := E
    cases (show h[q.sd]? = some q.SA from G.hd).symm.trans e1
    obtain ⟨cS, -, -, f, -⟩ := G
    have f : vm.findClass "[B" = some q.SA.cls := f
    rw [hal.findClass] at f
    obtain ⟨k1, q1, q2⟩ := Vm.findClass_spec f
    obtain ⟨k2, q3, q4⟩ := Vm.findClass_spec e2
    cases q1.symm.trans q3
    exact absurd (q2.symm.trans q4) (by decide)
theorem own_noins {Z : State} {a0 : Array Value} {C O K : String} {n : Nat} (w : (Cond.superclass C O).before a0 Z = true) (wo : (Cond.noSuperclass O).before a0 Z = true) (wk : (Cond.instantiable K n).before a0 Z = true) (h1 : C ≠ K) (h2 : O ≠ K) : ∃ c t, Z.vm.findClass C = some c ∧ Z.vm.findClass K = some t ∧ Z.vm.assignable c t = false := by
  obtain ⟨t, kk, t1, t2, t3, t4, -, -⟩ := Cond.instantiable_spec wk
  have hO : NS Z O K := by
    obtain ⟨c, k, g1, g2, g3, -, -⟩ := Cond.noSuperclass_spec wo
    have ne := ids_ne g1 t1 h2
    refine ⟨c, t, g1, t1, fun fuel => ?_⟩
    cases fuel with
    | zero => rfl
    | succ f => simp [Vm.isSubclassAux, ne, g2, g3]
  obtain ⟨c, t', h0, g0, n3⟩ := NS.step w hO h1
  cases t1.symm.trans g0
  obtain ⟨p, k, kp, e1, e2, e3, e4, e5, -, e7⟩ := Cond.superclass_spec h0 w
  have ne := ids_ne h0 t1 h1
  rw [Bool.or_eq_false_iff] at t4
  refine ⟨c, t, h0, t1, ?_⟩
  show Z.vm.assignableAux (255 + 1) c t = false
  simp [Vm.assignableAux, ne, e2, t2, e5, t3, t4.1, Vm.isSubclass, n3]
end Jvm.RoadKit
namespace Jvm.Pilot.@@N@@
open Jvm Jvm.ClassFile Sem Op Lib Jvm.Free Jvm.Stand Jvm.LawKit Jvm.RoadKit Bundle Jvm.Pilot.@@N@@.Jvm.D
theorem own_atoms {Z : State} {a0 : Array Value} (hw : ∀ d ∈ tables_1, d.before a0 Z = true) : ∀ a ∈ Bundle.stringAtoms, a.before a0 Z = true := by
  intro a ha
  simp only [Bundle.stringAtoms, List.mem_cons, List.not_mem_nil, or_false] at ha
  rcases ha with rfl | rfl | rfl | rfl | rfl | rfl | rfl
  · exact (hw _ (List.mem_of_getElem? (i := 13) rfl))
  · exact (hw _ (List.mem_of_getElem? (i := 12) rfl))
  · exact (hw _ (List.mem_of_getElem? (i := 30) rfl))
  · exact (hw _ (List.mem_of_getElem? (i := 40) rfl))
  · exact (hw _ (List.mem_of_getElem? (i := 38) rfl))
  · exact (hw _ (List.mem_of_getElem? (i := 42) rfl))
  · exact (hw _ (List.mem_of_getElem? (i := 43) rfl))
theorem own_plE {Z : State} {h : Heap} {a : Addr} {C : String} (E : Exa Z h a C) : ∃ c : Cell, h[a]? = some c ∧ c.vm.isStatics = false := by
  obtain ⟨cell, k, h1, -, -, h4, -⟩ := E; exact ⟨cell, h1, h4⟩
theorem own_plV {Z : State} {h : Heap} {a : Addr} {k : ClassId} {ty : FieldType} {n : Int32} {vs : List Value} {d : Value} (F : Arv Z h a k ty n vs d) : ∃ c : Cell, h[a]? = some c ∧ c.vm.isStatics = false := by
  obtain ⟨c, A, -⟩ := F; exact ⟨c, A.1, A.plain⟩
theorem own_sta_keep {Z : State} {h h' : Heap} {ws : List Addr} {C n d : String} {v : Value} (K : Keep h h' ws) (q : ∀ a ∈ ws, ∃ c : Cell, h[a]? = some c ∧ c.vm.isStatics = false) (F : Sta Z h C n d v) : Sta Z h' C n d v := by
  obtain ⟨cf, i, k, f, st, cell, h1, h2, h3, h4, h5, h6, h7⟩ := F
  refine ⟨cf, i, k, f, st, cell, h1, h2, h3, h4, K.2.1 st cell h5 (fun hm => ?_), h6, h7⟩
  obtain ⟨c, hc, hs⟩ := q st hm
  rw [h5] at hc; cases hc; rw [h6] at hs; cases hs
theorem own_lt {x k : Int32} {K : Int} (h : x < k) (e : k.toInt = K) : x.toInt < K := by rw [Int32.lt_iff_toInt_lt] at h; omega
theorem own_nlt {x k : Int32} {K : Int} (h : ¬ x < k) (e : k.toInt = K) : K ≤ x.toInt := by rw [Int32.lt_iff_toInt_lt] at h; omega
theorem own_gt {x k : Int32} {K : Int} (h : k < x) (e : k.toInt = K) : K < x.toInt := by rw [Int32.lt_iff_toInt_lt] at h; omega
theorem own_ngt {x k : Int32} {K : Int} (h : ¬ k < x) (e : k.toInt = K) : x.toInt ≤ K := by rw [Int32.lt_iff_toInt_lt] at h; omega
theorem own_eq {x k : Int32} {K : Int} (h : x = k) (e : k.toInt = K) : x.toInt = K := by rw [h]; exact e
theorem own_neq {x k : Int32} {K : Int} (h : ¬ x = k) (e : k.toInt = K) : ¬ x.toInt = K := fun q => h (Int32.toInt_inj.mp (q.trans e.symm))
theorem own_mk_lt {x k : Int32} {K : Int} (h : x.toInt < K) (e : k.toInt = K) : x < k := by rw [Int32.lt_iff_toInt_lt]; omega
theorem own_mk_nlt {x k : Int32} {K : Int} (h : K ≤ x.toInt) (e : k.toInt = K) : ¬ x < k := by rw [Int32.lt_iff_toInt_lt]; omega
theorem own_mk_gt {x k : Int32} {K : Int} (h : K < x.toInt) (e : k.toInt = K) : k < x := by rw [Int32.lt_iff_toInt_lt]; omega
theorem own_mk_ngt {x k : Int32} {K : Int} (h : x.toInt ≤ K) (e : k.toInt = K) : ¬ k < x := by rw [Int32.lt_iff_toInt_lt]; omega
theorem own_mk_eq {x k : Int32} {K : Int} (h : x.toInt = K) (e : k.toInt = K) : x = k := Int32.toInt_inj.mp (h.trans e.symm)
theorem own_mk_neq {x k : Int32} {K : Int} (h : ¬ x.toInt = K) (e : k.toInt = K) : ¬ x = k := fun q => h (q ▸ e)
abbrev own_EL : List (String × Nat) := [("java/lang/String", 7)]
theorem own_ew {Z : State} {a0 : Array Value} (hw : ∀ d ∈ tables_1, d.before a0 Z = true) : EW Z a0 own_EL := EW.cons (text := "") (hw _ (by simp [tables_1])) (by decide) EW.nil
theorem own_held {tb : Tables} {e : Env} {args : Array Value} {s : State} (h : Calls_1 tb e args s) : ∀ p ∈ own_EL, Jvm.Lit.constHeld s p.1 p.2 := fun p hp => by
  have q := h.1 p (by simp only [own_EL, List.mem_cons, List.not_mem_nil, or_false] at hp; subst hp; simp [consts_1])
  exact q
theorem own_nar {x : Int32} (h : x = 0 ∨ x = 1) : narrow .boolean (.int x) = .int x := by rcases h with rfl | rfl <;> rfl
theorem own_fit {x : Int32} (h : x = 0 ∨ x = 1) : fits .boolean (.int x) = true := by rcases h with rfl | rfl <;> rfl
def own_min (a b : Int32) : Int32 := if b < a then b else a
def own_b (c : Int32) : Int32 := nar .byte ((nar .char c).toInt8.toInt32)
def own_bs (n c d : Int32) : List Value := if n = 0 then [] else if n = 1 then [(.int (own_b c))] else [(.int (own_b c)), (.int (own_b d))]
theorem own_bs0 {c d : Int32} : own_bs 0 c d = [] := by simp [own_bs]
theorem own_bs1 {c d : Int32} : own_bs 1 c d = [(.int (own_b c))] := by simp (decide := true) [own_bs]
theorem own_bs2 {c d : Int32} : own_bs 2 c d = [(.int (own_b c)), (.int (own_b d))] := by simp (decide := true) [own_bs]
def own_r (c : Int32) : Prop := 0 ≤ c.toInt ∧ c.toInt ≤ 255
theorem own_nc {c : Int32} (h : own_r c) : (nar .char c).toInt = c.toInt := by
  have hc := c_i2c c
  obtain ⟨h1, h2⟩ := h
  show (c.toUInt32.toUInt16.toUInt32.toInt32).toInt = c.toInt
  omega
theorem own_nc255 {c : Int32} (h : own_r c) : ¬ (255 : Int32) < nar .char c := by
  have hc := own_nc h
  obtain ⟨h1, h2⟩ := h
  rw [Int32.lt_iff_toInt_lt, show (255 : Int32).toInt = 255 from by decide]
  omega
theorem own_binj {x y : Int32} (hx : own_r x) (hy : own_r y) (h : own_b x = own_b y) : x = y := by
  have a1 := own_nc hx
  have a2 := own_nc hy
  have b1 := c_i2b (nar .char x)
  have b2 := c_i2b (nar .char y)
  have c1 := c_i2b (nar .char x).toInt8.toInt32
  have c2 := c_i2b (nar .char y).toInt8.toInt32
  have h : ((nar .char x).toInt8.toInt32).toInt8.toInt32 = ((nar .char y).toInt8.toInt32).toInt8.toInt32 := h
  obtain ⟨h1, h2⟩ := hx
  obtain ⟨h3, h4⟩ := hy
  rw [h] at c1
  exact Int32.toInt_inj.mp (by omega)
theorem own_rc {z x : Int32} (h : z = (x &&& (255 : Int32)).toUInt32.toUInt16.toUInt32.toInt32) : own_r z := by
  have hm := c_mask x 255 8 (by decide) (by decide)
  have hc := c_i2c (x &&& (255 : Int32))
  subst h
  constructor <;> omega
theorem own_len12 {z x : Int32} (h : z = (1 : Int32) + (x &&& (1 : Int32))) : (z = 0 ∨ z = 1 ∨ z = 2) ∧ ¬ z = (0 : Int32) := by
  have hm := c_mask x 1 1 (by decide) (by decide)
  have ha := c_iadd 1 (x &&& 1)
  have h1 := (show (1 : Int32).toInt = 1 from by decide)
  have h0 := (show (0 : Int32).toInt = 0 from by decide)
  have h2 := (show (2 : Int32).toInt = 2 from by decide)
  have l1 := z.le_toInt
  have l2 := z.toInt_lt
  rw [← h] at ha
  rw [← Int32.toInt_inj, ← Int32.toInt_inj, ← Int32.toInt_inj]
  omega
theorem own_lenmin {z x : Int32} (h : z = own_min (x &&& (3 : Int32)) (2 : Int32)) : z = 0 ∨ z = 1 ∨ z = 2 := by
  have hm := c_mask x 3 2 (by decide) (by decide)
  have h1 := (show (1 : Int32).toInt = 1 from by decide)
  have h0 := (show (0 : Int32).toInt = 0 from by decide)
  have h2 := (show (2 : Int32).toInt = 2 from by decide)
  unfold own_min at h
  split at h <;> rename_i hc <;> rw [Int32.lt_iff_toInt_lt] at hc <;> subst h <;> rw [← Int32.toInt_inj, ← Int32.toInt_inj, ← Int32.toInt_inj] <;> omega
theorem own_len2 {z : Int32} (h : z = 0 ∨ z = 1 ∨ z = 2) (h0 : ¬ z = (0 : Int32)) (h1 : ¬ z = (1 : Int32)) : z = 2 := by
  rcases h with h | h | h
  · exact absurd h h0
  · exact absurd h h1
  · exact h
def own_same (n a b m c d : Int32) : Int32 := if n = m then (if n < 1 then 1 else if a = c then (if n < 2 then 1 else if b = d then 1 else 0) else 0) else 0
theorem own_same01 (n a b m c d : Int32) : own_same n a b m c d = 0 ∨ own_same n a b m c d = 1 := by
  unfold own_same
  repeat (first | exact Or.inl rfl | exact Or.inr rfl | split)
theorem own_same1 {n a b m c d : Int32} (h : ¬ own_same n a b m c d = 0) : own_same n a b m c d = 1 := (own_same01 n a b m c d).resolve_left h
theorem own_same_symm (n a b m c d : Int32) : own_same n a b m c d = own_same m c d n a b := by
  unfold own_same
  by_cases h : n = m
  · subst h
    simp only [eq_comm (a := a), eq_comm (a := b)]
  · rw [if_neg h, if_neg (Ne.symm h)]
def own_eqv (x y w w' l l' : Int32) : Int32 := if x = 0 then 0 else if y = 0 then 0 else if w = w' then (if l = l' then 1 else 0) else 0
theorem own_eqv_symm (n c d n' c' d' m e f m' e' f' w w' l l' : Int32) : own_eqv (own_same n c d n' c' d') (own_same m e f m' e' f') w w' l l' = own_eqv (own_same n' c' d' n c d) (own_same m' e' f' m e f) w' w l' l := by
  rw [own_same_symm n, own_same_symm m]
  unfold own_eqv
  simp only [eq_comm (a := w), eq_comm (a := l)]
theorem own_pd0 : parseMethodDescriptor "([CIILjava/lang/Void;)V" = some ⟨[(.array .char), .int, .int, (.object "java/lang/Void")], none⟩ := by decide +kernel
theorem own_pd1 : parseMethodDescriptor "([CI[BII)I" = some ⟨[(.array .char), .int, (.array .byte), .int, .int], some .int⟩ := by decide +kernel
theorem own_pd2 : parseMethodDescriptor "([CII)[B" = some ⟨[(.array .char), .int, .int], some (.array .byte)⟩ := by decide +kernel
theorem own_pd3 : parseMethodDescriptor "([BI)B" = some ⟨[(.array .byte), .int], some .byte⟩ := by decide +kernel
theorem own_pd4 : parseMethodDescriptor "([C)V" = some ⟨[(.array .char)], none⟩ := by decide +kernel
theorem own_pd5 : parseMethodDescriptor "([B[B)Z" = some ⟨[(.array .byte), (.array .byte)], some .boolean⟩ := by decide +kernel
theorem own_pd6 : parseMethodDescriptor "(Ljava/lang/Object;Ljava/lang/String;)Ljava/lang/Object;" = some ⟨[(.object "java/lang/Object"), (.object "java/lang/String")], some (.object "java/lang/Object")⟩ := by decide +kernel
theorem own_pd7 : parseMethodDescriptor "()Z" = some ⟨[], some .boolean⟩ := by decide +kernel
theorem own_pd8 : parseMethodDescriptor "(Ljava/lang/Object;)Z" = some ⟨[(.object "java/lang/Object")], some .boolean⟩ := by decide +kernel
theorem own_pd9 : parseMethodDescriptor "(II)I" = some ⟨[.int, .int], some .int⟩ := by decide +kernel
theorem own_pd10 : parseMethodDescriptor "(ICC)Ljava/lang/String;" = some ⟨[.int, .char, .char], some (.object "java/lang/String")⟩ := by decide +kernel
theorem own_pd11 : parseMethodDescriptor "(Ljava/lang/String;Ljava/lang/String;ZZ)V" = some ⟨[(.object "java/lang/String"), (.object "java/lang/String"), .boolean, .boolean], none⟩ := by decide +kernel
theorem own_pd12 : parseMethodDescriptor "(ICCICC)Z" = some ⟨[.int, .char, .char, .int, .char, .char], some .boolean⟩ := by decide +kernel
theorem d1_0 : decode jdk_29_method_69_code 0 = .ok (.iload_n 0, 1) := by decide +kernel
theorem d1_1 : decode jdk_29_method_69_code 1 = .ok (.iload_n 1, 1) := by decide +kernel
theorem d1_2 : decode jdk_29_method_69_code 2 = .ok (.if_icmp .gt 7, 3) := by decide +kernel
theorem d1_5 : decode jdk_29_method_69_code 5 = .ok (.iload_n 0, 1) := by decide +kernel
theorem d1_6 : decode jdk_29_method_69_code 6 = .ok (.goto 4, 3) := by decide +kernel
theorem d1_9 : decode jdk_29_method_69_code 9 = .ok (.iload_n 1, 1) := by decide +kernel
theorem d1_10 : decode jdk_29_method_69_code 10 = .ok (.ireturn, 1) := by decide +kernel
theorem ef_rm_min (m : MethodId) (vp : Int32) (vq : Int32) : entryFrame m #[(.int vp), (.int vq)] 2 = mkF m 0 #[.val (.int vp), .val (.int vq)] [] := by first | (simp [entryFrame, mkF, argsToLocals, Value.category]; done) | rfl
def Q_min (Z : State) (vp : Int32) (vq : Int32) (h0 : Heap) (n0 : Nat) (v : Option Value) (h : Heap) (L : List Loc) : Prop := v = some (.int (own_min vp vq)) ∧ Fr n0 L ∧ h = h0
set_option maxRecDepth 65536 in
set_option maxHeartbeats 40000000 in
theorem rm_min (l : Launch) (Z : State) (a0 : Array Value) (hw : ∀ d ∈ tables_1, d.before a0 Z = true) (ws : List Jvm.Cond) (vp : Int32) (vq : Int32) (h0 : Heap) (n0 : Nat) (Z0 : n0 ≤ h0.size) :
    MetFree l (⟨"java/lang/Math", "min", "(II)I"⟩ : MethodName) (head1 (Jvm.Cond.code (⟨"java/lang/Math", "min", "(II)I"⟩ : MethodName) jdk_29_method_69_code 2 (some .int) :: ws) ({ frames := 0, cells := 0, slots := 0, locals := 0 } : Room)) (fun a U => a = #[(.int vp), (.int vq)] ∧ Z.Warmed39 U.vm ∧ U.heap = h0) (fun _ _ _ _ _ => True) (fun _ U o U' => ∃ v L, o = .returned v ∧ Q_min Z vp vq h0 n0 v U'.heap L ∧ FrameEnd U o U' L ({ frames := 0, cells := 0, slots := 0, locals := 0 } : Room).cells ({ frames := 0, cells := 0, slots := 0, locals := 0 } : Room).slots) := by
  refine MetFree.of_bodySF (Jvm.Free.JP.mathPlain rfl (by decide +kernel)) hisR ?_
  intro p e s m args below meth c s₁ Bd hml0 hP hK
  obtain ⟨rfl, hZ, hh⟩ := hP
  have hx := Bd.exec
  have hby := Bd.bytes
  have hml : c.maxLocals = 2 := hml0
  have hown : s.vm.findClass "java/lang/Math" = some m.cls := findClass_of_methodNamed Bd.named
  have hnm := (name_of_methodNamed Bd.named Bd.method).1
  have X0 : Stand p l e ({ frames := 0, cells := 0, slots := 0, locals := 0 } : Room) s m #[(.int vp), (.int vq)] below meth c s₁ [] 0 0 := Stand.of_body Bd
  have e0 : s₁.heap = h0 := by rw [← hh, Bd.state]; rfl
  have N0 := Fr.nil n0
  have pre0 : ∀ t, Steps p.tables e below (s₁.setTop (mkF m 0 #[.val (.int vp), .val (.int vq)] [])) t → Steps p.tables e below (s₁.setTop (entryFrame m #[(.int vp), (.int vq)] 2)) t := fun t k => castTop (ef_rm_min m vp vq) k
  have pre1 : ∀ t, Steps p.tables e below (s₁.setTop (mkF m 2 #[.val (.int vp), .val (.int vq)] [(.int vq), (.int vp)])) t → Steps p.tables e below (s₁.setTop (entryFrame m #[(.int vp), (.int vq)] 2)) t := by
    intro t k
    refine pre0 t ?_
    show Steps p.tables e below (s₁.setTop (mkF m 0 #[.val (.int vp), .val (.int vq)] [])) _
    refine XS.iloadN X0.here hx rfl (hb hby d1_0) rfl ?_
    show Steps p.tables e below (s₁.setTop (mkF m 1 #[.val (.int vp), .val (.int vq)] [(.int vp)])) _
    refine XS.iloadN X0.here hx rfl (hb hby d1_1) rfl ?_
    show Steps p.tables e below (s₁.setTop (mkF m 2 #[.val (.int vp), .val (.int vq)] [(.int vq), (.int vp)])) _
    exact k
  by_cases hc2 : vq < vp
  · obtain ⟨fs, hr, hrun, hended, hW, hsame⟩ := X0.leave (v := some (.int vq)) (fun h => by rw [Bd.returns] at h; cases h)
    refine ⟨_, _, pre1 _ ?_, hrun, hended, _, _, rfl, ?_, ⟨_, rfl⟩, hW, hsame.mono (by decide) (by decide)⟩
    · show Steps p.tables e below (s₁.setTop (mkF m 2 #[.val (.int vp), .val (.int vq)] [(.int vq), (.int vp)])) _
      refine XS.icmpYes X0.here hx rfl (pc0 := 2) (pc' := 9) rfl (hb hby d1_2) rfl (tlt hc2).2.2.1 (by decide) (by decide) ?_
      show Steps p.tables e below (s₁.setTop (mkF m 9 #[.val (.int vp), .val (.int vq)] [])) _
      refine XS.iloadN X0.here hx rfl (hb hby d1_9) rfl ?_
      show Steps p.tables e below (s₁.setTop (mkF m 10 #[.val (.int vp), .val (.int vq)] [(.int vq)])) _
      exact retI X0 hx Bd.returns (hb hby d1_10) hr
    · show Q_min Z vp vq h0 n0 _ s₁.heap _
      rw [e0]
      exact ⟨by simp [own_min, hc2], N0, rfl⟩
  · obtain ⟨fs, hr, hrun, hended, hW, hsame⟩ := X0.leave (v := some (.int vp)) (fun h => by rw [Bd.returns] at h; cases h)
    refine ⟨_, _, pre1 _ ?_, hrun, hended, _, _, rfl, ?_, ⟨_, rfl⟩, hW, hsame.mono (by decide) (by decide)⟩
    · show Steps p.tables e below (s₁.setTop (mkF m 2 #[.val (.int vp), .val (.int vq)] [(.int vq), (.int vp)])) _
      refine XS.icmpNo X0.here hx rfl (hb hby d1_2) rfl (flt hc2).2.2.1 ?_
      show Steps p.tables e below (s₁.setTop (mkF m 5 #[.val (.int vp), .val (.int vq)] [])) _
      refine XS.iloadN X0.here hx rfl (hb hby d1_5) rfl ?_
      show Steps p.tables e below (s₁.setTop (mkF m 6 #[.val (.int vp), .val (.int vq)] [(.int vp)])) _
      refine XS.goto X0.here hx rfl (pc0 := 6) (pc' := 10) rfl (hb hby d1_6) (by decide) (by decide) ?_
      show Steps p.tables e below (s₁.setTop (mkF m 10 #[.val (.int vp), .val (.int vq)] [(.int vp)])) _
      exact retI X0 hx Bd.returns (hb hby d1_10) hr
    · show Q_min Z vp vq h0 n0 _ s₁.heap _
      rw [e0]
      exact ⟨by simp [own_min, hc2], N0, rfl⟩
theorem d4_0 : decode jdk_42_method_149_code 0 = .ok (.aload_n 0, 1) := by decide +kernel
theorem d4_1 : decode jdk_42_method_149_code 1 = .ok (.invokespecial 1, 3) := by decide +kernel
theorem d4_4 : decode jdk_42_method_149_code 4 = .ok (.iload_n 3, 1) := by decide +kernel
theorem d4_5 : decode jdk_42_method_149_code 5 = .ok (.ifCond .ne 22, 3) := by decide +kernel
theorem d4_8 : decode jdk_42_method_149_code 8 = .ok (.aload_n 0, 1) := by decide +kernel
theorem d4_9 : decode jdk_42_method_149_code 9 = .ok (.ldc 7, 2) := by decide +kernel
theorem d4_11 : decode jdk_42_method_149_code 11 = .ok (.getfield 9, 3) := by decide +kernel
theorem d4_14 : decode jdk_42_method_149_code 14 = .ok (.putfield 9, 3) := by decide +kernel
theorem d4_17 : decode jdk_42_method_149_code 17 = .ok (.aload_n 0, 1) := by decide +kernel
theorem d4_18 : decode jdk_42_method_149_code 18 = .ok (.ldc 7, 2) := by decide +kernel
theorem d4_20 : decode jdk_42_method_149_code 20 = .ok (.getfield 15, 3) := by decide +kernel
theorem d4_23 : decode jdk_42_method_149_code 23 = .ok (.putfield 15, 3) := by decide +kernel
theorem d4_26 : decode jdk_42_method_149_code 26 = .ok (.return_, 1) := by decide +kernel
theorem d4_27 : decode jdk_42_method_149_code 27 = .ok (.getstatic 38, 3) := by decide +kernel
theorem d4_30 : decode jdk_42_method_149_code 30 = .ok (.ifCond .eq 28, 3) := by decide +kernel
theorem d4_33 : decode jdk_42_method_149_code 33 = .ok (.aload_n 1, 1) := by decide +kernel
theorem d4_34 : decode jdk_42_method_149_code 34 = .ok (.iload_n 2, 1) := by decide +kernel
theorem d4_35 : decode jdk_42_method_149_code 35 = .ok (.iload_n 3, 1) := by decide +kernel
theorem d4_36 : decode jdk_42_method_149_code 36 = .ok (.invokestatic 177, 3) := by decide +kernel
theorem d4_39 : decode jdk_42_method_149_code 39 = .ok (.astore 5, 2) := by decide +kernel
theorem d4_41 : decode jdk_42_method_149_code 41 = .ok (.aload_n 0, 1) := by decide +kernel
theorem d4_42 : decode jdk_42_method_149_code 42 = .ok (.aload 5, 2) := by decide +kernel
theorem d4_44 : decode jdk_42_method_149_code 44 = .ok (.iload_n 3, 1) := by decide +kernel
theorem d4_45 : decode jdk_42_method_149_code 45 = .ok (.invokestatic 47, 3) := by decide +kernel
theorem d4_48 : decode jdk_42_method_149_code 48 = .ok (.putfield 15, 3) := by decide +kernel
theorem d4_51 : decode jdk_42_method_149_code 51 = .ok (.aload_n 0, 1) := by decide +kernel
theorem d4_52 : decode jdk_42_method_149_code 52 = .ok (.aload 5, 2) := by decide +kernel
theorem d4_54 : decode jdk_42_method_149_code 54 = .ok (.putfield 9, 3) := by decide +kernel
theorem d4_57 : decode jdk_42_method_149_code 57 = .ok (.return_, 1) := by decide +kernel
theorem d4_58 : decode jdk_42_method_149_code 58 = .ok (.aload_n 0, 1) := by decide +kernel
theorem d4_59 : decode jdk_42_method_149_code 59 = .ok (.iconst 1, 1) := by decide +kernel
theorem d4_60 : decode jdk_42_method_149_code 60 = .ok (.putfield 15, 3) := by decide +kernel
theorem d4_63 : decode jdk_42_method_149_code 63 = .ok (.aload_n 0, 1) := by decide +kernel
theorem d4_64 : decode jdk_42_method_149_code 64 = .ok (.aload_n 1, 1) := by decide +kernel
theorem d4_65 : decode jdk_42_method_149_code 65 = .ok (.iload_n 2, 1) := by decide +kernel
theorem d4_66 : decode jdk_42_method_149_code 66 = .ok (.iload_n 3, 1) := by decide +kernel
theorem d4_67 : decode jdk_42_method_149_code 67 = .ok (.invokestatic 180, 3) := by decide +kernel
theorem d4_70 : decode jdk_42_method_149_code 70 = .ok (.putfield 9, 3) := by decide +kernel
theorem d4_73 : decode jdk_42_method_149_code 73 = .ok (.return_, 1) := by decide +kernel
theorem pn_rm_i4_0 : plainName "java/lang/String" = true := by first | (simp [plainName, overriddenIn]; done) | decide +kernel
theorem ef_rm_i4_0 (m : MethodId) (va : Addr) (vc : Addr) (vo : Int32) (vq : Int32) : entryFrame m #[(.ref va), (.ref vc), (.int vo), (.int vq), .null] 6 = mkF m 0 #[.val (.ref va), .val (.ref vc), .val (.int vo), .val (.int vq), .val .null, .unset] [] := by first | (simp [entryFrame, mkF, argsToLocals, Value.category]; done) | rfl
def Q_i4_0 (Z : State) (va : Addr) (vc : Addr) (vo : Int32) (vq : Int32) (kc : ClassId) (h0 : Heap) (n0 : Nat) (v : Option Value) (h : Heap) (L : List Loc) : Prop := ∃ (b : Addr) (kb : ClassId), v = none ∧ Fr n0 L ∧ Keep h0 h [va] ∧ Exa Z h va "java/lang/String" ∧ Fld Z h va "java/lang/String" "value" "[B" (.ref b) ∧ Fld Z h va "java/lang/String" "coder" "B" (.int (0 : Int32)) ∧ Arv Z h b kb .byte (0 : Int32) [] (.int (0 : Int32))
set_option maxRecDepth 65536 in
set_option maxHeartbeats 40000000 in
theorem rm_i4_0 (l : Launch) (Z : State) (a0 : Array Value) (hw : ∀ d ∈ tables_1, d.before a0 Z = true) (ws : List Jvm.Cond) (va : Addr) (vc : Addr) (vo : Int32) (vq : Int32) (kc : ClassId) (h0 : Heap) (n0 : Nat) (Z0 : n0 ≤ h0.size) (E_a : Exa Z h0 va "java/lang/String") (g_va : n0 ≤ va) (F_v : Fld Z h0 va "java/lang/String" "value" "[B" .null) (F_c : Fld Z h0 va "java/lang/String" "coder" "B" (.int (0 : Int32))) (V_c : Arv Z h0 vc kc .char (0 : Int32) [] (.int (0 : Int32))) (ho : vo = (0 : Int32)) (hq : vq = (0 : Int32)) :
    MetFree l (⟨"java/lang/String", "<init>", "([CIILjava/lang/Void;)V"⟩ : MethodName) (head1 (Jvm.Cond.code (⟨"java/lang/String", "<init>", "([CIILjava/lang/Void;)V"⟩ : MethodName) jdk_42_method_149_code 6 none :: ws) ({ frames := 1, cells := 4, slots := 8, locals := 12 } : Room)) (fun a U => a = #[(.ref va), (.ref vc), (.int vo), (.int vq), .null] ∧ Z.Warmed39 U.vm ∧ U.heap = h0 ∧ CHv Z own_EL U.vm h0) (fun _ _ _ _ _ => True) (fun _ U o U' => ∃ v L, o = .returned v ∧ Q_i4_0 Z va vc vo vq kc h0 n0 v U'.heap L ∧ CHr Z own_EL U.vm U.heap U'.vm U'.heap ∧ ReturnedEndW U o U' L ({ frames := 1, cells := 4, slots := 8, locals := 12 } : Room).cells ({ frames := 1, cells := 4, slots := 8, locals := 12 } : Room).slots) := by
  subst ho
  subst hq
  refine MetFree.of_bodySF (plainFor_of_name pn_rm_i4_0) hisR ?_
  intro p e s m args below meth c s₁ Bd hml0 hP hK
  obtain ⟨rfl, hZ, hh, CH0⟩ := hP
  have CC0 := CHr.refl CH0
  have hx := Bd.exec
  have hby := Bd.bytes
  have hml : c.maxLocals = 6 := hml0
  have hown : s.vm.findClass "java/lang/String" = some m.cls := findClass_of_methodNamed Bd.named
  have hZo := hZ
  have howno := hown
  have hnm := (name_of_methodNamed Bd.named Bd.method).1
  have X0 : Stand p l e ({ frames := 1, cells := 4, slots := 8, locals := 12 } : Room) s m #[(.ref va), (.ref vc), (.int (0 : Int32)), (.int (0 : Int32)), .null] below meth c s₁ [] 0 0 := Stand.of_body Bd
  have e0 : s₁.heap = h0 := by rw [← hh, Bd.state]; rfl
  have N0 := Fr.nil n0
  have pre0 : ∀ t, Steps p.tables e below (s₁.setTop (mkF m 0 #[.val (.ref va), .val (.ref vc), .val (.int (0 : Int32)), .val (.int (0 : Int32)), .val .null, .unset] [])) t → Steps p.tables e below (s₁.setTop (entryFrame m #[(.ref va), (.ref vc), (.int (0 : Int32)), (.int (0 : Int32)), .null] 6)) t := fun t k => castTop (ef_rm_i4_0 m va vc (0 : Int32) (0 : Int32)) k
  obtain ⟨T1, X1, e1, st1⟩ := initO X0 hx hZ hown (hw _ (List.mem_of_getElem? (i := 22) rfl)) (hw _ (List.mem_of_getElem? (i := 23) rfl)) (hw _ (List.mem_of_getElem? (i := 24) rfl)) e0 (g := (mkF m 1 #[.val (.ref va), .val (.ref vc), .val (.int (0 : Int32)), .val (.int (0 : Int32)), .val .null, .unset] [(.ref va)])) rfl (by rw [hml]; rfl) rfl (hb hby d4_1) (by decide) (W := 0) (by show 2 * 0 + _ ≤ _; exact Nat.le_of_eq rfl) (by decide)
  have SF2 : Safe Z own_EL s.vm h0 va := (own_safe hZ.alike E_a F_v)
  obtain ⟨a3, T3, h3, k3, vb3, kc3, X3, e3, E3, hS3, hk3, hZ3, hown3, Ex3, Fc3, Fv3, V3, -, -, hC3, -, hne3, st3⟩ := ldcCH (s := s) (vm0 := s.vm) X1 hx hZ hown (hw _ (List.mem_of_getElem? (i := 41) rfl)) (own_atoms hw) e1 ((State.WarmedH.refl s).since 0) (Nat.zero_le _) (own_ew hw) (List.mem_of_getElem? (i := 0) rfl) CC0.1 (vs := []) (z := (0 : Int32)) ⟨by decide, by decide +kernel⟩ (by decide) (by decide) (g := (mkF m 9 #[.val (.ref va), .val (.ref vc), .val (.int (0 : Int32)), .val (.int (0 : Int32)), .val .null, .unset] [(.ref va)])) rfl (hb hby d4_9) (n := 0) (by decide) (by decide) (by decide) (by decide)
  have SF4_va := hC3.safe (E_a).lt SF2
  have CC4 := CC0.trans hC3
  have Zp5 : n0 ≤ h3.size := Nat.le_trans Z0 E3.1
  obtain ⟨T6, X6, e6, st6⟩ := getF X3 hx hZ3 hown3 (host := "") (Or.inl (hw _ (List.mem_of_getElem? (i := 39) rfl))) Via.refl e3 Fv3 (g := (mkF m 11 #[.val (.ref va), .val (.ref vc), .val (.int (0 : Int32)), .val (.int (0 : Int32)), .val .null, .unset] [(.ref a3), (.ref va)])) rfl rfl (hb hby d4_11)
  have Fc7 := (Fld.ext E3 F_v)
  have Fc8 := (Exa.ext E3 E_a)
  obtain ⟨T9, h9, X9, e9, W9, st9⟩ := putF X6 hx hZ3 hown3 (host := "") (Or.inl (hw _ (List.mem_of_getElem? (i := 39) rfl))) Via.refl e6 Fc7 Fc8 (Or.inr ⟨(hw _ (List.mem_of_getElem? (i := 40) rfl)), rfl, hnm⟩) (hw _ (List.mem_of_getElem? (i := 12) rfl)) (ty := (.array .byte)) (by decide) rfl rfl (g := (mkF m 14 #[.val (.ref va), .val (.ref vc), .val (.int (0 : Int32)), .val (.int (0 : Int32)), .val .null, .unset] [(.ref vb3), (.ref va)])) rfl rfl (hb hby d4_14)
  have N9 := Fr.snoc X9 N0 g_va
  have Fw9 := Fld.same W9 Fc7
  have SF10_va := Safe.wr W9 SF4_va CC4.1 SF4_va
  have CC10 := CC4.trans (CHr.wr W9 SF4_va CC4.1)
  have Zp11 : n0 ≤ h9.size := Nat.le_trans Zp5 (Nat.le_of_eq (Wr.size W9).symm)
  have hSk11 := Nat.le_trans hk3 (Nat.le_of_eq (Wr.size W9).symm)
  obtain ⟨a12, T12, h12, k12, vb12, kc12, X12, e12, E12, hS12, hk12, hZ12, hown12, Ex12, Fc12, Fv12, V12, -, -, hC12, -, hne12, st12⟩ := ldcCH (s := s) (vm0 := T3.vm) X9 hx hZ3 hown3 (hw _ (List.mem_of_getElem? (i := 41) rfl)) (own_atoms hw) e9 hS3 hSk11 (own_ew hw) (List.mem_of_getElem? (i := 0) rfl) CC10.1 (vs := []) (z := (0 : Int32)) ⟨by decide, by decide +kernel⟩ (by decide) (by decide) (g := (mkF m 18 #[.val (.ref va), .val (.ref vc), .val (.int (0 : Int32)), .val (.int (0 : Int32)), .val .null, .unset] [(.ref va)])) rfl (hb hby d4_18) (n := 0) (by decide) (by decide) (by decide) (by decide)
  have Fc14 := (Exa.wr W9 Fc8)
  have SF13_va := hC12.safe (Fc14).lt SF10_va
  have CC13 := CC10.trans hC12
  have Zp15 : n0 ≤ h12.size := Nat.le_trans Zp11 E12.1
  obtain ⟨T16, X16, e16, st16⟩ := getF X12 hx hZ12 hown12 (host := "") (Or.inl (hw _ (List.mem_of_getElem? (i := 37) rfl))) Via.refl e12 Fc12 (g := (mkF m 20 #[.val (.ref va), .val (.ref vc), .val (.int (0 : Int32)), .val (.int (0 : Int32)), .val .null, .unset] [(.ref a12), (.ref va)])) rfl rfl (hb hby d4_20)
  have Fc17 := (Fld.ext E12 (Fld.other W9 (Fld.ext E3 F_c) (Or.inr (slot_ne (Or.inr (hw _ (List.mem_of_getElem? (i := 38) rfl))) (Or.inr (hw _ (List.mem_of_getElem? (i := 40) rfl))) (by decide) (t := .byte) (t' := (.array .byte)) (by decide) (by decide)))))
  have Fc18 := (Exa.ext E12 Fc14)
  obtain ⟨T19, h19, X19, e19, W19, st19⟩ := putFN X16 hx hZ12 hown12 (hw _ (List.mem_of_getElem? (i := 37) rfl)) Via.refl e16 Fc17 Fc18 (Or.inr ⟨(hw _ (List.mem_of_getElem? (i := 38) rfl)), rfl, hnm⟩) (hw _ (List.mem_of_getElem? (i := 12) rfl)) (ty := .byte) (v' := (.int (0 : Int32))) (by decide) rfl rfl (g := (mkF m 23 #[.val (.ref va), .val (.ref vc), .val (.int (0 : Int32)), .val (.int (0 : Int32)), .val .null, .unset] [(.int (0 : Int32)), (.ref va)])) rfl rfl (hb hby d4_23)
  have N19 := Fr.snoc X19 N9 g_va
  have Fw19 := Fld.same W19 Fc17
  have SF20_va := Safe.wr W19 SF13_va CC13.1 SF13_va
  have CC20 := CC13.trans (CHr.wr W19 SF13_va CC13.1)
  have Zp21 : n0 ≤ h19.size := Nat.le_trans Zp15 (Nat.le_of_eq (Wr.size W19).symm)
  have hSk21 := Nat.le_trans hk12 (Nat.le_of_eq (Wr.size W19).symm)
  obtain ⟨fs, hr, hrun, hended, hREW⟩ := X19.leaveW (s := s) (vm₁ := T12.vm) hS12 (by rw [e19]; exact hSk21) (v := none) (fun _ => rfl)
  refine ⟨_, _, pre0 _ ?_, hrun, hended, _, _, rfl, ?_, ?_, hREW.1, hREW.2.1, hREW.2.2.1, hREW.2.2.2.mono (by decide) (by decide)⟩
  · show Steps p.tables e below (s₁.setTop (mkF m 0 #[.val (.ref va), .val (.ref vc), .val (.int (0 : Int32)), .val (.int (0 : Int32)), .val .null, .unset] [])) _
    refine XS.aloadN X0.here hx rfl (hb hby d4_0) rfl rfl ?_
    show Steps p.tables e below (s₁.setTop (mkF m 1 #[.val (.ref va), .val (.ref vc), .val (.int (0 : Int32)), .val (.int (0 : Int32)), .val .null, .unset] [(.ref va)])) _
    refine st1 _ ?_
    show Steps p.tables e below (T1.setTop (mkF m 4 #[.val (.ref va), .val (.ref vc), .val (.int (0 : Int32)), .val (.int (0 : Int32)), .val .null, .unset] [])) _
    refine XS.iloadN X1.here hx rfl (hb hby d4_4) rfl ?_
    show Steps p.tables e below (T1.setTop (mkF m 5 #[.val (.ref va), .val (.ref vc), .val (.int (0 : Int32)), .val (.int (0 : Int32)), .val .null, .unset] [(.int (0 : Int32))])) _
    refine XS.ifNo X1.here hx rfl (hb hby d4_5) rfl (by decide) ?_
    show Steps p.tables e below (T1.setTop (mkF m 8 #[.val (.ref va), .val (.ref vc), .val (.int (0 : Int32)), .val (.int (0 : Int32)), .val .null, .unset] [])) _
    refine XS.aloadN X1.here hx rfl (hb hby d4_8) rfl rfl ?_
    show Steps p.tables e below (T1.setTop (mkF m 9 #[.val (.ref va), .val (.ref vc), .val (.int (0 : Int32)), .val (.int (0 : Int32)), .val .null, .unset] [(.ref va)])) _
    refine st3 _ ?_
    show Steps p.tables e below (T3.setTop (mkF m 11 #[.val (.ref va), .val (.ref vc), .val (.int (0 : Int32)), .val (.int (0 : Int32)), .val .null, .unset] [(.ref a3), (.ref va)])) _
    refine st6 _ ?_
    show Steps p.tables e below (T6.setTop (mkF m 14 #[.val (.ref va), .val (.ref vc), .val (.int (0 : Int32)), .val (.int (0 : Int32)), .val .null, .unset] [(.ref vb3), (.ref va)])) _
    refine st9 _ ?_
    show Steps p.tables e below (T9.setTop (mkF m 17 #[.val (.ref va), .val (.ref vc), .val (.int (0 : Int32)), .val (.int (0 : Int32)), .val .null, .unset] [])) _
    refine XS.aloadN X9.here hx rfl (hb hby d4_17) rfl rfl ?_
    show Steps p.tables e below (T9.setTop (mkF m 18 #[.val (.ref va), .val (.ref vc), .val (.int (0 : Int32)), .val (.int (0 : Int32)), .val .null, .unset] [(.ref va)])) _
    refine st12 _ ?_
    show Steps p.tables e below (T12.setTop (mkF m 20 #[.val (.ref va), .val (.ref vc), .val (.int (0 : Int32)), .val (.int (0 : Int32)), .val .null, .unset] [(.ref a12), (.ref va)])) _
    refine st16 _ ?_
    show Steps p.tables e below (T16.setTop (mkF m 23 #[.val (.ref va), .val (.ref vc), .val (.int (0 : Int32)), .val (.int (0 : Int32)), .val .null, .unset] [(.int (0 : Int32)), (.ref va)])) _
    refine st19 _ ?_
    show Steps p.tables e below (T19.setTop (mkF m 26 #[.val (.ref va), .val (.ref vc), .val (.int (0 : Int32)), .val (.int (0 : Int32)), .val .null, .unset] [])) _
    exact X19.returnOut hx Bd.returns (hb hby d4_26) hr
  · show Q_i4_0 Z va vc (0 : Int32) (0 : Int32) kc h0 n0 _ T19.heap _
    rw [e19]
    have Kc22 := (Keep.refl h0 [va]).ext E3
    have Kc23 := Kc22.wr W9 (Or.inl (List.mem_of_getElem? (i := 0) rfl))
    have Kc24 := Kc23.ext E12
    have Kc25 := Kc24.wr W19 (Or.inl (List.mem_of_getElem? (i := 0) rfl))
    have Fc26 := (Exa.wr W19 Fc18)
    have Fc27 := (Fld.other W19 (Fld.ext E12 Fw9) (Or.inr (slot_ne (Or.inr (hw _ (List.mem_of_getElem? (i := 40) rfl))) (Or.inr (hw _ (List.mem_of_getElem? (i := 38) rfl))) (by decide) (t := (.array .byte)) (t' := .byte) (by decide) (by decide))))
    have Fc28 := (((V3.other W9 (Ne.symm (hne3 va SF4_va).2)).ext E12).other W19 (Ne.symm (hne3 va SF4_va).2))
    exact ⟨vb3, kc3, rfl, N19, Kc25, Fc26, Fc27, Fw19, Fc28⟩
  · show CHr Z own_EL s.vm s.heap T19.vm T19.heap
    rw [hh, e19]
    exact CC20.trans (CHv.at (s := s) (vm0 := T12.vm) X19 hZ12 (own_ew hw) CC20.1)
theorem d3_0 : decode jdk_42_method_3_code 0 = .ok (.aload_n 0, 1) := by decide +kernel
theorem d3_1 : decode jdk_42_method_3_code 1 = .ok (.aload_n 1, 1) := by decide +kernel
theorem d3_2 : decode jdk_42_method_3_code 2 = .ok (.iconst 0, 1) := by decide +kernel
theorem d3_3 : decode jdk_42_method_3_code 3 = .ok (.aload_n 1, 1) := by decide +kernel
theorem d3_4 : decode jdk_42_method_3_code 4 = .ok (.arraylength, 1) := by decide +kernel
theorem d3_5 : decode jdk_42_method_3_code 5 = .ok (.aconst_null, 1) := by decide +kernel
theorem d3_6 : decode jdk_42_method_3_code 6 = .ok (.invokespecial 27, 3) := by decide +kernel
theorem d3_9 : decode jdk_42_method_3_code 9 = .ok (.return_, 1) := by decide +kernel
theorem pn_rm_i1_0 : plainName "java/lang/String" = true := by first | (simp [plainName, overriddenIn]; done) | decide +kernel
theorem ef_rm_i1_0 (m : MethodId) (va : Addr) (vc : Addr) : entryFrame m #[(.ref va), (.ref vc)] 2 = mkF m 0 #[.val (.ref va), .val (.ref vc)] [] := by first | (simp [entryFrame, mkF, argsToLocals, Value.category]; done) | rfl
def Q_i1_0 (Z : State) (va : Addr) (vc : Addr) (kc : ClassId) (h0 : Heap) (n0 : Nat) (v : Option Value) (h : Heap) (L : List Loc) : Prop := ∃ (b : Addr) (kb : ClassId), v = none ∧ Fr n0 L ∧ Keep h0 h [va] ∧ Exa Z h va "java/lang/String" ∧ Fld Z h va "java/lang/String" "value" "[B" (.ref b) ∧ Fld Z h va "java/lang/String" "coder" "B" (.int (0 : Int32)) ∧ Arv Z h b kb .byte (0 : Int32) [] (.int (0 : Int32))
set_option maxRecDepth 65536 in
set_option maxHeartbeats 40000000 in
theorem rm_i1_0 (l : Launch) (Z : State) (a0 : Array Value) (hw : ∀ d ∈ tables_1, d.before a0 Z = true) (ws : List Jvm.Cond) (va : Addr) (vc : Addr) (kc : ClassId) (h0 : Heap) (n0 : Nat) (Z0 : n0 ≤ h0.size) (E_a : Exa Z h0 va "java/lang/String") (g_va : n0 ≤ va) (F_v : Fld Z h0 va "java/lang/String" "value" "[B" .null) (F_c : Fld Z h0 va "java/lang/String" "coder" "B" (.int (0 : Int32))) (V_c : Arv Z h0 vc kc .char (0 : Int32) [] (.int (0 : Int32))) :
    MetFree l (⟨"java/lang/String", "<init>", "([C)V"⟩ : MethodName) (head1 (Jvm.Cond.code (⟨"java/lang/String", "<init>", "([C)V"⟩ : MethodName) jdk_42_method_3_code 2 none :: ws) ({ frames := 2, cells := 4, slots := 8, locals := 29 } : Room)) (fun a U => a = #[(.ref va), (.ref vc)] ∧ Z.Warmed39 U.vm ∧ U.heap = h0 ∧ CHv Z own_EL U.vm h0) (fun _ _ _ _ _ => True) (fun _ U o U' => ∃ v L, o = .returned v ∧ Q_i1_0 Z va vc kc h0 n0 v U'.heap L ∧ CHr Z own_EL U.vm U.heap U'.vm U'.heap ∧ ReturnedEndW U o U' L ({ frames := 2, cells := 4, slots := 8, locals := 29 } : Room).cells ({ frames := 2, cells := 4, slots := 8, locals := 29 } : Room).slots) := by
  refine MetFree.of_bodySF (plainFor_of_name pn_rm_i1_0) hisR ?_
  intro p e s m args below meth c s₁ Bd hml0 hP hK
  obtain ⟨rfl, hZ, hh, CH0⟩ := hP
  have CC0 := CHr.refl CH0
  have hx := Bd.exec
  have hby := Bd.bytes
  have hml : c.maxLocals = 2 := hml0
  have hown : s.vm.findClass "java/lang/String" = some m.cls := findClass_of_methodNamed Bd.named
  have hZo := hZ
  have howno := hown
  have hnm := (name_of_methodNamed Bd.named Bd.method).1
  have X0 : Stand p l e ({ frames := 2, cells := 4, slots := 8, locals := 29 } : Room) s m #[(.ref va), (.ref vc)] below meth c s₁ [] 0 0 := Stand.of_body Bd
  have e0 : s₁.heap = h0 := by rw [← hh, Bd.state]; rfl
  have N0 := Fr.nil n0
  have pre0 : ∀ t, Steps p.tables e below (s₁.setTop (mkF m 0 #[.val (.ref va), .val (.ref vc)] [])) t → Steps p.tables e below (s₁.setTop (entryFrame m #[(.ref va), (.ref vc)] 2)) t := fun t k => castTop (ef_rm_i1_0 m va vc) k
  obtain ⟨cl1, Ar1, -, S1, M1, -, -⟩ := id V_c
  obtain ⟨_, _, ⟨T2, L2, k2, n2⟩, -, Xs2, hSs2, hgs2, ⟨Lc2, hQ2, l2, y2, z2, hC2⟩, st2⟩ := X0.specialBackS hx (y := (⟨"java/lang/String", "<init>", "([CIILjava/lang/Void;)V"⟩ : MethodName)) rfl hown (mvT hZ (hw _ (List.mem_of_getElem? (i := 18) rfl))) (mvT hZ (hw _ (List.mem_of_getElem? (i := 19) rfl))) (mvT hZ (hw _ (List.mem_of_getElem? (i := 21) rfl))) (by decide) (backOfSH (W := 0) (rm_i4_0 l Z a0 hw [] va vc (0 : Int32) (0 : Int32) kc h0 n0 Z0 E_a g_va F_v F_c V_c rfl rfl) hZ (hw _ (List.mem_of_getElem? (i := 21) rfl)) (hw _ (List.mem_of_getElem? (i := 13) rfl)) (by decide) (by decide) (own_ew hw) CC0.1) (g := (mkF m 6 #[.val (.ref va), .val (.ref vc)] [.null, (.int (0 : Int32)), (.int (0 : Int32)), (.ref vc), (.ref va)])) rfl (by rw [hml]; rfl) (Steps.refl _) (a := va) (argsL := [(.ref vc), (.int (0 : Int32)), (.int (0 : Int32)), .null]) (rest := []) (lenOf own_pd0 rfl) rfl (by show 2 * 0 + _ ≤ _; exact Nat.le_of_eq rfl) (hb hby d3_6) (fun _ _ => ⟨rfl, e0, (by decide : 0 + 4 ≤ _), (by decide : 0 + 8 ≤ _)⟩)
  obtain ⟨X2, hS2, hZ2, hown2⟩ := rebS (s := s) (vm0 := s.vm) ((State.WarmedH.refl s).since 0) (Nat.zero_le _) Xs2 hSs2 hgs2 hZ hown
  dsimp only [Pt.U, Pt.locs, Pt.cells, Pt.slots] at X2 l2 y2 z2 st2 hQ2 hC2
  subst l2 y2 z2
  obtain ⟨b2, kb2, rfl, Nq2, K2, Ex2, Fv2, Fc2, V2⟩ := hQ2
  have Nf2 := Fr.app N0 Nq2
  have CC3 := CC0.trans hC2
  have Zp4 : n0 ≤ T2.heap.size := Nat.le_trans Z0 K2.1
  obtain ⟨fs, hr, hrun, hended, hREW⟩ := X2.leaveW (s := s) (vm₁ := T2.vm) hS2 ((Nat.le_refl _)) (v := none) (fun _ => rfl)
  refine ⟨_, _, pre0 _ ?_, hrun, hended, _, _, rfl, ?_, ?_, hREW.1, hREW.2.1, hREW.2.2.1, hREW.2.2.2.mono (by decide) (by decide)⟩
  · show Steps p.tables e below (s₁.setTop (mkF m 0 #[.val (.ref va), .val (.ref vc)] [])) _
    refine XS.aloadN X0.here hx rfl (hb hby d3_0) rfl rfl ?_
    show Steps p.tables e below (s₁.setTop (mkF m 1 #[.val (.ref va), .val (.ref vc)] [(.ref va)])) _
    refine XS.aloadN X0.here hx rfl (hb hby d3_1) rfl rfl ?_
    show Steps p.tables e below (s₁.setTop (mkF m 2 #[.val (.ref va), .val (.ref vc)] [(.ref vc), (.ref va)])) _
    refine XS.iconst X0.here hx rfl (hb hby d3_2) ?_
    show Steps p.tables e below (s₁.setTop (mkF m 3 #[.val (.ref va), .val (.ref vc)] [(.int (0 : Int32)), (.ref vc), (.ref va)])) _
    refine XS.aloadN X0.here hx rfl (hb hby d3_3) rfl rfl ?_
    show Steps p.tables e below (s₁.setTop (mkF m 4 #[.val (.ref va), .val (.ref vc)] [(.ref vc), (.int (0 : Int32)), (.ref vc), (.ref va)])) _
    refine X0.arraylength hx (by rw [e0]; exact Ar1.1) (State.isArrayOf_alike hZo.alike Ar1.2.1) (g := (mkF m 4 #[.val (.ref va), .val (.ref vc)] [(.ref vc), (.int (0 : Int32)), (.ref vc), (.ref va)])) rfl rfl (hb hby d3_4) _ ?_
    rw [len_of S1 M1]
    show Steps p.tables e below (s₁.setTop (mkF m 5 #[.val (.ref va), .val (.ref vc)] [(.int (0 : Int32)), (.int (0 : Int32)), (.ref vc), (.ref va)])) _
    refine XS.aconstNull X0.here hx rfl (hb hby d3_5) ?_
    show Steps p.tables e below (s₁.setTop (mkF m 6 #[.val (.ref va), .val (.ref vc)] [.null, (.int (0 : Int32)), (.int (0 : Int32)), (.ref vc), (.ref va)])) _
    refine st2.trans ?_
    show Steps p.tables e below (T2.setTop (mkF m 9 #[.val (.ref va), .val (.ref vc)] [])) _
    exact X2.returnOut hx Bd.returns (hb hby d3_9) hr
  · show Q_i1_0 Z va vc kc h0 n0 _ T2.heap _
    have Kc5 := (Keep.refl h0 [va]).trans K2 (allS (Or.inl (List.mem_of_getElem? (i := 0) rfl)) all0)
    exact ⟨b2, kb2, rfl, Nf2, Kc5, Ex2, Fv2, Fc2, V2⟩
  · show CHr Z own_EL s.vm s.heap T2.vm T2.heap
    rw [hh]
    exact CC3.trans (CHv.at (s := s) (vm0 := T2.vm) X2 hZ2 (own_ew hw) CC3.1)
theorem d7_0 : decode jdk_52_method_21_code 0 = .ok (.iconst 0, 1) := by decide +kernel
theorem d7_1 : decode jdk_52_method_21_code 1 = .ok (.istore 5, 2) := by decide +kernel
theorem d7_3 : decode jdk_52_method_21_code 3 = .ok (.iload 5, 2) := by decide +kernel
theorem d7_5 : decode jdk_52_method_21_code 5 = .ok (.iload 4, 2) := by decide +kernel
theorem d7_7 : decode jdk_52_method_21_code 7 = .ok (.if_icmp .ge 37, 3) := by decide +kernel
theorem d7_10 : decode jdk_52_method_21_code 10 = .ok (.aload_n 0, 1) := by decide +kernel
theorem d7_11 : decode jdk_52_method_21_code 11 = .ok (.iload_n 1, 1) := by decide +kernel
theorem d7_12 : decode jdk_52_method_21_code 12 = .ok (.caload, 1) := by decide +kernel
theorem d7_13 : decode jdk_52_method_21_code 13 = .ok (.istore 6, 2) := by decide +kernel
theorem d7_15 : decode jdk_52_method_21_code 15 = .ok (.iload 6, 2) := by decide +kernel
theorem d7_17 : decode jdk_52_method_21_code 17 = .ok (.sipush 255, 3) := by decide +kernel
theorem d7_20 : decode jdk_52_method_21_code 20 = .ok (.if_icmp .le 6, 3) := by decide +kernel
theorem d7_23 : decode jdk_52_method_21_code 23 = .ok (.iload 5, 2) := by decide +kernel
theorem d7_25 : decode jdk_52_method_21_code 25 = .ok (.ireturn, 1) := by decide +kernel
theorem d7_26 : decode jdk_52_method_21_code 26 = .ok (.aload_n 2, 1) := by decide +kernel
theorem d7_27 : decode jdk_52_method_21_code 27 = .ok (.iload_n 3, 1) := by decide +kernel
theorem d7_28 : decode jdk_52_method_21_code 28 = .ok (.iload 6, 2) := by decide +kernel
theorem d7_30 : decode jdk_52_method_21_code 30 = .ok (.i2b, 1) := by decide +kernel
theorem d7_31 : decode jdk_52_method_21_code 31 = .ok (.bastore, 1) := by decide +kernel
theorem d7_32 : decode jdk_52_method_21_code 32 = .ok (.iinc 1 1, 3) := by decide +kernel
theorem d7_35 : decode jdk_52_method_21_code 35 = .ok (.iinc 3 1, 3) := by decide +kernel
theorem d7_38 : decode jdk_52_method_21_code 38 = .ok (.iinc 5 1, 3) := by decide +kernel
theorem d7_41 : decode jdk_52_method_21_code 41 = .ok (.goto (-38), 3) := by decide +kernel
theorem d7_44 : decode jdk_52_method_21_code 44 = .ok (.iload 4, 2) := by decide +kernel
theorem d7_46 : decode jdk_52_method_21_code 46 = .ok (.ireturn, 1) := by decide +kernel
theorem pn_rm_c5_1 : plainName "java/lang/StringUTF16" = true := by first | (simp [plainName, overriddenIn]; done) | decide +kernel
theorem ef_rm_c5_1 (m : MethodId) (vc : Addr) (vo : Int32) (vb : Addr) (vp : Int32) (vq : Int32) : entryFrame m #[(.ref vc), (.int vo), (.ref vb), (.int vp), (.int vq)] 7 = mkF m 0 #[.val (.ref vc), .val (.int vo), .val (.ref vb), .val (.int vp), .val (.int vq), .unset, .unset] [] := by first | (simp [entryFrame, mkF, argsToLocals, Value.category]; done) | rfl
def Q_c5_1 (Z : State) (vc : Addr) (vo : Int32) (vb : Addr) (vp : Int32) (vq : Int32) (kc : ClassId) (kb : ClassId) (x0 : Int32) (h0 : Heap) (n0 : Nat) (v : Option Value) (h : Heap) (L : List Loc) : Prop := v = some (.int (1 : Int32)) ∧ Fr n0 L ∧ Keep h0 h [vb] ∧ Arv Z h vb kb .byte (1 : Int32) [(.int (nar .byte (x0.toInt8.toInt32)))] (.int (0 : Int32))
set_option maxRecDepth 65536 in
set_option maxHeartbeats 40000000 in
theorem rm_c5_1 (l : Launch) (Z : State) (a0 : Array Value) (hw : ∀ d ∈ tables_1, d.before a0 Z = true) (ws : List Jvm.Cond) (vc : Addr) (vo : Int32) (vb : Addr) (vp : Int32) (vq : Int32) (kc : ClassId) (kb : ClassId) (x0 : Int32) (h0 : Heap) (n0 : Nat) (Z0 : n0 ≤ h0.size) (V_c : Arv Z h0 vc kc .char (1 : Int32) [(.int x0)] (.int (0 : Int32))) (V_b : Arv Z h0 vb kb .byte (1 : Int32) [(.int (0 : Int32))] (.int (0 : Int32))) (g_vb : n0 ≤ vb) (ncb : vc ≠ vb) (ho : vo = (0 : Int32)) (hp : vp = (0 : Int32)) (hq : vq = (1 : Int32)) (hx0 : ¬ (255 : Int32) < x0) :
    MetFree l (⟨"java/lang/StringUTF16", "compress", "([CI[BII)I"⟩ : MethodName) (head1 (Jvm.Cond.code (⟨"java/lang/StringUTF16", "compress", "([CI[BII)I"⟩ : MethodName) jdk_52_method_21_code 7 (some .int) :: ws) ({ frames := 0, cells := 0, slots := 0, locals := 0 } : Room)) (fun a U => a = #[(.ref vc), (.int vo), (.ref vb), (.int vp), (.int vq)] ∧ Z.Warmed39 U.vm ∧ U.heap = h0) (fun _ _ _ _ _ => True) (fun _ U o U' => ∃ v L, o = .returned v ∧ Q_c5_1 Z vc vo vb vp vq kc kb x0 h0 n0 v U'.heap L ∧ FrameEnd U o U' L ({ frames := 0, cells := 0, slots := 0, locals := 0 } : Room).cells ({ frames := 0, cells := 0, slots := 0, locals := 0 } : Room).slots) := by
  subst ho
  subst hp
  subst hq
  refine MetFree.of_bodySF (plainFor_of_name pn_rm_c5_1) hisR ?_
  intro p e s m args below meth c s₁ Bd hml0 hP hK
  obtain ⟨rfl, hZ, hh⟩ := hP
  have hx := Bd.exec
  have hby := Bd.bytes
  have hml : c.maxLocals = 7 := hml0
  have hown : s.vm.findClass "java/lang/StringUTF16" = some m.cls := findClass_of_methodNamed Bd.named
  have hnm := (name_of_methodNamed Bd.named Bd.method).1
  have X0 : Stand p l e ({ frames := 0, cells := 0, slots := 0, locals := 0 } : Room) s m #[(.ref vc), (.int (0 : Int32)), (.ref vb), (.int (0 : Int32)), (.int (1 : Int32))] below meth c s₁ [] 0 0 := Stand.of_body Bd
  have e0 : s₁.heap = h0 := by rw [← hh, Bd.state]; rfl
  have N0 := Fr.nil n0
  have pre0 : ∀ t, Steps p.tables e below (s₁.setTop (mkF m 0 #[.val (.ref vc), .val (.int (0 : Int32)), .val (.ref vb), .val (.int (0 : Int32)), .val (.int (1 : Int32)), .unset, .unset] [])) t → Steps p.tables e below (s₁.setTop (entryFrame m #[(.ref vc), (.int (0 : Int32)), (.ref vb), (.int (0 : Int32)), (.int (1 : Int32))] 7)) t := fun t k => castTop (ef_rm_c5_1 m vc (0 : Int32) vb (0 : Int32) (1 : Int32)) k
  obtain ⟨cl1, Ar1, q1, S1, M1, H1, G1⟩ := id V_c
  have hin1 : ¬ ((0 : Int32) < 0 ∨ cl1.slots.size ≤ ((0 : Int32)).toNatClampNeg) := inb_of S1 ⟨by decide, by decide⟩
  have hat1 : cl1.slots[((0 : Int32)).toNatClampNeg]? = some (.int x0) := H1.at hin1 rfl
  have pre2 : ∀ t, Steps p.tables e below (s₁.setTop (mkF m 20 #[.val (.ref vc), .val (.int (0 : Int32)), .val (.ref vb), .val (.int (0 : Int32)), .val (.int (1 : Int32)), .val (.int (0 : Int32)), .val (.int x0)] [(.int (255 : Int32)), (.int x0)])) t → Steps p.tables e below (s₁.setTop (entryFrame m #[(.ref vc), (.int (0 : Int32)), (.ref vb), (.int (0 : Int32)), (.int (1 : Int32))] 7)) t := by
    intro t k
    refine pre0 t ?_
    show Steps p.tables e below (s₁.setTop (mkF m 0 #[.val (.ref vc), .val (.int (0 : Int32)), .val (.ref vb), .val (.int (0 : Int32)), .val (.int (1 : Int32)), .unset, .unset] [])) _
    refine XS.iconst X0.here hx rfl (hb hby d7_0) ?_
    show Steps p.tables e below (s₁.setTop (mkF m 1 #[.val (.ref vc), .val (.int (0 : Int32)), .val (.ref vb), .val (.int (0 : Int32)), .val (.int (1 : Int32)), .unset, .unset] [(.int (0 : Int32))])) _
    refine XS.istore X0.here hx rfl (hb hby d7_1) rfl (l' := #[.val (.ref vc), .val (.int (0 : Int32)), .val (.ref vb), .val (.int (0 : Int32)), .val (.int (1 : Int32)), .val (.int (0 : Int32)), .unset]) rfl ?_
    show Steps p.tables e below (s₁.setTop (mkF m 3 #[.val (.ref vc), .val (.int (0 : Int32)), .val (.ref vb), .val (.int (0 : Int32)), .val (.int (1 : Int32)), .val (.int (0 : Int32)), .unset] [])) _
    refine XS.iload X0.here hx rfl (hb hby d7_3) rfl ?_
    show Steps p.tables e below (s₁.setTop (mkF m 5 #[.val (.ref vc), .val (.int (0 : Int32)), .val (.ref vb), .val (.int (0 : Int32)), .val (.int (1 : Int32)), .val (.int (0 : Int32)), .unset] [(.int (0 : Int32))])) _
    refine XS.iload X0.here hx rfl (hb hby d7_5) rfl ?_
    show Steps p.tables e below (s₁.setTop (mkF m 7 #[.val (.ref vc), .val (.int (0 : Int32)), .val (.ref vb), .val (.int (0 : Int32)), .val (.int (1 : Int32)), .val (.int (0 : Int32)), .unset] [(.int (1 : Int32)), (.int (0 : Int32))])) _
    refine XS.icmpNo X0.here hx rfl (hb hby d7_7) rfl (by decide) ?_
    show Steps p.tables e below (s₁.setTop (mkF m 10 #[.val (.ref vc), .val (.int (0 : Int32)), .val (.ref vb), .val (.int (0 : Int32)), .val (.int (1 : Int32)), .val (.int (0 : Int32)), .unset] [])) _
    refine XS.aloadN X0.here hx rfl (hb hby d7_10) rfl rfl ?_
    show Steps p.tables e below (s₁.setTop (mkF m 11 #[.val (.ref vc), .val (.int (0 : Int32)), .val (.ref vb), .val (.int (0 : Int32)), .val (.int (1 : Int32)), .val (.int (0 : Int32)), .unset] [(.ref vc)])) _
    refine XS.iloadN X0.here hx rfl (hb hby d7_11) rfl ?_
    show Steps p.tables e below (s₁.setTop (mkF m 12 #[.val (.ref vc), .val (.int (0 : Int32)), .val (.ref vb), .val (.int (0 : Int32)), .val (.int (1 : Int32)), .val (.int (0 : Int32)), .unset] [(.int (0 : Int32)), (.ref vc)])) _
    refine X0.caload hx (j := (0 : Int32)) (v := (.int x0)) (by rw [e0]; exact Ar1.1) (State.isArrayOf_alike hZ.alike Ar1.2.1) Ar1.2.2 hin1 hat1 (g := (mkF m 12 #[.val (.ref vc), .val (.int (0 : Int32)), .val (.ref vb), .val (.int (0 : Int32)), .val (.int (1 : Int32)), .val (.int (0 : Int32)), .unset] [(.int (0 : Int32)), (.ref vc)])) rfl rfl (hb hby d7_12) _ ?_
    show Steps p.tables e below (s₁.setTop (mkF m 13 #[.val (.ref vc), .val (.int (0 : Int32)), .val (.ref vb), .val (.int (0 : Int32)), .val (.int (1 : Int32)), .val (.int (0 : Int32)), .unset] [(.int x0)])) _
    refine XS.istore X0.here hx rfl (hb hby d7_13) rfl (l' := #[.val (.ref vc), .val (.int (0 : Int32)), .val (.ref vb), .val (.int (0 : Int32)), .val (.int (1 : Int32)), .val (.int (0 : Int32)), .val (.int x0)]) rfl ?_
    show Steps p.tables e below (s₁.setTop (mkF m 15 #[.val (.ref vc), .val (.int (0 : Int32)), .val (.ref vb), .val (.int (0 : Int32)), .val (.int (1 : Int32)), .val (.int (0 : Int32)), .val (.int x0)] [])) _
    refine XS.iload X0.here hx rfl (hb hby d7_15) rfl ?_
    show Steps p.tables e below (s₁.setTop (mkF m 17 #[.val (.ref vc), .val (.int (0 : Int32)), .val (.ref vb), .val (.int (0 : Int32)), .val (.int (1 : Int32)), .val (.int (0 : Int32)), .val (.int x0)] [(.int x0)])) _
    refine XS.sipush X0.here hx rfl (hb hby d7_17) ?_
    show Steps p.tables e below (s₁.setTop (mkF m 20 #[.val (.ref vc), .val (.int (0 : Int32)), .val (.ref vb), .val (.int (0 : Int32)), .val (.int (1 : Int32)), .val (.int (0 : Int32)), .val (.int x0)] [(.int (255 : Int32)), (.int x0)])) _
    exact k
  have hd3 : ¬ ((255 : Int32) < x0) := hx0
  obtain ⟨cl4, Ar4, q4, S4, M4, H4, G4⟩ := id V_b
  have hin4 : ¬ ((0 : Int32) < 0 ∨ cl4.slots.size ≤ ((0 : Int32)).toNatClampNeg) := inb_of S4 ⟨by decide, by decide⟩
  obtain ⟨T5, h5, X5, e5, W5, st5⟩ := stB X0 hx hZ e0 Ar4 (j := (0 : Int32)) hin4 (g := (mkF m 31 #[.val (.ref vc), .val (.int (0 : Int32)), .val (.ref vb), .val (.int (0 : Int32)), .val (.int (1 : Int32)), .val (.int (0 : Int32)), .val (.int x0)] [(.int (x0.toInt8.toInt32)), (.int (0 : Int32)), (.ref vb)])) rfl rfl (hb hby d7_31)
  have N5 := Fr.snoc X5 N0 g_vb
  have V5 : Arv Z h5 vb kb .byte (1 : Int32) [(.int (nar .byte (x0.toInt8.toInt32)))] (.int (0 : Int32)) := Arv.set Ar4 q4 S4 M4 H4 G4 (fits_nar_byte _) W5 0 rfl (Nat.le_of_ble_eq_true rfl)
  have Zp6 : n0 ≤ h5.size := Nat.le_trans Z0 (Nat.le_of_eq (Wr.size W5).symm)
  obtain ⟨fs, hr, hrun, hended, hW, hsame⟩ := X5.leave (v := some (.int (1 : Int32))) (fun h => by rw [Bd.returns] at h; cases h)
  refine ⟨_, _, pre2 _ ?_, hrun, hended, _, _, rfl, ?_, ⟨_, rfl⟩, hW, hsame.mono (by decide) (by decide)⟩
  · show Steps p.tables e below (s₁.setTop (mkF m 20 #[.val (.ref vc), .val (.int (0 : Int32)), .val (.ref vb), .val (.int (0 : Int32)), .val (.int (1 : Int32)), .val (.int (0 : Int32)), .val (.int x0)] [(.int (255 : Int32)), (.int x0)])) _
    refine XS.icmpYes X0.here hx rfl (pc0 := 20) (pc' := 26) rfl (hb hby d7_20) rfl (flt hd3).2.2.2 (by decide) (by decide) ?_
    show Steps p.tables e below (s₁.setTop (mkF m 26 #[.val (.ref vc), .val (.int (0 : Int32)), .val (.ref vb), .val (.int (0 : Int32)), .val (.int (1 : Int32)), .val (.int (0 : Int32)), .val (.int x0)] [])) _
    refine XS.aloadN X0.here hx rfl (hb hby d7_26) rfl rfl ?_
    show Steps p.tables e below (s₁.setTop (mkF m 27 #[.val (.ref vc), .val (.int (0 : Int32)), .val (.ref vb), .val (.int (0 : Int32)), .val (.int (1 : Int32)), .val (.int (0 : Int32)), .val (.int x0)] [(.ref vb)])) _
    refine XS.iloadN X0.here hx rfl (hb hby d7_27) rfl ?_
    show Steps p.tables e below (s₁.setTop (mkF m 28 #[.val (.ref vc), .val (.int (0 : Int32)), .val (.ref vb), .val (.int (0 : Int32)), .val (.int (1 : Int32)), .val (.int (0 : Int32)), .val (.int x0)] [(.int (0 : Int32)), (.ref vb)])) _
    refine XS.iload X0.here hx rfl (hb hby d7_28) rfl ?_
    show Steps p.tables e below (s₁.setTop (mkF m 30 #[.val (.ref vc), .val (.int (0 : Int32)), .val (.ref vb), .val (.int (0 : Int32)), .val (.int (1 : Int32)), .val (.int (0 : Int32)), .val (.int x0)] [(.int x0), (.int (0 : Int32)), (.ref vb)])) _
    refine XS.i2b X0.here hx rfl (hb hby d7_30) rfl ?_
    show Steps p.tables e below (s₁.setTop (mkF m 31 #[.val (.ref vc), .val (.int (0 : Int32)), .val (.ref vb), .val (.int (0 : Int32)), .val (.int (1 : Int32)), .val (.int (0 : Int32)), .val (.int x0)] [(.int (x0.toInt8.toInt32)), (.int (0 : Int32)), (.ref vb)])) _
    refine st5 _ ?_
    show Steps p.tables e below (T5.setTop (mkF m 32 #[.val (.ref vc), .val (.int (0 : Int32)), .val (.ref vb), .val (.int (0 : Int32)), .val (.int (1 : Int32)), .val (.int (0 : Int32)), .val (.int x0)] [])) _
    refine XS.iinc X5.here hx rfl (hb hby d7_32) rfl (l' := #[.val (.ref vc), .val (.int (1 : Int32)), .val (.ref vb), .val (.int (0 : Int32)), .val (.int (1 : Int32)), .val (.int (0 : Int32)), .val (.int x0)]) rfl ?_
    show Steps p.tables e below (T5.setTop (mkF m 35 #[.val (.ref vc), .val (.int (1 : Int32)), .val (.ref vb), .val (.int (0 : Int32)), .val (.int (1 : Int32)), .val (.int (0 : Int32)), .val (.int x0)] [])) _
    refine XS.iinc X5.here hx rfl (hb hby d7_35) rfl (l' := #[.val (.ref vc), .val (.int (1 : Int32)), .val (.ref vb), .val (.int (1 : Int32)), .val (.int (1 : Int32)), .val (.int (0 : Int32)), .val (.int x0)]) rfl ?_
    show Steps p.tables e below (T5.setTop (mkF m 38 #[.val (.ref vc), .val (.int (1 : Int32)), .val (.ref vb), .val (.int (1 : Int32)), .val (.int (1 : Int32)), .val (.int (0 : Int32)), .val (.int x0)] [])) _
    refine XS.iinc X5.here hx rfl (hb hby d7_38) rfl (l' := #[.val (.ref vc), .val (.int (1 : Int32)), .val (.ref vb), .val (.int (1 : Int32)), .val (.int (1 : Int32)), .val (.int (1 : Int32)), .val (.int x0)]) rfl ?_
    show Steps p.tables e below (T5.setTop (mkF m 41 #[.val (.ref vc), .val (.int (1 : Int32)), .val (.ref vb), .val (.int (1 : Int32)), .val (.int (1 : Int32)), .val (.int (1 : Int32)), .val (.int x0)] [])) _
    refine XS.goto X5.here hx rfl (pc0 := 41) (pc' := 3) rfl (hb hby d7_41) (by decide) (by decide) ?_
    show Steps p.tables e below (T5.setTop (mkF m 3 #[.val (.ref vc), .val (.int (1 : Int32)), .val (.ref vb), .val (.int (1 : Int32)), .val (.int (1 : Int32)), .val (.int (1 : Int32)), .val (.int x0)] [])) _
    refine XS.iload X5.here hx rfl (hb hby d7_3) rfl ?_
    show Steps p.tables e below (T5.setTop (mkF m 5 #[.val (.ref vc), .val (.int (1 : Int32)), .val (.ref vb), .val (.int (1 : Int32)), .val (.int (1 : Int32)), .val (.int (1 : Int32)), .val (.int x0)] [(.int (1 : Int32))])) _
    refine XS.iload X5.here hx rfl (hb hby d7_5) rfl ?_
    show Steps p.tables e below (T5.setTop (mkF m 7 #[.val (.ref vc), .val (.int (1 : Int32)), .val (.ref vb), .val (.int (1 : Int32)), .val (.int (1 : Int32)), .val (.int (1 : Int32)), .val (.int x0)] [(.int (1 : Int32)), (.int (1 : Int32))])) _
    refine XS.icmpYes X5.here hx rfl (pc0 := 7) (pc' := 44) rfl (hb hby d7_7) rfl (by decide) (by decide) (by decide) ?_
    show Steps p.tables e below (T5.setTop (mkF m 44 #[.val (.ref vc), .val (.int (1 : Int32)), .val (.ref vb), .val (.int (1 : Int32)), .val (.int (1 : Int32)), .val (.int (1 : Int32)), .val (.int x0)] [])) _
    refine XS.iload X5.here hx rfl (hb hby d7_44) rfl ?_
    show Steps p.tables e below (T5.setTop (mkF m 46 #[.val (.ref vc), .val (.int (1 : Int32)), .val (.ref vb), .val (.int (1 : Int32)), .val (.int (1 : Int32)), .val (.int (1 : Int32)), .val (.int x0)] [(.int (1 : Int32))])) _
    exact retI X5 hx Bd.returns (hb hby d7_46) hr
  · show Q_c5_1 Z vc (0 : Int32) vb (0 : Int32) (1 : Int32) kc kb x0 h0 n0 _ T5.heap _
    rw [e5]
    have Kc7 := (Keep.refl h0 [vb]).wr W5 (Or.inl (List.mem_of_getElem? (i := 0) rfl))
    exact ⟨rfl, N5, Kc7, V5⟩
theorem d6_0 : decode jdk_52_method_16_code 0 = .ok (.iload_n 2, 1) := by decide +kernel
theorem d6_1 : decode jdk_52_method_16_code 1 = .ok (.newarray .byte, 2) := by decide +kernel
theorem d6_3 : decode jdk_52_method_16_code 3 = .ok (.astore_n 3, 1) := by decide +kernel
theorem d6_4 : decode jdk_52_method_16_code 4 = .ok (.aload_n 0, 1) := by decide +kernel
theorem d6_5 : decode jdk_52_method_16_code 5 = .ok (.iload_n 1, 1) := by decide +kernel
theorem d6_6 : decode jdk_52_method_16_code 6 = .ok (.aload_n 3, 1) := by decide +kernel
theorem d6_7 : decode jdk_52_method_16_code 7 = .ok (.iconst 0, 1) := by decide +kernel
theorem d6_8 : decode jdk_52_method_16_code 8 = .ok (.iload_n 2, 1) := by decide +kernel
theorem d6_9 : decode jdk_52_method_16_code 9 = .ok (.invokestatic 115, 3) := by decide +kernel
theorem d6_12 : decode jdk_52_method_16_code 12 = .ok (.istore 4, 2) := by decide +kernel
theorem d6_14 : decode jdk_52_method_16_code 14 = .ok (.iload 4, 2) := by decide +kernel
theorem d6_16 : decode jdk_52_method_16_code 16 = .ok (.iload_n 2, 1) := by decide +kernel
theorem d6_17 : decode jdk_52_method_16_code 17 = .ok (.if_icmp .eq 40, 3) := by decide +kernel
theorem d6_20 : decode jdk_52_method_16_code 20 = .ok (.aload_n 0, 1) := by decide +kernel
theorem d6_21 : decode jdk_52_method_16_code 21 = .ok (.iload_n 1, 1) := by decide +kernel
theorem d6_22 : decode jdk_52_method_16_code 22 = .ok (.iload_n 2, 1) := by decide +kernel
theorem d6_23 : decode jdk_52_method_16_code 23 = .ok (.invokestatic 119, 3) := by decide +kernel
theorem d6_26 : decode jdk_52_method_16_code 26 = .ok (.astore 5, 2) := by decide +kernel
theorem d6_28 : decode jdk_52_method_16_code 28 = .ok (.aload 5, 2) := by decide +kernel
theorem d6_30 : decode jdk_52_method_16_code 30 = .ok (.iload 4, 2) := by decide +kernel
theorem d6_32 : decode jdk_52_method_16_code 32 = .ok (.invokestatic 71, 3) := by decide +kernel
theorem d6_35 : decode jdk_52_method_16_code 35 = .ok (.sipush 255, 3) := by decide +kernel
theorem d6_38 : decode jdk_52_method_16_code 38 = .ok (.if_icmp .gt 16, 3) := by decide +kernel
theorem d6_41 : decode jdk_52_method_16_code 41 = .ok (.aload 5, 2) := by decide +kernel
theorem d6_43 : decode jdk_52_method_16_code 43 = .ok (.iconst 0, 1) := by decide +kernel
theorem d6_44 : decode jdk_52_method_16_code 44 = .ok (.aload_n 3, 1) := by decide +kernel
theorem d6_45 : decode jdk_52_method_16_code 45 = .ok (.iconst 0, 1) := by decide +kernel
theorem d6_46 : decode jdk_52_method_16_code 46 = .ok (.iload_n 2, 1) := by decide +kernel
theorem d6_47 : decode jdk_52_method_16_code 47 = .ok (.invokestatic 123, 3) := by decide +kernel
theorem d6_50 : decode jdk_52_method_16_code 50 = .ok (.iload_n 2, 1) := by decide +kernel
theorem d6_51 : decode jdk_52_method_16_code 51 = .ok (.if_icmp .eq 6, 3) := by decide +kernel
theorem d6_54 : decode jdk_52_method_16_code 54 = .ok (.aload 5, 2) := by decide +kernel
theorem d6_56 : decode jdk_52_method_16_code 56 = .ok (.areturn, 1) := by decide +kernel
theorem d6_57 : decode jdk_52_method_16_code 57 = .ok (.aload_n 3, 1) := by decide +kernel
theorem d6_58 : decode jdk_52_method_16_code 58 = .ok (.areturn, 1) := by decide +kernel
theorem pn_rm_c3_1 : plainName "java/lang/StringUTF16" = true := by first | (simp [plainName, overriddenIn]; done) | decide +kernel
theorem ef_rm_c3_1 (m : MethodId) (vc : Addr) (vo : Int32) (vq : Int32) : entryFrame m #[(.ref vc), (.int vo), (.int vq)] 6 = mkF m 0 #[.val (.ref vc), .val (.int vo), .val (.int vq), .unset, .unset, .unset] [] := by first | (simp [entryFrame, mkF, argsToLocals, Value.category]; done) | rfl
def Q_c3_1 (Z : State) (vc : Addr) (vo : Int32) (vq : Int32) (kc : ClassId) (x0 : Int32) (h0 : Heap) (n0 : Nat) (v : Option Value) (h : Heap) (L : List Loc) : Prop := ∃ (b : Addr) (kb : ClassId), v = some (.ref b) ∧ Fr n0 L ∧ Keep h0 h [] ∧ n0 ≤ b ∧ h0.size ≤ b ∧ Arv Z h b kb .byte (1 : Int32) [(.int (nar .byte (x0.toInt8.toInt32)))] (.int (0 : Int32))
set_option maxRecDepth 65536 in
set_option maxHeartbeats 40000000 in
theorem rm_c3_1 (l : Launch) (Z : State) (a0 : Array Value) (hw : ∀ d ∈ tables_1, d.before a0 Z = true) (ws : List Jvm.Cond) (vc : Addr) (vo : Int32) (vq : Int32) (kc : ClassId) (x0 : Int32) (h0 : Heap) (n0 : Nat) (Z0 : n0 ≤ h0.size) (V_c : Arv Z h0 vc kc .char (1 : Int32) [(.int x0)] (.int (0 : Int32))) (ho : vo = (0 : Int32)) (hq : vq = (1 : Int32)) (hx0 : ¬ (255 : Int32) < x0) :
    MetFree l (⟨"java/lang/StringUTF16", "compress", "([CII)[B"⟩ : MethodName) (head1 (Jvm.Cond.code (⟨"java/lang/StringUTF16", "compress", "([CII)[B"⟩ : MethodName) jdk_52_method_16_code 6 (some (.array .byte)) :: ws) ({ frames := 1, cells := 1, slots := 1, locals := 18 } : Room)) (fun a U => a = #[(.ref vc), (.int vo), (.int vq)] ∧ Z.Warmed39 U.vm ∧ U.heap = h0) (fun _ _ _ _ _ => True) (fun _ U o U' => ∃ v L, o = .returned v ∧ Q_c3_1 Z vc vo vq kc x0 h0 n0 v U'.heap L ∧ FrameEnd U o U' L ({ frames := 1, cells := 1, slots := 1, locals := 18 } : Room).cells ({ frames := 1, cells := 1, slots := 1, locals := 18 } : Room).slots) := by
  subst ho
  subst hq
  refine MetFree.of_bodySF (plainFor_of_name pn_rm_c3_1) hisR ?_
  intro p e s m args below meth c s₁ Bd hml0 hP hK
  obtain ⟨rfl, hZ, hh⟩ := hP
  have hx := Bd.exec
  have hby := Bd.bytes
  have hml : c.maxLocals = 6 := hml0
  have hown : s.vm.findClass "java/lang/StringUTF16" = some m.cls := findClass_of_methodNamed Bd.named
  have hnm := (name_of_methodNamed Bd.named Bd.method).1
  have X0 : Stand p l e ({ frames := 1, cells := 1, slots := 1, locals := 18 } : Room) s m #[(.ref vc), (.int (0 : Int32)), (.int (1 : Int32))] below meth c s₁ [] 0 0 := Stand.of_body Bd
  have e0 : s₁.heap = h0 := by rw [← hh, Bd.state]; rfl
  have N0 := Fr.nil n0
  have pre0 : ∀ t, Steps p.tables e below (s₁.setTop (mkF m 0 #[.val (.ref vc), .val (.int (0 : Int32)), .val (.int (1 : Int32)), .unset, .unset, .unset] [])) t → Steps p.tables e below (s₁.setTop (entryFrame m #[(.ref vc), (.int (0 : Int32)), (.int (1 : Int32))] 6)) t := fun t k => castTop (ef_rm_c3_1 m vc (0 : Int32) (1 : Int32)) k
  obtain ⟨T1, h1, k1, X1, e1, E1, A1, st1⟩ := newP X0 hx hZ (hw _ (List.mem_of_getElem? (i := 30) rfl)) e0 (g := (mkF m 1 #[.val (.ref vc), .val (.int (0 : Int32)), .val (.int (1 : Int32)), .unset, .unset, .unset] [(.int (1 : Int32))])) rfl (hb hby d6_1) rfl (by decide) (cap := 1) (by decide) (by decide) (by decide) (by decide)
  obtain ⟨b1, g1⟩ : ∃ z, z = h0.size := ⟨_, rfl⟩
  rw [← g1] at A1 st1
  have g_b1 : n0 ≤ b1 := Nat.le_trans Z0 (Nat.le_of_eq g1.symm)
  have Zp2 : n0 ≤ h1.size := Nat.le_trans Z0 E1.1
  have V1 : Arv Z h1 b1 k1 .byte (1 : Int32) [(.int (0 : Int32))] (.int (0 : Int32)) := (Arv.new A1 (by decide)).pad (pad_rep [] (.int (0 : Int32)) 1)
  have Fc3 := (V_c.ext E1)
  obtain ⟨_, _, ⟨T4, L4, k4, n4⟩, -, X4, ⟨Lc4, hQ4, l4, y4, z4⟩, st4⟩ := Jvm.LawKit.callS X1 hx (y := (⟨"java/lang/StringUTF16", "compress", "([CI[BII)I"⟩ : MethodName)) hown (mvT hZ (hw _ (List.mem_of_getElem? (i := 31) rfl))) (mvT hZ (hw _ (List.mem_of_getElem? (i := 32) rfl))) (mvT hZ (hw _ (List.mem_of_getElem? (i := 28) rfl))) (mvT hZ (hw _ (List.mem_of_getElem? (i := 33) rfl))) (by decide) (backOf (W := 0) (rm_c5_1 l Z a0 hw [] vc (0 : Int32) b1 (0 : Int32) (1 : Int32) kc k1 x0 h1 n0 Zp2 Fc3 V1 g_b1 (Nat.ne_of_lt (Nat.lt_of_lt_of_le (V_c).lt (Nat.le_of_eq g1.symm))) rfl rfl rfl hx0) hZ (hw _ (List.mem_of_getElem? (i := 33) rfl)) (hw _ (List.mem_of_getElem? (i := 28) rfl)) (by decide) (by decide)) (g := (mkF m 9 #[.val (.ref vc), .val (.int (0 : Int32)), .val (.int (1 : Int32)), .val (.ref b1), .unset, .unset] [(.int (1 : Int32)), (.int (0 : Int32)), (.ref b1), (.int (0 : Int32)), (.ref vc)])) rfl (by rw [hml]; rfl) (argsL := [(.ref vc), (.int (0 : Int32)), (.ref b1), (.int (0 : Int32)), (.int (1 : Int32))]) (rest := []) (lenOf own_pd1 rfl) rfl (by show 2 * 0 + _ ≤ _; exact Nat.le_of_eq rfl) (hb hby d6_9) (fun _ _ => ⟨rfl, e1, (by decide : 1 + 0 ≤ _), (by decide : 1 + 0 ≤ _)⟩)
  dsimp only [Pt.U, Pt.locs, Pt.cells, Pt.slots] at X4 l4 y4 z4 st4 hQ4
  subst l4 y4 z4
  obtain ⟨rfl, Nq4, K4, V4⟩ := hQ4
  have Nf4 := Fr.app N0 Nq4
  have Zp5 : n0 ≤ T4.heap.size := Nat.le_trans Zp2 K4.1
  obtain ⟨fs, hr, hrun, hended, hW, hsame⟩ := X4.leave (v := some (.ref b1)) (fun h => by rw [Bd.returns] at h; cases h)
  refine ⟨_, _, pre0 _ ?_, hrun, hended, _, _, rfl, ?_, ⟨_, rfl⟩, hW, hsame.mono (by decide) (by decide)⟩
  · show Steps p.tables e below (s₁.setTop (mkF m 0 #[.val (.ref vc), .val (.int (0 : Int32)), .val (.int (1 : Int32)), .unset, .unset, .unset] [])) _
    refine XS.iloadN X0.here hx rfl (hb hby d6_0) rfl ?_
    show Steps p.tables e below (s₁.setTop (mkF m 1 #[.val (.ref vc), .val (.int (0 : Int32)), .val (.int (1 : Int32)), .unset, .unset, .unset] [(.int (1 : Int32))])) _
    refine st1 _ ?_
    show Steps p.tables e below (T1.setTop (mkF m 3 #[.val (.ref vc), .val (.int (0 : Int32)), .val (.int (1 : Int32)), .unset, .unset, .unset] [(.ref b1)])) _
    refine XS.astoreN X1.here hx rfl (hb hby d6_3) rfl rfl (l' := #[.val (.ref vc), .val (.int (0 : Int32)), .val (.int (1 : Int32)), .val (.ref b1), .unset, .unset]) rfl ?_
    show Steps p.tables e below (T1.setTop (mkF m 4 #[.val (.ref vc), .val (.int (0 : Int32)), .val (.int (1 : Int32)), .val (.ref b1), .unset, .unset] [])) _
    refine XS.aloadN X1.here hx rfl (hb hby d6_4) rfl rfl ?_
    show Steps p.tables e below (T1.setTop (mkF m 5 #[.val (.ref vc), .val (.int (0 : Int32)), .val (.int (1 : Int32)), .val (.ref b1), .unset, .unset] [(.ref vc)])) _
    refine XS.iloadN X1.here hx rfl (hb hby d6_5) rfl ?_
    show Steps p.tables e below (T1.setTop (mkF m 6 #[.val (.ref vc), .val (.int (0 : Int32)), .val (.int (1 : Int32)), .val (.ref b1), .unset, .unset] [(.int (0 : Int32)), (.ref vc)])) _
    refine XS.aloadN X1.here hx rfl (hb hby d6_6) rfl rfl ?_
    show Steps p.tables e below (T1.setTop (mkF m 7 #[.val (.ref vc), .val (.int (0 : Int32)), .val (.int (1 : Int32)), .val (.ref b1), .unset, .unset] [(.ref b1), (.int (0 : Int32)), (.ref vc)])) _
    refine XS.iconst X1.here hx rfl (hb hby d6_7) ?_
    show Steps p.tables e below (T1.setTop (mkF m 8 #[.val (.ref vc), .val (.int (0 : Int32)), .val (.int (1 : Int32)), .val (.ref b1), .unset, .unset] [(.int (0 : Int32)), (.ref b1), (.int (0 : Int32)), (.ref vc)])) _
    refine XS.iloadN X1.here hx rfl (hb hby d6_8) rfl ?_
    show Steps p.tables e below (T1.setTop (mkF m 9 #[.val (.ref vc), .val (.int (0 : Int32)), .val (.int (1 : Int32)), .val (.ref b1), .unset, .unset] [(.int (1 : Int32)), (.int (0 : Int32)), (.ref b1), (.int (0 : Int32)), (.ref vc)])) _
    refine st4 _ ?_
    show Steps p.tables e below (T4.setTop (mkF m 12 #[.val (.ref vc), .val (.int (0 : Int32)), .val (.int (1 : Int32)), .val (.ref b1), .unset, .unset] [(.int (1 : Int32))])) _
    refine XS.istore X4.here hx rfl (hb hby d6_12) rfl (l' := #[.val (.ref vc), .val (.int (0 : Int32)), .val (.int (1 : Int32)), .val (.ref b1), .val (.int (1 : Int32)), .unset]) rfl ?_
    show Steps p.tables e below (T4.setTop (mkF m 14 #[.val (.ref vc), .val (.int (0 : Int32)), .val (.int (1 : Int32)), .val (.ref b1), .val (.int (1 : Int32)), .unset] [])) _
    refine XS.iload X4.here hx rfl (hb hby d6_14) rfl ?_
    show Steps p.tables e below (T4.setTop (mkF m 16 #[.val (.ref vc), .val (.int (0 : Int32)), .val (.int (1 : Int32)), .val (.ref b1), .val (.int (1 : Int32)), .unset] [(.int (1 : Int32))])) _
    refine XS.iloadN X4.here hx rfl (hb hby d6_16) rfl ?_
    show Steps p.tables e below (T4.setTop (mkF m 17 #[.val (.ref vc), .val (.int (0 : Int32)), .val (.int (1 : Int32)), .val (.ref b1), .val (.int (1 : Int32)), .unset] [(.int (1 : Int32)), (.int (1 : Int32))])) _
    refine XS.icmpYes X4.here hx rfl (pc0 := 17) (pc' := 57) rfl (hb hby d6_17) rfl (by decide) (by decide) (by decide) ?_
    show Steps p.tables e below (T4.setTop (mkF m 57 #[.val (.ref vc), .val (.int (0 : Int32)), .val (.int (1 : Int32)), .val (.ref b1), .val (.int (1 : Int32)), .unset] [])) _
    refine XS.aloadN X4.here hx rfl (hb hby d6_57) rfl rfl ?_
    show Steps p.tables e below (T4.setTop (mkF m 58 #[.val (.ref vc), .val (.int (0 : Int32)), .val (.int (1 : Int32)), .val (.ref b1), .val (.int (1 : Int32)), .unset] [(.ref b1)])) _
    jvm_step X4.here [X4.here.top, hx, (hb hby d6_58), X4.method', Bd.returns, Value.isRef, FieldType.isReference]
    first | (intro acts; rw [hr _ acts rfl rfl rfl]) | rw [hr _ _ rfl rfl rfl]
    exact Steps.refl _
  · show Q_c3_1 Z vc (0 : Int32) (1 : Int32) kc x0 h0 n0 _ T4.heap _
    have Kc6 := (Keep.refl h0 []).ext E1
    have Kc7 := Kc6.trans K4 (allS (Or.inr (Nat.le_trans (Keep.refl h0 []).1 (Nat.le_of_eq g1.symm))) all0)
    exact ⟨b1, k1, rfl, Nf4, Kc7, g_b1, (Nat.le_trans (Nat.le_refl h0.size) (Nat.le_of_eq g1.symm)), V4⟩
theorem d8_0 : decode jdk_52_method_15_code 0 = .ok (.iload_n 1, 1) := by decide +kernel
theorem d8_1 : decode jdk_52_method_15_code 1 = .ok (.aload_n 0, 1) := by decide +kernel
theorem d8_2 : decode jdk_52_method_15_code 2 = .ok (.arraylength, 1) := by decide +kernel
theorem d8_3 : decode jdk_52_method_15_code 3 = .ok (.isub, 1) := by decide +kernel
theorem d8_4 : decode jdk_52_method_15_code 4 = .ok (.bipush 31, 2) := by decide +kernel
theorem d8_6 : decode jdk_52_method_15_code 6 = .ok (.iushr, 1) := by decide +kernel
theorem d8_7 : decode jdk_52_method_15_code 7 = .ok (.i2b, 1) := by decide +kernel
theorem d8_8 : decode jdk_52_method_15_code 8 = .ok (.ireturn, 1) := by decide +kernel
theorem pn_rm_cf_1 : plainName "java/lang/StringUTF16" = true := by first | (simp [plainName, overriddenIn]; done) | decide +kernel
theorem ef_rm_cf_1 (m : MethodId) (vb : Addr) (vq : Int32) : entryFrame m #[(.ref vb), (.int vq)] 2 = mkF m 0 #[.val (.ref vb), .val (.int vq)] [] := by first | (simp [entryFrame, mkF, argsToLocals, Value.category]; done) | rfl
def Q_cf_1 (Z : State) (vb : Addr) (vq : Int32) (kb : ClassId) (bl : List Value) (h0 : Heap) (n0 : Nat) (v : Option Value) (h : Heap) (L : List Loc) : Prop := v = some (.int 0) ∧ Fr n0 L ∧ h = h0
set_option maxRecDepth 65536 in
set_option maxHeartbeats 40000000 in
theorem rm_cf_1 (l : Launch) (Z : State) (a0 : Array Value) (hw : ∀ d ∈ tables_1, d.before a0 Z = true) (ws : List Jvm.Cond) (vb : Addr) (vq : Int32) (kb : ClassId) (bl : List Value) (h0 : Heap) (n0 : Nat) (Z0 : n0 ≤ h0.size) (V_b : Arv Z h0 vb kb .byte (1 : Int32) bl (.int (0 : Int32))) (hq : vq = (1 : Int32)) :
    MetFree l (⟨"java/lang/StringUTF16", "coderFromArrayLen", "([BI)B"⟩ : MethodName) (head1 (Jvm.Cond.code (⟨"java/lang/StringUTF16", "coderFromArrayLen", "([BI)B"⟩ : MethodName) jdk_52_method_15_code 2 (some .byte) :: ws) ({ frames := 0, cells := 0, slots := 0, locals := 0 } : Room)) (fun a U => a = #[(.ref vb), (.int vq)] ∧ Z.Warmed39 U.vm ∧ U.heap = h0) (fun _ _ _ _ _ => True) (fun _ U o U' => ∃ v L, o = .returned v ∧ Q_cf_1 Z vb vq kb bl h0 n0 v U'.heap L ∧ FrameEnd U o U' L ({ frames := 0, cells := 0, slots := 0, locals := 0 } : Room).cells ({ frames := 0, cells := 0, slots := 0, locals := 0 } : Room).slots) := by
  subst hq
  refine MetFree.of_bodySF (plainFor_of_name pn_rm_cf_1) hisR ?_
  intro p e s m args below meth c s₁ Bd hml0 hP hK
  obtain ⟨rfl, hZ, hh⟩ := hP
  have hx := Bd.exec
  have hby := Bd.bytes
  have hml : c.maxLocals = 2 := hml0
  have hown : s.vm.findClass "java/lang/StringUTF16" = some m.cls := findClass_of_methodNamed Bd.named
  have hnm := (name_of_methodNamed Bd.named Bd.method).1
  have X0 : Stand p l e ({ frames := 0, cells := 0, slots := 0, locals := 0 } : Room) s m #[(.ref vb), (.int (1 : Int32))] below meth c s₁ [] 0 0 := Stand.of_body Bd
  have e0 : s₁.heap = h0 := by rw [← hh, Bd.state]; rfl
  have N0 := Fr.nil n0
  have pre0 : ∀ t, Steps p.tables e below (s₁.setTop (mkF m 0 #[.val (.ref vb), .val (.int (1 : Int32))] [])) t → Steps p.tables e below (s₁.setTop (entryFrame m #[(.ref vb), (.int (1 : Int32))] 2)) t := fun t k => castTop (ef_rm_cf_1 m vb (1 : Int32)) k
  obtain ⟨cl1, Ar1, -, S1, M1, -, -⟩ := id V_b
  obtain ⟨fs, hr, hrun, hended, hW, hsame⟩ := X0.leave (v := some (.int (nar .byte ((((0 : Int32).toUInt32 >>> ((31 : Int32) &&& 31).toUInt32).toInt32).toInt8.toInt32)))) (fun h => by rw [Bd.returns] at h; cases h)
  refine ⟨_, _, pre0 _ ?_, hrun, hended, _, _, rfl, ?_, ⟨_, rfl⟩, hW, hsame.mono (by decide) (by decide)⟩
  · show Steps p.tables e below (s₁.setTop (mkF m 0 #[.val (.ref vb), .val (.int (1 : Int32))] [])) _
    refine XS.iloadN X0.here hx rfl (hb hby d8_0) rfl ?_
    show Steps p.tables e below (s₁.setTop (mkF m 1 #[.val (.ref vb), .val (.int (1 : Int32))] [(.int (1 : Int32))])) _
    refine XS.aloadN X0.here hx rfl (hb hby d8_1) rfl rfl ?_
    show Steps p.tables e below (s₁.setTop (mkF m 2 #[.val (.ref vb), .val (.int (1 : Int32))] [(.ref vb), (.int (1 : Int32))])) _
    refine X0.arraylength hx (by rw [e0]; exact Ar1.1) (State.isArrayOf_alike hZ.alike Ar1.2.1) (g := (mkF m 2 #[.val (.ref vb), .val (.int (1 : Int32))] [(.ref vb), (.int (1 : Int32))])) rfl rfl (hb hby d8_2) _ ?_
    rw [len_of S1 M1]
    show Steps p.tables e below (s₁.setTop (mkF m 3 #[.val (.ref vb), .val (.int (1 : Int32))] [(.int (1 : Int32)), (.int (1 : Int32))])) _
    refine XS.isub X0.here hx rfl (hb hby d8_3) rfl ?_
    show Steps p.tables e below (s₁.setTop (mkF m 4 #[.val (.ref vb), .val (.int (1 : Int32))] [(.int (0 : Int32))])) _
    refine XS.bipush X0.here hx rfl (hb hby d8_4) ?_
    show Steps p.tables e below (s₁.setTop (mkF m 6 #[.val (.ref vb), .val (.int (1 : Int32))] [(.int (31 : Int32)), (.int (0 : Int32))])) _
    refine XS.iushr X0.here hx rfl (hb hby d8_6) rfl ?_
    show Steps p.tables e below (s₁.setTop (mkF m 7 #[.val (.ref vb), .val (.int (1 : Int32))] [(.int (((0 : Int32).toUInt32 >>> ((31 : Int32) &&& 31).toUInt32).toInt32))])) _
    refine XS.i2b X0.here hx rfl (hb hby d8_7) rfl ?_
    show Steps p.tables e below (s₁.setTop (mkF m 8 #[.val (.ref vb), .val (.int (1 : Int32))] [(.int ((((0 : Int32).toUInt32 >>> ((31 : Int32) &&& 31).toUInt32).toInt32).toInt8.toInt32))])) _
    exact retN X0 hx (t := .byte) Bd.returns (by simp) (hb hby d8_8) hr
  · show Q_cf_1 Z vb (1 : Int32) kb bl h0 n0 _ s₁.heap _
    rw [e0]
    exact ⟨congrArg (fun z => some (Value.int z)) (by decide +kernel), N0, rfl⟩
theorem pn_rm_i4_1 : plainName "java/lang/String" = true := by first | (simp [plainName, overriddenIn]; done) | decide +kernel
theorem ef_rm_i4_1 (m : MethodId) (va : Addr) (vc : Addr) (vo : Int32) (vq : Int32) : entryFrame m #[(.ref va), (.ref vc), (.int vo), (.int vq), .null] 6 = mkF m 0 #[.val (.ref va), .val (.ref vc), .val (.int vo), .val (.int vq), .val .null, .unset] [] := by first | (simp [entryFrame, mkF, argsToLocals, Value.category]; done) | rfl
def Q_i4_1 (Z : State) (va : Addr) (vc : Addr) (vo : Int32) (vq : Int32) (kc : ClassId) (x0 : Int32) (vcs : Int32) (h0 : Heap) (n0 : Nat) (v : Option Value) (h : Heap) (L : List Loc) : Prop := ∃ (b : Addr) (kb : ClassId), v = none ∧ Fr n0 L ∧ Keep h0 h [va] ∧ Exa Z h va "java/lang/String" ∧ Fld Z h va "java/lang/String" "value" "[B" (.ref b) ∧ Fld Z h va "java/lang/String" "coder" "B" (.int (0 : Int32)) ∧ Arv Z h b kb .byte (1 : Int32) [(.int (nar .byte (x0.toInt8.toInt32)))] (.int (0 : Int32))
set_option maxRecDepth 65536 in
set_option maxHeartbeats 40000000 in
theorem rm_i4_1 (l : Launch) (Z : State) (a0 : Array Value) (hw : ∀ d ∈ tables_1, d.before a0 Z = true) (ws : List Jvm.Cond) (va : Addr) (vc : Addr) (vo : Int32) (vq : Int32) (kc : ClassId) (x0 : Int32) (vcs : Int32) (h0 : Heap) (n0 : Nat) (Z0 : n0 ≤ h0.size) (E_a : Exa Z h0 va "java/lang/String") (g_va : n0 ≤ va) (F_v : Fld Z h0 va "java/lang/String" "value" "[B" .null) (F_c : Fld Z h0 va "java/lang/String" "coder" "B" (.int (0 : Int32))) (V_c : Arv Z h0 vc kc .char (1 : Int32) [(.int x0)] (.int (0 : Int32))) (ho : vo = (0 : Int32)) (hq : vq = (1 : Int32)) (hx0 : ¬ (255 : Int32) < x0) (S_cs : Sta Z h0 "java/lang/String" "COMPACT_STRINGS" "Z" (.int vcs)) (hcs : ¬ vcs = 0) :
    MetFree l (⟨"java/lang/String", "<init>", "([CIILjava/lang/Void;)V"⟩ : MethodName) (head1 (Jvm.Cond.code (⟨"java/lang/String", "<init>", "([CIILjava/lang/Void;)V"⟩ : MethodName) jdk_42_method_149_code 6 none :: ws) ({ frames := 2, cells := 1, slots := 1, locals := 35 } : Room)) (fun a U => a = #[(.ref va), (.ref vc), (.int vo), (.int vq), .null] ∧ Z.Warmed39 U.vm ∧ U.heap = h0) (fun _ _ _ _ _ => True) (fun _ U o U' => ∃ v L, o = .returned v ∧ Q_i4_1 Z va vc vo vq kc x0 vcs h0 n0 v U'.heap L ∧ FrameEnd U o U' L ({ frames := 2, cells := 1, slots := 1, locals := 35 } : Room).cells ({ frames := 2, cells := 1, slots := 1, locals := 35 } : Room).slots) := by
  subst ho
  subst hq
  refine MetFree.of_bodySF (plainFor_of_name pn_rm_i4_1) hisR ?_
  intro p e s m args below meth c s₁ Bd hml0 hP hK
  obtain ⟨rfl, hZ, hh⟩ := hP
  have hx := Bd.exec
  have hby := Bd.bytes
  have hml : c.maxLocals = 6 := hml0
  have hown : s.vm.findClass "java/lang/String" = some m.cls := findClass_of_methodNamed Bd.named
  have hnm := (name_of_methodNamed Bd.named Bd.method).1
  have X0 : Stand p l e ({ frames := 2, cells := 1, slots := 1, locals := 35 } : Room) s m #[(.ref va), (.ref vc), (.int (0 : Int32)), (.int (1 : Int32)), .null] below meth c s₁ [] 0 0 := Stand.of_body Bd
  have e0 : s₁.heap = h0 := by rw [← hh, Bd.state]; rfl
  have N0 := Fr.nil n0
  have pre0 : ∀ t, Steps p.tables e below (s₁.setTop (mkF m 0 #[.val (.ref va), .val (.ref vc), .val (.int (0 : Int32)), .val (.int (1 : Int32)), .val .null, .unset] [])) t → Steps p.tables e below (s₁.setTop (entryFrame m #[(.ref va), (.ref vc), (.int (0 : Int32)), (.int (1 : Int32)), .null] 6)) t := fun t k => castTop (ef_rm_i4_1 m va vc (0 : Int32) (1 : Int32)) k
  obtain ⟨T1, X1, e1, st1⟩ := initO X0 hx hZ hown (hw _ (List.mem_of_getElem? (i := 22) rfl)) (hw _ (List.mem_of_getElem? (i := 23) rfl)) (hw _ (List.mem_of_getElem? (i := 24) rfl)) e0 (g := (mkF m 1 #[.val (.ref va), .val (.ref vc), .val (.int (0 : Int32)), .val (.int (1 : Int32)), .val .null, .unset] [(.ref va)])) rfl (by rw [hml]; rfl) rfl (hb hby d4_1) (by decide) (W := 0) (by show 2 * 0 + _ ≤ _; exact Nat.le_of_eq rfl) (by decide)
  obtain ⟨T2, X2, e2, st2⟩ := getS2 X1 hx hZ hown (host := "") (Or.inl (hw _ (List.mem_of_getElem? (i := 25) rfl))) Via.refl e1 S_cs (g := (mkF m 27 #[.val (.ref va), .val (.ref vc), .val (.int (0 : Int32)), .val (.int (1 : Int32)), .val .null, .unset] [])) rfl (hb hby d4_27)
  have pre3 : ∀ t, Steps p.tables e below (T2.setTop (mkF m 30 #[.val (.ref va), .val (.ref vc), .val (.int (0 : Int32)), .val (.int (1 : Int32)), .val .null, .unset] [(.int vcs)])) t → Steps p.tables e below (s₁.setTop (entryFrame m #[(.ref va), (.ref vc), (.int (0 : Int32)), (.int (1 : Int32)), .null] 6)) t := by
    intro t k
    refine pre0 t ?_
    show Steps p.tables e below (s₁.setTop (mkF m 0 #[.val (.ref va), .val (.ref vc), .val (.int (0 : Int32)), .val (.int (1 : Int32)), .val .null, .unset] [])) _
    refine XS.aloadN X0.here hx rfl (hb hby d4_0) rfl rfl ?_
    show Steps p.tables e below (s₁.setTop (mkF m 1 #[.val (.ref va), .val (.ref vc), .val (.int (0 : Int32)), .val (.int (1 : Int32)), .val .null, .unset] [(.ref va)])) _
    refine st1 _ ?_
    show Steps p.tables e below (T1.setTop (mkF m 4 #[.val (.ref va), .val (.ref vc), .val (.int (0 : Int32)), .val (.int (1 : Int32)), .val .null, .unset] [])) _
    refine XS.iloadN X1.here hx rfl (hb hby d4_4) rfl ?_
    show Steps p.tables e below (T1.setTop (mkF m 5 #[.val (.ref va), .val (.ref vc), .val (.int (0 : Int32)), .val (.int (1 : Int32)), .val .null, .unset] [(.int (1 : Int32))])) _
    refine XS.ifYes X1.here hx rfl (pc0 := 5) (pc' := 27) rfl (hb hby d4_5) rfl (by decide) (by decide) (by decide) ?_
    show Steps p.tables e below (T1.setTop (mkF m 27 #[.val (.ref va), .val (.ref vc), .val (.int (0 : Int32)), .val (.int (1 : Int32)), .val .null, .unset] [])) _
    refine st2 _ ?_
    show Steps p.tables e below (T2.setTop (mkF m 30 #[.val (.ref va), .val (.ref vc), .val (.int (0 : Int32)), .val (.int (1 : Int32)), .val .null, .unset] [(.int vcs)])) _
    exact k
  have hd4 : ¬ (vcs = (0 : Int32)) := hcs
  obtain ⟨_, _, ⟨T5, L5, k5, n5⟩, -, X5, ⟨Lc5, hQ5, l5, y5, z5⟩, st5⟩ := Jvm.LawKit.callS X2 hx (y := (⟨"java/lang/StringUTF16", "compress", "([CII)[B"⟩ : MethodName)) hown (mvT hZ (hw _ (List.mem_of_getElem? (i := 26) rfl))) (mvT hZ (hw _ (List.mem_of_getElem? (i := 27) rfl))) (mvT hZ (hw _ (List.mem_of_getElem? (i := 28) rfl))) (mvT hZ (hw _ (List.mem_of_getElem? (i := 29) rfl))) (by decide) (backOf (W := 0) (rm_c3_1 l Z a0 hw [] vc (0 : Int32) (1 : Int32) kc x0 h0 n0 Z0 V_c rfl rfl hx0) hZ (hw _ (List.mem_of_getElem? (i := 29) rfl)) (hw _ (List.mem_of_getElem? (i := 28) rfl)) (by decide) (by decide)) (g := (mkF m 36 #[.val (.ref va), .val (.ref vc), .val (.int (0 : Int32)), .val (.int (1 : Int32)), .val .null, .unset] [(.int (1 : Int32)), (.int (0 : Int32)), (.ref vc)])) rfl (by rw [hml]; rfl) (argsL := [(.ref vc), (.int (0 : Int32)), (.int (1 : Int32))]) (rest := []) (lenOf own_pd2 rfl) rfl (by show 2 * 0 + _ ≤ _; exact Nat.le_of_eq rfl) (hb hby d4_36) (fun _ _ => ⟨rfl, e2, (by decide : 0 + 1 ≤ _), (by decide : 0 + 1 ≤ _)⟩)
  dsimp only [Pt.U, Pt.locs, Pt.cells, Pt.slots] at X5 l5 y5 z5 st5 hQ5
  subst l5 y5 z5
  obtain ⟨b5, kb5, rfl, Nq5, K5, g_b5, sz_b5, V5⟩ := hQ5
  have Nf5 := Fr.app N0 Nq5
  have Zp6 : n0 ≤ T5.heap.size := Nat.le_trans Z0 K5.1
  obtain ⟨_, _, ⟨T7, L7, k7, n7⟩, -, X7, ⟨Lc7, hQ7, l7, y7, z7⟩, st7⟩ := Jvm.LawKit.callS X5 hx (y := (⟨"java/lang/StringUTF16", "coderFromArrayLen", "([BI)B"⟩ : MethodName)) hown (mvT hZ (hw _ (List.mem_of_getElem? (i := 34) rfl))) (mvT hZ (hw _ (List.mem_of_getElem? (i := 35) rfl))) (mvT hZ (hw _ (List.mem_of_getElem? (i := 28) rfl))) (mvT hZ (hw _ (List.mem_of_getElem? (i := 36) rfl))) (by decide) (backOf (W := 1) (rm_cf_1 l Z a0 hw [] b5 (1 : Int32) kb5 [(.int (nar .byte (x0.toInt8.toInt32)))] T5.heap n0 Zp6 V5 rfl) hZ (hw _ (List.mem_of_getElem? (i := 36) rfl)) (hw _ (List.mem_of_getElem? (i := 28) rfl)) (by decide) (by decide)) (g := (mkF m 45 #[.val (.ref va), .val (.ref vc), .val (.int (0 : Int32)), .val (.int (1 : Int32)), .val .null, .val (.ref b5)] [(.int (1 : Int32)), (.ref b5), (.ref va)])) rfl (by rw [hml]; rfl) (argsL := [(.ref b5), (.int (1 : Int32))]) (rest := [(.ref va)]) (lenOf own_pd3 rfl) rfl (by show 2 * 0 + _ ≤ _; exact Nat.le_of_eq rfl) (hb hby d4_45) (fun _ _ => ⟨rfl, rfl, (by decide : 1 + 0 ≤ _), (by decide : 1 + 0 ≤ _)⟩)
  dsimp only [Pt.U, Pt.locs, Pt.cells, Pt.slots] at X7 l7 y7 z7 st7 hQ7
  subst l7 y7 z7
  obtain ⟨rfl, Nq7, hh7⟩ := hQ7
  have Nf7 := Fr.app Nf5 Nq7
  have Fc8 := (F_c.keep K5 nin0)
  have Fc9 := (E_a.keep K5)
  obtain ⟨T10, h10, X10, e10, W10, st10⟩ := putFN X7 hx hZ hown (hw _ (List.mem_of_getElem? (i := 37) rfl)) Via.refl hh7 Fc8 Fc9 (Or.inr ⟨(hw _ (List.mem_of_getElem? (i := 38) rfl)), rfl, hnm⟩) (hw _ (List.mem_of_getElem? (i := 12) rfl)) (ty := .byte) (v' := (.int (0 : Int32))) (by decide) rfl rfl (g := (mkF m 48 #[.val (.ref va), .val (.ref vc), .val (.int (0 : Int32)), .val (.int (1 : Int32)), .val .null, .val (.ref b5)] [(.int (0 : Int32)), (.ref va)])) rfl rfl (hb hby d4_48)
  have N10 := Fr.snoc X10 Nf7 g_va
  have Fw10 := Fld.same W10 Fc8
  have Zp11 : n0 ≤ h10.size := Nat.le_trans Zp6 (Nat.le_of_eq (Wr.size W10).symm)
  have Fc12 := (Fld.other W10 (F_v.keep K5 nin0) (Or.inr (slot_ne (Or.inr (hw _ (List.mem_of_getElem? (i := 40) rfl))) (Or.inr (hw _ (List.mem_of_getElem? (i := 38) rfl))) (by decide) (t := (.array .byte)) (t' := .byte) (by decide) (by decide))))
  have Fc13 := (Exa.wr W10 Fc9)
  obtain ⟨T14, h14, X14, e14, W14, st14⟩ := putF X10 hx hZ hown (host := "") (Or.inl (hw _ (List.mem_of_getElem? (i := 39) rfl))) Via.refl e10 Fc12 Fc13 (Or.inr ⟨(hw _ (List.mem_of_getElem? (i := 40) rfl)), rfl, hnm⟩) (hw _ (List.mem_of_getElem? (i := 12) rfl)) (ty := (.array .byte)) (by decide) rfl rfl (g := (mkF m 54 #[.val (.ref va), .val (.ref vc), .val (.int (0 : Int32)), .val (.int (1 : Int32)), .val .null, .val (.ref b5)] [(.ref b5), (.ref va)])) rfl rfl (hb hby d4_54)
  have N14 := Fr.snoc X14 N10 g_va
  have Fw14 := Fld.same W14 Fc12
  have Zp15 : n0 ≤ h14.size := Nat.le_trans Zp11 (Nat.le_of_eq (Wr.size W14).symm)
  obtain ⟨fs, hr, hrun, hended, hW, hsame⟩ := X14.leave (v := none) (fun _ => rfl)
  refine ⟨_, _, pre3 _ ?_, hrun, hended, _, _, rfl, ?_, ⟨_, rfl⟩, hW, hsame.mono (by decide) (by decide)⟩
  · show Steps p.tables e below (T2.setTop (mkF m 30 #[.val (.ref va), .val (.ref vc), .val (.int (0 : Int32)), .val (.int (1 : Int32)), .val .null, .unset] [(.int vcs)])) _
    refine XS.ifNo X2.here hx rfl (hb hby d4_30) rfl ((if0 _ _).trans (feq hd4).1) ?_
    show Steps p.tables e below (T2.setTop (mkF m 33 #[.val (.ref va), .val (.ref vc), .val (.int (0 : Int32)), .val (.int (1 : Int32)), .val .null, .unset] [])) _
    refine XS.aloadN X2.here hx rfl (hb hby d4_33) rfl rfl ?_
    show Steps p.tables e below (T2.setTop (mkF m 34 #[.val (.ref va), .val (.ref vc), .val (.int (0 : Int32)), .val (.int (1 : Int32)), .val .null, .unset] [(.ref vc)])) _
    refine XS.iloadN X2.here hx rfl (hb hby d4_34) rfl ?_
    show Steps p.tables e below (T2.setTop (mkF m 35 #[.val (.ref va), .val (.ref vc), .val (.int (0 : Int32)), .val (.int (1 : Int32)), .val .null, .unset] [(.int (0 : Int32)), (.ref vc)])) _
    refine XS.iloadN X2.here hx rfl (hb hby d4_35) rfl ?_
    show Steps p.tables e below (T2.setTop (mkF m 36 #[.val (.ref va), .val (.ref vc), .val (.int (0 : Int32)), .val (.int (1 : Int32)), .val .null, .unset] [(.int (1 : Int32)), (.int (0 : Int32)), (.ref vc)])) _
    refine st5 _ ?_
    show Steps p.tables e below (T5.setTop (mkF m 39 #[.val (.ref va), .val (.ref vc), .val (.int (0 : Int32)), .val (.int (1 : Int32)), .val .null, .unset] [(.ref b5)])) _
    refine XS.astore X5.here hx rfl (hb hby d4_39) rfl rfl (l' := #[.val (.ref va), .val (.ref vc), .val (.int (0 : Int32)), .val (.int (1 : Int32)), .val .null, .val (.ref b5)]) rfl ?_
    show Steps p.tables e below (T5.setTop (mkF m 41 #[.val (.ref va), .val (.ref vc), .val (.int (0 : Int32)), .val (.int (1 : Int32)), .val .null, .val (.ref b5)] [])) _
    refine XS.aloadN X5.here hx rfl (hb hby d4_41) rfl rfl ?_
    show Steps p.tables e below (T5.setTop (mkF m 42 #[.val (.ref va), .val (.ref vc), .val (.int (0 : Int32)), .val (.int (1 : Int32)), .val .null, .val (.ref b5)] [(.ref va)])) _
    refine XS.aload X5.here hx rfl (hb hby d4_42) rfl rfl ?_
    show Steps p.tables e below (T5.setTop (mkF m 44 #[.val (.ref va), .val (.ref vc), .val (.int (0 : Int32)), .val (.int (1 : Int32)), .val .null, .val (.ref b5)] [(.ref b5), (.ref va)])) _
    refine XS.iloadN X5.here hx rfl (hb hby d4_44) rfl ?_
    show Steps p.tables e below (T5.setTop (mkF m 45 #[.val (.ref va), .val (.ref vc), .val (.int (0 : Int32)), .val (.int (1 : Int32)), .val .null, .val (.ref b5)] [(.int (1 : Int32)), (.ref b5), (.ref va)])) _
    refine st7 _ ?_
    show Steps p.tables e below (T7.setTop (mkF m 48 #[.val (.ref va), .val (.ref vc), .val (.int (0 : Int32)), .val (.int (1 : Int32)), .val .null, .val (.ref b5)] [(.int (0 : Int32)), (.ref va)])) _
    refine st10 _ ?_
    show Steps p.tables e below (T10.setTop (mkF m 51 #[.val (.ref va), .val (.ref vc), .val (.int (0 : Int32)), .val (.int (1 : Int32)), .val .null, .val (.ref b5)] [])) _
    refine XS.aloadN X10.here hx rfl (hb hby d4_51) rfl rfl ?_
    show Steps p.tables e below (T10.setTop (mkF m 52 #[.val (.ref va), .val (.ref vc), .val (.int (0 : Int32)), .val (.int (1 : Int32)), .val .null, .val (.ref b5)] [(.ref va)])) _
    refine XS.aload X10.here hx rfl (hb hby d4_52) rfl rfl ?_
    show Steps p.tables e below (T10.setTop (mkF m 54 #[.val (.ref va), .val (.ref vc), .val (.int (0 : Int32)), .val (.int (1 : Int32)), .val .null, .val (.ref b5)] [(.ref b5), (.ref va)])) _
    refine st14 _ ?_
    show Steps p.tables e below (T14.setTop (mkF m 57 #[.val (.ref va), .val (.ref vc), .val (.int (0 : Int32)), .val (.int (1 : Int32)), .val .null, .val (.ref b5)] [])) _
    exact X14.returnOut hx Bd.returns (hb hby d4_57) hr
  · show Q_i4_1 Z va vc (0 : Int32) (1 : Int32) kc x0 vcs h0 n0 _ T14.heap _
    rw [e14]
    have Kc16 := (Keep.refl h0 [va]).trans K5 all0
    have Kc17 := Kc16.wr W10 (Or.inl (List.mem_of_getElem? (i := 0) rfl))
    have Kc18 := Kc17.wr W14 (Or.inl (List.mem_of_getElem? (i := 0) rfl))
    have Fc19 := (Exa.wr W14 Fc13)
    have Fc20 := (Fld.other W14 Fw10 (Or.inr (slot_ne (Or.inr (hw _ (List.mem_of_getElem? (i := 38) rfl))) (Or.inr (hw _ (List.mem_of_getElem? (i := 40) rfl))) (by decide) (t := .byte) (t' := (.array .byte)) (by decide) (by decide))))
    have Fc21 := ((V5.other W10 (Ne.symm (Nat.ne_of_lt (Nat.lt_of_lt_of_le (E_a).lt sz_b5)))).other W14 (Ne.symm (Nat.ne_of_lt (Nat.lt_of_lt_of_le (E_a).lt sz_b5))))
    exact ⟨b5, kb5, rfl, N14, Kc18, Fc19, Fw14, Fc20, Fc21⟩
theorem pn_rm_i1_1 : plainName "java/lang/String" = true := by first | (simp [plainName, overriddenIn]; done) | decide +kernel
theorem ef_rm_i1_1 (m : MethodId) (va : Addr) (vc : Addr) : entryFrame m #[(.ref va), (.ref vc)] 2 = mkF m 0 #[.val (.ref va), .val (.ref vc)] [] := by first | (simp [entryFrame, mkF, argsToLocals, Value.category]; done) | rfl
def Q_i1_1 (Z : State) (va : Addr) (vc : Addr) (kc : ClassId) (x0 : Int32) (vcs : Int32) (h0 : Heap) (n0 : Nat) (v : Option Value) (h : Heap) (L : List Loc) : Prop := ∃ (b : Addr) (kb : ClassId), v = none ∧ Fr n0 L ∧ Keep h0 h [va] ∧ Exa Z h va "java/lang/String" ∧ Fld Z h va "java/lang/String" "value" "[B" (.ref b) ∧ Fld Z h va "java/lang/String" "coder" "B" (.int (0 : Int32)) ∧ Arv Z h b kb .byte (1 : Int32) [(.int (nar .byte (x0.toInt8.toInt32)))] (.int (0 : Int32))
set_option maxRecDepth 65536 in
set_option maxHeartbeats 40000000 in
theorem rm_i1_1 (l : Launch) (Z : State) (a0 : Array Value) (hw : ∀ d ∈ tables_1, d.before a0 Z = true) (ws : List Jvm.Cond) (va : Addr) (vc : Addr) (kc : ClassId) (x0 : Int32) (vcs : Int32) (h0 : Heap) (n0 : Nat) (Z0 : n0 ≤ h0.size) (E_a : Exa Z h0 va "java/lang/String") (g_va : n0 ≤ va) (F_v : Fld Z h0 va "java/lang/String" "value" "[B" .null) (F_c : Fld Z h0 va "java/lang/String" "coder" "B" (.int (0 : Int32))) (V_c : Arv Z h0 vc kc .char (1 : Int32) [(.int x0)] (.int (0 : Int32))) (hx0 : ¬ (255 : Int32) < x0) (S_cs : Sta Z h0 "java/lang/String" "COMPACT_STRINGS" "Z" (.int vcs)) (hcs : ¬ vcs = 0) :
    MetFree l (⟨"java/lang/String", "<init>", "([C)V"⟩ : MethodName) (head1 (Jvm.Cond.code (⟨"java/lang/String", "<init>", "([C)V"⟩ : MethodName) jdk_42_method_3_code 2 none :: ws) ({ frames := 3, cells := 1, slots := 1, locals := 52 } : Room)) (fun a U => a = #[(.ref va), (.ref vc)] ∧ Z.Warmed39 U.vm ∧ U.heap = h0) (fun _ _ _ _ _ => True) (fun _ U o U' => ∃ v L, o = .returned v ∧ Q_i1_1 Z va vc kc x0 vcs h0 n0 v U'.heap L ∧ FrameEnd U o U' L ({ frames := 3, cells := 1, slots := 1, locals := 52 } : Room).cells ({ frames := 3, cells := 1, slots := 1, locals := 52 } : Room).slots) := by
  refine MetFree.of_bodySF (plainFor_of_name pn_rm_i1_1) hisR ?_
  intro p e s m args below meth c s₁ Bd hml0 hP hK
  obtain ⟨rfl, hZ, hh⟩ := hP
  have hx := Bd.exec
  have hby := Bd.bytes
  have hml : c.maxLocals = 2 := hml0
  have hown : s.vm.findClass "java/lang/String" = some m.cls := findClass_of_methodNamed Bd.named
  have hnm := (name_of_methodNamed Bd.named Bd.method).1
  have X0 : Stand p l e ({ frames := 3, cells := 1, slots := 1, locals := 52 } : Room) s m #[(.ref va), (.ref vc)] below meth c s₁ [] 0 0 := Stand.of_body Bd
  have e0 : s₁.heap = h0 := by rw [← hh, Bd.state]; rfl
  have N0 := Fr.nil n0
  have pre0 : ∀ t, Steps p.tables e below (s₁.setTop (mkF m 0 #[.val (.ref va), .val (.ref vc)] [])) t → Steps p.tables e below (s₁.setTop (entryFrame m #[(.ref va), (.ref vc)] 2)) t := fun t k => castTop (ef_rm_i1_1 m va vc) k
  obtain ⟨cl1, Ar1, -, S1, M1, -, -⟩ := id V_c
  obtain ⟨_, _, ⟨T2, L2, k2, n2⟩, -, X2, ⟨Lc2, hQ2, l2, y2, z2⟩, st2⟩ := X0.specialBack hx (y := (⟨"java/lang/String", "<init>", "([CIILjava/lang/Void;)V"⟩ : MethodName)) rfl hown (mvT hZ (hw _ (List.mem_of_getElem? (i := 18) rfl))) (mvT hZ (hw _ (List.mem_of_getElem? (i := 19) rfl))) (mvT hZ (hw _ (List.mem_of_getElem? (i := 21) rfl))) (by decide) (backOf (W := 0) (rm_i4_1 l Z a0 hw [] va vc (0 : Int32) (1 : Int32) kc x0 vcs h0 n0 Z0 E_a g_va F_v F_c V_c rfl rfl hx0 S_cs hcs) hZ (hw _ (List.mem_of_getElem? (i := 21) rfl)) (hw _ (List.mem_of_getElem? (i := 13) rfl)) (by decide) (by decide)) (g := (mkF m 6 #[.val (.ref va), .val (.ref vc)] [.null, (.int (1 : Int32)), (.int (0 : Int32)), (.ref vc), (.ref va)])) rfl (by rw [hml]; rfl) (Steps.refl _) (a := va) (argsL := [(.ref vc), (.int (0 : Int32)), (.int (1 : Int32)), .null]) (rest := []) (lenOf own_pd0 rfl) rfl (by show 2 * 0 + _ ≤ _; exact Nat.le_of_eq rfl) (hb hby d3_6) (fun _ _ => ⟨rfl, e0, (by decide : 0 + 1 ≤ _), (by decide : 0 + 1 ≤ _)⟩)
  dsimp only [Pt.U, Pt.locs, Pt.cells, Pt.slots] at X2 l2 y2 z2 st2 hQ2
  subst l2 y2 z2
  obtain ⟨b2, kb2, rfl, Nq2, K2, Ex2, Fv2, Fc2, V2⟩ := hQ2
  have Nf2 := Fr.app N0 Nq2
  have Zp3 : n0 ≤ T2.heap.size := Nat.le_trans Z0 K2.1
  obtain ⟨fs, hr, hrun, hended, hW, hsame⟩ := X2.leave (v := none) (fun _ => rfl)
  refine ⟨_, _, pre0 _ ?_, hrun, hended, _, _, rfl, ?_, ⟨_, rfl⟩, hW, hsame.mono (by decide) (by decide)⟩
  · show Steps p.tables e below (s₁.setTop (mkF m 0 #[.val (.ref va), .val (.ref vc)] [])) _
    refine XS.aloadN X0.here hx rfl (hb hby d3_0) rfl rfl ?_
    show Steps p.tables e below (s₁.setTop (mkF m 1 #[.val (.ref va), .val (.ref vc)] [(.ref va)])) _
    refine XS.aloadN X0.here hx rfl (hb hby d3_1) rfl rfl ?_
    show Steps p.tables e below (s₁.setTop (mkF m 2 #[.val (.ref va), .val (.ref vc)] [(.ref vc), (.ref va)])) _
    refine XS.iconst X0.here hx rfl (hb hby d3_2) ?_
    show Steps p.tables e below (s₁.setTop (mkF m 3 #[.val (.ref va), .val (.ref vc)] [(.int (0 : Int32)), (.ref vc), (.ref va)])) _
    refine XS.aloadN X0.here hx rfl (hb hby d3_3) rfl rfl ?_
    show Steps p.tables e below (s₁.setTop (mkF m 4 #[.val (.ref va), .val (.ref vc)] [(.ref vc), (.int (0 : Int32)), (.ref vc), (.ref va)])) _
    refine X0.arraylength hx (by rw [e0]; exact Ar1.1) (State.isArrayOf_alike hZ.alike Ar1.2.1) (g := (mkF m 4 #[.val (.ref va), .val (.ref vc)] [(.ref vc), (.int (0 : Int32)), (.ref vc), (.ref va)])) rfl rfl (hb hby d3_4) _ ?_
    rw [len_of S1 M1]
    show Steps p.tables e below (s₁.setTop (mkF m 5 #[.val (.ref va), .val (.ref vc)] [(.int (1 : Int32)), (.int (0 : Int32)), (.ref vc), (.ref va)])) _
    refine XS.aconstNull X0.here hx rfl (hb hby d3_5) ?_
    show Steps p.tables e below (s₁.setTop (mkF m 6 #[.val (.ref va), .val (.ref vc)] [.null, (.int (1 : Int32)), (.int (0 : Int32)), (.ref vc), (.ref va)])) _
    refine st2.trans ?_
    show Steps p.tables e below (T2.setTop (mkF m 9 #[.val (.ref va), .val (.ref vc)] [])) _
    exact X2.returnOut hx Bd.returns (hb hby d3_9) hr
  · show Q_i1_1 Z va vc kc x0 vcs h0 n0 _ T2.heap _
    have Kc4 := (Keep.refl h0 [va]).trans K2 (allS (Or.inl (List.mem_of_getElem? (i := 0) rfl)) all0)
    exact ⟨b2, kb2, rfl, Nf2, Kc4, Ex2, Fv2, Fc2, V2⟩
theorem pn_rm_c5_2 : plainName "java/lang/StringUTF16" = true := by first | (simp [plainName, overriddenIn]; done) | decide +kernel
theorem ef_rm_c5_2 (m : MethodId) (vc : Addr) (vo : Int32) (vb : Addr) (vp : Int32) (vq : Int32) : entryFrame m #[(.ref vc), (.int vo), (.ref vb), (.int vp), (.int vq)] 7 = mkF m 0 #[.val (.ref vc), .val (.int vo), .val (.ref vb), .val (.int vp), .val (.int vq), .unset, .unset] [] := by first | (simp [entryFrame, mkF, argsToLocals, Value.category]; done) | rfl
def Q_c5_2 (Z : State) (vc : Addr) (vo : Int32) (vb : Addr) (vp : Int32) (vq : Int32) (kc : ClassId) (kb : ClassId) (x0 : Int32) (x1 : Int32) (h0 : Heap) (n0 : Nat) (v : Option Value) (h : Heap) (L : List Loc) : Prop := v = some (.int (2 : Int32)) ∧ Fr n0 L ∧ Keep h0 h [vb] ∧ Arv Z h vb kb .byte (2 : Int32) [(.int (nar .byte (x0.toInt8.toInt32))), (.int (nar .byte (x1.toInt8.toInt32)))] (.int (0 : Int32))
set_option maxRecDepth 65536 in
set_option maxHeartbeats 40000000 in
theorem rm_c5_2 (l : Launch) (Z : State) (a0 : Array Value) (hw : ∀ d ∈ tables_1, d.before a0 Z = true) (ws : List Jvm.Cond) (vc : Addr) (vo : Int32) (vb : Addr) (vp : Int32) (vq : Int32) (kc : ClassId) (kb : ClassId) (x0 : Int32) (x1 : Int32) (h0 : Heap) (n0 : Nat) (Z0 : n0 ≤ h0.size) (V_c : Arv Z h0 vc kc .char (2 : Int32) [(.int x0), (.int x1)] (.int (0 : Int32))) (V_b : Arv Z h0 vb kb .byte (2 : Int32) [(.int (0 : Int32)), (.int (0 : Int32))] (.int (0 : Int32))) (g_vb : n0 ≤ vb) (ncb : vc ≠ vb) (ho : vo = (0 : Int32)) (hp : vp = (0 : Int32)) (hq : vq = (2 : Int32)) (hx0 : ¬ (255 : Int32) < x0) (hx1 : ¬ (255 : Int32) < x1) :
    MetFree l (⟨"java/lang/StringUTF16", "compress", "([CI[BII)I"⟩ : MethodName) (head1 (Jvm.Cond.code (⟨"java/lang/StringUTF16", "compress", "([CI[BII)I"⟩ : MethodName) jdk_52_method_21_code 7 (some .int) :: ws) ({ frames := 0, cells := 0, slots := 0, locals := 0 } : Room)) (fun a U => a = #[(.ref vc), (.int vo), (.ref vb), (.int vp), (.int vq)] ∧ Z.Warmed39 U.vm ∧ U.heap = h0) (fun _ _ _ _ _ => True) (fun _ U o U' => ∃ v L, o = .returned v ∧ Q_c5_2 Z vc vo vb vp vq kc kb x0 x1 h0 n0 v U'.heap L ∧ FrameEnd U o U' L ({ frames := 0, cells := 0, slots := 0, locals := 0 } : Room).cells ({ frames := 0, cells := 0, slots := 0, locals := 0 } : Room).slots) := by
  subst ho
  subst hp
  subst hq
  refine MetFree.of_bodySF (plainFor_of_name pn_rm_c5_2) hisR ?_
  intro p e s m args below meth c s₁ Bd hml0 hP hK
  obtain ⟨rfl, hZ, hh⟩ := hP
  have hx := Bd.exec
  have hby := Bd.bytes
  have hml : c.maxLocals = 7 := hml0
  have hown : s.vm.findClass "java/lang/StringUTF16" = some m.cls := findClass_of_methodNamed Bd.named
  have hnm := (name_of_methodNamed Bd.named Bd.method).1
  have X0 : Stand p l e ({ frames := 0, cells := 0, slots := 0, locals := 0 } : Room) s m #[(.ref vc), (.int (0 : Int32)), (.ref vb), (.int (0 : Int32)), (.int (2 : Int32))] below meth c s₁ [] 0 0 := Stand.of_body Bd
  have e0 : s₁.heap = h0 := by rw [← hh, Bd.state]; rfl
  have N0 := Fr.nil n0
  have pre0 : ∀ t, Steps p.tables e below (s₁.setTop (mkF m 0 #[.val (.ref vc), .val (.int (0 : Int32)), .val (.ref vb), .val (.int (0 : Int32)), .val (.int (2 : Int32)), .unset, .unset] [])) t → Steps p.tables e below (s₁.setTop (entryFrame m #[(.ref vc), (.int (0 : Int32)), (.ref vb), (.int (0 : Int32)), (.int (2 : Int32))] 7)) t := fun t k => castTop (ef_rm_c5_2 m vc (0 : Int32) vb (0 : Int32) (2 : Int32)) k
  obtain ⟨cl1, Ar1, q1, S1, M1, H1, G1⟩ := id V_c
  have hin1 : ¬ ((0 : Int32) < 0 ∨ cl1.slots.size ≤ ((0 : Int32)).toNatClampNeg) := inb_of S1 ⟨by decide, by decide⟩
  have hat1 : cl1.slots[((0 : Int32)).toNatClampNeg]? = some (.int x0) := H1.at hin1 rfl
  have pre2 : ∀ t, Steps p.tables e below (s₁.setTop (mkF m 20 #[.val (.ref vc), .val (.int (0 : Int32)), .val (.ref vb), .val (.int (0 : Int32)), .val (.int (2 : Int32)), .val (.int (0 : Int32)), .val (.int x0)] [(.int (255 : Int32)), (.int x0)])) t → Steps p.tables e below (s₁.setTop (entryFrame m #[(.ref vc), (.int (0 : Int32)), (.ref vb), (.int (0 : Int32)), (.int (2 : Int32))] 7)) t := by
    intro t k
    refine pre0 t ?_
    show Steps p.tables e below (s₁.setTop (mkF m 0 #[.val (.ref vc), .val (.int (0 : Int32)), .val (.ref vb), .val (.int (0 : Int32)), .val (.int (2 : Int32)), .unset, .unset] [])) _
    refine XS.iconst X0.here hx rfl (hb hby d7_0) ?_
    show Steps p.tables e below (s₁.setTop (mkF m 1 #[.val (.ref vc), .val (.int (0 : Int32)), .val (.ref vb), .val (.int (0 : Int32)), .val (.int (2 : Int32)), .unset, .unset] [(.int (0 : Int32))])) _
    refine XS.istore X0.here hx rfl (hb hby d7_1) rfl (l' := #[.val (.ref vc), .val (.int (0 : Int32)), .val (.ref vb), .val (.int (0 : Int32)), .val (.int (2 : Int32)), .val (.int (0 : Int32)), .unset]) rfl ?_
    show Steps p.tables e below (s₁.setTop (mkF m 3 #[.val (.ref vc), .val (.int (0 : Int32)), .val (.ref vb), .val (.int (0 : Int32)), .val (.int (2 : Int32)), .val (.int (0 : Int32)), .unset] [])) _
    refine XS.iload X0.here hx rfl (hb hby d7_3) rfl ?_
    show Steps p.tables e below (s₁.setTop (mkF m 5 #[.val (.ref vc), .val (.int (0 : Int32)), .val (.ref vb), .val (.int (0 : Int32)), .val (.int (2 : Int32)), .val (.int (0 : Int32)), .unset] [(.int (0 : Int32))])) _
    refine XS.iload X0.here hx rfl (hb hby d7_5) rfl ?_
    show Steps p.tables e below (s₁.setTop (mkF m 7 #[.val (.ref vc), .val (.int (0 : Int32)), .val (.ref vb), .val (.int (0 : Int32)), .val (.int (2 : Int32)), .val (.int (0 : Int32)), .unset] [(.int (2 : Int32)), (.int (0 : Int32))])) _
    refine XS.icmpNo X0.here hx rfl (hb hby d7_7) rfl (by decide) ?_
    show Steps p.tables e below (s₁.setTop (mkF m 10 #[.val (.ref vc), .val (.int (0 : Int32)), .val (.ref vb), .val (.int (0 : Int32)), .val (.int (2 : Int32)), .val (.int (0 : Int32)), .unset] [])) _
    refine XS.aloadN X0.here hx rfl (hb hby d7_10) rfl rfl ?_
    show Steps p.tables e below (s₁.setTop (mkF m 11 #[.val (.ref vc), .val (.int (0 : Int32)), .val (.ref vb), .val (.int (0 : Int32)), .val (.int (2 : Int32)), .val (.int (0 : Int32)), .unset] [(.ref vc)])) _
    refine XS.iloadN X0.here hx rfl (hb hby d7_11) rfl ?_
    show Steps p.tables e below (s₁.setTop (mkF m 12 #[.val (.ref vc), .val (.int (0 : Int32)), .val (.ref vb), .val (.int (0 : Int32)), .val (.int (2 : Int32)), .val (.int (0 : Int32)), .unset] [(.int (0 : Int32)), (.ref vc)])) _
    refine X0.caload hx (j := (0 : Int32)) (v := (.int x0)) (by rw [e0]; exact Ar1.1) (State.isArrayOf_alike hZ.alike Ar1.2.1) Ar1.2.2 hin1 hat1 (g := (mkF m 12 #[.val (.ref vc), .val (.int (0 : Int32)), .val (.ref vb), .val (.int (0 : Int32)), .val (.int (2 : Int32)), .val (.int (0 : Int32)), .unset] [(.int (0 : Int32)), (.ref vc)])) rfl rfl (hb hby d7_12) _ ?_
    show Steps p.tables e below (s₁.setTop (mkF m 13 #[.val (.ref vc), .val (.int (0 : Int32)), .val (.ref vb), .val (.int (0 : Int32)), .val (.int (2 : Int32)), .val (.int (0 : Int32)), .unset] [(.int x0)])) _
    refine XS.istore X0.here hx rfl (hb hby d7_13) rfl (l' := #[.val (.ref vc), .val (.int (0 : Int32)), .val (.ref vb), .val (.int (0 : Int32)), .val (.int (2 : Int32)), .val (.int (0 : Int32)), .val (.int x0)]) rfl ?_
    show Steps p.tables e below (s₁.setTop (mkF m 15 #[.val (.ref vc), .val (.int (0 : Int32)), .val (.ref vb), .val (.int (0 : Int32)), .val (.int (2 : Int32)), .val (.int (0 : Int32)), .val (.int x0)] [])) _
    refine XS.iload X0.here hx rfl (hb hby d7_15) rfl ?_
    show Steps p.tables e below (s₁.setTop (mkF m 17 #[.val (.ref vc), .val (.int (0 : Int32)), .val (.ref vb), .val (.int (0 : Int32)), .val (.int (2 : Int32)), .val (.int (0 : Int32)), .val (.int x0)] [(.int x0)])) _
    refine XS.sipush X0.here hx rfl (hb hby d7_17) ?_
    show Steps p.tables e below (s₁.setTop (mkF m 20 #[.val (.ref vc), .val (.int (0 : Int32)), .val (.ref vb), .val (.int (0 : Int32)), .val (.int (2 : Int32)), .val (.int (0 : Int32)), .val (.int x0)] [(.int (255 : Int32)), (.int x0)])) _
    exact k
  have hd3 : ¬ ((255 : Int32) < x0) := hx0
  obtain ⟨cl4, Ar4, q4, S4, M4, H4, G4⟩ := id V_b
  have hin4 : ¬ ((0 : Int32) < 0 ∨ cl4.slots.size ≤ ((0 : Int32)).toNatClampNeg) := inb_of S4 ⟨by decide, by decide⟩
  obtain ⟨T5, h5, X5, e5, W5, st5⟩ := stB X0 hx hZ e0 Ar4 (j := (0 : Int32)) hin4 (g := (mkF m 31 #[.val (.ref vc), .val (.int (0 : Int32)), .val (.ref vb), .val (.int (0 : Int32)), .val (.int (2 : Int32)), .val (.int (0 : Int32)), .val (.int x0)] [(.int (x0.toInt8.toInt32)), (.int (0 : Int32)), (.ref vb)])) rfl rfl (hb hby d7_31)
  have N5 := Fr.snoc X5 N0 g_vb
  have V5 : Arv Z h5 vb kb .byte (2 : Int32) [(.int (nar .byte (x0.toInt8.toInt32))), (.int (0 : Int32))] (.int (0 : Int32)) := Arv.set Ar4 q4 S4 M4 H4 G4 (fits_nar_byte _) W5 0 rfl (Nat.le_of_ble_eq_true rfl)
  have Zp6 : n0 ≤ h5.size := Nat.le_trans Z0 (Nat.le_of_eq (Wr.size W5).symm)
  have Fc7 := (V_c.other W5 ncb)
  obtain ⟨cl8, Ar8, q8, S8, M8, H8, G8⟩ := id Fc7
  have hin8 : ¬ ((1 : Int32) < 0 ∨ cl8.slots.size ≤ ((1 : Int32)).toNatClampNeg) := inb_of S8 ⟨by decide, by decide⟩
  have hat8 : cl8.slots[((1 : Int32)).toNatClampNeg]? = some (.int x1) := H8.at hin8 rfl
  have pre9 : ∀ t, Steps p.tables e below (T5.setTop (mkF m 20 #[.val (.ref vc), .val (.int (1 : Int32)), .val (.ref vb), .val (.int (1 : Int32)), .val (.int (2 : Int32)), .val (.int (1 : Int32)), .val (.int x1)] [(.int (255 : Int32)), (.int x1)])) t → Steps p.tables e below (s₁.setTop (entryFrame m #[(.ref vc), (.int (0 : Int32)), (.ref vb), (.int (0 : Int32)), (.int (2 : Int32))] 7)) t := by
    intro t k
    refine pre2 t ?_
    show Steps p.tables e below (s₁.setTop (mkF m 20 #[.val (.ref vc), .val (.int (0 : Int32)), .val (.ref vb), .val (.int (0 : Int32)), .val (.int (2 : Int32)), .val (.int (0 : Int32)), .val (.int x0)] [(.int (255 : Int32)), (.int x0)])) _
    refine XS.icmpYes X0.here hx rfl (pc0 := 20) (pc' := 26) rfl (hb hby d7_20) rfl (flt hd3).2.2.2 (by decide) (by decide) ?_
    show Steps p.tables e below (s₁.setTop (mkF m 26 #[.val (.ref vc), .val (.int (0 : Int32)), .val (.ref vb), .val (.int (0 : Int32)), .val (.int (2 : Int32)), .val (.int (0 : Int32)), .val (.int x0)] [])) _
    refine XS.aloadN X0.here hx rfl (hb hby d7_26) rfl rfl ?_
    show Steps p.tables e below (s₁.setTop (mkF m 27 #[.val (.ref vc), .val (.int (0 : Int32)), .val (.ref vb), .val (.int (0 : Int32)), .val (.int (2 : Int32)), .val (.int (0 : Int32)), .val (.int x0)] [(.ref vb)])) _
    refine XS.iloadN X0.here hx rfl (hb hby d7_27) rfl ?_
    show Steps p.tables e below (s₁.setTop (mkF m 28 #[.val (.ref vc), .val (.int (0 : Int32)), .val (.ref vb), .val (.int (0 : Int32)), .val (.int (2 : Int32)), .val (.int (0 : Int32)), .val (.int x0)] [(.int (0 : Int32)), (.ref vb)])) _
    refine XS.iload X0.here hx rfl (hb hby d7_28) rfl ?_
    show Steps p.tables e below (s₁.setTop (mkF m 30 #[.val (.ref vc), .val (.int (0 : Int32)), .val (.ref vb), .val (.int (0 : Int32)), .val (.int (2 : Int32)), .val (.int (0 : Int32)), .val (.int x0)] [(.int x0), (.int (0 : Int32)), (.ref vb)])) _
    refine XS.i2b X0.here hx rfl (hb hby d7_30) rfl ?_
    show Steps p.tables e below (s₁.setTop (mkF m 31 #[.val (.ref vc), .val (.int (0 : Int32)), .val (.ref vb), .val (.int (0 : Int32)), .val (.int (2 : Int32)), .val (.int (0 : Int32)), .val (.int x0)] [(.int (x0.toInt8.toInt32)), (.int (0 : Int32)), (.ref vb)])) _
    refine st5 _ ?_
    show Steps p.tables e below (T5.setTop (mkF m 32 #[.val (.ref vc), .val (.int (0 : Int32)), .val (.ref vb), .val (.int (0 : Int32)), .val (.int (2 : Int32)), .val (.int (0 : Int32)), .val (.int x0)] [])) _
    refine XS.iinc X5.here hx rfl (hb hby d7_32) rfl (l' := #[.val (.ref vc), .val (.int (1 : Int32)), .val (.ref vb), .val (.int (0 : Int32)), .val (.int (2 : Int32)), .val (.int (0 : Int32)), .val (.int x0)]) rfl ?_
    show Steps p.tables e below (T5.setTop (mkF m 35 #[.val (.ref vc), .val (.int (1 : Int32)), .val (.ref vb), .val (.int (0 : Int32)), .val (.int (2 : Int32)), .val (.int (0 : Int32)), .val (.int x0)] [])) _
    refine XS.iinc X5.here hx rfl (hb hby d7_35) rfl (l' := #[.val (.ref vc), .val (.int (1 : Int32)), .val (.ref vb), .val (.int (1 : Int32)), .val (.int (2 : Int32)), .val (.int (0 : Int32)), .val (.int x0)]) rfl ?_
    show Steps p.tables e below (T5.setTop (mkF m 38 #[.val (.ref vc), .val (.int (1 : Int32)), .val (.ref vb), .val (.int (1 : Int32)), .val (.int (2 : Int32)), .val (.int (0 : Int32)), .val (.int x0)] [])) _
    refine XS.iinc X5.here hx rfl (hb hby d7_38) rfl (l' := #[.val (.ref vc), .val (.int (1 : Int32)), .val (.ref vb), .val (.int (1 : Int32)), .val (.int (2 : Int32)), .val (.int (1 : Int32)), .val (.int x0)]) rfl ?_
    show Steps p.tables e below (T5.setTop (mkF m 41 #[.val (.ref vc), .val (.int (1 : Int32)), .val (.ref vb), .val (.int (1 : Int32)), .val (.int (2 : Int32)), .val (.int (1 : Int32)), .val (.int x0)] [])) _
    refine XS.goto X5.here hx rfl (pc0 := 41) (pc' := 3) rfl (hb hby d7_41) (by decide) (by decide) ?_
    show Steps p.tables e below (T5.setTop (mkF m 3 #[.val (.ref vc), .val (.int (1 : Int32)), .val (.ref vb), .val (.int (1 : Int32)), .val (.int (2 : Int32)), .val (.int (1 : Int32)), .val (.int x0)] [])) _
    refine XS.iload X5.here hx rfl (hb hby d7_3) rfl ?_
    show Steps p.tables e below (T5.setTop (mkF m 5 #[.val (.ref vc), .val (.int (1 : Int32)), .val (.ref vb), .val (.int (1 : Int32)), .val (.int (2 : Int32)), .val (.int (1 : Int32)), .val (.int x0)] [(.int (1 : Int32))])) _
    refine XS.iload X5.here hx rfl (hb hby d7_5) rfl ?_
    show Steps p.tables e below (T5.setTop (mkF m 7 #[.val (.ref vc), .val (.int (1 : Int32)), .val (.ref vb), .val (.int (1 : Int32)), .val (.int (2 : Int32)), .val (.int (1 : Int32)), .val (.int x0)] [(.int (2 : Int32)), (.int (1 : Int32))])) _
    refine XS.icmpNo X5.here hx rfl (hb hby d7_7) rfl (by decide) ?_
    show Steps p.tables e below (T5.setTop (mkF m 10 #[.val (.ref vc), .val (.int (1 : Int32)), .val (.ref vb), .val (.int (1 : Int32)), .val (.int (2 : Int32)), .val (.int (1 : Int32)), .val (.int x0)] [])) _
    refine XS.aloadN X5.here hx rfl (hb hby d7_10) rfl rfl ?_
    show Steps p.tables e below (T5.setTop (mkF m 11 #[.val (.ref vc), .val (.int (1 : Int32)), .val (.ref vb), .val (.int (1 : Int32)), .val (.int (2 : Int32)), .val (.int (1 : Int32)), .val (.int x0)] [(.ref vc)])) _
    refine XS.iloadN X5.here hx rfl (hb hby d7_11) rfl ?_
    show Steps p.tables e below (T5.setTop (mkF m 12 #[.val (.ref vc), .val (.int (1 : Int32)), .val (.ref vb), .val (.int (1 : Int32)), .val (.int (2 : Int32)), .val (.int (1 : Int32)), .val (.int x0)] [(.int (1 : Int32)), (.ref vc)])) _
    refine X5.caload hx (j := (1 : Int32)) (v := (.int x1)) (by rw [e5]; exact Ar8.1) (State.isArrayOf_alike hZ.alike Ar8.2.1) Ar8.2.2 hin8 hat8 (g := (mkF m 12 #[.val (.ref vc), .val (.int (1 : Int32)), .val (.ref vb), .val (.int (1 : Int32)), .val (.int (2 : Int32)), .val (.int (1 : Int32)), .val (.int x0)] [(.int (1 : Int32)), (.ref vc)])) rfl rfl (hb hby d7_12) _ ?_
    show Steps p.tables e below (T5.setTop (mkF m 13 #[.val (.ref vc), .val (.int (1 : Int32)), .val (.ref vb), .val (.int (1 : Int32)), .val (.int (2 : Int32)), .val (.int (1 : Int32)), .val (.int x0)] [(.int x1)])) _
    refine XS.istore X5.here hx rfl (hb hby d7_13) rfl (l' := #[.val (.ref vc), .val (.int (1 : Int32)), .val (.ref vb), .val (.int (1 : Int32)), .val (.int (2 : Int32)), .val (.int (1 : Int32)), .val (.int x1)]) rfl ?_
    show Steps p.tables e below (T5.setTop (mkF m 15 #[.val (.ref vc), .val (.int (1 : Int32)), .val (.ref vb), .val (.int (1 : Int32)), .val (.int (2 : Int32)), .val (.int (1 : Int32)), .val (.int x1)] [])) _
    refine XS.iload X5.here hx rfl (hb hby d7_15) rfl ?_
    show Steps p.tables e below (T5.setTop (mkF m 17 #[.val (.ref vc), .val (.int (1 : Int32)), .val (.ref vb), .val (.int (1 : Int32)), .val (.int (2 : Int32)), .val (.int (1 : Int32)), .val (.int x1)] [(.int x1)])) _
    refine XS.sipush X5.here hx rfl (hb hby d7_17) ?_
    show Steps p.tables e below (T5.setTop (mkF m 20 #[.val (.ref vc), .val (.int (1 : Int32)), .val (.ref vb), .val (.int (1 : Int32)), .val (.int (2 : Int32)), .val (.int (1 : Int32)), .val (.int x1)] [(.int (255 : Int32)), (.int x1)])) _
    exact k
  have hd10 : ¬ ((255 : Int32) < x1) := hx1
  obtain ⟨cl11, Ar11, q11, S11, M11, H11, G11⟩ := id V5
  have hin11 : ¬ ((1 : Int32) < 0 ∨ cl11.slots.size ≤ ((1 : Int32)).toNatClampNeg) := inb_of S11 ⟨by decide, by decide⟩
  obtain ⟨T12, h12, X12, e12, W12, st12⟩ := stB X5 hx hZ e5 Ar11 (j := (1 : Int32)) hin11 (g := (mkF m 31 #[.val (.ref vc), .val (.int (1 : Int32)), .val (.ref vb), .val (.int (1 : Int32)), .val (.int (2 : Int32)), .val (.int (1 : Int32)), .val (.int x1)] [(.int (x1.toInt8.toInt32)), (.int (1 : Int32)), (.ref vb)])) rfl rfl (hb hby d7_31)
  have N12 := Fr.snoc X12 N5 g_vb
  have V12 : Arv Z h12 vb kb .byte (2 : Int32) [(.int (nar .byte (x0.toInt8.toInt32))), (.int (nar .byte (x1.toInt8.toInt32)))] (.int (0 : Int32)) := Arv.set Ar11 q11 S11 M11 H11 G11 (fits_nar_byte _) W12 1 rfl (Nat.le_of_ble_eq_true rfl)
  have Zp13 : n0 ≤ h12.size := Nat.le_trans Zp6 (Nat.le_of_eq (Wr.size W12).symm)
  obtain ⟨fs, hr, hrun, hended, hW, hsame⟩ := X12.leave (v := some (.int (2 : Int32))) (fun h => by rw [Bd.returns] at h; cases h)
  refine ⟨_, _, pre9 _ ?_, hrun, hended, _, _, rfl, ?_, ⟨_, rfl⟩, hW, hsame.mono (by decide) (by decide)⟩
  · show Steps p.tables e below (T5.setTop (mkF m 20 #[.val (.ref vc), .val (.int (1 : Int32)), .val (.ref vb), .val (.int (1 : Int32)), .val (.int (2 : Int32)), .val (.int (1 : Int32)), .val (.int x1)] [(.int (255 : Int32)), (.int x1)])) _
    refine XS.icmpYes X5.here hx rfl (pc0 := 20) (pc' := 26) rfl (hb hby d7_20) rfl (flt hd10).2.2.2 (by decide) (by decide) ?_
    show Steps p.tables e below (T5.setTop (mkF m 26 #[.val (.ref vc), .val (.int (1 : Int32)), .val (.ref vb), .val (.int (1 : Int32)), .val (.int (2 : Int32)), .val (.int (1 : Int32)), .val (.int x1)] [])) _
    refine XS.aloadN X5.here hx rfl (hb hby d7_26) rfl rfl ?_
    show Steps p.tables e below (T5.setTop (mkF m 27 #[.val (.ref vc), .val (.int (1 : Int32)), .val (.ref vb), .val (.int (1 : Int32)), .val (.int (2 : Int32)), .val (.int (1 : Int32)), .val (.int x1)] [(.ref vb)])) _
    refine XS.iloadN X5.here hx rfl (hb hby d7_27) rfl ?_
    show Steps p.tables e below (T5.setTop (mkF m 28 #[.val (.ref vc), .val (.int (1 : Int32)), .val (.ref vb), .val (.int (1 : Int32)), .val (.int (2 : Int32)), .val (.int (1 : Int32)), .val (.int x1)] [(.int (1 : Int32)), (.ref vb)])) _
    refine XS.iload X5.here hx rfl (hb hby d7_28) rfl ?_
    show Steps p.tables e below (T5.setTop (mkF m 30 #[.val (.ref vc), .val (.int (1 : Int32)), .val (.ref vb), .val (.int (1 : Int32)), .val (.int (2 : Int32)), .val (.int (1 : Int32)), .val (.int x1)] [(.int x1), (.int (1 : Int32)), (.ref vb)])) _
    refine XS.i2b X5.here hx rfl (hb hby d7_30) rfl ?_
    show Steps p.tables e below (T5.setTop (mkF m 31 #[.val (.ref vc), .val (.int (1 : Int32)), .val (.ref vb), .val (.int (1 : Int32)), .val (.int (2 : Int32)), .val (.int (1 : Int32)), .val (.int x1)] [(.int (x1.toInt8.toInt32)), (.int (1 : Int32)), (.ref vb)])) _
    refine st12 _ ?_
    show Steps p.tables e below (T12.setTop (mkF m 32 #[.val (.ref vc), .val (.int (1 : Int32)), .val (.ref vb), .val (.int (1 : Int32)), .val (.int (2 : Int32)), .val (.int (1 : Int32)), .val (.int x1)] [])) _
    refine XS.iinc X12.here hx rfl (hb hby d7_32) rfl (l' := #[.val (.ref vc), .val (.int (2 : Int32)), .val (.ref vb), .val (.int (1 : Int32)), .val (.int (2 : Int32)), .val (.int (1 : Int32)), .val (.int x1)]) rfl ?_
    show Steps p.tables e below (T12.setTop (mkF m 35 #[.val (.ref vc), .val (.int (2 : Int32)), .val (.ref vb), .val (.int (1 : Int32)), .val (.int (2 : Int32)), .val (.int (1 : Int32)), .val (.int x1)] [])) _
    refine XS.iinc X12.here hx rfl (hb hby d7_35) rfl (l' := #[.val (.ref vc), .val (.int (2 : Int32)), .val (.ref vb), .val (.int (2 : Int32)), .val (.int (2 : Int32)), .val (.int (1 : Int32)), .val (.int x1)]) rfl ?_
    show Steps p.tables e below (T12.setTop (mkF m 38 #[.val (.ref vc), .val (.int (2 : Int32)), .val (.ref vb), .val (.int (2 : Int32)), .val (.int (2 : Int32)), .val (.int (1 : Int32)), .val (.int x1)] [])) _
    refine XS.iinc X12.here hx rfl (hb hby d7_38) rfl (l' := #[.val (.ref vc), .val (.int (2 : Int32)), .val (.ref vb), .val (.int (2 : Int32)), .val (.int (2 : Int32)), .val (.int (2 : Int32)), .val (.int x1)]) rfl ?_
    show Steps p.tables e below (T12.setTop (mkF m 41 #[.val (.ref vc), .val (.int (2 : Int32)), .val (.ref vb), .val (.int (2 : Int32)), .val (.int (2 : Int32)), .val (.int (2 : Int32)), .val (.int x1)] [])) _
    refine XS.goto X12.here hx rfl (pc0 := 41) (pc' := 3) rfl (hb hby d7_41) (by decide) (by decide) ?_
    show Steps p.tables e below (T12.setTop (mkF m 3 #[.val (.ref vc), .val (.int (2 : Int32)), .val (.ref vb), .val (.int (2 : Int32)), .val (.int (2 : Int32)), .val (.int (2 : Int32)), .val (.int x1)] [])) _
    refine XS.iload X12.here hx rfl (hb hby d7_3) rfl ?_
    show Steps p.tables e below (T12.setTop (mkF m 5 #[.val (.ref vc), .val (.int (2 : Int32)), .val (.ref vb), .val (.int (2 : Int32)), .val (.int (2 : Int32)), .val (.int (2 : Int32)), .val (.int x1)] [(.int (2 : Int32))])) _
    refine XS.iload X12.here hx rfl (hb hby d7_5) rfl ?_
    show Steps p.tables e below (T12.setTop (mkF m 7 #[.val (.ref vc), .val (.int (2 : Int32)), .val (.ref vb), .val (.int (2 : Int32)), .val (.int (2 : Int32)), .val (.int (2 : Int32)), .val (.int x1)] [(.int (2 : Int32)), (.int (2 : Int32))])) _
    refine XS.icmpYes X12.here hx rfl (pc0 := 7) (pc' := 44) rfl (hb hby d7_7) rfl (by decide) (by decide) (by decide) ?_
    show Steps p.tables e below (T12.setTop (mkF m 44 #[.val (.ref vc), .val (.int (2 : Int32)), .val (.ref vb), .val (.int (2 : Int32)), .val (.int (2 : Int32)), .val (.int (2 : Int32)), .val (.int x1)] [])) _
    refine XS.iload X12.here hx rfl (hb hby d7_44) rfl ?_
    show Steps p.tables e below (T12.setTop (mkF m 46 #[.val (.ref vc), .val (.int (2 : Int32)), .val (.ref vb), .val (.int (2 : Int32)), .val (.int (2 : Int32)), .val (.int (2 : Int32)), .val (.int x1)] [(.int (2 : Int32))])) _
    exact retI X12 hx Bd.returns (hb hby d7_46) hr
  · show Q_c5_2 Z vc (0 : Int32) vb (0 : Int32) (2 : Int32) kc kb x0 x1 h0 n0 _ T12.heap _
    rw [e12]
    have Kc14 := (Keep.refl h0 [vb]).wr W5 (Or.inl (List.mem_of_getElem? (i := 0) rfl))
    have Kc15 := Kc14.wr W12 (Or.inl (List.mem_of_getElem? (i := 0) rfl))
    exact ⟨rfl, N12, Kc15, V12⟩
theorem pn_rm_c3_2 : plainName "java/lang/StringUTF16" = true := by first | (simp [plainName, overriddenIn]; done) | decide +kernel
theorem ef_rm_c3_2 (m : MethodId) (vc : Addr) (vo : Int32) (vq : Int32) : entryFrame m #[(.ref vc), (.int vo), (.int vq)] 6 = mkF m 0 #[.val (.ref vc), .val (.int vo), .val (.int vq), .unset, .unset, .unset] [] := by first | (simp [entryFrame, mkF, argsToLocals, Value.category]; done) | rfl
def Q_c3_2 (Z : State) (vc : Addr) (vo : Int32) (vq : Int32) (kc : ClassId) (x0 : Int32) (x1 : Int32) (h0 : Heap) (n0 : Nat) (v : Option Value) (h : Heap) (L : List Loc) : Prop := ∃ (b : Addr) (kb : ClassId), v = some (.ref b) ∧ Fr n0 L ∧ Keep h0 h [] ∧ n0 ≤ b ∧ h0.size ≤ b ∧ Arv Z h b kb .byte (2 : Int32) [(.int (nar .byte (x0.toInt8.toInt32))), (.int (nar .byte (x1.toInt8.toInt32)))] (.int (0 : Int32))
set_option maxRecDepth 65536 in
set_option maxHeartbeats 40000000 in
theorem rm_c3_2 (l : Launch) (Z : State) (a0 : Array Value) (hw : ∀ d ∈ tables_1, d.before a0 Z = true) (ws : List Jvm.Cond) (vc : Addr) (vo : Int32) (vq : Int32) (kc : ClassId) (x0 : Int32) (x1 : Int32) (h0 : Heap) (n0 : Nat) (Z0 : n0 ≤ h0.size) (V_c : Arv Z h0 vc kc .char (2 : Int32) [(.int x0), (.int x1)] (.int (0 : Int32))) (ho : vo = (0 : Int32)) (hq : vq = (2 : Int32)) (hx0 : ¬ (255 : Int32) < x0) (hx1 : ¬ (255 : Int32) < x1) :
    MetFree l (⟨"java/lang/StringUTF16", "compress", "([CII)[B"⟩ : MethodName) (head1 (Jvm.Cond.code (⟨"java/lang/StringUTF16", "compress", "([CII)[B"⟩ : MethodName) jdk_52_method_16_code 6 (some (.array .byte)) :: ws) ({ frames := 1, cells := 1, slots := 2, locals := 18 } : Room)) (fun a U => a = #[(.ref vc), (.int vo), (.int vq)] ∧ Z.Warmed39 U.vm ∧ U.heap = h0) (fun _ _ _ _ _ => True) (fun _ U o U' => ∃ v L, o = .returned v ∧ Q_c3_2 Z vc vo vq kc x0 x1 h0 n0 v U'.heap L ∧ FrameEnd U o U' L ({ frames := 1, cells := 1, slots := 2, locals := 18 } : Room).cells ({ frames := 1, cells := 1, slots := 2, locals := 18 } : Room).slots) := by
  subst ho
  subst hq
  refine MetFree.of_bodySF (plainFor_of_name pn_rm_c3_2) hisR ?_
  intro p e s m args below meth c s₁ Bd hml0 hP hK
  obtain ⟨rfl, hZ, hh⟩ := hP
  have hx := Bd.exec
  have hby := Bd.bytes
  have hml : c.maxLocals = 6 := hml0
  have hown : s.vm.findClass "java/lang/StringUTF16" = some m.cls := findClass_of_methodNamed Bd.named
  have hnm := (name_of_methodNamed Bd.named Bd.method).1
  have X0 : Stand p l e ({ frames := 1, cells := 1, slots := 2, locals := 18 } : Room) s m #[(.ref vc), (.int (0 : Int32)), (.int (2 : Int32))] below meth c s₁ [] 0 0 := Stand.of_body Bd
  have e0 : s₁.heap = h0 := by rw [← hh, Bd.state]; rfl
  have N0 := Fr.nil n0
  have pre0 : ∀ t, Steps p.tables e below (s₁.setTop (mkF m 0 #[.val (.ref vc), .val (.int (0 : Int32)), .val (.int (2 : Int32)), .unset, .unset, .unset] [])) t → Steps p.tables e below (s₁.setTop (entryFrame m #[(.ref vc), (.int (0 : Int32)), (.int (2 : Int32))] 6)) t := fun t k => castTop (ef_rm_c3_2 m vc (0 : Int32) (2 : Int32)) k
  obtain ⟨T1, h1, k1, X1, e1, E1, A1, st1⟩ := newP X0 hx hZ (hw _ (List.mem_of_getElem? (i := 30) rfl)) e0 (g := (mkF m 1 #[.val (.ref vc), .val (.int (0 : Int32)), .val (.int (2 : Int32)), .unset, .unset, .unset] [(.int (2 : Int32))])) rfl (hb hby d6_1) rfl (by decide) (cap := 2) (by decide) (by decide) (by decide) (by decide)
  obtain ⟨b1, g1⟩ : ∃ z, z = h0.size := ⟨_, rfl⟩
  rw [← g1] at A1 st1
  have g_b1 : n0 ≤ b1 := Nat.le_trans Z0 (Nat.le_of_eq g1.symm)
  have Zp2 : n0 ≤ h1.size := Nat.le_trans Z0 E1.1
  have V1 : Arv Z h1 b1 k1 .byte (2 : Int32) [(.int (0 : Int32)), (.int (0 : Int32))] (.int (0 : Int32)) := (Arv.new A1 (by decide)).pad (pad_rep [] (.int (0 : Int32)) 2)
  have Fc3 := (V_c.ext E1)
  obtain ⟨_, _, ⟨T4, L4, k4, n4⟩, -, X4, ⟨Lc4, hQ4, l4, y4, z4⟩, st4⟩ := Jvm.LawKit.callS X1 hx (y := (⟨"java/lang/StringUTF16", "compress", "([CI[BII)I"⟩ : MethodName)) hown (mvT hZ (hw _ (List.mem_of_getElem? (i := 31) rfl))) (mvT hZ (hw _ (List.mem_of_getElem? (i := 32) rfl))) (mvT hZ (hw _ (List.mem_of_getElem? (i := 28) rfl))) (mvT hZ (hw _ (List.mem_of_getElem? (i := 33) rfl))) (by decide) (backOf (W := 0) (rm_c5_2 l Z a0 hw [] vc (0 : Int32) b1 (0 : Int32) (2 : Int32) kc k1 x0 x1 h1 n0 Zp2 Fc3 V1 g_b1 (Nat.ne_of_lt (Nat.lt_of_lt_of_le (V_c).lt (Nat.le_of_eq g1.symm))) rfl rfl rfl hx0 hx1) hZ (hw _ (List.mem_of_getElem? (i := 33) rfl)) (hw _ (List.mem_of_getElem? (i := 28) rfl)) (by decide) (by decide)) (g := (mkF m 9 #[.val (.ref vc), .val (.int (0 : Int32)), .val (.int (2 : Int32)), .val (.ref b1), .unset, .unset] [(.int (2 : Int32)), (.int (0 : Int32)), (.ref b1), (.int (0 : Int32)), (.ref vc)])) rfl (by rw [hml]; rfl) (argsL := [(.ref vc), (.int (0 : Int32)), (.ref b1), (.int (0 : Int32)), (.int (2 : Int32))]) (rest := []) (lenOf own_pd1 rfl) rfl (by show 2 * 0 + _ ≤ _; exact Nat.le_of_eq rfl) (hb hby d6_9) (fun _ _ => ⟨rfl, e1, (by decide : 1 + 0 ≤ _), (by decide : 2 + 0 ≤ _)⟩)
  dsimp only [Pt.U, Pt.locs, Pt.cells, Pt.slots] at X4 l4 y4 z4 st4 hQ4
  subst l4 y4 z4
  obtain ⟨rfl, Nq4, K4, V4⟩ := hQ4
  have Nf4 := Fr.app N0 Nq4
  have Zp5 : n0 ≤ T4.heap.size := Nat.le_trans Zp2 K4.1
  obtain ⟨fs, hr, hrun, hended, hW, hsame⟩ := X4.leave (v := some (.ref b1)) (fun h => by rw [Bd.returns] at h; cases h)
  refine ⟨_, _, pre0 _ ?_, hrun, hended, _, _, rfl, ?_, ⟨_, rfl⟩, hW, hsame.mono (by decide) (by decide)⟩
  · show Steps p.tables e below (s₁.setTop (mkF m 0 #[.val (.ref vc), .val (.int (0 : Int32)), .val (.int (2 : Int32)), .unset, .unset, .unset] [])) _
    refine XS.iloadN X0.here hx rfl (hb hby d6_0) rfl ?_
    show Steps p.tables e below (s₁.setTop (mkF m 1 #[.val (.ref vc), .val (.int (0 : Int32)), .val (.int (2 : Int32)), .unset, .unset, .unset] [(.int (2 : Int32))])) _
    refine st1 _ ?_
    show Steps p.tables e below (T1.setTop (mkF m 3 #[.val (.ref vc), .val (.int (0 : Int32)), .val (.int (2 : Int32)), .unset, .unset, .unset] [(.ref b1)])) _
    refine XS.astoreN X1.here hx rfl (hb hby d6_3) rfl rfl (l' := #[.val (.ref vc), .val (.int (0 : Int32)), .val (.int (2 : Int32)), .val (.ref b1), .unset, .unset]) rfl ?_
    show Steps p.tables e below (T1.setTop (mkF m 4 #[.val (.ref vc), .val (.int (0 : Int32)), .val (.int (2 : Int32)), .val (.ref b1), .unset, .unset] [])) _
    refine XS.aloadN X1.here hx rfl (hb hby d6_4) rfl rfl ?_
    show Steps p.tables e below (T1.setTop (mkF m 5 #[.val (.ref vc), .val (.int (0 : Int32)), .val (.int (2 : Int32)), .val (.ref b1), .unset, .unset] [(.ref vc)])) _
    refine XS.iloadN X1.here hx rfl (hb hby d6_5) rfl ?_
    show Steps p.tables e below (T1.setTop (mkF m 6 #[.val (.ref vc), .val (.int (0 : Int32)), .val (.int (2 : Int32)), .val (.ref b1), .unset, .unset] [(.int (0 : Int32)), (.ref vc)])) _
    refine XS.aloadN X1.here hx rfl (hb hby d6_6) rfl rfl ?_
    show Steps p.tables e below (T1.setTop (mkF m 7 #[.val (.ref vc), .val (.int (0 : Int32)), .val (.int (2 : Int32)), .val (.ref b1), .unset, .unset] [(.ref b1), (.int (0 : Int32)), (.ref vc)])) _
    refine XS.iconst X1.here hx rfl (hb hby d6_7) ?_
    show Steps p.tables e below (T1.setTop (mkF m 8 #[.val (.ref vc), .val (.int (0 : Int32)), .val (.int (2 : Int32)), .val (.ref b1), .unset, .unset] [(.int (0 : Int32)), (.ref b1), (.int (0 : Int32)), (.ref vc)])) _
    refine XS.iloadN X1.here hx rfl (hb hby d6_8) rfl ?_
    show Steps p.tables e below (T1.setTop (mkF m 9 #[.val (.ref vc), .val (.int (0 : Int32)), .val (.int (2 : Int32)), .val (.ref b1), .unset, .unset] [(.int (2 : Int32)), (.int (0 : Int32)), (.ref b1), (.int (0 : Int32)), (.ref vc)])) _
    refine st4 _ ?_
    show Steps p.tables e below (T4.setTop (mkF m 12 #[.val (.ref vc), .val (.int (0 : Int32)), .val (.int (2 : Int32)), .val (.ref b1), .unset, .unset] [(.int (2 : Int32))])) _
    refine XS.istore X4.here hx rfl (hb hby d6_12) rfl (l' := #[.val (.ref vc), .val (.int (0 : Int32)), .val (.int (2 : Int32)), .val (.ref b1), .val (.int (2 : Int32)), .unset]) rfl ?_
    show Steps p.tables e below (T4.setTop (mkF m 14 #[.val (.ref vc), .val (.int (0 : Int32)), .val (.int (2 : Int32)), .val (.ref b1), .val (.int (2 : Int32)), .unset] [])) _
    refine XS.iload X4.here hx rfl (hb hby d6_14) rfl ?_
    show Steps p.tables e below (T4.setTop (mkF m 16 #[.val (.ref vc), .val (.int (0 : Int32)), .val (.int (2 : Int32)), .val (.ref b1), .val (.int (2 : Int32)), .unset] [(.int (2 : Int32))])) _
    refine XS.iloadN X4.here hx rfl (hb hby d6_16) rfl ?_
    show Steps p.tables e below (T4.setTop (mkF m 17 #[.val (.ref vc), .val (.int (0 : Int32)), .val (.int (2 : Int32)), .val (.ref b1), .val (.int (2 : Int32)), .unset] [(.int (2 : Int32)), (.int (2 : Int32))])) _
    refine XS.icmpYes X4.here hx rfl (pc0 := 17) (pc' := 57) rfl (hb hby d6_17) rfl (by decide) (by decide) (by decide) ?_
    show Steps p.tables e below (T4.setTop (mkF m 57 #[.val (.ref vc), .val (.int (0 : Int32)), .val (.int (2 : Int32)), .val (.ref b1), .val (.int (2 : Int32)), .unset] [])) _
    refine XS.aloadN X4.here hx rfl (hb hby d6_57) rfl rfl ?_
    show Steps p.tables e below (T4.setTop (mkF m 58 #[.val (.ref vc), .val (.int (0 : Int32)), .val (.int (2 : Int32)), .val (.ref b1), .val (.int (2 : Int32)), .unset] [(.ref b1)])) _
    jvm_step X4.here [X4.here.top, hx, (hb hby d6_58), X4.method', Bd.returns, Value.isRef, FieldType.isReference]
    first | (intro acts; rw [hr _ acts rfl rfl rfl]) | rw [hr _ _ rfl rfl rfl]
    exact Steps.refl _
  · show Q_c3_2 Z vc (0 : Int32) (2 : Int32) kc x0 x1 h0 n0 _ T4.heap _
    have Kc6 := (Keep.refl h0 []).ext E1
    have Kc7 := Kc6.trans K4 (allS (Or.inr (Nat.le_trans (Keep.refl h0 []).1 (Nat.le_of_eq g1.symm))) all0)
    exact ⟨b1, k1, rfl, Nf4, Kc7, g_b1, (Nat.le_trans (Nat.le_refl h0.size) (Nat.le_of_eq g1.symm)), V4⟩
theorem pn_rm_cf_2 : plainName "java/lang/StringUTF16" = true := by first | (simp [plainName, overriddenIn]; done) | decide +kernel
theorem ef_rm_cf_2 (m : MethodId) (vb : Addr) (vq : Int32) : entryFrame m #[(.ref vb), (.int vq)] 2 = mkF m 0 #[.val (.ref vb), .val (.int vq)] [] := by first | (simp [entryFrame, mkF, argsToLocals, Value.category]; done) | rfl
def Q_cf_2 (Z : State) (vb : Addr) (vq : Int32) (kb : ClassId) (bl : List Value) (h0 : Heap) (n0 : Nat) (v : Option Value) (h : Heap) (L : List Loc) : Prop := v = some (.int 0) ∧ Fr n0 L ∧ h = h0
set_option maxRecDepth 65536 in
set_option maxHeartbeats 40000000 in
theorem rm_cf_2 (l : Launch) (Z : State) (a0 : Array Value) (hw : ∀ d ∈ tables_1, d.before a0 Z = true) (ws : List Jvm.Cond) (vb : Addr) (vq : Int32) (kb : ClassId) (bl : List Value) (h0 : Heap) (n0 : Nat) (Z0 : n0 ≤ h0.size) (V_b : Arv Z h0 vb kb .byte (2 : Int32) bl (.int (0 : Int32))) (hq : vq = (2 : Int32)) :
    MetFree l (⟨"java/lang/StringUTF16", "coderFromArrayLen", "([BI)B"⟩ : MethodName) (head1 (Jvm.Cond.code (⟨"java/lang/StringUTF16", "coderFromArrayLen", "([BI)B"⟩ : MethodName) jdk_52_method_15_code 2 (some .byte) :: ws) ({ frames := 0, cells := 0, slots := 0, locals := 0 } : Room)) (fun a U => a = #[(.ref vb), (.int vq)] ∧ Z.Warmed39 U.vm ∧ U.heap = h0) (fun _ _ _ _ _ => True) (fun _ U o U' => ∃ v L, o = .returned v ∧ Q_cf_2 Z vb vq kb bl h0 n0 v U'.heap L ∧ FrameEnd U o U' L ({ frames := 0, cells := 0, slots := 0, locals := 0 } : Room).cells ({ frames := 0, cells := 0, slots := 0, locals := 0 } : Room).slots) := by
  subst hq
  refine MetFree.of_bodySF (plainFor_of_name pn_rm_cf_2) hisR ?_
  intro p e s m args below meth c s₁ Bd hml0 hP hK
  obtain ⟨rfl, hZ, hh⟩ := hP
  have hx := Bd.exec
  have hby := Bd.bytes
  have hml : c.maxLocals = 2 := hml0
  have hown : s.vm.findClass "java/lang/StringUTF16" = some m.cls := findClass_of_methodNamed Bd.named
  have hnm := (name_of_methodNamed Bd.named Bd.method).1
  have X0 : Stand p l e ({ frames := 0, cells := 0, slots := 0, locals := 0 } : Room) s m #[(.ref vb), (.int (2 : Int32))] below meth c s₁ [] 0 0 := Stand.of_body Bd
  have e0 : s₁.heap = h0 := by rw [← hh, Bd.state]; rfl
  have N0 := Fr.nil n0
  have pre0 : ∀ t, Steps p.tables e below (s₁.setTop (mkF m 0 #[.val (.ref vb), .val (.int (2 : Int32))] [])) t → Steps p.tables e below (s₁.setTop (entryFrame m #[(.ref vb), (.int (2 : Int32))] 2)) t := fun t k => castTop (ef_rm_cf_2 m vb (2 : Int32)) k
  obtain ⟨cl1, Ar1, -, S1, M1, -, -⟩ := id V_b
  obtain ⟨fs, hr, hrun, hended, hW, hsame⟩ := X0.leave (v := some (.int (nar .byte ((((0 : Int32).toUInt32 >>> ((31 : Int32) &&& 31).toUInt32).toInt32).toInt8.toInt32)))) (fun h => by rw [Bd.returns] at h; cases h)
  refine ⟨_, _, pre0 _ ?_, hrun, hended, _, _, rfl, ?_, ⟨_, rfl⟩, hW, hsame.mono (by decide) (by decide)⟩
  · show Steps p.tables e below (s₁.setTop (mkF m 0 #[.val (.ref vb), .val (.int (2 : Int32))] [])) _
    refine XS.iloadN X0.here hx rfl (hb hby d8_0) rfl ?_
    show Steps p.tables e below (s₁.setTop (mkF m 1 #[.val (.ref vb), .val (.int (2 : Int32))] [(.int (2 : Int32))])) _
    refine XS.aloadN X0.here hx rfl (hb hby d8_1) rfl rfl ?_
    show Steps p.tables e below (s₁.setTop (mkF m 2 #[.val (.ref vb), .val (.int (2 : Int32))] [(.ref vb), (.int (2 : Int32))])) _
    refine X0.arraylength hx (by rw [e0]; exact Ar1.1) (State.isArrayOf_alike hZ.alike Ar1.2.1) (g := (mkF m 2 #[.val (.ref vb), .val (.int (2 : Int32))] [(.ref vb), (.int (2 : Int32))])) rfl rfl (hb hby d8_2) _ ?_
    rw [len_of S1 M1]
    show Steps p.tables e below (s₁.setTop (mkF m 3 #[.val (.ref vb), .val (.int (2 : Int32))] [(.int (2 : Int32)), (.int (2 : Int32))])) _
    refine XS.isub X0.here hx rfl (hb hby d8_3) rfl ?_
    show Steps p.tables e below (s₁.setTop (mkF m 4 #[.val (.ref vb), .val (.int (2 : Int32))] [(.int (0 : Int32))])) _
    refine XS.bipush X0.here hx rfl (hb hby d8_4) ?_
    show Steps p.tables e below (s₁.setTop (mkF m 6 #[.val (.ref vb), .val (.int (2 : Int32))] [(.int (31 : Int32)), (.int (0 : Int32))])) _
    refine XS.iushr X0.here hx rfl (hb hby d8_6) rfl ?_
    show Steps p.tables e below (s₁.setTop (mkF m 7 #[.val (.ref vb), .val (.int (2 : Int32))] [(.int (((0 : Int32).toUInt32 >>> ((31 : Int32) &&& 31).toUInt32).toInt32))])) _
    refine XS.i2b X0.here hx rfl (hb hby d8_7) rfl ?_
    show Steps p.tables e below (s₁.setTop (mkF m 8 #[.val (.ref vb), .val (.int (2 : Int32))] [(.int ((((0 : Int32).toUInt32 >>> ((31 : Int32) &&& 31).toUInt32).toInt32).toInt8.toInt32))])) _
    exact retN X0 hx (t := .byte) Bd.returns (by simp) (hb hby d8_8) hr
  · show Q_cf_2 Z vb (2 : Int32) kb bl h0 n0 _ s₁.heap _
    rw [e0]
    exact ⟨congrArg (fun z => some (Value.int z)) (by decide +kernel), N0, rfl⟩
theorem pn_rm_i4_2 : plainName "java/lang/String" = true := by first | (simp [plainName, overriddenIn]; done) | decide +kernel
theorem ef_rm_i4_2 (m : MethodId) (va : Addr) (vc : Addr) (vo : Int32) (vq : Int32) : entryFrame m #[(.ref va), (.ref vc), (.int vo), (.int vq), .null] 6 = mkF m 0 #[.val (.ref va), .val (.ref vc), .val (.int vo), .val (.int vq), .val .null, .unset] [] := by first | (simp [entryFrame, mkF, argsToLocals, Value.category]; done) | rfl
def Q_i4_2 (Z : State) (va : Addr) (vc : Addr) (vo : Int32) (vq : Int32) (kc : ClassId) (x0 : Int32) (x1 : Int32) (vcs : Int32) (h0 : Heap) (n0 : Nat) (v : Option Value) (h : Heap) (L : List Loc) : Prop := ∃ (b : Addr) (kb : ClassId), v = none ∧ Fr n0 L ∧ Keep h0 h [va] ∧ Exa Z h va "java/lang/String" ∧ Fld Z h va "java/lang/String" "value" "[B" (.ref b) ∧ Fld Z h va "java/lang/String" "coder" "B" (.int (0 : Int32)) ∧ Arv Z h b kb .byte (2 : Int32) [(.int (nar .byte (x0.toInt8.toInt32))), (.int (nar .byte (x1.toInt8.toInt32)))] (.int (0 : Int32))
set_option maxRecDepth 65536 in
set_option maxHeartbeats 40000000 in
theorem rm_i4_2 (l : Launch) (Z : State) (a0 : Array Value) (hw : ∀ d ∈ tables_1, d.before a0 Z = true) (ws : List Jvm.Cond) (va : Addr) (vc : Addr) (vo : Int32) (vq : Int32) (kc : ClassId) (x0 : Int32) (x1 : Int32) (vcs : Int32) (h0 : Heap) (n0 : Nat) (Z0 : n0 ≤ h0.size) (E_a : Exa Z h0 va "java/lang/String") (g_va : n0 ≤ va) (F_v : Fld Z h0 va "java/lang/String" "value" "[B" .null) (F_c : Fld Z h0 va "java/lang/String" "coder" "B" (.int (0 : Int32))) (V_c : Arv Z h0 vc kc .char (2 : Int32) [(.int x0), (.int x1)] (.int (0 : Int32))) (ho : vo = (0 : Int32)) (hq : vq = (2 : Int32)) (hx0 : ¬ (255 : Int32) < x0) (hx1 : ¬ (255 : Int32) < x1) (S_cs : Sta Z h0 "java/lang/String" "COMPACT_STRINGS" "Z" (.int vcs)) (hcs : ¬ vcs = 0) :
    MetFree l (⟨"java/lang/String", "<init>", "([CIILjava/lang/Void;)V"⟩ : MethodName) (head1 (Jvm.Cond.code (⟨"java/lang/String", "<init>", "([CIILjava/lang/Void;)V"⟩ : MethodName) jdk_42_method_149_code 6 none :: ws) ({ frames := 2, cells := 1, slots := 2, locals := 35 } : Room)) (fun a U => a = #[(.ref va), (.ref vc), (.int vo), (.int vq), .null] ∧ Z.Warmed39 U.vm ∧ U.heap = h0) (fun _ _ _ _ _ => True) (fun _ U o U' => ∃ v L, o = .returned v ∧ Q_i4_2 Z va vc vo vq kc x0 x1 vcs h0 n0 v U'.heap L ∧ FrameEnd U o U' L ({ frames := 2, cells := 1, slots := 2, locals := 35 } : Room).cells ({ frames := 2, cells := 1, slots := 2, locals := 35 } : Room).slots) := by
  subst ho
  subst hq
  refine MetFree.of_bodySF (plainFor_of_name pn_rm_i4_2) hisR ?_
  intro p e s m args below meth c s₁ Bd hml0 hP hK
  obtain ⟨rfl, hZ, hh⟩ := hP
  have hx := Bd.exec
  have hby := Bd.bytes
  have hml : c.maxLocals = 6 := hml0
  have hown : s.vm.findClass "java/lang/String" = some m.cls := findClass_of_methodNamed Bd.named
  have hnm := (name_of_methodNamed Bd.named Bd.method).1
  have X0 : Stand p l e ({ frames := 2, cells := 1, slots := 2, locals := 35 } : Room) s m #[(.ref va), (.ref vc), (.int (0 : Int32)), (.int (2 : Int32)), .null] below meth c s₁ [] 0 0 := Stand.of_body Bd
  have e0 : s₁.heap = h0 := by rw [← hh, Bd.state]; rfl
  have N0 := Fr.nil n0
  have pre0 : ∀ t, Steps p.tables e below (s₁.setTop (mkF m 0 #[.val (.ref va), .val (.ref vc), .val (.int (0 : Int32)), .val (.int (2 : Int32)), .val .null, .unset] [])) t → Steps p.tables e below (s₁.setTop (entryFrame m #[(.ref va), (.ref vc), (.int (0 : Int32)), (.int (2 : Int32)), .null] 6)) t := fun t k => castTop (ef_rm_i4_2 m va vc (0 : Int32) (2 : Int32)) k
  obtain ⟨T1, X1, e1, st1⟩ := initO X0 hx hZ hown (hw _ (List.mem_of_getElem? (i := 22) rfl)) (hw _ (List.mem_of_getElem? (i := 23) rfl)) (hw _ (List.mem_of_getElem? (i := 24) rfl)) e0 (g := (mkF m 1 #[.val (.ref va), .val (.ref vc), .val (.int (0 : Int32)), .val (.int (2 : Int32)), .val .null, .unset] [(.ref va)])) rfl (by rw [hml]; rfl) rfl (hb hby d4_1) (by decide) (W := 0) (by show 2 * 0 + _ ≤ _; exact Nat.le_of_eq rfl) (by decide)
  obtain ⟨T2, X2, e2, st2⟩ := getS2 X1 hx hZ hown (host := "") (Or.inl (hw _ (List.mem_of_getElem? (i := 25) rfl))) Via.refl e1 S_cs (g := (mkF m 27 #[.val (.ref va), .val (.ref vc), .val (.int (0 : Int32)), .val (.int (2 : Int32)), .val .null, .unset] [])) rfl (hb hby d4_27)
  have pre3 : ∀ t, Steps p.tables e below (T2.setTop (mkF m 30 #[.val (.ref va), .val (.ref vc), .val (.int (0 : Int32)), .val (.int (2 : Int32)), .val .null, .unset] [(.int vcs)])) t → Steps p.tables e below (s₁.setTop (entryFrame m #[(.ref va), (.ref vc), (.int (0 : Int32)), (.int (2 : Int32)), .null] 6)) t := by
    intro t k
    refine pre0 t ?_
    show Steps p.tables e below (s₁.setTop (mkF m 0 #[.val (.ref va), .val (.ref vc), .val (.int (0 : Int32)), .val (.int (2 : Int32)), .val .null, .unset] [])) _
    refine XS.aloadN X0.here hx rfl (hb hby d4_0) rfl rfl ?_
    show Steps p.tables e below (s₁.setTop (mkF m 1 #[.val (.ref va), .val (.ref vc), .val (.int (0 : Int32)), .val (.int (2 : Int32)), .val .null, .unset] [(.ref va)])) _
    refine st1 _ ?_
    show Steps p.tables e below (T1.setTop (mkF m 4 #[.val (.ref va), .val (.ref vc), .val (.int (0 : Int32)), .val (.int (2 : Int32)), .val .null, .unset] [])) _
    refine XS.iloadN X1.here hx rfl (hb hby d4_4) rfl ?_
    show Steps p.tables e below (T1.setTop (mkF m 5 #[.val (.ref va), .val (.ref vc), .val (.int (0 : Int32)), .val (.int (2 : Int32)), .val .null, .unset] [(.int (2 : Int32))])) _
    refine XS.ifYes X1.here hx rfl (pc0 := 5) (pc' := 27) rfl (hb hby d4_5) rfl (by decide) (by decide) (by decide) ?_
    show Steps p.tables e below (T1.setTop (mkF m 27 #[.val (.ref va), .val (.ref vc), .val (.int (0 : Int32)), .val (.int (2 : Int32)), .val .null, .unset] [])) _
    refine st2 _ ?_
    show Steps p.tables e below (T2.setTop (mkF m 30 #[.val (.ref va), .val (.ref vc), .val (.int (0 : Int32)), .val (.int (2 : Int32)), .val .null, .unset] [(.int vcs)])) _
    exact k
  have hd4 : ¬ (vcs = (0 : Int32)) := hcs
  obtain ⟨_, _, ⟨T5, L5, k5, n5⟩, -, X5, ⟨Lc5, hQ5, l5, y5, z5⟩, st5⟩ := Jvm.LawKit.callS X2 hx (y := (⟨"java/lang/StringUTF16", "compress", "([CII)[B"⟩ : MethodName)) hown (mvT hZ (hw _ (List.mem_of_getElem? (i := 26) rfl))) (mvT hZ (hw _ (List.mem_of_getElem? (i := 27) rfl))) (mvT hZ (hw _ (List.mem_of_getElem? (i := 28) rfl))) (mvT hZ (hw _ (List.mem_of_getElem? (i := 29) rfl))) (by decide) (backOf (W := 0) (rm_c3_2 l Z a0 hw [] vc (0 : Int32) (2 : Int32) kc x0 x1 h0 n0 Z0 V_c rfl rfl hx0 hx1) hZ (hw _ (List.mem_of_getElem? (i := 29) rfl)) (hw _ (List.mem_of_getElem? (i := 28) rfl)) (by decide) (by decide)) (g := (mkF m 36 #[.val (.ref va), .val (.ref vc), .val (.int (0 : Int32)), .val (.int (2 : Int32)), .val .null, .unset] [(.int (2 : Int32)), (.int (0 : Int32)), (.ref vc)])) rfl (by rw [hml]; rfl) (argsL := [(.ref vc), (.int (0 : Int32)), (.int (2 : Int32))]) (rest := []) (lenOf own_pd2 rfl) rfl (by show 2 * 0 + _ ≤ _; exact Nat.le_of_eq rfl) (hb hby d4_36) (fun _ _ => ⟨rfl, e2, (by decide : 0 + 1 ≤ _), (by decide : 0 + 2 ≤ _)⟩)
  dsimp only [Pt.U, Pt.locs, Pt.cells, Pt.slots] at X5 l5 y5 z5 st5 hQ5
  subst l5 y5 z5
  obtain ⟨b5, kb5, rfl, Nq5, K5, g_b5, sz_b5, V5⟩ := hQ5
  have Nf5 := Fr.app N0 Nq5
  have Zp6 : n0 ≤ T5.heap.size := Nat.le_trans Z0 K5.1
  obtain ⟨_, _, ⟨T7, L7, k7, n7⟩, -, X7, ⟨Lc7, hQ7, l7, y7, z7⟩, st7⟩ := Jvm.LawKit.callS X5 hx (y := (⟨"java/lang/StringUTF16", "coderFromArrayLen", "([BI)B"⟩ : MethodName)) hown (mvT hZ (hw _ (List.mem_of_getElem? (i := 34) rfl))) (mvT hZ (hw _ (List.mem_of_getElem? (i := 35) rfl))) (mvT hZ (hw _ (List.mem_of_getElem? (i := 28) rfl))) (mvT hZ (hw _ (List.mem_of_getElem? (i := 36) rfl))) (by decide) (backOf (W := 1) (rm_cf_2 l Z a0 hw [] b5 (2 : Int32) kb5 [(.int (nar .byte (x0.toInt8.toInt32))), (.int (nar .byte (x1.toInt8.toInt32)))] T5.heap n0 Zp6 V5 rfl) hZ (hw _ (List.mem_of_getElem? (i := 36) rfl)) (hw _ (List.mem_of_getElem? (i := 28) rfl)) (by decide) (by decide)) (g := (mkF m 45 #[.val (.ref va), .val (.ref vc), .val (.int (0 : Int32)), .val (.int (2 : Int32)), .val .null, .val (.ref b5)] [(.int (2 : Int32)), (.ref b5), (.ref va)])) rfl (by rw [hml]; rfl) (argsL := [(.ref b5), (.int (2 : Int32))]) (rest := [(.ref va)]) (lenOf own_pd3 rfl) rfl (by show 2 * 0 + _ ≤ _; exact Nat.le_of_eq rfl) (hb hby d4_45) (fun _ _ => ⟨rfl, rfl, (by decide : 1 + 0 ≤ _), (by decide : 2 + 0 ≤ _)⟩)
  dsimp only [Pt.U, Pt.locs, Pt.cells, Pt.slots] at X7 l7 y7 z7 st7 hQ7
  subst l7 y7 z7
  obtain ⟨rfl, Nq7, hh7⟩ := hQ7
  have Nf7 := Fr.app Nf5 Nq7
  have Fc8 := (F_c.keep K5 nin0)
  have Fc9 := (E_a.keep K5)
  obtain ⟨T10, h10, X10, e10, W10, st10⟩ := putFN X7 hx hZ hown (hw _ (List.mem_of_getElem? (i := 37) rfl)) Via.refl hh7 Fc8 Fc9 (Or.inr ⟨(hw _ (List.mem_of_getElem? (i := 38) rfl)), rfl, hnm⟩) (hw _ (List.mem_of_getElem? (i := 12) rfl)) (ty := .byte) (v' := (.int (0 : Int32))) (by decide) rfl rfl (g := (mkF m 48 #[.val (.ref va), .val (.ref vc), .val (.int (0 : Int32)), .val (.int (2 : Int32)), .val .null, .val (.ref b5)] [(.int (0 : Int32)), (.ref va)])) rfl rfl (hb hby d4_48)
  have N10 := Fr.snoc X10 Nf7 g_va
  have Fw10 := Fld.same W10 Fc8
  have Zp11 : n0 ≤ h10.size := Nat.le_trans Zp6 (Nat.le_of_eq (Wr.size W10).symm)
  have Fc12 := (Fld.other W10 (F_v.keep K5 nin0) (Or.inr (slot_ne (Or.inr (hw _ (List.mem_of_getElem? (i := 40) rfl))) (Or.inr (hw _ (List.mem_of_getElem? (i := 38) rfl))) (by decide) (t := (.array .byte)) (t' := .byte) (by decide) (by decide))))
  have Fc13 := (Exa.wr W10 Fc9)
  obtain ⟨T14, h14, X14, e14, W14, st14⟩ := putF X10 hx hZ hown (host := "") (Or.inl (hw _ (List.mem_of_getElem? (i := 39) rfl))) Via.refl e10 Fc12 Fc13 (Or.inr ⟨(hw _ (List.mem_of_getElem? (i := 40) rfl)), rfl, hnm⟩) (hw _ (List.mem_of_getElem? (i := 12) rfl)) (ty := (.array .byte)) (by decide) rfl rfl (g := (mkF m 54 #[.val (.ref va), .val (.ref vc), .val (.int (0 : Int32)), .val (.int (2 : Int32)), .val .null, .val (.ref b5)] [(.ref b5), (.ref va)])) rfl rfl (hb hby d4_54)
  have N14 := Fr.snoc X14 N10 g_va
  have Fw14 := Fld.same W14 Fc12
  have Zp15 : n0 ≤ h14.size := Nat.le_trans Zp11 (Nat.le_of_eq (Wr.size W14).symm)
  obtain ⟨fs, hr, hrun, hended, hW, hsame⟩ := X14.leave (v := none) (fun _ => rfl)
  refine ⟨_, _, pre3 _ ?_, hrun, hended, _, _, rfl, ?_, ⟨_, rfl⟩, hW, hsame.mono (by decide) (by decide)⟩
  · show Steps p.tables e below (T2.setTop (mkF m 30 #[.val (.ref va), .val (.ref vc), .val (.int (0 : Int32)), .val (.int (2 : Int32)), .val .null, .unset] [(.int vcs)])) _
    refine XS.ifNo X2.here hx rfl (hb hby d4_30) rfl ((if0 _ _).trans (feq hd4).1) ?_
    show Steps p.tables e below (T2.setTop (mkF m 33 #[.val (.ref va), .val (.ref vc), .val (.int (0 : Int32)), .val (.int (2 : Int32)), .val .null, .unset] [])) _
    refine XS.aloadN X2.here hx rfl (hb hby d4_33) rfl rfl ?_
    show Steps p.tables e below (T2.setTop (mkF m 34 #[.val (.ref va), .val (.ref vc), .val (.int (0 : Int32)), .val (.int (2 : Int32)), .val .null, .unset] [(.ref vc)])) _
    refine XS.iloadN X2.here hx rfl (hb hby d4_34) rfl ?_
    show Steps p.tables e below (T2.setTop (mkF m 35 #[.val (.ref va), .val (.ref vc), .val (.int (0 : Int32)), .val (.int (2 : Int32)), .val .null, .unset] [(.int (0 : Int32)), (.ref vc)])) _
    refine XS.iloadN X2.here hx rfl (hb hby d4_35) rfl ?_
    show Steps p.tables e below (T2.setTop (mkF m 36 #[.val (.ref va), .val (.ref vc), .val (.int (0 : Int32)), .val (.int (2 : Int32)), .val .null, .unset] [(.int (2 : Int32)), (.int (0 : Int32)), (.ref vc)])) _
    refine st5 _ ?_
    show Steps p.tables e below (T5.setTop (mkF m 39 #[.val (.ref va), .val (.ref vc), .val (.int (0 : Int32)), .val (.int (2 : Int32)), .val .null, .unset] [(.ref b5)])) _
    refine XS.astore X5.here hx rfl (hb hby d4_39) rfl rfl (l' := #[.val (.ref va), .val (.ref vc), .val (.int (0 : Int32)), .val (.int (2 : Int32)), .val .null, .val (.ref b5)]) rfl ?_
    show Steps p.tables e below (T5.setTop (mkF m 41 #[.val (.ref va), .val (.ref vc), .val (.int (0 : Int32)), .val (.int (2 : Int32)), .val .null, .val (.ref b5)] [])) _
    refine XS.aloadN X5.here hx rfl (hb hby d4_41) rfl rfl ?_
    show Steps p.tables e below (T5.setTop (mkF m 42 #[.val (.ref va), .val (.ref vc), .val (.int (0 : Int32)), .val (.int (2 : Int32)), .val .null, .val (.ref b5)] [(.ref va)])) _
    refine XS.aload X5.here hx rfl (hb hby d4_42) rfl rfl ?_
    show Steps p.tables e below (T5.setTop (mkF m 44 #[.val (.ref va), .val (.ref vc), .val (.int (0 : Int32)), .val (.int (2 : Int32)), .val .null, .val (.ref b5)] [(.ref b5), (.ref va)])) _
    refine XS.iloadN X5.here hx rfl (hb hby d4_44) rfl ?_
    show Steps p.tables e below (T5.setTop (mkF m 45 #[.val (.ref va), .val (.ref vc), .val (.int (0 : Int32)), .val (.int (2 : Int32)), .val .null, .val (.ref b5)] [(.int (2 : Int32)), (.ref b5), (.ref va)])) _
    refine st7 _ ?_
    show Steps p.tables e below (T7.setTop (mkF m 48 #[.val (.ref va), .val (.ref vc), .val (.int (0 : Int32)), .val (.int (2 : Int32)), .val .null, .val (.ref b5)] [(.int (0 : Int32)), (.ref va)])) _
    refine st10 _ ?_
    show Steps p.tables e below (T10.setTop (mkF m 51 #[.val (.ref va), .val (.ref vc), .val (.int (0 : Int32)), .val (.int (2 : Int32)), .val .null, .val (.ref b5)] [])) _
    refine XS.aloadN X10.here hx rfl (hb hby d4_51) rfl rfl ?_
    show Steps p.tables e below (T10.setTop (mkF m 52 #[.val (.ref va), .val (.ref vc), .val (.int (0 : Int32)), .val (.int (2 : Int32)), .val .null, .val (.ref b5)] [(.ref va)])) _
    refine XS.aload X10.here hx rfl (hb hby d4_52) rfl rfl ?_
    show Steps p.tables e below (T10.setTop (mkF m 54 #[.val (.ref va), .val (.ref vc), .val (.int (0 : Int32)), .val (.int (2 : Int32)), .val .null, .val (.ref b5)] [(.ref b5), (.ref va)])) _
    refine st14 _ ?_
    show Steps p.tables e below (T14.setTop (mkF m 57 #[.val (.ref va), .val (.ref vc), .val (.int (0 : Int32)), .val (.int (2 : Int32)), .val .null, .val (.ref b5)] [])) _
    exact X14.returnOut hx Bd.returns (hb hby d4_57) hr
  · show Q_i4_2 Z va vc (0 : Int32) (2 : Int32) kc x0 x1 vcs h0 n0 _ T14.heap _
    rw [e14]
    have Kc16 := (Keep.refl h0 [va]).trans K5 all0
    have Kc17 := Kc16.wr W10 (Or.inl (List.mem_of_getElem? (i := 0) rfl))
    have Kc18 := Kc17.wr W14 (Or.inl (List.mem_of_getElem? (i := 0) rfl))
    have Fc19 := (Exa.wr W14 Fc13)
    have Fc20 := (Fld.other W14 Fw10 (Or.inr (slot_ne (Or.inr (hw _ (List.mem_of_getElem? (i := 38) rfl))) (Or.inr (hw _ (List.mem_of_getElem? (i := 40) rfl))) (by decide) (t := .byte) (t' := (.array .byte)) (by decide) (by decide))))
    have Fc21 := ((V5.other W10 (Ne.symm (Nat.ne_of_lt (Nat.lt_of_lt_of_le (E_a).lt sz_b5)))).other W14 (Ne.symm (Nat.ne_of_lt (Nat.lt_of_lt_of_le (E_a).lt sz_b5))))
    exact ⟨b5, kb5, rfl, N14, Kc18, Fc19, Fw14, Fc20, Fc21⟩
theorem pn_rm_i1_2 : plainName "java/lang/String" = true := by first | (simp [plainName, overriddenIn]; done) | decide +kernel
theorem ef_rm_i1_2 (m : MethodId) (va : Addr) (vc : Addr) : entryFrame m #[(.ref va), (.ref vc)] 2 = mkF m 0 #[.val (.ref va), .val (.ref vc)] [] := by first | (simp [entryFrame, mkF, argsToLocals, Value.category]; done) | rfl
def Q_i1_2 (Z : State) (va : Addr) (vc : Addr) (kc : ClassId) (x0 : Int32) (x1 : Int32) (vcs : Int32) (h0 : Heap) (n0 : Nat) (v : Option Value) (h : Heap) (L : List Loc) : Prop := ∃ (b : Addr) (kb : ClassId), v = none ∧ Fr n0 L ∧ Keep h0 h [va] ∧ Exa Z h va "java/lang/String" ∧ Fld Z h va "java/lang/String" "value" "[B" (.ref b) ∧ Fld Z h va "java/lang/String" "coder" "B" (.int (0 : Int32)) ∧ Arv Z h b kb .byte (2 : Int32) [(.int (nar .byte (x0.toInt8.toInt32))), (.int (nar .byte (x1.toInt8.toInt32)))] (.int (0 : Int32))
set_option maxRecDepth 65536 in
set_option maxHeartbeats 40000000 in
theorem rm_i1_2 (l : Launch) (Z : State) (a0 : Array Value) (hw : ∀ d ∈ tables_1, d.before a0 Z = true) (ws : List Jvm.Cond) (va : Addr) (vc : Addr) (kc : ClassId) (x0 : Int32) (x1 : Int32) (vcs : Int32) (h0 : Heap) (n0 : Nat) (Z0 : n0 ≤ h0.size) (E_a : Exa Z h0 va "java/lang/String") (g_va : n0 ≤ va) (F_v : Fld Z h0 va "java/lang/String" "value" "[B" .null) (F_c : Fld Z h0 va "java/lang/String" "coder" "B" (.int (0 : Int32))) (V_c : Arv Z h0 vc kc .char (2 : Int32) [(.int x0), (.int x1)] (.int (0 : Int32))) (hx0 : ¬ (255 : Int32) < x0) (hx1 : ¬ (255 : Int32) < x1) (S_cs : Sta Z h0 "java/lang/String" "COMPACT_STRINGS" "Z" (.int vcs)) (hcs : ¬ vcs = 0) :
    MetFree l (⟨"java/lang/String", "<init>", "([C)V"⟩ : MethodName) (head1 (Jvm.Cond.code (⟨"java/lang/String", "<init>", "([C)V"⟩ : MethodName) jdk_42_method_3_code 2 none :: ws) ({ frames := 3, cells := 1, slots := 2, locals := 52 } : Room)) (fun a U => a = #[(.ref va), (.ref vc)] ∧ Z.Warmed39 U.vm ∧ U.heap = h0) (fun _ _ _ _ _ => True) (fun _ U o U' => ∃ v L, o = .returned v ∧ Q_i1_2 Z va vc kc x0 x1 vcs h0 n0 v U'.heap L ∧ FrameEnd U o U' L ({ frames := 3, cells := 1, slots := 2, locals := 52 } : Room).cells ({ frames := 3, cells := 1, slots := 2, locals := 52 } : Room).slots) := by
  refine MetFree.of_bodySF (plainFor_of_name pn_rm_i1_2) hisR ?_
  intro p e s m args below meth c s₁ Bd hml0 hP hK
  obtain ⟨rfl, hZ, hh⟩ := hP
  have hx := Bd.exec
  have hby := Bd.bytes
  have hml : c.maxLocals = 2 := hml0
  have hown : s.vm.findClass "java/lang/String" = some m.cls := findClass_of_methodNamed Bd.named
  have hnm := (name_of_methodNamed Bd.named Bd.method).1
  have X0 : Stand p l e ({ frames := 3, cells := 1, slots := 2, locals := 52 } : Room) s m #[(.ref va), (.ref vc)] below meth c s₁ [] 0 0 := Stand.of_body Bd
  have e0 : s₁.heap = h0 := by rw [← hh, Bd.state]; rfl
  have N0 := Fr.nil n0
  have pre0 : ∀ t, Steps p.tables e below (s₁.setTop (mkF m 0 #[.val (.ref va), .val (.ref vc)] [])) t → Steps p.tables e below (s₁.setTop (entryFrame m #[(.ref va), (.ref vc)] 2)) t := fun t k => castTop (ef_rm_i1_2 m va vc) k
  obtain ⟨cl1, Ar1, -, S1, M1, -, -⟩ := id V_c
  obtain ⟨_, _, ⟨T2, L2, k2, n2⟩, -, X2, ⟨Lc2, hQ2, l2, y2, z2⟩, st2⟩ := X0.specialBack hx (y := (⟨"java/lang/String", "<init>", "([CIILjava/lang/Void;)V"⟩ : MethodName)) rfl hown (mvT hZ (hw _ (List.mem_of_getElem? (i := 18) rfl))) (mvT hZ (hw _ (List.mem_of_getElem? (i := 19) rfl))) (mvT hZ (hw _ (List.mem_of_getElem? (i := 21) rfl))) (by decide) (backOf (W := 0) (rm_i4_2 l Z a0 hw [] va vc (0 : Int32) (2 : Int32) kc x0 x1 vcs h0 n0 Z0 E_a g_va F_v F_c V_c rfl rfl hx0 hx1 S_cs hcs) hZ (hw _ (List.mem_of_getElem? (i := 21) rfl)) (hw _ (List.mem_of_getElem? (i := 13) rfl)) (by decide) (by decide)) (g := (mkF m 6 #[.val (.ref va), .val (.ref vc)] [.null, (.int (2 : Int32)), (.int (0 : Int32)), (.ref vc), (.ref va)])) rfl (by rw [hml]; rfl) (Steps.refl _) (a := va) (argsL := [(.ref vc), (.int (0 : Int32)), (.int (2 : Int32)), .null]) (rest := []) (lenOf own_pd0 rfl) rfl (by show 2 * 0 + _ ≤ _; exact Nat.le_of_eq rfl) (hb hby d3_6) (fun _ _ => ⟨rfl, e0, (by decide : 0 + 1 ≤ _), (by decide : 0 + 2 ≤ _)⟩)
  dsimp only [Pt.U, Pt.locs, Pt.cells, Pt.slots] at X2 l2 y2 z2 st2 hQ2
  subst l2 y2 z2
  obtain ⟨b2, kb2, rfl, Nq2, K2, Ex2, Fv2, Fc2, V2⟩ := hQ2
  have Nf2 := Fr.app N0 Nq2
  have Zp3 : n0 ≤ T2.heap.size := Nat.le_trans Z0 K2.1
  obtain ⟨fs, hr, hrun, hended, hW, hsame⟩ := X2.leave (v := none) (fun _ => rfl)
  refine ⟨_, _, pre0 _ ?_, hrun, hended, _, _, rfl, ?_, ⟨_, rfl⟩, hW, hsame.mono (by decide) (by decide)⟩
  · show Steps p.tables e below (s₁.setTop (mkF m 0 #[.val (.ref va), .val (.ref vc)] [])) _
    refine XS.aloadN X0.here hx rfl (hb hby d3_0) rfl rfl ?_
    show Steps p.tables e below (s₁.setTop (mkF m 1 #[.val (.ref va), .val (.ref vc)] [(.ref va)])) _
    refine XS.aloadN X0.here hx rfl (hb hby d3_1) rfl rfl ?_
    show Steps p.tables e below (s₁.setTop (mkF m 2 #[.val (.ref va), .val (.ref vc)] [(.ref vc), (.ref va)])) _
    refine XS.iconst X0.here hx rfl (hb hby d3_2) ?_
    show Steps p.tables e below (s₁.setTop (mkF m 3 #[.val (.ref va), .val (.ref vc)] [(.int (0 : Int32)), (.ref vc), (.ref va)])) _
    refine XS.aloadN X0.here hx rfl (hb hby d3_3) rfl rfl ?_
    show Steps p.tables e below (s₁.setTop (mkF m 4 #[.val (.ref va), .val (.ref vc)] [(.ref vc), (.int (0 : Int32)), (.ref vc), (.ref va)])) _
    refine X0.arraylength hx (by rw [e0]; exact Ar1.1) (State.isArrayOf_alike hZ.alike Ar1.2.1) (g := (mkF m 4 #[.val (.ref va), .val (.ref vc)] [(.ref vc), (.int (0 : Int32)), (.ref vc), (.ref va)])) rfl rfl (hb hby d3_4) _ ?_
    rw [len_of S1 M1]
    show Steps p.tables e below (s₁.setTop (mkF m 5 #[.val (.ref va), .val (.ref vc)] [(.int (2 : Int32)), (.int (0 : Int32)), (.ref vc), (.ref va)])) _
    refine XS.aconstNull X0.here hx rfl (hb hby d3_5) ?_
    show Steps p.tables e below (s₁.setTop (mkF m 6 #[.val (.ref va), .val (.ref vc)] [.null, (.int (2 : Int32)), (.int (0 : Int32)), (.ref vc), (.ref va)])) _
    refine st2.trans ?_
    show Steps p.tables e below (T2.setTop (mkF m 9 #[.val (.ref va), .val (.ref vc)] [])) _
    exact X2.returnOut hx Bd.returns (hb hby d3_9) hr
  · show Q_i1_2 Z va vc kc x0 x1 vcs h0 n0 _ T2.heap _
    have Kc4 := (Keep.refl h0 [va]).trans K2 (allS (Or.inl (List.mem_of_getElem? (i := 0) rfl)) all0)
    exact ⟨b2, kb2, rfl, Nf2, Kc4, Ex2, Fv2, Fc2, V2⟩
theorem d2_0 : decode method_2_code 0 = .ok (.iload_n 0, 1) := by decide +kernel
theorem d2_1 : decode method_2_code 1 = .ok (.ifCond .ne 14, 3) := by decide +kernel
theorem d2_4 : decode method_2_code 4 = .ok (.new 7, 3) := by decide +kernel
theorem d2_7 : decode method_2_code 7 = .ok (.dup, 1) := by decide +kernel
theorem d2_8 : decode method_2_code 8 = .ok (.iconst 0, 1) := by decide +kernel
theorem d2_9 : decode method_2_code 9 = .ok (.newarray .char, 2) := by decide +kernel
theorem d2_11 : decode method_2_code 11 = .ok (.invokespecial 9, 3) := by decide +kernel
theorem d2_14 : decode method_2_code 14 = .ok (.areturn, 1) := by decide +kernel
theorem d2_15 : decode method_2_code 15 = .ok (.iload_n 0, 1) := by decide +kernel
theorem d2_16 : decode method_2_code 16 = .ok (.iconst 1, 1) := by decide +kernel
theorem d2_17 : decode method_2_code 17 = .ok (.if_icmp .ne 18, 3) := by decide +kernel
theorem d2_20 : decode method_2_code 20 = .ok (.new 7, 3) := by decide +kernel
theorem d2_23 : decode method_2_code 23 = .ok (.dup, 1) := by decide +kernel
theorem d2_24 : decode method_2_code 24 = .ok (.iconst 1, 1) := by decide +kernel
theorem d2_25 : decode method_2_code 25 = .ok (.newarray .char, 2) := by decide +kernel
theorem d2_27 : decode method_2_code 27 = .ok (.dup, 1) := by decide +kernel
theorem d2_28 : decode method_2_code 28 = .ok (.iconst 0, 1) := by decide +kernel
theorem d2_29 : decode method_2_code 29 = .ok (.iload_n 1, 1) := by decide +kernel
theorem d2_30 : decode method_2_code 30 = .ok (.castore, 1) := by decide +kernel
theorem d2_31 : decode method_2_code 31 = .ok (.invokespecial 9, 3) := by decide +kernel
theorem d2_34 : decode method_2_code 34 = .ok (.areturn, 1) := by decide +kernel
theorem d2_35 : decode method_2_code 35 = .ok (.new 7, 3) := by decide +kernel
theorem d2_38 : decode method_2_code 38 = .ok (.dup, 1) := by decide +kernel
theorem d2_39 : decode method_2_code 39 = .ok (.iconst 2, 1) := by decide +kernel
theorem d2_40 : decode method_2_code 40 = .ok (.newarray .char, 2) := by decide +kernel
theorem d2_42 : decode method_2_code 42 = .ok (.dup, 1) := by decide +kernel
theorem d2_43 : decode method_2_code 43 = .ok (.iconst 0, 1) := by decide +kernel
theorem d2_44 : decode method_2_code 44 = .ok (.iload_n 1, 1) := by decide +kernel
theorem d2_45 : decode method_2_code 45 = .ok (.castore, 1) := by decide +kernel
theorem d2_46 : decode method_2_code 46 = .ok (.dup, 1) := by decide +kernel
theorem d2_47 : decode method_2_code 47 = .ok (.iconst 1, 1) := by decide +kernel
theorem d2_48 : decode method_2_code 48 = .ok (.iload_n 2, 1) := by decide +kernel
theorem d2_49 : decode method_2_code 49 = .ok (.castore, 1) := by decide +kernel
theorem d2_50 : decode method_2_code 50 = .ok (.invokespecial 9, 3) := by decide +kernel
theorem d2_53 : decode method_2_code 53 = .ok (.areturn, 1) := by decide +kernel
theorem pn_rm_mk : plainName "com/example/netmark/netmark/rules/NettingAgreementEqualsPinLaw" = true := by first | (simp [plainName, overriddenIn]; done) | decide +kernel
theorem ef_rm_mk (m : MethodId) (vn : Int32) (vc : Int32) (vd : Int32) : entryFrame m #[(.int vn), (.int vc), (.int vd)] 3 = mkF m 0 #[.val (.int vn), .val (.int vc), .val (.int vd)] [] := by first | (simp [entryFrame, mkF, argsToLocals, Value.category]; done) | rfl
def Q_mk (Z : State) (vn : Int32) (vc : Int32) (vd : Int32) (vcs : Int32) (h0 : Heap) (n0 : Nat) (v : Option Value) (h : Heap) (L : List Loc) : Prop := ∃ (b vb : Addr) (kb : ClassId), v = some (.ref b) ∧ Fr n0 L ∧ Keep h0 h [] ∧ n0 ≤ b ∧ h0.size ≤ b ∧ Exa Z h b "java/lang/String" ∧ Fld Z h b "java/lang/String" "value" "[B" (.ref vb) ∧ Fld Z h b "java/lang/String" "coder" "B" (.int (0 : Int32)) ∧ Arv Z h vb kb .byte vn (own_bs vn vc vd) (.int (0 : Int32))
set_option maxRecDepth 65536 in
set_option maxHeartbeats 40000000 in
theorem rm_mk (l : Launch) (Z : State) (a0 : Array Value) (hw : ∀ d ∈ tables_1, d.before a0 Z = true) (ws : List Jvm.Cond) (vn : Int32) (vc : Int32) (vd : Int32) (vcs : Int32) (h0 : Heap) (n0 : Nat) (Z0 : n0 ≤ h0.size) (h_n : vn = 0 ∨ vn = 1 ∨ vn = 2) (r_c : own_r vc) (r_d : own_r vd) (S_cs : Sta Z h0 "java/lang/String" "COMPACT_STRINGS" "Z" (.int vcs)) (hcs : ¬ vcs = 0) :
    MetFree l (⟨"com/example/netmark/netmark/rules/NettingAgreementEqualsPinLaw", "mk", "(ICC)Ljava/lang/String;"⟩ : MethodName) (head1 (Jvm.Cond.code (⟨"com/example/netmark/netmark/rules/NettingAgreementEqualsPinLaw", "mk", "(ICC)Ljava/lang/String;"⟩ : MethodName) method_2_code 3 (some (.object "java/lang/String")) :: ws) ({ frames := 4, cells := 6, slots := 12, locals := 66 } : Room)) (fun a U => a = #[(.int vn), (.int vc), (.int vd)] ∧ Z.Warmed39 U.vm ∧ U.heap = h0 ∧ CHv Z own_EL U.vm h0) (fun _ _ _ _ _ => True) (fun _ U o U' => ∃ v L, o = .returned v ∧ Q_mk Z vn vc vd vcs h0 n0 v U'.heap L ∧ CHr Z own_EL U.vm U.heap U'.vm U'.heap ∧ ReturnedEndW U o U' L ({ frames := 4, cells := 6, slots := 12, locals := 66 } : Room).cells ({ frames := 4, cells := 6, slots := 12, locals := 66 } : Room).slots) := by
  refine MetFree.of_bodySF (plainFor_of_name pn_rm_mk) hisR ?_
  intro p e s m args below meth c s₁ Bd hml0 hP hK
  obtain ⟨rfl, hZ, hh, CH0⟩ := hP
  have CC0 := CHr.refl CH0
  have hx := Bd.exec
  have hby := Bd.bytes
  have hml : c.maxLocals = 3 := hml0
  have hown : s.vm.findClass "com/example/netmark/netmark/rules/NettingAgreementEqualsPinLaw" = some m.cls := findClass_of_methodNamed Bd.named
  have hZo := hZ
  have howno := hown
  have hnm := (name_of_methodNamed Bd.named Bd.method).1
  have X0 : Stand p l e ({ frames := 4, cells := 6, slots := 12, locals := 66 } : Room) s m #[(.int vn), (.int vc), (.int vd)] below meth c s₁ [] 0 0 := Stand.of_body Bd
  have e0 : s₁.heap = h0 := by rw [← hh, Bd.state]; rfl
  have N0 := Fr.nil n0
  have pre0 : ∀ t, Steps p.tables e below (s₁.setTop (mkF m 0 #[.val (.int vn), .val (.int vc), .val (.int vd)] [])) t → Steps p.tables e below (s₁.setTop (entryFrame m #[(.int vn), (.int vc), (.int vd)] 3)) t := fun t k => castTop (ef_rm_mk m vn vc vd) k
  have pre1 : ∀ t, Steps p.tables e below (s₁.setTop (mkF m 1 #[.val (.int vn), .val (.int vc), .val (.int vd)] [(.int vn)])) t → Steps p.tables e below (s₁.setTop (entryFrame m #[(.int vn), (.int vc), (.int vd)] 3)) t := by
    intro t k
    refine pre0 t ?_
    show Steps p.tables e below (s₁.setTop (mkF m 0 #[.val (.int vn), .val (.int vc), .val (.int vd)] [])) _
    refine XS.iloadN X0.here hx rfl (hb hby d2_0) rfl ?_
    show Steps p.tables e below (s₁.setTop (mkF m 1 #[.val (.int vn), .val (.int vc), .val (.int vd)] [(.int vn)])) _
    exact k
  by_cases hc2 : vn = (0 : Int32)
  · obtain ⟨T3, h3, X3, e3, E3, A3, D3, U3, st3⟩ := newO X0 hx hZ hown (hw _ (List.mem_of_getElem? (i := 11) rfl)) (hw _ (List.mem_of_getElem? (i := 12) rfl)) (hw _ (List.mem_of_getElem? (i := 13) rfl)) e0 (g := (mkF m 4 #[.val (.int vn), .val (.int vc), .val (.int vd)] [])) rfl (hb hby d2_4) (by decide) (by decide)
    obtain ⟨b3, g3⟩ : ∃ z, z = h0.size := ⟨_, rfl⟩
    rw [← g3] at A3 D3 U3 st3
    have g_b3 : n0 ≤ b3 := Nat.le_trans Z0 (Nat.le_of_eq g3.symm)
    have CC4 := CC0.trans (CHr.ext E3 CC0.1)
    have Zp5 : n0 ≤ h3.size := Nat.le_trans Z0 E3.1
    have Fn6 : Fld Z h3 b3 "java/lang/String" "coder" "B" (.int (0 : Int32)) := D3 (Or.inr (hw _ (List.mem_of_getElem? (i := 38) rfl))) (ty := .byte) (by decide)
    have Fn7 : Fld Z h3 b3 "java/lang/String" "value" "[B" .null := D3 (Or.inr (hw _ (List.mem_of_getElem? (i := 40) rfl))) (ty := (.array .byte)) (by decide)
    obtain ⟨T8, h8, k8, X8, e8, E8, A8, st8⟩ := newP X3 hx hZ (hw _ (List.mem_of_getElem? (i := 14) rfl)) e3 (g := (mkF m 9 #[.val (.int vn), .val (.int vc), .val (.int vd)] [(.int (0 : Int32)), (.ref b3), (.ref b3)])) rfl (hb hby d2_9) rfl (by decide) (cap := 0) (by decide) (by decide) (by decide) (by decide)
    obtain ⟨b8, g8⟩ : ∃ z, z = h3.size := ⟨_, rfl⟩
    rw [← g8] at A8 st8
    have g_b8 : n0 ≤ b8 := Nat.le_trans Zp5 (Nat.le_of_eq g8.symm)
    have CC9 := CC4.trans (CHr.ext E8 CC4.1)
    have Zp10 : n0 ≤ h8.size := Nat.le_trans Zp5 E8.1
    have V8 : Arv Z h8 b8 k8 .char (0 : Int32) [] (.int (0 : Int32)) := (Arv.new A8 (by decide)).pad (pad_rep [] (.int (0 : Int32)) 0)
    have Fc11 := (Exa.ext E8 A3)
    have Fc12 := (Fld.ext E8 Fn7)
    have Fc13 := (Fld.ext E8 Fn6)
    obtain ⟨_, _, ⟨T14, L14, k14, n14⟩, -, Xs14, hSs14, hgs14, ⟨Lc14, hQ14, l14, y14, z14, hC14⟩, st14⟩ := X8.specialBackS hx (y := (⟨"java/lang/String", "<init>", "([C)V"⟩ : MethodName)) rfl hown (mvT hZ (hw _ (List.mem_of_getElem? (i := 15) rfl))) (mvT hZ (hw _ (List.mem_of_getElem? (i := 16) rfl))) (mvT hZ (hw _ (List.mem_of_getElem? (i := 17) rfl))) (by decide) (backOfSH (W := 1) (rm_i1_0 l Z a0 hw [] b3 b8 k8 h8 n0 Zp10 Fc11 g_b3 Fc12 Fc13 V8) hZ (hw _ (List.mem_of_getElem? (i := 17) rfl)) (hw _ (List.mem_of_getElem? (i := 13) rfl)) (by decide) (by decide) (own_ew hw) CC9.1) (g := (mkF m 11 #[.val (.int vn), .val (.int vc), .val (.int vd)] [(.ref b8), (.ref b3), (.ref b3)])) rfl (by rw [hml]; rfl) (Steps.refl _) (a := b3) (argsL := [(.ref b8)]) (rest := [(.ref b3)]) (lenOf own_pd4 rfl) rfl (by show 2 * 0 + _ ≤ _; exact Nat.le_of_eq rfl) (hb hby d2_11) (fun _ _ => ⟨rfl, e8, (by decide : 2 + 4 ≤ _), (by decide : 4 + 8 ≤ _)⟩)
    obtain ⟨X14, hS14, hZ14, hown14⟩ := rebS (s := s) (vm0 := s.vm) ((State.WarmedH.refl s).since 0) (Nat.zero_le _) Xs14 hSs14 hgs14 hZ hown
    dsimp only [Pt.U, Pt.locs, Pt.cells, Pt.slots] at X14 l14 y14 z14 st14 hQ14 hC14
    subst l14 y14 z14
    obtain ⟨b14, kb14, rfl, Nq14, K14, Ex14, Fv14, Fc14, V14⟩ := hQ14
    have Nf14 := Fr.app N0 Nq14
    have CC15 := CC9.trans hC14
    have Zp16 : n0 ≤ T14.heap.size := Nat.le_trans Zp10 K14.1
    obtain ⟨fs, hr, hrun, hended, hREW⟩ := X14.leaveW (s := s) (vm₁ := T14.vm) hS14 ((Nat.le_refl _)) (v := some (.ref b3)) (fun h => by rw [Bd.returns] at h; cases h)
    refine ⟨_, _, pre1 _ ?_, hrun, hended, _, _, rfl, ?_, ?_, hREW.1, hREW.2.1, hREW.2.2.1, hREW.2.2.2.mono (by decide) (by decide)⟩
    · show Steps p.tables e below (s₁.setTop (mkF m 1 #[.val (.int vn), .val (.int vc), .val (.int vd)] [(.int vn)])) _
      refine XS.ifNo X0.here hx rfl (hb hby d2_1) rfl ((if0 _ _).trans (teq hc2).2) ?_
      show Steps p.tables e below (s₁.setTop (mkF m 4 #[.val (.int vn), .val (.int vc), .val (.int vd)] [])) _
      refine st3 _ ?_
      show Steps p.tables e below (T3.setTop (mkF m 7 #[.val (.int vn), .val (.int vc), .val (.int vd)] [(.ref b3)])) _
      refine XS.dup X3.here hx rfl (hb hby d2_7) rfl rfl ?_
      show Steps p.tables e below (T3.setTop (mkF m 8 #[.val (.int vn), .val (.int vc), .val (.int vd)] [(.ref b3), (.ref b3)])) _
      refine XS.iconst X3.here hx rfl (hb hby d2_8) ?_
      show Steps p.tables e below (T3.setTop (mkF m 9 #[.val (.int vn), .val (.int vc), .val (.int vd)] [(.int (0 : Int32)), (.ref b3), (.ref b3)])) _
      refine st8 _ ?_
      show Steps p.tables e below (T8.setTop (mkF m 11 #[.val (.int vn), .val (.int vc), .val (.int vd)] [(.ref b8), (.ref b3), (.ref b3)])) _
      refine st14.trans ?_
      show Steps p.tables e below (T14.setTop (mkF m 14 #[.val (.int vn), .val (.int vc), .val (.int vd)] [(.ref b3)])) _
      jvm_step X14.here [X14.here.top, hx, (hb hby d2_14), X14.method', Bd.returns, Value.isRef, FieldType.isReference]
      first | (intro acts; rw [hr _ acts rfl rfl rfl]) | rw [hr _ _ rfl rfl rfl]
      exact Steps.refl _
    · show Q_mk Z vn vc vd vcs h0 n0 _ T14.heap _
      have Kc17 := (Keep.refl h0 []).ext E3
      have Kc18 := Kc17.ext E8
      have Kc19 := Kc18.trans K14 (allS (Or.inr (Nat.le_trans (Keep.refl h0 []).1 (Nat.le_of_eq g3.symm))) all0)
      have hvn : vn = (0 : Int32) := hc2
      exact ⟨b3, b14, kb14, rfl, Nf14, Kc19, g_b3, (Nat.le_trans (Nat.le_refl h0.size) (Nat.le_of_eq g3.symm)), Ex14, Fv14, Fc14, by rw [hvn, own_bs0]; exact V14⟩
    · show CHr Z own_EL s.vm s.heap T14.vm T14.heap
      rw [hh]
      exact CC15.trans (CHv.at (s := s) (vm0 := T14.vm) X14 hZ14 (own_ew hw) CC15.1)
  · have pre20 : ∀ t, Steps p.tables e below (s₁.setTop (mkF m 17 #[.val (.int vn), .val (.int vc), .val (.int vd)] [(.int (1 : Int32)), (.int vn)])) t → Steps p.tables e below (s₁.setTop (entryFrame m #[(.int vn), (.int vc), (.int vd)] 3)) t := by
      intro t k
      refine pre1 t ?_
      show Steps p.tables e below (s₁.setTop (mkF m 1 #[.val (.int vn), .val (.int vc), .val (.int vd)] [(.int vn)])) _
      refine XS.ifYes X0.here hx rfl (pc0 := 1) (pc' := 15) rfl (hb hby d2_1) rfl ((if0 _ _).trans (feq hc2).2) (by decide) (by decide) ?_
      show Steps p.tables e below (s₁.setTop (mkF m 15 #[.val (.int vn), .val (.int vc), .val (.int vd)] [])) _
      refine XS.iloadN X0.here hx rfl (hb hby d2_15) rfl ?_
      show Steps p.tables e below (s₁.setTop (mkF m 16 #[.val (.int vn), .val (.int vc), .val (.int vd)] [(.int vn)])) _
      refine XS.iconst X0.here hx rfl (hb hby d2_16) ?_
      show Steps p.tables e below (s₁.setTop (mkF m 17 #[.val (.int vn), .val (.int vc), .val (.int vd)] [(.int (1 : Int32)), (.int vn)])) _
      exact k
    by_cases hc21 : vn = (1 : Int32)
    · obtain ⟨T22, h22, X22, e22, E22, A22, D22, U22, st22⟩ := newO X0 hx hZ hown (hw _ (List.mem_of_getElem? (i := 11) rfl)) (hw _ (List.mem_of_getElem? (i := 12) rfl)) (hw _ (List.mem_of_getElem? (i := 13) rfl)) e0 (g := (mkF m 20 #[.val (.int vn), .val (.int vc), .val (.int vd)] [])) rfl (hb hby d2_20) (by decide) (by decide)
      obtain ⟨b22, g22⟩ : ∃ z, z = h0.size := ⟨_, rfl⟩
      rw [← g22] at A22 D22 U22 st22
      have g_b22 : n0 ≤ b22 := Nat.le_trans Z0 (Nat.le_of_eq g22.symm)
      have CC23 := CC0.trans (CHr.ext E22 CC0.1)
      have Zp24 : n0 ≤ h22.size := Nat.le_trans Z0 E22.1
      have Fn25 : Fld Z h22 b22 "java/lang/String" "coder" "B" (.int (0 : Int32)) := D22 (Or.inr (hw _ (List.mem_of_getElem? (i := 38) rfl))) (ty := .byte) (by decide)
      have Fn26 : Fld Z h22 b22 "java/lang/String" "value" "[B" .null := D22 (Or.inr (hw _ (List.mem_of_getElem? (i := 40) rfl))) (ty := (.array .byte)) (by decide)
      obtain ⟨T27, h27, k27, X27, e27, E27, A27, st27⟩ := newP X22 hx hZ (hw _ (List.mem_of_getElem? (i := 14) rfl)) e22 (g := (mkF m 25 #[.val (.int vn), .val (.int vc), .val (.int vd)] [(.int (1 : Int32)), (.ref b22), (.ref b22)])) rfl (hb hby d2_25) rfl (by decide) (cap := 1) (by decide) (by decide) (by decide) (by decide)
      obtain ⟨b27, g27⟩ : ∃ z, z = h22.size := ⟨_, rfl⟩
      rw [← g27] at A27 st27
      have g_b27 : n0 ≤ b27 := Nat.le_trans Zp24 (Nat.le_of_eq g27.symm)
      have CC28 := CC23.trans (CHr.ext E27 CC23.1)
      have Zp29 : n0 ≤ h27.size := Nat.le_trans Zp24 E27.1
      have V27 : Arv Z h27 b27 k27 .char (1 : Int32) [(.int (0 : Int32))] (.int (0 : Int32)) := (Arv.new A27 (by decide)).pad (pad_rep [] (.int (0 : Int32)) 1)
      obtain ⟨cl30, Ar30, q30, S30, M30, H30, G30⟩ := id V27
      have hin30 : ¬ ((0 : Int32) < 0 ∨ cl30.slots.size ≤ ((0 : Int32)).toNatClampNeg) := inb_of S30 ⟨by decide, by decide⟩
      obtain ⟨T31, h31, X31, e31, W31, st31⟩ := stC X27 hx hZ e27 Ar30 (j := (0 : Int32)) hin30 (g := (mkF m 30 #[.val (.int vn), .val (.int vc), .val (.int vd)] [(.int vc), (.int (0 : Int32)), (.ref b27), (.ref b27), (.ref b22), (.ref b22)])) rfl rfl (hb hby d2_30)
      have N31 := Fr.snoc X31 N0 g_b27
      have V31 : Arv Z h31 b27 k27 .char (1 : Int32) [(.int (nar .char vc))] (.int (0 : Int32)) := Arv.set Ar30 q30 S30 M30 H30 G30 (fits_nar_char _) W31 0 rfl (Nat.le_of_ble_eq_true rfl)
      have CC32 := CC28.trans (CHr.wr W31 (Safe.arv hZ.alike V27 nofun) CC28.1)
      have Zp33 : n0 ≤ h31.size := Nat.le_trans Zp29 (Nat.le_of_eq (Wr.size W31).symm)
      have Fc34 := (Exa.wr W31 (Exa.ext E27 A22))
      have Fc35 := (Fld.other W31 (Fld.ext E27 Fn26) (Or.inl (Nat.ne_of_lt (Nat.lt_of_lt_of_le (A22).lt (Nat.le_of_eq g27.symm)))))
      have Fc36 := (Fld.other W31 (Fld.ext E27 Fn25) (Or.inl (Nat.ne_of_lt (Nat.lt_of_lt_of_le (A22).lt (Nat.le_of_eq g27.symm)))))
      have Fc37 := (Sta.wr W31 (Sta.ext E27 (Sta.ext E22 S_cs)))
      obtain ⟨_, _, ⟨T38, L38, k38, n38⟩, -, X38, ⟨Lc38, hQ38, l38, y38, z38⟩, st38⟩ := X31.specialBack hx (y := (⟨"java/lang/String", "<init>", "([C)V"⟩ : MethodName)) rfl hown (mvT hZ (hw _ (List.mem_of_getElem? (i := 15) rfl))) (mvT hZ (hw _ (List.mem_of_getElem? (i := 16) rfl))) (mvT hZ (hw _ (List.mem_of_getElem? (i := 17) rfl))) (by decide) (backOf (W := 1) (rm_i1_1 l Z a0 hw [] b22 b27 k27 (nar .char vc) vcs h31 n0 Zp33 Fc34 g_b22 Fc35 Fc36 V31 (own_nc255 r_c) Fc37 hcs) hZ (hw _ (List.mem_of_getElem? (i := 17) rfl)) (hw _ (List.mem_of_getElem? (i := 13) rfl)) (by decide) (by decide)) (g := (mkF m 31 #[.val (.int vn), .val (.int vc), .val (.int vd)] [(.ref b27), (.ref b22), (.ref b22)])) rfl (by rw [hml]; rfl) (Steps.refl _) (a := b22) (argsL := [(.ref b27)]) (rest := [(.ref b22)]) (lenOf own_pd4 rfl) rfl (by show 2 * 0 + _ ≤ _; exact Nat.le_of_eq rfl) (hb hby d2_31) (fun _ _ => ⟨rfl, e31, (by decide : 2 + 1 ≤ _), (by decide : 5 + 1 ≤ _)⟩)
      dsimp only [Pt.U, Pt.locs, Pt.cells, Pt.slots] at X38 l38 y38 z38 st38 hQ38
      subst l38 y38 z38
      obtain ⟨b38, kb38, rfl, Nq38, K38, Ex38, Fv38, Fc38, V38⟩ := hQ38
      have Nf38 := Fr.app N31 Nq38
      have CC39 := CC32.trans (CHr.keep K38 (sfS (own_safe hZ.alike Fc34 Fc35) sf0) CC32.1)
      have Zp40 : n0 ≤ T38.heap.size := Nat.le_trans Zp33 K38.1
      obtain ⟨fs, hr, hrun, hended, hW, hsame⟩ := X38.leave (v := some (.ref b22)) (fun h => by rw [Bd.returns] at h; cases h)
      refine ⟨_, _, pre20 _ ?_, hrun, hended, _, _, rfl, ?_, ?_, ⟨_, rfl⟩, hW.wide, hW.no_new_pair _, hsame.mono (by decide) (by decide)⟩
      · show Steps p.tables e below (s₁.setTop (mkF m 17 #[.val (.int vn), .val (.int vc), .val (.int vd)] [(.int (1 : Int32)), (.int vn)])) _
        refine XS.icmpNo X0.here hx rfl (hb hby d2_17) rfl (teq hc21).2 ?_
        show Steps p.tables e below (s₁.setTop (mkF m 20 #[.val (.int vn), .val (.int vc), .val (.int vd)] [])) _
        refine st22 _ ?_
        show Steps p.tables e below (T22.setTop (mkF m 23 #[.val (.int vn), .val (.int vc), .val (.int vd)] [(.ref b22)])) _
        refine XS.dup X22.here hx rfl (hb hby d2_23) rfl rfl ?_
        show Steps p.tables e below (T22.setTop (mkF m 24 #[.val (.int vn), .val (.int vc), .val (.int vd)] [(.ref b22), (.ref b22)])) _
        refine XS.iconst X22.here hx rfl (hb hby d2_24) ?_
        show Steps p.tables e below (T22.setTop (mkF m 25 #[.val (.int vn), .val (.int vc), .val (.int vd)] [(.int (1 : Int32)), (.ref b22), (.ref b22)])) _
        refine st27 _ ?_
        show Steps p.tables e below (T27.setTop (mkF m 27 #[.val (.int vn), .val (.int vc), .val (.int vd)] [(.ref b27), (.ref b22), (.ref b22)])) _
        refine XS.dup X27.here hx rfl (hb hby d2_27) rfl rfl ?_
        show Steps p.tables e below (T27.setTop (mkF m 28 #[.val (.int vn), .val (.int vc), .val (.int vd)] [(.ref b27), (.ref b27), (.ref b22), (.ref b22)])) _
        refine XS.iconst X27.here hx rfl (hb hby d2_28) ?_
        show Steps p.tables e below (T27.setTop (mkF m 29 #[.val (.int vn), .val (.int vc), .val (.int vd)] [(.int (0 : Int32)), (.ref b27), (.ref b27), (.ref b22), (.ref b22)])) _
        refine XS.iloadN X27.here hx rfl (hb hby d2_29) rfl ?_
        show Steps p.tables e below (T27.setTop (mkF m 30 #[.val (.int vn), .val (.int vc), .val (.int vd)] [(.int vc), (.int (0 : Int32)), (.ref b27), (.ref b27), (.ref b22), (.ref b22)])) _
        refine st31 _ ?_
        show Steps p.tables e below (T31.setTop (mkF m 31 #[.val (.int vn), .val (.int vc), .val (.int vd)] [(.ref b27), (.ref b22), (.ref b22)])) _
        refine st38.trans ?_
        show Steps p.tables e below (T38.setTop (mkF m 34 #[.val (.int vn), .val (.int vc), .val (.int vd)] [(.ref b22)])) _
        jvm_step X38.here [X38.here.top, hx, (hb hby d2_34), X38.method', Bd.returns, Value.isRef, FieldType.isReference]
        first | (intro acts; rw [hr _ acts rfl rfl rfl]) | rw [hr _ _ rfl rfl rfl]
        exact Steps.refl _
      · show Q_mk Z vn vc vd vcs h0 n0 _ T38.heap _
        have Kc41 := (Keep.refl h0 []).ext E22
        have Kc42 := Kc41.ext E27
        have Kc43 := Kc42.wr W31 (Or.inr (Nat.le_trans Kc41.1 (Nat.le_of_eq g27.symm)))
        have Kc44 := Kc43.trans K38 (allS (Or.inr (Nat.le_trans (Keep.refl h0 []).1 (Nat.le_of_eq g22.symm))) all0)
        have hvn : vn = (1 : Int32) := hc21
        exact ⟨b22, b38, kb38, rfl, Nf38, Kc44, g_b22, (Nat.le_trans (Nat.le_refl h0.size) (Nat.le_of_eq g22.symm)), Ex38, Fv38, Fc38, by rw [hvn, own_bs1]; exact V38⟩
      · show CHr Z own_EL s.vm s.heap T38.vm T38.heap
        rw [hh]
        exact CC39.trans (CHv.at (s := s) (vm0 := s.vm) X38 hZ (own_ew hw) CC39.1)
    · obtain ⟨T45, h45, X45, e45, E45, A45, D45, U45, st45⟩ := newO X0 hx hZ hown (hw _ (List.mem_of_getElem? (i := 11) rfl)) (hw _ (List.mem_of_getElem? (i := 12) rfl)) (hw _ (List.mem_of_getElem? (i := 13) rfl)) e0 (g := (mkF m 35 #[.val (.int vn), .val (.int vc), .val (.int vd)] [])) rfl (hb hby d2_35) (by decide) (by decide)
      obtain ⟨b45, g45⟩ : ∃ z, z = h0.size := ⟨_, rfl⟩
      rw [← g45] at A45 D45 U45 st45
      have g_b45 : n0 ≤ b45 := Nat.le_trans Z0 (Nat.le_of_eq g45.symm)
      have CC46 := CC0.trans (CHr.ext E45 CC0.1)
      have Zp47 : n0 ≤ h45.size := Nat.le_trans Z0 E45.1
      have Fn48 : Fld Z h45 b45 "java/lang/String" "coder" "B" (.int (0 : Int32)) := D45 (Or.inr (hw _ (List.mem_of_getElem? (i := 38) rfl))) (ty := .byte) (by decide)
      have Fn49 : Fld Z h45 b45 "java/lang/String" "value" "[B" .null := D45 (Or.inr (hw _ (List.mem_of_getElem? (i := 40) rfl))) (ty := (.array .byte)) (by decide)
      obtain ⟨T50, h50, k50, X50, e50, E50, A50, st50⟩ := newP X45 hx hZ (hw _ (List.mem_of_getElem? (i := 14) rfl)) e45 (g := (mkF m 40 #[.val (.int vn), .val (.int vc), .val (.int vd)] [(.int (2 : Int32)), (.ref b45), (.ref b45)])) rfl (hb hby d2_40) rfl (by decide) (cap := 2) (by decide) (by decide) (by decide) (by decide)
      obtain ⟨b50, g50⟩ : ∃ z, z = h45.size := ⟨_, rfl⟩
      rw [← g50] at A50 st50
      have g_b50 : n0 ≤ b50 := Nat.le_trans Zp47 (Nat.le_of_eq g50.symm)
      have CC51 := CC46.trans (CHr.ext E50 CC46.1)
      have Zp52 : n0 ≤ h50.size := Nat.le_trans Zp47 E50.1
      have V50 : Arv Z h50 b50 k50 .char (2 : Int32) [(.int (0 : Int32)), (.int (0 : Int32))] (.int (0 : Int32)) := (Arv.new A50 (by decide)).pad (pad_rep [] (.int (0 : Int32)) 2)
      obtain ⟨cl53, Ar53, q53, S53, M53, H53, G53⟩ := id V50
      have hin53 : ¬ ((0 : Int32) < 0 ∨ cl53.slots.size ≤ ((0 : Int32)).toNatClampNeg) := inb_of S53 ⟨by decide, by decide⟩
      obtain ⟨T54, h54, X54, e54, W54, st54⟩ := stC X50 hx hZ e50 Ar53 (j := (0 : Int32)) hin53 (g := (mkF m 45 #[.val (.int vn), .val (.int vc), .val (.int vd)] [(.int vc), (.int (0 : Int32)), (.ref b50), (.ref b50), (.ref b45), (.ref b45)])) rfl rfl (hb hby d2_45)
      have N54 := Fr.snoc X54 N0 g_b50
      have V54 : Arv Z h54 b50 k50 .char (2 : Int32) [(.int (nar .char vc)), (.int (0 : Int32))] (.int (0 : Int32)) := Arv.set Ar53 q53 S53 M53 H53 G53 (fits_nar_char _) W54 0 rfl (Nat.le_of_ble_eq_true rfl)
      have CC55 := CC51.trans (CHr.wr W54 (Safe.arv hZ.alike V50 nofun) CC51.1)
      have Zp56 : n0 ≤ h54.size := Nat.le_trans Zp52 (Nat.le_of_eq (Wr.size W54).symm)
      obtain ⟨cl57, Ar57, q57, S57, M57, H57, G57⟩ := id V54
      have hin57 : ¬ ((1 : Int32) < 0 ∨ cl57.slots.size ≤ ((1 : Int32)).toNatClampNeg) := inb_of S57 ⟨by decide, by decide⟩
      obtain ⟨T58, h58, X58, e58, W58, st58⟩ := stC X54 hx hZ e54 Ar57 (j := (1 : Int32)) hin57 (g := (mkF m 49 #[.val (.int vn), .val (.int vc), .val (.int vd)] [(.int vd), (.int (1 : Int32)), (.ref b50), (.ref b50), (.ref b45), (.ref b45)])) rfl rfl (hb hby d2_49)
      have N58 := Fr.snoc X58 N54 g_b50
      have V58 : Arv Z h58 b50 k50 .char (2 : Int32) [(.int (nar .char vc)), (.int (nar .char vd))] (.int (0 : Int32)) := Arv.set Ar57 q57 S57 M57 H57 G57 (fits_nar_char _) W58 1 rfl (Nat.le_of_ble_eq_true rfl)
      have CC59 := CC55.trans (CHr.wr W58 (Safe.arv hZ.alike V54 nofun) CC55.1)
      have Zp60 : n0 ≤ h58.size := Nat.le_trans Zp56 (Nat.le_of_eq (Wr.size W58).symm)
      have Fc61 := (Exa.wr W58 (Exa.wr W54 (Exa.ext E50 A45)))
      have Fc62 := (Fld.other W58 (Fld.other W54 (Fld.ext E50 Fn49) (Or.inl (Nat.ne_of_lt (Nat.lt_of_lt_of_le (A45).lt (Nat.le_of_eq g50.symm))))) (Or.inl (Nat.ne_of_lt (Nat.lt_of_lt_of_le (A45).lt (Nat.le_of_eq g50.symm)))))
      have Fc63 := (Fld.other W58 (Fld.other W54 (Fld.ext E50 Fn48) (Or.inl (Nat.ne_of_lt (Nat.lt_of_lt_of_le (A45).lt (Nat.le_of_eq g50.symm))))) (Or.inl (Nat.ne_of_lt (Nat.lt_of_lt_of_le (A45).lt (Nat.le_of_eq g50.symm)))))
      have Fc64 := (Sta.wr W58 (Sta.wr W54 (Sta.ext E50 (Sta.ext E45 S_cs))))
      obtain ⟨_, _, ⟨T65, L65, k65, n65⟩, -, X65, ⟨Lc65, hQ65, l65, y65, z65⟩, st65⟩ := X58.specialBack hx (y := (⟨"java/lang/String", "<init>", "([C)V"⟩ : MethodName)) rfl hown (mvT hZ (hw _ (List.mem_of_getElem? (i := 15) rfl))) (mvT hZ (hw _ (List.mem_of_getElem? (i := 16) rfl))) (mvT hZ (hw _ (List.mem_of_getElem? (i := 17) rfl))) (by decide) (backOf (W := 1) (rm_i1_2 l Z a0 hw [] b45 b50 k50 (nar .char vc) (nar .char vd) vcs h58 n0 Zp60 Fc61 g_b45 Fc62 Fc63 V58 (own_nc255 r_c) (own_nc255 r_d) Fc64 hcs) hZ (hw _ (List.mem_of_getElem? (i := 17) rfl)) (hw _ (List.mem_of_getElem? (i := 13) rfl)) (by decide) (by decide)) (g := (mkF m 50 #[.val (.int vn), .val (.int vc), .val (.int vd)] [(.ref b50), (.ref b45), (.ref b45)])) rfl (by rw [hml]; rfl) (Steps.refl _) (a := b45) (argsL := [(.ref b50)]) (rest := [(.ref b45)]) (lenOf own_pd4 rfl) rfl (by show 2 * 0 + _ ≤ _; exact Nat.le_of_eq rfl) (hb hby d2_50) (fun _ _ => ⟨rfl, e58, (by decide : 2 + 1 ≤ _), (by decide : 6 + 2 ≤ _)⟩)
      dsimp only [Pt.U, Pt.locs, Pt.cells, Pt.slots] at X65 l65 y65 z65 st65 hQ65
      subst l65 y65 z65
      obtain ⟨b65, kb65, rfl, Nq65, K65, Ex65, Fv65, Fc65, V65⟩ := hQ65
      have Nf65 := Fr.app N58 Nq65
      have CC66 := CC59.trans (CHr.keep K65 (sfS (own_safe hZ.alike Fc61 Fc62) sf0) CC59.1)
      have Zp67 : n0 ≤ T65.heap.size := Nat.le_trans Zp60 K65.1
      obtain ⟨fs, hr, hrun, hended, hW, hsame⟩ := X65.leave (v := some (.ref b45)) (fun h => by rw [Bd.returns] at h; cases h)
      refine ⟨_, _, pre20 _ ?_, hrun, hended, _, _, rfl, ?_, ?_, ⟨_, rfl⟩, hW.wide, hW.no_new_pair _, hsame.mono (by decide) (by decide)⟩
      · show Steps p.tables e below (s₁.setTop (mkF m 17 #[.val (.int vn), .val (.int vc), .val (.int vd)] [(.int (1 : Int32)), (.int vn)])) _
        refine XS.icmpYes X0.here hx rfl (pc0 := 17) (pc' := 35) rfl (hb hby d2_17) rfl (feq hc21).2 (by decide) (by decide) ?_
        show Steps p.tables e below (s₁.setTop (mkF m 35 #[.val (.int vn), .val (.int vc), .val (.int vd)] [])) _
        refine st45 _ ?_
        show Steps p.tables e below (T45.setTop (mkF m 38 #[.val (.int vn), .val (.int vc), .val (.int vd)] [(.ref b45)])) _
        refine XS.dup X45.here hx rfl (hb hby d2_38) rfl rfl ?_
        show Steps p.tables e below (T45.setTop (mkF m 39 #[.val (.int vn), .val (.int vc), .val (.int vd)] [(.ref b45), (.ref b45)])) _
        refine XS.iconst X45.here hx rfl (hb hby d2_39) ?_
        show Steps p.tables e below (T45.setTop (mkF m 40 #[.val (.int vn), .val (.int vc), .val (.int vd)] [(.int (2 : Int32)), (.ref b45), (.ref b45)])) _
        refine st50 _ ?_
        show Steps p.tables e below (T50.setTop (mkF m 42 #[.val (.int vn), .val (.int vc), .val (.int vd)] [(.ref b50), (.ref b45), (.ref b45)])) _
        refine XS.dup X50.here hx rfl (hb hby d2_42) rfl rfl ?_
        show Steps p.tables e below (T50.setTop (mkF m 43 #[.val (.int vn), .val (.int vc), .val (.int vd)] [(.ref b50), (.ref b50), (.ref b45), (.ref b45)])) _
        refine XS.iconst X50.here hx rfl (hb hby d2_43) ?_
        show Steps p.tables e below (T50.setTop (mkF m 44 #[.val (.int vn), .val (.int vc), .val (.int vd)] [(.int (0 : Int32)), (.ref b50), (.ref b50), (.ref b45), (.ref b45)])) _
        refine XS.iloadN X50.here hx rfl (hb hby d2_44) rfl ?_
        show Steps p.tables e below (T50.setTop (mkF m 45 #[.val (.int vn), .val (.int vc), .val (.int vd)] [(.int vc), (.int (0 : Int32)), (.ref b50), (.ref b50), (.ref b45), (.ref b45)])) _
        refine st54 _ ?_
        show Steps p.tables e below (T54.setTop (mkF m 46 #[.val (.int vn), .val (.int vc), .val (.int vd)] [(.ref b50), (.ref b45), (.ref b45)])) _
        refine XS.dup X54.here hx rfl (hb hby d2_46) rfl rfl ?_
        show Steps p.tables e below (T54.setTop (mkF m 47 #[.val (.int vn), .val (.int vc), .val (.int vd)] [(.ref b50), (.ref b50), (.ref b45), (.ref b45)])) _
        refine XS.iconst X54.here hx rfl (hb hby d2_47) ?_
        show Steps p.tables e below (T54.setTop (mkF m 48 #[.val (.int vn), .val (.int vc), .val (.int vd)] [(.int (1 : Int32)), (.ref b50), (.ref b50), (.ref b45), (.ref b45)])) _
        refine XS.iloadN X54.here hx rfl (hb hby d2_48) rfl ?_
        show Steps p.tables e below (T54.setTop (mkF m 49 #[.val (.int vn), .val (.int vc), .val (.int vd)] [(.int vd), (.int (1 : Int32)), (.ref b50), (.ref b50), (.ref b45), (.ref b45)])) _
        refine st58 _ ?_
        show Steps p.tables e below (T58.setTop (mkF m 50 #[.val (.int vn), .val (.int vc), .val (.int vd)] [(.ref b50), (.ref b45), (.ref b45)])) _
        refine st65.trans ?_
        show Steps p.tables e below (T65.setTop (mkF m 53 #[.val (.int vn), .val (.int vc), .val (.int vd)] [(.ref b45)])) _
        jvm_step X65.here [X65.here.top, hx, (hb hby d2_53), X65.method', Bd.returns, Value.isRef, FieldType.isReference]
        first | (intro acts; rw [hr _ acts rfl rfl rfl]) | rw [hr _ _ rfl rfl rfl]
        exact Steps.refl _
      · show Q_mk Z vn vc vd vcs h0 n0 _ T65.heap _
        have Kc68 := (Keep.refl h0 []).ext E45
        have Kc69 := Kc68.ext E50
        have Kc70 := Kc69.wr W54 (Or.inr (Nat.le_trans Kc68.1 (Nat.le_of_eq g50.symm)))
        have Kc71 := Kc70.wr W58 (Or.inr (Nat.le_trans Kc68.1 (Nat.le_of_eq g50.symm)))
        have Kc72 := Kc71.trans K65 (allS (Or.inr (Nat.le_trans (Keep.refl h0 []).1 (Nat.le_of_eq g45.symm))) all0)
        have hvn : vn = (2 : Int32) := own_len2 h_n hc2 hc21
        exact ⟨b45, b65, kb65, rfl, Nf65, Kc72, g_b45, (Nat.le_trans (Nat.le_refl h0.size) (Nat.le_of_eq g45.symm)), Ex65, Fv65, Fc65, by rw [hvn, own_bs2]; exact V65⟩
      · show CHr Z own_EL s.vm s.heap T65.vm T65.heap
        rw [hh]
        exact CC66.trans (CHv.at (s := s) (vm0 := s.vm) X65 hZ (own_ew hw) CC66.1)
theorem d12_0 : decode method_3_code 0 = .ok (.iload_n 0, 1) := by decide +kernel
theorem d12_1 : decode method_3_code 1 = .ok (.iload_n 3, 1) := by decide +kernel
theorem d12_2 : decode method_3_code 2 = .ok (.if_icmp .eq 5, 3) := by decide +kernel
theorem d12_5 : decode method_3_code 5 = .ok (.iconst 0, 1) := by decide +kernel
theorem d12_6 : decode method_3_code 6 = .ok (.ireturn, 1) := by decide +kernel
theorem d12_7 : decode method_3_code 7 = .ok (.iload_n 0, 1) := by decide +kernel
theorem d12_8 : decode method_3_code 8 = .ok (.iconst 1, 1) := by decide +kernel
theorem d12_9 : decode method_3_code 9 = .ok (.if_icmp .lt 11, 3) := by decide +kernel
theorem d12_12 : decode method_3_code 12 = .ok (.iload_n 1, 1) := by decide +kernel
theorem d12_13 : decode method_3_code 13 = .ok (.iload 4, 2) := by decide +kernel
theorem d12_15 : decode method_3_code 15 = .ok (.if_icmp .eq 5, 3) := by decide +kernel
theorem d12_18 : decode method_3_code 18 = .ok (.iconst 0, 1) := by decide +kernel
theorem d12_19 : decode method_3_code 19 = .ok (.ireturn, 1) := by decide +kernel
theorem d12_20 : decode method_3_code 20 = .ok (.iload_n 0, 1) := by decide +kernel
theorem d12_21 : decode method_3_code 21 = .ok (.iconst 2, 1) := by decide +kernel
theorem d12_22 : decode method_3_code 22 = .ok (.if_icmp .lt 11, 3) := by decide +kernel
theorem d12_25 : decode method_3_code 25 = .ok (.iload_n 2, 1) := by decide +kernel
theorem d12_26 : decode method_3_code 26 = .ok (.iload 5, 2) := by decide +kernel
theorem d12_28 : decode method_3_code 28 = .ok (.if_icmp .eq 5, 3) := by decide +kernel
theorem d12_31 : decode method_3_code 31 = .ok (.iconst 0, 1) := by decide +kernel
theorem d12_32 : decode method_3_code 32 = .ok (.ireturn, 1) := by decide +kernel
theorem d12_33 : decode method_3_code 33 = .ok (.iconst 1, 1) := by decide +kernel
theorem d12_34 : decode method_3_code 34 = .ok (.ireturn, 1) := by decide +kernel
theorem pn_rm_same : plainName "com/example/netmark/netmark/rules/NettingAgreementEqualsPinLaw" = true := by first | (simp [plainName, overriddenIn]; done) | decide +kernel
theorem ef_rm_same (m : MethodId) (sn : Int32) (sa : Int32) (sb : Int32) (tn : Int32) (ta : Int32) (tb : Int32) : entryFrame m #[(.int sn), (.int sa), (.int sb), (.int tn), (.int ta), (.int tb)] 6 = mkF m 0 #[.val (.int sn), .val (.int sa), .val (.int sb), .val (.int tn), .val (.int ta), .val (.int tb)] [] := by first | (simp [entryFrame, mkF, argsToLocals, Value.category]; done) | rfl
def Q_same (Z : State) (sn : Int32) (sa : Int32) (sb : Int32) (tn : Int32) (ta : Int32) (tb : Int32) (h0 : Heap) (n0 : Nat) (v : Option Value) (h : Heap) (L : List Loc) : Prop := v = some (.int (own_same sn sa sb tn ta tb)) ∧ Fr n0 L ∧ h = h0
set_option maxRecDepth 65536 in
set_option maxHeartbeats 40000000 in
theorem rm_same (l : Launch) (Z : State) (a0 : Array Value) (hw : ∀ d ∈ tables_1, d.before a0 Z = true) (ws : List Jvm.Cond) (sn : Int32) (sa : Int32) (sb : Int32) (tn : Int32) (ta : Int32) (tb : Int32) (h0 : Heap) (n0 : Nat) (Z0 : n0 ≤ h0.size) :
    MetFree l (⟨"com/example/netmark/netmark/rules/NettingAgreementEqualsPinLaw", "same", "(ICCICC)Z"⟩ : MethodName) (head1 (Jvm.Cond.code (⟨"com/example/netmark/netmark/rules/NettingAgreementEqualsPinLaw", "same", "(ICCICC)Z"⟩ : MethodName) method_3_code 6 (some .boolean) :: ws) ({ frames := 0, cells := 0, slots := 0, locals := 0 } : Room)) (fun a U => a = #[(.int sn), (.int sa), (.int sb), (.int tn), (.int ta), (.int tb)] ∧ Z.Warmed39 U.vm ∧ U.heap = h0) (fun _ _ _ _ _ => True) (fun _ U o U' => ∃ v L, o = .returned v ∧ Q_same Z sn sa sb tn ta tb h0 n0 v U'.heap L ∧ FrameEnd U o U' L ({ frames := 0, cells := 0, slots := 0, locals := 0 } : Room).cells ({ frames := 0, cells := 0, slots := 0, locals := 0 } : Room).slots) := by
  refine MetFree.of_bodySF (plainFor_of_name pn_rm_same) hisR ?_
  intro p e s m args below meth c s₁ Bd hml0 hP hK
  obtain ⟨rfl, hZ, hh⟩ := hP
  have hx := Bd.exec
  have hby := Bd.bytes
  have hml : c.maxLocals = 6 := hml0
  have hown : s.vm.findClass "com/example/netmark/netmark/rules/NettingAgreementEqualsPinLaw" = some m.cls := findClass_of_methodNamed Bd.named
  have hnm := (name_of_methodNamed Bd.named Bd.method).1
  have X0 : Stand p l e ({ frames := 0, cells := 0, slots := 0, locals := 0 } : Room) s m #[(.int sn), (.int sa), (.int sb), (.int tn), (.int ta), (.int tb)] below meth c s₁ [] 0 0 := Stand.of_body Bd
  have e0 : s₁.heap = h0 := by rw [← hh, Bd.state]; rfl
  have N0 := Fr.nil n0
  have pre0 : ∀ t, Steps p.tables e below (s₁.setTop (mkF m 0 #[.val (.int sn), .val (.int sa), .val (.int sb), .val (.int tn), .val (.int ta), .val (.int tb)] [])) t → Steps p.tables e below (s₁.setTop (entryFrame m #[(.int sn), (.int sa), (.int sb), (.int tn), (.int ta), (.int tb)] 6)) t := fun t k => castTop (ef_rm_same m sn sa sb tn ta tb) k
  have pre1 : ∀ t, Steps p.tables e below (s₁.setTop (mkF m 2 #[.val (.int sn), .val (.int sa), .val (.int sb), .val (.int tn), .val (.int ta), .val (.int tb)] [(.int tn), (.int sn)])) t → Steps p.tables e below (s₁.setTop (entryFrame m #[(.int sn), (.int sa), (.int sb), (.int tn), (.int ta), (.int tb)] 6)) t := by
    intro t k
    refine pre0 t ?_
    show Steps p.tables e below (s₁.setTop (mkF m 0 #[.val (.int sn), .val (.int sa), .val (.int sb), .val (.int tn), .val (.int ta), .val (.int tb)] [])) _
    refine XS.iloadN X0.here hx rfl (hb hby d12_0) rfl ?_
    show Steps p.tables e below (s₁.setTop (mkF m 1 #[.val (.int sn), .val (.int sa), .val (.int sb), .val (.int tn), .val (.int ta), .val (.int tb)] [(.int sn)])) _
    refine XS.iloadN X0.here hx rfl (hb hby d12_1) rfl ?_
    show Steps p.tables e below (s₁.setTop (mkF m 2 #[.val (.int sn), .val (.int sa), .val (.int sb), .val (.int tn), .val (.int ta), .val (.int tb)] [(.int tn), (.int sn)])) _
    exact k
  by_cases hc2 : sn = tn
  · have pre3 : ∀ t, Steps p.tables e below (s₁.setTop (mkF m 9 #[.val (.int sn), .val (.int sa), .val (.int sb), .val (.int tn), .val (.int ta), .val (.int tb)] [(.int (1 : Int32)), (.int sn)])) t → Steps p.tables e below (s₁.setTop (entryFrame m #[(.int sn), (.int sa), (.int sb), (.int tn), (.int ta), (.int tb)] 6)) t := by
      intro t k
      refine pre1 t ?_
      show Steps p.tables e below (s₁.setTop (mkF m 2 #[.val (.int sn), .val (.int sa), .val (.int sb), .val (.int tn), .val (.int ta), .val (.int tb)] [(.int tn), (.int sn)])) _
      refine XS.icmpYes X0.here hx rfl (pc0 := 2) (pc' := 7) rfl (hb hby d12_2) rfl (teq hc2).1 (by decide) (by decide) ?_
      show Steps p.tables e below (s₁.setTop (mkF m 7 #[.val (.int sn), .val (.int sa), .val (.int sb), .val (.int tn), .val (.int ta), .val (.int tb)] [])) _
      refine XS.iloadN X0.here hx rfl (hb hby d12_7) rfl ?_
      show Steps p.tables e below (s₁.setTop (mkF m 8 #[.val (.int sn), .val (.int sa), .val (.int sb), .val (.int tn), .val (.int ta), .val (.int tb)] [(.int sn)])) _
      refine XS.iconst X0.here hx rfl (hb hby d12_8) ?_
      show Steps p.tables e below (s₁.setTop (mkF m 9 #[.val (.int sn), .val (.int sa), .val (.int sb), .val (.int tn), .val (.int ta), .val (.int tb)] [(.int (1 : Int32)), (.int sn)])) _
      exact k
    by_cases hc4 : sn < (1 : Int32)
    · have hz4 := own_lt (K := 1) hc4 (by decide)
      have pre5 : ∀ t, Steps p.tables e below (s₁.setTop (mkF m 22 #[.val (.int sn), .val (.int sa), .val (.int sb), .val (.int tn), .val (.int ta), .val (.int tb)] [(.int (2 : Int32)), (.int sn)])) t → Steps p.tables e below (s₁.setTop (entryFrame m #[(.int sn), (.int sa), (.int sb), (.int tn), (.int ta), (.int tb)] 6)) t := by
        intro t k
        refine pre3 t ?_
        show Steps p.tables e below (s₁.setTop (mkF m 9 #[.val (.int sn), .val (.int sa), .val (.int sb), .val (.int tn), .val (.int ta), .val (.int tb)] [(.int (1 : Int32)), (.int sn)])) _
        refine XS.icmpYes X0.here hx rfl (pc0 := 9) (pc' := 20) rfl (hb hby d12_9) rfl (tlt hc4).1 (by decide) (by decide) ?_
        show Steps p.tables e below (s₁.setTop (mkF m 20 #[.val (.int sn), .val (.int sa), .val (.int sb), .val (.int tn), .val (.int ta), .val (.int tb)] [])) _
        refine XS.iloadN X0.here hx rfl (hb hby d12_20) rfl ?_
        show Steps p.tables e below (s₁.setTop (mkF m 21 #[.val (.int sn), .val (.int sa), .val (.int sb), .val (.int tn), .val (.int ta), .val (.int tb)] [(.int sn)])) _
        refine XS.iconst X0.here hx rfl (hb hby d12_21) ?_
        show Steps p.tables e below (s₁.setTop (mkF m 22 #[.val (.int sn), .val (.int sa), .val (.int sb), .val (.int tn), .val (.int ta), .val (.int tb)] [(.int (2 : Int32)), (.int sn)])) _
        exact k
      have hd6 : sn < (2 : Int32) := own_mk_lt (K := 2) (by omega) (by decide)
      obtain ⟨fs, hr, hrun, hended, hW, hsame⟩ := X0.leave (v := some (.int (1 : Int32))) (fun h => by rw [Bd.returns] at h; cases h)
      refine ⟨_, _, pre5 _ ?_, hrun, hended, _, _, rfl, ?_, ⟨_, rfl⟩, hW, hsame.mono (by decide) (by decide)⟩
      · show Steps p.tables e below (s₁.setTop (mkF m 22 #[.val (.int sn), .val (.int sa), .val (.int sb), .val (.int tn), .val (.int ta), .val (.int tb)] [(.int (2 : Int32)), (.int sn)])) _
        refine XS.icmpYes X0.here hx rfl (pc0 := 22) (pc' := 33) rfl (hb hby d12_22) rfl (tlt hd6).1 (by decide) (by decide) ?_
        show Steps p.tables e below (s₁.setTop (mkF m 33 #[.val (.int sn), .val (.int sa), .val (.int sb), .val (.int tn), .val (.int ta), .val (.int tb)] [])) _
        refine XS.iconst X0.here hx rfl (hb hby d12_33) ?_
        show Steps p.tables e below (s₁.setTop (mkF m 34 #[.val (.int sn), .val (.int sa), .val (.int sb), .val (.int tn), .val (.int ta), .val (.int tb)] [(.int (1 : Int32))])) _
        exact retN X0 hx (t := .boolean) Bd.returns (by simp) (hb hby d12_34) hr
      · show Q_same Z sn sa sb tn ta tb h0 n0 _ s₁.heap _
        rw [e0]
        exact ⟨by unfold own_same; rw [if_pos hc2, if_pos hc4], N0, rfl⟩
    · have hz4 := own_nlt (K := 1) hc4 (by decide)
      have pre7 : ∀ t, Steps p.tables e below (s₁.setTop (mkF m 15 #[.val (.int sn), .val (.int sa), .val (.int sb), .val (.int tn), .val (.int ta), .val (.int tb)] [(.int ta), (.int sa)])) t → Steps p.tables e below (s₁.setTop (entryFrame m #[(.int sn), (.int sa), (.int sb), (.int tn), (.int ta), (.int tb)] 6)) t := by
        intro t k
        refine pre3 t ?_
        show Steps p.tables e below (s₁.setTop (mkF m 9 #[.val (.int sn), .val (.int sa), .val (.int sb), .val (.int tn), .val (.int ta), .val (.int tb)] [(.int (1 : Int32)), (.int sn)])) _
        refine XS.icmpNo X0.here hx rfl (hb hby d12_9) rfl (flt hc4).1 ?_
        show Steps p.tables e below (s₁.setTop (mkF m 12 #[.val (.int sn), .val (.int sa), .val (.int sb), .val (.int tn), .val (.int ta), .val (.int tb)] [])) _
        refine XS.iloadN X0.here hx rfl (hb hby d12_12) rfl ?_
        show Steps p.tables e below (s₁.setTop (mkF m 13 #[.val (.int sn), .val (.int sa), .val (.int sb), .val (.int tn), .val (.int ta), .val (.int tb)] [(.int sa)])) _
        refine XS.iload X0.here hx rfl (hb hby d12_13) rfl ?_
        show Steps p.tables e below (s₁.setTop (mkF m 15 #[.val (.int sn), .val (.int sa), .val (.int sb), .val (.int tn), .val (.int ta), .val (.int tb)] [(.int ta), (.int sa)])) _
        exact k
      by_cases hc8 : sa = ta
      · have pre9 : ∀ t, Steps p.tables e below (s₁.setTop (mkF m 22 #[.val (.int sn), .val (.int sa), .val (.int sb), .val (.int tn), .val (.int ta), .val (.int tb)] [(.int (2 : Int32)), (.int sn)])) t → Steps p.tables e below (s₁.setTop (entryFrame m #[(.int sn), (.int sa), (.int sb), (.int tn), (.int ta), (.int tb)] 6)) t := by
          intro t k
          refine pre7 t ?_
          show Steps p.tables e below (s₁.setTop (mkF m 15 #[.val (.int sn), .val (.int sa), .val (.int sb), .val (.int tn), .val (.int ta), .val (.int tb)] [(.int ta), (.int sa)])) _
          refine XS.icmpYes X0.here hx rfl (pc0 := 15) (pc' := 20) rfl (hb hby d12_15) rfl (teq hc8).1 (by decide) (by decide) ?_
          show Steps p.tables e below (s₁.setTop (mkF m 20 #[.val (.int sn), .val (.int sa), .val (.int sb), .val (.int tn), .val (.int ta), .val (.int tb)] [])) _
          refine XS.iloadN X0.here hx rfl (hb hby d12_20) rfl ?_
          show Steps p.tables e below (s₁.setTop (mkF m 21 #[.val (.int sn), .val (.int sa), .val (.int sb), .val (.int tn), .val (.int ta), .val (.int tb)] [(.int sn)])) _
          refine XS.iconst X0.here hx rfl (hb hby d12_21) ?_
          show Steps p.tables e below (s₁.setTop (mkF m 22 #[.val (.int sn), .val (.int sa), .val (.int sb), .val (.int tn), .val (.int ta), .val (.int tb)] [(.int (2 : Int32)), (.int sn)])) _
          exact k
        by_cases hc10 : sn < (2 : Int32)
        · have hz10 := own_lt (K := 2) hc10 (by decide)
          obtain ⟨fs, hr, hrun, hended, hW, hsame⟩ := X0.leave (v := some (.int (1 : Int32))) (fun h => by rw [Bd.returns] at h; cases h)
          refine ⟨_, _, pre9 _ ?_, hrun, hended, _, _, rfl, ?_, ⟨_, rfl⟩, hW, hsame.mono (by decide) (by decide)⟩
          · show Steps p.tables e below (s₁.setTop (mkF m 22 #[.val (.int sn), .val (.int sa), .val (.int sb), .val (.int tn), .val (.int ta), .val (.int tb)] [(.int (2 : Int32)), (.int sn)])) _
            refine XS.icmpYes X0.here hx rfl (pc0 := 22) (pc' := 33) rfl (hb hby d12_22) rfl (tlt hc10).1 (by decide) (by decide) ?_
            show Steps p.tables e below (s₁.setTop (mkF m 33 #[.val (.int sn), .val (.int sa), .val (.int sb), .val (.int tn), .val (.int ta), .val (.int tb)] [])) _
            refine XS.iconst X0.here hx rfl (hb hby d12_33) ?_
            show Steps p.tables e below (s₁.setTop (mkF m 34 #[.val (.int sn), .val (.int sa), .val (.int sb), .val (.int tn), .val (.int ta), .val (.int tb)] [(.int (1 : Int32))])) _
            exact retN X0 hx (t := .boolean) Bd.returns (by simp) (hb hby d12_34) hr
          · show Q_same Z sn sa sb tn ta tb h0 n0 _ s₁.heap _
            rw [e0]
            exact ⟨by unfold own_same; rw [if_pos hc2, if_neg hc4, if_pos hc8, if_pos hc10], N0, rfl⟩
        · have hz10 := own_nlt (K := 2) hc10 (by decide)
          have pre11 : ∀ t, Steps p.tables e below (s₁.setTop (mkF m 28 #[.val (.int sn), .val (.int sa), .val (.int sb), .val (.int tn), .val (.int ta), .val (.int tb)] [(.int tb), (.int sb)])) t → Steps p.tables e below (s₁.setTop (entryFrame m #[(.int sn), (.int sa), (.int sb), (.int tn), (.int ta), (.int tb)] 6)) t := by
            intro t k
            refine pre9 t ?_
            show Steps p.tables e below (s₁.setTop (mkF m 22 #[.val (.int sn), .val (.int sa), .val (.int sb), .val (.int tn), .val (.int ta), .val (.int tb)] [(.int (2 : Int32)), (.int sn)])) _
            refine XS.icmpNo X0.here hx rfl (hb hby d12_22) rfl (flt hc10).1 ?_
            show Steps p.tables e below (s₁.setTop (mkF m 25 #[.val (.int sn), .val (.int sa), .val (.int sb), .val (.int tn), .val (.int ta), .val (.int tb)] [])) _
            refine XS.iloadN X0.here hx rfl (hb hby d12_25) rfl ?_
            show Steps p.tables e below (s₁.setTop (mkF m 26 #[.val (.int sn), .val (.int sa), .val (.int sb), .val (.int tn), .val (.int ta), .val (.int tb)] [(.int sb)])) _
            refine XS.iload X0.here hx rfl (hb hby d12_26) rfl ?_
            show Steps p.tables e below (s₁.setTop (mkF m 28 #[.val (.int sn), .val (.int sa), .val (.int sb), .val (.int tn), .val (.int ta), .val (.int tb)] [(.int tb), (.int sb)])) _
            exact k
          by_cases hc12 : sb = tb
          · obtain ⟨fs, hr, hrun, hended, hW, hsame⟩ := X0.leave (v := some (.int (1 : Int32))) (fun h => by rw [Bd.returns] at h; cases h)
            refine ⟨_, _, pre11 _ ?_, hrun, hended, _, _, rfl, ?_, ⟨_, rfl⟩, hW, hsame.mono (by decide) (by decide)⟩
            · show Steps p.tables e below (s₁.setTop (mkF m 28 #[.val (.int sn), .val (.int sa), .val (.int sb), .val (.int tn), .val (.int ta), .val (.int tb)] [(.int tb), (.int sb)])) _
              refine XS.icmpYes X0.here hx rfl (pc0 := 28) (pc' := 33) rfl (hb hby d12_28) rfl (teq hc12).1 (by decide) (by decide) ?_
              show Steps p.tables e below (s₁.setTop (mkF m 33 #[.val (.int sn), .val (.int sa), .val (.int sb), .val (.int tn), .val (.int ta), .val (.int tb)] [])) _
              refine XS.iconst X0.here hx rfl (hb hby d12_33) ?_
              show Steps p.tables e below (s₁.setTop (mkF m 34 #[.val (.int sn), .val (.int sa), .val (.int sb), .val (.int tn), .val (.int ta), .val (.int tb)] [(.int (1 : Int32))])) _
              exact retN X0 hx (t := .boolean) Bd.returns (by simp) (hb hby d12_34) hr
            · show Q_same Z sn sa sb tn ta tb h0 n0 _ s₁.heap _
              rw [e0]
              exact ⟨by unfold own_same; rw [if_pos hc2, if_neg hc4, if_pos hc8, if_neg hc10, if_pos hc12], N0, rfl⟩
          · obtain ⟨fs, hr, hrun, hended, hW, hsame⟩ := X0.leave (v := some (.int (0 : Int32))) (fun h => by rw [Bd.returns] at h; cases h)
            refine ⟨_, _, pre11 _ ?_, hrun, hended, _, _, rfl, ?_, ⟨_, rfl⟩, hW, hsame.mono (by decide) (by decide)⟩
            · show Steps p.tables e below (s₁.setTop (mkF m 28 #[.val (.int sn), .val (.int sa), .val (.int sb), .val (.int tn), .val (.int ta), .val (.int tb)] [(.int tb), (.int sb)])) _
              refine XS.icmpNo X0.here hx rfl (hb hby d12_28) rfl (feq hc12).1 ?_
              show Steps p.tables e below (s₁.setTop (mkF m 31 #[.val (.int sn), .val (.int sa), .val (.int sb), .val (.int tn), .val (.int ta), .val (.int tb)] [])) _
              refine XS.iconst X0.here hx rfl (hb hby d12_31) ?_
              show Steps p.tables e below (s₁.setTop (mkF m 32 #[.val (.int sn), .val (.int sa), .val (.int sb), .val (.int tn), .val (.int ta), .val (.int tb)] [(.int (0 : Int32))])) _
              exact retN X0 hx (t := .boolean) Bd.returns (by simp) (hb hby d12_32) hr
            · show Q_same Z sn sa sb tn ta tb h0 n0 _ s₁.heap _
              rw [e0]
              exact ⟨by unfold own_same; rw [if_pos hc2, if_neg hc4, if_pos hc8, if_neg hc10, if_neg hc12], N0, rfl⟩
      · obtain ⟨fs, hr, hrun, hended, hW, hsame⟩ := X0.leave (v := some (.int (0 : Int32))) (fun h => by rw [Bd.returns] at h; cases h)
        refine ⟨_, _, pre7 _ ?_, hrun, hended, _, _, rfl, ?_, ⟨_, rfl⟩, hW, hsame.mono (by decide) (by decide)⟩
        · show Steps p.tables e below (s₁.setTop (mkF m 15 #[.val (.int sn), .val (.int sa), .val (.int sb), .val (.int tn), .val (.int ta), .val (.int tb)] [(.int ta), (.int sa)])) _
          refine XS.icmpNo X0.here hx rfl (hb hby d12_15) rfl (feq hc8).1 ?_
          show Steps p.tables e below (s₁.setTop (mkF m 18 #[.val (.int sn), .val (.int sa), .val (.int sb), .val (.int tn), .val (.int ta), .val (.int tb)] [])) _
          refine XS.iconst X0.here hx rfl (hb hby d12_18) ?_
          show Steps p.tables e below (s₁.setTop (mkF m 19 #[.val (.int sn), .val (.int sa), .val (.int sb), .val (.int tn), .val (.int ta), .val (.int tb)] [(.int (0 : Int32))])) _
          exact retN X0 hx (t := .boolean) Bd.returns (by simp) (hb hby d12_19) hr
        · show Q_same Z sn sa sb tn ta tb h0 n0 _ s₁.heap _
          rw [e0]
          exact ⟨by unfold own_same; rw [if_pos hc2, if_neg hc4, if_neg hc8], N0, rfl⟩
  · obtain ⟨fs, hr, hrun, hended, hW, hsame⟩ := X0.leave (v := some (.int (0 : Int32))) (fun h => by rw [Bd.returns] at h; cases h)
    refine ⟨_, _, pre1 _ ?_, hrun, hended, _, _, rfl, ?_, ⟨_, rfl⟩, hW, hsame.mono (by decide) (by decide)⟩
    · show Steps p.tables e below (s₁.setTop (mkF m 2 #[.val (.int sn), .val (.int sa), .val (.int sb), .val (.int tn), .val (.int ta), .val (.int tb)] [(.int tn), (.int sn)])) _
      refine XS.icmpNo X0.here hx rfl (hb hby d12_2) rfl (feq hc2).1 ?_
      show Steps p.tables e below (s₁.setTop (mkF m 5 #[.val (.int sn), .val (.int sa), .val (.int sb), .val (.int tn), .val (.int ta), .val (.int tb)] [])) _
      refine XS.iconst X0.here hx rfl (hb hby d12_5) ?_
      show Steps p.tables e below (s₁.setTop (mkF m 6 #[.val (.int sn), .val (.int sa), .val (.int sb), .val (.int tn), .val (.int ta), .val (.int tb)] [(.int (0 : Int32))])) _
      exact retN X0 hx (t := .boolean) Bd.returns (by simp) (hb hby d12_6) hr
    · show Q_same Z sn sa sb tn ta tb h0 n0 _ s₁.heap _
      rw [e0]
      exact ⟨by unfold own_same; rw [if_neg hc2], N0, rfl⟩
theorem d15_0 : decode jdk_43_method_13_code 0 = .ok (.aload_n 0, 1) := by decide +kernel
theorem d15_1 : decode jdk_43_method_13_code 1 = .ok (.arraylength, 1) := by decide +kernel
theorem d15_2 : decode jdk_43_method_13_code 2 = .ok (.aload_n 1, 1) := by decide +kernel
theorem d15_3 : decode jdk_43_method_13_code 3 = .ok (.arraylength, 1) := by decide +kernel
theorem d15_4 : decode jdk_43_method_13_code 4 = .ok (.if_icmp .ne 30, 3) := by decide +kernel
theorem d15_7 : decode jdk_43_method_13_code 7 = .ok (.iconst 0, 1) := by decide +kernel
theorem d15_8 : decode jdk_43_method_13_code 8 = .ok (.istore_n 2, 1) := by decide +kernel
theorem d15_9 : decode jdk_43_method_13_code 9 = .ok (.iload_n 2, 1) := by decide +kernel
theorem d15_10 : decode jdk_43_method_13_code 10 = .ok (.aload_n 0, 1) := by decide +kernel
theorem d15_11 : decode jdk_43_method_13_code 11 = .ok (.arraylength, 1) := by decide +kernel
theorem d15_12 : decode jdk_43_method_13_code 12 = .ok (.if_icmp .ge 20, 3) := by decide +kernel
theorem d15_15 : decode jdk_43_method_13_code 15 = .ok (.aload_n 0, 1) := by decide +kernel
theorem d15_16 : decode jdk_43_method_13_code 16 = .ok (.iload_n 2, 1) := by decide +kernel
theorem d15_17 : decode jdk_43_method_13_code 17 = .ok (.baload, 1) := by decide +kernel
theorem d15_18 : decode jdk_43_method_13_code 18 = .ok (.aload_n 1, 1) := by decide +kernel
theorem d15_19 : decode jdk_43_method_13_code 19 = .ok (.iload_n 2, 1) := by decide +kernel
theorem d15_20 : decode jdk_43_method_13_code 20 = .ok (.baload, 1) := by decide +kernel
theorem d15_21 : decode jdk_43_method_13_code 21 = .ok (.if_icmp .eq 5, 3) := by decide +kernel
theorem d15_24 : decode jdk_43_method_13_code 24 = .ok (.iconst 0, 1) := by decide +kernel
theorem d15_25 : decode jdk_43_method_13_code 25 = .ok (.ireturn, 1) := by decide +kernel
theorem d15_26 : decode jdk_43_method_13_code 26 = .ok (.iinc 2 1, 3) := by decide +kernel
theorem d15_29 : decode jdk_43_method_13_code 29 = .ok (.goto (-20), 3) := by decide +kernel
theorem d15_32 : decode jdk_43_method_13_code 32 = .ok (.iconst 1, 1) := by decide +kernel
theorem d15_33 : decode jdk_43_method_13_code 33 = .ok (.ireturn, 1) := by decide +kernel
theorem d15_34 : decode jdk_43_method_13_code 34 = .ok (.iconst 0, 1) := by decide +kernel
theorem d15_35 : decode jdk_43_method_13_code 35 = .ok (.ireturn, 1) := by decide +kernel
theorem pn_rm_le : plainName "java/lang/StringLatin1" = true := by first | (simp [plainName, overriddenIn]; done) | decide +kernel
theorem ef_rm_le (m : MethodId) (vx : Addr) (vy : Addr) : entryFrame m #[(.ref vx), (.ref vy)] 3 = mkF m 0 #[.val (.ref vx), .val (.ref vy), .unset] [] := by first | (simp [entryFrame, mkF, argsToLocals, Value.category]; done) | rfl
def Q_le (Z : State) (vx : Addr) (vy : Addr) (kx : ClassId) (ky : ClassId) (nx : Int32) (cx : Int32) (dx : Int32) (ny : Int32) (cy : Int32) (dy : Int32) (h0 : Heap) (n0 : Nat) (v : Option Value) (h : Heap) (L : List Loc) : Prop := v = some (.int (own_same nx cx dx ny cy dy)) ∧ Fr n0 L ∧ h = h0
set_option maxRecDepth 65536 in
set_option maxHeartbeats 40000000 in
theorem rm_le (l : Launch) (Z : State) (a0 : Array Value) (hw : ∀ d ∈ tables_1, d.before a0 Z = true) (ws : List Jvm.Cond) (vx : Addr) (vy : Addr) (kx : ClassId) (ky : ClassId) (nx : Int32) (cx : Int32) (dx : Int32) (ny : Int32) (cy : Int32) (dy : Int32) (h0 : Heap) (n0 : Nat) (Z0 : n0 ≤ h0.size) (V_x : Arv Z h0 vx kx .byte nx (own_bs nx cx dx) (.int (0 : Int32))) (V_y : Arv Z h0 vy ky .byte ny (own_bs ny cy dy) (.int (0 : Int32))) (l_x : nx = 0 ∨ nx = 1 ∨ nx = 2) (l_y : ny = 0 ∨ ny = 1 ∨ ny = 2) (r_cx : own_r cx) (r_dx : own_r dx) (r_cy : own_r cy) (r_dy : own_r dy) :
    MetFree l (⟨"java/lang/StringLatin1", "equals", "([B[B)Z"⟩ : MethodName) (head1 (Jvm.Cond.code (⟨"java/lang/StringLatin1", "equals", "([B[B)Z"⟩ : MethodName) jdk_43_method_13_code 3 (some .boolean) :: ws) ({ frames := 0, cells := 0, slots := 0, locals := 0 } : Room)) (fun a U => a = #[(.ref vx), (.ref vy)] ∧ Z.Warmed39 U.vm ∧ U.heap = h0) (fun _ _ _ _ _ => True) (fun _ U o U' => ∃ v L, o = .returned v ∧ Q_le Z vx vy kx ky nx cx dx ny cy dy h0 n0 v U'.heap L ∧ FrameEnd U o U' L ({ frames := 0, cells := 0, slots := 0, locals := 0 } : Room).cells ({ frames := 0, cells := 0, slots := 0, locals := 0 } : Room).slots) := by
  refine MetFree.of_bodySF (plainFor_of_name pn_rm_le) hisR ?_
  intro p e s m args below meth c s₁ Bd hml0 hP hK
  obtain ⟨rfl, hZ, hh⟩ := hP
  have hx := Bd.exec
  have hby := Bd.bytes
  have hml : c.maxLocals = 3 := hml0
  have hown : s.vm.findClass "java/lang/StringLatin1" = some m.cls := findClass_of_methodNamed Bd.named
  have hnm := (name_of_methodNamed Bd.named Bd.method).1
  have X0 : Stand p l e ({ frames := 0, cells := 0, slots := 0, locals := 0 } : Room) s m #[(.ref vx), (.ref vy)] below meth c s₁ [] 0 0 := Stand.of_body Bd
  have e0 : s₁.heap = h0 := by rw [← hh, Bd.state]; rfl
  have N0 := Fr.nil n0
  have pre0 : ∀ t, Steps p.tables e below (s₁.setTop (mkF m 0 #[.val (.ref vx), .val (.ref vy), .unset] [])) t → Steps p.tables e below (s₁.setTop (entryFrame m #[(.ref vx), (.ref vy)] 3)) t := fun t k => castTop (ef_rm_le m vx vy) k
  rcases l_x with hx0 | hx0 | hx0
  · have V_x' := V_x
    rw [hx0, own_bs0] at V_x'
    rcases l_y with hy0 | hy0 | hy0
    · have V_y' := V_y
      rw [hy0, own_bs0] at V_y'
      obtain ⟨cl1, Ar1, -, S1, M1, -, -⟩ := id V_x'
      obtain ⟨cl2, Ar2, -, S2, M2, -, -⟩ := id V_y'
      obtain ⟨cl3, Ar3, -, S3, M3, -, -⟩ := id V_x'
      obtain ⟨fs, hr, hrun, hended, hW, hsame⟩ := X0.leave (v := some (.int (1 : Int32))) (fun h => by rw [Bd.returns] at h; cases h)
      refine ⟨_, _, pre0 _ ?_, hrun, hended, _, _, rfl, ?_, ⟨_, rfl⟩, hW, hsame.mono (by decide) (by decide)⟩
      · show Steps p.tables e below (s₁.setTop (mkF m 0 #[.val (.ref vx), .val (.ref vy), .unset] [])) _
        refine XS.aloadN X0.here hx rfl (hb hby d15_0) rfl rfl ?_
        show Steps p.tables e below (s₁.setTop (mkF m 1 #[.val (.ref vx), .val (.ref vy), .unset] [(.ref vx)])) _
        refine X0.arraylength hx (by rw [e0]; exact Ar1.1) (State.isArrayOf_alike hZ.alike Ar1.2.1) (g := (mkF m 1 #[.val (.ref vx), .val (.ref vy), .unset] [(.ref vx)])) rfl rfl (hb hby d15_1) _ ?_
        rw [len_of S1 M1]
        show Steps p.tables e below (s₁.setTop (mkF m 2 #[.val (.ref vx), .val (.ref vy), .unset] [(.int (0 : Int32))])) _
        refine XS.aloadN X0.here hx rfl (hb hby d15_2) rfl rfl ?_
        show Steps p.tables e below (s₁.setTop (mkF m 3 #[.val (.ref vx), .val (.ref vy), .unset] [(.ref vy), (.int (0 : Int32))])) _
        refine X0.arraylength hx (by rw [e0]; exact Ar2.1) (State.isArrayOf_alike hZ.alike Ar2.2.1) (g := (mkF m 3 #[.val (.ref vx), .val (.ref vy), .unset] [(.ref vy), (.int (0 : Int32))])) rfl rfl (hb hby d15_3) _ ?_
        rw [len_of S2 M2]
        show Steps p.tables e below (s₁.setTop (mkF m 4 #[.val (.ref vx), .val (.ref vy), .unset] [(.int (0 : Int32)), (.int (0 : Int32))])) _
        refine XS.icmpNo X0.here hx rfl (hb hby d15_4) rfl (by decide) ?_
        show Steps p.tables e below (s₁.setTop (mkF m 7 #[.val (.ref vx), .val (.ref vy), .unset] [])) _
        refine XS.iconst X0.here hx rfl (hb hby d15_7) ?_
        show Steps p.tables e below (s₁.setTop (mkF m 8 #[.val (.ref vx), .val (.ref vy), .unset] [(.int (0 : Int32))])) _
        refine XS.istoreN X0.here hx rfl (hb hby d15_8) rfl (l' := #[.val (.ref vx), .val (.ref vy), .val (.int (0 : Int32))]) rfl ?_
        show Steps p.tables e below (s₁.setTop (mkF m 9 #[.val (.ref vx), .val (.ref vy), .val (.int (0 : Int32))] [])) _
        refine XS.iloadN X0.here hx rfl (hb hby d15_9) rfl ?_
        show Steps p.tables e below (s₁.setTop (mkF m 10 #[.val (.ref vx), .val (.ref vy), .val (.int (0 : Int32))] [(.int (0 : Int32))])) _
        refine XS.aloadN X0.here hx rfl (hb hby d15_10) rfl rfl ?_
        show Steps p.tables e below (s₁.setTop (mkF m 11 #[.val (.ref vx), .val (.ref vy), .val (.int (0 : Int32))] [(.ref vx), (.int (0 : Int32))])) _
        refine X0.arraylength hx (by rw [e0]; exact Ar3.1) (State.isArrayOf_alike hZ.alike Ar3.2.1) (g := (mkF m 11 #[.val (.ref vx), .val (.ref vy), .val (.int (0 : Int32))] [(.ref vx), (.int (0 : Int32))])) rfl rfl (hb hby d15_11) _ ?_
        rw [len_of S3 M3]
        show Steps p.tables e below (s₁.setTop (mkF m 12 #[.val (.ref vx), .val (.ref vy), .val (.int (0 : Int32))] [(.int (0 : Int32)), (.int (0 : Int32))])) _
        refine XS.icmpYes X0.here hx rfl (pc0 := 12) (pc' := 32) rfl (hb hby d15_12) rfl (by decide) (by decide) (by decide) ?_
        show Steps p.tables e below (s₁.setTop (mkF m 32 #[.val (.ref vx), .val (.ref vy), .val (.int (0 : Int32))] [])) _
        refine XS.iconst X0.here hx rfl (hb hby d15_32) ?_
        show Steps p.tables e below (s₁.setTop (mkF m 33 #[.val (.ref vx), .val (.ref vy), .val (.int (0 : Int32))] [(.int (1 : Int32))])) _
        exact retN X0 hx (t := .boolean) Bd.returns (by simp) (hb hby d15_33) hr
      · show Q_le Z vx vy kx ky nx cx dx ny cy dy h0 n0 _ s₁.heap _
        rw [e0]
        exact ⟨by rw [hx0, hy0]; simp (decide := true) [own_same], N0, rfl⟩
    · have V_y' := V_y
      rw [hy0, own_bs1] at V_y'
      obtain ⟨cl4, Ar4, -, S4, M4, -, -⟩ := id V_x'
      obtain ⟨cl5, Ar5, -, S5, M5, -, -⟩ := id V_y'
      obtain ⟨fs, hr, hrun, hended, hW, hsame⟩ := X0.leave (v := some (.int (0 : Int32))) (fun h => by rw [Bd.returns] at h; cases h)
      refine ⟨_, _, pre0 _ ?_, hrun, hended, _, _, rfl, ?_, ⟨_, rfl⟩, hW, hsame.mono (by decide) (by decide)⟩
      · show Steps p.tables e below (s₁.setTop (mkF m 0 #[.val (.ref vx), .val (.ref vy), .unset] [])) _
        refine XS.aloadN X0.here hx rfl (hb hby d15_0) rfl rfl ?_
        show Steps p.tables e below (s₁.setTop (mkF m 1 #[.val (.ref vx), .val (.ref vy), .unset] [(.ref vx)])) _
        refine X0.arraylength hx (by rw [e0]; exact Ar4.1) (State.isArrayOf_alike hZ.alike Ar4.2.1) (g := (mkF m 1 #[.val (.ref vx), .val (.ref vy), .unset] [(.ref vx)])) rfl rfl (hb hby d15_1) _ ?_
        rw [len_of S4 M4]
        show Steps p.tables e below (s₁.setTop (mkF m 2 #[.val (.ref vx), .val (.ref vy), .unset] [(.int (0 : Int32))])) _
        refine XS.aloadN X0.here hx rfl (hb hby d15_2) rfl rfl ?_
        show Steps p.tables e below (s₁.setTop (mkF m 3 #[.val (.ref vx), .val (.ref vy), .unset] [(.ref vy), (.int (0 : Int32))])) _
        refine X0.arraylength hx (by rw [e0]; exact Ar5.1) (State.isArrayOf_alike hZ.alike Ar5.2.1) (g := (mkF m 3 #[.val (.ref vx), .val (.ref vy), .unset] [(.ref vy), (.int (0 : Int32))])) rfl rfl (hb hby d15_3) _ ?_
        rw [len_of S5 M5]
        show Steps p.tables e below (s₁.setTop (mkF m 4 #[.val (.ref vx), .val (.ref vy), .unset] [(.int (1 : Int32)), (.int (0 : Int32))])) _
        refine XS.icmpYes X0.here hx rfl (pc0 := 4) (pc' := 34) rfl (hb hby d15_4) rfl (by decide) (by decide) (by decide) ?_
        show Steps p.tables e below (s₁.setTop (mkF m 34 #[.val (.ref vx), .val (.ref vy), .unset] [])) _
        refine XS.iconst X0.here hx rfl (hb hby d15_34) ?_
        show Steps p.tables e below (s₁.setTop (mkF m 35 #[.val (.ref vx), .val (.ref vy), .unset] [(.int (0 : Int32))])) _
        exact retN X0 hx (t := .boolean) Bd.returns (by simp) (hb hby d15_35) hr
      · show Q_le Z vx vy kx ky nx cx dx ny cy dy h0 n0 _ s₁.heap _
        rw [e0]
        exact ⟨by rw [hx0, hy0]; simp (decide := true) [own_same], N0, rfl⟩
    · have V_y' := V_y
      rw [hy0, own_bs2] at V_y'
      obtain ⟨cl6, Ar6, -, S6, M6, -, -⟩ := id V_x'
      obtain ⟨cl7, Ar7, -, S7, M7, -, -⟩ := id V_y'
      obtain ⟨fs, hr, hrun, hended, hW, hsame⟩ := X0.leave (v := some (.int (0 : Int32))) (fun h => by rw [Bd.returns] at h; cases h)
      refine ⟨_, _, pre0 _ ?_, hrun, hended, _, _, rfl, ?_, ⟨_, rfl⟩, hW, hsame.mono (by decide) (by decide)⟩
      · show Steps p.tables e below (s₁.setTop (mkF m 0 #[.val (.ref vx), .val (.ref vy), .unset] [])) _
        refine XS.aloadN X0.here hx rfl (hb hby d15_0) rfl rfl ?_
        show Steps p.tables e below (s₁.setTop (mkF m 1 #[.val (.ref vx), .val (.ref vy), .unset] [(.ref vx)])) _
        refine X0.arraylength hx (by rw [e0]; exact Ar6.1) (State.isArrayOf_alike hZ.alike Ar6.2.1) (g := (mkF m 1 #[.val (.ref vx), .val (.ref vy), .unset] [(.ref vx)])) rfl rfl (hb hby d15_1) _ ?_
        rw [len_of S6 M6]
        show Steps p.tables e below (s₁.setTop (mkF m 2 #[.val (.ref vx), .val (.ref vy), .unset] [(.int (0 : Int32))])) _
        refine XS.aloadN X0.here hx rfl (hb hby d15_2) rfl rfl ?_
        show Steps p.tables e below (s₁.setTop (mkF m 3 #[.val (.ref vx), .val (.ref vy), .unset] [(.ref vy), (.int (0 : Int32))])) _
        refine X0.arraylength hx (by rw [e0]; exact Ar7.1) (State.isArrayOf_alike hZ.alike Ar7.2.1) (g := (mkF m 3 #[.val (.ref vx), .val (.ref vy), .unset] [(.ref vy), (.int (0 : Int32))])) rfl rfl (hb hby d15_3) _ ?_
        rw [len_of S7 M7]
        show Steps p.tables e below (s₁.setTop (mkF m 4 #[.val (.ref vx), .val (.ref vy), .unset] [(.int (2 : Int32)), (.int (0 : Int32))])) _
        refine XS.icmpYes X0.here hx rfl (pc0 := 4) (pc' := 34) rfl (hb hby d15_4) rfl (by decide) (by decide) (by decide) ?_
        show Steps p.tables e below (s₁.setTop (mkF m 34 #[.val (.ref vx), .val (.ref vy), .unset] [])) _
        refine XS.iconst X0.here hx rfl (hb hby d15_34) ?_
        show Steps p.tables e below (s₁.setTop (mkF m 35 #[.val (.ref vx), .val (.ref vy), .unset] [(.int (0 : Int32))])) _
        exact retN X0 hx (t := .boolean) Bd.returns (by simp) (hb hby d15_35) hr
      · show Q_le Z vx vy kx ky nx cx dx ny cy dy h0 n0 _ s₁.heap _
        rw [e0]
        exact ⟨by rw [hx0, hy0]; simp (decide := true) [own_same], N0, rfl⟩
  · have V_x' := V_x
    rw [hx0, own_bs1] at V_x'
    rcases l_y with hy0 | hy0 | hy0
    · have V_y' := V_y
      rw [hy0, own_bs0] at V_y'
      obtain ⟨cl8, Ar8, -, S8, M8, -, -⟩ := id V_x'
      obtain ⟨cl9, Ar9, -, S9, M9, -, -⟩ := id V_y'
      obtain ⟨fs, hr, hrun, hended, hW, hsame⟩ := X0.leave (v := some (.int (0 : Int32))) (fun h => by rw [Bd.returns] at h; cases h)
      refine ⟨_, _, pre0 _ ?_, hrun, hended, _, _, rfl, ?_, ⟨_, rfl⟩, hW, hsame.mono (by decide) (by decide)⟩
      · show Steps p.tables e below (s₁.setTop (mkF m 0 #[.val (.ref vx), .val (.ref vy), .unset] [])) _
        refine XS.aloadN X0.here hx rfl (hb hby d15_0) rfl rfl ?_
        show Steps p.tables e below (s₁.setTop (mkF m 1 #[.val (.ref vx), .val (.ref vy), .unset] [(.ref vx)])) _
        refine X0.arraylength hx (by rw [e0]; exact Ar8.1) (State.isArrayOf_alike hZ.alike Ar8.2.1) (g := (mkF m 1 #[.val (.ref vx), .val (.ref vy), .unset] [(.ref vx)])) rfl rfl (hb hby d15_1) _ ?_
        rw [len_of S8 M8]
        show Steps p.tables e below (s₁.setTop (mkF m 2 #[.val (.ref vx), .val (.ref vy), .unset] [(.int (1 : Int32))])) _
        refine XS.aloadN X0.here hx rfl (hb hby d15_2) rfl rfl ?_
        show Steps p.tables e below (s₁.setTop (mkF m 3 #[.val (.ref vx), .val (.ref vy), .unset] [(.ref vy), (.int (1 : Int32))])) _
        refine X0.arraylength hx (by rw [e0]; exact Ar9.1) (State.isArrayOf_alike hZ.alike Ar9.2.1) (g := (mkF m 3 #[.val (.ref vx), .val (.ref vy), .unset] [(.ref vy), (.int (1 : Int32))])) rfl rfl (hb hby d15_3) _ ?_
        rw [len_of S9 M9]
        show Steps p.tables e below (s₁.setTop (mkF m 4 #[.val (.ref vx), .val (.ref vy), .unset] [(.int (0 : Int32)), (.int (1 : Int32))])) _
        refine XS.icmpYes X0.here hx rfl (pc0 := 4) (pc' := 34) rfl (hb hby d15_4) rfl (by decide) (by decide) (by decide) ?_
        show Steps p.tables e below (s₁.setTop (mkF m 34 #[.val (.ref vx), .val (.ref vy), .unset] [])) _
        refine XS.iconst X0.here hx rfl (hb hby d15_34) ?_
        show Steps p.tables e below (s₁.setTop (mkF m 35 #[.val (.ref vx), .val (.ref vy), .unset] [(.int (0 : Int32))])) _
        exact retN X0 hx (t := .boolean) Bd.returns (by simp) (hb hby d15_35) hr
      · show Q_le Z vx vy kx ky nx cx dx ny cy dy h0 n0 _ s₁.heap _
        rw [e0]
        exact ⟨by rw [hx0, hy0]; simp (decide := true) [own_same], N0, rfl⟩
    · have V_y' := V_y
      rw [hy0, own_bs1] at V_y'
      obtain ⟨cl10, Ar10, -, S10, M10, -, -⟩ := id V_x'
      obtain ⟨cl11, Ar11, -, S11, M11, -, -⟩ := id V_y'
      obtain ⟨cl12, Ar12, -, S12, M12, -, -⟩ := id V_x'
      obtain ⟨cl13, Ar13, q13, S13, M13, H13, G13⟩ := id V_x'
      have hin13 : ¬ ((0 : Int32) < 0 ∨ cl13.slots.size ≤ ((0 : Int32)).toNatClampNeg) := inb_of S13 ⟨by decide, by decide⟩
      have hat13 : cl13.slots[((0 : Int32)).toNatClampNeg]? = some (.int (own_b cx)) := H13.at hin13 rfl
      obtain ⟨cl14, Ar14, q14, S14, M14, H14, G14⟩ := id V_y'
      have hin14 : ¬ ((0 : Int32) < 0 ∨ cl14.slots.size ≤ ((0 : Int32)).toNatClampNeg) := inb_of S14 ⟨by decide, by decide⟩
      have hat14 : cl14.slots[((0 : Int32)).toNatClampNeg]? = some (.int (own_b cy)) := H14.at hin14 rfl
      have pre15 : ∀ t, Steps p.tables e below (s₁.setTop (mkF m 21 #[.val (.ref vx), .val (.ref vy), .val (.int (0 : Int32))] [(.int (own_b cy)), (.int (own_b cx))])) t → Steps p.tables e below (s₁.setTop (entryFrame m #[(.ref vx), (.ref vy)] 3)) t := by
        intro t k
        refine pre0 t ?_
        show Steps p.tables e below (s₁.setTop (mkF m 0 #[.val (.ref vx), .val (.ref vy), .unset] [])) _
        refine XS.aloadN X0.here hx rfl (hb hby d15_0) rfl rfl ?_
        show Steps p.tables e below (s₁.setTop (mkF m 1 #[.val (.ref vx), .val (.ref vy), .unset] [(.ref vx)])) _
        refine X0.arraylength hx (by rw [e0]; exact Ar10.1) (State.isArrayOf_alike hZ.alike Ar10.2.1) (g := (mkF m 1 #[.val (.ref vx), .val (.ref vy), .unset] [(.ref vx)])) rfl rfl (hb hby d15_1) _ ?_
        rw [len_of S10 M10]
        show Steps p.tables e below (s₁.setTop (mkF m 2 #[.val (.ref vx), .val (.ref vy), .unset] [(.int (1 : Int32))])) _
        refine XS.aloadN X0.here hx rfl (hb hby d15_2) rfl rfl ?_
        show Steps p.tables e below (s₁.setTop (mkF m 3 #[.val (.ref vx), .val (.ref vy), .unset] [(.ref vy), (.int (1 : Int32))])) _
        refine X0.arraylength hx (by rw [e0]; exact Ar11.1) (State.isArrayOf_alike hZ.alike Ar11.2.1) (g := (mkF m 3 #[.val (.ref vx), .val (.ref vy), .unset] [(.ref vy), (.int (1 : Int32))])) rfl rfl (hb hby d15_3) _ ?_
        rw [len_of S11 M11]
        show Steps p.tables e below (s₁.setTop (mkF m 4 #[.val (.ref vx), .val (.ref vy), .unset] [(.int (1 : Int32)), (.int (1 : Int32))])) _
        refine XS.icmpNo X0.here hx rfl (hb hby d15_4) rfl (by decide) ?_
        show Steps p.tables e below (s₁.setTop (mkF m 7 #[.val (.ref vx), .val (.ref vy), .unset] [])) _
        refine XS.iconst X0.here hx rfl (hb hby d15_7) ?_
        show Steps p.tables e below (s₁.setTop (mkF m 8 #[.val (.ref vx), .val (.ref vy), .unset] [(.int (0 : Int32))])) _
        refine XS.istoreN X0.here hx rfl (hb hby d15_8) rfl (l' := #[.val (.ref vx), .val (.ref vy), .val (.int (0 : Int32))]) rfl ?_
        show Steps p.tables e below (s₁.setTop (mkF m 9 #[.val (.ref vx), .val (.ref vy), .val (.int (0 : Int32))] [])) _
        refine XS.iloadN X0.here hx rfl (hb hby d15_9) rfl ?_
        show Steps p.tables e below (s₁.setTop (mkF m 10 #[.val (.ref vx), .val (.ref vy), .val (.int (0 : Int32))] [(.int (0 : Int32))])) _
        refine XS.aloadN X0.here hx rfl (hb hby d15_10) rfl rfl ?_
        show Steps p.tables e below (s₁.setTop (mkF m 11 #[.val (.ref vx), .val (.ref vy), .val (.int (0 : Int32))] [(.ref vx), (.int (0 : Int32))])) _
        refine X0.arraylength hx (by rw [e0]; exact Ar12.1) (State.isArrayOf_alike hZ.alike Ar12.2.1) (g := (mkF m 11 #[.val (.ref vx), .val (.ref vy), .val (.int (0 : Int32))] [(.ref vx), (.int (0 : Int32))])) rfl rfl (hb hby d15_11) _ ?_
        rw [len_of S12 M12]
        show Steps p.tables e below (s₁.setTop (mkF m 12 #[.val (.ref vx), .val (.ref vy), .val (.int (0 : Int32))] [(.int (1 : Int32)), (.int (0 : Int32))])) _
        refine XS.icmpNo X0.here hx rfl (hb hby d15_12) rfl (by decide) ?_
        show Steps p.tables e below (s₁.setTop (mkF m 15 #[.val (.ref vx), .val (.ref vy), .val (.int (0 : Int32))] [])) _
        refine XS.aloadN X0.here hx rfl (hb hby d15_15) rfl rfl ?_
        show Steps p.tables e below (s₁.setTop (mkF m 16 #[.val (.ref vx), .val (.ref vy), .val (.int (0 : Int32))] [(.ref vx)])) _
        refine XS.iloadN X0.here hx rfl (hb hby d15_16) rfl ?_
        show Steps p.tables e below (s₁.setTop (mkF m 17 #[.val (.ref vx), .val (.ref vy), .val (.int (0 : Int32))] [(.int (0 : Int32)), (.ref vx)])) _
        refine X0.baloadBytes hx (j := (0 : Int32)) (v := (.int (own_b cx))) (by rw [e0]; exact Ar13.1) (State.isArrayOf_alike hZ.alike Ar13.2.1) Ar13.2.2 hin13 hat13 (g := (mkF m 17 #[.val (.ref vx), .val (.ref vy), .val (.int (0 : Int32))] [(.int (0 : Int32)), (.ref vx)])) rfl rfl (hb hby d15_17) _ ?_
        show Steps p.tables e below (s₁.setTop (mkF m 18 #[.val (.ref vx), .val (.ref vy), .val (.int (0 : Int32))] [(.int (own_b cx))])) _
        refine XS.aloadN X0.here hx rfl (hb hby d15_18) rfl rfl ?_
        show Steps p.tables e below (s₁.setTop (mkF m 19 #[.val (.ref vx), .val (.ref vy), .val (.int (0 : Int32))] [(.ref vy), (.int (own_b cx))])) _
        refine XS.iloadN X0.here hx rfl (hb hby d15_19) rfl ?_
        show Steps p.tables e below (s₁.setTop (mkF m 20 #[.val (.ref vx), .val (.ref vy), .val (.int (0 : Int32))] [(.int (0 : Int32)), (.ref vy), (.int (own_b cx))])) _
        refine X0.baloadBytes hx (j := (0 : Int32)) (v := (.int (own_b cy))) (by rw [e0]; exact Ar14.1) (State.isArrayOf_alike hZ.alike Ar14.2.1) Ar14.2.2 hin14 hat14 (g := (mkF m 20 #[.val (.ref vx), .val (.ref vy), .val (.int (0 : Int32))] [(.int (0 : Int32)), (.ref vy), (.int (own_b cx))])) rfl rfl (hb hby d15_20) _ ?_
        show Steps p.tables e below (s₁.setTop (mkF m 21 #[.val (.ref vx), .val (.ref vy), .val (.int (0 : Int32))] [(.int (own_b cy)), (.int (own_b cx))])) _
        exact k
      by_cases hc16 : (own_b cx) = (own_b cy)
      · obtain ⟨cl17, Ar17, -, S17, M17, -, -⟩ := id V_x'
        obtain ⟨fs, hr, hrun, hended, hW, hsame⟩ := X0.leave (v := some (.int (1 : Int32))) (fun h => by rw [Bd.returns] at h; cases h)
        refine ⟨_, _, pre15 _ ?_, hrun, hended, _, _, rfl, ?_, ⟨_, rfl⟩, hW, hsame.mono (by decide) (by decide)⟩
        · show Steps p.tables e below (s₁.setTop (mkF m 21 #[.val (.ref vx), .val (.ref vy), .val (.int (0 : Int32))] [(.int (own_b cy)), (.int (own_b cx))])) _
          refine XS.icmpYes X0.here hx rfl (pc0 := 21) (pc' := 26) rfl (hb hby d15_21) rfl (teq hc16).1 (by decide) (by decide) ?_
          show Steps p.tables e below (s₁.setTop (mkF m 26 #[.val (.ref vx), .val (.ref vy), .val (.int (0 : Int32))] [])) _
          refine XS.iinc X0.here hx rfl (hb hby d15_26) rfl (l' := #[.val (.ref vx), .val (.ref vy), .val (.int (1 : Int32))]) rfl ?_
          show Steps p.tables e below (s₁.setTop (mkF m 29 #[.val (.ref vx), .val (.ref vy), .val (.int (1 : Int32))] [])) _
          refine XS.goto X0.here hx rfl (pc0 := 29) (pc' := 9) rfl (hb hby d15_29) (by decide) (by decide) ?_
          show Steps p.tables e below (s₁.setTop (mkF m 9 #[.val (.ref vx), .val (.ref vy), .val (.int (1 : Int32))] [])) _
          refine XS.iloadN X0.here hx rfl (hb hby d15_9) rfl ?_
          show Steps p.tables e below (s₁.setTop (mkF m 10 #[.val (.ref vx), .val (.ref vy), .val (.int (1 : Int32))] [(.int (1 : Int32))])) _
          refine XS.aloadN X0.here hx rfl (hb hby d15_10) rfl rfl ?_
          show Steps p.tables e below (s₁.setTop (mkF m 11 #[.val (.ref vx), .val (.ref vy), .val (.int (1 : Int32))] [(.ref vx), (.int (1 : Int32))])) _
          refine X0.arraylength hx (by rw [e0]; exact Ar17.1) (State.isArrayOf_alike hZ.alike Ar17.2.1) (g := (mkF m 11 #[.val (.ref vx), .val (.ref vy), .val (.int (1 : Int32))] [(.ref vx), (.int (1 : Int32))])) rfl rfl (hb hby d15_11) _ ?_
          rw [len_of S17 M17]
          show Steps p.tables e below (s₁.setTop (mkF m 12 #[.val (.ref vx), .val (.ref vy), .val (.int (1 : Int32))] [(.int (1 : Int32)), (.int (1 : Int32))])) _
          refine XS.icmpYes X0.here hx rfl (pc0 := 12) (pc' := 32) rfl (hb hby d15_12) rfl (by decide) (by decide) (by decide) ?_
          show Steps p.tables e below (s₁.setTop (mkF m 32 #[.val (.ref vx), .val (.ref vy), .val (.int (1 : Int32))] [])) _
          refine XS.iconst X0.here hx rfl (hb hby d15_32) ?_
          show Steps p.tables e below (s₁.setTop (mkF m 33 #[.val (.ref vx), .val (.ref vy), .val (.int (1 : Int32))] [(.int (1 : Int32))])) _
          exact retN X0 hx (t := .boolean) Bd.returns (by simp) (hb hby d15_33) hr
        · show Q_le Z vx vy kx ky nx cx dx ny cy dy h0 n0 _ s₁.heap _
          rw [e0]
          have q18 : cx = cy := own_binj r_cx r_cy hc16
          exact ⟨by rw [hx0, hy0]; simp (decide := true) [own_same, q18], N0, rfl⟩
      · obtain ⟨fs, hr, hrun, hended, hW, hsame⟩ := X0.leave (v := some (.int (0 : Int32))) (fun h => by rw [Bd.returns] at h; cases h)
        refine ⟨_, _, pre15 _ ?_, hrun, hended, _, _, rfl, ?_, ⟨_, rfl⟩, hW, hsame.mono (by decide) (by decide)⟩
        · show Steps p.tables e below (s₁.setTop (mkF m 21 #[.val (.ref vx), .val (.ref vy), .val (.int (0 : Int32))] [(.int (own_b cy)), (.int (own_b cx))])) _
          refine XS.icmpNo X0.here hx rfl (hb hby d15_21) rfl (feq hc16).1 ?_
          show Steps p.tables e below (s₁.setTop (mkF m 24 #[.val (.ref vx), .val (.ref vy), .val (.int (0 : Int32))] [])) _
          refine XS.iconst X0.here hx rfl (hb hby d15_24) ?_
          show Steps p.tables e below (s₁.setTop (mkF m 25 #[.val (.ref vx), .val (.ref vy), .val (.int (0 : Int32))] [(.int (0 : Int32))])) _
          exact retN X0 hx (t := .boolean) Bd.returns (by simp) (hb hby d15_25) hr
        · show Q_le Z vx vy kx ky nx cx dx ny cy dy h0 n0 _ s₁.heap _
          rw [e0]
          have q19 : ¬ cx = cy := fun q => hc16 (by rw [q])
          exact ⟨by rw [hx0, hy0]; simp (decide := true) [own_same, q19], N0, rfl⟩
    · have V_y' := V_y
      rw [hy0, own_bs2] at V_y'
      obtain ⟨cl20, Ar20, -, S20, M20, -, -⟩ := id V_x'
      obtain ⟨cl21, Ar21, -, S21, M21, -, -⟩ := id V_y'
      obtain ⟨fs, hr, hrun, hended, hW, hsame⟩ := X0.leave (v := some (.int (0 : Int32))) (fun h => by rw [Bd.returns] at h; cases h)
      refine ⟨_, _, pre0 _ ?_, hrun, hended, _, _, rfl, ?_, ⟨_, rfl⟩, hW, hsame.mono (by decide) (by decide)⟩
      · show Steps p.tables e below (s₁.setTop (mkF m 0 #[.val (.ref vx), .val (.ref vy), .unset] [])) _
        refine XS.aloadN X0.here hx rfl (hb hby d15_0) rfl rfl ?_
        show Steps p.tables e below (s₁.setTop (mkF m 1 #[.val (.ref vx), .val (.ref vy), .unset] [(.ref vx)])) _
        refine X0.arraylength hx (by rw [e0]; exact Ar20.1) (State.isArrayOf_alike hZ.alike Ar20.2.1) (g := (mkF m 1 #[.val (.ref vx), .val (.ref vy), .unset] [(.ref vx)])) rfl rfl (hb hby d15_1) _ ?_
        rw [len_of S20 M20]
        show Steps p.tables e below (s₁.setTop (mkF m 2 #[.val (.ref vx), .val (.ref vy), .unset] [(.int (1 : Int32))])) _
        refine XS.aloadN X0.here hx rfl (hb hby d15_2) rfl rfl ?_
        show Steps p.tables e below (s₁.setTop (mkF m 3 #[.val (.ref vx), .val (.ref vy), .unset] [(.ref vy), (.int (1 : Int32))])) _
        refine X0.arraylength hx (by rw [e0]; exact Ar21.1) (State.isArrayOf_alike hZ.alike Ar21.2.1) (g := (mkF m 3 #[.val (.ref vx), .val (.ref vy), .unset] [(.ref vy), (.int (1 : Int32))])) rfl rfl (hb hby d15_3) _ ?_
        rw [len_of S21 M21]
        show Steps p.tables e below (s₁.setTop (mkF m 4 #[.val (.ref vx), .val (.ref vy), .unset] [(.int (2 : Int32)), (.int (1 : Int32))])) _
        refine XS.icmpYes X0.here hx rfl (pc0 := 4) (pc' := 34) rfl (hb hby d15_4) rfl (by decide) (by decide) (by decide) ?_
        show Steps p.tables e below (s₁.setTop (mkF m 34 #[.val (.ref vx), .val (.ref vy), .unset] [])) _
        refine XS.iconst X0.here hx rfl (hb hby d15_34) ?_
        show Steps p.tables e below (s₁.setTop (mkF m 35 #[.val (.ref vx), .val (.ref vy), .unset] [(.int (0 : Int32))])) _
        exact retN X0 hx (t := .boolean) Bd.returns (by simp) (hb hby d15_35) hr
      · show Q_le Z vx vy kx ky nx cx dx ny cy dy h0 n0 _ s₁.heap _
        rw [e0]
        exact ⟨by rw [hx0, hy0]; simp (decide := true) [own_same], N0, rfl⟩
  · have V_x' := V_x
    rw [hx0, own_bs2] at V_x'
    rcases l_y with hy0 | hy0 | hy0
    · have V_y' := V_y
      rw [hy0, own_bs0] at V_y'
      obtain ⟨cl22, Ar22, -, S22, M22, -, -⟩ := id V_x'
      obtain ⟨cl23, Ar23, -, S23, M23, -, -⟩ := id V_y'
      obtain ⟨fs, hr, hrun, hended, hW, hsame⟩ := X0.leave (v := some (.int (0 : Int32))) (fun h => by rw [Bd.returns] at h; cases h)
      refine ⟨_, _, pre0 _ ?_, hrun, hended, _, _, rfl, ?_, ⟨_, rfl⟩, hW, hsame.mono (by decide) (by decide)⟩
      · show Steps p.tables e below (s₁.setTop (mkF m 0 #[.val (.ref vx), .val (.ref vy), .unset] [])) _
        refine XS.aloadN X0.here hx rfl (hb hby d15_0) rfl rfl ?_
        show Steps p.tables e below (s₁.setTop (mkF m 1 #[.val (.ref vx), .val (.ref vy), .unset] [(.ref vx)])) _
        refine X0.arraylength hx (by rw [e0]; exact Ar22.1) (State.isArrayOf_alike hZ.alike Ar22.2.1) (g := (mkF m 1 #[.val (.ref vx), .val (.ref vy), .unset] [(.ref vx)])) rfl rfl (hb hby d15_1) _ ?_
        rw [len_of S22 M22]
        show Steps p.tables e below (s₁.setTop (mkF m 2 #[.val (.ref vx), .val (.ref vy), .unset] [(.int (2 : Int32))])) _
        refine XS.aloadN X0.here hx rfl (hb hby d15_2) rfl rfl ?_
        show Steps p.tables e below (s₁.setTop (mkF m 3 #[.val (.ref vx), .val (.ref vy), .unset] [(.ref vy), (.int (2 : Int32))])) _
        refine X0.arraylength hx (by rw [e0]; exact Ar23.1) (State.isArrayOf_alike hZ.alike Ar23.2.1) (g := (mkF m 3 #[.val (.ref vx), .val (.ref vy), .unset] [(.ref vy), (.int (2 : Int32))])) rfl rfl (hb hby d15_3) _ ?_
        rw [len_of S23 M23]
        show Steps p.tables e below (s₁.setTop (mkF m 4 #[.val (.ref vx), .val (.ref vy), .unset] [(.int (0 : Int32)), (.int (2 : Int32))])) _
        refine XS.icmpYes X0.here hx rfl (pc0 := 4) (pc' := 34) rfl (hb hby d15_4) rfl (by decide) (by decide) (by decide) ?_
        show Steps p.tables e below (s₁.setTop (mkF m 34 #[.val (.ref vx), .val (.ref vy), .unset] [])) _
        refine XS.iconst X0.here hx rfl (hb hby d15_34) ?_
        show Steps p.tables e below (s₁.setTop (mkF m 35 #[.val (.ref vx), .val (.ref vy), .unset] [(.int (0 : Int32))])) _
        exact retN X0 hx (t := .boolean) Bd.returns (by simp) (hb hby d15_35) hr
      · show Q_le Z vx vy kx ky nx cx dx ny cy dy h0 n0 _ s₁.heap _
        rw [e0]
        exact ⟨by rw [hx0, hy0]; simp (decide := true) [own_same], N0, rfl⟩
    · have V_y' := V_y
      rw [hy0, own_bs1] at V_y'
      obtain ⟨cl24, Ar24, -, S24, M24, -, -⟩ := id V_x'
      obtain ⟨cl25, Ar25, -, S25, M25, -, -⟩ := id V_y'
      obtain ⟨fs, hr, hrun, hended, hW, hsame⟩ := X0.leave (v := some (.int (0 : Int32))) (fun h => by rw [Bd.returns] at h; cases h)
      refine ⟨_, _, pre0 _ ?_, hrun, hended, _, _, rfl, ?_, ⟨_, rfl⟩, hW, hsame.mono (by decide) (by decide)⟩
      · show Steps p.tables e below (s₁.setTop (mkF m 0 #[.val (.ref vx), .val (.ref vy), .unset] [])) _
        refine XS.aloadN X0.here hx rfl (hb hby d15_0) rfl rfl ?_
        show Steps p.tables e below (s₁.setTop (mkF m 1 #[.val (.ref vx), .val (.ref vy), .unset] [(.ref vx)])) _
        refine X0.arraylength hx (by rw [e0]; exact Ar24.1) (State.isArrayOf_alike hZ.alike Ar24.2.1) (g := (mkF m 1 #[.val (.ref vx), .val (.ref vy), .unset] [(.ref vx)])) rfl rfl (hb hby d15_1) _ ?_
        rw [len_of S24 M24]
        show Steps p.tables e below (s₁.setTop (mkF m 2 #[.val (.ref vx), .val (.ref vy), .unset] [(.int (2 : Int32))])) _
        refine XS.aloadN X0.here hx rfl (hb hby d15_2) rfl rfl ?_
        show Steps p.tables e below (s₁.setTop (mkF m 3 #[.val (.ref vx), .val (.ref vy), .unset] [(.ref vy), (.int (2 : Int32))])) _
        refine X0.arraylength hx (by rw [e0]; exact Ar25.1) (State.isArrayOf_alike hZ.alike Ar25.2.1) (g := (mkF m 3 #[.val (.ref vx), .val (.ref vy), .unset] [(.ref vy), (.int (2 : Int32))])) rfl rfl (hb hby d15_3) _ ?_
        rw [len_of S25 M25]
        show Steps p.tables e below (s₁.setTop (mkF m 4 #[.val (.ref vx), .val (.ref vy), .unset] [(.int (1 : Int32)), (.int (2 : Int32))])) _
        refine XS.icmpYes X0.here hx rfl (pc0 := 4) (pc' := 34) rfl (hb hby d15_4) rfl (by decide) (by decide) (by decide) ?_
        show Steps p.tables e below (s₁.setTop (mkF m 34 #[.val (.ref vx), .val (.ref vy), .unset] [])) _
        refine XS.iconst X0.here hx rfl (hb hby d15_34) ?_
        show Steps p.tables e below (s₁.setTop (mkF m 35 #[.val (.ref vx), .val (.ref vy), .unset] [(.int (0 : Int32))])) _
        exact retN X0 hx (t := .boolean) Bd.returns (by simp) (hb hby d15_35) hr
      · show Q_le Z vx vy kx ky nx cx dx ny cy dy h0 n0 _ s₁.heap _
        rw [e0]
        exact ⟨by rw [hx0, hy0]; simp (decide := true) [own_same], N0, rfl⟩
    · have V_y' := V_y
      rw [hy0, own_bs2] at V_y'
      obtain ⟨cl26, Ar26, -, S26, M26, -, -⟩ := id V_x'
      obtain ⟨cl27, Ar27, -, S27, M27, -, -⟩ := id V_y'
      obtain ⟨cl28, Ar28, -, S28, M28, -, -⟩ := id V_x'
      obtain ⟨cl29, Ar29, q29, S29, M29, H29, G29⟩ := id V_x'
      have hin29 : ¬ ((0 : Int32) < 0 ∨ cl29.slots.size ≤ ((0 : Int32)).toNatClampNeg) := inb_of S29 ⟨by decide, by decide⟩
      have hat29 : cl29.slots[((0 : Int32)).toNatClampNeg]? = some (.int (own_b cx)) := H29.at hin29 rfl
      obtain ⟨cl30, Ar30, q30, S30, M30, H30, G30⟩ := id V_y'
      have hin30 : ¬ ((0 : Int32) < 0 ∨ cl30.slots.size ≤ ((0 : Int32)).toNatClampNeg) := inb_of S30 ⟨by decide, by decide⟩
      have hat30 : cl30.slots[((0 : Int32)).toNatClampNeg]? = some (.int (own_b cy)) := H30.at hin30 rfl
      have pre31 : ∀ t, Steps p.tables e below (s₁.setTop (mkF m 21 #[.val (.ref vx), .val (.ref vy), .val (.int (0 : Int32))] [(.int (own_b cy)), (.int (own_b cx))])) t → Steps p.tables e below (s₁.setTop (entryFrame m #[(.ref vx), (.ref vy)] 3)) t := by
        intro t k
        refine pre0 t ?_
        show Steps p.tables e below (s₁.setTop (mkF m 0 #[.val (.ref vx), .val (.ref vy), .unset] [])) _
        refine XS.aloadN X0.here hx rfl (hb hby d15_0) rfl rfl ?_
        show Steps p.tables e below (s₁.setTop (mkF m 1 #[.val (.ref vx), .val (.ref vy), .unset] [(.ref vx)])) _
        refine X0.arraylength hx (by rw [e0]; exact Ar26.1) (State.isArrayOf_alike hZ.alike Ar26.2.1) (g := (mkF m 1 #[.val (.ref vx), .val (.ref vy), .unset] [(.ref vx)])) rfl rfl (hb hby d15_1) _ ?_
        rw [len_of S26 M26]
        show Steps p.tables e below (s₁.setTop (mkF m 2 #[.val (.ref vx), .val (.ref vy), .unset] [(.int (2 : Int32))])) _
        refine XS.aloadN X0.here hx rfl (hb hby d15_2) rfl rfl ?_
        show Steps p.tables e below (s₁.setTop (mkF m 3 #[.val (.ref vx), .val (.ref vy), .unset] [(.ref vy), (.int (2 : Int32))])) _
        refine X0.arraylength hx (by rw [e0]; exact Ar27.1) (State.isArrayOf_alike hZ.alike Ar27.2.1) (g := (mkF m 3 #[.val (.ref vx), .val (.ref vy), .unset] [(.ref vy), (.int (2 : Int32))])) rfl rfl (hb hby d15_3) _ ?_
        rw [len_of S27 M27]
        show Steps p.tables e below (s₁.setTop (mkF m 4 #[.val (.ref vx), .val (.ref vy), .unset] [(.int (2 : Int32)), (.int (2 : Int32))])) _
        refine XS.icmpNo X0.here hx rfl (hb hby d15_4) rfl (by decide) ?_
        show Steps p.tables e below (s₁.setTop (mkF m 7 #[.val (.ref vx), .val (.ref vy), .unset] [])) _
        refine XS.iconst X0.here hx rfl (hb hby d15_7) ?_
        show Steps p.tables e below (s₁.setTop (mkF m 8 #[.val (.ref vx), .val (.ref vy), .unset] [(.int (0 : Int32))])) _
        refine XS.istoreN X0.here hx rfl (hb hby d15_8) rfl (l' := #[.val (.ref vx), .val (.ref vy), .val (.int (0 : Int32))]) rfl ?_
        show Steps p.tables e below (s₁.setTop (mkF m 9 #[.val (.ref vx), .val (.ref vy), .val (.int (0 : Int32))] [])) _
        refine XS.iloadN X0.here hx rfl (hb hby d15_9) rfl ?_
        show Steps p.tables e below (s₁.setTop (mkF m 10 #[.val (.ref vx), .val (.ref vy), .val (.int (0 : Int32))] [(.int (0 : Int32))])) _
        refine XS.aloadN X0.here hx rfl (hb hby d15_10) rfl rfl ?_
        show Steps p.tables e below (s₁.setTop (mkF m 11 #[.val (.ref vx), .val (.ref vy), .val (.int (0 : Int32))] [(.ref vx), (.int (0 : Int32))])) _
        refine X0.arraylength hx (by rw [e0]; exact Ar28.1) (State.isArrayOf_alike hZ.alike Ar28.2.1) (g := (mkF m 11 #[.val (.ref vx), .val (.ref vy), .val (.int (0 : Int32))] [(.ref vx), (.int (0 : Int32))])) rfl rfl (hb hby d15_11) _ ?_
        rw [len_of S28 M28]
        show Steps p.tables e below (s₁.setTop (mkF m 12 #[.val (.ref vx), .val (.ref vy), .val (.int (0 : Int32))] [(.int (2 : Int32)), (.int (0 : Int32))])) _
        refine XS.icmpNo X0.here hx rfl (hb hby d15_12) rfl (by decide) ?_
        show Steps p.tables e below (s₁.setTop (mkF m 15 #[.val (.ref vx), .val (.ref vy), .val (.int (0 : Int32))] [])) _
        refine XS.aloadN X0.here hx rfl (hb hby d15_15) rfl rfl ?_
        show Steps p.tables e below (s₁.setTop (mkF m 16 #[.val (.ref vx), .val (.ref vy), .val (.int (0 : Int32))] [(.ref vx)])) _
        refine XS.iloadN X0.here hx rfl (hb hby d15_16) rfl ?_
        show Steps p.tables e below (s₁.setTop (mkF m 17 #[.val (.ref vx), .val (.ref vy), .val (.int (0 : Int32))] [(.int (0 : Int32)), (.ref vx)])) _
        refine X0.baloadBytes hx (j := (0 : Int32)) (v := (.int (own_b cx))) (by rw [e0]; exact Ar29.1) (State.isArrayOf_alike hZ.alike Ar29.2.1) Ar29.2.2 hin29 hat29 (g := (mkF m 17 #[.val (.ref vx), .val (.ref vy), .val (.int (0 : Int32))] [(.int (0 : Int32)), (.ref vx)])) rfl rfl (hb hby d15_17) _ ?_
        show Steps p.tables e below (s₁.setTop (mkF m 18 #[.val (.ref vx), .val (.ref vy), .val (.int (0 : Int32))] [(.int (own_b cx))])) _
        refine XS.aloadN X0.here hx rfl (hb hby d15_18) rfl rfl ?_
        show Steps p.tables e below (s₁.setTop (mkF m 19 #[.val (.ref vx), .val (.ref vy), .val (.int (0 : Int32))] [(.ref vy), (.int (own_b cx))])) _
        refine XS.iloadN X0.here hx rfl (hb hby d15_19) rfl ?_
        show Steps p.tables e below (s₁.setTop (mkF m 20 #[.val (.ref vx), .val (.ref vy), .val (.int (0 : Int32))] [(.int (0 : Int32)), (.ref vy), (.int (own_b cx))])) _
        refine X0.baloadBytes hx (j := (0 : Int32)) (v := (.int (own_b cy))) (by rw [e0]; exact Ar30.1) (State.isArrayOf_alike hZ.alike Ar30.2.1) Ar30.2.2 hin30 hat30 (g := (mkF m 20 #[.val (.ref vx), .val (.ref vy), .val (.int (0 : Int32))] [(.int (0 : Int32)), (.ref vy), (.int (own_b cx))])) rfl rfl (hb hby d15_20) _ ?_
        show Steps p.tables e below (s₁.setTop (mkF m 21 #[.val (.ref vx), .val (.ref vy), .val (.int (0 : Int32))] [(.int (own_b cy)), (.int (own_b cx))])) _
        exact k
      by_cases hc32 : (own_b cx) = (own_b cy)
      · obtain ⟨cl33, Ar33, -, S33, M33, -, -⟩ := id V_x'
        obtain ⟨cl34, Ar34, q34, S34, M34, H34, G34⟩ := id V_x'
        have hin34 : ¬ ((1 : Int32) < 0 ∨ cl34.slots.size ≤ ((1 : Int32)).toNatClampNeg) := inb_of S34 ⟨by decide, by decide⟩
        have hat34 : cl34.slots[((1 : Int32)).toNatClampNeg]? = some (.int (own_b dx)) := H34.at hin34 rfl
        obtain ⟨cl35, Ar35, q35, S35, M35, H35, G35⟩ := id V_y'
        have hin35 : ¬ ((1 : Int32) < 0 ∨ cl35.slots.size ≤ ((1 : Int32)).toNatClampNeg) := inb_of S35 ⟨by decide, by decide⟩
        have hat35 : cl35.slots[((1 : Int32)).toNatClampNeg]? = some (.int (own_b dy)) := H35.at hin35 rfl
        have pre36 : ∀ t, Steps p.tables e below (s₁.setTop (mkF m 21 #[.val (.ref vx), .val (.ref vy), .val (.int (1 : Int32))] [(.int (own_b dy)), (.int (own_b dx))])) t → Steps p.tables e below (s₁.setTop (entryFrame m #[(.ref vx), (.ref vy)] 3)) t := by
          intro t k
          refine pre31 t ?_
          show Steps p.tables e below (s₁.setTop (mkF m 21 #[.val (.ref vx), .val (.ref vy), .val (.int (0 : Int32))] [(.int (own_b cy)), (.int (own_b cx))])) _
          refine XS.icmpYes X0.here hx rfl (pc0 := 21) (pc' := 26) rfl (hb hby d15_21) rfl (teq hc32).1 (by decide) (by decide) ?_
          show Steps p.tables e below (s₁.setTop (mkF m 26 #[.val (.ref vx), .val (.ref vy), .val (.int (0 : Int32))] [])) _
          refine XS.iinc X0.here hx rfl (hb hby d15_26) rfl (l' := #[.val (.ref vx), .val (.ref vy), .val (.int (1 : Int32))]) rfl ?_
          show Steps p.tables e below (s₁.setTop (mkF m 29 #[.val (.ref vx), .val (.ref vy), .val (.int (1 : Int32))] [])) _
          refine XS.goto X0.here hx rfl (pc0 := 29) (pc' := 9) rfl (hb hby d15_29) (by decide) (by decide) ?_
          show Steps p.tables e below (s₁.setTop (mkF m 9 #[.val (.ref vx), .val (.ref vy), .val (.int (1 : Int32))] [])) _
          refine XS.iloadN X0.here hx rfl (hb hby d15_9) rfl ?_
          show Steps p.tables e below (s₁.setTop (mkF m 10 #[.val (.ref vx), .val (.ref vy), .val (.int (1 : Int32))] [(.int (1 : Int32))])) _
          refine XS.aloadN X0.here hx rfl (hb hby d15_10) rfl rfl ?_
          show Steps p.tables e below (s₁.setTop (mkF m 11 #[.val (.ref vx), .val (.ref vy), .val (.int (1 : Int32))] [(.ref vx), (.int (1 : Int32))])) _
          refine X0.arraylength hx (by rw [e0]; exact Ar33.1) (State.isArrayOf_alike hZ.alike Ar33.2.1) (g := (mkF m 11 #[.val (.ref vx), .val (.ref vy), .val (.int (1 : Int32))] [(.ref vx), (.int (1 : Int32))])) rfl rfl (hb hby d15_11) _ ?_
          rw [len_of S33 M33]
          show Steps p.tables e below (s₁.setTop (mkF m 12 #[.val (.ref vx), .val (.ref vy), .val (.int (1 : Int32))] [(.int (2 : Int32)), (.int (1 : Int32))])) _
          refine XS.icmpNo X0.here hx rfl (hb hby d15_12) rfl (by decide) ?_
          show Steps p.tables e below (s₁.setTop (mkF m 15 #[.val (.ref vx), .val (.ref vy), .val (.int (1 : Int32))] [])) _
          refine XS.aloadN X0.here hx rfl (hb hby d15_15) rfl rfl ?_
          show Steps p.tables e below (s₁.setTop (mkF m 16 #[.val (.ref vx), .val (.ref vy), .val (.int (1 : Int32))] [(.ref vx)])) _
          refine XS.iloadN X0.here hx rfl (hb hby d15_16) rfl ?_
          show Steps p.tables e below (s₁.setTop (mkF m 17 #[.val (.ref vx), .val (.ref vy), .val (.int (1 : Int32))] [(.int (1 : Int32)), (.ref vx)])) _
          refine X0.baloadBytes hx (j := (1 : Int32)) (v := (.int (own_b dx))) (by rw [e0]; exact Ar34.1) (State.isArrayOf_alike hZ.alike Ar34.2.1) Ar34.2.2 hin34 hat34 (g := (mkF m 17 #[.val (.ref vx), .val (.ref vy), .val (.int (1 : Int32))] [(.int (1 : Int32)), (.ref vx)])) rfl rfl (hb hby d15_17) _ ?_
          show Steps p.tables e below (s₁.setTop (mkF m 18 #[.val (.ref vx), .val (.ref vy), .val (.int (1 : Int32))] [(.int (own_b dx))])) _
          refine XS.aloadN X0.here hx rfl (hb hby d15_18) rfl rfl ?_
          show Steps p.tables e below (s₁.setTop (mkF m 19 #[.val (.ref vx), .val (.ref vy), .val (.int (1 : Int32))] [(.ref vy), (.int (own_b dx))])) _
          refine XS.iloadN X0.here hx rfl (hb hby d15_19) rfl ?_
          show Steps p.tables e below (s₁.setTop (mkF m 20 #[.val (.ref vx), .val (.ref vy), .val (.int (1 : Int32))] [(.int (1 : Int32)), (.ref vy), (.int (own_b dx))])) _
          refine X0.baloadBytes hx (j := (1 : Int32)) (v := (.int (own_b dy))) (by rw [e0]; exact Ar35.1) (State.isArrayOf_alike hZ.alike Ar35.2.1) Ar35.2.2 hin35 hat35 (g := (mkF m 20 #[.val (.ref vx), .val (.ref vy), .val (.int (1 : Int32))] [(.int (1 : Int32)), (.ref vy), (.int (own_b dx))])) rfl rfl (hb hby d15_20) _ ?_
          show Steps p.tables e below (s₁.setTop (mkF m 21 #[.val (.ref vx), .val (.ref vy), .val (.int (1 : Int32))] [(.int (own_b dy)), (.int (own_b dx))])) _
          exact k
        by_cases hc37 : (own_b dx) = (own_b dy)
        · obtain ⟨cl38, Ar38, -, S38, M38, -, -⟩ := id V_x'
          obtain ⟨fs, hr, hrun, hended, hW, hsame⟩ := X0.leave (v := some (.int (1 : Int32))) (fun h => by rw [Bd.returns] at h; cases h)
          refine ⟨_, _, pre36 _ ?_, hrun, hended, _, _, rfl, ?_, ⟨_, rfl⟩, hW, hsame.mono (by decide) (by decide)⟩
          · show Steps p.tables e below (s₁.setTop (mkF m 21 #[.val (.ref vx), .val (.ref vy), .val (.int (1 : Int32))] [(.int (own_b dy)), (.int (own_b dx))])) _
            refine XS.icmpYes X0.here hx rfl (pc0 := 21) (pc' := 26) rfl (hb hby d15_21) rfl (teq hc37).1 (by decide) (by decide) ?_
            show Steps p.tables e below (s₁.setTop (mkF m 26 #[.val (.ref vx), .val (.ref vy), .val (.int (1 : Int32))] [])) _
            refine XS.iinc X0.here hx rfl (hb hby d15_26) rfl (l' := #[.val (.ref vx), .val (.ref vy), .val (.int (2 : Int32))]) rfl ?_
            show Steps p.tables e below (s₁.setTop (mkF m 29 #[.val (.ref vx), .val (.ref vy), .val (.int (2 : Int32))] [])) _
            refine XS.goto X0.here hx rfl (pc0 := 29) (pc' := 9) rfl (hb hby d15_29) (by decide) (by decide) ?_
            show Steps p.tables e below (s₁.setTop (mkF m 9 #[.val (.ref vx), .val (.ref vy), .val (.int (2 : Int32))] [])) _
            refine XS.iloadN X0.here hx rfl (hb hby d15_9) rfl ?_
            show Steps p.tables e below (s₁.setTop (mkF m 10 #[.val (.ref vx), .val (.ref vy), .val (.int (2 : Int32))] [(.int (2 : Int32))])) _
            refine XS.aloadN X0.here hx rfl (hb hby d15_10) rfl rfl ?_
            show Steps p.tables e below (s₁.setTop (mkF m 11 #[.val (.ref vx), .val (.ref vy), .val (.int (2 : Int32))] [(.ref vx), (.int (2 : Int32))])) _
            refine X0.arraylength hx (by rw [e0]; exact Ar38.1) (State.isArrayOf_alike hZ.alike Ar38.2.1) (g := (mkF m 11 #[.val (.ref vx), .val (.ref vy), .val (.int (2 : Int32))] [(.ref vx), (.int (2 : Int32))])) rfl rfl (hb hby d15_11) _ ?_
            rw [len_of S38 M38]
            show Steps p.tables e below (s₁.setTop (mkF m 12 #[.val (.ref vx), .val (.ref vy), .val (.int (2 : Int32))] [(.int (2 : Int32)), (.int (2 : Int32))])) _
            refine XS.icmpYes X0.here hx rfl (pc0 := 12) (pc' := 32) rfl (hb hby d15_12) rfl (by decide) (by decide) (by decide) ?_
            show Steps p.tables e below (s₁.setTop (mkF m 32 #[.val (.ref vx), .val (.ref vy), .val (.int (2 : Int32))] [])) _
            refine XS.iconst X0.here hx rfl (hb hby d15_32) ?_
            show Steps p.tables e below (s₁.setTop (mkF m 33 #[.val (.ref vx), .val (.ref vy), .val (.int (2 : Int32))] [(.int (1 : Int32))])) _
            exact retN X0 hx (t := .boolean) Bd.returns (by simp) (hb hby d15_33) hr
          · show Q_le Z vx vy kx ky nx cx dx ny cy dy h0 n0 _ s₁.heap _
            rw [e0]
            have q39 : cx = cy := own_binj r_cx r_cy hc32
            have q40 : dx = dy := own_binj r_dx r_dy hc37
            exact ⟨by rw [hx0, hy0]; simp (decide := true) [own_same, q39, q40], N0, rfl⟩
        · obtain ⟨fs, hr, hrun, hended, hW, hsame⟩ := X0.leave (v := some (.int (0 : Int32))) (fun h => by rw [Bd.returns] at h; cases h)
          refine ⟨_, _, pre36 _ ?_, hrun, hended, _, _, rfl, ?_, ⟨_, rfl⟩, hW, hsame.mono (by decide) (by decide)⟩
          · show Steps p.tables e below (s₁.setTop (mkF m 21 #[.val (.ref vx), .val (.ref vy), .val (.int (1 : Int32))] [(.int (own_b dy)), (.int (own_b dx))])) _
            refine XS.icmpNo X0.here hx rfl (hb hby d15_21) rfl (feq hc37).1 ?_
            show Steps p.tables e below (s₁.setTop (mkF m 24 #[.val (.ref vx), .val (.ref vy), .val (.int (1 : Int32))] [])) _
            refine XS.iconst X0.here hx rfl (hb hby d15_24) ?_
            show Steps p.tables e below (s₁.setTop (mkF m 25 #[.val (.ref vx), .val (.ref vy), .val (.int (1 : Int32))] [(.int (0 : Int32))])) _
            exact retN X0 hx (t := .boolean) Bd.returns (by simp) (hb hby d15_25) hr
          · show Q_le Z vx vy kx ky nx cx dx ny cy dy h0 n0 _ s₁.heap _
            rw [e0]
            have q41 : cx = cy := own_binj r_cx r_cy hc32
            have q42 : ¬ dx = dy := fun q => hc37 (by rw [q])
            exact ⟨by rw [hx0, hy0]; simp (decide := true) [own_same, q41, q42], N0, rfl⟩
      · obtain ⟨fs, hr, hrun, hended, hW, hsame⟩ := X0.leave (v := some (.int (0 : Int32))) (fun h => by rw [Bd.returns] at h; cases h)
        refine ⟨_, _, pre31 _ ?_, hrun, hended, _, _, rfl, ?_, ⟨_, rfl⟩, hW, hsame.mono (by decide) (by decide)⟩
        · show Steps p.tables e below (s₁.setTop (mkF m 21 #[.val (.ref vx), .val (.ref vy), .val (.int (0 : Int32))] [(.int (own_b cy)), (.int (own_b cx))])) _
          refine XS.icmpNo X0.here hx rfl (hb hby d15_21) rfl (feq hc32).1 ?_
          show Steps p.tables e below (s₁.setTop (mkF m 24 #[.val (.ref vx), .val (.ref vy), .val (.int (0 : Int32))] [])) _
          refine XS.iconst X0.here hx rfl (hb hby d15_24) ?_
          show Steps p.tables e below (s₁.setTop (mkF m 25 #[.val (.ref vx), .val (.ref vy), .val (.int (0 : Int32))] [(.int (0 : Int32))])) _
          exact retN X0 hx (t := .boolean) Bd.returns (by simp) (hb hby d15_25) hr
        · show Q_le Z vx vy kx ky nx cx dx ny cy dy h0 n0 _ s₁.heap _
          rw [e0]
          have q43 : ¬ cx = cy := fun q => hc32 (by rw [q])
          exact ⟨by rw [hx0, hy0]; simp (decide := true) [own_same, q43], N0, rfl⟩
theorem d14_0 : decode jdk_42_method_66_code 0 = .ok (.aload_n 0, 1) := by decide +kernel
theorem d14_1 : decode jdk_42_method_66_code 1 = .ok (.aload_n 1, 1) := by decide +kernel
theorem d14_2 : decode jdk_42_method_66_code 2 = .ok (.if_acmp .ne 5, 3) := by decide +kernel
theorem d14_5 : decode jdk_42_method_66_code 5 = .ok (.iconst 1, 1) := by decide +kernel
theorem d14_6 : decode jdk_42_method_66_code 6 = .ok (.ireturn, 1) := by decide +kernel
theorem d14_7 : decode jdk_42_method_66_code 7 = .ok (.aload_n 1, 1) := by decide +kernel
theorem d14_8 : decode jdk_42_method_66_code 8 = .ok (.instanceof 10, 3) := by decide +kernel
theorem d14_11 : decode jdk_42_method_66_code 11 = .ok (.ifCond .eq 43, 3) := by decide +kernel
theorem d14_14 : decode jdk_42_method_66_code 14 = .ok (.aload_n 1, 1) := by decide +kernel
theorem d14_15 : decode jdk_42_method_66_code 15 = .ok (.checkcast 10, 3) := by decide +kernel
theorem d14_18 : decode jdk_42_method_66_code 18 = .ok (.astore_n 2, 1) := by decide +kernel
theorem d14_19 : decode jdk_42_method_66_code 19 = .ok (.getstatic 38, 3) := by decide +kernel
theorem d14_22 : decode jdk_42_method_66_code 22 = .ok (.ifCond .eq 14, 3) := by decide +kernel
theorem d14_25 : decode jdk_42_method_66_code 25 = .ok (.aload_n 0, 1) := by decide +kernel
theorem d14_26 : decode jdk_42_method_66_code 26 = .ok (.getfield 15, 3) := by decide +kernel
theorem d14_29 : decode jdk_42_method_66_code 29 = .ok (.aload_n 2, 1) := by decide +kernel
theorem d14_30 : decode jdk_42_method_66_code 30 = .ok (.getfield 15, 3) := by decide +kernel
theorem d14_33 : decode jdk_42_method_66_code 33 = .ok (.if_icmp .ne 21, 3) := by decide +kernel
theorem d14_36 : decode jdk_42_method_66_code 36 = .ok (.aload_n 0, 1) := by decide +kernel
theorem d14_37 : decode jdk_42_method_66_code 37 = .ok (.getfield 9, 3) := by decide +kernel
theorem d14_40 : decode jdk_42_method_66_code 40 = .ok (.aload_n 2, 1) := by decide +kernel
theorem d14_41 : decode jdk_42_method_66_code 41 = .ok (.getfield 9, 3) := by decide +kernel
theorem d14_44 : decode jdk_42_method_66_code 44 = .ok (.invokestatic 541, 3) := by decide +kernel
theorem d14_47 : decode jdk_42_method_66_code 47 = .ok (.ifCond .eq 7, 3) := by decide +kernel
theorem d14_50 : decode jdk_42_method_66_code 50 = .ok (.iconst 1, 1) := by decide +kernel
theorem d14_51 : decode jdk_42_method_66_code 51 = .ok (.goto 4, 3) := by decide +kernel
theorem d14_54 : decode jdk_42_method_66_code 54 = .ok (.iconst 0, 1) := by decide +kernel
theorem d14_55 : decode jdk_42_method_66_code 55 = .ok (.ireturn, 1) := by decide +kernel
theorem pn_rm_se : plainName "java/lang/String" = true := by first | (simp [plainName, overriddenIn]; done) | decide +kernel
theorem ef_rm_se (m : MethodId) (vs : Addr) (vt : Addr) : entryFrame m #[(.ref vs), (.ref vt)] 3 = mkF m 0 #[.val (.ref vs), .val (.ref vt), .unset] [] := by first | (simp [entryFrame, mkF, argsToLocals, Value.category]; done) | rfl
def Q_se (Z : State) (vs : Addr) (vt : Addr) (vx : Addr) (vy : Addr) (kx : ClassId) (ky : ClassId) (nx : Int32) (cx : Int32) (dx : Int32) (ny : Int32) (cy : Int32) (dy : Int32) (vcs : Int32) (h0 : Heap) (n0 : Nat) (v : Option Value) (h : Heap) (L : List Loc) : Prop := v = some (.int (own_same nx cx dx ny cy dy)) ∧ Fr n0 L ∧ h = h0
set_option maxRecDepth 65536 in
set_option maxHeartbeats 40000000 in
theorem rm_se (l : Launch) (Z : State) (a0 : Array Value) (hw : ∀ d ∈ tables_1, d.before a0 Z = true) (ws : List Jvm.Cond) (vs : Addr) (vt : Addr) (vx : Addr) (vy : Addr) (kx : ClassId) (ky : ClassId) (nx : Int32) (cx : Int32) (dx : Int32) (ny : Int32) (cy : Int32) (dy : Int32) (vcs : Int32) (h0 : Heap) (n0 : Nat) (Z0 : n0 ≤ h0.size) (E_x : Exa Z h0 vs "java/lang/String") (Fv_x : Fld Z h0 vs "java/lang/String" "value" "[B" (.ref vx)) (Fc_x : Fld Z h0 vs "java/lang/String" "coder" "B" (.int (0 : Int32))) (V_x : Arv Z h0 vx kx .byte nx (own_bs nx cx dx) (.int (0 : Int32))) (E_y : Exa Z h0 vt "java/lang/String") (Fv_y : Fld Z h0 vt "java/lang/String" "value" "[B" (.ref vy)) (Fc_y : Fld Z h0 vt "java/lang/String" "coder" "B" (.int (0 : Int32))) (V_y : Arv Z h0 vy ky .byte ny (own_bs ny cy dy) (.int (0 : Int32))) (nst : vs ≠ vt) (l_x : nx = 0 ∨ nx = 1 ∨ nx = 2) (l_y : ny = 0 ∨ ny = 1 ∨ ny = 2) (r_cx : own_r cx) (r_dx : own_r dx) (r_cy : own_r cy) (r_dy : own_r dy) (S_cs : Sta Z h0 "java/lang/String" "COMPACT_STRINGS" "Z" (.int vcs)) (hcs : ¬ vcs = 0) :
    MetFree l (⟨"java/lang/String", "equals", "(Ljava/lang/Object;)Z"⟩ : MethodName) (head1 (Jvm.Cond.code (⟨"java/lang/String", "equals", "(Ljava/lang/Object;)Z"⟩ : MethodName) jdk_42_method_66_code 3 (some .boolean) :: ws) ({ frames := 1, cells := 0, slots := 0, locals := 14 } : Room)) (fun a U => a = #[(.ref vs), (.ref vt)] ∧ Z.Warmed39 U.vm ∧ U.heap = h0) (fun _ _ _ _ _ => True) (fun _ U o U' => ∃ v L, o = .returned v ∧ Q_se Z vs vt vx vy kx ky nx cx dx ny cy dy vcs h0 n0 v U'.heap L ∧ FrameEnd U o U' L ({ frames := 1, cells := 0, slots := 0, locals := 14 } : Room).cells ({ frames := 1, cells := 0, slots := 0, locals := 14 } : Room).slots) := by
  refine MetFree.of_bodySF (plainFor_of_name pn_rm_se) hisR ?_
  intro p e s m args below meth c s₁ Bd hml0 hP hK
  obtain ⟨rfl, hZ, hh⟩ := hP
  have hx := Bd.exec
  have hby := Bd.bytes
  have hml : c.maxLocals = 3 := hml0
  have hown : s.vm.findClass "java/lang/String" = some m.cls := findClass_of_methodNamed Bd.named
  have hnm := (name_of_methodNamed Bd.named Bd.method).1
  have X0 : Stand p l e ({ frames := 1, cells := 0, slots := 0, locals := 14 } : Room) s m #[(.ref vs), (.ref vt)] below meth c s₁ [] 0 0 := Stand.of_body Bd
  have e0 : s₁.heap = h0 := by rw [← hh, Bd.state]; rfl
  have N0 := Fr.nil n0
  have pre0 : ∀ t, Steps p.tables e below (s₁.setTop (mkF m 0 #[.val (.ref vs), .val (.ref vt), .unset] [])) t → Steps p.tables e below (s₁.setTop (entryFrame m #[(.ref vs), (.ref vt)] 3)) t := fun t k => castTop (ef_rm_se m vs vt) k
  obtain ⟨T1, X1, e1, st1⟩ := instY X0 hx hZ hown (hw _ (List.mem_of_getElem? (i := 82) rfl)) e0 (Ins.self E_y) (g := (mkF m 8 #[.val (.ref vs), .val (.ref vt), .unset] [(.ref vt)])) rfl rfl (hb hby d14_8)
  obtain ⟨T2, X2, e2, st2⟩ := castY X1 hx hZ hown (hw _ (List.mem_of_getElem? (i := 82) rfl)) e1 (Ins.self E_y) (g := (mkF m 15 #[.val (.ref vs), .val (.ref vt), .unset] [(.ref vt)])) rfl rfl (hb hby d14_15)
  obtain ⟨T3, X3, e3, st3⟩ := getS2 X2 hx hZ hown (host := "") (Or.inl (hw _ (List.mem_of_getElem? (i := 25) rfl))) Via.refl e2 S_cs (g := (mkF m 19 #[.val (.ref vs), .val (.ref vt), .val (.ref vt)] [])) rfl (hb hby d14_19)
  have pre4 : ∀ t, Steps p.tables e below (T3.setTop (mkF m 22 #[.val (.ref vs), .val (.ref vt), .val (.ref vt)] [(.int vcs)])) t → Steps p.tables e below (s₁.setTop (entryFrame m #[(.ref vs), (.ref vt)] 3)) t := by
    intro t k
    refine pre0 t ?_
    show Steps p.tables e below (s₁.setTop (mkF m 0 #[.val (.ref vs), .val (.ref vt), .unset] [])) _
    refine XS.aloadN X0.here hx rfl (hb hby d14_0) rfl rfl ?_
    show Steps p.tables e below (s₁.setTop (mkF m 1 #[.val (.ref vs), .val (.ref vt), .unset] [(.ref vs)])) _
    refine XS.aloadN X0.here hx rfl (hb hby d14_1) rfl rfl ?_
    show Steps p.tables e below (s₁.setTop (mkF m 2 #[.val (.ref vs), .val (.ref vt), .unset] [(.ref vt), (.ref vs)])) _
    refine Jvm.RoadKit.acmp (g := (mkF m 2 #[.val (.ref vs), .val (.ref vt), .unset] [(.ref vt), (.ref vs)])) X0 hx rfl rfl rfl (pc0 := 2) (pc' := 7) (same := false) rfl (hb hby d14_2) rfl (decide_eq_false fun q => nst (Value.ref.inj q)) (by decide) (by decide) ?_
    show Steps p.tables e below (s₁.setTop (mkF m 7 #[.val (.ref vs), .val (.ref vt), .unset] [])) _
    refine XS.aloadN X0.here hx rfl (hb hby d14_7) rfl rfl ?_
    show Steps p.tables e below (s₁.setTop (mkF m 8 #[.val (.ref vs), .val (.ref vt), .unset] [(.ref vt)])) _
    refine st1 _ ?_
    show Steps p.tables e below (T1.setTop (mkF m 11 #[.val (.ref vs), .val (.ref vt), .unset] [(.int (1 : Int32))])) _
    refine XS.ifNo X1.here hx rfl (hb hby d14_11) rfl (by decide) ?_
    show Steps p.tables e below (T1.setTop (mkF m 14 #[.val (.ref vs), .val (.ref vt), .unset] [])) _
    refine XS.aloadN X1.here hx rfl (hb hby d14_14) rfl rfl ?_
    show Steps p.tables e below (T1.setTop (mkF m 15 #[.val (.ref vs), .val (.ref vt), .unset] [(.ref vt)])) _
    refine st2 _ ?_
    show Steps p.tables e below (T2.setTop (mkF m 18 #[.val (.ref vs), .val (.ref vt), .unset] [(.ref vt)])) _
    refine XS.astoreN X2.here hx rfl (hb hby d14_18) rfl rfl (l' := #[.val (.ref vs), .val (.ref vt), .val (.ref vt)]) rfl ?_
    show Steps p.tables e below (T2.setTop (mkF m 19 #[.val (.ref vs), .val (.ref vt), .val (.ref vt)] [])) _
    refine st3 _ ?_
    show Steps p.tables e below (T3.setTop (mkF m 22 #[.val (.ref vs), .val (.ref vt), .val (.ref vt)] [(.int vcs)])) _
    exact k
  have hd5 : ¬ (vcs = (0 : Int32)) := hcs
  obtain ⟨T6, X6, e6, st6⟩ := getF X3 hx hZ hown (host := "") (Or.inl (hw _ (List.mem_of_getElem? (i := 37) rfl))) Via.refl e3 Fc_x (g := (mkF m 26 #[.val (.ref vs), .val (.ref vt), .val (.ref vt)] [(.ref vs)])) rfl rfl (hb hby d14_26)
  obtain ⟨T7, X7, e7, st7⟩ := getF X6 hx hZ hown (host := "") (Or.inl (hw _ (List.mem_of_getElem? (i := 37) rfl))) Via.refl e6 Fc_y (g := (mkF m 30 #[.val (.ref vs), .val (.ref vt), .val (.ref vt)] [(.ref vt), (.int (0 : Int32))])) rfl rfl (hb hby d14_30)
  obtain ⟨T8, X8, e8, st8⟩ := getF X7 hx hZ hown (host := "") (Or.inl (hw _ (List.mem_of_getElem? (i := 39) rfl))) Via.refl e7 Fv_x (g := (mkF m 37 #[.val (.ref vs), .val (.ref vt), .val (.ref vt)] [(.ref vs)])) rfl rfl (hb hby d14_37)
  obtain ⟨T9, X9, e9, st9⟩ := getF X8 hx hZ hown (host := "") (Or.inl (hw _ (List.mem_of_getElem? (i := 39) rfl))) Via.refl e8 Fv_y (g := (mkF m 41 #[.val (.ref vs), .val (.ref vt), .val (.ref vt)] [(.ref vt), (.ref vx)])) rfl rfl (hb hby d14_41)
  obtain ⟨_, _, ⟨T10, L10, k10, n10⟩, -, X10, ⟨Lc10, hQ10, l10, y10, z10⟩, st10⟩ := Jvm.LawKit.callS X9 hx (y := (⟨"java/lang/StringLatin1", "equals", "([B[B)Z"⟩ : MethodName)) hown (mvT hZ (hw _ (List.mem_of_getElem? (i := 83) rfl))) (mvT hZ (hw _ (List.mem_of_getElem? (i := 84) rfl))) (mvT hZ (hw _ (List.mem_of_getElem? (i := 85) rfl))) (mvT hZ (hw _ (List.mem_of_getElem? (i := 86) rfl))) (by decide) (backOf (W := 0) (rm_le l Z a0 hw [] vx vy kx ky nx cx dx ny cy dy h0 n0 Z0 V_x V_y l_x l_y r_cx r_dx r_cy r_dy) hZ (hw _ (List.mem_of_getElem? (i := 86) rfl)) (hw _ (List.mem_of_getElem? (i := 85) rfl)) (by decide) (by decide)) (g := (mkF m 44 #[.val (.ref vs), .val (.ref vt), .val (.ref vt)] [(.ref vy), (.ref vx)])) rfl (by rw [hml]; rfl) (argsL := [(.ref vx), (.ref vy)]) (rest := []) (lenOf own_pd5 rfl) rfl (by show 2 * 0 + _ ≤ _; exact Nat.le_of_eq rfl) (hb hby d14_44) (fun _ _ => ⟨rfl, e9, (by decide : 0 + 0 ≤ _), (by decide : 0 + 0 ≤ _)⟩)
  dsimp only [Pt.U, Pt.locs, Pt.cells, Pt.slots] at X10 l10 y10 z10 st10 hQ10
  subst l10 y10 z10
  obtain ⟨rfl, Nq10, hh10⟩ := hQ10
  have Nf10 := Fr.app N0 Nq10
  have pre11 : ∀ t, Steps p.tables e below (T10.setTop (mkF m 47 #[.val (.ref vs), .val (.ref vt), .val (.ref vt)] [(.int (own_same nx cx dx ny cy dy))])) t → Steps p.tables e below (s₁.setTop (entryFrame m #[(.ref vs), (.ref vt)] 3)) t := by
    intro t k
    refine pre4 t ?_
    show Steps p.tables e below (T3.setTop (mkF m 22 #[.val (.ref vs), .val (.ref vt), .val (.ref vt)] [(.int vcs)])) _
    refine XS.ifNo X3.here hx rfl (hb hby d14_22) rfl ((if0 _ _).trans (feq hd5).1) ?_
    show Steps p.tables e below (T3.setTop (mkF m 25 #[.val (.ref vs), .val (.ref vt), .val (.ref vt)] [])) _
    refine XS.aloadN X3.here hx rfl (hb hby d14_25) rfl rfl ?_
    show Steps p.tables e below (T3.setTop (mkF m 26 #[.val (.ref vs), .val (.ref vt), .val (.ref vt)] [(.ref vs)])) _
    refine st6 _ ?_
    show Steps p.tables e below (T6.setTop (mkF m 29 #[.val (.ref vs), .val (.ref vt), .val (.ref vt)] [(.int (0 : Int32))])) _
    refine XS.aloadN X6.here hx rfl (hb hby d14_29) rfl rfl ?_
    show Steps p.tables e below (T6.setTop (mkF m 30 #[.val (.ref vs), .val (.ref vt), .val (.ref vt)] [(.ref vt), (.int (0 : Int32))])) _
    refine st7 _ ?_
    show Steps p.tables e below (T7.setTop (mkF m 33 #[.val (.ref vs), .val (.ref vt), .val (.ref vt)] [(.int (0 : Int32)), (.int (0 : Int32))])) _
    refine XS.icmpNo X7.here hx rfl (hb hby d14_33) rfl (by decide) ?_
    show Steps p.tables e below (T7.setTop (mkF m 36 #[.val (.ref vs), .val (.ref vt), .val (.ref vt)] [])) _
    refine XS.aloadN X7.here hx rfl (hb hby d14_36) rfl rfl ?_
    show Steps p.tables e below (T7.setTop (mkF m 37 #[.val (.ref vs), .val (.ref vt), .val (.ref vt)] [(.ref vs)])) _
    refine st8 _ ?_
    show Steps p.tables e below (T8.setTop (mkF m 40 #[.val (.ref vs), .val (.ref vt), .val (.ref vt)] [(.ref vx)])) _
    refine XS.aloadN X8.here hx rfl (hb hby d14_40) rfl rfl ?_
    show Steps p.tables e below (T8.setTop (mkF m 41 #[.val (.ref vs), .val (.ref vt), .val (.ref vt)] [(.ref vt), (.ref vx)])) _
    refine st9 _ ?_
    show Steps p.tables e below (T9.setTop (mkF m 44 #[.val (.ref vs), .val (.ref vt), .val (.ref vt)] [(.ref vy), (.ref vx)])) _
    refine st10 _ ?_
    show Steps p.tables e below (T10.setTop (mkF m 47 #[.val (.ref vs), .val (.ref vt), .val (.ref vt)] [(.int (own_same nx cx dx ny cy dy))])) _
    exact k
  by_cases hc12 : (own_same nx cx dx ny cy dy) = (0 : Int32)
  · obtain ⟨fs, hr, hrun, hended, hW, hsame⟩ := X10.leave (v := some (.int (0 : Int32))) (fun h => by rw [Bd.returns] at h; cases h)
    refine ⟨_, _, pre11 _ ?_, hrun, hended, _, _, rfl, ?_, ⟨_, rfl⟩, hW, hsame.mono (by decide) (by decide)⟩
    · show Steps p.tables e below (T10.setTop (mkF m 47 #[.val (.ref vs), .val (.ref vt), .val (.ref vt)] [(.int (own_same nx cx dx ny cy dy))])) _
      refine XS.ifYes X10.here hx rfl (pc0 := 47) (pc' := 54) rfl (hb hby d14_47) rfl ((if0 _ _).trans (teq hc12).1) (by decide) (by decide) ?_
      show Steps p.tables e below (T10.setTop (mkF m 54 #[.val (.ref vs), .val (.ref vt), .val (.ref vt)] [])) _
      refine XS.iconst X10.here hx rfl (hb hby d14_54) ?_
      show Steps p.tables e below (T10.setTop (mkF m 55 #[.val (.ref vs), .val (.ref vt), .val (.ref vt)] [(.int (0 : Int32))])) _
      exact retN X10 hx (t := .boolean) Bd.returns (by simp) (hb hby d14_55) hr
    · show Q_se Z vs vt vx vy kx ky nx cx dx ny cy dy vcs h0 n0 _ T10.heap _
      rw [hh10]
      exact ⟨by rw [hc12], Nf10, rfl⟩
  · obtain ⟨fs, hr, hrun, hended, hW, hsame⟩ := X10.leave (v := some (.int (1 : Int32))) (fun h => by rw [Bd.returns] at h; cases h)
    refine ⟨_, _, pre11 _ ?_, hrun, hended, _, _, rfl, ?_, ⟨_, rfl⟩, hW, hsame.mono (by decide) (by decide)⟩
    · show Steps p.tables e below (T10.setTop (mkF m 47 #[.val (.ref vs), .val (.ref vt), .val (.ref vt)] [(.int (own_same nx cx dx ny cy dy))])) _
      refine XS.ifNo X10.here hx rfl (hb hby d14_47) rfl ((if0 _ _).trans (feq hc12).1) ?_
      show Steps p.tables e below (T10.setTop (mkF m 50 #[.val (.ref vs), .val (.ref vt), .val (.ref vt)] [])) _
      refine XS.iconst X10.here hx rfl (hb hby d14_50) ?_
      show Steps p.tables e below (T10.setTop (mkF m 51 #[.val (.ref vs), .val (.ref vt), .val (.ref vt)] [(.int (1 : Int32))])) _
      refine XS.goto X10.here hx rfl (pc0 := 51) (pc' := 55) rfl (hb hby d14_51) (by decide) (by decide) ?_
      show Steps p.tables e below (T10.setTop (mkF m 55 #[.val (.ref vs), .val (.ref vt), .val (.ref vt)] [(.int (1 : Int32))])) _
      exact retN X10 hx (t := .boolean) Bd.returns (by simp) (hb hby d14_55) hr
    · show Q_se Z vs vt vx vy kx ky nx cx dx ny cy dy vcs h0 n0 _ T10.heap _
      rw [hh10]
      exact ⟨by rw [own_same1 hc12], Nf10, rfl⟩
theorem d10_0 : decode jdk_31_method_11_code 0 = .ok (.aload_n 0, 1) := by decide +kernel
theorem d10_1 : decode jdk_31_method_11_code 1 = .ok (.ifnonnull 12, 3) := by decide +kernel
theorem d10_4 : decode jdk_31_method_11_code 4 = .ok (.new 84, 3) := by decide +kernel
theorem d10_7 : decode jdk_31_method_11_code 7 = .ok (.dup, 1) := by decide +kernel
theorem d10_8 : decode jdk_31_method_11_code 8 = .ok (.aload_n 1, 1) := by decide +kernel
theorem d10_9 : decode jdk_31_method_11_code 9 = .ok (.invokespecial 87, 3) := by decide +kernel
theorem d10_12 : decode jdk_31_method_11_code 12 = .ok (.athrow, 1) := by decide +kernel
theorem d10_13 : decode jdk_31_method_11_code 13 = .ok (.aload_n 0, 1) := by decide +kernel
theorem d10_14 : decode jdk_31_method_11_code 14 = .ok (.areturn, 1) := by decide +kernel
theorem pn_rm_nn : plainName "java/util/Objects" = true := by first | (simp [plainName, overriddenIn]; done) | decide +kernel
theorem ef_rm_nn (m : MethodId) (vo : Addr) (vm : Addr) : entryFrame m #[(.ref vo), (.ref vm)] 2 = mkF m 0 #[.val (.ref vo), .val (.ref vm)] [] := by first | (simp [entryFrame, mkF, argsToLocals, Value.category]; done) | rfl
def Q_nn (Z : State) (vo : Addr) (vm : Addr) (h0 : Heap) (n0 : Nat) (v : Option Value) (h : Heap) (L : List Loc) : Prop := v = some (.ref vo) ∧ Fr n0 L ∧ h = h0
set_option maxRecDepth 65536 in
set_option maxHeartbeats 40000000 in
theorem rm_nn (l : Launch) (Z : State) (a0 : Array Value) (hw : ∀ d ∈ tables_1, d.before a0 Z = true) (ws : List Jvm.Cond) (vo : Addr) (vm : Addr) (h0 : Heap) (n0 : Nat) (Z0 : n0 ≤ h0.size) :
    MetFree l (⟨"java/util/Objects", "requireNonNull", "(Ljava/lang/Object;Ljava/lang/String;)Ljava/lang/Object;"⟩ : MethodName) (head1 (Jvm.Cond.code (⟨"java/util/Objects", "requireNonNull", "(Ljava/lang/Object;Ljava/lang/String;)Ljava/lang/Object;"⟩ : MethodName) jdk_31_method_11_code 2 (some (.object "java/lang/Object")) :: ws) ({ frames := 0, cells := 0, slots := 0, locals := 0 } : Room)) (fun a U => a = #[(.ref vo), (.ref vm)] ∧ Z.Warmed39 U.vm ∧ U.heap = h0) (fun _ _ _ _ _ => True) (fun _ U o U' => ∃ v L, o = .returned v ∧ Q_nn Z vo vm h0 n0 v U'.heap L ∧ FrameEnd U o U' L ({ frames := 0, cells := 0, slots := 0, locals := 0 } : Room).cells ({ frames := 0, cells := 0, slots := 0, locals := 0 } : Room).slots) := by
  refine MetFree.of_bodySF (plainFor_of_name pn_rm_nn) hisR ?_
  intro p e s m args below meth c s₁ Bd hml0 hP hK
  obtain ⟨rfl, hZ, hh⟩ := hP
  have hx := Bd.exec
  have hby := Bd.bytes
  have hml : c.maxLocals = 2 := hml0
  have hown : s.vm.findClass "java/util/Objects" = some m.cls := findClass_of_methodNamed Bd.named
  have hnm := (name_of_methodNamed Bd.named Bd.method).1
  have X0 : Stand p l e ({ frames := 0, cells := 0, slots := 0, locals := 0 } : Room) s m #[(.ref vo), (.ref vm)] below meth c s₁ [] 0 0 := Stand.of_body Bd
  have e0 : s₁.heap = h0 := by rw [← hh, Bd.state]; rfl
  have N0 := Fr.nil n0
  have pre0 : ∀ t, Steps p.tables e below (s₁.setTop (mkF m 0 #[.val (.ref vo), .val (.ref vm)] [])) t → Steps p.tables e below (s₁.setTop (entryFrame m #[(.ref vo), (.ref vm)] 2)) t := fun t k => castTop (ef_rm_nn m vo vm) k
  obtain ⟨fs, hr, hrun, hended, hW, hsame⟩ := X0.leave (v := some (.ref vo)) (fun h => by rw [Bd.returns] at h; cases h)
  refine ⟨_, _, pre0 _ ?_, hrun, hended, _, _, rfl, ?_, ⟨_, rfl⟩, hW, hsame.mono (by decide) (by decide)⟩
  · show Steps p.tables e below (s₁.setTop (mkF m 0 #[.val (.ref vo), .val (.ref vm)] [])) _
    refine XS.aloadN X0.here hx rfl (hb hby d10_0) rfl rfl ?_
    show Steps p.tables e below (s₁.setTop (mkF m 1 #[.val (.ref vo), .val (.ref vm)] [(.ref vo)])) _
    refine XS.ifnonnullYes X0.here hx rfl (pc0 := 1) (pc' := 13) rfl (hb hby d10_1) rfl (by decide) (by decide) ?_
    show Steps p.tables e below (s₁.setTop (mkF m 13 #[.val (.ref vo), .val (.ref vm)] [])) _
    refine XS.aloadN X0.here hx rfl (hb hby d10_13) rfl rfl ?_
    show Steps p.tables e below (s₁.setTop (mkF m 14 #[.val (.ref vo), .val (.ref vm)] [(.ref vo)])) _
    jvm_step X0.here [X0.here.top, hx, (hb hby d10_14), X0.method', Bd.returns, Value.isRef, FieldType.isReference]
    first | (intro acts; rw [hr _ acts rfl rfl rfl]) | rw [hr _ _ rfl rfl rfl]
    exact Steps.refl _
  · show Q_nn Z vo vm h0 n0 _ s₁.heap _
    rw [e0]
    exact ⟨rfl, N0, rfl⟩
theorem d11_0 : decode jdk_42_method_55_code 0 = .ok (.aload_n 0, 1) := by decide +kernel
theorem d11_1 : decode jdk_42_method_55_code 1 = .ok (.getfield 9, 3) := by decide +kernel
theorem d11_4 : decode jdk_42_method_55_code 4 = .ok (.arraylength, 1) := by decide +kernel
theorem d11_5 : decode jdk_42_method_55_code 5 = .ok (.ifCond .ne 7, 3) := by decide +kernel
theorem d11_8 : decode jdk_42_method_55_code 8 = .ok (.iconst 1, 1) := by decide +kernel
theorem d11_9 : decode jdk_42_method_55_code 9 = .ok (.goto 4, 3) := by decide +kernel
theorem d11_12 : decode jdk_42_method_55_code 12 = .ok (.iconst 0, 1) := by decide +kernel
theorem d11_13 : decode jdk_42_method_55_code 13 = .ok (.ireturn, 1) := by decide +kernel
theorem pn_rm_ie : plainName "java/lang/String" = true := by first | (simp [plainName, overriddenIn]; done) | decide +kernel
theorem ef_rm_ie (m : MethodId) (va : Addr) : entryFrame m #[(.ref va)] 1 = mkF m 0 #[.val (.ref va)] [] := by first | (simp [entryFrame, mkF, argsToLocals, Value.category]; done) | rfl
def Q_ie (Z : State) (va : Addr) (vb : Addr) (kc : ClassId) (vn : Int32) (vl : List Value) (h0 : Heap) (n0 : Nat) (v : Option Value) (h : Heap) (L : List Loc) : Prop := v = some (.int 0) ∧ Fr n0 L ∧ h = h0
set_option maxRecDepth 65536 in
set_option maxHeartbeats 40000000 in
theorem rm_ie (l : Launch) (Z : State) (a0 : Array Value) (hw : ∀ d ∈ tables_1, d.before a0 Z = true) (ws : List Jvm.Cond) (va : Addr) (vb : Addr) (kc : ClassId) (vn : Int32) (vl : List Value) (h0 : Heap) (n0 : Nat) (Z0 : n0 ≤ h0.size) (F_v : Fld Z h0 va "java/lang/String" "value" "[B" (.ref vb)) (V_b : Arv Z h0 vb kc .byte vn vl (.int (0 : Int32))) (hn0 : ¬ vn = (0 : Int32)) :
    MetFree l (⟨"java/lang/String", "isEmpty", "()Z"⟩ : MethodName) (head1 (Jvm.Cond.code (⟨"java/lang/String", "isEmpty", "()Z"⟩ : MethodName) jdk_42_method_55_code 1 (some .boolean) :: ws) ({ frames := 0, cells := 0, slots := 0, locals := 0 } : Room)) (fun a U => a = #[(.ref va)] ∧ Z.Warmed39 U.vm ∧ U.heap = h0) (fun _ _ _ _ _ => True) (fun _ U o U' => ∃ v L, o = .returned v ∧ Q_ie Z va vb kc vn vl h0 n0 v U'.heap L ∧ FrameEnd U o U' L ({ frames := 0, cells := 0, slots := 0, locals := 0 } : Room).cells ({ frames := 0, cells := 0, slots := 0, locals := 0 } : Room).slots) := by
  refine MetFree.of_bodySF (plainFor_of_name pn_rm_ie) hisR ?_
  intro p e s m args below meth c s₁ Bd hml0 hP hK
  obtain ⟨rfl, hZ, hh⟩ := hP
  have hx := Bd.exec
  have hby := Bd.bytes
  have hml : c.maxLocals = 1 := hml0
  have hown : s.vm.findClass "java/lang/String" = some m.cls := findClass_of_methodNamed Bd.named
  have hnm := (name_of_methodNamed Bd.named Bd.method).1
  have X0 : Stand p l e ({ frames := 0, cells := 0, slots := 0, locals := 0 } : Room) s m #[(.ref va)] below meth c s₁ [] 0 0 := Stand.of_body Bd
  have e0 : s₁.heap = h0 := by rw [← hh, Bd.state]; rfl
  have N0 := Fr.nil n0
  have pre0 : ∀ t, Steps p.tables e below (s₁.setTop (mkF m 0 #[.val (.ref va)] [])) t → Steps p.tables e below (s₁.setTop (entryFrame m #[(.ref va)] 1)) t := fun t k => castTop (ef_rm_ie m va) k
  obtain ⟨T1, X1, e1, st1⟩ := getF X0 hx hZ hown (host := "") (Or.inl (hw _ (List.mem_of_getElem? (i := 39) rfl))) Via.refl e0 F_v (g := (mkF m 1 #[.val (.ref va)] [(.ref va)])) rfl rfl (hb hby d11_1)
  obtain ⟨cl2, Ar2, -, S2, M2, -, -⟩ := id V_b
  have pre3 : ∀ t, Steps p.tables e below (T1.setTop (mkF m 5 #[.val (.ref va)] [(.int vn)])) t → Steps p.tables e below (s₁.setTop (entryFrame m #[(.ref va)] 1)) t := by
    intro t k
    refine pre0 t ?_
    show Steps p.tables e below (s₁.setTop (mkF m 0 #[.val (.ref va)] [])) _
    refine XS.aloadN X0.here hx rfl (hb hby d11_0) rfl rfl ?_
    show Steps p.tables e below (s₁.setTop (mkF m 1 #[.val (.ref va)] [(.ref va)])) _
    refine st1 _ ?_
    show Steps p.tables e below (T1.setTop (mkF m 4 #[.val (.ref va)] [(.ref vb)])) _
    refine X1.arraylength hx (by rw [e1]; exact Ar2.1) (State.isArrayOf_alike hZ.alike Ar2.2.1) (g := (mkF m 4 #[.val (.ref va)] [(.ref vb)])) rfl rfl (hb hby d11_4) _ ?_
    rw [len_of S2 M2]
    show Steps p.tables e below (T1.setTop (mkF m 5 #[.val (.ref va)] [(.int vn)])) _
    exact k
  have hd4 : ¬ (vn = (0 : Int32)) := hn0
  obtain ⟨fs, hr, hrun, hended, hW, hsame⟩ := X1.leave (v := some (.int (0 : Int32))) (fun h => by rw [Bd.returns] at h; cases h)
  refine ⟨_, _, pre3 _ ?_, hrun, hended, _, _, rfl, ?_, ⟨_, rfl⟩, hW, hsame.mono (by decide) (by decide)⟩
  · show Steps p.tables e below (T1.setTop (mkF m 5 #[.val (.ref va)] [(.int vn)])) _
    refine XS.ifYes X1.here hx rfl (pc0 := 5) (pc' := 12) rfl (hb hby d11_5) rfl ((if0 _ _).trans (feq hd4).2) (by decide) (by decide) ?_
    show Steps p.tables e below (T1.setTop (mkF m 12 #[.val (.ref va)] [])) _
    refine XS.iconst X1.here hx rfl (hb hby d11_12) ?_
    show Steps p.tables e below (T1.setTop (mkF m 13 #[.val (.ref va)] [(.int (0 : Int32))])) _
    exact retN X1 hx (t := .boolean) Bd.returns (by simp) (hb hby d11_13) hr
  · show Q_ie Z va vb kc vn vl h0 n0 _ T1.heap _
    rw [e1]
    exact ⟨rfl, N0, rfl⟩
theorem d9_0 : decode prog_36_method_1_code 0 = .ok (.aload_n 0, 1) := by decide +kernel
theorem d9_1 : decode prog_36_method_1_code 1 = .ok (.invokespecial 1, 3) := by decide +kernel
theorem d9_4 : decode prog_36_method_1_code 4 = .ok (.aload_n 1, 1) := by decide +kernel
theorem d9_5 : decode prog_36_method_1_code 5 = .ok (.ldc 7, 2) := by decide +kernel
theorem d9_7 : decode prog_36_method_1_code 7 = .ok (.invokestatic 9, 3) := by decide +kernel
theorem d9_10 : decode prog_36_method_1_code 10 = .ok (.pop, 1) := by decide +kernel
theorem d9_11 : decode prog_36_method_1_code 11 = .ok (.aload_n 2, 1) := by decide +kernel
theorem d9_12 : decode prog_36_method_1_code 12 = .ok (.ldc 15, 2) := by decide +kernel
theorem d9_14 : decode prog_36_method_1_code 14 = .ok (.invokestatic 9, 3) := by decide +kernel
theorem d9_17 : decode prog_36_method_1_code 17 = .ok (.pop, 1) := by decide +kernel
theorem d9_18 : decode prog_36_method_1_code 18 = .ok (.aload_n 1, 1) := by decide +kernel
theorem d9_19 : decode prog_36_method_1_code 19 = .ok (.invokevirtual 17, 3) := by decide +kernel
theorem d9_22 : decode prog_36_method_1_code 22 = .ok (.ifCond .eq 13, 3) := by decide +kernel
theorem d9_25 : decode prog_36_method_1_code 25 = .ok (.new 23, 3) := by decide +kernel
theorem d9_28 : decode prog_36_method_1_code 28 = .ok (.dup, 1) := by decide +kernel
theorem d9_29 : decode prog_36_method_1_code 29 = .ok (.ldc 25, 2) := by decide +kernel
theorem d9_31 : decode prog_36_method_1_code 31 = .ok (.invokespecial 27, 3) := by decide +kernel
theorem d9_34 : decode prog_36_method_1_code 34 = .ok (.athrow, 1) := by decide +kernel
theorem d9_35 : decode prog_36_method_1_code 35 = .ok (.aload_n 0, 1) := by decide +kernel
theorem d9_36 : decode prog_36_method_1_code 36 = .ok (.aload_n 1, 1) := by decide +kernel
theorem d9_37 : decode prog_36_method_1_code 37 = .ok (.putfield 30, 3) := by decide +kernel
theorem d9_40 : decode prog_36_method_1_code 40 = .ok (.aload_n 0, 1) := by decide +kernel
theorem d9_41 : decode prog_36_method_1_code 41 = .ok (.aload_n 2, 1) := by decide +kernel
theorem d9_42 : decode prog_36_method_1_code 42 = .ok (.putfield 35, 3) := by decide +kernel
theorem d9_45 : decode prog_36_method_1_code 45 = .ok (.aload_n 0, 1) := by decide +kernel
theorem d9_46 : decode prog_36_method_1_code 46 = .ok (.iload_n 3, 1) := by decide +kernel
theorem d9_47 : decode prog_36_method_1_code 47 = .ok (.putfield 37, 3) := by decide +kernel
theorem d9_50 : decode prog_36_method_1_code 50 = .ok (.aload_n 0, 1) := by decide +kernel
theorem d9_51 : decode prog_36_method_1_code 51 = .ok (.iload 4, 2) := by decide +kernel
theorem d9_53 : decode prog_36_method_1_code 53 = .ok (.putfield 41, 3) := by decide +kernel
theorem d9_56 : decode prog_36_method_1_code 56 = .ok (.return_, 1) := by decide +kernel
theorem pn_rm_na : plainName "com/example/netmark/netmark/rules/NettingAgreement" = true := by first | (simp [plainName, overriddenIn]; done) | decide +kernel
theorem ef_rm_na (m : MethodId) (va : Addr) (vi : Addr) (vj : Addr) (vw : Int32) (ve : Int32) : entryFrame m #[(.ref va), (.ref vi), (.ref vj), (.int vw), (.int ve)] 5 = mkF m 0 #[.val (.ref va), .val (.ref vi), .val (.ref vj), .val (.int vw), .val (.int ve)] [] := by first | (simp [entryFrame, mkF, argsToLocals, Value.category]; done) | rfl
def Q_na (Z : State) (va : Addr) (vi : Addr) (vj : Addr) (vw : Int32) (ve : Int32) (vx : Addr) (kx : ClassId) (nx : Int32) (cx : Int32) (dx : Int32) (h0 : Heap) (n0 : Nat) (v : Option Value) (h : Heap) (L : List Loc) : Prop := v = none ∧ Fr n0 L ∧ Keep h0 h [va] ∧ Exa Z h va "com/example/netmark/netmark/rules/NettingAgreement" ∧ Fld Z h va "com/example/netmark/netmark/rules/NettingAgreement" "id" "Ljava/lang/String;" (.ref vi) ∧ Fld Z h va "com/example/netmark/netmark/rules/NettingAgreement" "counterpartyId" "Ljava/lang/String;" (.ref vj) ∧ Fld Z h va "com/example/netmark/netmark/rules/NettingAgreement" "walkawayClause" "Z" (.int vw) ∧ Fld Z h va "com/example/netmark/netmark/rules/NettingAgreement" "legallyEnforceable" "Z" (.int ve)
set_option maxRecDepth 65536 in
set_option maxHeartbeats 40000000 in
theorem rm_na (l : Launch) (Z : State) (a0 : Array Value) (hw : ∀ d ∈ tables_1, d.before a0 Z = true) (ws : List Jvm.Cond) (va : Addr) (vi : Addr) (vj : Addr) (vw : Int32) (ve : Int32) (vx : Addr) (kx : ClassId) (nx : Int32) (cx : Int32) (dx : Int32) (h0 : Heap) (n0 : Nat) (Z0 : n0 ≤ h0.size) (E_va : Exa Z h0 va "com/example/netmark/netmark/rules/NettingAgreement") (g_va : n0 ≤ va) (F_id : Fld Z h0 va "com/example/netmark/netmark/rules/NettingAgreement" "id" "Ljava/lang/String;" .null) (F_counterpartyId : Fld Z h0 va "com/example/netmark/netmark/rules/NettingAgreement" "counterpartyId" "Ljava/lang/String;" .null) (F_walkawayClause : Fld Z h0 va "com/example/netmark/netmark/rules/NettingAgreement" "walkawayClause" "Z" (.int (0 : Int32))) (F_legallyEnforceable : Fld Z h0 va "com/example/netmark/netmark/rules/NettingAgreement" "legallyEnforceable" "Z" (.int (0 : Int32))) (hw01 : vw = 0 ∨ vw = 1) (he01 : ve = 0 ∨ ve = 1) (hn0 : ¬ nx = (0 : Int32)) (E_x : Exa Z h0 vi "java/lang/String") (Fv_x : Fld Z h0 vi "java/lang/String" "value" "[B" (.ref vx)) (Fc_x : Fld Z h0 vi "java/lang/String" "coder" "B" (.int (0 : Int32))) (V_x : Arv Z h0 vx kx .byte nx (own_bs nx cx dx) (.int (0 : Int32))) :
    MetFree l (⟨"com/example/netmark/netmark/rules/NettingAgreement", "<init>", "(Ljava/lang/String;Ljava/lang/String;ZZ)V"⟩ : MethodName) (head1 (Jvm.Cond.code (⟨"com/example/netmark/netmark/rules/NettingAgreement", "<init>", "(Ljava/lang/String;Ljava/lang/String;ZZ)V"⟩ : MethodName) prog_36_method_1_code 5 none :: ws) ({ frames := 1, cells := 4, slots := 72, locals := 13 } : Room)) (fun a U => a = #[(.ref va), (.ref vi), (.ref vj), (.int vw), (.int ve)] ∧ Z.Warmed39 U.vm ∧ U.heap = h0 ∧ CHv Z own_EL U.vm h0) (fun _ _ _ _ _ => True) (fun _ U o U' => ∃ v L, o = .returned v ∧ Q_na Z va vi vj vw ve vx kx nx cx dx h0 n0 v U'.heap L ∧ CHr Z own_EL U.vm U.heap U'.vm U'.heap ∧ ReturnedEndW U o U' L ({ frames := 1, cells := 4, slots := 72, locals := 13 } : Room).cells ({ frames := 1, cells := 4, slots := 72, locals := 13 } : Room).slots) := by
  refine MetFree.of_bodySF (plainFor_of_name pn_rm_na) hisR ?_
  intro p e s m args below meth c s₁ Bd hml0 hP hK
  obtain ⟨rfl, hZ, hh, CH0⟩ := hP
  have CC0 := CHr.refl CH0
  have hx := Bd.exec
  have hby := Bd.bytes
  have hml : c.maxLocals = 5 := hml0
  have hown : s.vm.findClass "com/example/netmark/netmark/rules/NettingAgreement" = some m.cls := findClass_of_methodNamed Bd.named
  have hZo := hZ
  have howno := hown
  have hnm := (name_of_methodNamed Bd.named Bd.method).1
  have X0 : Stand p l e ({ frames := 1, cells := 4, slots := 72, locals := 13 } : Room) s m #[(.ref va), (.ref vi), (.ref vj), (.int vw), (.int ve)] below meth c s₁ [] 0 0 := Stand.of_body Bd
  have e0 : s₁.heap = h0 := by rw [← hh, Bd.state]; rfl
  have N0 := Fr.nil n0
  have pre0 : ∀ t, Steps p.tables e below (s₁.setTop (mkF m 0 #[.val (.ref va), .val (.ref vi), .val (.ref vj), .val (.int vw), .val (.int ve)] [])) t → Steps p.tables e below (s₁.setTop (entryFrame m #[(.ref va), (.ref vi), (.ref vj), (.int vw), (.int ve)] 5)) t := fun t k => castTop (ef_rm_na m va vi vj vw ve) k
  obtain ⟨T1, X1, e1, st1⟩ := initO X0 hx hZ hown (hw _ (List.mem_of_getElem? (i := 47) rfl)) (hw _ (List.mem_of_getElem? (i := 23) rfl)) (hw _ (List.mem_of_getElem? (i := 24) rfl)) e0 (g := (mkF m 1 #[.val (.ref va), .val (.ref vi), .val (.ref vj), .val (.int vw), .val (.int ve)] [(.ref va)])) rfl (by rw [hml]; rfl) rfl (hb hby d9_1) (by decide) (W := 0) (by show 2 * 0 + _ ≤ _; exact Nat.le_of_eq rfl) (by decide)
  obtain ⟨a2, T2, h2, k2, X2, e2, E2, hS2, hk2, hZ2, hown2, hC2, -, st2⟩ := ldcOH (s := s) (vm0 := s.vm) X1 hx hZ hown (hw _ (List.mem_of_getElem? (i := 48) rfl)) (own_atoms hw) e1 ((State.WarmedH.refl s).since 0) (Nat.zero_le _) (own_ew hw) CC0.1 (g := (mkF m 5 #[.val (.ref va), .val (.ref vi), .val (.ref vj), .val (.int vw), .val (.int ve)] [(.ref vi)])) rfl (hb hby d9_5) (n := 8) (by decide) (by decide) (by decide) (by decide)
  have CC3 := CC0.trans hC2
  have Zp4 : n0 ≤ h2.size := Nat.le_trans Z0 E2.1
  obtain ⟨_, _, ⟨T5, L5, k5, n5⟩, -, X5, ⟨Lc5, hQ5, l5, y5, z5⟩, st5⟩ := Jvm.LawKit.callS X2 hx (y := (⟨"java/util/Objects", "requireNonNull", "(Ljava/lang/Object;Ljava/lang/String;)Ljava/lang/Object;"⟩ : MethodName)) hown2 (mvT hZ2 (hw _ (List.mem_of_getElem? (i := 49) rfl))) (mvT hZ2 (hw _ (List.mem_of_getElem? (i := 50) rfl))) (mvT hZ2 (hw _ (List.mem_of_getElem? (i := 51) rfl))) (mvT hZ2 (hw _ (List.mem_of_getElem? (i := 52) rfl))) (by decide) (backOf (W := 0) (rm_nn l Z a0 hw [] vi a2 h2 n0 Zp4 ) hZ2 (hw _ (List.mem_of_getElem? (i := 52) rfl)) (hw _ (List.mem_of_getElem? (i := 51) rfl)) (by decide) (by decide)) (g := (mkF m 7 #[.val (.ref va), .val (.ref vi), .val (.ref vj), .val (.int vw), .val (.int ve)] [(.ref a2), (.ref vi)])) rfl (by rw [hml]; rfl) (argsL := [(.ref vi), (.ref a2)]) (rest := []) (lenOf own_pd6 rfl) rfl (by show 2 * 0 + _ ≤ _; exact Nat.le_of_eq rfl) (hb hby d9_7) (fun _ _ => ⟨rfl, e2, (by decide : 2 + 0 ≤ _), (by decide : 12 + 0 ≤ _)⟩)
  dsimp only [Pt.U, Pt.locs, Pt.cells, Pt.slots] at X5 l5 y5 z5 st5 hQ5
  subst l5 y5 z5
  obtain ⟨rfl, Nq5, hh5⟩ := hQ5
  have Nf5 := Fr.app N0 Nq5
  obtain ⟨a6, T6, h6, k6, X6, e6, E6, hS6, hk6, hZ6, hown6, hC6, -, st6⟩ := ldcOH (s := s) (vm0 := T2.vm) X5 hx hZ2 hown2 (hw _ (List.mem_of_getElem? (i := 53) rfl)) (own_atoms hw) hh5 hS2 hk2 (own_ew hw) CC3.1 (g := (mkF m 12 #[.val (.ref va), .val (.ref vi), .val (.ref vj), .val (.int vw), .val (.int ve)] [(.ref vj)])) rfl (hb hby d9_12) (n := 56) (by decide) (by decide) (by decide) (by decide)
  have CC7 := CC3.trans hC6
  have Zp8 : n0 ≤ h6.size := Nat.le_trans Zp4 E6.1
  obtain ⟨_, _, ⟨T9, L9, k9, n9⟩, -, X9, ⟨Lc9, hQ9, l9, y9, z9⟩, st9⟩ := Jvm.LawKit.callS X6 hx (y := (⟨"java/util/Objects", "requireNonNull", "(Ljava/lang/Object;Ljava/lang/String;)Ljava/lang/Object;"⟩ : MethodName)) hown6 (mvT hZ6 (hw _ (List.mem_of_getElem? (i := 49) rfl))) (mvT hZ6 (hw _ (List.mem_of_getElem? (i := 50) rfl))) (mvT hZ6 (hw _ (List.mem_of_getElem? (i := 51) rfl))) (mvT hZ6 (hw _ (List.mem_of_getElem? (i := 52) rfl))) (by decide) (backOf (W := 0) (rm_nn l Z a0 hw [] vj a6 h6 n0 Zp8 ) hZ6 (hw _ (List.mem_of_getElem? (i := 52) rfl)) (hw _ (List.mem_of_getElem? (i := 51) rfl)) (by decide) (by decide)) (g := (mkF m 14 #[.val (.ref va), .val (.ref vi), .val (.ref vj), .val (.int vw), .val (.int ve)] [(.ref a6), (.ref vj)])) rfl (by rw [hml]; rfl) (argsL := [(.ref vj), (.ref a6)]) (rest := []) (lenOf own_pd6 rfl) rfl (by show 2 * 0 + _ ≤ _; exact Nat.le_of_eq rfl) (hb hby d9_14) (fun _ _ => ⟨rfl, e6, (by decide : 4 + 0 ≤ _), (by decide : 72 + 0 ≤ _)⟩)
  dsimp only [Pt.U, Pt.locs, Pt.cells, Pt.slots] at X9 l9 y9 z9 st9 hQ9
  subst l9 y9 z9
  obtain ⟨rfl, Nq9, hh9⟩ := hQ9
  have Nf9 := Fr.app Nf5 Nq9
  have Fc10 := (Fld.ext E6 (Fld.ext E2 Fv_x))
  have Fc11 := ((V_x.ext E2).ext E6)
  have Fc14 := (Exa.ext E6 (Exa.ext E2 E_x))
  obtain ⟨cq13, kq13, q13a, q13b, q13c⟩ := isOf hZ6 hh9 Fc14
  obtain ⟨_, _, ⟨T12, L12, k12, n12⟩, -, X12, ⟨Lc12, hQ12, l12, y12, z12⟩, st12⟩ := X9.virtualBack hx (y := (⟨"java/lang/String", "isEmpty", "()Z"⟩ : MethodName)) (z := (⟨"java/lang/String", "isEmpty", "()Z"⟩ : MethodName)) hown6 (mvT hZ6 (hw _ (List.mem_of_getElem? (i := 54) rfl))) (mvT hZ6 (hw _ (List.mem_of_getElem? (i := 55) rfl))) (notFace_of_selects (args := #[]) (mvT hZ6 (hw _ (List.mem_of_getElem? (i := 57) rfl)))) (mvT hZ6 (hw _ (List.mem_of_getElem? (i := 57) rfl))) (mvT hZ6 (hw _ (List.mem_of_getElem? (i := 56) rfl))) (by decide) (backOf (W := 0) (rm_ie l Z a0 hw [] vi vx kx nx (own_bs nx cx dx) h6 n0 Zp8 Fc10 Fc11 hn0) hZ6 (hw _ (List.mem_of_getElem? (i := 58) rfl)) (hw _ (List.mem_of_getElem? (i := 13) rfl)) (by decide) (by decide)) q13a q13c (g := (mkF m 19 #[.val (.ref va), .val (.ref vi), .val (.ref vj), .val (.int vw), .val (.int ve)] [(.ref vi)])) rfl (by rw [hml]; rfl) (Steps.refl _) (argsL := []) (rest := []) (lenOf own_pd7 rfl) rfl (by show 2 * 0 + _ ≤ _; exact Nat.le_of_eq rfl) (hb hby d9_19) (fun _ _ => ⟨rfl, hh9, (by decide : 4 + 0 ≤ _), (by decide : 72 + 0 ≤ _)⟩)
  dsimp only [Pt.U, Pt.locs, Pt.cells, Pt.slots] at X12 l12 y12 z12 st12 hQ12
  subst l12 y12 z12
  obtain ⟨rfl, Nq12, hh12⟩ := hQ12
  have Nf12 := Fr.app Nf9 Nq12
  have Fc15 := (Fld.ext E6 (Fld.ext E2 F_id))
  have Fc16 := (Exa.ext E6 (Exa.ext E2 E_va))
  obtain ⟨T17, h17, X17, e17, W17, st17⟩ := putF X12 hx hZ6 hown6 (host := "") (Or.inl (hw _ (List.mem_of_getElem? (i := 59) rfl))) Via.refl hh12 Fc15 Fc16 (Or.inr ⟨(hw _ (List.mem_of_getElem? (i := 60) rfl)), rfl, hnm⟩) (hw _ (List.mem_of_getElem? (i := 5) rfl)) (ty := (.object "java/lang/String")) (by decide) rfl rfl (g := (mkF m 37 #[.val (.ref va), .val (.ref vi), .val (.ref vj), .val (.int vw), .val (.int ve)] [(.ref vi), (.ref va)])) rfl rfl (hb hby d9_37)
  have N17 := Fr.snoc X17 Nf12 g_va
  have Fw17 := Fld.same W17 Fc15
  have CC18 := CC7.trans (CHr.wr W17 (Safe.exa hZ6.alike Fc16 (by decide) (by decide)) CC7.1)
  have Zp19 : n0 ≤ h17.size := Nat.le_trans Zp8 (Nat.le_of_eq (Wr.size W17).symm)
  have hSk19 := Nat.le_trans hk6 (Nat.le_of_eq (Wr.size W17).symm)
  have Fc20 := (Fld.other W17 (Fld.ext E6 (Fld.ext E2 F_counterpartyId)) (Or.inr (slot_ne (Or.inr (hw _ (List.mem_of_getElem? (i := 62) rfl))) (Or.inr (hw _ (List.mem_of_getElem? (i := 60) rfl))) (by decide) (t := (.object "java/lang/String")) (t' := (.object "java/lang/String")) (by decide) (by decide))))
  have Fc21 := (Exa.wr W17 Fc16)
  obtain ⟨T22, h22, X22, e22, W22, st22⟩ := putF X17 hx hZ6 hown6 (host := "") (Or.inl (hw _ (List.mem_of_getElem? (i := 61) rfl))) Via.refl e17 Fc20 Fc21 (Or.inr ⟨(hw _ (List.mem_of_getElem? (i := 62) rfl)), rfl, hnm⟩) (hw _ (List.mem_of_getElem? (i := 5) rfl)) (ty := (.object "java/lang/String")) (by decide) rfl rfl (g := (mkF m 42 #[.val (.ref va), .val (.ref vi), .val (.ref vj), .val (.int vw), .val (.int ve)] [(.ref vj), (.ref va)])) rfl rfl (hb hby d9_42)
  have N22 := Fr.snoc X22 N17 g_va
  have Fw22 := Fld.same W22 Fc20
  have CC23 := CC18.trans (CHr.wr W22 (Safe.exa hZ6.alike Fc21 (by decide) (by decide)) CC18.1)
  have Zp24 : n0 ≤ h22.size := Nat.le_trans Zp19 (Nat.le_of_eq (Wr.size W22).symm)
  have hSk24 := Nat.le_trans hSk19 (Nat.le_of_eq (Wr.size W22).symm)
  have Fc25 := (Fld.other W22 (Fld.other W17 (Fld.ext E6 (Fld.ext E2 F_walkawayClause)) (Or.inr (slot_ne (Or.inr (hw _ (List.mem_of_getElem? (i := 64) rfl))) (Or.inr (hw _ (List.mem_of_getElem? (i := 60) rfl))) (by decide) (t := .boolean) (t' := (.object "java/lang/String")) (by decide) (by decide)))) (Or.inr (slot_ne (Or.inr (hw _ (List.mem_of_getElem? (i := 64) rfl))) (Or.inr (hw _ (List.mem_of_getElem? (i := 62) rfl))) (by decide) (t := .boolean) (t' := (.object "java/lang/String")) (by decide) (by decide))))
  have Fc26 := (Exa.wr W22 Fc21)
  obtain ⟨T27, h27, X27, e27, W27, st27⟩ := putFN X22 hx hZ6 hown6 (hw _ (List.mem_of_getElem? (i := 63) rfl)) Via.refl e22 Fc25 Fc26 (Or.inr ⟨(hw _ (List.mem_of_getElem? (i := 64) rfl)), rfl, hnm⟩) (hw _ (List.mem_of_getElem? (i := 5) rfl)) (ty := .boolean) (v' := (.int vw)) (by decide) (own_nar hw01) (own_fit hw01) (g := (mkF m 47 #[.val (.ref va), .val (.ref vi), .val (.ref vj), .val (.int vw), .val (.int ve)] [(.int vw), (.ref va)])) rfl rfl (hb hby d9_47)
  have N27 := Fr.snoc X27 N22 g_va
  have Fw27 := Fld.same W27 Fc25
  have CC28 := CC23.trans (CHr.wr W27 (Safe.exa hZ6.alike Fc26 (by decide) (by decide)) CC23.1)
  have Zp29 : n0 ≤ h27.size := Nat.le_trans Zp24 (Nat.le_of_eq (Wr.size W27).symm)
  have hSk29 := Nat.le_trans hSk24 (Nat.le_of_eq (Wr.size W27).symm)
  have Fc30 := (Fld.other W27 (Fld.other W22 (Fld.other W17 (Fld.ext E6 (Fld.ext E2 F_legallyEnforceable)) (Or.inr (slot_ne (Or.inr (hw _ (List.mem_of_getElem? (i := 66) rfl))) (Or.inr (hw _ (List.mem_of_getElem? (i := 60) rfl))) (by decide) (t := .boolean) (t' := (.object "java/lang/String")) (by decide) (by decide)))) (Or.inr (slot_ne (Or.inr (hw _ (List.mem_of_getElem? (i := 66) rfl))) (Or.inr (hw _ (List.mem_of_getElem? (i := 62) rfl))) (by decide) (t := .boolean) (t' := (.object "java/lang/String")) (by decide) (by decide)))) (Or.inr (slot_ne (Or.inr (hw _ (List.mem_of_getElem? (i := 66) rfl))) (Or.inr (hw _ (List.mem_of_getElem? (i := 64) rfl))) (by decide) (t := .boolean) (t' := .boolean) (by decide) (by decide))))
  have Fc31 := (Exa.wr W27 Fc26)
  obtain ⟨T32, h32, X32, e32, W32, st32⟩ := putFN X27 hx hZ6 hown6 (hw _ (List.mem_of_getElem? (i := 65) rfl)) Via.refl e27 Fc30 Fc31 (Or.inr ⟨(hw _ (List.mem_of_getElem? (i := 66) rfl)), rfl, hnm⟩) (hw _ (List.mem_of_getElem? (i := 5) rfl)) (ty := .boolean) (v' := (.int ve)) (by decide) (own_nar he01) (own_fit he01) (g := (mkF m 53 #[.val (.ref va), .val (.ref vi), .val (.ref vj), .val (.int vw), .val (.int ve)] [(.int ve), (.ref va)])) rfl rfl (hb hby d9_53)
  have N32 := Fr.snoc X32 N27 g_va
  have Fw32 := Fld.same W32 Fc30
  have CC33 := CC28.trans (CHr.wr W32 (Safe.exa hZ6.alike Fc31 (by decide) (by decide)) CC28.1)
  have Zp34 : n0 ≤ h32.size := Nat.le_trans Zp29 (Nat.le_of_eq (Wr.size W32).symm)
  have hSk34 := Nat.le_trans hSk29 (Nat.le_of_eq (Wr.size W32).symm)
  obtain ⟨fs, hr, hrun, hended, hREW⟩ := X32.leaveW (s := s) (vm₁ := T6.vm) hS6 (by rw [e32]; exact hSk34) (v := none) (fun _ => rfl)
  refine ⟨_, _, pre0 _ ?_, hrun, hended, _, _, rfl, ?_, ?_, hREW.1, hREW.2.1, hREW.2.2.1, hREW.2.2.2.mono (by decide) (by decide)⟩
  · show Steps p.tables e below (s₁.setTop (mkF m 0 #[.val (.ref va), .val (.ref vi), .val (.ref vj), .val (.int vw), .val (.int ve)] [])) _
    refine XS.aloadN X0.here hx rfl (hb hby d9_0) rfl rfl ?_
    show Steps p.tables e below (s₁.setTop (mkF m 1 #[.val (.ref va), .val (.ref vi), .val (.ref vj), .val (.int vw), .val (.int ve)] [(.ref va)])) _
    refine st1 _ ?_
    show Steps p.tables e below (T1.setTop (mkF m 4 #[.val (.ref va), .val (.ref vi), .val (.ref vj), .val (.int vw), .val (.int ve)] [])) _
    refine XS.aloadN X1.here hx rfl (hb hby d9_4) rfl rfl ?_
    show Steps p.tables e below (T1.setTop (mkF m 5 #[.val (.ref va), .val (.ref vi), .val (.ref vj), .val (.int vw), .val (.int ve)] [(.ref vi)])) _
    refine st2 _ ?_
    show Steps p.tables e below (T2.setTop (mkF m 7 #[.val (.ref va), .val (.ref vi), .val (.ref vj), .val (.int vw), .val (.int ve)] [(.ref a2), (.ref vi)])) _
    refine st5 _ ?_
    show Steps p.tables e below (T5.setTop (mkF m 10 #[.val (.ref va), .val (.ref vi), .val (.ref vj), .val (.int vw), .val (.int ve)] [(.ref vi)])) _
    refine XS.pop X5.here hx rfl (hb hby d9_10) rfl rfl ?_
    show Steps p.tables e below (T5.setTop (mkF m 11 #[.val (.ref va), .val (.ref vi), .val (.ref vj), .val (.int vw), .val (.int ve)] [])) _
    refine XS.aloadN X5.here hx rfl (hb hby d9_11) rfl rfl ?_
    show Steps p.tables e below (T5.setTop (mkF m 12 #[.val (.ref va), .val (.ref vi), .val (.ref vj), .val (.int vw), .val (.int ve)] [(.ref vj)])) _
    refine st6 _ ?_
    show Steps p.tables e below (T6.setTop (mkF m 14 #[.val (.ref va), .val (.ref vi), .val (.ref vj), .val (.int vw), .val (.int ve)] [(.ref a6), (.ref vj)])) _
    refine st9 _ ?_
    show Steps p.tables e below (T9.setTop (mkF m 17 #[.val (.ref va), .val (.ref vi), .val (.ref vj), .val (.int vw), .val (.int ve)] [(.ref vj)])) _
    refine XS.pop X9.here hx rfl (hb hby d9_17) rfl rfl ?_
    show Steps p.tables e below (T9.setTop (mkF m 18 #[.val (.ref va), .val (.ref vi), .val (.ref vj), .val (.int vw), .val (.int ve)] [])) _
    refine XS.aloadN X9.here hx rfl (hb hby d9_18) rfl rfl ?_
    show Steps p.tables e below (T9.setTop (mkF m 19 #[.val (.ref va), .val (.ref vi), .val (.ref vj), .val (.int vw), .val (.int ve)] [(.ref vi)])) _
    refine st12.trans ?_
    show Steps p.tables e below (T12.setTop (mkF m 22 #[.val (.ref va), .val (.ref vi), .val (.ref vj), .val (.int vw), .val (.int ve)] [(.int (0 : Int32))])) _
    refine XS.ifYes X12.here hx rfl (pc0 := 22) (pc' := 35) rfl (hb hby d9_22) rfl (by decide) (by decide) (by decide) ?_
    show Steps p.tables e below (T12.setTop (mkF m 35 #[.val (.ref va), .val (.ref vi), .val (.ref vj), .val (.int vw), .val (.int ve)] [])) _
    refine XS.aloadN X12.here hx rfl (hb hby d9_35) rfl rfl ?_
    show Steps p.tables e below (T12.setTop (mkF m 36 #[.val (.ref va), .val (.ref vi), .val (.ref vj), .val (.int vw), .val (.int ve)] [(.ref va)])) _
    refine XS.aloadN X12.here hx rfl (hb hby d9_36) rfl rfl ?_
    show Steps p.tables e below (T12.setTop (mkF m 37 #[.val (.ref va), .val (.ref vi), .val (.ref vj), .val (.int vw), .val (.int ve)] [(.ref vi), (.ref va)])) _
    refine st17 _ ?_
    show Steps p.tables e below (T17.setTop (mkF m 40 #[.val (.ref va), .val (.ref vi), .val (.ref vj), .val (.int vw), .val (.int ve)] [])) _
    refine XS.aloadN X17.here hx rfl (hb hby d9_40) rfl rfl ?_
    show Steps p.tables e below (T17.setTop (mkF m 41 #[.val (.ref va), .val (.ref vi), .val (.ref vj), .val (.int vw), .val (.int ve)] [(.ref va)])) _
    refine XS.aloadN X17.here hx rfl (hb hby d9_41) rfl rfl ?_
    show Steps p.tables e below (T17.setTop (mkF m 42 #[.val (.ref va), .val (.ref vi), .val (.ref vj), .val (.int vw), .val (.int ve)] [(.ref vj), (.ref va)])) _
    refine st22 _ ?_
    show Steps p.tables e below (T22.setTop (mkF m 45 #[.val (.ref va), .val (.ref vi), .val (.ref vj), .val (.int vw), .val (.int ve)] [])) _
    refine XS.aloadN X22.here hx rfl (hb hby d9_45) rfl rfl ?_
    show Steps p.tables e below (T22.setTop (mkF m 46 #[.val (.ref va), .val (.ref vi), .val (.ref vj), .val (.int vw), .val (.int ve)] [(.ref va)])) _
    refine XS.iloadN X22.here hx rfl (hb hby d9_46) rfl ?_
    show Steps p.tables e below (T22.setTop (mkF m 47 #[.val (.ref va), .val (.ref vi), .val (.ref vj), .val (.int vw), .val (.int ve)] [(.int vw), (.ref va)])) _
    refine st27 _ ?_
    show Steps p.tables e below (T27.setTop (mkF m 50 #[.val (.ref va), .val (.ref vi), .val (.ref vj), .val (.int vw), .val (.int ve)] [])) _
    refine XS.aloadN X27.here hx rfl (hb hby d9_50) rfl rfl ?_
    show Steps p.tables e below (T27.setTop (mkF m 51 #[.val (.ref va), .val (.ref vi), .val (.ref vj), .val (.int vw), .val (.int ve)] [(.ref va)])) _
    refine XS.iload X27.here hx rfl (hb hby d9_51) rfl ?_
    show Steps p.tables e below (T27.setTop (mkF m 53 #[.val (.ref va), .val (.ref vi), .val (.ref vj), .val (.int vw), .val (.int ve)] [(.int ve), (.ref va)])) _
    refine st32 _ ?_
    show Steps p.tables e below (T32.setTop (mkF m 56 #[.val (.ref va), .val (.ref vi), .val (.ref vj), .val (.int vw), .val (.int ve)] [])) _
    exact X32.returnOut hx Bd.returns (hb hby d9_56) hr
  · show Q_na Z va vi vj vw ve vx kx nx cx dx h0 n0 _ T32.heap _
    rw [e32]
    have Kc35 := (Keep.refl h0 [va]).ext E2
    have Kc36 := Kc35.ext E6
    have Kc37 := Kc36.wr W17 (Or.inl (List.mem_of_getElem? (i := 0) rfl))
    have Kc38 := Kc37.wr W22 (Or.inl (List.mem_of_getElem? (i := 0) rfl))
    have Kc39 := Kc38.wr W27 (Or.inl (List.mem_of_getElem? (i := 0) rfl))
    have Kc40 := Kc39.wr W32 (Or.inl (List.mem_of_getElem? (i := 0) rfl))
    have Fc41 := (Exa.wr W32 Fc31)
    have Fc42 := (Fld.other W32 (Fld.other W27 (Fld.other W22 Fw17 (Or.inr (slot_ne (Or.inr (hw _ (List.mem_of_getElem? (i := 60) rfl))) (Or.inr (hw _ (List.mem_of_getElem? (i := 62) rfl))) (by decide) (t := (.object "java/lang/String")) (t' := (.object "java/lang/String")) (by decide) (by decide)))) (Or.inr (slot_ne (Or.inr (hw _ (List.mem_of_getElem? (i := 60) rfl))) (Or.inr (hw _ (List.mem_of_getElem? (i := 64) rfl))) (by decide) (t := (.object "java/lang/String")) (t' := .boolean) (by decide) (by decide)))) (Or.inr (slot_ne (Or.inr (hw _ (List.mem_of_getElem? (i := 60) rfl))) (Or.inr (hw _ (List.mem_of_getElem? (i := 66) rfl))) (by decide) (t := (.object "java/lang/String")) (t' := .boolean) (by decide) (by decide))))
    have Fc43 := (Fld.other W32 (Fld.other W27 Fw22 (Or.inr (slot_ne (Or.inr (hw _ (List.mem_of_getElem? (i := 62) rfl))) (Or.inr (hw _ (List.mem_of_getElem? (i := 64) rfl))) (by decide) (t := (.object "java/lang/String")) (t' := .boolean) (by decide) (by decide)))) (Or.inr (slot_ne (Or.inr (hw _ (List.mem_of_getElem? (i := 62) rfl))) (Or.inr (hw _ (List.mem_of_getElem? (i := 66) rfl))) (by decide) (t := (.object "java/lang/String")) (t' := .boolean) (by decide) (by decide))))
    have Fc44 := (Fld.other W32 Fw27 (Or.inr (slot_ne (Or.inr (hw _ (List.mem_of_getElem? (i := 64) rfl))) (Or.inr (hw _ (List.mem_of_getElem? (i := 66) rfl))) (by decide) (t := .boolean) (t' := .boolean) (by decide) (by decide))))
    exact ⟨rfl, N32, Kc40, Fc41, Fc42, Fc43, Fc44, Fw32⟩
  · show CHr Z own_EL s.vm s.heap T32.vm T32.heap
    rw [hh, e32]
    exact CC33.trans (CHv.at (s := s) (vm0 := T6.vm) X32 hZ6 (own_ew hw) CC33.1)
theorem d13_0 : decode prog_36_method_8_code 0 = .ok (.aload_n 1, 1) := by decide +kernel
theorem d13_1 : decode prog_36_method_8_code 1 = .ok (.instanceof 31, 3) := by decide +kernel
theorem d13_4 : decode prog_36_method_8_code 4 = .ok (.ifCond .eq 62, 3) := by decide +kernel
theorem d13_7 : decode prog_36_method_8_code 7 = .ok (.aload_n 1, 1) := by decide +kernel
theorem d13_8 : decode prog_36_method_8_code 8 = .ok (.checkcast 31, 3) := by decide +kernel
theorem d13_11 : decode prog_36_method_8_code 11 = .ok (.astore_n 2, 1) := by decide +kernel
theorem d13_12 : decode prog_36_method_8_code 12 = .ok (.aload_n 0, 1) := by decide +kernel
theorem d13_13 : decode prog_36_method_8_code 13 = .ok (.getfield 30, 3) := by decide +kernel
theorem d13_16 : decode prog_36_method_8_code 16 = .ok (.aload_n 2, 1) := by decide +kernel
theorem d13_17 : decode prog_36_method_8_code 17 = .ok (.getfield 30, 3) := by decide +kernel
theorem d13_20 : decode prog_36_method_8_code 20 = .ok (.invokevirtual 47, 3) := by decide +kernel
theorem d13_23 : decode prog_36_method_8_code 23 = .ok (.ifCond .eq 43, 3) := by decide +kernel
theorem d13_26 : decode prog_36_method_8_code 26 = .ok (.aload_n 0, 1) := by decide +kernel
theorem d13_27 : decode prog_36_method_8_code 27 = .ok (.getfield 35, 3) := by decide +kernel
theorem d13_30 : decode prog_36_method_8_code 30 = .ok (.aload_n 2, 1) := by decide +kernel
theorem d13_31 : decode prog_36_method_8_code 31 = .ok (.getfield 35, 3) := by decide +kernel
theorem d13_34 : decode prog_36_method_8_code 34 = .ok (.invokevirtual 47, 3) := by decide +kernel
theorem d13_37 : decode prog_36_method_8_code 37 = .ok (.ifCond .eq 29, 3) := by decide +kernel
theorem d13_40 : decode prog_36_method_8_code 40 = .ok (.aload_n 0, 1) := by decide +kernel
theorem d13_41 : decode prog_36_method_8_code 41 = .ok (.getfield 37, 3) := by decide +kernel
theorem d13_44 : decode prog_36_method_8_code 44 = .ok (.aload_n 2, 1) := by decide +kernel
theorem d13_45 : decode prog_36_method_8_code 45 = .ok (.getfield 37, 3) := by decide +kernel
theorem d13_48 : decode prog_36_method_8_code 48 = .ok (.if_icmp .ne 18, 3) := by decide +kernel
theorem d13_51 : decode prog_36_method_8_code 51 = .ok (.aload_n 0, 1) := by decide +kernel
theorem d13_52 : decode prog_36_method_8_code 52 = .ok (.getfield 41, 3) := by decide +kernel
theorem d13_55 : decode prog_36_method_8_code 55 = .ok (.aload_n 2, 1) := by decide +kernel
theorem d13_56 : decode prog_36_method_8_code 56 = .ok (.getfield 41, 3) := by decide +kernel
theorem d13_59 : decode prog_36_method_8_code 59 = .ok (.if_icmp .ne 7, 3) := by decide +kernel
theorem d13_62 : decode prog_36_method_8_code 62 = .ok (.iconst 1, 1) := by decide +kernel
theorem d13_63 : decode prog_36_method_8_code 63 = .ok (.goto 4, 3) := by decide +kernel
theorem d13_66 : decode prog_36_method_8_code 66 = .ok (.iconst 0, 1) := by decide +kernel
theorem d13_67 : decode prog_36_method_8_code 67 = .ok (.ireturn, 1) := by decide +kernel
theorem pn_rm_eqN : plainName "com/example/netmark/netmark/rules/NettingAgreement" = true := by first | (simp [plainName, overriddenIn]; done) | decide +kernel
theorem ef_rm_eqN (m : MethodId) (va : Addr) : entryFrame m #[(.ref va), .null] 3 = mkF m 0 #[.val (.ref va), .val .null, .unset] [] := by first | (simp [entryFrame, mkF, argsToLocals, Value.category]; done) | rfl
def Q_eqN (Z : State) (va : Addr) (h0 : Heap) (n0 : Nat) (v : Option Value) (h : Heap) (L : List Loc) : Prop := v = some (.int 0) ∧ Fr n0 L ∧ h = h0
set_option maxRecDepth 65536 in
set_option maxHeartbeats 40000000 in
theorem rm_eqN (l : Launch) (Z : State) (a0 : Array Value) (hw : ∀ d ∈ tables_1, d.before a0 Z = true) (ws : List Jvm.Cond) (va : Addr) (h0 : Heap) (n0 : Nat) (Z0 : n0 ≤ h0.size) :
    MetFree l (⟨"com/example/netmark/netmark/rules/NettingAgreement", "equals", "(Ljava/lang/Object;)Z"⟩ : MethodName) (head1 (Jvm.Cond.code (⟨"com/example/netmark/netmark/rules/NettingAgreement", "equals", "(Ljava/lang/Object;)Z"⟩ : MethodName) prog_36_method_8_code 3 (some .boolean) :: ws) ({ frames := 0, cells := 0, slots := 0, locals := 0 } : Room)) (fun a U => a = #[(.ref va), .null] ∧ Z.Warmed39 U.vm ∧ U.heap = h0) (fun _ _ _ _ _ => True) (fun _ U o U' => ∃ v L, o = .returned v ∧ Q_eqN Z va h0 n0 v U'.heap L ∧ FrameEnd U o U' L ({ frames := 0, cells := 0, slots := 0, locals := 0 } : Room).cells ({ frames := 0, cells := 0, slots := 0, locals := 0 } : Room).slots) := by
  refine MetFree.of_bodySF (plainFor_of_name pn_rm_eqN) hisR ?_
  intro p e s m args below meth c s₁ Bd hml0 hP hK
  obtain ⟨rfl, hZ, hh⟩ := hP
  have hx := Bd.exec
  have hby := Bd.bytes
  have hml : c.maxLocals = 3 := hml0
  have hown : s.vm.findClass "com/example/netmark/netmark/rules/NettingAgreement" = some m.cls := findClass_of_methodNamed Bd.named
  have hnm := (name_of_methodNamed Bd.named Bd.method).1
  have X0 : Stand p l e ({ frames := 0, cells := 0, slots := 0, locals := 0 } : Room) s m #[(.ref va), .null] below meth c s₁ [] 0 0 := Stand.of_body Bd
  have e0 : s₁.heap = h0 := by rw [← hh, Bd.state]; rfl
  have N0 := Fr.nil n0
  have pre0 : ∀ t, Steps p.tables e below (s₁.setTop (mkF m 0 #[.val (.ref va), .val .null, .unset] [])) t → Steps p.tables e below (s₁.setTop (entryFrame m #[(.ref va), .null] 3)) t := fun t k => castTop (ef_rm_eqN m va) k
  obtain ⟨fs, hr, hrun, hended, hW, hsame⟩ := X0.leave (v := some (.int (0 : Int32))) (fun h => by rw [Bd.returns] at h; cases h)
  refine ⟨_, _, pre0 _ ?_, hrun, hended, _, _, rfl, ?_, ⟨_, rfl⟩, hW, hsame.mono (by decide) (by decide)⟩
  · show Steps p.tables e below (s₁.setTop (mkF m 0 #[.val (.ref va), .val .null, .unset] [])) _
    refine XS.aloadN X0.here hx rfl (hb hby d13_0) rfl rfl ?_
    show Steps p.tables e below (s₁.setTop (mkF m 1 #[.val (.ref va), .val .null, .unset] [.null])) _
    refine X0.instanceofNull hx (g := (mkF m 1 #[.val (.ref va), .val .null, .unset] [.null])) rfl rfl (hb hby d13_1) _ ?_
    show Steps p.tables e below (s₁.setTop (mkF m 4 #[.val (.ref va), .val .null, .unset] [(.int (0 : Int32))])) _
    refine XS.ifYes X0.here hx rfl (pc0 := 4) (pc' := 66) rfl (hb hby d13_4) rfl (by decide) (by decide) (by decide) ?_
    show Steps p.tables e below (s₁.setTop (mkF m 66 #[.val (.ref va), .val .null, .unset] [])) _
    refine XS.iconst X0.here hx rfl (hb hby d13_66) ?_
    show Steps p.tables e below (s₁.setTop (mkF m 67 #[.val (.ref va), .val .null, .unset] [(.int (0 : Int32))])) _
    exact retN X0 hx (t := .boolean) Bd.returns (by simp) (hb hby d13_67) hr
  · show Q_eqN Z va h0 n0 _ s₁.heap _
    rw [e0]
    exact ⟨rfl, N0, rfl⟩
theorem pn_rm_eqS : plainName "com/example/netmark/netmark/rules/NettingAgreement" = true := by first | (simp [plainName, overriddenIn]; done) | decide +kernel
theorem ef_rm_eqS (m : MethodId) (va : Addr) (vo : Addr) : entryFrame m #[(.ref va), (.ref vo)] 3 = mkF m 0 #[.val (.ref va), .val (.ref vo), .unset] [] := by first | (simp [entryFrame, mkF, argsToLocals, Value.category]; done) | rfl
def Q_eqS (Z : State) (va : Addr) (vo : Addr) (h0 : Heap) (n0 : Nat) (v : Option Value) (h : Heap) (L : List Loc) : Prop := v = some (.int 0) ∧ Fr n0 L ∧ h = h0
set_option maxRecDepth 65536 in
set_option maxHeartbeats 40000000 in
theorem rm_eqS (l : Launch) (Z : State) (a0 : Array Value) (hw : ∀ d ∈ tables_1, d.before a0 Z = true) (ws : List Jvm.Cond) (va : Addr) (vo : Addr) (h0 : Heap) (n0 : Nat) (Z0 : n0 ≤ h0.size) (E_o : Exa Z h0 vo "java/lang/String") :
    MetFree l (⟨"com/example/netmark/netmark/rules/NettingAgreement", "equals", "(Ljava/lang/Object;)Z"⟩ : MethodName) (head1 (Jvm.Cond.code (⟨"com/example/netmark/netmark/rules/NettingAgreement", "equals", "(Ljava/lang/Object;)Z"⟩ : MethodName) prog_36_method_8_code 3 (some .boolean) :: ws) ({ frames := 0, cells := 0, slots := 0, locals := 0 } : Room)) (fun a U => a = #[(.ref va), (.ref vo)] ∧ Z.Warmed39 U.vm ∧ U.heap = h0) (fun _ _ _ _ _ => True) (fun _ U o U' => ∃ v L, o = .returned v ∧ Q_eqS Z va vo h0 n0 v U'.heap L ∧ FrameEnd U o U' L ({ frames := 0, cells := 0, slots := 0, locals := 0 } : Room).cells ({ frames := 0, cells := 0, slots := 0, locals := 0 } : Room).slots) := by
  refine MetFree.of_bodySF (plainFor_of_name pn_rm_eqS) hisR ?_
  intro p e s m args below meth c s₁ Bd hml0 hP hK
  obtain ⟨rfl, hZ, hh⟩ := hP
  have hx := Bd.exec
  have hby := Bd.bytes
  have hml : c.maxLocals = 3 := hml0
  have hown : s.vm.findClass "com/example/netmark/netmark/rules/NettingAgreement" = some m.cls := findClass_of_methodNamed Bd.named
  have hnm := (name_of_methodNamed Bd.named Bd.method).1
  have X0 : Stand p l e ({ frames := 0, cells := 0, slots := 0, locals := 0 } : Room) s m #[(.ref va), (.ref vo)] below meth c s₁ [] 0 0 := Stand.of_body Bd
  have e0 : s₁.heap = h0 := by rw [← hh, Bd.state]; rfl
  have N0 := Fr.nil n0
  have pre0 : ∀ t, Steps p.tables e below (s₁.setTop (mkF m 0 #[.val (.ref va), .val (.ref vo), .unset] [])) t → Steps p.tables e below (s₁.setTop (entryFrame m #[(.ref va), (.ref vo)] 3)) t := fun t k => castTop (ef_rm_eqS m va vo) k
  obtain ⟨T1, X1, e1, st1⟩ := instNo X0 hx hZ hown (hw _ (List.mem_of_getElem? (i := 75) rfl)) e0 E_o (own_noins (hw _ (List.mem_of_getElem? (i := 87) rfl)) (hw _ (List.mem_of_getElem? (i := 88) rfl)) (hw _ (List.mem_of_getElem? (i := 5) rfl)) (by decide) (by decide)) (g := (mkF m 1 #[.val (.ref va), .val (.ref vo), .unset] [(.ref vo)])) rfl rfl (hb hby d13_1)
  obtain ⟨fs, hr, hrun, hended, hW, hsame⟩ := X1.leave (v := some (.int (0 : Int32))) (fun h => by rw [Bd.returns] at h; cases h)
  refine ⟨_, _, pre0 _ ?_, hrun, hended, _, _, rfl, ?_, ⟨_, rfl⟩, hW, hsame.mono (by decide) (by decide)⟩
  · show Steps p.tables e below (s₁.setTop (mkF m 0 #[.val (.ref va), .val (.ref vo), .unset] [])) _
    refine XS.aloadN X0.here hx rfl (hb hby d13_0) rfl rfl ?_
    show Steps p.tables e below (s₁.setTop (mkF m 1 #[.val (.ref va), .val (.ref vo), .unset] [(.ref vo)])) _
    refine st1 _ ?_
    show Steps p.tables e below (T1.setTop (mkF m 4 #[.val (.ref va), .val (.ref vo), .unset] [(.int (0 : Int32))])) _
    refine XS.ifYes X1.here hx rfl (pc0 := 4) (pc' := 66) rfl (hb hby d13_4) rfl (by decide) (by decide) (by decide) ?_
    show Steps p.tables e below (T1.setTop (mkF m 66 #[.val (.ref va), .val (.ref vo), .unset] [])) _
    refine XS.iconst X1.here hx rfl (hb hby d13_66) ?_
    show Steps p.tables e below (T1.setTop (mkF m 67 #[.val (.ref va), .val (.ref vo), .unset] [(.int (0 : Int32))])) _
    exact retN X1 hx (t := .boolean) Bd.returns (by simp) (hb hby d13_67) hr
  · show Q_eqS Z va vo h0 n0 _ T1.heap _
    rw [e1]
    exact ⟨rfl, N0, rfl⟩
theorem pn_rm_eqA : plainName "com/example/netmark/netmark/rules/NettingAgreement" = true := by first | (simp [plainName, overriddenIn]; done) | decide +kernel
theorem ef_rm_eqA (m : MethodId) (va : Addr) (vo : Addr) : entryFrame m #[(.ref va), (.ref vo)] 3 = mkF m 0 #[.val (.ref va), .val (.ref vo), .unset] [] := by first | (simp [entryFrame, mkF, argsToLocals, Value.category]; done) | rfl
def Q_eqA (Z : State) (va : Addr) (vo : Addr) (op : Addr) (bp : Addr) (kp : ClassId) (np : Int32) (cp : Int32) (dp : Int32) (oq : Addr) (bq : Addr) (kq : ClassId) (nq : Int32) (cq : Int32) (dq : Int32) (og : Addr) (bg : Addr) (kg : ClassId) (ng : Int32) (cg : Int32) (dg : Int32) (os : Addr) (bs : Addr) (ks : ClassId) (ns : Int32) (cs : Int32) (ds : Int32) (wa : Int32) (la : Int32) (wo : Int32) (lo : Int32) (vcs : Int32) (h0 : Heap) (n0 : Nat) (v : Option Value) (h : Heap) (L : List Loc) : Prop := v = some (.int (own_eqv (own_same np cp dp ng cg dg) (own_same nq cq dq ns cs ds) wa wo la lo)) ∧ Fr n0 L ∧ h = h0
set_option maxRecDepth 65536 in
set_option maxHeartbeats 40000000 in
theorem rm_eqA (l : Launch) (Z : State) (a0 : Array Value) (hw : ∀ d ∈ tables_1, d.before a0 Z = true) (ws : List Jvm.Cond) (va : Addr) (vo : Addr) (op : Addr) (bp : Addr) (kp : ClassId) (np : Int32) (cp : Int32) (dp : Int32) (oq : Addr) (bq : Addr) (kq : ClassId) (nq : Int32) (cq : Int32) (dq : Int32) (og : Addr) (bg : Addr) (kg : ClassId) (ng : Int32) (cg : Int32) (dg : Int32) (os : Addr) (bs : Addr) (ks : ClassId) (ns : Int32) (cs : Int32) (ds : Int32) (wa : Int32) (la : Int32) (wo : Int32) (lo : Int32) (vcs : Int32) (h0 : Heap) (n0 : Nat) (Z0 : n0 ≤ h0.size) (Fi_p : Fld Z h0 va "com/example/netmark/netmark/rules/NettingAgreement" "id" "Ljava/lang/String;" (.ref op)) (E_p : Exa Z h0 op "java/lang/String") (Fv_p : Fld Z h0 op "java/lang/String" "value" "[B" (.ref bp)) (Fc_p : Fld Z h0 op "java/lang/String" "coder" "B" (.int (0 : Int32))) (V_p : Arv Z h0 bp kp .byte np (own_bs np cp dp) (.int (0 : Int32))) (l_np : np = 0 ∨ np = 1 ∨ np = 2) (r_cp : own_r cp) (r_dp : own_r dp) (Fi_q : Fld Z h0 va "com/example/netmark/netmark/rules/NettingAgreement" "counterpartyId" "Ljava/lang/String;" (.ref oq)) (E_q : Exa Z h0 oq "java/lang/String") (Fv_q : Fld Z h0 oq "java/lang/String" "value" "[B" (.ref bq)) (Fc_q : Fld Z h0 oq "java/lang/String" "coder" "B" (.int (0 : Int32))) (V_q : Arv Z h0 bq kq .byte nq (own_bs nq cq dq) (.int (0 : Int32))) (l_nq : nq = 0 ∨ nq = 1 ∨ nq = 2) (r_cq : own_r cq) (r_dq : own_r dq) (Fi_g : Fld Z h0 vo "com/example/netmark/netmark/rules/NettingAgreement" "id" "Ljava/lang/String;" (.ref og)) (E_g : Exa Z h0 og "java/lang/String") (Fv_g : Fld Z h0 og "java/lang/String" "value" "[B" (.ref bg)) (Fc_g : Fld Z h0 og "java/lang/String" "coder" "B" (.int (0 : Int32))) (V_g : Arv Z h0 bg kg .byte ng (own_bs ng cg dg) (.int (0 : Int32))) (l_ng : ng = 0 ∨ ng = 1 ∨ ng = 2) (r_cg : own_r cg) (r_dg : own_r dg) (Fi_s : Fld Z h0 vo "com/example/netmark/netmark/rules/NettingAgreement" "counterpartyId" "Ljava/lang/String;" (.ref os)) (E_s : Exa Z h0 os "java/lang/String") (Fv_s : Fld Z h0 os "java/lang/String" "value" "[B" (.ref bs)) (Fc_s : Fld Z h0 os "java/lang/String" "coder" "B" (.int (0 : Int32))) (V_s : Arv Z h0 bs ks .byte ns (own_bs ns cs ds) (.int (0 : Int32))) (l_ns : ns = 0 ∨ ns = 1 ∨ ns = 2) (r_cs : own_r cs) (r_ds : own_r ds) (F_wa : Fld Z h0 va "com/example/netmark/netmark/rules/NettingAgreement" "walkawayClause" "Z" (.int wa)) (F_la : Fld Z h0 va "com/example/netmark/netmark/rules/NettingAgreement" "legallyEnforceable" "Z" (.int la)) (F_wo : Fld Z h0 vo "com/example/netmark/netmark/rules/NettingAgreement" "walkawayClause" "Z" (.int wo)) (F_lo : Fld Z h0 vo "com/example/netmark/netmark/rules/NettingAgreement" "legallyEnforceable" "Z" (.int lo)) (E_vo : Exa Z h0 vo "com/example/netmark/netmark/rules/NettingAgreement") (npr : op ≠ og) (nqs : oq ≠ os) (S_cs : Sta Z h0 "java/lang/String" "COMPACT_STRINGS" "Z" (.int vcs)) (hcs : ¬ vcs = 0) :
    MetFree l (⟨"com/example/netmark/netmark/rules/NettingAgreement", "equals", "(Ljava/lang/Object;)Z"⟩ : MethodName) (head1 (Jvm.Cond.code (⟨"com/example/netmark/netmark/rules/NettingAgreement", "equals", "(Ljava/lang/Object;)Z"⟩ : MethodName) prog_36_method_8_code 3 (some .boolean) :: ws) ({ frames := 2, cells := 0, slots := 0, locals := 28 } : Room)) (fun a U => a = #[(.ref va), (.ref vo)] ∧ Z.Warmed39 U.vm ∧ U.heap = h0) (fun _ _ _ _ _ => True) (fun _ U o U' => ∃ v L, o = .returned v ∧ Q_eqA Z va vo op bp kp np cp dp oq bq kq nq cq dq og bg kg ng cg dg os bs ks ns cs ds wa la wo lo vcs h0 n0 v U'.heap L ∧ FrameEnd U o U' L ({ frames := 2, cells := 0, slots := 0, locals := 28 } : Room).cells ({ frames := 2, cells := 0, slots := 0, locals := 28 } : Room).slots) := by
  refine MetFree.of_bodySF (plainFor_of_name pn_rm_eqA) hisR ?_
  intro p e s m args below meth c s₁ Bd hml0 hP hK
  obtain ⟨rfl, hZ, hh⟩ := hP
  have hx := Bd.exec
  have hby := Bd.bytes
  have hml : c.maxLocals = 3 := hml0
  have hown : s.vm.findClass "com/example/netmark/netmark/rules/NettingAgreement" = some m.cls := findClass_of_methodNamed Bd.named
  have hnm := (name_of_methodNamed Bd.named Bd.method).1
  have X0 : Stand p l e ({ frames := 2, cells := 0, slots := 0, locals := 28 } : Room) s m #[(.ref va), (.ref vo)] below meth c s₁ [] 0 0 := Stand.of_body Bd
  have e0 : s₁.heap = h0 := by rw [← hh, Bd.state]; rfl
  have N0 := Fr.nil n0
  have pre0 : ∀ t, Steps p.tables e below (s₁.setTop (mkF m 0 #[.val (.ref va), .val (.ref vo), .unset] [])) t → Steps p.tables e below (s₁.setTop (entryFrame m #[(.ref va), (.ref vo)] 3)) t := fun t k => castTop (ef_rm_eqA m va vo) k
  obtain ⟨T1, X1, e1, st1⟩ := instY X0 hx hZ hown (hw _ (List.mem_of_getElem? (i := 75) rfl)) e0 (Ins.self E_vo) (g := (mkF m 1 #[.val (.ref va), .val (.ref vo), .unset] [(.ref vo)])) rfl rfl (hb hby d13_1)
  obtain ⟨T2, X2, e2, st2⟩ := castY X1 hx hZ hown (hw _ (List.mem_of_getElem? (i := 75) rfl)) e1 (Ins.self E_vo) (g := (mkF m 8 #[.val (.ref va), .val (.ref vo), .unset] [(.ref vo)])) rfl rfl (hb hby d13_8)
  obtain ⟨T3, X3, e3, st3⟩ := getF X2 hx hZ hown (host := "") (Or.inl (hw _ (List.mem_of_getElem? (i := 59) rfl))) Via.refl e2 Fi_p (g := (mkF m 13 #[.val (.ref va), .val (.ref vo), .val (.ref vo)] [(.ref va)])) rfl rfl (hb hby d13_13)
  obtain ⟨T4, X4, e4, st4⟩ := getF X3 hx hZ hown (host := "") (Or.inl (hw _ (List.mem_of_getElem? (i := 59) rfl))) Via.refl e3 Fi_g (g := (mkF m 17 #[.val (.ref va), .val (.ref vo), .val (.ref vo)] [(.ref vo), (.ref op)])) rfl rfl (hb hby d13_17)
  obtain ⟨cq6, kq6, q6a, q6b, q6c⟩ := isOf hZ e4 E_p
  obtain ⟨_, _, ⟨T5, L5, k5, n5⟩, -, X5, ⟨Lc5, hQ5, l5, y5, z5⟩, st5⟩ := X4.virtualBack hx (y := (⟨"java/lang/String", "equals", "(Ljava/lang/Object;)Z"⟩ : MethodName)) (z := (⟨"java/lang/String", "equals", "(Ljava/lang/Object;)Z"⟩ : MethodName)) hown (mvT hZ (hw _ (List.mem_of_getElem? (i := 77) rfl))) (mvT hZ (hw _ (List.mem_of_getElem? (i := 78) rfl))) (notFace_of_selects (args := #[]) (mvT hZ (hw _ (List.mem_of_getElem? (i := 80) rfl)))) (mvT hZ (hw _ (List.mem_of_getElem? (i := 80) rfl))) (mvT hZ (hw _ (List.mem_of_getElem? (i := 79) rfl))) (by decide) (backOf (W := 0) (rm_se l Z a0 hw [] op og bp bg kp kg np cp dp ng cg dg vcs h0 n0 Z0 E_p Fv_p Fc_p V_p E_g Fv_g Fc_g V_g npr l_np l_ng r_cp r_dp r_cg r_dg S_cs hcs) hZ (hw _ (List.mem_of_getElem? (i := 81) rfl)) (hw _ (List.mem_of_getElem? (i := 13) rfl)) (by decide) (by decide)) q6a q6c (g := (mkF m 20 #[.val (.ref va), .val (.ref vo), .val (.ref vo)] [(.ref og), (.ref op)])) rfl (by rw [hml]; rfl) (Steps.refl _) (argsL := [(.ref og)]) (rest := []) (lenOf own_pd8 rfl) rfl (by show 2 * 0 + _ ≤ _; exact Nat.le_of_eq rfl) (hb hby d13_20) (fun _ _ => ⟨rfl, e4, (by decide : 0 + 0 ≤ _), (by decide : 0 + 0 ≤ _)⟩)
  dsimp only [Pt.U, Pt.locs, Pt.cells, Pt.slots] at X5 l5 y5 z5 st5 hQ5
  subst l5 y5 z5
  obtain ⟨rfl, Nq5, hh5⟩ := hQ5
  have Nf5 := Fr.app N0 Nq5
  have pre7 : ∀ t, Steps p.tables e below (T5.setTop (mkF m 23 #[.val (.ref va), .val (.ref vo), .val (.ref vo)] [(.int (own_same np cp dp ng cg dg))])) t → Steps p.tables e below (s₁.setTop (entryFrame m #[(.ref va), (.ref vo)] 3)) t := by
    intro t k
    refine pre0 t ?_
    show Steps p.tables e below (s₁.setTop (mkF m 0 #[.val (.ref va), .val (.ref vo), .unset] [])) _
    refine XS.aloadN X0.here hx rfl (hb hby d13_0) rfl rfl ?_
    show Steps p.tables e below (s₁.setTop (mkF m 1 #[.val (.ref va), .val (.ref vo), .unset] [(.ref vo)])) _
    refine st1 _ ?_
    show Steps p.tables e below (T1.setTop (mkF m 4 #[.val (.ref va), .val (.ref vo), .unset] [(.int (1 : Int32))])) _
    refine XS.ifNo X1.here hx rfl (hb hby d13_4) rfl (by decide) ?_
    show Steps p.tables e below (T1.setTop (mkF m 7 #[.val (.ref va), .val (.ref vo), .unset] [])) _
    refine XS.aloadN X1.here hx rfl (hb hby d13_7) rfl rfl ?_
    show Steps p.tables e below (T1.setTop (mkF m 8 #[.val (.ref va), .val (.ref vo), .unset] [(.ref vo)])) _
    refine st2 _ ?_
    show Steps p.tables e below (T2.setTop (mkF m 11 #[.val (.ref va), .val (.ref vo), .unset] [(.ref vo)])) _
    refine XS.astoreN X2.here hx rfl (hb hby d13_11) rfl rfl (l' := #[.val (.ref va), .val (.ref vo), .val (.ref vo)]) rfl ?_
    show Steps p.tables e below (T2.setTop (mkF m 12 #[.val (.ref va), .val (.ref vo), .val (.ref vo)] [])) _
    refine XS.aloadN X2.here hx rfl (hb hby d13_12) rfl rfl ?_
    show Steps p.tables e below (T2.setTop (mkF m 13 #[.val (.ref va), .val (.ref vo), .val (.ref vo)] [(.ref va)])) _
    refine st3 _ ?_
    show Steps p.tables e below (T3.setTop (mkF m 16 #[.val (.ref va), .val (.ref vo), .val (.ref vo)] [(.ref op)])) _
    refine XS.aloadN X3.here hx rfl (hb hby d13_16) rfl rfl ?_
    show Steps p.tables e below (T3.setTop (mkF m 17 #[.val (.ref va), .val (.ref vo), .val (.ref vo)] [(.ref vo), (.ref op)])) _
    refine st4 _ ?_
    show Steps p.tables e below (T4.setTop (mkF m 20 #[.val (.ref va), .val (.ref vo), .val (.ref vo)] [(.ref og), (.ref op)])) _
    refine st5.trans ?_
    show Steps p.tables e below (T5.setTop (mkF m 23 #[.val (.ref va), .val (.ref vo), .val (.ref vo)] [(.int (own_same np cp dp ng cg dg))])) _
    exact k
  by_cases hc8 : (own_same np cp dp ng cg dg) = (0 : Int32)
  · obtain ⟨fs, hr, hrun, hended, hW, hsame⟩ := X5.leave (v := some (.int (0 : Int32))) (fun h => by rw [Bd.returns] at h; cases h)
    refine ⟨_, _, pre7 _ ?_, hrun, hended, _, _, rfl, ?_, ⟨_, rfl⟩, hW, hsame.mono (by decide) (by decide)⟩
    · show Steps p.tables e below (T5.setTop (mkF m 23 #[.val (.ref va), .val (.ref vo), .val (.ref vo)] [(.int (own_same np cp dp ng cg dg))])) _
      refine XS.ifYes X5.here hx rfl (pc0 := 23) (pc' := 66) rfl (hb hby d13_23) rfl ((if0 _ _).trans (teq hc8).1) (by decide) (by decide) ?_
      show Steps p.tables e below (T5.setTop (mkF m 66 #[.val (.ref va), .val (.ref vo), .val (.ref vo)] [])) _
      refine XS.iconst X5.here hx rfl (hb hby d13_66) ?_
      show Steps p.tables e below (T5.setTop (mkF m 67 #[.val (.ref va), .val (.ref vo), .val (.ref vo)] [(.int (0 : Int32))])) _
      exact retN X5 hx (t := .boolean) Bd.returns (by simp) (hb hby d13_67) hr
    · show Q_eqA Z va vo op bp kp np cp dp oq bq kq nq cq dq og bg kg ng cg dg os bs ks ns cs ds wa la wo lo vcs h0 n0 _ T5.heap _
      rw [hh5]
      exact ⟨by simp [own_eqv, hc8], Nf5, rfl⟩
  · obtain ⟨T9, X9, e9, st9⟩ := getF X5 hx hZ hown (host := "") (Or.inl (hw _ (List.mem_of_getElem? (i := 61) rfl))) Via.refl hh5 Fi_q (g := (mkF m 27 #[.val (.ref va), .val (.ref vo), .val (.ref vo)] [(.ref va)])) rfl rfl (hb hby d13_27)
    obtain ⟨T10, X10, e10, st10⟩ := getF X9 hx hZ hown (host := "") (Or.inl (hw _ (List.mem_of_getElem? (i := 61) rfl))) Via.refl e9 Fi_s (g := (mkF m 31 #[.val (.ref va), .val (.ref vo), .val (.ref vo)] [(.ref vo), (.ref oq)])) rfl rfl (hb hby d13_31)
    obtain ⟨cq12, kq12, q12a, q12b, q12c⟩ := isOf hZ e10 E_q
    obtain ⟨_, _, ⟨T11, L11, k11, n11⟩, -, X11, ⟨Lc11, hQ11, l11, y11, z11⟩, st11⟩ := X10.virtualBack hx (y := (⟨"java/lang/String", "equals", "(Ljava/lang/Object;)Z"⟩ : MethodName)) (z := (⟨"java/lang/String", "equals", "(Ljava/lang/Object;)Z"⟩ : MethodName)) hown (mvT hZ (hw _ (List.mem_of_getElem? (i := 77) rfl))) (mvT hZ (hw _ (List.mem_of_getElem? (i := 78) rfl))) (notFace_of_selects (args := #[]) (mvT hZ (hw _ (List.mem_of_getElem? (i := 80) rfl)))) (mvT hZ (hw _ (List.mem_of_getElem? (i := 80) rfl))) (mvT hZ (hw _ (List.mem_of_getElem? (i := 79) rfl))) (by decide) (backOf (W := 0) (rm_se l Z a0 hw [] oq os bq bs kq ks nq cq dq ns cs ds vcs h0 n0 Z0 E_q Fv_q Fc_q V_q E_s Fv_s Fc_s V_s nqs l_nq l_ns r_cq r_dq r_cs r_ds S_cs hcs) hZ (hw _ (List.mem_of_getElem? (i := 81) rfl)) (hw _ (List.mem_of_getElem? (i := 13) rfl)) (by decide) (by decide)) q12a q12c (g := (mkF m 34 #[.val (.ref va), .val (.ref vo), .val (.ref vo)] [(.ref os), (.ref oq)])) rfl (by rw [hml]; rfl) (Steps.refl _) (argsL := [(.ref os)]) (rest := []) (lenOf own_pd8 rfl) rfl (by show 2 * 0 + _ ≤ _; exact Nat.le_of_eq rfl) (hb hby d13_34) (fun _ _ => ⟨rfl, e10, (by decide : 0 + 0 ≤ _), (by decide : 0 + 0 ≤ _)⟩)
    dsimp only [Pt.U, Pt.locs, Pt.cells, Pt.slots] at X11 l11 y11 z11 st11 hQ11
    subst l11 y11 z11
    obtain ⟨rfl, Nq11, hh11⟩ := hQ11
    have Nf11 := Fr.app Nf5 Nq11
    have pre13 : ∀ t, Steps p.tables e below (T11.setTop (mkF m 37 #[.val (.ref va), .val (.ref vo), .val (.ref vo)] [(.int (own_same nq cq dq ns cs ds))])) t → Steps p.tables e below (s₁.setTop (entryFrame m #[(.ref va), (.ref vo)] 3)) t := by
      intro t k
      refine pre7 t ?_
      show Steps p.tables e below (T5.setTop (mkF m 23 #[.val (.ref va), .val (.ref vo), .val (.ref vo)] [(.int (own_same np cp dp ng cg dg))])) _
      refine XS.ifNo X5.here hx rfl (hb hby d13_23) rfl ((if0 _ _).trans (feq hc8).1) ?_
      show Steps p.tables e below (T5.setTop (mkF m 26 #[.val (.ref va), .val (.ref vo), .val (.ref vo)] [])) _
      refine XS.aloadN X5.here hx rfl (hb hby d13_26) rfl rfl ?_
      show Steps p.tables e below (T5.setTop (mkF m 27 #[.val (.ref va), .val (.ref vo), .val (.ref vo)] [(.ref va)])) _
      refine st9 _ ?_
      show Steps p.tables e below (T9.setTop (mkF m 30 #[.val (.ref va), .val (.ref vo), .val (.ref vo)] [(.ref oq)])) _
      refine XS.aloadN X9.here hx rfl (hb hby d13_30) rfl rfl ?_
      show Steps p.tables e below (T9.setTop (mkF m 31 #[.val (.ref va), .val (.ref vo), .val (.ref vo)] [(.ref vo), (.ref oq)])) _
      refine st10 _ ?_
      show Steps p.tables e below (T10.setTop (mkF m 34 #[.val (.ref va), .val (.ref vo), .val (.ref vo)] [(.ref os), (.ref oq)])) _
      refine st11.trans ?_
      show Steps p.tables e below (T11.setTop (mkF m 37 #[.val (.ref va), .val (.ref vo), .val (.ref vo)] [(.int (own_same nq cq dq ns cs ds))])) _
      exact k
    by_cases hc14 : (own_same nq cq dq ns cs ds) = (0 : Int32)
    · obtain ⟨fs, hr, hrun, hended, hW, hsame⟩ := X11.leave (v := some (.int (0 : Int32))) (fun h => by rw [Bd.returns] at h; cases h)
      refine ⟨_, _, pre13 _ ?_, hrun, hended, _, _, rfl, ?_, ⟨_, rfl⟩, hW, hsame.mono (by decide) (by decide)⟩
      · show Steps p.tables e below (T11.setTop (mkF m 37 #[.val (.ref va), .val (.ref vo), .val (.ref vo)] [(.int (own_same nq cq dq ns cs ds))])) _
        refine XS.ifYes X11.here hx rfl (pc0 := 37) (pc' := 66) rfl (hb hby d13_37) rfl ((if0 _ _).trans (teq hc14).1) (by decide) (by decide) ?_
        show Steps p.tables e below (T11.setTop (mkF m 66 #[.val (.ref va), .val (.ref vo), .val (.ref vo)] [])) _
        refine XS.iconst X11.here hx rfl (hb hby d13_66) ?_
        show Steps p.tables e below (T11.setTop (mkF m 67 #[.val (.ref va), .val (.ref vo), .val (.ref vo)] [(.int (0 : Int32))])) _
        exact retN X11 hx (t := .boolean) Bd.returns (by simp) (hb hby d13_67) hr
      · show Q_eqA Z va vo op bp kp np cp dp oq bq kq nq cq dq og bg kg ng cg dg os bs ks ns cs ds wa la wo lo vcs h0 n0 _ T11.heap _
        rw [hh11]
        exact ⟨by simp [own_eqv, hc8, hc14], Nf11, rfl⟩
    · obtain ⟨T15, X15, e15, st15⟩ := getF X11 hx hZ hown (host := "") (Or.inl (hw _ (List.mem_of_getElem? (i := 63) rfl))) Via.refl hh11 F_wa (g := (mkF m 41 #[.val (.ref va), .val (.ref vo), .val (.ref vo)] [(.ref va)])) rfl rfl (hb hby d13_41)
      obtain ⟨T16, X16, e16, st16⟩ := getF X15 hx hZ hown (host := "") (Or.inl (hw _ (List.mem_of_getElem? (i := 63) rfl))) Via.refl e15 F_wo (g := (mkF m 45 #[.val (.ref va), .val (.ref vo), .val (.ref vo)] [(.ref vo), (.int wa)])) rfl rfl (hb hby d13_45)
      have pre17 : ∀ t, Steps p.tables e below (T16.setTop (mkF m 48 #[.val (.ref va), .val (.ref vo), .val (.ref vo)] [(.int wo), (.int wa)])) t → Steps p.tables e below (s₁.setTop (entryFrame m #[(.ref va), (.ref vo)] 3)) t := by
        intro t k
        refine pre13 t ?_
        show Steps p.tables e below (T11.setTop (mkF m 37 #[.val (.ref va), .val (.ref vo), .val (.ref vo)] [(.int (own_same nq cq dq ns cs ds))])) _
        refine XS.ifNo X11.here hx rfl (hb hby d13_37) rfl ((if0 _ _).trans (feq hc14).1) ?_
        show Steps p.tables e below (T11.setTop (mkF m 40 #[.val (.ref va), .val (.ref vo), .val (.ref vo)] [])) _
        refine XS.aloadN X11.here hx rfl (hb hby d13_40) rfl rfl ?_
        show Steps p.tables e below (T11.setTop (mkF m 41 #[.val (.ref va), .val (.ref vo), .val (.ref vo)] [(.ref va)])) _
        refine st15 _ ?_
        show Steps p.tables e below (T15.setTop (mkF m 44 #[.val (.ref va), .val (.ref vo), .val (.ref vo)] [(.int wa)])) _
        refine XS.aloadN X15.here hx rfl (hb hby d13_44) rfl rfl ?_
        show Steps p.tables e below (T15.setTop (mkF m 45 #[.val (.ref va), .val (.ref vo), .val (.ref vo)] [(.ref vo), (.int wa)])) _
        refine st16 _ ?_
        show Steps p.tables e below (T16.setTop (mkF m 48 #[.val (.ref va), .val (.ref vo), .val (.ref vo)] [(.int wo), (.int wa)])) _
        exact k
      by_cases hc18 : wa = wo
      · obtain ⟨T19, X19, e19, st19⟩ := getF X16 hx hZ hown (host := "") (Or.inl (hw _ (List.mem_of_getElem? (i := 65) rfl))) Via.refl e16 F_la (g := (mkF m 52 #[.val (.ref va), .val (.ref vo), .val (.ref vo)] [(.ref va)])) rfl rfl (hb hby d13_52)
        obtain ⟨T20, X20, e20, st20⟩ := getF X19 hx hZ hown (host := "") (Or.inl (hw _ (List.mem_of_getElem? (i := 65) rfl))) Via.refl e19 F_lo (g := (mkF m 56 #[.val (.ref va), .val (.ref vo), .val (.ref vo)] [(.ref vo), (.int la)])) rfl rfl (hb hby d13_56)
        have pre21 : ∀ t, Steps p.tables e below (T20.setTop (mkF m 59 #[.val (.ref va), .val (.ref vo), .val (.ref vo)] [(.int lo), (.int la)])) t → Steps p.tables e below (s₁.setTop (entryFrame m #[(.ref va), (.ref vo)] 3)) t := by
          intro t k
          refine pre17 t ?_
          show Steps p.tables e below (T16.setTop (mkF m 48 #[.val (.ref va), .val (.ref vo), .val (.ref vo)] [(.int wo), (.int wa)])) _
          refine XS.icmpNo X16.here hx rfl (hb hby d13_48) rfl (teq hc18).2 ?_
          show Steps p.tables e below (T16.setTop (mkF m 51 #[.val (.ref va), .val (.ref vo), .val (.ref vo)] [])) _
          refine XS.aloadN X16.here hx rfl (hb hby d13_51) rfl rfl ?_
          show Steps p.tables e below (T16.setTop (mkF m 52 #[.val (.ref va), .val (.ref vo), .val (.ref vo)] [(.ref va)])) _
          refine st19 _ ?_
          show Steps p.tables e below (T19.setTop (mkF m 55 #[.val (.ref va), .val (.ref vo), .val (.ref vo)] [(.int la)])) _
          refine XS.aloadN X19.here hx rfl (hb hby d13_55) rfl rfl ?_
          show Steps p.tables e below (T19.setTop (mkF m 56 #[.val (.ref va), .val (.ref vo), .val (.ref vo)] [(.ref vo), (.int la)])) _
          refine st20 _ ?_
          show Steps p.tables e below (T20.setTop (mkF m 59 #[.val (.ref va), .val (.ref vo), .val (.ref vo)] [(.int lo), (.int la)])) _
          exact k
        by_cases hc22 : la = lo
        · obtain ⟨fs, hr, hrun, hended, hW, hsame⟩ := X20.leave (v := some (.int (1 : Int32))) (fun h => by rw [Bd.returns] at h; cases h)
          refine ⟨_, _, pre21 _ ?_, hrun, hended, _, _, rfl, ?_, ⟨_, rfl⟩, hW, hsame.mono (by decide) (by decide)⟩
          · show Steps p.tables e below (T20.setTop (mkF m 59 #[.val (.ref va), .val (.ref vo), .val (.ref vo)] [(.int lo), (.int la)])) _
            refine XS.icmpNo X20.here hx rfl (hb hby d13_59) rfl (teq hc22).2 ?_
            show Steps p.tables e below (T20.setTop (mkF m 62 #[.val (.ref va), .val (.ref vo), .val (.ref vo)] [])) _
            refine XS.iconst X20.here hx rfl (hb hby d13_62) ?_
            show Steps p.tables e below (T20.setTop (mkF m 63 #[.val (.ref va), .val (.ref vo), .val (.ref vo)] [(.int (1 : Int32))])) _
            refine XS.goto X20.here hx rfl (pc0 := 63) (pc' := 67) rfl (hb hby d13_63) (by decide) (by decide) ?_
            show Steps p.tables e below (T20.setTop (mkF m 67 #[.val (.ref va), .val (.ref vo), .val (.ref vo)] [(.int (1 : Int32))])) _
            exact retN X20 hx (t := .boolean) Bd.returns (by simp) (hb hby d13_67) hr
          · show Q_eqA Z va vo op bp kp np cp dp oq bq kq nq cq dq og bg kg ng cg dg os bs ks ns cs ds wa la wo lo vcs h0 n0 _ T20.heap _
            rw [e20]
            exact ⟨by simp [own_eqv, hc8, hc14, hc18, hc22], Nf11, rfl⟩
        · obtain ⟨fs, hr, hrun, hended, hW, hsame⟩ := X20.leave (v := some (.int (0 : Int32))) (fun h => by rw [Bd.returns] at h; cases h)
          refine ⟨_, _, pre21 _ ?_, hrun, hended, _, _, rfl, ?_, ⟨_, rfl⟩, hW, hsame.mono (by decide) (by decide)⟩
          · show Steps p.tables e below (T20.setTop (mkF m 59 #[.val (.ref va), .val (.ref vo), .val (.ref vo)] [(.int lo), (.int la)])) _
            refine XS.icmpYes X20.here hx rfl (pc0 := 59) (pc' := 66) rfl (hb hby d13_59) rfl (feq hc22).2 (by decide) (by decide) ?_
            show Steps p.tables e below (T20.setTop (mkF m 66 #[.val (.ref va), .val (.ref vo), .val (.ref vo)] [])) _
            refine XS.iconst X20.here hx rfl (hb hby d13_66) ?_
            show Steps p.tables e below (T20.setTop (mkF m 67 #[.val (.ref va), .val (.ref vo), .val (.ref vo)] [(.int (0 : Int32))])) _
            exact retN X20 hx (t := .boolean) Bd.returns (by simp) (hb hby d13_67) hr
          · show Q_eqA Z va vo op bp kp np cp dp oq bq kq nq cq dq og bg kg ng cg dg os bs ks ns cs ds wa la wo lo vcs h0 n0 _ T20.heap _
            rw [e20]
            exact ⟨by simp [own_eqv, hc8, hc14, hc18, hc22], Nf11, rfl⟩
      · obtain ⟨fs, hr, hrun, hended, hW, hsame⟩ := X16.leave (v := some (.int (0 : Int32))) (fun h => by rw [Bd.returns] at h; cases h)
        refine ⟨_, _, pre17 _ ?_, hrun, hended, _, _, rfl, ?_, ⟨_, rfl⟩, hW, hsame.mono (by decide) (by decide)⟩
        · show Steps p.tables e below (T16.setTop (mkF m 48 #[.val (.ref va), .val (.ref vo), .val (.ref vo)] [(.int wo), (.int wa)])) _
          refine XS.icmpYes X16.here hx rfl (pc0 := 48) (pc' := 66) rfl (hb hby d13_48) rfl (feq hc18).2 (by decide) (by decide) ?_
          show Steps p.tables e below (T16.setTop (mkF m 66 #[.val (.ref va), .val (.ref vo), .val (.ref vo)] [])) _
          refine XS.iconst X16.here hx rfl (hb hby d13_66) ?_
          show Steps p.tables e below (T16.setTop (mkF m 67 #[.val (.ref va), .val (.ref vo), .val (.ref vo)] [(.int (0 : Int32))])) _
          exact retN X16 hx (t := .boolean) Bd.returns (by simp) (hb hby d13_67) hr
        · show Q_eqA Z va vo op bp kp np cp dp oq bq kq nq cq dq og bg kg ng cg dg os bs ks ns cs ds wa la wo lo vcs h0 n0 _ T16.heap _
          rw [e16]
          exact ⟨by simp [own_eqv, hc8, hc14, hc18], Nf11, rfl⟩
theorem pn_rm0 : plainName "com/example/netmark/netmark/rules/NettingAgreementEqualsPinLaw" = true := by first | (simp [plainName, overriddenIn]; done) | decide +kernel
theorem ef_rm0 (m : MethodId) (va : Int32) (vb : Int32) (vc : Int32) (vd : Int32) (ve : Int32) : entryFrame m #[(.int va), (.int vb), (.int vc), (.int vd), (.int ve)] maxLocals = mkF m 0 #[.val (.int va), .val (.int vb), .val (.int vc), .val (.int vd), .val (.int ve), .unset, .unset, .unset, .unset, .unset, .unset, .unset, .unset, .unset, .unset, .unset, .unset, .unset, .unset, .unset, .unset, .unset, .unset, .unset, .unset, .unset, .unset] [] := by first | (simp [entryFrame, mkF, argsToLocals, Value.category, maxLocals]; done) | rfl
def Q0 (Z : State) (va : Int32) (vb : Int32) (vc : Int32) (vd : Int32) (ve : Int32) (vcs : Int32) (h0 : Heap) (n0 : Nat) (v : Option Value) (h : Heap) (L : List Loc) : Prop := v = some (.int 1) ∧ Fr n0 L
set_option maxRecDepth 65536 in
set_option maxHeartbeats 40000000 in
theorem rm0 (l : Launch) (Z : State) (a0 : Array Value) (hw : ∀ d ∈ tables_1, d.before a0 Z = true) (ws : List Jvm.Cond) (va : Int32) (vb : Int32) (vc : Int32) (vd : Int32) (ve : Int32) (vcs : Int32) (h0 : Heap) (n0 : Nat) (Z0 : n0 ≤ h0.size) (S_cs : Sta Z h0 "java/lang/String" "COMPACT_STRINGS" "Z" (.int vcs)) (hcs : ¬ vcs = 0) :
    MetFree l x (head1 (Jvm.Cond.code x code maxLocals ret :: ws) room_1) (fun a U => a = #[(.int va), (.int vb), (.int vc), (.int vd), (.int ve)] ∧ Z.Warmed39 U.vm ∧ U.heap = h0 ∧ CHv Z own_EL U.vm h0) (fun _ _ _ _ _ => True) (fun _ U o U' => ∃ v L, o = .returned v ∧ Q0 Z va vb vc vd ve vcs h0 n0 v U'.heap L ∧ CHr Z own_EL U.vm U.heap U'.vm U'.heap ∧ ReturnedEndW U o U' L room_1.cells room_1.slots) := by
  refine MetFree.of_bodySF (plainFor_of_name pn_rm0) hisR ?_
  intro p e s m args below meth c s₁ Bd hml0 hP hK
  obtain ⟨rfl, hZ, hh, CH0⟩ := hP
  have CC0 := CHr.refl CH0
  have hx := Bd.exec
  have hby := Bd.bytes
  have hml : c.maxLocals = 27 := hml0
  have hown : s.vm.findClass "com/example/netmark/netmark/rules/NettingAgreementEqualsPinLaw" = some m.cls := findClass_of_methodNamed Bd.named
  have hZo := hZ
  have howno := hown
  have hnm := (name_of_methodNamed Bd.named Bd.method).1
  have X0 : Stand p l e room_1 s m #[(.int va), (.int vb), (.int vc), (.int vd), (.int ve)] below meth c s₁ [] 0 0 := Stand.of_body Bd
  have e0 : s₁.heap = h0 := by rw [← hh, Bd.state]; rfl
  have N0 := Fr.nil n0
  have pre0 : ∀ t, Steps p.tables e below (s₁.setTop (mkF m 0 #[.val (.int va), .val (.int vb), .val (.int vc), .val (.int vd), .val (.int ve), .unset, .unset, .unset, .unset, .unset, .unset, .unset, .unset, .unset, .unset, .unset, .unset, .unset, .unset, .unset, .unset, .unset, .unset, .unset, .unset, .unset, .unset] [])) t → Steps p.tables e below (s₁.setTop (entryFrame m #[(.int va), (.int vb), (.int vc), (.int vd), (.int ve)] maxLocals)) t := fun t k => castTop (ef_rm0 m va vb vc vd ve) k
  have pre1 : ∀ t, Steps p.tables e below (s₁.setTop (mkF m 10 #[.val (.int va), .val (.int vb), .val (.int vc), .val (.int vd), .val (.int ve), .val (.int ((1 : Int32) + (((va.toUInt32 >>> ((16 : Int32) &&& 31).toUInt32).toInt32) &&& (1 : Int32)))), .unset, .unset, .unset, .unset, .unset, .unset, .unset, .unset, .unset, .unset, .unset, .unset, .unset, .unset, .unset, .unset, .unset, .unset, .unset, .unset, .unset] [])) t → Steps p.tables e below (s₁.setTop (entryFrame m #[(.int va), (.int vb), (.int vc), (.int vd), (.int ve)] maxLocals)) t := by
    intro t k
    refine pre0 t ?_
    show Steps p.tables e below (s₁.setTop (mkF m 0 #[.val (.int va), .val (.int vb), .val (.int vc), .val (.int vd), .val (.int ve), .unset, .unset, .unset, .unset, .unset, .unset, .unset, .unset, .unset, .unset, .unset, .unset, .unset, .unset, .unset, .unset, .unset, .unset, .unset, .unset, .unset, .unset] [])) _
    refine XS.iconst X0.here hx rfl (hb hby at_0) ?_
    show Steps p.tables e below (s₁.setTop (mkF m 1 #[.val (.int va), .val (.int vb), .val (.int vc), .val (.int vd), .val (.int ve), .unset, .unset, .unset, .unset, .unset, .unset, .unset, .unset, .unset, .unset, .unset, .unset, .unset, .unset, .unset, .unset, .unset, .unset, .unset, .unset, .unset, .unset] [(.int (1 : Int32))])) _
    refine XS.iloadN X0.here hx rfl (hb hby at_1) rfl ?_
    show Steps p.tables e below (s₁.setTop (mkF m 2 #[.val (.int va), .val (.int vb), .val (.int vc), .val (.int vd), .val (.int ve), .unset, .unset, .unset, .unset, .unset, .unset, .unset, .unset, .unset, .unset, .unset, .unset, .unset, .unset, .unset, .unset, .unset, .unset, .unset, .unset, .unset, .unset] [(.int va), (.int (1 : Int32))])) _
    refine XS.bipush X0.here hx rfl (hb hby at_2) ?_
    show Steps p.tables e below (s₁.setTop (mkF m 4 #[.val (.int va), .val (.int vb), .val (.int vc), .val (.int vd), .val (.int ve), .unset, .unset, .unset, .unset, .unset, .unset, .unset, .unset, .unset, .unset, .unset, .unset, .unset, .unset, .unset, .unset, .unset, .unset, .unset, .unset, .unset, .unset] [(.int (16 : Int32)), (.int va), (.int (1 : Int32))])) _
    refine XS.iushr X0.here hx rfl (hb hby at_4) rfl ?_
    show Steps p.tables e below (s₁.setTop (mkF m 5 #[.val (.int va), .val (.int vb), .val (.int vc), .val (.int vd), .val (.int ve), .unset, .unset, .unset, .unset, .unset, .unset, .unset, .unset, .unset, .unset, .unset, .unset, .unset, .unset, .unset, .unset, .unset, .unset, .unset, .unset, .unset, .unset] [(.int ((va.toUInt32 >>> ((16 : Int32) &&& 31).toUInt32).toInt32)), (.int (1 : Int32))])) _
    refine XS.iconst X0.here hx rfl (hb hby at_5) ?_
    show Steps p.tables e below (s₁.setTop (mkF m 6 #[.val (.int va), .val (.int vb), .val (.int vc), .val (.int vd), .val (.int ve), .unset, .unset, .unset, .unset, .unset, .unset, .unset, .unset, .unset, .unset, .unset, .unset, .unset, .unset, .unset, .unset, .unset, .unset, .unset, .unset, .unset, .unset] [(.int (1 : Int32)), (.int ((va.toUInt32 >>> ((16 : Int32) &&& 31).toUInt32).toInt32)), (.int (1 : Int32))])) _
    refine XS.iand X0.here hx rfl (hb hby at_6) rfl ?_
    show Steps p.tables e below (s₁.setTop (mkF m 7 #[.val (.int va), .val (.int vb), .val (.int vc), .val (.int vd), .val (.int ve), .unset, .unset, .unset, .unset, .unset, .unset, .unset, .unset, .unset, .unset, .unset, .unset, .unset, .unset, .unset, .unset, .unset, .unset, .unset, .unset, .unset, .unset] [(.int (((va.toUInt32 >>> ((16 : Int32) &&& 31).toUInt32).toInt32) &&& (1 : Int32))), (.int (1 : Int32))])) _
    refine XS.iadd X0.here hx rfl (hb hby at_7) rfl ?_
    show Steps p.tables e below (s₁.setTop (mkF m 8 #[.val (.int va), .val (.int vb), .val (.int vc), .val (.int vd), .val (.int ve), .unset, .unset, .unset, .unset, .unset, .unset, .unset, .unset, .unset, .unset, .unset, .unset, .unset, .unset, .unset, .unset, .unset, .unset, .unset, .unset, .unset, .unset] [(.int ((1 : Int32) + (((va.toUInt32 >>> ((16 : Int32) &&& 31).toUInt32).toInt32) &&& (1 : Int32))))])) _
    refine XS.istore X0.here hx rfl (hb hby at_8) rfl (l' := #[.val (.int va), .val (.int vb), .val (.int vc), .val (.int vd), .val (.int ve), .val (.int ((1 : Int32) + (((va.toUInt32 >>> ((16 : Int32) &&& 31).toUInt32).toInt32) &&& (1 : Int32)))), .unset, .unset, .unset, .unset, .unset, .unset, .unset, .unset, .unset, .unset, .unset, .unset, .unset, .unset, .unset, .unset, .unset, .unset, .unset, .unset, .unset]) rfl ?_
    show Steps p.tables e below (s₁.setTop (mkF m 10 #[.val (.int va), .val (.int vb), .val (.int vc), .val (.int vd), .val (.int ve), .val (.int ((1 : Int32) + (((va.toUInt32 >>> ((16 : Int32) &&& 31).toUInt32).toInt32) &&& (1 : Int32)))), .unset, .unset, .unset, .unset, .unset, .unset, .unset, .unset, .unset, .unset, .unset, .unset, .unset, .unset, .unset, .unset, .unset, .unset, .unset, .unset, .unset] [])) _
    exact k
  obtain ⟨nA, h_nA⟩ : ∃ z : Int32, z = ((1 : Int32) + (((va.toUInt32 >>> ((16 : Int32) &&& 31).toUInt32).toInt32) &&& (1 : Int32))) := ⟨_, rfl⟩
  have pre2 : ∀ t, Steps p.tables e below (s₁.setTop (mkF m 10 #[.val (.int va), .val (.int vb), .val (.int vc), .val (.int vd), .val (.int ve), .val (.int nA), .unset, .unset, .unset, .unset, .unset, .unset, .unset, .unset, .unset, .unset, .unset, .unset, .unset, .unset, .unset, .unset, .unset, .unset, .unset, .unset, .unset] [])) t → Steps p.tables e below (s₁.setTop (entryFrame m #[(.int va), (.int vb), (.int vc), (.int vd), (.int ve)] maxLocals)) t := by
    subst h_nA
    exact pre1
  have l_nA := (own_len12 h_nA).1
  have p_nA := (own_len12 h_nA).2
  have pre3 : ∀ t, Steps p.tables e below (s₁.setTop (mkF m 18 #[.val (.int va), .val (.int vb), .val (.int vc), .val (.int vd), .val (.int ve), .val (.int nA), .val (.int ((va &&& (255 : Int32)).toUInt32.toUInt16.toUInt32.toInt32)), .unset, .unset, .unset, .unset, .unset, .unset, .unset, .unset, .unset, .unset, .unset, .unset, .unset, .unset, .unset, .unset, .unset, .unset, .unset, .unset] [])) t → Steps p.tables e below (s₁.setTop (entryFrame m #[(.int va), (.int vb), (.int vc), (.int vd), (.int ve)] maxLocals)) t := by
    intro t k
    refine pre2 t ?_
    show Steps p.tables e below (s₁.setTop (mkF m 10 #[.val (.int va), .val (.int vb), .val (.int vc), .val (.int vd), .val (.int ve), .val (.int nA), .unset, .unset, .unset, .unset, .unset, .unset, .unset, .unset, .unset, .unset, .unset, .unset, .unset, .unset, .unset, .unset, .unset, .unset, .unset, .unset, .unset] [])) _
    refine XS.iloadN X0.here hx rfl (hb hby at_10) rfl ?_
    show Steps p.tables e below (s₁.setTop (mkF m 11 #[.val (.int va), .val (.int vb), .val (.int vc), .val (.int vd), .val (.int ve), .val (.int nA), .unset, .unset, .unset, .unset, .unset, .unset, .unset, .unset, .unset, .unset, .unset, .unset, .unset, .unset, .unset, .unset, .unset, .unset, .unset, .unset, .unset] [(.int va)])) _
    refine XS.sipush X0.here hx rfl (hb hby at_11) ?_
    show Steps p.tables e below (s₁.setTop (mkF m 14 #[.val (.int va), .val (.int vb), .val (.int vc), .val (.int vd), .val (.int ve), .val (.int nA), .unset, .unset, .unset, .unset, .unset, .unset, .unset, .unset, .unset, .unset, .unset, .unset, .unset, .unset, .unset, .unset, .unset, .unset, .unset, .unset, .unset] [(.int (255 : Int32)), (.int va)])) _
    refine XS.iand X0.here hx rfl (hb hby at_14) rfl ?_
    show Steps p.tables e below (s₁.setTop (mkF m 15 #[.val (.int va), .val (.int vb), .val (.int vc), .val (.int vd), .val (.int ve), .val (.int nA), .unset, .unset, .unset, .unset, .unset, .unset, .unset, .unset, .unset, .unset, .unset, .unset, .unset, .unset, .unset, .unset, .unset, .unset, .unset, .unset, .unset] [(.int (va &&& (255 : Int32)))])) _
    refine XS.i2c X0.here hx rfl (hb hby at_15) rfl ?_
    show Steps p.tables e below (s₁.setTop (mkF m 16 #[.val (.int va), .val (.int vb), .val (.int vc), .val (.int vd), .val (.int ve), .val (.int nA), .unset, .unset, .unset, .unset, .unset, .unset, .unset, .unset, .unset, .unset, .unset, .unset, .unset, .unset, .unset, .unset, .unset, .unset, .unset, .unset, .unset] [(.int ((va &&& (255 : Int32)).toUInt32.toUInt16.toUInt32.toInt32))])) _
    refine XS.istore X0.here hx rfl (hb hby at_16) rfl (l' := #[.val (.int va), .val (.int vb), .val (.int vc), .val (.int vd), .val (.int ve), .val (.int nA), .val (.int ((va &&& (255 : Int32)).toUInt32.toUInt16.toUInt32.toInt32)), .unset, .unset, .unset, .unset, .unset, .unset, .unset, .unset, .unset, .unset, .unset, .unset, .unset, .unset, .unset, .unset, .unset, .unset, .unset, .unset]) rfl ?_
    show Steps p.tables e below (s₁.setTop (mkF m 18 #[.val (.int va), .val (.int vb), .val (.int vc), .val (.int vd), .val (.int ve), .val (.int nA), .val (.int ((va &&& (255 : Int32)).toUInt32.toUInt16.toUInt32.toInt32)), .unset, .unset, .unset, .unset, .unset, .unset, .unset, .unset, .unset, .unset, .unset, .unset, .unset, .unset, .unset, .unset, .unset, .unset, .unset, .unset] [])) _
    exact k
  obtain ⟨cA, h_cA⟩ : ∃ z : Int32, z = ((va &&& (255 : Int32)).toUInt32.toUInt16.toUInt32.toInt32) := ⟨_, rfl⟩
  have pre4 : ∀ t, Steps p.tables e below (s₁.setTop (mkF m 18 #[.val (.int va), .val (.int vb), .val (.int vc), .val (.int vd), .val (.int ve), .val (.int nA), .val (.int cA), .unset, .unset, .unset, .unset, .unset, .unset, .unset, .unset, .unset, .unset, .unset, .unset, .unset, .unset, .unset, .unset, .unset, .unset, .unset, .unset] [])) t → Steps p.tables e below (s₁.setTop (entryFrame m #[(.int va), (.int vb), (.int vc), (.int vd), (.int ve)] maxLocals)) t := by
    subst h_cA
    exact pre3
  have r_cA := own_rc h_cA
  have pre5 : ∀ t, Steps p.tables e below (s₁.setTop (mkF m 29 #[.val (.int va), .val (.int vb), .val (.int vc), .val (.int vd), .val (.int ve), .val (.int nA), .val (.int cA), .val (.int ((((va.toUInt32 >>> ((8 : Int32) &&& 31).toUInt32).toInt32) &&& (255 : Int32)).toUInt32.toUInt16.toUInt32.toInt32)), .unset, .unset, .unset, .unset, .unset, .unset, .unset, .unset, .unset, .unset, .unset, .unset, .unset, .unset, .unset, .unset, .unset, .unset, .unset] [])) t → Steps p.tables e below (s₁.setTop (entryFrame m #[(.int va), (.int vb), (.int vc), (.int vd), (.int ve)] maxLocals)) t := by
    intro t k
    refine pre4 t ?_
    show Steps p.tables e below (s₁.setTop (mkF m 18 #[.val (.int va), .val (.int vb), .val (.int vc), .val (.int vd), .val (.int ve), .val (.int nA), .val (.int cA), .unset, .unset, .unset, .unset, .unset, .unset, .unset, .unset, .unset, .unset, .unset, .unset, .unset, .unset, .unset, .unset, .unset, .unset, .unset, .unset] [])) _
    refine XS.iloadN X0.here hx rfl (hb hby at_18) rfl ?_
    show Steps p.tables e below (s₁.setTop (mkF m 19 #[.val (.int va), .val (.int vb), .val (.int vc), .val (.int vd), .val (.int ve), .val (.int nA), .val (.int cA), .unset, .unset, .unset, .unset, .unset, .unset, .unset, .unset, .unset, .unset, .unset, .unset, .unset, .unset, .unset, .unset, .unset, .unset, .unset, .unset] [(.int va)])) _
    refine XS.bipush X0.here hx rfl (hb hby at_19) ?_
    show Steps p.tables e below (s₁.setTop (mkF m 21 #[.val (.int va), .val (.int vb), .val (.int vc), .val (.int vd), .val (.int ve), .val (.int nA), .val (.int cA), .unset, .unset, .unset, .unset, .unset, .unset, .unset, .unset, .unset, .unset, .unset, .unset, .unset, .unset, .unset, .unset, .unset, .unset, .unset, .unset] [(.int (8 : Int32)), (.int va)])) _
    refine XS.iushr X0.here hx rfl (hb hby at_21) rfl ?_
    show Steps p.tables e below (s₁.setTop (mkF m 22 #[.val (.int va), .val (.int vb), .val (.int vc), .val (.int vd), .val (.int ve), .val (.int nA), .val (.int cA), .unset, .unset, .unset, .unset, .unset, .unset, .unset, .unset, .unset, .unset, .unset, .unset, .unset, .unset, .unset, .unset, .unset, .unset, .unset, .unset] [(.int ((va.toUInt32 >>> ((8 : Int32) &&& 31).toUInt32).toInt32))])) _
    refine XS.sipush X0.here hx rfl (hb hby at_22) ?_
    show Steps p.tables e below (s₁.setTop (mkF m 25 #[.val (.int va), .val (.int vb), .val (.int vc), .val (.int vd), .val (.int ve), .val (.int nA), .val (.int cA), .unset, .unset, .unset, .unset, .unset, .unset, .unset, .unset, .unset, .unset, .unset, .unset, .unset, .unset, .unset, .unset, .unset, .unset, .unset, .unset] [(.int (255 : Int32)), (.int ((va.toUInt32 >>> ((8 : Int32) &&& 31).toUInt32).toInt32))])) _
    refine XS.iand X0.here hx rfl (hb hby at_25) rfl ?_
    show Steps p.tables e below (s₁.setTop (mkF m 26 #[.val (.int va), .val (.int vb), .val (.int vc), .val (.int vd), .val (.int ve), .val (.int nA), .val (.int cA), .unset, .unset, .unset, .unset, .unset, .unset, .unset, .unset, .unset, .unset, .unset, .unset, .unset, .unset, .unset, .unset, .unset, .unset, .unset, .unset] [(.int (((va.toUInt32 >>> ((8 : Int32) &&& 31).toUInt32).toInt32) &&& (255 : Int32)))])) _
    refine XS.i2c X0.here hx rfl (hb hby at_26) rfl ?_
    show Steps p.tables e below (s₁.setTop (mkF m 27 #[.val (.int va), .val (.int vb), .val (.int vc), .val (.int vd), .val (.int ve), .val (.int nA), .val (.int cA), .unset, .unset, .unset, .unset, .unset, .unset, .unset, .unset, .unset, .unset, .unset, .unset, .unset, .unset, .unset, .unset, .unset, .unset, .unset, .unset] [(.int ((((va.toUInt32 >>> ((8 : Int32) &&& 31).toUInt32).toInt32) &&& (255 : Int32)).toUInt32.toUInt16.toUInt32.toInt32))])) _
    refine XS.istore X0.here hx rfl (hb hby at_27) rfl (l' := #[.val (.int va), .val (.int vb), .val (.int vc), .val (.int vd), .val (.int ve), .val (.int nA), .val (.int cA), .val (.int ((((va.toUInt32 >>> ((8 : Int32) &&& 31).toUInt32).toInt32) &&& (255 : Int32)).toUInt32.toUInt16.toUInt32.toInt32)), .unset, .unset, .unset, .unset, .unset, .unset, .unset, .unset, .unset, .unset, .unset, .unset, .unset, .unset, .unset, .unset, .unset, .unset, .unset]) rfl ?_
    show Steps p.tables e below (s₁.setTop (mkF m 29 #[.val (.int va), .val (.int vb), .val (.int vc), .val (.int vd), .val (.int ve), .val (.int nA), .val (.int cA), .val (.int ((((va.toUInt32 >>> ((8 : Int32) &&& 31).toUInt32).toInt32) &&& (255 : Int32)).toUInt32.toUInt16.toUInt32.toInt32)), .unset, .unset, .unset, .unset, .unset, .unset, .unset, .unset, .unset, .unset, .unset, .unset, .unset, .unset, .unset, .unset, .unset, .unset, .unset] [])) _
    exact k
  obtain ⟨dA, h_dA⟩ : ∃ z : Int32, z = ((((va.toUInt32 >>> ((8 : Int32) &&& 31).toUInt32).toInt32) &&& (255 : Int32)).toUInt32.toUInt16.toUInt32.toInt32) := ⟨_, rfl⟩
  have pre6 : ∀ t, Steps p.tables e below (s₁.setTop (mkF m 29 #[.val (.int va), .val (.int vb), .val (.int vc), .val (.int vd), .val (.int ve), .val (.int nA), .val (.int cA), .val (.int dA), .unset, .unset, .unset, .unset, .unset, .unset, .unset, .unset, .unset, .unset, .unset, .unset, .unset, .unset, .unset, .unset, .unset, .unset, .unset] [])) t → Steps p.tables e below (s₁.setTop (entryFrame m #[(.int va), (.int vb), (.int vc), (.int vd), (.int ve)] maxLocals)) t := by
    subst h_dA
    exact pre5
  have r_dA := own_rc h_dA
  obtain ⟨wA, T7, lo7, X7, Nj7, ej7, hj7, pre7⟩ : ∃ (wA : Int32) (T' : State) (lo : List Loc), Stand p l e room_1 s m #[(.int va), (.int vb), (.int vc), (.int vd), (.int ve)] below meth c T' lo 0 0 ∧ Fr n0 lo ∧ T'.heap = h0 ∧ (wA = 0 ∨ wA = 1) ∧ ∀ t, Steps p.tables e below (T'.setTop (mkF m 43 #[.val (.int va), .val (.int vb), .val (.int vc), .val (.int vd), .val (.int ve), .val (.int nA), .val (.int cA), .val (.int dA), .unset, .unset, .unset, .unset, .unset, .unset, .unset, .unset, .unset, .unset, .unset, .unset, .unset, .unset, .unset, .unset, .unset, .unset, .unset] [(.int wA)])) t → Steps p.tables e below (s₁.setTop (entryFrame m #[(.int va), (.int vb), (.int vc), (.int vd), (.int ve)] maxLocals)) t := by
    have pre8 : ∀ t, Steps p.tables e below (s₁.setTop (mkF m 35 #[.val (.int va), .val (.int vb), .val (.int vc), .val (.int vd), .val (.int ve), .val (.int nA), .val (.int cA), .val (.int dA), .unset, .unset, .unset, .unset, .unset, .unset, .unset, .unset, .unset, .unset, .unset, .unset, .unset, .unset, .unset, .unset, .unset, .unset, .unset] [(.int (((va.toUInt32 >>> ((17 : Int32) &&& 31).toUInt32).toInt32) &&& (1 : Int32)))])) t → Steps p.tables e below (s₁.setTop (entryFrame m #[(.int va), (.int vb), (.int vc), (.int vd), (.int ve)] maxLocals)) t := by
      intro t k
      refine pre6 t ?_
      show Steps p.tables e below (s₁.setTop (mkF m 29 #[.val (.int va), .val (.int vb), .val (.int vc), .val (.int vd), .val (.int ve), .val (.int nA), .val (.int cA), .val (.int dA), .unset, .unset, .unset, .unset, .unset, .unset, .unset, .unset, .unset, .unset, .unset, .unset, .unset, .unset, .unset, .unset, .unset, .unset, .unset] [])) _
      refine XS.iloadN X0.here hx rfl (hb hby at_29) rfl ?_
      show Steps p.tables e below (s₁.setTop (mkF m 30 #[.val (.int va), .val (.int vb), .val (.int vc), .val (.int vd), .val (.int ve), .val (.int nA), .val (.int cA), .val (.int dA), .unset, .unset, .unset, .unset, .unset, .unset, .unset, .unset, .unset, .unset, .unset, .unset, .unset, .unset, .unset, .unset, .unset, .unset, .unset] [(.int va)])) _
      refine XS.bipush X0.here hx rfl (hb hby at_30) ?_
      show Steps p.tables e below (s₁.setTop (mkF m 32 #[.val (.int va), .val (.int vb), .val (.int vc), .val (.int vd), .val (.int ve), .val (.int nA), .val (.int cA), .val (.int dA), .unset, .unset, .unset, .unset, .unset, .unset, .unset, .unset, .unset, .unset, .unset, .unset, .unset, .unset, .unset, .unset, .unset, .unset, .unset] [(.int (17 : Int32)), (.int va)])) _
      refine XS.iushr X0.here hx rfl (hb hby at_32) rfl ?_
      show Steps p.tables e below (s₁.setTop (mkF m 33 #[.val (.int va), .val (.int vb), .val (.int vc), .val (.int vd), .val (.int ve), .val (.int nA), .val (.int cA), .val (.int dA), .unset, .unset, .unset, .unset, .unset, .unset, .unset, .unset, .unset, .unset, .unset, .unset, .unset, .unset, .unset, .unset, .unset, .unset, .unset] [(.int ((va.toUInt32 >>> ((17 : Int32) &&& 31).toUInt32).toInt32))])) _
      refine XS.iconst X0.here hx rfl (hb hby at_33) ?_
      show Steps p.tables e below (s₁.setTop (mkF m 34 #[.val (.int va), .val (.int vb), .val (.int vc), .val (.int vd), .val (.int ve), .val (.int nA), .val (.int cA), .val (.int dA), .unset, .unset, .unset, .unset, .unset, .unset, .unset, .unset, .unset, .unset, .unset, .unset, .unset, .unset, .unset, .unset, .unset, .unset, .unset] [(.int (1 : Int32)), (.int ((va.toUInt32 >>> ((17 : Int32) &&& 31).toUInt32).toInt32))])) _
      refine XS.iand X0.here hx rfl (hb hby at_34) rfl ?_
      show Steps p.tables e below (s₁.setTop (mkF m 35 #[.val (.int va), .val (.int vb), .val (.int vc), .val (.int vd), .val (.int ve), .val (.int nA), .val (.int cA), .val (.int dA), .unset, .unset, .unset, .unset, .unset, .unset, .unset, .unset, .unset, .unset, .unset, .unset, .unset, .unset, .unset, .unset, .unset, .unset, .unset] [(.int (((va.toUInt32 >>> ((17 : Int32) &&& 31).toUInt32).toInt32) &&& (1 : Int32)))])) _
      exact k
    by_cases hc9 : (((va.toUInt32 >>> ((17 : Int32) &&& 31).toUInt32).toInt32) &&& (1 : Int32)) = (0 : Int32)
    · refine ⟨(0 : Int32), s₁, _, X0, N0, e0, Or.inl rfl, fun t k => ?_⟩
      refine pre8 t ?_
      show Steps p.tables e below (s₁.setTop (mkF m 35 #[.val (.int va), .val (.int vb), .val (.int vc), .val (.int vd), .val (.int ve), .val (.int nA), .val (.int cA), .val (.int dA), .unset, .unset, .unset, .unset, .unset, .unset, .unset, .unset, .unset, .unset, .unset, .unset, .unset, .unset, .unset, .unset, .unset, .unset, .unset] [(.int (((va.toUInt32 >>> ((17 : Int32) &&& 31).toUInt32).toInt32) &&& (1 : Int32)))])) _
      refine XS.ifYes X0.here hx rfl (pc0 := 35) (pc' := 42) rfl (hb hby at_35) rfl ((if0 _ _).trans (teq hc9).1) (by decide) (by decide) ?_
      show Steps p.tables e below (s₁.setTop (mkF m 42 #[.val (.int va), .val (.int vb), .val (.int vc), .val (.int vd), .val (.int ve), .val (.int nA), .val (.int cA), .val (.int dA), .unset, .unset, .unset, .unset, .unset, .unset, .unset, .unset, .unset, .unset, .unset, .unset, .unset, .unset, .unset, .unset, .unset, .unset, .unset] [])) _
      refine XS.iconst X0.here hx rfl (hb hby at_42) ?_
      show Steps p.tables e below (s₁.setTop (mkF m 43 #[.val (.int va), .val (.int vb), .val (.int vc), .val (.int vd), .val (.int ve), .val (.int nA), .val (.int cA), .val (.int dA), .unset, .unset, .unset, .unset, .unset, .unset, .unset, .unset, .unset, .unset, .unset, .unset, .unset, .unset, .unset, .unset, .unset, .unset, .unset] [(.int (0 : Int32))])) _
      exact k
    · refine ⟨(1 : Int32), s₁, _, X0, N0, e0, Or.inr rfl, fun t k => ?_⟩
      refine pre8 t ?_
      show Steps p.tables e below (s₁.setTop (mkF m 35 #[.val (.int va), .val (.int vb), .val (.int vc), .val (.int vd), .val (.int ve), .val (.int nA), .val (.int cA), .val (.int dA), .unset, .unset, .unset, .unset, .unset, .unset, .unset, .unset, .unset, .unset, .unset, .unset, .unset, .unset, .unset, .unset, .unset, .unset, .unset] [(.int (((va.toUInt32 >>> ((17 : Int32) &&& 31).toUInt32).toInt32) &&& (1 : Int32)))])) _
      refine XS.ifNo X0.here hx rfl (hb hby at_35) rfl ((if0 _ _).trans (feq hc9).1) ?_
      show Steps p.tables e below (s₁.setTop (mkF m 38 #[.val (.int va), .val (.int vb), .val (.int vc), .val (.int vd), .val (.int ve), .val (.int nA), .val (.int cA), .val (.int dA), .unset, .unset, .unset, .unset, .unset, .unset, .unset, .unset, .unset, .unset, .unset, .unset, .unset, .unset, .unset, .unset, .unset, .unset, .unset] [])) _
      refine XS.iconst X0.here hx rfl (hb hby at_38) ?_
      show Steps p.tables e below (s₁.setTop (mkF m 39 #[.val (.int va), .val (.int vb), .val (.int vc), .val (.int vd), .val (.int ve), .val (.int nA), .val (.int cA), .val (.int dA), .unset, .unset, .unset, .unset, .unset, .unset, .unset, .unset, .unset, .unset, .unset, .unset, .unset, .unset, .unset, .unset, .unset, .unset, .unset] [(.int (1 : Int32))])) _
      refine XS.goto X0.here hx rfl (pc0 := 39) (pc' := 43) rfl (hb hby at_39) (by decide) (by decide) ?_
      show Steps p.tables e below (s₁.setTop (mkF m 43 #[.val (.int va), .val (.int vb), .val (.int vc), .val (.int vd), .val (.int ve), .val (.int nA), .val (.int cA), .val (.int dA), .unset, .unset, .unset, .unset, .unset, .unset, .unset, .unset, .unset, .unset, .unset, .unset, .unset, .unset, .unset, .unset, .unset, .unset, .unset] [(.int (1 : Int32))])) _
      exact k
  have b_wA := hj7
  have pre10 : ∀ t, Steps p.tables e below (T7.setTop (mkF m 45 #[.val (.int va), .val (.int vb), .val (.int vc), .val (.int vd), .val (.int ve), .val (.int nA), .val (.int cA), .val (.int dA), .val (.int wA), .unset, .unset, .unset, .unset, .unset, .unset, .unset, .unset, .unset, .unset, .unset, .unset, .unset, .unset, .unset, .unset, .unset, .unset] [])) t → Steps p.tables e below (s₁.setTop (entryFrame m #[(.int va), (.int vb), (.int vc), (.int vd), (.int ve)] maxLocals)) t := by
    intro t k
    refine pre7 t ?_
    show Steps p.tables e below (T7.setTop (mkF m 43 #[.val (.int va), .val (.int vb), .val (.int vc), .val (.int vd), .val (.int ve), .val (.int nA), .val (.int cA), .val (.int dA), .unset, .unset, .unset, .unset, .unset, .unset, .unset, .unset, .unset, .unset, .unset, .unset, .unset, .unset, .unset, .unset, .unset, .unset, .unset] [(.int wA)])) _
    refine XS.istore X7.here hx rfl (hb hby at_43) rfl (l' := #[.val (.int va), .val (.int vb), .val (.int vc), .val (.int vd), .val (.int ve), .val (.int nA), .val (.int cA), .val (.int dA), .val (.int wA), .unset, .unset, .unset, .unset, .unset, .unset, .unset, .unset, .unset, .unset, .unset, .unset, .unset, .unset, .unset, .unset, .unset, .unset]) rfl ?_
    show Steps p.tables e below (T7.setTop (mkF m 45 #[.val (.int va), .val (.int vb), .val (.int vc), .val (.int vd), .val (.int ve), .val (.int nA), .val (.int cA), .val (.int dA), .val (.int wA), .unset, .unset, .unset, .unset, .unset, .unset, .unset, .unset, .unset, .unset, .unset, .unset, .unset, .unset, .unset, .unset, .unset, .unset] [])) _
    exact k
  obtain ⟨lA, T11, lo11, X11, Nj11, ej11, hj11, pre11⟩ : ∃ (lA : Int32) (T' : State) (lo : List Loc), Stand p l e room_1 s m #[(.int va), (.int vb), (.int vc), (.int vd), (.int ve)] below meth c T' lo 0 0 ∧ Fr n0 lo ∧ T'.heap = h0 ∧ (lA = 0 ∨ lA = 1) ∧ ∀ t, Steps p.tables e below (T'.setTop (mkF m 59 #[.val (.int va), .val (.int vb), .val (.int vc), .val (.int vd), .val (.int ve), .val (.int nA), .val (.int cA), .val (.int dA), .val (.int wA), .unset, .unset, .unset, .unset, .unset, .unset, .unset, .unset, .unset, .unset, .unset, .unset, .unset, .unset, .unset, .unset, .unset, .unset] [(.int lA)])) t → Steps p.tables e below (s₁.setTop (entryFrame m #[(.int va), (.int vb), (.int vc), (.int vd), (.int ve)] maxLocals)) t := by
    have pre12 : ∀ t, Steps p.tables e below (T7.setTop (mkF m 51 #[.val (.int va), .val (.int vb), .val (.int vc), .val (.int vd), .val (.int ve), .val (.int nA), .val (.int cA), .val (.int dA), .val (.int wA), .unset, .unset, .unset, .unset, .unset, .unset, .unset, .unset, .unset, .unset, .unset, .unset, .unset, .unset, .unset, .unset, .unset, .unset] [(.int (((va.toUInt32 >>> ((18 : Int32) &&& 31).toUInt32).toInt32) &&& (1 : Int32)))])) t → Steps p.tables e below (s₁.setTop (entryFrame m #[(.int va), (.int vb), (.int vc), (.int vd), (.int ve)] maxLocals)) t := by
      intro t k
      refine pre10 t ?_
      show Steps p.tables e below (T7.setTop (mkF m 45 #[.val (.int va), .val (.int vb), .val (.int vc), .val (.int vd), .val (.int ve), .val (.int nA), .val (.int cA), .val (.int dA), .val (.int wA), .unset, .unset, .unset, .unset, .unset, .unset, .unset, .unset, .unset, .unset, .unset, .unset, .unset, .unset, .unset, .unset, .unset, .unset] [])) _
      refine XS.iloadN X7.here hx rfl (hb hby at_45) rfl ?_
      show Steps p.tables e below (T7.setTop (mkF m 46 #[.val (.int va), .val (.int vb), .val (.int vc), .val (.int vd), .val (.int ve), .val (.int nA), .val (.int cA), .val (.int dA), .val (.int wA), .unset, .unset, .unset, .unset, .unset, .unset, .unset, .unset, .unset, .unset, .unset, .unset, .unset, .unset, .unset, .unset, .unset, .unset] [(.int va)])) _
      refine XS.bipush X7.here hx rfl (hb hby at_46) ?_
      show Steps p.tables e below (T7.setTop (mkF m 48 #[.val (.int va), .val (.int vb), .val (.int vc), .val (.int vd), .val (.int ve), .val (.int nA), .val (.int cA), .val (.int dA), .val (.int wA), .unset, .unset, .unset, .unset, .unset, .unset, .unset, .unset, .unset, .unset, .unset, .unset, .unset, .unset, .unset, .unset, .unset, .unset] [(.int (18 : Int32)), (.int va)])) _
      refine XS.iushr X7.here hx rfl (hb hby at_48) rfl ?_
      show Steps p.tables e below (T7.setTop (mkF m 49 #[.val (.int va), .val (.int vb), .val (.int vc), .val (.int vd), .val (.int ve), .val (.int nA), .val (.int cA), .val (.int dA), .val (.int wA), .unset, .unset, .unset, .unset, .unset, .unset, .unset, .unset, .unset, .unset, .unset, .unset, .unset, .unset, .unset, .unset, .unset, .unset] [(.int ((va.toUInt32 >>> ((18 : Int32) &&& 31).toUInt32).toInt32))])) _
      refine XS.iconst X7.here hx rfl (hb hby at_49) ?_
      show Steps p.tables e below (T7.setTop (mkF m 50 #[.val (.int va), .val (.int vb), .val (.int vc), .val (.int vd), .val (.int ve), .val (.int nA), .val (.int cA), .val (.int dA), .val (.int wA), .unset, .unset, .unset, .unset, .unset, .unset, .unset, .unset, .unset, .unset, .unset, .unset, .unset, .unset, .unset, .unset, .unset, .unset] [(.int (1 : Int32)), (.int ((va.toUInt32 >>> ((18 : Int32) &&& 31).toUInt32).toInt32))])) _
      refine XS.iand X7.here hx rfl (hb hby at_50) rfl ?_
      show Steps p.tables e below (T7.setTop (mkF m 51 #[.val (.int va), .val (.int vb), .val (.int vc), .val (.int vd), .val (.int ve), .val (.int nA), .val (.int cA), .val (.int dA), .val (.int wA), .unset, .unset, .unset, .unset, .unset, .unset, .unset, .unset, .unset, .unset, .unset, .unset, .unset, .unset, .unset, .unset, .unset, .unset] [(.int (((va.toUInt32 >>> ((18 : Int32) &&& 31).toUInt32).toInt32) &&& (1 : Int32)))])) _
      exact k
    by_cases hc13 : (((va.toUInt32 >>> ((18 : Int32) &&& 31).toUInt32).toInt32) &&& (1 : Int32)) = (0 : Int32)
    · refine ⟨(0 : Int32), T7, _, X7, Nj7, ej7, Or.inl rfl, fun t k => ?_⟩
      refine pre12 t ?_
      show Steps p.tables e below (T7.setTop (mkF m 51 #[.val (.int va), .val (.int vb), .val (.int vc), .val (.int vd), .val (.int ve), .val (.int nA), .val (.int cA), .val (.int dA), .val (.int wA), .unset, .unset, .unset, .unset, .unset, .unset, .unset, .unset, .unset, .unset, .unset, .unset, .unset, .unset, .unset, .unset, .unset, .unset] [(.int (((va.toUInt32 >>> ((18 : Int32) &&& 31).toUInt32).toInt32) &&& (1 : Int32)))])) _
      refine XS.ifYes X7.here hx rfl (pc0 := 51) (pc' := 58) rfl (hb hby at_51) rfl ((if0 _ _).trans (teq hc13).1) (by decide) (by decide) ?_
      show Steps p.tables e below (T7.setTop (mkF m 58 #[.val (.int va), .val (.int vb), .val (.int vc), .val (.int vd), .val (.int ve), .val (.int nA), .val (.int cA), .val (.int dA), .val (.int wA), .unset, .unset, .unset, .unset, .unset, .unset, .unset, .unset, .unset, .unset, .unset, .unset, .unset, .unset, .unset, .unset, .unset, .unset] [])) _
      refine XS.iconst X7.here hx rfl (hb hby at_58) ?_
      show Steps p.tables e below (T7.setTop (mkF m 59 #[.val (.int va), .val (.int vb), .val (.int vc), .val (.int vd), .val (.int ve), .val (.int nA), .val (.int cA), .val (.int dA), .val (.int wA), .unset, .unset, .unset, .unset, .unset, .unset, .unset, .unset, .unset, .unset, .unset, .unset, .unset, .unset, .unset, .unset, .unset, .unset] [(.int (0 : Int32))])) _
      exact k
    · refine ⟨(1 : Int32), T7, _, X7, Nj7, ej7, Or.inr rfl, fun t k => ?_⟩
      refine pre12 t ?_
      show Steps p.tables e below (T7.setTop (mkF m 51 #[.val (.int va), .val (.int vb), .val (.int vc), .val (.int vd), .val (.int ve), .val (.int nA), .val (.int cA), .val (.int dA), .val (.int wA), .unset, .unset, .unset, .unset, .unset, .unset, .unset, .unset, .unset, .unset, .unset, .unset, .unset, .unset, .unset, .unset, .unset, .unset] [(.int (((va.toUInt32 >>> ((18 : Int32) &&& 31).toUInt32).toInt32) &&& (1 : Int32)))])) _
      refine XS.ifNo X7.here hx rfl (hb hby at_51) rfl ((if0 _ _).trans (feq hc13).1) ?_
      show Steps p.tables e below (T7.setTop (mkF m 54 #[.val (.int va), .val (.int vb), .val (.int vc), .val (.int vd), .val (.int ve), .val (.int nA), .val (.int cA), .val (.int dA), .val (.int wA), .unset, .unset, .unset, .unset, .unset, .unset, .unset, .unset, .unset, .unset, .unset, .unset, .unset, .unset, .unset, .unset, .unset, .unset] [])) _
      refine XS.iconst X7.here hx rfl (hb hby at_54) ?_
      show Steps p.tables e below (T7.setTop (mkF m 55 #[.val (.int va), .val (.int vb), .val (.int vc), .val (.int vd), .val (.int ve), .val (.int nA), .val (.int cA), .val (.int dA), .val (.int wA), .unset, .unset, .unset, .unset, .unset, .unset, .unset, .unset, .unset, .unset, .unset, .unset, .unset, .unset, .unset, .unset, .unset, .unset] [(.int (1 : Int32))])) _
      refine XS.goto X7.here hx rfl (pc0 := 55) (pc' := 59) rfl (hb hby at_55) (by decide) (by decide) ?_
      show Steps p.tables e below (T7.setTop (mkF m 59 #[.val (.int va), .val (.int vb), .val (.int vc), .val (.int vd), .val (.int ve), .val (.int nA), .val (.int cA), .val (.int dA), .val (.int wA), .unset, .unset, .unset, .unset, .unset, .unset, .unset, .unset, .unset, .unset, .unset, .unset, .unset, .unset, .unset, .unset, .unset, .unset] [(.int (1 : Int32))])) _
      exact k
  have b_lA := hj11
  obtain ⟨_, _, ⟨T14, L14, k14, n14⟩, -, X14, ⟨Lc14, hQ14, l14, y14, z14⟩, st14⟩ := Jvm.LawKit.callS X11 hx (y := (⟨"java/lang/Math", "min", "(II)I"⟩ : MethodName)) hown (mvT hZ (hw _ (List.mem_of_getElem? (i := 0) rfl))) (mvT hZ (hw _ (List.mem_of_getElem? (i := 1) rfl))) (mvT hZ (hw _ (List.mem_of_getElem? (i := 2) rfl))) (mvT hZ (hw _ (List.mem_of_getElem? (i := 3) rfl))) (by decide) (backOf (W := 0) (rm_min l Z a0 hw [] (((vb.toUInt32 >>> ((16 : Int32) &&& 31).toUInt32).toInt32) &&& (3 : Int32)) (2 : Int32) h0 n0 Z0 ) hZ (hw _ (List.mem_of_getElem? (i := 3) rfl)) (hw _ (List.mem_of_getElem? (i := 2) rfl)) (by decide) (by decide)) (g := (mkF m 68 #[.val (.int va), .val (.int vb), .val (.int vc), .val (.int vd), .val (.int ve), .val (.int nA), .val (.int cA), .val (.int dA), .val (.int wA), .val (.int lA), .unset, .unset, .unset, .unset, .unset, .unset, .unset, .unset, .unset, .unset, .unset, .unset, .unset, .unset, .unset, .unset, .unset] [(.int (2 : Int32)), (.int (((vb.toUInt32 >>> ((16 : Int32) &&& 31).toUInt32).toInt32) &&& (3 : Int32)))])) rfl (by rw [hml]; rfl) (argsL := [(.int (((vb.toUInt32 >>> ((16 : Int32) &&& 31).toUInt32).toInt32) &&& (3 : Int32))), (.int (2 : Int32))]) (rest := []) (lenOf own_pd9 rfl) rfl (by show 2 * 0 + _ ≤ _; exact Nat.le_of_eq rfl) (hb hby at_68) (fun _ _ => ⟨rfl, ej11, (by decide : 0 + 0 ≤ _), (by decide : 0 + 0 ≤ _)⟩)
  dsimp only [Pt.U, Pt.locs, Pt.cells, Pt.slots] at X14 l14 y14 z14 st14 hQ14
  subst l14 y14 z14
  obtain ⟨rfl, Nq14, hh14⟩ := hQ14
  have Nf14 := Fr.app Nj11 Nq14
  have pre15 : ∀ t, Steps p.tables e below (T14.setTop (mkF m 73 #[.val (.int va), .val (.int vb), .val (.int vc), .val (.int vd), .val (.int ve), .val (.int nA), .val (.int cA), .val (.int dA), .val (.int wA), .val (.int lA), .val (.int (own_min (((vb.toUInt32 >>> ((16 : Int32) &&& 31).toUInt32).toInt32) &&& (3 : Int32)) (2 : Int32))), .unset, .unset, .unset, .unset, .unset, .unset, .unset, .unset, .unset, .unset, .unset, .unset, .unset, .unset, .unset, .unset] [])) t → Steps p.tables e below (s₁.setTop (entryFrame m #[(.int va), (.int vb), (.int vc), (.int vd), (.int ve)] maxLocals)) t := by
    intro t k
    refine pre11 t ?_
    show Steps p.tables e below (T11.setTop (mkF m 59 #[.val (.int va), .val (.int vb), .val (.int vc), .val (.int vd), .val (.int ve), .val (.int nA), .val (.int cA), .val (.int dA), .val (.int wA), .unset, .unset, .unset, .unset, .unset, .unset, .unset, .unset, .unset, .unset, .unset, .unset, .unset, .unset, .unset, .unset, .unset, .unset] [(.int lA)])) _
    refine XS.istore X11.here hx rfl (hb hby at_59) rfl (l' := #[.val (.int va), .val (.int vb), .val (.int vc), .val (.int vd), .val (.int ve), .val (.int nA), .val (.int cA), .val (.int dA), .val (.int wA), .val (.int lA), .unset, .unset, .unset, .unset, .unset, .unset, .unset, .unset, .unset, .unset, .unset, .unset, .unset, .unset, .unset, .unset, .unset]) rfl ?_
    show Steps p.tables e below (T11.setTop (mkF m 61 #[.val (.int va), .val (.int vb), .val (.int vc), .val (.int vd), .val (.int ve), .val (.int nA), .val (.int cA), .val (.int dA), .val (.int wA), .val (.int lA), .unset, .unset, .unset, .unset, .unset, .unset, .unset, .unset, .unset, .unset, .unset, .unset, .unset, .unset, .unset, .unset, .unset] [])) _
    refine XS.iloadN X11.here hx rfl (hb hby at_61) rfl ?_
    show Steps p.tables e below (T11.setTop (mkF m 62 #[.val (.int va), .val (.int vb), .val (.int vc), .val (.int vd), .val (.int ve), .val (.int nA), .val (.int cA), .val (.int dA), .val (.int wA), .val (.int lA), .unset, .unset, .unset, .unset, .unset, .unset, .unset, .unset, .unset, .unset, .unset, .unset, .unset, .unset, .unset, .unset, .unset] [(.int vb)])) _
    refine XS.bipush X11.here hx rfl (hb hby at_62) ?_
    show Steps p.tables e below (T11.setTop (mkF m 64 #[.val (.int va), .val (.int vb), .val (.int vc), .val (.int vd), .val (.int ve), .val (.int nA), .val (.int cA), .val (.int dA), .val (.int wA), .val (.int lA), .unset, .unset, .unset, .unset, .unset, .unset, .unset, .unset, .unset, .unset, .unset, .unset, .unset, .unset, .unset, .unset, .unset] [(.int (16 : Int32)), (.int vb)])) _
    refine XS.iushr X11.here hx rfl (hb hby at_64) rfl ?_
    show Steps p.tables e below (T11.setTop (mkF m 65 #[.val (.int va), .val (.int vb), .val (.int vc), .val (.int vd), .val (.int ve), .val (.int nA), .val (.int cA), .val (.int dA), .val (.int wA), .val (.int lA), .unset, .unset, .unset, .unset, .unset, .unset, .unset, .unset, .unset, .unset, .unset, .unset, .unset, .unset, .unset, .unset, .unset] [(.int ((vb.toUInt32 >>> ((16 : Int32) &&& 31).toUInt32).toInt32))])) _
    refine XS.iconst X11.here hx rfl (hb hby at_65) ?_
    show Steps p.tables e below (T11.setTop (mkF m 66 #[.val (.int va), .val (.int vb), .val (.int vc), .val (.int vd), .val (.int ve), .val (.int nA), .val (.int cA), .val (.int dA), .val (.int wA), .val (.int lA), .unset, .unset, .unset, .unset, .unset, .unset, .unset, .unset, .unset, .unset, .unset, .unset, .unset, .unset, .unset, .unset, .unset] [(.int (3 : Int32)), (.int ((vb.toUInt32 >>> ((16 : Int32) &&& 31).toUInt32).toInt32))])) _
    refine XS.iand X11.here hx rfl (hb hby at_66) rfl ?_
    show Steps p.tables e below (T11.setTop (mkF m 67 #[.val (.int va), .val (.int vb), .val (.int vc), .val (.int vd), .val (.int ve), .val (.int nA), .val (.int cA), .val (.int dA), .val (.int wA), .val (.int lA), .unset, .unset, .unset, .unset, .unset, .unset, .unset, .unset, .unset, .unset, .unset, .unset, .unset, .unset, .unset, .unset, .unset] [(.int (((vb.toUInt32 >>> ((16 : Int32) &&& 31).toUInt32).toInt32) &&& (3 : Int32)))])) _
    refine XS.iconst X11.here hx rfl (hb hby at_67) ?_
    show Steps p.tables e below (T11.setTop (mkF m 68 #[.val (.int va), .val (.int vb), .val (.int vc), .val (.int vd), .val (.int ve), .val (.int nA), .val (.int cA), .val (.int dA), .val (.int wA), .val (.int lA), .unset, .unset, .unset, .unset, .unset, .unset, .unset, .unset, .unset, .unset, .unset, .unset, .unset, .unset, .unset, .unset, .unset] [(.int (2 : Int32)), (.int (((vb.toUInt32 >>> ((16 : Int32) &&& 31).toUInt32).toInt32) &&& (3 : Int32)))])) _
    refine st14 _ ?_
    show Steps p.tables e below (T14.setTop (mkF m 71 #[.val (.int va), .val (.int vb), .val (.int vc), .val (.int vd), .val (.int ve), .val (.int nA), .val (.int cA), .val (.int dA), .val (.int wA), .val (.int lA), .unset, .unset, .unset, .unset, .unset, .unset, .unset, .unset, .unset, .unset, .unset, .unset, .unset, .unset, .unset, .unset, .unset] [(.int (own_min (((vb.toUInt32 >>> ((16 : Int32) &&& 31).toUInt32).toInt32) &&& (3 : Int32)) (2 : Int32)))])) _
    refine XS.istore X14.here hx rfl (hb hby at_71) rfl (l' := #[.val (.int va), .val (.int vb), .val (.int vc), .val (.int vd), .val (.int ve), .val (.int nA), .val (.int cA), .val (.int dA), .val (.int wA), .val (.int lA), .val (.int (own_min (((vb.toUInt32 >>> ((16 : Int32) &&& 31).toUInt32).toInt32) &&& (3 : Int32)) (2 : Int32))), .unset, .unset, .unset, .unset, .unset, .unset, .unset, .unset, .unset, .unset, .unset, .unset, .unset, .unset, .unset, .unset]) rfl ?_
    show Steps p.tables e below (T14.setTop (mkF m 73 #[.val (.int va), .val (.int vb), .val (.int vc), .val (.int vd), .val (.int ve), .val (.int nA), .val (.int cA), .val (.int dA), .val (.int wA), .val (.int lA), .val (.int (own_min (((vb.toUInt32 >>> ((16 : Int32) &&& 31).toUInt32).toInt32) &&& (3 : Int32)) (2 : Int32))), .unset, .unset, .unset, .unset, .unset, .unset, .unset, .unset, .unset, .unset, .unset, .unset, .unset, .unset, .unset, .unset] [])) _
    exact k
  obtain ⟨mA, h_mA⟩ : ∃ z : Int32, z = (own_min (((vb.toUInt32 >>> ((16 : Int32) &&& 31).toUInt32).toInt32) &&& (3 : Int32)) (2 : Int32)) := ⟨_, rfl⟩
  have pre16 : ∀ t, Steps p.tables e below (T14.setTop (mkF m 73 #[.val (.int va), .val (.int vb), .val (.int vc), .val (.int vd), .val (.int ve), .val (.int nA), .val (.int cA), .val (.int dA), .val (.int wA), .val (.int lA), .val (.int mA), .unset, .unset, .unset, .unset, .unset, .unset, .unset, .unset, .unset, .unset, .unset, .unset, .unset, .unset, .unset, .unset] [])) t → Steps p.tables e below (s₁.setTop (entryFrame m #[(.int va), (.int vb), (.int vc), (.int vd), (.int ve)] maxLocals)) t := by
    subst h_mA
    exact pre15
  have l_mA := own_lenmin h_mA
  have pre17 : ∀ t, Steps p.tables e below (T14.setTop (mkF m 81 #[.val (.int va), .val (.int vb), .val (.int vc), .val (.int vd), .val (.int ve), .val (.int nA), .val (.int cA), .val (.int dA), .val (.int wA), .val (.int lA), .val (.int mA), .val (.int ((vb &&& (255 : Int32)).toUInt32.toUInt16.toUInt32.toInt32)), .unset, .unset, .unset, .unset, .unset, .unset, .unset, .unset, .unset, .unset, .unset, .unset, .unset, .unset, .unset] [])) t → Steps p.tables e below (s₁.setTop (entryFrame m #[(.int va), (.int vb), (.int vc), (.int vd), (.int ve)] maxLocals)) t := by
    intro t k
    refine pre16 t ?_
    show Steps p.tables e below (T14.setTop (mkF m 73 #[.val (.int va), .val (.int vb), .val (.int vc), .val (.int vd), .val (.int ve), .val (.int nA), .val (.int cA), .val (.int dA), .val (.int wA), .val (.int lA), .val (.int mA), .unset, .unset, .unset, .unset, .unset, .unset, .unset, .unset, .unset, .unset, .unset, .unset, .unset, .unset, .unset, .unset] [])) _
    refine XS.iloadN X14.here hx rfl (hb hby at_73) rfl ?_
    show Steps p.tables e below (T14.setTop (mkF m 74 #[.val (.int va), .val (.int vb), .val (.int vc), .val (.int vd), .val (.int ve), .val (.int nA), .val (.int cA), .val (.int dA), .val (.int wA), .val (.int lA), .val (.int mA), .unset, .unset, .unset, .unset, .unset, .unset, .unset, .unset, .unset, .unset, .unset, .unset, .unset, .unset, .unset, .unset] [(.int vb)])) _
    refine XS.sipush X14.here hx rfl (hb hby at_74) ?_
    show Steps p.tables e below (T14.setTop (mkF m 77 #[.val (.int va), .val (.int vb), .val (.int vc), .val (.int vd), .val (.int ve), .val (.int nA), .val (.int cA), .val (.int dA), .val (.int wA), .val (.int lA), .val (.int mA), .unset, .unset, .unset, .unset, .unset, .unset, .unset, .unset, .unset, .unset, .unset, .unset, .unset, .unset, .unset, .unset] [(.int (255 : Int32)), (.int vb)])) _
    refine XS.iand X14.here hx rfl (hb hby at_77) rfl ?_
    show Steps p.tables e below (T14.setTop (mkF m 78 #[.val (.int va), .val (.int vb), .val (.int vc), .val (.int vd), .val (.int ve), .val (.int nA), .val (.int cA), .val (.int dA), .val (.int wA), .val (.int lA), .val (.int mA), .unset, .unset, .unset, .unset, .unset, .unset, .unset, .unset, .unset, .unset, .unset, .unset, .unset, .unset, .unset, .unset] [(.int (vb &&& (255 : Int32)))])) _
    refine XS.i2c X14.here hx rfl (hb hby at_78) rfl ?_
    show Steps p.tables e below (T14.setTop (mkF m 79 #[.val (.int va), .val (.int vb), .val (.int vc), .val (.int vd), .val (.int ve), .val (.int nA), .val (.int cA), .val (.int dA), .val (.int wA), .val (.int lA), .val (.int mA), .unset, .unset, .unset, .unset, .unset, .unset, .unset, .unset, .unset, .unset, .unset, .unset, .unset, .unset, .unset, .unset] [(.int ((vb &&& (255 : Int32)).toUInt32.toUInt16.toUInt32.toInt32))])) _
    refine XS.istore X14.here hx rfl (hb hby at_79) rfl (l' := #[.val (.int va), .val (.int vb), .val (.int vc), .val (.int vd), .val (.int ve), .val (.int nA), .val (.int cA), .val (.int dA), .val (.int wA), .val (.int lA), .val (.int mA), .val (.int ((vb &&& (255 : Int32)).toUInt32.toUInt16.toUInt32.toInt32)), .unset, .unset, .unset, .unset, .unset, .unset, .unset, .unset, .unset, .unset, .unset, .unset, .unset, .unset, .unset]) rfl ?_
    show Steps p.tables e below (T14.setTop (mkF m 81 #[.val (.int va), .val (.int vb), .val (.int vc), .val (.int vd), .val (.int ve), .val (.int nA), .val (.int cA), .val (.int dA), .val (.int wA), .val (.int lA), .val (.int mA), .val (.int ((vb &&& (255 : Int32)).toUInt32.toUInt16.toUInt32.toInt32)), .unset, .unset, .unset, .unset, .unset, .unset, .unset, .unset, .unset, .unset, .unset, .unset, .unset, .unset, .unset] [])) _
    exact k
  obtain ⟨eA, h_eA⟩ : ∃ z : Int32, z = ((vb &&& (255 : Int32)).toUInt32.toUInt16.toUInt32.toInt32) := ⟨_, rfl⟩
  have pre18 : ∀ t, Steps p.tables e below (T14.setTop (mkF m 81 #[.val (.int va), .val (.int vb), .val (.int vc), .val (.int vd), .val (.int ve), .val (.int nA), .val (.int cA), .val (.int dA), .val (.int wA), .val (.int lA), .val (.int mA), .val (.int eA), .unset, .unset, .unset, .unset, .unset, .unset, .unset, .unset, .unset, .unset, .unset, .unset, .unset, .unset, .unset] [])) t → Steps p.tables e below (s₁.setTop (entryFrame m #[(.int va), (.int vb), (.int vc), (.int vd), (.int ve)] maxLocals)) t := by
    subst h_eA
    exact pre17
  have r_eA := own_rc h_eA
  have pre19 : ∀ t, Steps p.tables e below (T14.setTop (mkF m 92 #[.val (.int va), .val (.int vb), .val (.int vc), .val (.int vd), .val (.int ve), .val (.int nA), .val (.int cA), .val (.int dA), .val (.int wA), .val (.int lA), .val (.int mA), .val (.int eA), .val (.int ((((vb.toUInt32 >>> ((8 : Int32) &&& 31).toUInt32).toInt32) &&& (255 : Int32)).toUInt32.toUInt16.toUInt32.toInt32)), .unset, .unset, .unset, .unset, .unset, .unset, .unset, .unset, .unset, .unset, .unset, .unset, .unset, .unset] [])) t → Steps p.tables e below (s₁.setTop (entryFrame m #[(.int va), (.int vb), (.int vc), (.int vd), (.int ve)] maxLocals)) t := by
    intro t k
    refine pre18 t ?_
    show Steps p.tables e below (T14.setTop (mkF m 81 #[.val (.int va), .val (.int vb), .val (.int vc), .val (.int vd), .val (.int ve), .val (.int nA), .val (.int cA), .val (.int dA), .val (.int wA), .val (.int lA), .val (.int mA), .val (.int eA), .unset, .unset, .unset, .unset, .unset, .unset, .unset, .unset, .unset, .unset, .unset, .unset, .unset, .unset, .unset] [])) _
    refine XS.iloadN X14.here hx rfl (hb hby at_81) rfl ?_
    show Steps p.tables e below (T14.setTop (mkF m 82 #[.val (.int va), .val (.int vb), .val (.int vc), .val (.int vd), .val (.int ve), .val (.int nA), .val (.int cA), .val (.int dA), .val (.int wA), .val (.int lA), .val (.int mA), .val (.int eA), .unset, .unset, .unset, .unset, .unset, .unset, .unset, .unset, .unset, .unset, .unset, .unset, .unset, .unset, .unset] [(.int vb)])) _
    refine XS.bipush X14.here hx rfl (hb hby at_82) ?_
    show Steps p.tables e below (T14.setTop (mkF m 84 #[.val (.int va), .val (.int vb), .val (.int vc), .val (.int vd), .val (.int ve), .val (.int nA), .val (.int cA), .val (.int dA), .val (.int wA), .val (.int lA), .val (.int mA), .val (.int eA), .unset, .unset, .unset, .unset, .unset, .unset, .unset, .unset, .unset, .unset, .unset, .unset, .unset, .unset, .unset] [(.int (8 : Int32)), (.int vb)])) _
    refine XS.iushr X14.here hx rfl (hb hby at_84) rfl ?_
    show Steps p.tables e below (T14.setTop (mkF m 85 #[.val (.int va), .val (.int vb), .val (.int vc), .val (.int vd), .val (.int ve), .val (.int nA), .val (.int cA), .val (.int dA), .val (.int wA), .val (.int lA), .val (.int mA), .val (.int eA), .unset, .unset, .unset, .unset, .unset, .unset, .unset, .unset, .unset, .unset, .unset, .unset, .unset, .unset, .unset] [(.int ((vb.toUInt32 >>> ((8 : Int32) &&& 31).toUInt32).toInt32))])) _
    refine XS.sipush X14.here hx rfl (hb hby at_85) ?_
    show Steps p.tables e below (T14.setTop (mkF m 88 #[.val (.int va), .val (.int vb), .val (.int vc), .val (.int vd), .val (.int ve), .val (.int nA), .val (.int cA), .val (.int dA), .val (.int wA), .val (.int lA), .val (.int mA), .val (.int eA), .unset, .unset, .unset, .unset, .unset, .unset, .unset, .unset, .unset, .unset, .unset, .unset, .unset, .unset, .unset] [(.int (255 : Int32)), (.int ((vb.toUInt32 >>> ((8 : Int32) &&& 31).toUInt32).toInt32))])) _
    refine XS.iand X14.here hx rfl (hb hby at_88) rfl ?_
    show Steps p.tables e below (T14.setTop (mkF m 89 #[.val (.int va), .val (.int vb), .val (.int vc), .val (.int vd), .val (.int ve), .val (.int nA), .val (.int cA), .val (.int dA), .val (.int wA), .val (.int lA), .val (.int mA), .val (.int eA), .unset, .unset, .unset, .unset, .unset, .unset, .unset, .unset, .unset, .unset, .unset, .unset, .unset, .unset, .unset] [(.int (((vb.toUInt32 >>> ((8 : Int32) &&& 31).toUInt32).toInt32) &&& (255 : Int32)))])) _
    refine XS.i2c X14.here hx rfl (hb hby at_89) rfl ?_
    show Steps p.tables e below (T14.setTop (mkF m 90 #[.val (.int va), .val (.int vb), .val (.int vc), .val (.int vd), .val (.int ve), .val (.int nA), .val (.int cA), .val (.int dA), .val (.int wA), .val (.int lA), .val (.int mA), .val (.int eA), .unset, .unset, .unset, .unset, .unset, .unset, .unset, .unset, .unset, .unset, .unset, .unset, .unset, .unset, .unset] [(.int ((((vb.toUInt32 >>> ((8 : Int32) &&& 31).toUInt32).toInt32) &&& (255 : Int32)).toUInt32.toUInt16.toUInt32.toInt32))])) _
    refine XS.istore X14.here hx rfl (hb hby at_90) rfl (l' := #[.val (.int va), .val (.int vb), .val (.int vc), .val (.int vd), .val (.int ve), .val (.int nA), .val (.int cA), .val (.int dA), .val (.int wA), .val (.int lA), .val (.int mA), .val (.int eA), .val (.int ((((vb.toUInt32 >>> ((8 : Int32) &&& 31).toUInt32).toInt32) &&& (255 : Int32)).toUInt32.toUInt16.toUInt32.toInt32)), .unset, .unset, .unset, .unset, .unset, .unset, .unset, .unset, .unset, .unset, .unset, .unset, .unset, .unset]) rfl ?_
    show Steps p.tables e below (T14.setTop (mkF m 92 #[.val (.int va), .val (.int vb), .val (.int vc), .val (.int vd), .val (.int ve), .val (.int nA), .val (.int cA), .val (.int dA), .val (.int wA), .val (.int lA), .val (.int mA), .val (.int eA), .val (.int ((((vb.toUInt32 >>> ((8 : Int32) &&& 31).toUInt32).toInt32) &&& (255 : Int32)).toUInt32.toUInt16.toUInt32.toInt32)), .unset, .unset, .unset, .unset, .unset, .unset, .unset, .unset, .unset, .unset, .unset, .unset, .unset, .unset] [])) _
    exact k
  obtain ⟨fA, h_fA⟩ : ∃ z : Int32, z = ((((vb.toUInt32 >>> ((8 : Int32) &&& 31).toUInt32).toInt32) &&& (255 : Int32)).toUInt32.toUInt16.toUInt32.toInt32) := ⟨_, rfl⟩
  have pre20 : ∀ t, Steps p.tables e below (T14.setTop (mkF m 92 #[.val (.int va), .val (.int vb), .val (.int vc), .val (.int vd), .val (.int ve), .val (.int nA), .val (.int cA), .val (.int dA), .val (.int wA), .val (.int lA), .val (.int mA), .val (.int eA), .val (.int fA), .unset, .unset, .unset, .unset, .unset, .unset, .unset, .unset, .unset, .unset, .unset, .unset, .unset, .unset] [])) t → Steps p.tables e below (s₁.setTop (entryFrame m #[(.int va), (.int vb), (.int vc), (.int vd), (.int ve)] maxLocals)) t := by
    subst h_fA
    exact pre19
  have r_fA := own_rc h_fA
  obtain ⟨nid, T21, lo21, X21, Nj21, ej21, hj21, pre21⟩ : ∃ (nid : Int32) (T' : State) (lo : List Loc), Stand p l e room_1 s m #[(.int va), (.int vb), (.int vc), (.int vd), (.int ve)] below meth c T' lo 0 0 ∧ Fr n0 lo ∧ T'.heap = h0 ∧ (nid = 0 ∨ nid = 1) ∧ ∀ t, Steps p.tables e below (T'.setTop (mkF m 103 #[.val (.int va), .val (.int vb), .val (.int vc), .val (.int vd), .val (.int ve), .val (.int nA), .val (.int cA), .val (.int dA), .val (.int wA), .val (.int lA), .val (.int mA), .val (.int eA), .val (.int fA), .unset, .unset, .unset, .unset, .unset, .unset, .unset, .unset, .unset, .unset, .unset, .unset, .unset, .unset] [(.int nid)])) t → Steps p.tables e below (s₁.setTop (entryFrame m #[(.int va), (.int vb), (.int vc), (.int vd), (.int ve)] maxLocals)) t := by
    have pre22 : ∀ t, Steps p.tables e below (T14.setTop (mkF m 95 #[.val (.int va), .val (.int vb), .val (.int vc), .val (.int vd), .val (.int ve), .val (.int nA), .val (.int cA), .val (.int dA), .val (.int wA), .val (.int lA), .val (.int mA), .val (.int eA), .val (.int fA), .unset, .unset, .unset, .unset, .unset, .unset, .unset, .unset, .unset, .unset, .unset, .unset, .unset, .unset] [(.int (vc &&& (1 : Int32)))])) t → Steps p.tables e below (s₁.setTop (entryFrame m #[(.int va), (.int vb), (.int vc), (.int vd), (.int ve)] maxLocals)) t := by
      intro t k
      refine pre20 t ?_
      show Steps p.tables e below (T14.setTop (mkF m 92 #[.val (.int va), .val (.int vb), .val (.int vc), .val (.int vd), .val (.int ve), .val (.int nA), .val (.int cA), .val (.int dA), .val (.int wA), .val (.int lA), .val (.int mA), .val (.int eA), .val (.int fA), .unset, .unset, .unset, .unset, .unset, .unset, .unset, .unset, .unset, .unset, .unset, .unset, .unset, .unset] [])) _
      refine XS.iloadN X14.here hx rfl (hb hby at_92) rfl ?_
      show Steps p.tables e below (T14.setTop (mkF m 93 #[.val (.int va), .val (.int vb), .val (.int vc), .val (.int vd), .val (.int ve), .val (.int nA), .val (.int cA), .val (.int dA), .val (.int wA), .val (.int lA), .val (.int mA), .val (.int eA), .val (.int fA), .unset, .unset, .unset, .unset, .unset, .unset, .unset, .unset, .unset, .unset, .unset, .unset, .unset, .unset] [(.int vc)])) _
      refine XS.iconst X14.here hx rfl (hb hby at_93) ?_
      show Steps p.tables e below (T14.setTop (mkF m 94 #[.val (.int va), .val (.int vb), .val (.int vc), .val (.int vd), .val (.int ve), .val (.int nA), .val (.int cA), .val (.int dA), .val (.int wA), .val (.int lA), .val (.int mA), .val (.int eA), .val (.int fA), .unset, .unset, .unset, .unset, .unset, .unset, .unset, .unset, .unset, .unset, .unset, .unset, .unset, .unset] [(.int (1 : Int32)), (.int vc)])) _
      refine XS.iand X14.here hx rfl (hb hby at_94) rfl ?_
      show Steps p.tables e below (T14.setTop (mkF m 95 #[.val (.int va), .val (.int vb), .val (.int vc), .val (.int vd), .val (.int ve), .val (.int nA), .val (.int cA), .val (.int dA), .val (.int wA), .val (.int lA), .val (.int mA), .val (.int eA), .val (.int fA), .unset, .unset, .unset, .unset, .unset, .unset, .unset, .unset, .unset, .unset, .unset, .unset, .unset, .unset] [(.int (vc &&& (1 : Int32)))])) _
      exact k
    by_cases hc23 : (vc &&& (1 : Int32)) = (0 : Int32)
    · refine ⟨(0 : Int32), T14, _, X14, Nf14, hh14, Or.inl rfl, fun t k => ?_⟩
      refine pre22 t ?_
      show Steps p.tables e below (T14.setTop (mkF m 95 #[.val (.int va), .val (.int vb), .val (.int vc), .val (.int vd), .val (.int ve), .val (.int nA), .val (.int cA), .val (.int dA), .val (.int wA), .val (.int lA), .val (.int mA), .val (.int eA), .val (.int fA), .unset, .unset, .unset, .unset, .unset, .unset, .unset, .unset, .unset, .unset, .unset, .unset, .unset, .unset] [(.int (vc &&& (1 : Int32)))])) _
      refine XS.ifYes X14.here hx rfl (pc0 := 95) (pc' := 102) rfl (hb hby at_95) rfl ((if0 _ _).trans (teq hc23).1) (by decide) (by decide) ?_
      show Steps p.tables e below (T14.setTop (mkF m 102 #[.val (.int va), .val (.int vb), .val (.int vc), .val (.int vd), .val (.int ve), .val (.int nA), .val (.int cA), .val (.int dA), .val (.int wA), .val (.int lA), .val (.int mA), .val (.int eA), .val (.int fA), .unset, .unset, .unset, .unset, .unset, .unset, .unset, .unset, .unset, .unset, .unset, .unset, .unset, .unset] [])) _
      refine XS.iconst X14.here hx rfl (hb hby at_102) ?_
      show Steps p.tables e below (T14.setTop (mkF m 103 #[.val (.int va), .val (.int vb), .val (.int vc), .val (.int vd), .val (.int ve), .val (.int nA), .val (.int cA), .val (.int dA), .val (.int wA), .val (.int lA), .val (.int mA), .val (.int eA), .val (.int fA), .unset, .unset, .unset, .unset, .unset, .unset, .unset, .unset, .unset, .unset, .unset, .unset, .unset, .unset] [(.int (0 : Int32))])) _
      exact k
    · refine ⟨(1 : Int32), T14, _, X14, Nf14, hh14, Or.inr rfl, fun t k => ?_⟩
      refine pre22 t ?_
      show Steps p.tables e below (T14.setTop (mkF m 95 #[.val (.int va), .val (.int vb), .val (.int vc), .val (.int vd), .val (.int ve), .val (.int nA), .val (.int cA), .val (.int dA), .val (.int wA), .val (.int lA), .val (.int mA), .val (.int eA), .val (.int fA), .unset, .unset, .unset, .unset, .unset, .unset, .unset, .unset, .unset, .unset, .unset, .unset, .unset, .unset] [(.int (vc &&& (1 : Int32)))])) _
      refine XS.ifNo X14.here hx rfl (hb hby at_95) rfl ((if0 _ _).trans (feq hc23).1) ?_
      show Steps p.tables e below (T14.setTop (mkF m 98 #[.val (.int va), .val (.int vb), .val (.int vc), .val (.int vd), .val (.int ve), .val (.int nA), .val (.int cA), .val (.int dA), .val (.int wA), .val (.int lA), .val (.int mA), .val (.int eA), .val (.int fA), .unset, .unset, .unset, .unset, .unset, .unset, .unset, .unset, .unset, .unset, .unset, .unset, .unset, .unset] [])) _
      refine XS.iconst X14.here hx rfl (hb hby at_98) ?_
      show Steps p.tables e below (T14.setTop (mkF m 99 #[.val (.int va), .val (.int vb), .val (.int vc), .val (.int vd), .val (.int ve), .val (.int nA), .val (.int cA), .val (.int dA), .val (.int wA), .val (.int lA), .val (.int mA), .val (.int eA), .val (.int fA), .unset, .unset, .unset, .unset, .unset, .unset, .unset, .unset, .unset, .unset, .unset, .unset, .unset, .unset] [(.int (1 : Int32))])) _
      refine XS.goto X14.here hx rfl (pc0 := 99) (pc' := 103) rfl (hb hby at_99) (by decide) (by decide) ?_
      show Steps p.tables e below (T14.setTop (mkF m 103 #[.val (.int va), .val (.int vb), .val (.int vc), .val (.int vd), .val (.int ve), .val (.int nA), .val (.int cA), .val (.int dA), .val (.int wA), .val (.int lA), .val (.int mA), .val (.int eA), .val (.int fA), .unset, .unset, .unset, .unset, .unset, .unset, .unset, .unset, .unset, .unset, .unset, .unset, .unset, .unset] [(.int (1 : Int32))])) _
      exact k
  have b_nid := hj21
  have pre24 : ∀ t, Steps p.tables e below (T21.setTop (mkF m 105 #[.val (.int va), .val (.int vb), .val (.int vc), .val (.int vd), .val (.int ve), .val (.int nA), .val (.int cA), .val (.int dA), .val (.int wA), .val (.int lA), .val (.int mA), .val (.int eA), .val (.int fA), .val (.int nid), .unset, .unset, .unset, .unset, .unset, .unset, .unset, .unset, .unset, .unset, .unset, .unset, .unset] [])) t → Steps p.tables e below (s₁.setTop (entryFrame m #[(.int va), (.int vb), (.int vc), (.int vd), (.int ve)] maxLocals)) t := by
    intro t k
    refine pre21 t ?_
    show Steps p.tables e below (T21.setTop (mkF m 103 #[.val (.int va), .val (.int vb), .val (.int vc), .val (.int vd), .val (.int ve), .val (.int nA), .val (.int cA), .val (.int dA), .val (.int wA), .val (.int lA), .val (.int mA), .val (.int eA), .val (.int fA), .unset, .unset, .unset, .unset, .unset, .unset, .unset, .unset, .unset, .unset, .unset, .unset, .unset, .unset] [(.int nid)])) _
    refine XS.istore X21.here hx rfl (hb hby at_103) rfl (l' := #[.val (.int va), .val (.int vb), .val (.int vc), .val (.int vd), .val (.int ve), .val (.int nA), .val (.int cA), .val (.int dA), .val (.int wA), .val (.int lA), .val (.int mA), .val (.int eA), .val (.int fA), .val (.int nid), .unset, .unset, .unset, .unset, .unset, .unset, .unset, .unset, .unset, .unset, .unset, .unset, .unset]) rfl ?_
    show Steps p.tables e below (T21.setTop (mkF m 105 #[.val (.int va), .val (.int vb), .val (.int vc), .val (.int vd), .val (.int ve), .val (.int nA), .val (.int cA), .val (.int dA), .val (.int wA), .val (.int lA), .val (.int mA), .val (.int eA), .val (.int fA), .val (.int nid), .unset, .unset, .unset, .unset, .unset, .unset, .unset, .unset, .unset, .unset, .unset, .unset, .unset] [])) _
    exact k
  obtain ⟨nB, T25, lo25, X25, Nj25, ej25, hj25, pre25⟩ : ∃ (nB : Int32) (T' : State) (lo : List Loc), Stand p l e room_1 s m #[(.int va), (.int vb), (.int vc), (.int vd), (.int ve)] below meth c T' lo 0 0 ∧ Fr n0 lo ∧ T'.heap = h0 ∧ ((nB = 0 ∨ nB = 1 ∨ nB = 2) ∧ ¬ nB = (0 : Int32)) ∧ ∀ t, Steps p.tables e below (T'.setTop (mkF m 123 #[.val (.int va), .val (.int vb), .val (.int vc), .val (.int vd), .val (.int ve), .val (.int nA), .val (.int cA), .val (.int dA), .val (.int wA), .val (.int lA), .val (.int mA), .val (.int eA), .val (.int fA), .val (.int nid), .unset, .unset, .unset, .unset, .unset, .unset, .unset, .unset, .unset, .unset, .unset, .unset, .unset] [(.int nB)])) t → Steps p.tables e below (s₁.setTop (entryFrame m #[(.int va), (.int vb), (.int vc), (.int vd), (.int ve)] maxLocals)) t := by
    have pre26 : ∀ t, Steps p.tables e below (T21.setTop (mkF m 107 #[.val (.int va), .val (.int vb), .val (.int vc), .val (.int vd), .val (.int ve), .val (.int nA), .val (.int cA), .val (.int dA), .val (.int wA), .val (.int lA), .val (.int mA), .val (.int eA), .val (.int fA), .val (.int nid), .unset, .unset, .unset, .unset, .unset, .unset, .unset, .unset, .unset, .unset, .unset, .unset, .unset] [(.int nid)])) t → Steps p.tables e below (s₁.setTop (entryFrame m #[(.int va), (.int vb), (.int vc), (.int vd), (.int ve)] maxLocals)) t := by
      intro t k
      refine pre24 t ?_
      show Steps p.tables e below (T21.setTop (mkF m 105 #[.val (.int va), .val (.int vb), .val (.int vc), .val (.int vd), .val (.int ve), .val (.int nA), .val (.int cA), .val (.int dA), .val (.int wA), .val (.int lA), .val (.int mA), .val (.int eA), .val (.int fA), .val (.int nid), .unset, .unset, .unset, .unset, .unset, .unset, .unset, .unset, .unset, .unset, .unset, .unset, .unset] [])) _
      refine XS.iload X21.here hx rfl (hb hby at_105) rfl ?_
      show Steps p.tables e below (T21.setTop (mkF m 107 #[.val (.int va), .val (.int vb), .val (.int vc), .val (.int vd), .val (.int ve), .val (.int nA), .val (.int cA), .val (.int dA), .val (.int wA), .val (.int lA), .val (.int mA), .val (.int eA), .val (.int fA), .val (.int nid), .unset, .unset, .unset, .unset, .unset, .unset, .unset, .unset, .unset, .unset, .unset, .unset, .unset] [(.int nid)])) _
      exact k
    by_cases hc27 : nid = (0 : Int32)
    · refine ⟨nA, T21, _, X21, Nj21, ej21, ⟨l_nA, p_nA⟩, fun t k => ?_⟩
      refine pre26 t ?_
      show Steps p.tables e below (T21.setTop (mkF m 107 #[.val (.int va), .val (.int vb), .val (.int vc), .val (.int vd), .val (.int ve), .val (.int nA), .val (.int cA), .val (.int dA), .val (.int wA), .val (.int lA), .val (.int mA), .val (.int eA), .val (.int fA), .val (.int nid), .unset, .unset, .unset, .unset, .unset, .unset, .unset, .unset, .unset, .unset, .unset, .unset, .unset] [(.int nid)])) _
      refine XS.ifYes X21.here hx rfl (pc0 := 107) (pc' := 121) rfl (hb hby at_107) rfl ((if0 _ _).trans (teq hc27).1) (by decide) (by decide) ?_
      show Steps p.tables e below (T21.setTop (mkF m 121 #[.val (.int va), .val (.int vb), .val (.int vc), .val (.int vd), .val (.int ve), .val (.int nA), .val (.int cA), .val (.int dA), .val (.int wA), .val (.int lA), .val (.int mA), .val (.int eA), .val (.int fA), .val (.int nid), .unset, .unset, .unset, .unset, .unset, .unset, .unset, .unset, .unset, .unset, .unset, .unset, .unset] [])) _
      refine XS.iload X21.here hx rfl (hb hby at_121) rfl ?_
      show Steps p.tables e below (T21.setTop (mkF m 123 #[.val (.int va), .val (.int vb), .val (.int vc), .val (.int vd), .val (.int ve), .val (.int nA), .val (.int cA), .val (.int dA), .val (.int wA), .val (.int lA), .val (.int mA), .val (.int eA), .val (.int fA), .val (.int nid), .unset, .unset, .unset, .unset, .unset, .unset, .unset, .unset, .unset, .unset, .unset, .unset, .unset] [(.int nA)])) _
      exact k
    · refine ⟨((1 : Int32) + (((vd.toUInt32 >>> ((16 : Int32) &&& 31).toUInt32).toInt32) &&& (1 : Int32))), T21, _, X21, Nj21, ej21, (own_len12 rfl), fun t k => ?_⟩
      refine pre26 t ?_
      show Steps p.tables e below (T21.setTop (mkF m 107 #[.val (.int va), .val (.int vb), .val (.int vc), .val (.int vd), .val (.int ve), .val (.int nA), .val (.int cA), .val (.int dA), .val (.int wA), .val (.int lA), .val (.int mA), .val (.int eA), .val (.int fA), .val (.int nid), .unset, .unset, .unset, .unset, .unset, .unset, .unset, .unset, .unset, .unset, .unset, .unset, .unset] [(.int nid)])) _
      refine XS.ifNo X21.here hx rfl (hb hby at_107) rfl ((if0 _ _).trans (feq hc27).1) ?_
      show Steps p.tables e below (T21.setTop (mkF m 110 #[.val (.int va), .val (.int vb), .val (.int vc), .val (.int vd), .val (.int ve), .val (.int nA), .val (.int cA), .val (.int dA), .val (.int wA), .val (.int lA), .val (.int mA), .val (.int eA), .val (.int fA), .val (.int nid), .unset, .unset, .unset, .unset, .unset, .unset, .unset, .unset, .unset, .unset, .unset, .unset, .unset] [])) _
      refine XS.iconst X21.here hx rfl (hb hby at_110) ?_
      show Steps p.tables e below (T21.setTop (mkF m 111 #[.val (.int va), .val (.int vb), .val (.int vc), .val (.int vd), .val (.int ve), .val (.int nA), .val (.int cA), .val (.int dA), .val (.int wA), .val (.int lA), .val (.int mA), .val (.int eA), .val (.int fA), .val (.int nid), .unset, .unset, .unset, .unset, .unset, .unset, .unset, .unset, .unset, .unset, .unset, .unset, .unset] [(.int (1 : Int32))])) _
      refine XS.iloadN X21.here hx rfl (hb hby at_111) rfl ?_
      show Steps p.tables e below (T21.setTop (mkF m 112 #[.val (.int va), .val (.int vb), .val (.int vc), .val (.int vd), .val (.int ve), .val (.int nA), .val (.int cA), .val (.int dA), .val (.int wA), .val (.int lA), .val (.int mA), .val (.int eA), .val (.int fA), .val (.int nid), .unset, .unset, .unset, .unset, .unset, .unset, .unset, .unset, .unset, .unset, .unset, .unset, .unset] [(.int vd), (.int (1 : Int32))])) _
      refine XS.bipush X21.here hx rfl (hb hby at_112) ?_
      show Steps p.tables e below (T21.setTop (mkF m 114 #[.val (.int va), .val (.int vb), .val (.int vc), .val (.int vd), .val (.int ve), .val (.int nA), .val (.int cA), .val (.int dA), .val (.int wA), .val (.int lA), .val (.int mA), .val (.int eA), .val (.int fA), .val (.int nid), .unset, .unset, .unset, .unset, .unset, .unset, .unset, .unset, .unset, .unset, .unset, .unset, .unset] [(.int (16 : Int32)), (.int vd), (.int (1 : Int32))])) _
      refine XS.iushr X21.here hx rfl (hb hby at_114) rfl ?_
      show Steps p.tables e below (T21.setTop (mkF m 115 #[.val (.int va), .val (.int vb), .val (.int vc), .val (.int vd), .val (.int ve), .val (.int nA), .val (.int cA), .val (.int dA), .val (.int wA), .val (.int lA), .val (.int mA), .val (.int eA), .val (.int fA), .val (.int nid), .unset, .unset, .unset, .unset, .unset, .unset, .unset, .unset, .unset, .unset, .unset, .unset, .unset] [(.int ((vd.toUInt32 >>> ((16 : Int32) &&& 31).toUInt32).toInt32)), (.int (1 : Int32))])) _
      refine XS.iconst X21.here hx rfl (hb hby at_115) ?_
      show Steps p.tables e below (T21.setTop (mkF m 116 #[.val (.int va), .val (.int vb), .val (.int vc), .val (.int vd), .val (.int ve), .val (.int nA), .val (.int cA), .val (.int dA), .val (.int wA), .val (.int lA), .val (.int mA), .val (.int eA), .val (.int fA), .val (.int nid), .unset, .unset, .unset, .unset, .unset, .unset, .unset, .unset, .unset, .unset, .unset, .unset, .unset] [(.int (1 : Int32)), (.int ((vd.toUInt32 >>> ((16 : Int32) &&& 31).toUInt32).toInt32)), (.int (1 : Int32))])) _
      refine XS.iand X21.here hx rfl (hb hby at_116) rfl ?_
      show Steps p.tables e below (T21.setTop (mkF m 117 #[.val (.int va), .val (.int vb), .val (.int vc), .val (.int vd), .val (.int ve), .val (.int nA), .val (.int cA), .val (.int dA), .val (.int wA), .val (.int lA), .val (.int mA), .val (.int eA), .val (.int fA), .val (.int nid), .unset, .unset, .unset, .unset, .unset, .unset, .unset, .unset, .unset, .unset, .unset, .unset, .unset] [(.int (((vd.toUInt32 >>> ((16 : Int32) &&& 31).toUInt32).toInt32) &&& (1 : Int32))), (.int (1 : Int32))])) _
      refine XS.iadd X21.here hx rfl (hb hby at_117) rfl ?_
      show Steps p.tables e below (T21.setTop (mkF m 118 #[.val (.int va), .val (.int vb), .val (.int vc), .val (.int vd), .val (.int ve), .val (.int nA), .val (.int cA), .val (.int dA), .val (.int wA), .val (.int lA), .val (.int mA), .val (.int eA), .val (.int fA), .val (.int nid), .unset, .unset, .unset, .unset, .unset, .unset, .unset, .unset, .unset, .unset, .unset, .unset, .unset] [(.int ((1 : Int32) + (((vd.toUInt32 >>> ((16 : Int32) &&& 31).toUInt32).toInt32) &&& (1 : Int32))))])) _
      refine XS.goto X21.here hx rfl (pc0 := 118) (pc' := 123) rfl (hb hby at_118) (by decide) (by decide) ?_
      show Steps p.tables e below (T21.setTop (mkF m 123 #[.val (.int va), .val (.int vb), .val (.int vc), .val (.int vd), .val (.int ve), .val (.int nA), .val (.int cA), .val (.int dA), .val (.int wA), .val (.int lA), .val (.int mA), .val (.int eA), .val (.int fA), .val (.int nid), .unset, .unset, .unset, .unset, .unset, .unset, .unset, .unset, .unset, .unset, .unset, .unset, .unset] [(.int ((1 : Int32) + (((vd.toUInt32 >>> ((16 : Int32) &&& 31).toUInt32).toInt32) &&& (1 : Int32))))])) _
      exact k
  obtain ⟨l_nB, p_nB⟩ := hj25
  have pre28 : ∀ t, Steps p.tables e below (T25.setTop (mkF m 125 #[.val (.int va), .val (.int vb), .val (.int vc), .val (.int vd), .val (.int ve), .val (.int nA), .val (.int cA), .val (.int dA), .val (.int wA), .val (.int lA), .val (.int mA), .val (.int eA), .val (.int fA), .val (.int nid), .val (.int nB), .unset, .unset, .unset, .unset, .unset, .unset, .unset, .unset, .unset, .unset, .unset, .unset] [])) t → Steps p.tables e below (s₁.setTop (entryFrame m #[(.int va), (.int vb), (.int vc), (.int vd), (.int ve)] maxLocals)) t := by
    intro t k
    refine pre25 t ?_
    show Steps p.tables e below (T25.setTop (mkF m 123 #[.val (.int va), .val (.int vb), .val (.int vc), .val (.int vd), .val (.int ve), .val (.int nA), .val (.int cA), .val (.int dA), .val (.int wA), .val (.int lA), .val (.int mA), .val (.int eA), .val (.int fA), .val (.int nid), .unset, .unset, .unset, .unset, .unset, .unset, .unset, .unset, .unset, .unset, .unset, .unset, .unset] [(.int nB)])) _
    refine XS.istore X25.here hx rfl (hb hby at_123) rfl (l' := #[.val (.int va), .val (.int vb), .val (.int vc), .val (.int vd), .val (.int ve), .val (.int nA), .val (.int cA), .val (.int dA), .val (.int wA), .val (.int lA), .val (.int mA), .val (.int eA), .val (.int fA), .val (.int nid), .val (.int nB), .unset, .unset, .unset, .unset, .unset, .unset, .unset, .unset, .unset, .unset, .unset, .unset]) rfl ?_
    show Steps p.tables e below (T25.setTop (mkF m 125 #[.val (.int va), .val (.int vb), .val (.int vc), .val (.int vd), .val (.int ve), .val (.int nA), .val (.int cA), .val (.int dA), .val (.int wA), .val (.int lA), .val (.int mA), .val (.int eA), .val (.int fA), .val (.int nid), .val (.int nB), .unset, .unset, .unset, .unset, .unset, .unset, .unset, .unset, .unset, .unset, .unset, .unset] [])) _
    exact k
  obtain ⟨cB, T29, lo29, X29, Nj29, ej29, hj29, pre29⟩ : ∃ (cB : Int32) (T' : State) (lo : List Loc), Stand p l e room_1 s m #[(.int va), (.int vb), (.int vc), (.int vd), (.int ve)] below meth c T' lo 0 0 ∧ Fr n0 lo ∧ T'.heap = h0 ∧ (own_r cB) ∧ ∀ t, Steps p.tables e below (T'.setTop (mkF m 141 #[.val (.int va), .val (.int vb), .val (.int vc), .val (.int vd), .val (.int ve), .val (.int nA), .val (.int cA), .val (.int dA), .val (.int wA), .val (.int lA), .val (.int mA), .val (.int eA), .val (.int fA), .val (.int nid), .val (.int nB), .unset, .unset, .unset, .unset, .unset, .unset, .unset, .unset, .unset, .unset, .unset, .unset] [(.int cB)])) t → Steps p.tables e below (s₁.setTop (entryFrame m #[(.int va), (.int vb), (.int vc), (.int vd), (.int ve)] maxLocals)) t := by
    have pre30 : ∀ t, Steps p.tables e below (T25.setTop (mkF m 127 #[.val (.int va), .val (.int vb), .val (.int vc), .val (.int vd), .val (.int ve), .val (.int nA), .val (.int cA), .val (.int dA), .val (.int wA), .val (.int lA), .val (.int mA), .val (.int eA), .val (.int fA), .val (.int nid), .val (.int nB), .unset, .unset, .unset, .unset, .unset, .unset, .unset, .unset, .unset, .unset, .unset, .unset] [(.int nid)])) t → Steps p.tables e below (s₁.setTop (entryFrame m #[(.int va), (.int vb), (.int vc), (.int vd), (.int ve)] maxLocals)) t := by
      intro t k
      refine pre28 t ?_
      show Steps p.tables e below (T25.setTop (mkF m 125 #[.val (.int va), .val (.int vb), .val (.int vc), .val (.int vd), .val (.int ve), .val (.int nA), .val (.int cA), .val (.int dA), .val (.int wA), .val (.int lA), .val (.int mA), .val (.int eA), .val (.int fA), .val (.int nid), .val (.int nB), .unset, .unset, .unset, .unset, .unset, .unset, .unset, .unset, .unset, .unset, .unset, .unset] [])) _
      refine XS.iload X25.here hx rfl (hb hby at_125) rfl ?_
      show Steps p.tables e below (T25.setTop (mkF m 127 #[.val (.int va), .val (.int vb), .val (.int vc), .val (.int vd), .val (.int ve), .val (.int nA), .val (.int cA), .val (.int dA), .val (.int wA), .val (.int lA), .val (.int mA), .val (.int eA), .val (.int fA), .val (.int nid), .val (.int nB), .unset, .unset, .unset, .unset, .unset, .unset, .unset, .unset, .unset, .unset, .unset, .unset] [(.int nid)])) _
      exact k
    by_cases hc31 : nid = (0 : Int32)
    · refine ⟨cA, T25, _, X25, Nj25, ej25, r_cA, fun t k => ?_⟩
      refine pre30 t ?_
      show Steps p.tables e below (T25.setTop (mkF m 127 #[.val (.int va), .val (.int vb), .val (.int vc), .val (.int vd), .val (.int ve), .val (.int nA), .val (.int cA), .val (.int dA), .val (.int wA), .val (.int lA), .val (.int mA), .val (.int eA), .val (.int fA), .val (.int nid), .val (.int nB), .unset, .unset, .unset, .unset, .unset, .unset, .unset, .unset, .unset, .unset, .unset, .unset] [(.int nid)])) _
      refine XS.ifYes X25.here hx rfl (pc0 := 127) (pc' := 139) rfl (hb hby at_127) rfl ((if0 _ _).trans (teq hc31).1) (by decide) (by decide) ?_
      show Steps p.tables e below (T25.setTop (mkF m 139 #[.val (.int va), .val (.int vb), .val (.int vc), .val (.int vd), .val (.int ve), .val (.int nA), .val (.int cA), .val (.int dA), .val (.int wA), .val (.int lA), .val (.int mA), .val (.int eA), .val (.int fA), .val (.int nid), .val (.int nB), .unset, .unset, .unset, .unset, .unset, .unset, .unset, .unset, .unset, .unset, .unset, .unset] [])) _
      refine XS.iload X25.here hx rfl (hb hby at_139) rfl ?_
      show Steps p.tables e below (T25.setTop (mkF m 141 #[.val (.int va), .val (.int vb), .val (.int vc), .val (.int vd), .val (.int ve), .val (.int nA), .val (.int cA), .val (.int dA), .val (.int wA), .val (.int lA), .val (.int mA), .val (.int eA), .val (.int fA), .val (.int nid), .val (.int nB), .unset, .unset, .unset, .unset, .unset, .unset, .unset, .unset, .unset, .unset, .unset, .unset] [(.int cA)])) _
      exact k
    · refine ⟨((vd &&& (255 : Int32)).toUInt32.toUInt16.toUInt32.toInt32), T25, _, X25, Nj25, ej25, (own_rc rfl), fun t k => ?_⟩
      refine pre30 t ?_
      show Steps p.tables e below (T25.setTop (mkF m 127 #[.val (.int va), .val (.int vb), .val (.int vc), .val (.int vd), .val (.int ve), .val (.int nA), .val (.int cA), .val (.int dA), .val (.int wA), .val (.int lA), .val (.int mA), .val (.int eA), .val (.int fA), .val (.int nid), .val (.int nB), .unset, .unset, .unset, .unset, .unset, .unset, .unset, .unset, .unset, .unset, .unset, .unset] [(.int nid)])) _
      refine XS.ifNo X25.here hx rfl (hb hby at_127) rfl ((if0 _ _).trans (feq hc31).1) ?_
      show Steps p.tables e below (T25.setTop (mkF m 130 #[.val (.int va), .val (.int vb), .val (.int vc), .val (.int vd), .val (.int ve), .val (.int nA), .val (.int cA), .val (.int dA), .val (.int wA), .val (.int lA), .val (.int mA), .val (.int eA), .val (.int fA), .val (.int nid), .val (.int nB), .unset, .unset, .unset, .unset, .unset, .unset, .unset, .unset, .unset, .unset, .unset, .unset] [])) _
      refine XS.iloadN X25.here hx rfl (hb hby at_130) rfl ?_
      show Steps p.tables e below (T25.setTop (mkF m 131 #[.val (.int va), .val (.int vb), .val (.int vc), .val (.int vd), .val (.int ve), .val (.int nA), .val (.int cA), .val (.int dA), .val (.int wA), .val (.int lA), .val (.int mA), .val (.int eA), .val (.int fA), .val (.int nid), .val (.int nB), .unset, .unset, .unset, .unset, .unset, .unset, .unset, .unset, .unset, .unset, .unset, .unset] [(.int vd)])) _
      refine XS.sipush X25.here hx rfl (hb hby at_131) ?_
      show Steps p.tables e below (T25.setTop (mkF m 134 #[.val (.int va), .val (.int vb), .val (.int vc), .val (.int vd), .val (.int ve), .val (.int nA), .val (.int cA), .val (.int dA), .val (.int wA), .val (.int lA), .val (.int mA), .val (.int eA), .val (.int fA), .val (.int nid), .val (.int nB), .unset, .unset, .unset, .unset, .unset, .unset, .unset, .unset, .unset, .unset, .unset, .unset] [(.int (255 : Int32)), (.int vd)])) _
      refine XS.iand X25.here hx rfl (hb hby at_134) rfl ?_
      show Steps p.tables e below (T25.setTop (mkF m 135 #[.val (.int va), .val (.int vb), .val (.int vc), .val (.int vd), .val (.int ve), .val (.int nA), .val (.int cA), .val (.int dA), .val (.int wA), .val (.int lA), .val (.int mA), .val (.int eA), .val (.int fA), .val (.int nid), .val (.int nB), .unset, .unset, .unset, .unset, .unset, .unset, .unset, .unset, .unset, .unset, .unset, .unset] [(.int (vd &&& (255 : Int32)))])) _
      refine XS.i2c X25.here hx rfl (hb hby at_135) rfl ?_
      show Steps p.tables e below (T25.setTop (mkF m 136 #[.val (.int va), .val (.int vb), .val (.int vc), .val (.int vd), .val (.int ve), .val (.int nA), .val (.int cA), .val (.int dA), .val (.int wA), .val (.int lA), .val (.int mA), .val (.int eA), .val (.int fA), .val (.int nid), .val (.int nB), .unset, .unset, .unset, .unset, .unset, .unset, .unset, .unset, .unset, .unset, .unset, .unset] [(.int ((vd &&& (255 : Int32)).toUInt32.toUInt16.toUInt32.toInt32))])) _
      refine XS.goto X25.here hx rfl (pc0 := 136) (pc' := 141) rfl (hb hby at_136) (by decide) (by decide) ?_
      show Steps p.tables e below (T25.setTop (mkF m 141 #[.val (.int va), .val (.int vb), .val (.int vc), .val (.int vd), .val (.int ve), .val (.int nA), .val (.int cA), .val (.int dA), .val (.int wA), .val (.int lA), .val (.int mA), .val (.int eA), .val (.int fA), .val (.int nid), .val (.int nB), .unset, .unset, .unset, .unset, .unset, .unset, .unset, .unset, .unset, .unset, .unset, .unset] [(.int ((vd &&& (255 : Int32)).toUInt32.toUInt16.toUInt32.toInt32))])) _
      exact k
  have r_cB := hj29
  have pre32 : ∀ t, Steps p.tables e below (T29.setTop (mkF m 143 #[.val (.int va), .val (.int vb), .val (.int vc), .val (.int vd), .val (.int ve), .val (.int nA), .val (.int cA), .val (.int dA), .val (.int wA), .val (.int lA), .val (.int mA), .val (.int eA), .val (.int fA), .val (.int nid), .val (.int nB), .val (.int cB), .unset, .unset, .unset, .unset, .unset, .unset, .unset, .unset, .unset, .unset, .unset] [])) t → Steps p.tables e below (s₁.setTop (entryFrame m #[(.int va), (.int vb), (.int vc), (.int vd), (.int ve)] maxLocals)) t := by
    intro t k
    refine pre29 t ?_
    show Steps p.tables e below (T29.setTop (mkF m 141 #[.val (.int va), .val (.int vb), .val (.int vc), .val (.int vd), .val (.int ve), .val (.int nA), .val (.int cA), .val (.int dA), .val (.int wA), .val (.int lA), .val (.int mA), .val (.int eA), .val (.int fA), .val (.int nid), .val (.int nB), .unset, .unset, .unset, .unset, .unset, .unset, .unset, .unset, .unset, .unset, .unset, .unset] [(.int cB)])) _
    refine XS.istore X29.here hx rfl (hb hby at_141) rfl (l' := #[.val (.int va), .val (.int vb), .val (.int vc), .val (.int vd), .val (.int ve), .val (.int nA), .val (.int cA), .val (.int dA), .val (.int wA), .val (.int lA), .val (.int mA), .val (.int eA), .val (.int fA), .val (.int nid), .val (.int nB), .val (.int cB), .unset, .unset, .unset, .unset, .unset, .unset, .unset, .unset, .unset, .unset, .unset]) rfl ?_
    show Steps p.tables e below (T29.setTop (mkF m 143 #[.val (.int va), .val (.int vb), .val (.int vc), .val (.int vd), .val (.int ve), .val (.int nA), .val (.int cA), .val (.int dA), .val (.int wA), .val (.int lA), .val (.int mA), .val (.int eA), .val (.int fA), .val (.int nid), .val (.int nB), .val (.int cB), .unset, .unset, .unset, .unset, .unset, .unset, .unset, .unset, .unset, .unset, .unset] [])) _
    exact k
  obtain ⟨dB, T33, lo33, X33, Nj33, ej33, hj33, pre33⟩ : ∃ (dB : Int32) (T' : State) (lo : List Loc), Stand p l e room_1 s m #[(.int va), (.int vb), (.int vc), (.int vd), (.int ve)] below meth c T' lo 0 0 ∧ Fr n0 lo ∧ T'.heap = h0 ∧ (own_r dB) ∧ ∀ t, Steps p.tables e below (T'.setTop (mkF m 162 #[.val (.int va), .val (.int vb), .val (.int vc), .val (.int vd), .val (.int ve), .val (.int nA), .val (.int cA), .val (.int dA), .val (.int wA), .val (.int lA), .val (.int mA), .val (.int eA), .val (.int fA), .val (.int nid), .val (.int nB), .val (.int cB), .unset, .unset, .unset, .unset, .unset, .unset, .unset, .unset, .unset, .unset, .unset] [(.int dB)])) t → Steps p.tables e below (s₁.setTop (entryFrame m #[(.int va), (.int vb), (.int vc), (.int vd), (.int ve)] maxLocals)) t := by
    have pre34 : ∀ t, Steps p.tables e below (T29.setTop (mkF m 145 #[.val (.int va), .val (.int vb), .val (.int vc), .val (.int vd), .val (.int ve), .val (.int nA), .val (.int cA), .val (.int dA), .val (.int wA), .val (.int lA), .val (.int mA), .val (.int eA), .val (.int fA), .val (.int nid), .val (.int nB), .val (.int cB), .unset, .unset, .unset, .unset, .unset, .unset, .unset, .unset, .unset, .unset, .unset] [(.int nid)])) t → Steps p.tables e below (s₁.setTop (entryFrame m #[(.int va), (.int vb), (.int vc), (.int vd), (.int ve)] maxLocals)) t := by
      intro t k
      refine pre32 t ?_
      show Steps p.tables e below (T29.setTop (mkF m 143 #[.val (.int va), .val (.int vb), .val (.int vc), .val (.int vd), .val (.int ve), .val (.int nA), .val (.int cA), .val (.int dA), .val (.int wA), .val (.int lA), .val (.int mA), .val (.int eA), .val (.int fA), .val (.int nid), .val (.int nB), .val (.int cB), .unset, .unset, .unset, .unset, .unset, .unset, .unset, .unset, .unset, .unset, .unset] [])) _
      refine XS.iload X29.here hx rfl (hb hby at_143) rfl ?_
      show Steps p.tables e below (T29.setTop (mkF m 145 #[.val (.int va), .val (.int vb), .val (.int vc), .val (.int vd), .val (.int ve), .val (.int nA), .val (.int cA), .val (.int dA), .val (.int wA), .val (.int lA), .val (.int mA), .val (.int eA), .val (.int fA), .val (.int nid), .val (.int nB), .val (.int cB), .unset, .unset, .unset, .unset, .unset, .unset, .unset, .unset, .unset, .unset, .unset] [(.int nid)])) _
      exact k
    by_cases hc35 : nid = (0 : Int32)
    · refine ⟨dA, T29, _, X29, Nj29, ej29, r_dA, fun t k => ?_⟩
      refine pre34 t ?_
      show Steps p.tables e below (T29.setTop (mkF m 145 #[.val (.int va), .val (.int vb), .val (.int vc), .val (.int vd), .val (.int ve), .val (.int nA), .val (.int cA), .val (.int dA), .val (.int wA), .val (.int lA), .val (.int mA), .val (.int eA), .val (.int fA), .val (.int nid), .val (.int nB), .val (.int cB), .unset, .unset, .unset, .unset, .unset, .unset, .unset, .unset, .unset, .unset, .unset] [(.int nid)])) _
      refine XS.ifYes X29.here hx rfl (pc0 := 145) (pc' := 160) rfl (hb hby at_145) rfl ((if0 _ _).trans (teq hc35).1) (by decide) (by decide) ?_
      show Steps p.tables e below (T29.setTop (mkF m 160 #[.val (.int va), .val (.int vb), .val (.int vc), .val (.int vd), .val (.int ve), .val (.int nA), .val (.int cA), .val (.int dA), .val (.int wA), .val (.int lA), .val (.int mA), .val (.int eA), .val (.int fA), .val (.int nid), .val (.int nB), .val (.int cB), .unset, .unset, .unset, .unset, .unset, .unset, .unset, .unset, .unset, .unset, .unset] [])) _
      refine XS.iload X29.here hx rfl (hb hby at_160) rfl ?_
      show Steps p.tables e below (T29.setTop (mkF m 162 #[.val (.int va), .val (.int vb), .val (.int vc), .val (.int vd), .val (.int ve), .val (.int nA), .val (.int cA), .val (.int dA), .val (.int wA), .val (.int lA), .val (.int mA), .val (.int eA), .val (.int fA), .val (.int nid), .val (.int nB), .val (.int cB), .unset, .unset, .unset, .unset, .unset, .unset, .unset, .unset, .unset, .unset, .unset] [(.int dA)])) _
      exact k
    · refine ⟨((((vd.toUInt32 >>> ((8 : Int32) &&& 31).toUInt32).toInt32) &&& (255 : Int32)).toUInt32.toUInt16.toUInt32.toInt32), T29, _, X29, Nj29, ej29, (own_rc rfl), fun t k => ?_⟩
      refine pre34 t ?_
      show Steps p.tables e below (T29.setTop (mkF m 145 #[.val (.int va), .val (.int vb), .val (.int vc), .val (.int vd), .val (.int ve), .val (.int nA), .val (.int cA), .val (.int dA), .val (.int wA), .val (.int lA), .val (.int mA), .val (.int eA), .val (.int fA), .val (.int nid), .val (.int nB), .val (.int cB), .unset, .unset, .unset, .unset, .unset, .unset, .unset, .unset, .unset, .unset, .unset] [(.int nid)])) _
      refine XS.ifNo X29.here hx rfl (hb hby at_145) rfl ((if0 _ _).trans (feq hc35).1) ?_
      show Steps p.tables e below (T29.setTop (mkF m 148 #[.val (.int va), .val (.int vb), .val (.int vc), .val (.int vd), .val (.int ve), .val (.int nA), .val (.int cA), .val (.int dA), .val (.int wA), .val (.int lA), .val (.int mA), .val (.int eA), .val (.int fA), .val (.int nid), .val (.int nB), .val (.int cB), .unset, .unset, .unset, .unset, .unset, .unset, .unset, .unset, .unset, .unset, .unset] [])) _
      refine XS.iloadN X29.here hx rfl (hb hby at_148) rfl ?_
      show Steps p.tables e below (T29.setTop (mkF m 149 #[.val (.int va), .val (.int vb), .val (.int vc), .val (.int vd), .val (.int ve), .val (.int nA), .val (.int cA), .val (.int dA), .val (.int wA), .val (.int lA), .val (.int mA), .val (.int eA), .val (.int fA), .val (.int nid), .val (.int nB), .val (.int cB), .unset, .unset, .unset, .unset, .unset, .unset, .unset, .unset, .unset, .unset, .unset] [(.int vd)])) _
      refine XS.bipush X29.here hx rfl (hb hby at_149) ?_
      show Steps p.tables e below (T29.setTop (mkF m 151 #[.val (.int va), .val (.int vb), .val (.int vc), .val (.int vd), .val (.int ve), .val (.int nA), .val (.int cA), .val (.int dA), .val (.int wA), .val (.int lA), .val (.int mA), .val (.int eA), .val (.int fA), .val (.int nid), .val (.int nB), .val (.int cB), .unset, .unset, .unset, .unset, .unset, .unset, .unset, .unset, .unset, .unset, .unset] [(.int (8 : Int32)), (.int vd)])) _
      refine XS.iushr X29.here hx rfl (hb hby at_151) rfl ?_
      show Steps p.tables e below (T29.setTop (mkF m 152 #[.val (.int va), .val (.int vb), .val (.int vc), .val (.int vd), .val (.int ve), .val (.int nA), .val (.int cA), .val (.int dA), .val (.int wA), .val (.int lA), .val (.int mA), .val (.int eA), .val (.int fA), .val (.int nid), .val (.int nB), .val (.int cB), .unset, .unset, .unset, .unset, .unset, .unset, .unset, .unset, .unset, .unset, .unset] [(.int ((vd.toUInt32 >>> ((8 : Int32) &&& 31).toUInt32).toInt32))])) _
      refine XS.sipush X29.here hx rfl (hb hby at_152) ?_
      show Steps p.tables e below (T29.setTop (mkF m 155 #[.val (.int va), .val (.int vb), .val (.int vc), .val (.int vd), .val (.int ve), .val (.int nA), .val (.int cA), .val (.int dA), .val (.int wA), .val (.int lA), .val (.int mA), .val (.int eA), .val (.int fA), .val (.int nid), .val (.int nB), .val (.int cB), .unset, .unset, .unset, .unset, .unset, .unset, .unset, .unset, .unset, .unset, .unset] [(.int (255 : Int32)), (.int ((vd.toUInt32 >>> ((8 : Int32) &&& 31).toUInt32).toInt32))])) _
      refine XS.iand X29.here hx rfl (hb hby at_155) rfl ?_
      show Steps p.tables e below (T29.setTop (mkF m 156 #[.val (.int va), .val (.int vb), .val (.int vc), .val (.int vd), .val (.int ve), .val (.int nA), .val (.int cA), .val (.int dA), .val (.int wA), .val (.int lA), .val (.int mA), .val (.int eA), .val (.int fA), .val (.int nid), .val (.int nB), .val (.int cB), .unset, .unset, .unset, .unset, .unset, .unset, .unset, .unset, .unset, .unset, .unset] [(.int (((vd.toUInt32 >>> ((8 : Int32) &&& 31).toUInt32).toInt32) &&& (255 : Int32)))])) _
      refine XS.i2c X29.here hx rfl (hb hby at_156) rfl ?_
      show Steps p.tables e below (T29.setTop (mkF m 157 #[.val (.int va), .val (.int vb), .val (.int vc), .val (.int vd), .val (.int ve), .val (.int nA), .val (.int cA), .val (.int dA), .val (.int wA), .val (.int lA), .val (.int mA), .val (.int eA), .val (.int fA), .val (.int nid), .val (.int nB), .val (.int cB), .unset, .unset, .unset, .unset, .unset, .unset, .unset, .unset, .unset, .unset, .unset] [(.int ((((vd.toUInt32 >>> ((8 : Int32) &&& 31).toUInt32).toInt32) &&& (255 : Int32)).toUInt32.toUInt16.toUInt32.toInt32))])) _
      refine XS.goto X29.here hx rfl (pc0 := 157) (pc' := 162) rfl (hb hby at_157) (by decide) (by decide) ?_
      show Steps p.tables e below (T29.setTop (mkF m 162 #[.val (.int va), .val (.int vb), .val (.int vc), .val (.int vd), .val (.int ve), .val (.int nA), .val (.int cA), .val (.int dA), .val (.int wA), .val (.int lA), .val (.int mA), .val (.int eA), .val (.int fA), .val (.int nid), .val (.int nB), .val (.int cB), .unset, .unset, .unset, .unset, .unset, .unset, .unset, .unset, .unset, .unset, .unset] [(.int ((((vd.toUInt32 >>> ((8 : Int32) &&& 31).toUInt32).toInt32) &&& (255 : Int32)).toUInt32.toUInt16.toUInt32.toInt32))])) _
      exact k
  have r_dB := hj33
  have pre36 : ∀ t, Steps p.tables e below (T33.setTop (mkF m 164 #[.val (.int va), .val (.int vb), .val (.int vc), .val (.int vd), .val (.int ve), .val (.int nA), .val (.int cA), .val (.int dA), .val (.int wA), .val (.int lA), .val (.int mA), .val (.int eA), .val (.int fA), .val (.int nid), .val (.int nB), .val (.int cB), .val (.int dB), .unset, .unset, .unset, .unset, .unset, .unset, .unset, .unset, .unset, .unset] [])) t → Steps p.tables e below (s₁.setTop (entryFrame m #[(.int va), (.int vb), (.int vc), (.int vd), (.int ve)] maxLocals)) t := by
    intro t k
    refine pre33 t ?_
    show Steps p.tables e below (T33.setTop (mkF m 162 #[.val (.int va), .val (.int vb), .val (.int vc), .val (.int vd), .val (.int ve), .val (.int nA), .val (.int cA), .val (.int dA), .val (.int wA), .val (.int lA), .val (.int mA), .val (.int eA), .val (.int fA), .val (.int nid), .val (.int nB), .val (.int cB), .unset, .unset, .unset, .unset, .unset, .unset, .unset, .unset, .unset, .unset, .unset] [(.int dB)])) _
    refine XS.istore X33.here hx rfl (hb hby at_162) rfl (l' := #[.val (.int va), .val (.int vb), .val (.int vc), .val (.int vd), .val (.int ve), .val (.int nA), .val (.int cA), .val (.int dA), .val (.int wA), .val (.int lA), .val (.int mA), .val (.int eA), .val (.int fA), .val (.int nid), .val (.int nB), .val (.int cB), .val (.int dB), .unset, .unset, .unset, .unset, .unset, .unset, .unset, .unset, .unset, .unset]) rfl ?_
    show Steps p.tables e below (T33.setTop (mkF m 164 #[.val (.int va), .val (.int vb), .val (.int vc), .val (.int vd), .val (.int ve), .val (.int nA), .val (.int cA), .val (.int dA), .val (.int wA), .val (.int lA), .val (.int mA), .val (.int eA), .val (.int fA), .val (.int nid), .val (.int nB), .val (.int cB), .val (.int dB), .unset, .unset, .unset, .unset, .unset, .unset, .unset, .unset, .unset, .unset] [])) _
    exact k
  obtain ⟨ncp, T37, lo37, X37, Nj37, ej37, hj37, pre37⟩ : ∃ (ncp : Int32) (T' : State) (lo : List Loc), Stand p l e room_1 s m #[(.int va), (.int vb), (.int vc), (.int vd), (.int ve)] below meth c T' lo 0 0 ∧ Fr n0 lo ∧ T'.heap = h0 ∧ (ncp = 0 ∨ ncp = 1) ∧ ∀ t, Steps p.tables e below (T'.setTop (mkF m 175 #[.val (.int va), .val (.int vb), .val (.int vc), .val (.int vd), .val (.int ve), .val (.int nA), .val (.int cA), .val (.int dA), .val (.int wA), .val (.int lA), .val (.int mA), .val (.int eA), .val (.int fA), .val (.int nid), .val (.int nB), .val (.int cB), .val (.int dB), .unset, .unset, .unset, .unset, .unset, .unset, .unset, .unset, .unset, .unset] [(.int ncp)])) t → Steps p.tables e below (s₁.setTop (entryFrame m #[(.int va), (.int vb), (.int vc), (.int vd), (.int ve)] maxLocals)) t := by
    have pre38 : ∀ t, Steps p.tables e below (T33.setTop (mkF m 167 #[.val (.int va), .val (.int vb), .val (.int vc), .val (.int vd), .val (.int ve), .val (.int nA), .val (.int cA), .val (.int dA), .val (.int wA), .val (.int lA), .val (.int mA), .val (.int eA), .val (.int fA), .val (.int nid), .val (.int nB), .val (.int cB), .val (.int dB), .unset, .unset, .unset, .unset, .unset, .unset, .unset, .unset, .unset, .unset] [(.int (vc &&& (2 : Int32)))])) t → Steps p.tables e below (s₁.setTop (entryFrame m #[(.int va), (.int vb), (.int vc), (.int vd), (.int ve)] maxLocals)) t := by
      intro t k
      refine pre36 t ?_
      show Steps p.tables e below (T33.setTop (mkF m 164 #[.val (.int va), .val (.int vb), .val (.int vc), .val (.int vd), .val (.int ve), .val (.int nA), .val (.int cA), .val (.int dA), .val (.int wA), .val (.int lA), .val (.int mA), .val (.int eA), .val (.int fA), .val (.int nid), .val (.int nB), .val (.int cB), .val (.int dB), .unset, .unset, .unset, .unset, .unset, .unset, .unset, .unset, .unset, .unset] [])) _
      refine XS.iloadN X33.here hx rfl (hb hby at_164) rfl ?_
      show Steps p.tables e below (T33.setTop (mkF m 165 #[.val (.int va), .val (.int vb), .val (.int vc), .val (.int vd), .val (.int ve), .val (.int nA), .val (.int cA), .val (.int dA), .val (.int wA), .val (.int lA), .val (.int mA), .val (.int eA), .val (.int fA), .val (.int nid), .val (.int nB), .val (.int cB), .val (.int dB), .unset, .unset, .unset, .unset, .unset, .unset, .unset, .unset, .unset, .unset] [(.int vc)])) _
      refine XS.iconst X33.here hx rfl (hb hby at_165) ?_
      show Steps p.tables e below (T33.setTop (mkF m 166 #[.val (.int va), .val (.int vb), .val (.int vc), .val (.int vd), .val (.int ve), .val (.int nA), .val (.int cA), .val (.int dA), .val (.int wA), .val (.int lA), .val (.int mA), .val (.int eA), .val (.int fA), .val (.int nid), .val (.int nB), .val (.int cB), .val (.int dB), .unset, .unset, .unset, .unset, .unset, .unset, .unset, .unset, .unset, .unset] [(.int (2 : Int32)), (.int vc)])) _
      refine XS.iand X33.here hx rfl (hb hby at_166) rfl ?_
      show Steps p.tables e below (T33.setTop (mkF m 167 #[.val (.int va), .val (.int vb), .val (.int vc), .val (.int vd), .val (.int ve), .val (.int nA), .val (.int cA), .val (.int dA), .val (.int wA), .val (.int lA), .val (.int mA), .val (.int eA), .val (.int fA), .val (.int nid), .val (.int nB), .val (.int cB), .val (.int dB), .unset, .unset, .unset, .unset, .unset, .unset, .unset, .unset, .unset, .unset] [(.int (vc &&& (2 : Int32)))])) _
      exact k
    by_cases hc39 : (vc &&& (2 : Int32)) = (0 : Int32)
    · refine ⟨(0 : Int32), T33, _, X33, Nj33, ej33, Or.inl rfl, fun t k => ?_⟩
      refine pre38 t ?_
      show Steps p.tables e below (T33.setTop (mkF m 167 #[.val (.int va), .val (.int vb), .val (.int vc), .val (.int vd), .val (.int ve), .val (.int nA), .val (.int cA), .val (.int dA), .val (.int wA), .val (.int lA), .val (.int mA), .val (.int eA), .val (.int fA), .val (.int nid), .val (.int nB), .val (.int cB), .val (.int dB), .unset, .unset, .unset, .unset, .unset, .unset, .unset, .unset, .unset, .unset] [(.int (vc &&& (2 : Int32)))])) _
      refine XS.ifYes X33.here hx rfl (pc0 := 167) (pc' := 174) rfl (hb hby at_167) rfl ((if0 _ _).trans (teq hc39).1) (by decide) (by decide) ?_
      show Steps p.tables e below (T33.setTop (mkF m 174 #[.val (.int va), .val (.int vb), .val (.int vc), .val (.int vd), .val (.int ve), .val (.int nA), .val (.int cA), .val (.int dA), .val (.int wA), .val (.int lA), .val (.int mA), .val (.int eA), .val (.int fA), .val (.int nid), .val (.int nB), .val (.int cB), .val (.int dB), .unset, .unset, .unset, .unset, .unset, .unset, .unset, .unset, .unset, .unset] [])) _
      refine XS.iconst X33.here hx rfl (hb hby at_174) ?_
      show Steps p.tables e below (T33.setTop (mkF m 175 #[.val (.int va), .val (.int vb), .val (.int vc), .val (.int vd), .val (.int ve), .val (.int nA), .val (.int cA), .val (.int dA), .val (.int wA), .val (.int lA), .val (.int mA), .val (.int eA), .val (.int fA), .val (.int nid), .val (.int nB), .val (.int cB), .val (.int dB), .unset, .unset, .unset, .unset, .unset, .unset, .unset, .unset, .unset, .unset] [(.int (0 : Int32))])) _
      exact k
    · refine ⟨(1 : Int32), T33, _, X33, Nj33, ej33, Or.inr rfl, fun t k => ?_⟩
      refine pre38 t ?_
      show Steps p.tables e below (T33.setTop (mkF m 167 #[.val (.int va), .val (.int vb), .val (.int vc), .val (.int vd), .val (.int ve), .val (.int nA), .val (.int cA), .val (.int dA), .val (.int wA), .val (.int lA), .val (.int mA), .val (.int eA), .val (.int fA), .val (.int nid), .val (.int nB), .val (.int cB), .val (.int dB), .unset, .unset, .unset, .unset, .unset, .unset, .unset, .unset, .unset, .unset] [(.int (vc &&& (2 : Int32)))])) _
      refine XS.ifNo X33.here hx rfl (hb hby at_167) rfl ((if0 _ _).trans (feq hc39).1) ?_
      show Steps p.tables e below (T33.setTop (mkF m 170 #[.val (.int va), .val (.int vb), .val (.int vc), .val (.int vd), .val (.int ve), .val (.int nA), .val (.int cA), .val (.int dA), .val (.int wA), .val (.int lA), .val (.int mA), .val (.int eA), .val (.int fA), .val (.int nid), .val (.int nB), .val (.int cB), .val (.int dB), .unset, .unset, .unset, .unset, .unset, .unset, .unset, .unset, .unset, .unset] [])) _
      refine XS.iconst X33.here hx rfl (hb hby at_170) ?_
      show Steps p.tables e below (T33.setTop (mkF m 171 #[.val (.int va), .val (.int vb), .val (.int vc), .val (.int vd), .val (.int ve), .val (.int nA), .val (.int cA), .val (.int dA), .val (.int wA), .val (.int lA), .val (.int mA), .val (.int eA), .val (.int fA), .val (.int nid), .val (.int nB), .val (.int cB), .val (.int dB), .unset, .unset, .unset, .unset, .unset, .unset, .unset, .unset, .unset, .unset] [(.int (1 : Int32))])) _
      refine XS.goto X33.here hx rfl (pc0 := 171) (pc' := 175) rfl (hb hby at_171) (by decide) (by decide) ?_
      show Steps p.tables e below (T33.setTop (mkF m 175 #[.val (.int va), .val (.int vb), .val (.int vc), .val (.int vd), .val (.int ve), .val (.int nA), .val (.int cA), .val (.int dA), .val (.int wA), .val (.int lA), .val (.int mA), .val (.int eA), .val (.int fA), .val (.int nid), .val (.int nB), .val (.int cB), .val (.int dB), .unset, .unset, .unset, .unset, .unset, .unset, .unset, .unset, .unset, .unset] [(.int (1 : Int32))])) _
      exact k
  have b_ncp := hj37
  have pre40 : ∀ t, Steps p.tables e below (T37.setTop (mkF m 177 #[.val (.int va), .val (.int vb), .val (.int vc), .val (.int vd), .val (.int ve), .val (.int nA), .val (.int cA), .val (.int dA), .val (.int wA), .val (.int lA), .val (.int mA), .val (.int eA), .val (.int fA), .val (.int nid), .val (.int nB), .val (.int cB), .val (.int dB), .val (.int ncp), .unset, .unset, .unset, .unset, .unset, .unset, .unset, .unset, .unset] [])) t → Steps p.tables e below (s₁.setTop (entryFrame m #[(.int va), (.int vb), (.int vc), (.int vd), (.int ve)] maxLocals)) t := by
    intro t k
    refine pre37 t ?_
    show Steps p.tables e below (T37.setTop (mkF m 175 #[.val (.int va), .val (.int vb), .val (.int vc), .val (.int vd), .val (.int ve), .val (.int nA), .val (.int cA), .val (.int dA), .val (.int wA), .val (.int lA), .val (.int mA), .val (.int eA), .val (.int fA), .val (.int nid), .val (.int nB), .val (.int cB), .val (.int dB), .unset, .unset, .unset, .unset, .unset, .unset, .unset, .unset, .unset, .unset] [(.int ncp)])) _
    refine XS.istore X37.here hx rfl (hb hby at_175) rfl (l' := #[.val (.int va), .val (.int vb), .val (.int vc), .val (.int vd), .val (.int ve), .val (.int nA), .val (.int cA), .val (.int dA), .val (.int wA), .val (.int lA), .val (.int mA), .val (.int eA), .val (.int fA), .val (.int nid), .val (.int nB), .val (.int cB), .val (.int dB), .val (.int ncp), .unset, .unset, .unset, .unset, .unset, .unset, .unset, .unset, .unset]) rfl ?_
    show Steps p.tables e below (T37.setTop (mkF m 177 #[.val (.int va), .val (.int vb), .val (.int vc), .val (.int vd), .val (.int ve), .val (.int nA), .val (.int cA), .val (.int dA), .val (.int wA), .val (.int lA), .val (.int mA), .val (.int eA), .val (.int fA), .val (.int nid), .val (.int nB), .val (.int cB), .val (.int dB), .val (.int ncp), .unset, .unset, .unset, .unset, .unset, .unset, .unset, .unset, .unset] [])) _
    exact k
  obtain ⟨mB, T41, lo41, X41, Nj41, ej41, hj41, pre41⟩ : ∃ (mB : Int32) (T' : State) (lo : List Loc), Stand p l e room_1 s m #[(.int va), (.int vb), (.int vc), (.int vd), (.int ve)] below meth c T' lo 0 0 ∧ Fr n0 lo ∧ T'.heap = h0 ∧ (mB = 0 ∨ mB = 1 ∨ mB = 2) ∧ ∀ t, Steps p.tables e below (T'.setTop (mkF m 198 #[.val (.int va), .val (.int vb), .val (.int vc), .val (.int vd), .val (.int ve), .val (.int nA), .val (.int cA), .val (.int dA), .val (.int wA), .val (.int lA), .val (.int mA), .val (.int eA), .val (.int fA), .val (.int nid), .val (.int nB), .val (.int cB), .val (.int dB), .val (.int ncp), .unset, .unset, .unset, .unset, .unset, .unset, .unset, .unset, .unset] [(.int mB)])) t → Steps p.tables e below (s₁.setTop (entryFrame m #[(.int va), (.int vb), (.int vc), (.int vd), (.int ve)] maxLocals)) t := by
    have pre42 : ∀ t, Steps p.tables e below (T37.setTop (mkF m 179 #[.val (.int va), .val (.int vb), .val (.int vc), .val (.int vd), .val (.int ve), .val (.int nA), .val (.int cA), .val (.int dA), .val (.int wA), .val (.int lA), .val (.int mA), .val (.int eA), .val (.int fA), .val (.int nid), .val (.int nB), .val (.int cB), .val (.int dB), .val (.int ncp), .unset, .unset, .unset, .unset, .unset, .unset, .unset, .unset, .unset] [(.int ncp)])) t → Steps p.tables e below (s₁.setTop (entryFrame m #[(.int va), (.int vb), (.int vc), (.int vd), (.int ve)] maxLocals)) t := by
      intro t k
      refine pre40 t ?_
      show Steps p.tables e below (T37.setTop (mkF m 177 #[.val (.int va), .val (.int vb), .val (.int vc), .val (.int vd), .val (.int ve), .val (.int nA), .val (.int cA), .val (.int dA), .val (.int wA), .val (.int lA), .val (.int mA), .val (.int eA), .val (.int fA), .val (.int nid), .val (.int nB), .val (.int cB), .val (.int dB), .val (.int ncp), .unset, .unset, .unset, .unset, .unset, .unset, .unset, .unset, .unset] [])) _
      refine XS.iload X37.here hx rfl (hb hby at_177) rfl ?_
      show Steps p.tables e below (T37.setTop (mkF m 179 #[.val (.int va), .val (.int vb), .val (.int vc), .val (.int vd), .val (.int ve), .val (.int nA), .val (.int cA), .val (.int dA), .val (.int wA), .val (.int lA), .val (.int mA), .val (.int eA), .val (.int fA), .val (.int nid), .val (.int nB), .val (.int cB), .val (.int dB), .val (.int ncp), .unset, .unset, .unset, .unset, .unset, .unset, .unset, .unset, .unset] [(.int ncp)])) _
      exact k
    by_cases hc43 : ncp = (0 : Int32)
    · refine ⟨mA, T37, _, X37, Nj37, ej37, l_mA, fun t k => ?_⟩
      refine pre42 t ?_
      show Steps p.tables e below (T37.setTop (mkF m 179 #[.val (.int va), .val (.int vb), .val (.int vc), .val (.int vd), .val (.int ve), .val (.int nA), .val (.int cA), .val (.int dA), .val (.int wA), .val (.int lA), .val (.int mA), .val (.int eA), .val (.int fA), .val (.int nid), .val (.int nB), .val (.int cB), .val (.int dB), .val (.int ncp), .unset, .unset, .unset, .unset, .unset, .unset, .unset, .unset, .unset] [(.int ncp)])) _
      refine XS.ifYes X37.here hx rfl (pc0 := 179) (pc' := 196) rfl (hb hby at_179) rfl ((if0 _ _).trans (teq hc43).1) (by decide) (by decide) ?_
      show Steps p.tables e below (T37.setTop (mkF m 196 #[.val (.int va), .val (.int vb), .val (.int vc), .val (.int vd), .val (.int ve), .val (.int nA), .val (.int cA), .val (.int dA), .val (.int wA), .val (.int lA), .val (.int mA), .val (.int eA), .val (.int fA), .val (.int nid), .val (.int nB), .val (.int cB), .val (.int dB), .val (.int ncp), .unset, .unset, .unset, .unset, .unset, .unset, .unset, .unset, .unset] [])) _
      refine XS.iload X37.here hx rfl (hb hby at_196) rfl ?_
      show Steps p.tables e below (T37.setTop (mkF m 198 #[.val (.int va), .val (.int vb), .val (.int vc), .val (.int vd), .val (.int ve), .val (.int nA), .val (.int cA), .val (.int dA), .val (.int wA), .val (.int lA), .val (.int mA), .val (.int eA), .val (.int fA), .val (.int nid), .val (.int nB), .val (.int cB), .val (.int dB), .val (.int ncp), .unset, .unset, .unset, .unset, .unset, .unset, .unset, .unset, .unset] [(.int mA)])) _
      exact k
    · obtain ⟨_, _, ⟨T44, L44, k44, n44⟩, -, X44, ⟨Lc44, hQ44, l44, y44, z44⟩, st44⟩ := Jvm.LawKit.callS X37 hx (y := (⟨"java/lang/Math", "min", "(II)I"⟩ : MethodName)) hown (mvT hZ (hw _ (List.mem_of_getElem? (i := 0) rfl))) (mvT hZ (hw _ (List.mem_of_getElem? (i := 1) rfl))) (mvT hZ (hw _ (List.mem_of_getElem? (i := 2) rfl))) (mvT hZ (hw _ (List.mem_of_getElem? (i := 3) rfl))) (by decide) (backOf (W := 0) (rm_min l Z a0 hw [] (((ve.toUInt32 >>> ((16 : Int32) &&& 31).toUInt32).toInt32) &&& (3 : Int32)) (2 : Int32) h0 n0 Z0 ) hZ (hw _ (List.mem_of_getElem? (i := 3) rfl)) (hw _ (List.mem_of_getElem? (i := 2) rfl)) (by decide) (by decide)) (g := (mkF m 190 #[.val (.int va), .val (.int vb), .val (.int vc), .val (.int vd), .val (.int ve), .val (.int nA), .val (.int cA), .val (.int dA), .val (.int wA), .val (.int lA), .val (.int mA), .val (.int eA), .val (.int fA), .val (.int nid), .val (.int nB), .val (.int cB), .val (.int dB), .val (.int ncp), .unset, .unset, .unset, .unset, .unset, .unset, .unset, .unset, .unset] [(.int (2 : Int32)), (.int (((ve.toUInt32 >>> ((16 : Int32) &&& 31).toUInt32).toInt32) &&& (3 : Int32)))])) rfl (by rw [hml]; rfl) (argsL := [(.int (((ve.toUInt32 >>> ((16 : Int32) &&& 31).toUInt32).toInt32) &&& (3 : Int32))), (.int (2 : Int32))]) (rest := []) (lenOf own_pd9 rfl) rfl (by show 2 * 0 + _ ≤ _; exact Nat.le_of_eq rfl) (hb hby at_190) (fun _ _ => ⟨rfl, ej37, (by decide : 0 + 0 ≤ _), (by decide : 0 + 0 ≤ _)⟩)
      dsimp only [Pt.U, Pt.locs, Pt.cells, Pt.slots] at X44 l44 y44 z44 st44 hQ44
      subst l44 y44 z44
      obtain ⟨rfl, Nq44, hh44⟩ := hQ44
      have Nf44 := Fr.app Nj37 Nq44
      refine ⟨(own_min (((ve.toUInt32 >>> ((16 : Int32) &&& 31).toUInt32).toInt32) &&& (3 : Int32)) (2 : Int32)), T44, _, X44, Nf44, hh44, (own_lenmin rfl), fun t k => ?_⟩
      refine pre42 t ?_
      show Steps p.tables e below (T37.setTop (mkF m 179 #[.val (.int va), .val (.int vb), .val (.int vc), .val (.int vd), .val (.int ve), .val (.int nA), .val (.int cA), .val (.int dA), .val (.int wA), .val (.int lA), .val (.int mA), .val (.int eA), .val (.int fA), .val (.int nid), .val (.int nB), .val (.int cB), .val (.int dB), .val (.int ncp), .unset, .unset, .unset, .unset, .unset, .unset, .unset, .unset, .unset] [(.int ncp)])) _
      refine XS.ifNo X37.here hx rfl (hb hby at_179) rfl ((if0 _ _).trans (feq hc43).1) ?_
      show Steps p.tables e below (T37.setTop (mkF m 182 #[.val (.int va), .val (.int vb), .val (.int vc), .val (.int vd), .val (.int ve), .val (.int nA), .val (.int cA), .val (.int dA), .val (.int wA), .val (.int lA), .val (.int mA), .val (.int eA), .val (.int fA), .val (.int nid), .val (.int nB), .val (.int cB), .val (.int dB), .val (.int ncp), .unset, .unset, .unset, .unset, .unset, .unset, .unset, .unset, .unset] [])) _
      refine XS.iload X37.here hx rfl (hb hby at_182) rfl ?_
      show Steps p.tables e below (T37.setTop (mkF m 184 #[.val (.int va), .val (.int vb), .val (.int vc), .val (.int vd), .val (.int ve), .val (.int nA), .val (.int cA), .val (.int dA), .val (.int wA), .val (.int lA), .val (.int mA), .val (.int eA), .val (.int fA), .val (.int nid), .val (.int nB), .val (.int cB), .val (.int dB), .val (.int ncp), .unset, .unset, .unset, .unset, .unset, .unset, .unset, .unset, .unset] [(.int ve)])) _
      refine XS.bipush X37.here hx rfl (hb hby at_184) ?_
      show Steps p.tables e below (T37.setTop (mkF m 186 #[.val (.int va), .val (.int vb), .val (.int vc), .val (.int vd), .val (.int ve), .val (.int nA), .val (.int cA), .val (.int dA), .val (.int wA), .val (.int lA), .val (.int mA), .val (.int eA), .val (.int fA), .val (.int nid), .val (.int nB), .val (.int cB), .val (.int dB), .val (.int ncp), .unset, .unset, .unset, .unset, .unset, .unset, .unset, .unset, .unset] [(.int (16 : Int32)), (.int ve)])) _
      refine XS.iushr X37.here hx rfl (hb hby at_186) rfl ?_
      show Steps p.tables e below (T37.setTop (mkF m 187 #[.val (.int va), .val (.int vb), .val (.int vc), .val (.int vd), .val (.int ve), .val (.int nA), .val (.int cA), .val (.int dA), .val (.int wA), .val (.int lA), .val (.int mA), .val (.int eA), .val (.int fA), .val (.int nid), .val (.int nB), .val (.int cB), .val (.int dB), .val (.int ncp), .unset, .unset, .unset, .unset, .unset, .unset, .unset, .unset, .unset] [(.int ((ve.toUInt32 >>> ((16 : Int32) &&& 31).toUInt32).toInt32))])) _
      refine XS.iconst X37.here hx rfl (hb hby at_187) ?_
      show Steps p.tables e below (T37.setTop (mkF m 188 #[.val (.int va), .val (.int vb), .val (.int vc), .val (.int vd), .val (.int ve), .val (.int nA), .val (.int cA), .val (.int dA), .val (.int wA), .val (.int lA), .val (.int mA), .val (.int eA), .val (.int fA), .val (.int nid), .val (.int nB), .val (.int cB), .val (.int dB), .val (.int ncp), .unset, .unset, .unset, .unset, .unset, .unset, .unset, .unset, .unset] [(.int (3 : Int32)), (.int ((ve.toUInt32 >>> ((16 : Int32) &&& 31).toUInt32).toInt32))])) _
      refine XS.iand X37.here hx rfl (hb hby at_188) rfl ?_
      show Steps p.tables e below (T37.setTop (mkF m 189 #[.val (.int va), .val (.int vb), .val (.int vc), .val (.int vd), .val (.int ve), .val (.int nA), .val (.int cA), .val (.int dA), .val (.int wA), .val (.int lA), .val (.int mA), .val (.int eA), .val (.int fA), .val (.int nid), .val (.int nB), .val (.int cB), .val (.int dB), .val (.int ncp), .unset, .unset, .unset, .unset, .unset, .unset, .unset, .unset, .unset] [(.int (((ve.toUInt32 >>> ((16 : Int32) &&& 31).toUInt32).toInt32) &&& (3 : Int32)))])) _
      refine XS.iconst X37.here hx rfl (hb hby at_189) ?_
      show Steps p.tables e below (T37.setTop (mkF m 190 #[.val (.int va), .val (.int vb), .val (.int vc), .val (.int vd), .val (.int ve), .val (.int nA), .val (.int cA), .val (.int dA), .val (.int wA), .val (.int lA), .val (.int mA), .val (.int eA), .val (.int fA), .val (.int nid), .val (.int nB), .val (.int cB), .val (.int dB), .val (.int ncp), .unset, .unset, .unset, .unset, .unset, .unset, .unset, .unset, .unset] [(.int (2 : Int32)), (.int (((ve.toUInt32 >>> ((16 : Int32) &&& 31).toUInt32).toInt32) &&& (3 : Int32)))])) _
      refine st44 _ ?_
      show Steps p.tables e below (T44.setTop (mkF m 193 #[.val (.int va), .val (.int vb), .val (.int vc), .val (.int vd), .val (.int ve), .val (.int nA), .val (.int cA), .val (.int dA), .val (.int wA), .val (.int lA), .val (.int mA), .val (.int eA), .val (.int fA), .val (.int nid), .val (.int nB), .val (.int cB), .val (.int dB), .val (.int ncp), .unset, .unset, .unset, .unset, .unset, .unset, .unset, .unset, .unset] [(.int (own_min (((ve.toUInt32 >>> ((16 : Int32) &&& 31).toUInt32).toInt32) &&& (3 : Int32)) (2 : Int32)))])) _
      refine XS.goto X44.here hx rfl (pc0 := 193) (pc' := 198) rfl (hb hby at_193) (by decide) (by decide) ?_
      show Steps p.tables e below (T44.setTop (mkF m 198 #[.val (.int va), .val (.int vb), .val (.int vc), .val (.int vd), .val (.int ve), .val (.int nA), .val (.int cA), .val (.int dA), .val (.int wA), .val (.int lA), .val (.int mA), .val (.int eA), .val (.int fA), .val (.int nid), .val (.int nB), .val (.int cB), .val (.int dB), .val (.int ncp), .unset, .unset, .unset, .unset, .unset, .unset, .unset, .unset, .unset] [(.int (own_min (((ve.toUInt32 >>> ((16 : Int32) &&& 31).toUInt32).toInt32) &&& (3 : Int32)) (2 : Int32)))])) _
      exact k
  have l_mB := hj41
  have pre45 : ∀ t, Steps p.tables e below (T41.setTop (mkF m 200 #[.val (.int va), .val (.int vb), .val (.int vc), .val (.int vd), .val (.int ve), .val (.int nA), .val (.int cA), .val (.int dA), .val (.int wA), .val (.int lA), .val (.int mA), .val (.int eA), .val (.int fA), .val (.int nid), .val (.int nB), .val (.int cB), .val (.int dB), .val (.int ncp), .val (.int mB), .unset, .unset, .unset, .unset, .unset, .unset, .unset, .unset] [])) t → Steps p.tables e below (s₁.setTop (entryFrame m #[(.int va), (.int vb), (.int vc), (.int vd), (.int ve)] maxLocals)) t := by
    intro t k
    refine pre41 t ?_
    show Steps p.tables e below (T41.setTop (mkF m 198 #[.val (.int va), .val (.int vb), .val (.int vc), .val (.int vd), .val (.int ve), .val (.int nA), .val (.int cA), .val (.int dA), .val (.int wA), .val (.int lA), .val (.int mA), .val (.int eA), .val (.int fA), .val (.int nid), .val (.int nB), .val (.int cB), .val (.int dB), .val (.int ncp), .unset, .unset, .unset, .unset, .unset, .unset, .unset, .unset, .unset] [(.int mB)])) _
    refine XS.istore X41.here hx rfl (hb hby at_198) rfl (l' := #[.val (.int va), .val (.int vb), .val (.int vc), .val (.int vd), .val (.int ve), .val (.int nA), .val (.int cA), .val (.int dA), .val (.int wA), .val (.int lA), .val (.int mA), .val (.int eA), .val (.int fA), .val (.int nid), .val (.int nB), .val (.int cB), .val (.int dB), .val (.int ncp), .val (.int mB), .unset, .unset, .unset, .unset, .unset, .unset, .unset, .unset]) rfl ?_
    show Steps p.tables e below (T41.setTop (mkF m 200 #[.val (.int va), .val (.int vb), .val (.int vc), .val (.int vd), .val (.int ve), .val (.int nA), .val (.int cA), .val (.int dA), .val (.int wA), .val (.int lA), .val (.int mA), .val (.int eA), .val (.int fA), .val (.int nid), .val (.int nB), .val (.int cB), .val (.int dB), .val (.int ncp), .val (.int mB), .unset, .unset, .unset, .unset, .unset, .unset, .unset, .unset] [])) _
    exact k
  obtain ⟨eB, T46, lo46, X46, Nj46, ej46, hj46, pre46⟩ : ∃ (eB : Int32) (T' : State) (lo : List Loc), Stand p l e room_1 s m #[(.int va), (.int vb), (.int vc), (.int vd), (.int ve)] below meth c T' lo 0 0 ∧ Fr n0 lo ∧ T'.heap = h0 ∧ (own_r eB) ∧ ∀ t, Steps p.tables e below (T'.setTop (mkF m 217 #[.val (.int va), .val (.int vb), .val (.int vc), .val (.int vd), .val (.int ve), .val (.int nA), .val (.int cA), .val (.int dA), .val (.int wA), .val (.int lA), .val (.int mA), .val (.int eA), .val (.int fA), .val (.int nid), .val (.int nB), .val (.int cB), .val (.int dB), .val (.int ncp), .val (.int mB), .unset, .unset, .unset, .unset, .unset, .unset, .unset, .unset] [(.int eB)])) t → Steps p.tables e below (s₁.setTop (entryFrame m #[(.int va), (.int vb), (.int vc), (.int vd), (.int ve)] maxLocals)) t := by
    have pre47 : ∀ t, Steps p.tables e below (T41.setTop (mkF m 202 #[.val (.int va), .val (.int vb), .val (.int vc), .val (.int vd), .val (.int ve), .val (.int nA), .val (.int cA), .val (.int dA), .val (.int wA), .val (.int lA), .val (.int mA), .val (.int eA), .val (.int fA), .val (.int nid), .val (.int nB), .val (.int cB), .val (.int dB), .val (.int ncp), .val (.int mB), .unset, .unset, .unset, .unset, .unset, .unset, .unset, .unset] [(.int ncp)])) t → Steps p.tables e below (s₁.setTop (entryFrame m #[(.int va), (.int vb), (.int vc), (.int vd), (.int ve)] maxLocals)) t := by
      intro t k
      refine pre45 t ?_
      show Steps p.tables e below (T41.setTop (mkF m 200 #[.val (.int va), .val (.int vb), .val (.int vc), .val (.int vd), .val (.int ve), .val (.int nA), .val (.int cA), .val (.int dA), .val (.int wA), .val (.int lA), .val (.int mA), .val (.int eA), .val (.int fA), .val (.int nid), .val (.int nB), .val (.int cB), .val (.int dB), .val (.int ncp), .val (.int mB), .unset, .unset, .unset, .unset, .unset, .unset, .unset, .unset] [])) _
      refine XS.iload X41.here hx rfl (hb hby at_200) rfl ?_
      show Steps p.tables e below (T41.setTop (mkF m 202 #[.val (.int va), .val (.int vb), .val (.int vc), .val (.int vd), .val (.int ve), .val (.int nA), .val (.int cA), .val (.int dA), .val (.int wA), .val (.int lA), .val (.int mA), .val (.int eA), .val (.int fA), .val (.int nid), .val (.int nB), .val (.int cB), .val (.int dB), .val (.int ncp), .val (.int mB), .unset, .unset, .unset, .unset, .unset, .unset, .unset, .unset] [(.int ncp)])) _
      exact k
    by_cases hc48 : ncp = (0 : Int32)
    · refine ⟨eA, T41, _, X41, Nj41, ej41, r_eA, fun t k => ?_⟩
      refine pre47 t ?_
      show Steps p.tables e below (T41.setTop (mkF m 202 #[.val (.int va), .val (.int vb), .val (.int vc), .val (.int vd), .val (.int ve), .val (.int nA), .val (.int cA), .val (.int dA), .val (.int wA), .val (.int lA), .val (.int mA), .val (.int eA), .val (.int fA), .val (.int nid), .val (.int nB), .val (.int cB), .val (.int dB), .val (.int ncp), .val (.int mB), .unset, .unset, .unset, .unset, .unset, .unset, .unset, .unset] [(.int ncp)])) _
      refine XS.ifYes X41.here hx rfl (pc0 := 202) (pc' := 215) rfl (hb hby at_202) rfl ((if0 _ _).trans (teq hc48).1) (by decide) (by decide) ?_
      show Steps p.tables e below (T41.setTop (mkF m 215 #[.val (.int va), .val (.int vb), .val (.int vc), .val (.int vd), .val (.int ve), .val (.int nA), .val (.int cA), .val (.int dA), .val (.int wA), .val (.int lA), .val (.int mA), .val (.int eA), .val (.int fA), .val (.int nid), .val (.int nB), .val (.int cB), .val (.int dB), .val (.int ncp), .val (.int mB), .unset, .unset, .unset, .unset, .unset, .unset, .unset, .unset] [])) _
      refine XS.iload X41.here hx rfl (hb hby at_215) rfl ?_
      show Steps p.tables e below (T41.setTop (mkF m 217 #[.val (.int va), .val (.int vb), .val (.int vc), .val (.int vd), .val (.int ve), .val (.int nA), .val (.int cA), .val (.int dA), .val (.int wA), .val (.int lA), .val (.int mA), .val (.int eA), .val (.int fA), .val (.int nid), .val (.int nB), .val (.int cB), .val (.int dB), .val (.int ncp), .val (.int mB), .unset, .unset, .unset, .unset, .unset, .unset, .unset, .unset] [(.int eA)])) _
      exact k
    · refine ⟨((ve &&& (255 : Int32)).toUInt32.toUInt16.toUInt32.toInt32), T41, _, X41, Nj41, ej41, (own_rc rfl), fun t k => ?_⟩
      refine pre47 t ?_
      show Steps p.tables e below (T41.setTop (mkF m 202 #[.val (.int va), .val (.int vb), .val (.int vc), .val (.int vd), .val (.int ve), .val (.int nA), .val (.int cA), .val (.int dA), .val (.int wA), .val (.int lA), .val (.int mA), .val (.int eA), .val (.int fA), .val (.int nid), .val (.int nB), .val (.int cB), .val (.int dB), .val (.int ncp), .val (.int mB), .unset, .unset, .unset, .unset, .unset, .unset, .unset, .unset] [(.int ncp)])) _
      refine XS.ifNo X41.here hx rfl (hb hby at_202) rfl ((if0 _ _).trans (feq hc48).1) ?_
      show Steps p.tables e below (T41.setTop (mkF m 205 #[.val (.int va), .val (.int vb), .val (.int vc), .val (.int vd), .val (.int ve), .val (.int nA), .val (.int cA), .val (.int dA), .val (.int wA), .val (.int lA), .val (.int mA), .val (.int eA), .val (.int fA), .val (.int nid), .val (.int nB), .val (.int cB), .val (.int dB), .val (.int ncp), .val (.int mB), .unset, .unset, .unset, .unset, .unset, .unset, .unset, .unset] [])) _
      refine XS.iload X41.here hx rfl (hb hby at_205) rfl ?_
      show Steps p.tables e below (T41.setTop (mkF m 207 #[.val (.int va), .val (.int vb), .val (.int vc), .val (.int vd), .val (.int ve), .val (.int nA), .val (.int cA), .val (.int dA), .val (.int wA), .val (.int lA), .val (.int mA), .val (.int eA), .val (.int fA), .val (.int nid), .val (.int nB), .val (.int cB), .val (.int dB), .val (.int ncp), .val (.int mB), .unset, .unset, .unset, .unset, .unset, .unset, .unset, .unset] [(.int ve)])) _
      refine XS.sipush X41.here hx rfl (hb hby at_207) ?_
      show Steps p.tables e below (T41.setTop (mkF m 210 #[.val (.int va), .val (.int vb), .val (.int vc), .val (.int vd), .val (.int ve), .val (.int nA), .val (.int cA), .val (.int dA), .val (.int wA), .val (.int lA), .val (.int mA), .val (.int eA), .val (.int fA), .val (.int nid), .val (.int nB), .val (.int cB), .val (.int dB), .val (.int ncp), .val (.int mB), .unset, .unset, .unset, .unset, .unset, .unset, .unset, .unset] [(.int (255 : Int32)), (.int ve)])) _
      refine XS.iand X41.here hx rfl (hb hby at_210) rfl ?_
      show Steps p.tables e below (T41.setTop (mkF m 211 #[.val (.int va), .val (.int vb), .val (.int vc), .val (.int vd), .val (.int ve), .val (.int nA), .val (.int cA), .val (.int dA), .val (.int wA), .val (.int lA), .val (.int mA), .val (.int eA), .val (.int fA), .val (.int nid), .val (.int nB), .val (.int cB), .val (.int dB), .val (.int ncp), .val (.int mB), .unset, .unset, .unset, .unset, .unset, .unset, .unset, .unset] [(.int (ve &&& (255 : Int32)))])) _
      refine XS.i2c X41.here hx rfl (hb hby at_211) rfl ?_
      show Steps p.tables e below (T41.setTop (mkF m 212 #[.val (.int va), .val (.int vb), .val (.int vc), .val (.int vd), .val (.int ve), .val (.int nA), .val (.int cA), .val (.int dA), .val (.int wA), .val (.int lA), .val (.int mA), .val (.int eA), .val (.int fA), .val (.int nid), .val (.int nB), .val (.int cB), .val (.int dB), .val (.int ncp), .val (.int mB), .unset, .unset, .unset, .unset, .unset, .unset, .unset, .unset] [(.int ((ve &&& (255 : Int32)).toUInt32.toUInt16.toUInt32.toInt32))])) _
      refine XS.goto X41.here hx rfl (pc0 := 212) (pc' := 217) rfl (hb hby at_212) (by decide) (by decide) ?_
      show Steps p.tables e below (T41.setTop (mkF m 217 #[.val (.int va), .val (.int vb), .val (.int vc), .val (.int vd), .val (.int ve), .val (.int nA), .val (.int cA), .val (.int dA), .val (.int wA), .val (.int lA), .val (.int mA), .val (.int eA), .val (.int fA), .val (.int nid), .val (.int nB), .val (.int cB), .val (.int dB), .val (.int ncp), .val (.int mB), .unset, .unset, .unset, .unset, .unset, .unset, .unset, .unset] [(.int ((ve &&& (255 : Int32)).toUInt32.toUInt16.toUInt32.toInt32))])) _
      exact k
  have r_eB := hj46
  have pre49 : ∀ t, Steps p.tables e below (T46.setTop (mkF m 219 #[.val (.int va), .val (.int vb), .val (.int vc), .val (.int vd), .val (.int ve), .val (.int nA), .val (.int cA), .val (.int dA), .val (.int wA), .val (.int lA), .val (.int mA), .val (.int eA), .val (.int fA), .val (.int nid), .val (.int nB), .val (.int cB), .val (.int dB), .val (.int ncp), .val (.int mB), .val (.int eB), .unset, .unset, .unset, .unset, .unset, .unset, .unset] [])) t → Steps p.tables e below (s₁.setTop (entryFrame m #[(.int va), (.int vb), (.int vc), (.int vd), (.int ve)] maxLocals)) t := by
    intro t k
    refine pre46 t ?_
    show Steps p.tables e below (T46.setTop (mkF m 217 #[.val (.int va), .val (.int vb), .val (.int vc), .val (.int vd), .val (.int ve), .val (.int nA), .val (.int cA), .val (.int dA), .val (.int wA), .val (.int lA), .val (.int mA), .val (.int eA), .val (.int fA), .val (.int nid), .val (.int nB), .val (.int cB), .val (.int dB), .val (.int ncp), .val (.int mB), .unset, .unset, .unset, .unset, .unset, .unset, .unset, .unset] [(.int eB)])) _
    refine XS.istore X46.here hx rfl (hb hby at_217) rfl (l' := #[.val (.int va), .val (.int vb), .val (.int vc), .val (.int vd), .val (.int ve), .val (.int nA), .val (.int cA), .val (.int dA), .val (.int wA), .val (.int lA), .val (.int mA), .val (.int eA), .val (.int fA), .val (.int nid), .val (.int nB), .val (.int cB), .val (.int dB), .val (.int ncp), .val (.int mB), .val (.int eB), .unset, .unset, .unset, .unset, .unset, .unset, .unset]) rfl ?_
    show Steps p.tables e below (T46.setTop (mkF m 219 #[.val (.int va), .val (.int vb), .val (.int vc), .val (.int vd), .val (.int ve), .val (.int nA), .val (.int cA), .val (.int dA), .val (.int wA), .val (.int lA), .val (.int mA), .val (.int eA), .val (.int fA), .val (.int nid), .val (.int nB), .val (.int cB), .val (.int dB), .val (.int ncp), .val (.int mB), .val (.int eB), .unset, .unset, .unset, .unset, .unset, .unset, .unset] [])) _
    exact k
  obtain ⟨fB, T50, lo50, X50, Nj50, ej50, hj50, pre50⟩ : ∃ (fB : Int32) (T' : State) (lo : List Loc), Stand p l e room_1 s m #[(.int va), (.int vb), (.int vc), (.int vd), (.int ve)] below meth c T' lo 0 0 ∧ Fr n0 lo ∧ T'.heap = h0 ∧ (own_r fB) ∧ ∀ t, Steps p.tables e below (T'.setTop (mkF m 239 #[.val (.int va), .val (.int vb), .val (.int vc), .val (.int vd), .val (.int ve), .val (.int nA), .val (.int cA), .val (.int dA), .val (.int wA), .val (.int lA), .val (.int mA), .val (.int eA), .val (.int fA), .val (.int nid), .val (.int nB), .val (.int cB), .val (.int dB), .val (.int ncp), .val (.int mB), .val (.int eB), .unset, .unset, .unset, .unset, .unset, .unset, .unset] [(.int fB)])) t → Steps p.tables e below (s₁.setTop (entryFrame m #[(.int va), (.int vb), (.int vc), (.int vd), (.int ve)] maxLocals)) t := by
    have pre51 : ∀ t, Steps p.tables e below (T46.setTop (mkF m 221 #[.val (.int va), .val (.int vb), .val (.int vc), .val (.int vd), .val (.int ve), .val (.int nA), .val (.int cA), .val (.int dA), .val (.int wA), .val (.int lA), .val (.int mA), .val (.int eA), .val (.int fA), .val (.int nid), .val (.int nB), .val (.int cB), .val (.int dB), .val (.int ncp), .val (.int mB), .val (.int eB), .unset, .unset, .unset, .unset, .unset, .unset, .unset] [(.int ncp)])) t → Steps p.tables e below (s₁.setTop (entryFrame m #[(.int va), (.int vb), (.int vc), (.int vd), (.int ve)] maxLocals)) t := by
      intro t k
      refine pre49 t ?_
      show Steps p.tables e below (T46.setTop (mkF m 219 #[.val (.int va), .val (.int vb), .val (.int vc), .val (.int vd), .val (.int ve), .val (.int nA), .val (.int cA), .val (.int dA), .val (.int wA), .val (.int lA), .val (.int mA), .val (.int eA), .val (.int fA), .val (.int nid), .val (.int nB), .val (.int cB), .val (.int dB), .val (.int ncp), .val (.int mB), .val (.int eB), .unset, .unset, .unset, .unset, .unset, .unset, .unset] [])) _
      refine XS.iload X46.here hx rfl (hb hby at_219) rfl ?_
      show Steps p.tables e below (T46.setTop (mkF m 221 #[.val (.int va), .val (.int vb), .val (.int vc), .val (.int vd), .val (.int ve), .val (.int nA), .val (.int cA), .val (.int dA), .val (.int wA), .val (.int lA), .val (.int mA), .val (.int eA), .val (.int fA), .val (.int nid), .val (.int nB), .val (.int cB), .val (.int dB), .val (.int ncp), .val (.int mB), .val (.int eB), .unset, .unset, .unset, .unset, .unset, .unset, .unset] [(.int ncp)])) _
      exact k
    by_cases hc52 : ncp = (0 : Int32)
    · refine ⟨fA, T46, _, X46, Nj46, ej46, r_fA, fun t k => ?_⟩
      refine pre51 t ?_
      show Steps p.tables e below (T46.setTop (mkF m 221 #[.val (.int va), .val (.int vb), .val (.int vc), .val (.int vd), .val (.int ve), .val (.int nA), .val (.int cA), .val (.int dA), .val (.int wA), .val (.int lA), .val (.int mA), .val (.int eA), .val (.int fA), .val (.int nid), .val (.int nB), .val (.int cB), .val (.int dB), .val (.int ncp), .val (.int mB), .val (.int eB), .unset, .unset, .unset, .unset, .unset, .unset, .unset] [(.int ncp)])) _
      refine XS.ifYes X46.here hx rfl (pc0 := 221) (pc' := 237) rfl (hb hby at_221) rfl ((if0 _ _).trans (teq hc52).1) (by decide) (by decide) ?_
      show Steps p.tables e below (T46.setTop (mkF m 237 #[.val (.int va), .val (.int vb), .val (.int vc), .val (.int vd), .val (.int ve), .val (.int nA), .val (.int cA), .val (.int dA), .val (.int wA), .val (.int lA), .val (.int mA), .val (.int eA), .val (.int fA), .val (.int nid), .val (.int nB), .val (.int cB), .val (.int dB), .val (.int ncp), .val (.int mB), .val (.int eB), .unset, .unset, .unset, .unset, .unset, .unset, .unset] [])) _
      refine XS.iload X46.here hx rfl (hb hby at_237) rfl ?_
      show Steps p.tables e below (T46.setTop (mkF m 239 #[.val (.int va), .val (.int vb), .val (.int vc), .val (.int vd), .val (.int ve), .val (.int nA), .val (.int cA), .val (.int dA), .val (.int wA), .val (.int lA), .val (.int mA), .val (.int eA), .val (.int fA), .val (.int nid), .val (.int nB), .val (.int cB), .val (.int dB), .val (.int ncp), .val (.int mB), .val (.int eB), .unset, .unset, .unset, .unset, .unset, .unset, .unset] [(.int fA)])) _
      exact k
    · refine ⟨((((ve.toUInt32 >>> ((8 : Int32) &&& 31).toUInt32).toInt32) &&& (255 : Int32)).toUInt32.toUInt16.toUInt32.toInt32), T46, _, X46, Nj46, ej46, (own_rc rfl), fun t k => ?_⟩
      refine pre51 t ?_
      show Steps p.tables e below (T46.setTop (mkF m 221 #[.val (.int va), .val (.int vb), .val (.int vc), .val (.int vd), .val (.int ve), .val (.int nA), .val (.int cA), .val (.int dA), .val (.int wA), .val (.int lA), .val (.int mA), .val (.int eA), .val (.int fA), .val (.int nid), .val (.int nB), .val (.int cB), .val (.int dB), .val (.int ncp), .val (.int mB), .val (.int eB), .unset, .unset, .unset, .unset, .unset, .unset, .unset] [(.int ncp)])) _
      refine XS.ifNo X46.here hx rfl (hb hby at_221) rfl ((if0 _ _).trans (feq hc52).1) ?_
      show Steps p.tables e below (T46.setTop (mkF m 224 #[.val (.int va), .val (.int vb), .val (.int vc), .val (.int vd), .val (.int ve), .val (.int nA), .val (.int cA), .val (.int dA), .val (.int wA), .val (.int lA), .val (.int mA), .val (.int eA), .val (.int fA), .val (.int nid), .val (.int nB), .val (.int cB), .val (.int dB), .val (.int ncp), .val (.int mB), .val (.int eB), .unset, .unset, .unset, .unset, .unset, .unset, .unset] [])) _
      refine XS.iload X46.here hx rfl (hb hby at_224) rfl ?_
      show Steps p.tables e below (T46.setTop (mkF m 226 #[.val (.int va), .val (.int vb), .val (.int vc), .val (.int vd), .val (.int ve), .val (.int nA), .val (.int cA), .val (.int dA), .val (.int wA), .val (.int lA), .val (.int mA), .val (.int eA), .val (.int fA), .val (.int nid), .val (.int nB), .val (.int cB), .val (.int dB), .val (.int ncp), .val (.int mB), .val (.int eB), .unset, .unset, .unset, .unset, .unset, .unset, .unset] [(.int ve)])) _
      refine XS.bipush X46.here hx rfl (hb hby at_226) ?_
      show Steps p.tables e below (T46.setTop (mkF m 228 #[.val (.int va), .val (.int vb), .val (.int vc), .val (.int vd), .val (.int ve), .val (.int nA), .val (.int cA), .val (.int dA), .val (.int wA), .val (.int lA), .val (.int mA), .val (.int eA), .val (.int fA), .val (.int nid), .val (.int nB), .val (.int cB), .val (.int dB), .val (.int ncp), .val (.int mB), .val (.int eB), .unset, .unset, .unset, .unset, .unset, .unset, .unset] [(.int (8 : Int32)), (.int ve)])) _
      refine XS.iushr X46.here hx rfl (hb hby at_228) rfl ?_
      show Steps p.tables e below (T46.setTop (mkF m 229 #[.val (.int va), .val (.int vb), .val (.int vc), .val (.int vd), .val (.int ve), .val (.int nA), .val (.int cA), .val (.int dA), .val (.int wA), .val (.int lA), .val (.int mA), .val (.int eA), .val (.int fA), .val (.int nid), .val (.int nB), .val (.int cB), .val (.int dB), .val (.int ncp), .val (.int mB), .val (.int eB), .unset, .unset, .unset, .unset, .unset, .unset, .unset] [(.int ((ve.toUInt32 >>> ((8 : Int32) &&& 31).toUInt32).toInt32))])) _
      refine XS.sipush X46.here hx rfl (hb hby at_229) ?_
      show Steps p.tables e below (T46.setTop (mkF m 232 #[.val (.int va), .val (.int vb), .val (.int vc), .val (.int vd), .val (.int ve), .val (.int nA), .val (.int cA), .val (.int dA), .val (.int wA), .val (.int lA), .val (.int mA), .val (.int eA), .val (.int fA), .val (.int nid), .val (.int nB), .val (.int cB), .val (.int dB), .val (.int ncp), .val (.int mB), .val (.int eB), .unset, .unset, .unset, .unset, .unset, .unset, .unset] [(.int (255 : Int32)), (.int ((ve.toUInt32 >>> ((8 : Int32) &&& 31).toUInt32).toInt32))])) _
      refine XS.iand X46.here hx rfl (hb hby at_232) rfl ?_
      show Steps p.tables e below (T46.setTop (mkF m 233 #[.val (.int va), .val (.int vb), .val (.int vc), .val (.int vd), .val (.int ve), .val (.int nA), .val (.int cA), .val (.int dA), .val (.int wA), .val (.int lA), .val (.int mA), .val (.int eA), .val (.int fA), .val (.int nid), .val (.int nB), .val (.int cB), .val (.int dB), .val (.int ncp), .val (.int mB), .val (.int eB), .unset, .unset, .unset, .unset, .unset, .unset, .unset] [(.int (((ve.toUInt32 >>> ((8 : Int32) &&& 31).toUInt32).toInt32) &&& (255 : Int32)))])) _
      refine XS.i2c X46.here hx rfl (hb hby at_233) rfl ?_
      show Steps p.tables e below (T46.setTop (mkF m 234 #[.val (.int va), .val (.int vb), .val (.int vc), .val (.int vd), .val (.int ve), .val (.int nA), .val (.int cA), .val (.int dA), .val (.int wA), .val (.int lA), .val (.int mA), .val (.int eA), .val (.int fA), .val (.int nid), .val (.int nB), .val (.int cB), .val (.int dB), .val (.int ncp), .val (.int mB), .val (.int eB), .unset, .unset, .unset, .unset, .unset, .unset, .unset] [(.int ((((ve.toUInt32 >>> ((8 : Int32) &&& 31).toUInt32).toInt32) &&& (255 : Int32)).toUInt32.toUInt16.toUInt32.toInt32))])) _
      refine XS.goto X46.here hx rfl (pc0 := 234) (pc' := 239) rfl (hb hby at_234) (by decide) (by decide) ?_
      show Steps p.tables e below (T46.setTop (mkF m 239 #[.val (.int va), .val (.int vb), .val (.int vc), .val (.int vd), .val (.int ve), .val (.int nA), .val (.int cA), .val (.int dA), .val (.int wA), .val (.int lA), .val (.int mA), .val (.int eA), .val (.int fA), .val (.int nid), .val (.int nB), .val (.int cB), .val (.int dB), .val (.int ncp), .val (.int mB), .val (.int eB), .unset, .unset, .unset, .unset, .unset, .unset, .unset] [(.int ((((ve.toUInt32 >>> ((8 : Int32) &&& 31).toUInt32).toInt32) &&& (255 : Int32)).toUInt32.toUInt16.toUInt32.toInt32))])) _
      exact k
  have r_fB := hj50
  have pre53 : ∀ t, Steps p.tables e below (T50.setTop (mkF m 241 #[.val (.int va), .val (.int vb), .val (.int vc), .val (.int vd), .val (.int ve), .val (.int nA), .val (.int cA), .val (.int dA), .val (.int wA), .val (.int lA), .val (.int mA), .val (.int eA), .val (.int fA), .val (.int nid), .val (.int nB), .val (.int cB), .val (.int dB), .val (.int ncp), .val (.int mB), .val (.int eB), .val (.int fB), .unset, .unset, .unset, .unset, .unset, .unset] [])) t → Steps p.tables e below (s₁.setTop (entryFrame m #[(.int va), (.int vb), (.int vc), (.int vd), (.int ve)] maxLocals)) t := by
    intro t k
    refine pre50 t ?_
    show Steps p.tables e below (T50.setTop (mkF m 239 #[.val (.int va), .val (.int vb), .val (.int vc), .val (.int vd), .val (.int ve), .val (.int nA), .val (.int cA), .val (.int dA), .val (.int wA), .val (.int lA), .val (.int mA), .val (.int eA), .val (.int fA), .val (.int nid), .val (.int nB), .val (.int cB), .val (.int dB), .val (.int ncp), .val (.int mB), .val (.int eB), .unset, .unset, .unset, .unset, .unset, .unset, .unset] [(.int fB)])) _
    refine XS.istore X50.here hx rfl (hb hby at_239) rfl (l' := #[.val (.int va), .val (.int vb), .val (.int vc), .val (.int vd), .val (.int ve), .val (.int nA), .val (.int cA), .val (.int dA), .val (.int wA), .val (.int lA), .val (.int mA), .val (.int eA), .val (.int fA), .val (.int nid), .val (.int nB), .val (.int cB), .val (.int dB), .val (.int ncp), .val (.int mB), .val (.int eB), .val (.int fB), .unset, .unset, .unset, .unset, .unset, .unset]) rfl ?_
    show Steps p.tables e below (T50.setTop (mkF m 241 #[.val (.int va), .val (.int vb), .val (.int vc), .val (.int vd), .val (.int ve), .val (.int nA), .val (.int cA), .val (.int dA), .val (.int wA), .val (.int lA), .val (.int mA), .val (.int eA), .val (.int fA), .val (.int nid), .val (.int nB), .val (.int cB), .val (.int dB), .val (.int ncp), .val (.int mB), .val (.int eB), .val (.int fB), .unset, .unset, .unset, .unset, .unset, .unset] [])) _
    exact k
  obtain ⟨wB, T54, lo54, X54, Nj54, ej54, hj54, pre54⟩ : ∃ (wB : Int32) (T' : State) (lo : List Loc), Stand p l e room_1 s m #[(.int va), (.int vb), (.int vc), (.int vd), (.int ve)] below meth c T' lo 0 0 ∧ Fr n0 lo ∧ T'.heap = h0 ∧ (wB = 0 ∨ wB = 1) ∧ ∀ t, Steps p.tables e below (T'.setTop (mkF m 262 #[.val (.int va), .val (.int vb), .val (.int vc), .val (.int vd), .val (.int ve), .val (.int nA), .val (.int cA), .val (.int dA), .val (.int wA), .val (.int lA), .val (.int mA), .val (.int eA), .val (.int fA), .val (.int nid), .val (.int nB), .val (.int cB), .val (.int dB), .val (.int ncp), .val (.int mB), .val (.int eB), .val (.int fB), .unset, .unset, .unset, .unset, .unset, .unset] [(.int wB)])) t → Steps p.tables e below (s₁.setTop (entryFrame m #[(.int va), (.int vb), (.int vc), (.int vd), (.int ve)] maxLocals)) t := by
    have pre55 : ∀ t, Steps p.tables e below (T50.setTop (mkF m 244 #[.val (.int va), .val (.int vb), .val (.int vc), .val (.int vd), .val (.int ve), .val (.int nA), .val (.int cA), .val (.int dA), .val (.int wA), .val (.int lA), .val (.int mA), .val (.int eA), .val (.int fA), .val (.int nid), .val (.int nB), .val (.int cB), .val (.int dB), .val (.int ncp), .val (.int mB), .val (.int eB), .val (.int fB), .unset, .unset, .unset, .unset, .unset, .unset] [(.int (vc &&& (4 : Int32)))])) t → Steps p.tables e below (s₁.setTop (entryFrame m #[(.int va), (.int vb), (.int vc), (.int vd), (.int ve)] maxLocals)) t := by
      intro t k
      refine pre53 t ?_
      show Steps p.tables e below (T50.setTop (mkF m 241 #[.val (.int va), .val (.int vb), .val (.int vc), .val (.int vd), .val (.int ve), .val (.int nA), .val (.int cA), .val (.int dA), .val (.int wA), .val (.int lA), .val (.int mA), .val (.int eA), .val (.int fA), .val (.int nid), .val (.int nB), .val (.int cB), .val (.int dB), .val (.int ncp), .val (.int mB), .val (.int eB), .val (.int fB), .unset, .unset, .unset, .unset, .unset, .unset] [])) _
      refine XS.iloadN X50.here hx rfl (hb hby at_241) rfl ?_
      show Steps p.tables e below (T50.setTop (mkF m 242 #[.val (.int va), .val (.int vb), .val (.int vc), .val (.int vd), .val (.int ve), .val (.int nA), .val (.int cA), .val (.int dA), .val (.int wA), .val (.int lA), .val (.int mA), .val (.int eA), .val (.int fA), .val (.int nid), .val (.int nB), .val (.int cB), .val (.int dB), .val (.int ncp), .val (.int mB), .val (.int eB), .val (.int fB), .unset, .unset, .unset, .unset, .unset, .unset] [(.int vc)])) _
      refine XS.iconst X50.here hx rfl (hb hby at_242) ?_
      show Steps p.tables e below (T50.setTop (mkF m 243 #[.val (.int va), .val (.int vb), .val (.int vc), .val (.int vd), .val (.int ve), .val (.int nA), .val (.int cA), .val (.int dA), .val (.int wA), .val (.int lA), .val (.int mA), .val (.int eA), .val (.int fA), .val (.int nid), .val (.int nB), .val (.int cB), .val (.int dB), .val (.int ncp), .val (.int mB), .val (.int eB), .val (.int fB), .unset, .unset, .unset, .unset, .unset, .unset] [(.int (4 : Int32)), (.int vc)])) _
      refine XS.iand X50.here hx rfl (hb hby at_243) rfl ?_
      show Steps p.tables e below (T50.setTop (mkF m 244 #[.val (.int va), .val (.int vb), .val (.int vc), .val (.int vd), .val (.int ve), .val (.int nA), .val (.int cA), .val (.int dA), .val (.int wA), .val (.int lA), .val (.int mA), .val (.int eA), .val (.int fA), .val (.int nid), .val (.int nB), .val (.int cB), .val (.int dB), .val (.int ncp), .val (.int mB), .val (.int eB), .val (.int fB), .unset, .unset, .unset, .unset, .unset, .unset] [(.int (vc &&& (4 : Int32)))])) _
      exact k
    by_cases hc56 : (vc &&& (4 : Int32)) = (0 : Int32)
    · have pre57 : ∀ t, Steps p.tables e below (T50.setTop (mkF m 254 #[.val (.int va), .val (.int vb), .val (.int vc), .val (.int vd), .val (.int ve), .val (.int nA), .val (.int cA), .val (.int dA), .val (.int wA), .val (.int lA), .val (.int mA), .val (.int eA), .val (.int fA), .val (.int nid), .val (.int nB), .val (.int cB), .val (.int dB), .val (.int ncp), .val (.int mB), .val (.int eB), .val (.int fB), .unset, .unset, .unset, .unset, .unset, .unset] [(.int wA), (.int (0 : Int32))])) t → Steps p.tables e below (s₁.setTop (entryFrame m #[(.int va), (.int vb), (.int vc), (.int vd), (.int ve)] maxLocals)) t := by
        intro t k
        refine pre55 t ?_
        show Steps p.tables e below (T50.setTop (mkF m 244 #[.val (.int va), .val (.int vb), .val (.int vc), .val (.int vd), .val (.int ve), .val (.int nA), .val (.int cA), .val (.int dA), .val (.int wA), .val (.int lA), .val (.int mA), .val (.int eA), .val (.int fA), .val (.int nid), .val (.int nB), .val (.int cB), .val (.int dB), .val (.int ncp), .val (.int mB), .val (.int eB), .val (.int fB), .unset, .unset, .unset, .unset, .unset, .unset] [(.int (vc &&& (4 : Int32)))])) _
        refine XS.ifYes X50.here hx rfl (pc0 := 244) (pc' := 251) rfl (hb hby at_244) rfl ((if0 _ _).trans (teq hc56).1) (by decide) (by decide) ?_
        show Steps p.tables e below (T50.setTop (mkF m 251 #[.val (.int va), .val (.int vb), .val (.int vc), .val (.int vd), .val (.int ve), .val (.int nA), .val (.int cA), .val (.int dA), .val (.int wA), .val (.int lA), .val (.int mA), .val (.int eA), .val (.int fA), .val (.int nid), .val (.int nB), .val (.int cB), .val (.int dB), .val (.int ncp), .val (.int mB), .val (.int eB), .val (.int fB), .unset, .unset, .unset, .unset, .unset, .unset] [])) _
        refine XS.iconst X50.here hx rfl (hb hby at_251) ?_
        show Steps p.tables e below (T50.setTop (mkF m 252 #[.val (.int va), .val (.int vb), .val (.int vc), .val (.int vd), .val (.int ve), .val (.int nA), .val (.int cA), .val (.int dA), .val (.int wA), .val (.int lA), .val (.int mA), .val (.int eA), .val (.int fA), .val (.int nid), .val (.int nB), .val (.int cB), .val (.int dB), .val (.int ncp), .val (.int mB), .val (.int eB), .val (.int fB), .unset, .unset, .unset, .unset, .unset, .unset] [(.int (0 : Int32))])) _
        refine XS.iload X50.here hx rfl (hb hby at_252) rfl ?_
        show Steps p.tables e below (T50.setTop (mkF m 254 #[.val (.int va), .val (.int vb), .val (.int vc), .val (.int vd), .val (.int ve), .val (.int nA), .val (.int cA), .val (.int dA), .val (.int wA), .val (.int lA), .val (.int mA), .val (.int eA), .val (.int fA), .val (.int nid), .val (.int nB), .val (.int cB), .val (.int dB), .val (.int ncp), .val (.int mB), .val (.int eB), .val (.int fB), .unset, .unset, .unset, .unset, .unset, .unset] [(.int wA), (.int (0 : Int32))])) _
        exact k
      by_cases hc58 : (0 : Int32) = wA
      · refine ⟨(0 : Int32), T50, _, X50, Nj50, ej50, Or.inl rfl, fun t k => ?_⟩
        refine pre57 t ?_
        show Steps p.tables e below (T50.setTop (mkF m 254 #[.val (.int va), .val (.int vb), .val (.int vc), .val (.int vd), .val (.int ve), .val (.int nA), .val (.int cA), .val (.int dA), .val (.int wA), .val (.int lA), .val (.int mA), .val (.int eA), .val (.int fA), .val (.int nid), .val (.int nB), .val (.int cB), .val (.int dB), .val (.int ncp), .val (.int mB), .val (.int eB), .val (.int fB), .unset, .unset, .unset, .unset, .unset, .unset] [(.int wA), (.int (0 : Int32))])) _
        refine XS.icmpYes X50.here hx rfl (pc0 := 254) (pc' := 261) rfl (hb hby at_254) rfl (teq hc58).1 (by decide) (by decide) ?_
        show Steps p.tables e below (T50.setTop (mkF m 261 #[.val (.int va), .val (.int vb), .val (.int vc), .val (.int vd), .val (.int ve), .val (.int nA), .val (.int cA), .val (.int dA), .val (.int wA), .val (.int lA), .val (.int mA), .val (.int eA), .val (.int fA), .val (.int nid), .val (.int nB), .val (.int cB), .val (.int dB), .val (.int ncp), .val (.int mB), .val (.int eB), .val (.int fB), .unset, .unset, .unset, .unset, .unset, .unset] [])) _
        refine XS.iconst X50.here hx rfl (hb hby at_261) ?_
        show Steps p.tables e below (T50.setTop (mkF m 262 #[.val (.int va), .val (.int vb), .val (.int vc), .val (.int vd), .val (.int ve), .val (.int nA), .val (.int cA), .val (.int dA), .val (.int wA), .val (.int lA), .val (.int mA), .val (.int eA), .val (.int fA), .val (.int nid), .val (.int nB), .val (.int cB), .val (.int dB), .val (.int ncp), .val (.int mB), .val (.int eB), .val (.int fB), .unset, .unset, .unset, .unset, .unset, .unset] [(.int (0 : Int32))])) _
        exact k
      · refine ⟨(1 : Int32), T50, _, X50, Nj50, ej50, Or.inr rfl, fun t k => ?_⟩
        refine pre57 t ?_
        show Steps p.tables e below (T50.setTop (mkF m 254 #[.val (.int va), .val (.int vb), .val (.int vc), .val (.int vd), .val (.int ve), .val (.int nA), .val (.int cA), .val (.int dA), .val (.int wA), .val (.int lA), .val (.int mA), .val (.int eA), .val (.int fA), .val (.int nid), .val (.int nB), .val (.int cB), .val (.int dB), .val (.int ncp), .val (.int mB), .val (.int eB), .val (.int fB), .unset, .unset, .unset, .unset, .unset, .unset] [(.int wA), (.int (0 : Int32))])) _
        refine XS.icmpNo X50.here hx rfl (hb hby at_254) rfl (feq hc58).1 ?_
        show Steps p.tables e below (T50.setTop (mkF m 257 #[.val (.int va), .val (.int vb), .val (.int vc), .val (.int vd), .val (.int ve), .val (.int nA), .val (.int cA), .val (.int dA), .val (.int wA), .val (.int lA), .val (.int mA), .val (.int eA), .val (.int fA), .val (.int nid), .val (.int nB), .val (.int cB), .val (.int dB), .val (.int ncp), .val (.int mB), .val (.int eB), .val (.int fB), .unset, .unset, .unset, .unset, .unset, .unset] [])) _
        refine XS.iconst X50.here hx rfl (hb hby at_257) ?_
        show Steps p.tables e below (T50.setTop (mkF m 258 #[.val (.int va), .val (.int vb), .val (.int vc), .val (.int vd), .val (.int ve), .val (.int nA), .val (.int cA), .val (.int dA), .val (.int wA), .val (.int lA), .val (.int mA), .val (.int eA), .val (.int fA), .val (.int nid), .val (.int nB), .val (.int cB), .val (.int dB), .val (.int ncp), .val (.int mB), .val (.int eB), .val (.int fB), .unset, .unset, .unset, .unset, .unset, .unset] [(.int (1 : Int32))])) _
        refine XS.goto X50.here hx rfl (pc0 := 258) (pc' := 262) rfl (hb hby at_258) (by decide) (by decide) ?_
        show Steps p.tables e below (T50.setTop (mkF m 262 #[.val (.int va), .val (.int vb), .val (.int vc), .val (.int vd), .val (.int ve), .val (.int nA), .val (.int cA), .val (.int dA), .val (.int wA), .val (.int lA), .val (.int mA), .val (.int eA), .val (.int fA), .val (.int nid), .val (.int nB), .val (.int cB), .val (.int dB), .val (.int ncp), .val (.int mB), .val (.int eB), .val (.int fB), .unset, .unset, .unset, .unset, .unset, .unset] [(.int (1 : Int32))])) _
        exact k
    · have pre59 : ∀ t, Steps p.tables e below (T50.setTop (mkF m 254 #[.val (.int va), .val (.int vb), .val (.int vc), .val (.int vd), .val (.int ve), .val (.int nA), .val (.int cA), .val (.int dA), .val (.int wA), .val (.int lA), .val (.int mA), .val (.int eA), .val (.int fA), .val (.int nid), .val (.int nB), .val (.int cB), .val (.int dB), .val (.int ncp), .val (.int mB), .val (.int eB), .val (.int fB), .unset, .unset, .unset, .unset, .unset, .unset] [(.int wA), (.int (1 : Int32))])) t → Steps p.tables e below (s₁.setTop (entryFrame m #[(.int va), (.int vb), (.int vc), (.int vd), (.int ve)] maxLocals)) t := by
        intro t k
        refine pre55 t ?_
        show Steps p.tables e below (T50.setTop (mkF m 244 #[.val (.int va), .val (.int vb), .val (.int vc), .val (.int vd), .val (.int ve), .val (.int nA), .val (.int cA), .val (.int dA), .val (.int wA), .val (.int lA), .val (.int mA), .val (.int eA), .val (.int fA), .val (.int nid), .val (.int nB), .val (.int cB), .val (.int dB), .val (.int ncp), .val (.int mB), .val (.int eB), .val (.int fB), .unset, .unset, .unset, .unset, .unset, .unset] [(.int (vc &&& (4 : Int32)))])) _
        refine XS.ifNo X50.here hx rfl (hb hby at_244) rfl ((if0 _ _).trans (feq hc56).1) ?_
        show Steps p.tables e below (T50.setTop (mkF m 247 #[.val (.int va), .val (.int vb), .val (.int vc), .val (.int vd), .val (.int ve), .val (.int nA), .val (.int cA), .val (.int dA), .val (.int wA), .val (.int lA), .val (.int mA), .val (.int eA), .val (.int fA), .val (.int nid), .val (.int nB), .val (.int cB), .val (.int dB), .val (.int ncp), .val (.int mB), .val (.int eB), .val (.int fB), .unset, .unset, .unset, .unset, .unset, .unset] [])) _
        refine XS.iconst X50.here hx rfl (hb hby at_247) ?_
        show Steps p.tables e below (T50.setTop (mkF m 248 #[.val (.int va), .val (.int vb), .val (.int vc), .val (.int vd), .val (.int ve), .val (.int nA), .val (.int cA), .val (.int dA), .val (.int wA), .val (.int lA), .val (.int mA), .val (.int eA), .val (.int fA), .val (.int nid), .val (.int nB), .val (.int cB), .val (.int dB), .val (.int ncp), .val (.int mB), .val (.int eB), .val (.int fB), .unset, .unset, .unset, .unset, .unset, .unset] [(.int (1 : Int32))])) _
        refine XS.goto X50.here hx rfl (pc0 := 248) (pc' := 252) rfl (hb hby at_248) (by decide) (by decide) ?_
        show Steps p.tables e below (T50.setTop (mkF m 252 #[.val (.int va), .val (.int vb), .val (.int vc), .val (.int vd), .val (.int ve), .val (.int nA), .val (.int cA), .val (.int dA), .val (.int wA), .val (.int lA), .val (.int mA), .val (.int eA), .val (.int fA), .val (.int nid), .val (.int nB), .val (.int cB), .val (.int dB), .val (.int ncp), .val (.int mB), .val (.int eB), .val (.int fB), .unset, .unset, .unset, .unset, .unset, .unset] [(.int (1 : Int32))])) _
        refine XS.iload X50.here hx rfl (hb hby at_252) rfl ?_
        show Steps p.tables e below (T50.setTop (mkF m 254 #[.val (.int va), .val (.int vb), .val (.int vc), .val (.int vd), .val (.int ve), .val (.int nA), .val (.int cA), .val (.int dA), .val (.int wA), .val (.int lA), .val (.int mA), .val (.int eA), .val (.int fA), .val (.int nid), .val (.int nB), .val (.int cB), .val (.int dB), .val (.int ncp), .val (.int mB), .val (.int eB), .val (.int fB), .unset, .unset, .unset, .unset, .unset, .unset] [(.int wA), (.int (1 : Int32))])) _
        exact k
      by_cases hc60 : (1 : Int32) = wA
      · refine ⟨(0 : Int32), T50, _, X50, Nj50, ej50, Or.inl rfl, fun t k => ?_⟩
        refine pre59 t ?_
        show Steps p.tables e below (T50.setTop (mkF m 254 #[.val (.int va), .val (.int vb), .val (.int vc), .val (.int vd), .val (.int ve), .val (.int nA), .val (.int cA), .val (.int dA), .val (.int wA), .val (.int lA), .val (.int mA), .val (.int eA), .val (.int fA), .val (.int nid), .val (.int nB), .val (.int cB), .val (.int dB), .val (.int ncp), .val (.int mB), .val (.int eB), .val (.int fB), .unset, .unset, .unset, .unset, .unset, .unset] [(.int wA), (.int (1 : Int32))])) _
        refine XS.icmpYes X50.here hx rfl (pc0 := 254) (pc' := 261) rfl (hb hby at_254) rfl (teq hc60).1 (by decide) (by decide) ?_
        show Steps p.tables e below (T50.setTop (mkF m 261 #[.val (.int va), .val (.int vb), .val (.int vc), .val (.int vd), .val (.int ve), .val (.int nA), .val (.int cA), .val (.int dA), .val (.int wA), .val (.int lA), .val (.int mA), .val (.int eA), .val (.int fA), .val (.int nid), .val (.int nB), .val (.int cB), .val (.int dB), .val (.int ncp), .val (.int mB), .val (.int eB), .val (.int fB), .unset, .unset, .unset, .unset, .unset, .unset] [])) _
        refine XS.iconst X50.here hx rfl (hb hby at_261) ?_
        show Steps p.tables e below (T50.setTop (mkF m 262 #[.val (.int va), .val (.int vb), .val (.int vc), .val (.int vd), .val (.int ve), .val (.int nA), .val (.int cA), .val (.int dA), .val (.int wA), .val (.int lA), .val (.int mA), .val (.int eA), .val (.int fA), .val (.int nid), .val (.int nB), .val (.int cB), .val (.int dB), .val (.int ncp), .val (.int mB), .val (.int eB), .val (.int fB), .unset, .unset, .unset, .unset, .unset, .unset] [(.int (0 : Int32))])) _
        exact k
      · refine ⟨(1 : Int32), T50, _, X50, Nj50, ej50, Or.inr rfl, fun t k => ?_⟩
        refine pre59 t ?_
        show Steps p.tables e below (T50.setTop (mkF m 254 #[.val (.int va), .val (.int vb), .val (.int vc), .val (.int vd), .val (.int ve), .val (.int nA), .val (.int cA), .val (.int dA), .val (.int wA), .val (.int lA), .val (.int mA), .val (.int eA), .val (.int fA), .val (.int nid), .val (.int nB), .val (.int cB), .val (.int dB), .val (.int ncp), .val (.int mB), .val (.int eB), .val (.int fB), .unset, .unset, .unset, .unset, .unset, .unset] [(.int wA), (.int (1 : Int32))])) _
        refine XS.icmpNo X50.here hx rfl (hb hby at_254) rfl (feq hc60).1 ?_
        show Steps p.tables e below (T50.setTop (mkF m 257 #[.val (.int va), .val (.int vb), .val (.int vc), .val (.int vd), .val (.int ve), .val (.int nA), .val (.int cA), .val (.int dA), .val (.int wA), .val (.int lA), .val (.int mA), .val (.int eA), .val (.int fA), .val (.int nid), .val (.int nB), .val (.int cB), .val (.int dB), .val (.int ncp), .val (.int mB), .val (.int eB), .val (.int fB), .unset, .unset, .unset, .unset, .unset, .unset] [])) _
        refine XS.iconst X50.here hx rfl (hb hby at_257) ?_
        show Steps p.tables e below (T50.setTop (mkF m 258 #[.val (.int va), .val (.int vb), .val (.int vc), .val (.int vd), .val (.int ve), .val (.int nA), .val (.int cA), .val (.int dA), .val (.int wA), .val (.int lA), .val (.int mA), .val (.int eA), .val (.int fA), .val (.int nid), .val (.int nB), .val (.int cB), .val (.int dB), .val (.int ncp), .val (.int mB), .val (.int eB), .val (.int fB), .unset, .unset, .unset, .unset, .unset, .unset] [(.int (1 : Int32))])) _
        refine XS.goto X50.here hx rfl (pc0 := 258) (pc' := 262) rfl (hb hby at_258) (by decide) (by decide) ?_
        show Steps p.tables e below (T50.setTop (mkF m 262 #[.val (.int va), .val (.int vb), .val (.int vc), .val (.int vd), .val (.int ve), .val (.int nA), .val (.int cA), .val (.int dA), .val (.int wA), .val (.int lA), .val (.int mA), .val (.int eA), .val (.int fA), .val (.int nid), .val (.int nB), .val (.int cB), .val (.int dB), .val (.int ncp), .val (.int mB), .val (.int eB), .val (.int fB), .unset, .unset, .unset, .unset, .unset, .unset] [(.int (1 : Int32))])) _
        exact k
  have b_wB := hj54
  have pre61 : ∀ t, Steps p.tables e below (T54.setTop (mkF m 264 #[.val (.int va), .val (.int vb), .val (.int vc), .val (.int vd), .val (.int ve), .val (.int nA), .val (.int cA), .val (.int dA), .val (.int wA), .val (.int lA), .val (.int mA), .val (.int eA), .val (.int fA), .val (.int nid), .val (.int nB), .val (.int cB), .val (.int dB), .val (.int ncp), .val (.int mB), .val (.int eB), .val (.int fB), .val (.int wB), .unset, .unset, .unset, .unset, .unset] [])) t → Steps p.tables e below (s₁.setTop (entryFrame m #[(.int va), (.int vb), (.int vc), (.int vd), (.int ve)] maxLocals)) t := by
    intro t k
    refine pre54 t ?_
    show Steps p.tables e below (T54.setTop (mkF m 262 #[.val (.int va), .val (.int vb), .val (.int vc), .val (.int vd), .val (.int ve), .val (.int nA), .val (.int cA), .val (.int dA), .val (.int wA), .val (.int lA), .val (.int mA), .val (.int eA), .val (.int fA), .val (.int nid), .val (.int nB), .val (.int cB), .val (.int dB), .val (.int ncp), .val (.int mB), .val (.int eB), .val (.int fB), .unset, .unset, .unset, .unset, .unset, .unset] [(.int wB)])) _
    refine XS.istore X54.here hx rfl (hb hby at_262) rfl (l' := #[.val (.int va), .val (.int vb), .val (.int vc), .val (.int vd), .val (.int ve), .val (.int nA), .val (.int cA), .val (.int dA), .val (.int wA), .val (.int lA), .val (.int mA), .val (.int eA), .val (.int fA), .val (.int nid), .val (.int nB), .val (.int cB), .val (.int dB), .val (.int ncp), .val (.int mB), .val (.int eB), .val (.int fB), .val (.int wB), .unset, .unset, .unset, .unset, .unset]) rfl ?_
    show Steps p.tables e below (T54.setTop (mkF m 264 #[.val (.int va), .val (.int vb), .val (.int vc), .val (.int vd), .val (.int ve), .val (.int nA), .val (.int cA), .val (.int dA), .val (.int wA), .val (.int lA), .val (.int mA), .val (.int eA), .val (.int fA), .val (.int nid), .val (.int nB), .val (.int cB), .val (.int dB), .val (.int ncp), .val (.int mB), .val (.int eB), .val (.int fB), .val (.int wB), .unset, .unset, .unset, .unset, .unset] [])) _
    exact k
  obtain ⟨lB, T62, lo62, X62, Nj62, ej62, hj62, pre62⟩ : ∃ (lB : Int32) (T' : State) (lo : List Loc), Stand p l e room_1 s m #[(.int va), (.int vb), (.int vc), (.int vd), (.int ve)] below meth c T' lo 0 0 ∧ Fr n0 lo ∧ T'.heap = h0 ∧ (lB = 0 ∨ lB = 1) ∧ ∀ t, Steps p.tables e below (T'.setTop (mkF m 286 #[.val (.int va), .val (.int vb), .val (.int vc), .val (.int vd), .val (.int ve), .val (.int nA), .val (.int cA), .val (.int dA), .val (.int wA), .val (.int lA), .val (.int mA), .val (.int eA), .val (.int fA), .val (.int nid), .val (.int nB), .val (.int cB), .val (.int dB), .val (.int ncp), .val (.int mB), .val (.int eB), .val (.int fB), .val (.int wB), .unset, .unset, .unset, .unset, .unset] [(.int lB)])) t → Steps p.tables e below (s₁.setTop (entryFrame m #[(.int va), (.int vb), (.int vc), (.int vd), (.int ve)] maxLocals)) t := by
    have pre63 : ∀ t, Steps p.tables e below (T54.setTop (mkF m 268 #[.val (.int va), .val (.int vb), .val (.int vc), .val (.int vd), .val (.int ve), .val (.int nA), .val (.int cA), .val (.int dA), .val (.int wA), .val (.int lA), .val (.int mA), .val (.int eA), .val (.int fA), .val (.int nid), .val (.int nB), .val (.int cB), .val (.int dB), .val (.int ncp), .val (.int mB), .val (.int eB), .val (.int fB), .val (.int wB), .unset, .unset, .unset, .unset, .unset] [(.int (vc &&& (8 : Int32)))])) t → Steps p.tables e below (s₁.setTop (entryFrame m #[(.int va), (.int vb), (.int vc), (.int vd), (.int ve)] maxLocals)) t := by
      intro t k
      refine pre61 t ?_
      show Steps p.tables e below (T54.setTop (mkF m 264 #[.val (.int va), .val (.int vb), .val (.int vc), .val (.int vd), .val (.int ve), .val (.int nA), .val (.int cA), .val (.int dA), .val (.int wA), .val (.int lA), .val (.int mA), .val (.int eA), .val (.int fA), .val (.int nid), .val (.int nB), .val (.int cB), .val (.int dB), .val (.int ncp), .val (.int mB), .val (.int eB), .val (.int fB), .val (.int wB), .unset, .unset, .unset, .unset, .unset] [])) _
      refine XS.iloadN X54.here hx rfl (hb hby at_264) rfl ?_
      show Steps p.tables e below (T54.setTop (mkF m 265 #[.val (.int va), .val (.int vb), .val (.int vc), .val (.int vd), .val (.int ve), .val (.int nA), .val (.int cA), .val (.int dA), .val (.int wA), .val (.int lA), .val (.int mA), .val (.int eA), .val (.int fA), .val (.int nid), .val (.int nB), .val (.int cB), .val (.int dB), .val (.int ncp), .val (.int mB), .val (.int eB), .val (.int fB), .val (.int wB), .unset, .unset, .unset, .unset, .unset] [(.int vc)])) _
      refine XS.bipush X54.here hx rfl (hb hby at_265) ?_
      show Steps p.tables e below (T54.setTop (mkF m 267 #[.val (.int va), .val (.int vb), .val (.int vc), .val (.int vd), .val (.int ve), .val (.int nA), .val (.int cA), .val (.int dA), .val (.int wA), .val (.int lA), .val (.int mA), .val (.int eA), .val (.int fA), .val (.int nid), .val (.int nB), .val (.int cB), .val (.int dB), .val (.int ncp), .val (.int mB), .val (.int eB), .val (.int fB), .val (.int wB), .unset, .unset, .unset, .unset, .unset] [(.int (8 : Int32)), (.int vc)])) _
      refine XS.iand X54.here hx rfl (hb hby at_267) rfl ?_
      show Steps p.tables e below (T54.setTop (mkF m 268 #[.val (.int va), .val (.int vb), .val (.int vc), .val (.int vd), .val (.int ve), .val (.int nA), .val (.int cA), .val (.int dA), .val (.int wA), .val (.int lA), .val (.int mA), .val (.int eA), .val (.int fA), .val (.int nid), .val (.int nB), .val (.int cB), .val (.int dB), .val (.int ncp), .val (.int mB), .val (.int eB), .val (.int fB), .val (.int wB), .unset, .unset, .unset, .unset, .unset] [(.int (vc &&& (8 : Int32)))])) _
      exact k
    by_cases hc64 : (vc &&& (8 : Int32)) = (0 : Int32)
    · have pre65 : ∀ t, Steps p.tables e below (T54.setTop (mkF m 278 #[.val (.int va), .val (.int vb), .val (.int vc), .val (.int vd), .val (.int ve), .val (.int nA), .val (.int cA), .val (.int dA), .val (.int wA), .val (.int lA), .val (.int mA), .val (.int eA), .val (.int fA), .val (.int nid), .val (.int nB), .val (.int cB), .val (.int dB), .val (.int ncp), .val (.int mB), .val (.int eB), .val (.int fB), .val (.int wB), .unset, .unset, .unset, .unset, .unset] [(.int lA), (.int (0 : Int32))])) t → Steps p.tables e below (s₁.setTop (entryFrame m #[(.int va), (.int vb), (.int vc), (.int vd), (.int ve)] maxLocals)) t := by
        intro t k
        refine pre63 t ?_
        show Steps p.tables e below (T54.setTop (mkF m 268 #[.val (.int va), .val (.int vb), .val (.int vc), .val (.int vd), .val (.int ve), .val (.int nA), .val (.int cA), .val (.int dA), .val (.int wA), .val (.int lA), .val (.int mA), .val (.int eA), .val (.int fA), .val (.int nid), .val (.int nB), .val (.int cB), .val (.int dB), .val (.int ncp), .val (.int mB), .val (.int eB), .val (.int fB), .val (.int wB), .unset, .unset, .unset, .unset, .unset] [(.int (vc &&& (8 : Int32)))])) _
        refine XS.ifYes X54.here hx rfl (pc0 := 268) (pc' := 275) rfl (hb hby at_268) rfl ((if0 _ _).trans (teq hc64).1) (by decide) (by decide) ?_
        show Steps p.tables e below (T54.setTop (mkF m 275 #[.val (.int va), .val (.int vb), .val (.int vc), .val (.int vd), .val (.int ve), .val (.int nA), .val (.int cA), .val (.int dA), .val (.int wA), .val (.int lA), .val (.int mA), .val (.int eA), .val (.int fA), .val (.int nid), .val (.int nB), .val (.int cB), .val (.int dB), .val (.int ncp), .val (.int mB), .val (.int eB), .val (.int fB), .val (.int wB), .unset, .unset, .unset, .unset, .unset] [])) _
        refine XS.iconst X54.here hx rfl (hb hby at_275) ?_
        show Steps p.tables e below (T54.setTop (mkF m 276 #[.val (.int va), .val (.int vb), .val (.int vc), .val (.int vd), .val (.int ve), .val (.int nA), .val (.int cA), .val (.int dA), .val (.int wA), .val (.int lA), .val (.int mA), .val (.int eA), .val (.int fA), .val (.int nid), .val (.int nB), .val (.int cB), .val (.int dB), .val (.int ncp), .val (.int mB), .val (.int eB), .val (.int fB), .val (.int wB), .unset, .unset, .unset, .unset, .unset] [(.int (0 : Int32))])) _
        refine XS.iload X54.here hx rfl (hb hby at_276) rfl ?_
        show Steps p.tables e below (T54.setTop (mkF m 278 #[.val (.int va), .val (.int vb), .val (.int vc), .val (.int vd), .val (.int ve), .val (.int nA), .val (.int cA), .val (.int dA), .val (.int wA), .val (.int lA), .val (.int mA), .val (.int eA), .val (.int fA), .val (.int nid), .val (.int nB), .val (.int cB), .val (.int dB), .val (.int ncp), .val (.int mB), .val (.int eB), .val (.int fB), .val (.int wB), .unset, .unset, .unset, .unset, .unset] [(.int lA), (.int (0 : Int32))])) _
        exact k
      by_cases hc66 : (0 : Int32) = lA
      · refine ⟨(0 : Int32), T54, _, X54, Nj54, ej54, Or.inl rfl, fun t k => ?_⟩
        refine pre65 t ?_
        show Steps p.tables e below (T54.setTop (mkF m 278 #[.val (.int va), .val (.int vb), .val (.int vc), .val (.int vd), .val (.int ve), .val (.int nA), .val (.int cA), .val (.int dA), .val (.int wA), .val (.int lA), .val (.int mA), .val (.int eA), .val (.int fA), .val (.int nid), .val (.int nB), .val (.int cB), .val (.int dB), .val (.int ncp), .val (.int mB), .val (.int eB), .val (.int fB), .val (.int wB), .unset, .unset, .unset, .unset, .unset] [(.int lA), (.int (0 : Int32))])) _
        refine XS.icmpYes X54.here hx rfl (pc0 := 278) (pc' := 285) rfl (hb hby at_278) rfl (teq hc66).1 (by decide) (by decide) ?_
        show Steps p.tables e below (T54.setTop (mkF m 285 #[.val (.int va), .val (.int vb), .val (.int vc), .val (.int vd), .val (.int ve), .val (.int nA), .val (.int cA), .val (.int dA), .val (.int wA), .val (.int lA), .val (.int mA), .val (.int eA), .val (.int fA), .val (.int nid), .val (.int nB), .val (.int cB), .val (.int dB), .val (.int ncp), .val (.int mB), .val (.int eB), .val (.int fB), .val (.int wB), .unset, .unset, .unset, .unset, .unset] [])) _
        refine XS.iconst X54.here hx rfl (hb hby at_285) ?_
        show Steps p.tables e below (T54.setTop (mkF m 286 #[.val (.int va), .val (.int vb), .val (.int vc), .val (.int vd), .val (.int ve), .val (.int nA), .val (.int cA), .val (.int dA), .val (.int wA), .val (.int lA), .val (.int mA), .val (.int eA), .val (.int fA), .val (.int nid), .val (.int nB), .val (.int cB), .val (.int dB), .val (.int ncp), .val (.int mB), .val (.int eB), .val (.int fB), .val (.int wB), .unset, .unset, .unset, .unset, .unset] [(.int (0 : Int32))])) _
        exact k
      · refine ⟨(1 : Int32), T54, _, X54, Nj54, ej54, Or.inr rfl, fun t k => ?_⟩
        refine pre65 t ?_
        show Steps p.tables e below (T54.setTop (mkF m 278 #[.val (.int va), .val (.int vb), .val (.int vc), .val (.int vd), .val (.int ve), .val (.int nA), .val (.int cA), .val (.int dA), .val (.int wA), .val (.int lA), .val (.int mA), .val (.int eA), .val (.int fA), .val (.int nid), .val (.int nB), .val (.int cB), .val (.int dB), .val (.int ncp), .val (.int mB), .val (.int eB), .val (.int fB), .val (.int wB), .unset, .unset, .unset, .unset, .unset] [(.int lA), (.int (0 : Int32))])) _
        refine XS.icmpNo X54.here hx rfl (hb hby at_278) rfl (feq hc66).1 ?_
        show Steps p.tables e below (T54.setTop (mkF m 281 #[.val (.int va), .val (.int vb), .val (.int vc), .val (.int vd), .val (.int ve), .val (.int nA), .val (.int cA), .val (.int dA), .val (.int wA), .val (.int lA), .val (.int mA), .val (.int eA), .val (.int fA), .val (.int nid), .val (.int nB), .val (.int cB), .val (.int dB), .val (.int ncp), .val (.int mB), .val (.int eB), .val (.int fB), .val (.int wB), .unset, .unset, .unset, .unset, .unset] [])) _
        refine XS.iconst X54.here hx rfl (hb hby at_281) ?_
        show Steps p.tables e below (T54.setTop (mkF m 282 #[.val (.int va), .val (.int vb), .val (.int vc), .val (.int vd), .val (.int ve), .val (.int nA), .val (.int cA), .val (.int dA), .val (.int wA), .val (.int lA), .val (.int mA), .val (.int eA), .val (.int fA), .val (.int nid), .val (.int nB), .val (.int cB), .val (.int dB), .val (.int ncp), .val (.int mB), .val (.int eB), .val (.int fB), .val (.int wB), .unset, .unset, .unset, .unset, .unset] [(.int (1 : Int32))])) _
        refine XS.goto X54.here hx rfl (pc0 := 282) (pc' := 286) rfl (hb hby at_282) (by decide) (by decide) ?_
        show Steps p.tables e below (T54.setTop (mkF m 286 #[.val (.int va), .val (.int vb), .val (.int vc), .val (.int vd), .val (.int ve), .val (.int nA), .val (.int cA), .val (.int dA), .val (.int wA), .val (.int lA), .val (.int mA), .val (.int eA), .val (.int fA), .val (.int nid), .val (.int nB), .val (.int cB), .val (.int dB), .val (.int ncp), .val (.int mB), .val (.int eB), .val (.int fB), .val (.int wB), .unset, .unset, .unset, .unset, .unset] [(.int (1 : Int32))])) _
        exact k
    · have pre67 : ∀ t, Steps p.tables e below (T54.setTop (mkF m 278 #[.val (.int va), .val (.int vb), .val (.int vc), .val (.int vd), .val (.int ve), .val (.int nA), .val (.int cA), .val (.int dA), .val (.int wA), .val (.int lA), .val (.int mA), .val (.int eA), .val (.int fA), .val (.int nid), .val (.int nB), .val (.int cB), .val (.int dB), .val (.int ncp), .val (.int mB), .val (.int eB), .val (.int fB), .val (.int wB), .unset, .unset, .unset, .unset, .unset] [(.int lA), (.int (1 : Int32))])) t → Steps p.tables e below (s₁.setTop (entryFrame m #[(.int va), (.int vb), (.int vc), (.int vd), (.int ve)] maxLocals)) t := by
        intro t k
        refine pre63 t ?_
        show Steps p.tables e below (T54.setTop (mkF m 268 #[.val (.int va), .val (.int vb), .val (.int vc), .val (.int vd), .val (.int ve), .val (.int nA), .val (.int cA), .val (.int dA), .val (.int wA), .val (.int lA), .val (.int mA), .val (.int eA), .val (.int fA), .val (.int nid), .val (.int nB), .val (.int cB), .val (.int dB), .val (.int ncp), .val (.int mB), .val (.int eB), .val (.int fB), .val (.int wB), .unset, .unset, .unset, .unset, .unset] [(.int (vc &&& (8 : Int32)))])) _
        refine XS.ifNo X54.here hx rfl (hb hby at_268) rfl ((if0 _ _).trans (feq hc64).1) ?_
        show Steps p.tables e below (T54.setTop (mkF m 271 #[.val (.int va), .val (.int vb), .val (.int vc), .val (.int vd), .val (.int ve), .val (.int nA), .val (.int cA), .val (.int dA), .val (.int wA), .val (.int lA), .val (.int mA), .val (.int eA), .val (.int fA), .val (.int nid), .val (.int nB), .val (.int cB), .val (.int dB), .val (.int ncp), .val (.int mB), .val (.int eB), .val (.int fB), .val (.int wB), .unset, .unset, .unset, .unset, .unset] [])) _
        refine XS.iconst X54.here hx rfl (hb hby at_271) ?_
        show Steps p.tables e below (T54.setTop (mkF m 272 #[.val (.int va), .val (.int vb), .val (.int vc), .val (.int vd), .val (.int ve), .val (.int nA), .val (.int cA), .val (.int dA), .val (.int wA), .val (.int lA), .val (.int mA), .val (.int eA), .val (.int fA), .val (.int nid), .val (.int nB), .val (.int cB), .val (.int dB), .val (.int ncp), .val (.int mB), .val (.int eB), .val (.int fB), .val (.int wB), .unset, .unset, .unset, .unset, .unset] [(.int (1 : Int32))])) _
        refine XS.goto X54.here hx rfl (pc0 := 272) (pc' := 276) rfl (hb hby at_272) (by decide) (by decide) ?_
        show Steps p.tables e below (T54.setTop (mkF m 276 #[.val (.int va), .val (.int vb), .val (.int vc), .val (.int vd), .val (.int ve), .val (.int nA), .val (.int cA), .val (.int dA), .val (.int wA), .val (.int lA), .val (.int mA), .val (.int eA), .val (.int fA), .val (.int nid), .val (.int nB), .val (.int cB), .val (.int dB), .val (.int ncp), .val (.int mB), .val (.int eB), .val (.int fB), .val (.int wB), .unset, .unset, .unset, .unset, .unset] [(.int (1 : Int32))])) _
        refine XS.iload X54.here hx rfl (hb hby at_276) rfl ?_
        show Steps p.tables e below (T54.setTop (mkF m 278 #[.val (.int va), .val (.int vb), .val (.int vc), .val (.int vd), .val (.int ve), .val (.int nA), .val (.int cA), .val (.int dA), .val (.int wA), .val (.int lA), .val (.int mA), .val (.int eA), .val (.int fA), .val (.int nid), .val (.int nB), .val (.int cB), .val (.int dB), .val (.int ncp), .val (.int mB), .val (.int eB), .val (.int fB), .val (.int wB), .unset, .unset, .unset, .unset, .unset] [(.int lA), (.int (1 : Int32))])) _
        exact k
      by_cases hc68 : (1 : Int32) = lA
      · refine ⟨(0 : Int32), T54, _, X54, Nj54, ej54, Or.inl rfl, fun t k => ?_⟩
        refine pre67 t ?_
        show Steps p.tables e below (T54.setTop (mkF m 278 #[.val (.int va), .val (.int vb), .val (.int vc), .val (.int vd), .val (.int ve), .val (.int nA), .val (.int cA), .val (.int dA), .val (.int wA), .val (.int lA), .val (.int mA), .val (.int eA), .val (.int fA), .val (.int nid), .val (.int nB), .val (.int cB), .val (.int dB), .val (.int ncp), .val (.int mB), .val (.int eB), .val (.int fB), .val (.int wB), .unset, .unset, .unset, .unset, .unset] [(.int lA), (.int (1 : Int32))])) _
        refine XS.icmpYes X54.here hx rfl (pc0 := 278) (pc' := 285) rfl (hb hby at_278) rfl (teq hc68).1 (by decide) (by decide) ?_
        show Steps p.tables e below (T54.setTop (mkF m 285 #[.val (.int va), .val (.int vb), .val (.int vc), .val (.int vd), .val (.int ve), .val (.int nA), .val (.int cA), .val (.int dA), .val (.int wA), .val (.int lA), .val (.int mA), .val (.int eA), .val (.int fA), .val (.int nid), .val (.int nB), .val (.int cB), .val (.int dB), .val (.int ncp), .val (.int mB), .val (.int eB), .val (.int fB), .val (.int wB), .unset, .unset, .unset, .unset, .unset] [])) _
        refine XS.iconst X54.here hx rfl (hb hby at_285) ?_
        show Steps p.tables e below (T54.setTop (mkF m 286 #[.val (.int va), .val (.int vb), .val (.int vc), .val (.int vd), .val (.int ve), .val (.int nA), .val (.int cA), .val (.int dA), .val (.int wA), .val (.int lA), .val (.int mA), .val (.int eA), .val (.int fA), .val (.int nid), .val (.int nB), .val (.int cB), .val (.int dB), .val (.int ncp), .val (.int mB), .val (.int eB), .val (.int fB), .val (.int wB), .unset, .unset, .unset, .unset, .unset] [(.int (0 : Int32))])) _
        exact k
      · refine ⟨(1 : Int32), T54, _, X54, Nj54, ej54, Or.inr rfl, fun t k => ?_⟩
        refine pre67 t ?_
        show Steps p.tables e below (T54.setTop (mkF m 278 #[.val (.int va), .val (.int vb), .val (.int vc), .val (.int vd), .val (.int ve), .val (.int nA), .val (.int cA), .val (.int dA), .val (.int wA), .val (.int lA), .val (.int mA), .val (.int eA), .val (.int fA), .val (.int nid), .val (.int nB), .val (.int cB), .val (.int dB), .val (.int ncp), .val (.int mB), .val (.int eB), .val (.int fB), .val (.int wB), .unset, .unset, .unset, .unset, .unset] [(.int lA), (.int (1 : Int32))])) _
        refine XS.icmpNo X54.here hx rfl (hb hby at_278) rfl (feq hc68).1 ?_
        show Steps p.tables e below (T54.setTop (mkF m 281 #[.val (.int va), .val (.int vb), .val (.int vc), .val (.int vd), .val (.int ve), .val (.int nA), .val (.int cA), .val (.int dA), .val (.int wA), .val (.int lA), .val (.int mA), .val (.int eA), .val (.int fA), .val (.int nid), .val (.int nB), .val (.int cB), .val (.int dB), .val (.int ncp), .val (.int mB), .val (.int eB), .val (.int fB), .val (.int wB), .unset, .unset, .unset, .unset, .unset] [])) _
        refine XS.iconst X54.here hx rfl (hb hby at_281) ?_
        show Steps p.tables e below (T54.setTop (mkF m 282 #[.val (.int va), .val (.int vb), .val (.int vc), .val (.int vd), .val (.int ve), .val (.int nA), .val (.int cA), .val (.int dA), .val (.int wA), .val (.int lA), .val (.int mA), .val (.int eA), .val (.int fA), .val (.int nid), .val (.int nB), .val (.int cB), .val (.int dB), .val (.int ncp), .val (.int mB), .val (.int eB), .val (.int fB), .val (.int wB), .unset, .unset, .unset, .unset, .unset] [(.int (1 : Int32))])) _
        refine XS.goto X54.here hx rfl (pc0 := 282) (pc' := 286) rfl (hb hby at_282) (by decide) (by decide) ?_
        show Steps p.tables e below (T54.setTop (mkF m 286 #[.val (.int va), .val (.int vb), .val (.int vc), .val (.int vd), .val (.int ve), .val (.int nA), .val (.int cA), .val (.int dA), .val (.int wA), .val (.int lA), .val (.int mA), .val (.int eA), .val (.int fA), .val (.int nid), .val (.int nB), .val (.int cB), .val (.int dB), .val (.int ncp), .val (.int mB), .val (.int eB), .val (.int fB), .val (.int wB), .unset, .unset, .unset, .unset, .unset] [(.int (1 : Int32))])) _
        exact k
  have b_lB := hj62
  have pre69 : ∀ t, Steps p.tables e below (T62.setTop (mkF m 295 #[.val (.int va), .val (.int vb), .val (.int vc), .val (.int vd), .val (.int ve), .val (.int nA), .val (.int cA), .val (.int dA), .val (.int wA), .val (.int lA), .val (.int mA), .val (.int eA), .val (.int fA), .val (.int nid), .val (.int nB), .val (.int cB), .val (.int dB), .val (.int ncp), .val (.int mB), .val (.int eB), .val (.int fB), .val (.int wB), .val (.int lB), .val (.int (((vc.toUInt32 >>> ((4 : Int32) &&& 31).toUInt32).toInt32) &&& (3 : Int32))), .unset, .unset, .unset] [])) t → Steps p.tables e below (s₁.setTop (entryFrame m #[(.int va), (.int vb), (.int vc), (.int vd), (.int ve)] maxLocals)) t := by
    intro t k
    refine pre62 t ?_
    show Steps p.tables e below (T62.setTop (mkF m 286 #[.val (.int va), .val (.int vb), .val (.int vc), .val (.int vd), .val (.int ve), .val (.int nA), .val (.int cA), .val (.int dA), .val (.int wA), .val (.int lA), .val (.int mA), .val (.int eA), .val (.int fA), .val (.int nid), .val (.int nB), .val (.int cB), .val (.int dB), .val (.int ncp), .val (.int mB), .val (.int eB), .val (.int fB), .val (.int wB), .unset, .unset, .unset, .unset, .unset] [(.int lB)])) _
    refine XS.istore X62.here hx rfl (hb hby at_286) rfl (l' := #[.val (.int va), .val (.int vb), .val (.int vc), .val (.int vd), .val (.int ve), .val (.int nA), .val (.int cA), .val (.int dA), .val (.int wA), .val (.int lA), .val (.int mA), .val (.int eA), .val (.int fA), .val (.int nid), .val (.int nB), .val (.int cB), .val (.int dB), .val (.int ncp), .val (.int mB), .val (.int eB), .val (.int fB), .val (.int wB), .val (.int lB), .unset, .unset, .unset, .unset]) rfl ?_
    show Steps p.tables e below (T62.setTop (mkF m 288 #[.val (.int va), .val (.int vb), .val (.int vc), .val (.int vd), .val (.int ve), .val (.int nA), .val (.int cA), .val (.int dA), .val (.int wA), .val (.int lA), .val (.int mA), .val (.int eA), .val (.int fA), .val (.int nid), .val (.int nB), .val (.int cB), .val (.int dB), .val (.int ncp), .val (.int mB), .val (.int eB), .val (.int fB), .val (.int wB), .val (.int lB), .unset, .unset, .unset, .unset] [])) _
    refine XS.iloadN X62.here hx rfl (hb hby at_288) rfl ?_
    show Steps p.tables e below (T62.setTop (mkF m 289 #[.val (.int va), .val (.int vb), .val (.int vc), .val (.int vd), .val (.int ve), .val (.int nA), .val (.int cA), .val (.int dA), .val (.int wA), .val (.int lA), .val (.int mA), .val (.int eA), .val (.int fA), .val (.int nid), .val (.int nB), .val (.int cB), .val (.int dB), .val (.int ncp), .val (.int mB), .val (.int eB), .val (.int fB), .val (.int wB), .val (.int lB), .unset, .unset, .unset, .unset] [(.int vc)])) _
    refine XS.iconst X62.here hx rfl (hb hby at_289) ?_
    show Steps p.tables e below (T62.setTop (mkF m 290 #[.val (.int va), .val (.int vb), .val (.int vc), .val (.int vd), .val (.int ve), .val (.int nA), .val (.int cA), .val (.int dA), .val (.int wA), .val (.int lA), .val (.int mA), .val (.int eA), .val (.int fA), .val (.int nid), .val (.int nB), .val (.int cB), .val (.int dB), .val (.int ncp), .val (.int mB), .val (.int eB), .val (.int fB), .val (.int wB), .val (.int lB), .unset, .unset, .unset, .unset] [(.int (4 : Int32)), (.int vc)])) _
    refine XS.iushr X62.here hx rfl (hb hby at_290) rfl ?_
    show Steps p.tables e below (T62.setTop (mkF m 291 #[.val (.int va), .val (.int vb), .val (.int vc), .val (.int vd), .val (.int ve), .val (.int nA), .val (.int cA), .val (.int dA), .val (.int wA), .val (.int lA), .val (.int mA), .val (.int eA), .val (.int fA), .val (.int nid), .val (.int nB), .val (.int cB), .val (.int dB), .val (.int ncp), .val (.int mB), .val (.int eB), .val (.int fB), .val (.int wB), .val (.int lB), .unset, .unset, .unset, .unset] [(.int ((vc.toUInt32 >>> ((4 : Int32) &&& 31).toUInt32).toInt32))])) _
    refine XS.iconst X62.here hx rfl (hb hby at_291) ?_
    show Steps p.tables e below (T62.setTop (mkF m 292 #[.val (.int va), .val (.int vb), .val (.int vc), .val (.int vd), .val (.int ve), .val (.int nA), .val (.int cA), .val (.int dA), .val (.int wA), .val (.int lA), .val (.int mA), .val (.int eA), .val (.int fA), .val (.int nid), .val (.int nB), .val (.int cB), .val (.int dB), .val (.int ncp), .val (.int mB), .val (.int eB), .val (.int fB), .val (.int wB), .val (.int lB), .unset, .unset, .unset, .unset] [(.int (3 : Int32)), (.int ((vc.toUInt32 >>> ((4 : Int32) &&& 31).toUInt32).toInt32))])) _
    refine XS.iand X62.here hx rfl (hb hby at_292) rfl ?_
    show Steps p.tables e below (T62.setTop (mkF m 293 #[.val (.int va), .val (.int vb), .val (.int vc), .val (.int vd), .val (.int ve), .val (.int nA), .val (.int cA), .val (.int dA), .val (.int wA), .val (.int lA), .val (.int mA), .val (.int eA), .val (.int fA), .val (.int nid), .val (.int nB), .val (.int cB), .val (.int dB), .val (.int ncp), .val (.int mB), .val (.int eB), .val (.int fB), .val (.int wB), .val (.int lB), .unset, .unset, .unset, .unset] [(.int (((vc.toUInt32 >>> ((4 : Int32) &&& 31).toUInt32).toInt32) &&& (3 : Int32)))])) _
    refine XS.istore X62.here hx rfl (hb hby at_293) rfl (l' := #[.val (.int va), .val (.int vb), .val (.int vc), .val (.int vd), .val (.int ve), .val (.int nA), .val (.int cA), .val (.int dA), .val (.int wA), .val (.int lA), .val (.int mA), .val (.int eA), .val (.int fA), .val (.int nid), .val (.int nB), .val (.int cB), .val (.int dB), .val (.int ncp), .val (.int mB), .val (.int eB), .val (.int fB), .val (.int wB), .val (.int lB), .val (.int (((vc.toUInt32 >>> ((4 : Int32) &&& 31).toUInt32).toInt32) &&& (3 : Int32))), .unset, .unset, .unset]) rfl ?_
    show Steps p.tables e below (T62.setTop (mkF m 295 #[.val (.int va), .val (.int vb), .val (.int vc), .val (.int vd), .val (.int ve), .val (.int nA), .val (.int cA), .val (.int dA), .val (.int wA), .val (.int lA), .val (.int mA), .val (.int eA), .val (.int fA), .val (.int nid), .val (.int nB), .val (.int cB), .val (.int dB), .val (.int ncp), .val (.int mB), .val (.int eB), .val (.int fB), .val (.int wB), .val (.int lB), .val (.int (((vc.toUInt32 >>> ((4 : Int32) &&& 31).toUInt32).toInt32) &&& (3 : Int32))), .unset, .unset, .unset] [])) _
    exact k
  obtain ⟨kd, h_kd⟩ : ∃ z : Int32, z = (((vc.toUInt32 >>> ((4 : Int32) &&& 31).toUInt32).toInt32) &&& (3 : Int32)) := ⟨_, rfl⟩
  have pre70 : ∀ t, Steps p.tables e below (T62.setTop (mkF m 295 #[.val (.int va), .val (.int vb), .val (.int vc), .val (.int vd), .val (.int ve), .val (.int nA), .val (.int cA), .val (.int dA), .val (.int wA), .val (.int lA), .val (.int mA), .val (.int eA), .val (.int fA), .val (.int nid), .val (.int nB), .val (.int cB), .val (.int dB), .val (.int ncp), .val (.int mB), .val (.int eB), .val (.int fB), .val (.int wB), .val (.int lB), .val (.int kd), .unset, .unset, .unset] [])) t → Steps p.tables e below (s₁.setTop (entryFrame m #[(.int va), (.int vb), (.int vc), (.int vd), (.int ve)] maxLocals)) t := by
    subst h_kd
    exact pre69
  obtain ⟨T71, h71, X71, e71, E71, A71, D71, U71, st71⟩ := newO X62 hx hZ hown (hw _ (List.mem_of_getElem? (i := 4) rfl)) (hw _ (List.mem_of_getElem? (i := 5) rfl)) (hw _ (List.mem_of_getElem? (i := 6) rfl)) ej62 (g := (mkF m 295 #[.val (.int va), .val (.int vb), .val (.int vc), .val (.int vd), .val (.int ve), .val (.int nA), .val (.int cA), .val (.int dA), .val (.int wA), .val (.int lA), .val (.int mA), .val (.int eA), .val (.int fA), .val (.int nid), .val (.int nB), .val (.int cB), .val (.int dB), .val (.int ncp), .val (.int mB), .val (.int eB), .val (.int fB), .val (.int wB), .val (.int lB), .val (.int kd), .unset, .unset, .unset] [])) rfl (hb hby at_295) (by decide) (by decide)
  obtain ⟨b71, g71⟩ : ∃ z, z = h0.size := ⟨_, rfl⟩
  rw [← g71] at A71 D71 U71 st71
  have g_b71 : n0 ≤ b71 := Nat.le_trans Z0 (Nat.le_of_eq g71.symm)
  have CC72 := CC0.trans (CHr.ext E71 CC0.1)
  have Zp73 : n0 ≤ h71.size := Nat.le_trans Z0 E71.1
  have Fn74 : Fld Z h71 b71 "com/example/netmark/netmark/rules/NettingAgreement" "id" "Ljava/lang/String;" .null := D71 (Or.inr (hw _ (List.mem_of_getElem? (i := 60) rfl))) (ty := (.object "java/lang/String")) (by decide)
  have Fn75 : Fld Z h71 b71 "com/example/netmark/netmark/rules/NettingAgreement" "counterpartyId" "Ljava/lang/String;" .null := D71 (Or.inr (hw _ (List.mem_of_getElem? (i := 62) rfl))) (ty := (.object "java/lang/String")) (by decide)
  have Fn76 : Fld Z h71 b71 "com/example/netmark/netmark/rules/NettingAgreement" "walkawayClause" "Z" (.int (0 : Int32)) := D71 (Or.inr (hw _ (List.mem_of_getElem? (i := 64) rfl))) (ty := .boolean) (by decide)
  have Fn77 : Fld Z h71 b71 "com/example/netmark/netmark/rules/NettingAgreement" "legallyEnforceable" "Z" (.int (0 : Int32)) := D71 (Or.inr (hw _ (List.mem_of_getElem? (i := 66) rfl))) (ty := .boolean) (by decide)
  have Fc78 := (Sta.ext E71 S_cs)
  obtain ⟨_, _, ⟨T79, L79, k79, n79⟩, -, Xs79, hSs79, hgs79, ⟨Lc79, hQ79, l79, y79, z79, hC79⟩, st79⟩ := callSS X71 hx (y := (⟨"com/example/netmark/netmark/rules/NettingAgreementEqualsPinLaw", "mk", "(ICC)Ljava/lang/String;"⟩ : MethodName)) hown (mvT hZ (hw _ (List.mem_of_getElem? (i := 7) rfl))) (mvT hZ (hw _ (List.mem_of_getElem? (i := 8) rfl))) (mvT hZ (hw _ (List.mem_of_getElem? (i := 9) rfl))) (mvT hZ (hw _ (List.mem_of_getElem? (i := 10) rfl))) (by decide) (backOfSH (W := 2) (rm_mk l Z a0 hw [] nA cA dA vcs h71 n0 Zp73 l_nA r_cA r_dA Fc78 hcs) hZ (hw _ (List.mem_of_getElem? (i := 10) rfl)) (hw _ (List.mem_of_getElem? (i := 9) rfl)) (by decide) (by decide) (own_ew hw) CC72.1) (g := (mkF m 305 #[.val (.int va), .val (.int vb), .val (.int vc), .val (.int vd), .val (.int ve), .val (.int nA), .val (.int cA), .val (.int dA), .val (.int wA), .val (.int lA), .val (.int mA), .val (.int eA), .val (.int fA), .val (.int nid), .val (.int nB), .val (.int cB), .val (.int dB), .val (.int ncp), .val (.int mB), .val (.int eB), .val (.int fB), .val (.int wB), .val (.int lB), .val (.int kd), .unset, .unset, .unset] [(.int dA), (.int cA), (.int nA), (.ref b71), (.ref b71)])) rfl (by rw [hml]; rfl) (argsL := [(.int nA), (.int cA), (.int dA)]) (rest := [(.ref b71), (.ref b71)]) (lenOf own_pd10 rfl) rfl (by show 2 * 0 + _ ≤ _; exact Nat.le_of_eq rfl) (hb hby at_305) (fun _ _ => ⟨rfl, e71, (by decide : 1 + 6 ≤ _), (by decide : 4 + 12 ≤ _)⟩)
  obtain ⟨X79, hS79, hZ79, hown79⟩ := rebS (s := s) (vm0 := s.vm) ((State.WarmedH.refl s).since 0) (Nat.zero_le _) Xs79 hSs79 hgs79 hZ hown
  dsimp only [Pt.U, Pt.locs, Pt.cells, Pt.slots] at X79 l79 y79 z79 st79 hQ79 hC79
  subst l79 y79 z79
  obtain ⟨b79, vb79, kb79, rfl, Nq79, K79, g_b79, sz_b79, Ex79, Fv79, Fc79, V79⟩ := hQ79
  have Nf79 := Fr.app Nj62 Nq79
  have CC80 := CC72.trans hC79
  have Zp81 : n0 ≤ T79.heap.size := Nat.le_trans Zp73 K79.1
  have Fc82 := (own_sta_keep K79 all0 Fc78)
  obtain ⟨_, _, ⟨T83, L83, k83, n83⟩, -, Xs83, hSs83, hgs83, ⟨Lc83, hQ83, l83, y83, z83, hC83⟩, st83⟩ := callSS X79 hx (y := (⟨"com/example/netmark/netmark/rules/NettingAgreementEqualsPinLaw", "mk", "(ICC)Ljava/lang/String;"⟩ : MethodName)) hown79 (mvT hZ79 (hw _ (List.mem_of_getElem? (i := 7) rfl))) (mvT hZ79 (hw _ (List.mem_of_getElem? (i := 8) rfl))) (mvT hZ79 (hw _ (List.mem_of_getElem? (i := 9) rfl))) (mvT hZ79 (hw _ (List.mem_of_getElem? (i := 10) rfl))) (by decide) (backOfSH (W := 3) (rm_mk l Z a0 hw [] mA eA fA vcs T79.heap n0 Zp81 l_mA r_eA r_fA Fc82 hcs) hZ79 (hw _ (List.mem_of_getElem? (i := 10) rfl)) (hw _ (List.mem_of_getElem? (i := 9) rfl)) (by decide) (by decide) (own_ew hw) CC80.1) (g := (mkF m 314 #[.val (.int va), .val (.int vb), .val (.int vc), .val (.int vd), .val (.int ve), .val (.int nA), .val (.int cA), .val (.int dA), .val (.int wA), .val (.int lA), .val (.int mA), .val (.int eA), .val (.int fA), .val (.int nid), .val (.int nB), .val (.int cB), .val (.int dB), .val (.int ncp), .val (.int mB), .val (.int eB), .val (.int fB), .val (.int wB), .val (.int lB), .val (.int kd), .unset, .unset, .unset] [(.int fA), (.int eA), (.int mA), (.ref b79), (.ref b71), (.ref b71)])) rfl (by rw [hml]; rfl) (argsL := [(.int mA), (.int eA), (.int fA)]) (rest := [(.ref b79), (.ref b71), (.ref b71)]) (lenOf own_pd10 rfl) rfl (by show 2 * 0 + _ ≤ _; exact Nat.le_of_eq rfl) (hb hby at_314) (fun _ _ => ⟨rfl, rfl, (by decide : 7 + 6 ≤ _), (by decide : 16 + 12 ≤ _)⟩)
  obtain ⟨X83, hS83, hZ83, hown83⟩ := rebS (s := s) (vm0 := T79.vm) hS79 (Nat.le_refl _) Xs83 hSs83 hgs83 hZ79 hown79
  dsimp only [Pt.U, Pt.locs, Pt.cells, Pt.slots] at X83 l83 y83 z83 st83 hQ83 hC83
  subst l83 y83 z83
  obtain ⟨b83, vb83, kb83, rfl, Nq83, K83, g_b83, sz_b83, Ex83, Fv83, Fc83, V83⟩ := hQ83
  have Nf83 := Fr.app Nf79 Nq83
  have CC84 := CC80.trans hC83
  have Zp85 : n0 ≤ T83.heap.size := Nat.le_trans Zp81 K83.1
  have Fc86 := ((A71.keep K79).keep K83)
  have Fc87 := ((Fn74.keep K79 nin0).keep K83 nin0)
  have Fc88 := ((Fn75.keep K79 nin0).keep K83 nin0)
  have Fc89 := ((Fn76.keep K79 nin0).keep K83 nin0)
  have Fc90 := ((Fn77.keep K79 nin0).keep K83 nin0)
  have Fc91 := (Ex79.keep K83)
  have Fc92 := (Fv79.keep K83 nin0)
  have Fc93 := (Fc79.keep K83 nin0)
  have Fc94 := (V79.keep K83 nin0)
  obtain ⟨_, _, ⟨T95, L95, k95, n95⟩, -, Xs95, hSs95, hgs95, ⟨Lc95, hQ95, l95, y95, z95, hC95⟩, st95⟩ := X83.specialBackS hx (y := (⟨"com/example/netmark/netmark/rules/NettingAgreement", "<init>", "(Ljava/lang/String;Ljava/lang/String;ZZ)V"⟩ : MethodName)) rfl hown83 (mvT hZ83 (hw _ (List.mem_of_getElem? (i := 44) rfl))) (mvT hZ83 (hw _ (List.mem_of_getElem? (i := 45) rfl))) (mvT hZ83 (hw _ (List.mem_of_getElem? (i := 46) rfl))) (by decide) (backOfSH (W := 1) (rm_na l Z a0 hw [] b71 b79 b83 wA lA vb79 kb79 nA cA dA T83.heap n0 Zp85 Fc86 g_b71 Fc87 Fc88 Fc89 Fc90 b_wA b_lA p_nA Fc91 Fc92 Fc93 Fc94) hZ83 (hw _ (List.mem_of_getElem? (i := 46) rfl)) (hw _ (List.mem_of_getElem? (i := 6) rfl)) (by decide) (by decide) (own_ew hw) CC84.1) (g := (mkF m 321 #[.val (.int va), .val (.int vb), .val (.int vc), .val (.int vd), .val (.int ve), .val (.int nA), .val (.int cA), .val (.int dA), .val (.int wA), .val (.int lA), .val (.int mA), .val (.int eA), .val (.int fA), .val (.int nid), .val (.int nB), .val (.int cB), .val (.int dB), .val (.int ncp), .val (.int mB), .val (.int eB), .val (.int fB), .val (.int wB), .val (.int lB), .val (.int kd), .unset, .unset, .unset] [(.int lA), (.int wA), (.ref b83), (.ref b79), (.ref b71), (.ref b71)])) rfl (by rw [hml]; rfl) (Steps.refl _) (a := b71) (argsL := [(.ref b79), (.ref b83), (.int wA), (.int lA)]) (rest := [(.ref b71)]) (lenOf own_pd11 rfl) rfl (by show 2 * 0 + _ ≤ _; exact Nat.le_of_eq rfl) (hb hby at_321) (fun _ _ => ⟨rfl, rfl, (by decide : 13 + 4 ≤ _), (by decide : 28 + 72 ≤ _)⟩)
  obtain ⟨X95, hS95, hZ95, hown95⟩ := rebS (s := s) (vm0 := T83.vm) hS83 (Nat.le_refl _) Xs95 hSs95 hgs95 hZ83 hown83
  dsimp only [Pt.U, Pt.locs, Pt.cells, Pt.slots] at X95 l95 y95 z95 st95 hQ95 hC95
  subst l95 y95 z95
  obtain ⟨rfl, Nq95, K95, Ex95, Fx95_0, Fx95_1, Fx95_2, Fx95_3⟩ := hQ95
  have Nf95 := Fr.app Nf83 Nq95
  have CC96 := CC84.trans hC95
  have Zp97 : n0 ≤ T95.heap.size := Nat.le_trans Zp85 K95.1
  have pre98 : ∀ t, Steps p.tables e below (T95.setTop (mkF m 329 #[.val (.int va), .val (.int vb), .val (.int vc), .val (.int vd), .val (.int ve), .val (.int nA), .val (.int cA), .val (.int dA), .val (.int wA), .val (.int lA), .val (.int mA), .val (.int eA), .val (.int fA), .val (.int nid), .val (.int nB), .val (.int cB), .val (.int dB), .val (.int ncp), .val (.int mB), .val (.int eB), .val (.int fB), .val (.int wB), .val (.int lB), .val (.int kd), .val (.ref b71), .unset, .unset] [(.int (2 : Int32)), (.int kd)])) t → Steps p.tables e below (s₁.setTop (entryFrame m #[(.int va), (.int vb), (.int vc), (.int vd), (.int ve)] maxLocals)) t := by
    intro t k
    refine pre70 t ?_
    show Steps p.tables e below (T62.setTop (mkF m 295 #[.val (.int va), .val (.int vb), .val (.int vc), .val (.int vd), .val (.int ve), .val (.int nA), .val (.int cA), .val (.int dA), .val (.int wA), .val (.int lA), .val (.int mA), .val (.int eA), .val (.int fA), .val (.int nid), .val (.int nB), .val (.int cB), .val (.int dB), .val (.int ncp), .val (.int mB), .val (.int eB), .val (.int fB), .val (.int wB), .val (.int lB), .val (.int kd), .unset, .unset, .unset] [])) _
    refine st71 _ ?_
    show Steps p.tables e below (T71.setTop (mkF m 298 #[.val (.int va), .val (.int vb), .val (.int vc), .val (.int vd), .val (.int ve), .val (.int nA), .val (.int cA), .val (.int dA), .val (.int wA), .val (.int lA), .val (.int mA), .val (.int eA), .val (.int fA), .val (.int nid), .val (.int nB), .val (.int cB), .val (.int dB), .val (.int ncp), .val (.int mB), .val (.int eB), .val (.int fB), .val (.int wB), .val (.int lB), .val (.int kd), .unset, .unset, .unset] [(.ref b71)])) _
    refine XS.dup X71.here hx rfl (hb hby at_298) rfl rfl ?_
    show Steps p.tables e below (T71.setTop (mkF m 299 #[.val (.int va), .val (.int vb), .val (.int vc), .val (.int vd), .val (.int ve), .val (.int nA), .val (.int cA), .val (.int dA), .val (.int wA), .val (.int lA), .val (.int mA), .val (.int eA), .val (.int fA), .val (.int nid), .val (.int nB), .val (.int cB), .val (.int dB), .val (.int ncp), .val (.int mB), .val (.int eB), .val (.int fB), .val (.int wB), .val (.int lB), .val (.int kd), .unset, .unset, .unset] [(.ref b71), (.ref b71)])) _
    refine XS.iload X71.here hx rfl (hb hby at_299) rfl ?_
    show Steps p.tables e below (T71.setTop (mkF m 301 #[.val (.int va), .val (.int vb), .val (.int vc), .val (.int vd), .val (.int ve), .val (.int nA), .val (.int cA), .val (.int dA), .val (.int wA), .val (.int lA), .val (.int mA), .val (.int eA), .val (.int fA), .val (.int nid), .val (.int nB), .val (.int cB), .val (.int dB), .val (.int ncp), .val (.int mB), .val (.int eB), .val (.int fB), .val (.int wB), .val (.int lB), .val (.int kd), .unset, .unset, .unset] [(.int nA), (.ref b71), (.ref b71)])) _
    refine XS.iload X71.here hx rfl (hb hby at_301) rfl ?_
    show Steps p.tables e below (T71.setTop (mkF m 303 #[.val (.int va), .val (.int vb), .val (.int vc), .val (.int vd), .val (.int ve), .val (.int nA), .val (.int cA), .val (.int dA), .val (.int wA), .val (.int lA), .val (.int mA), .val (.int eA), .val (.int fA), .val (.int nid), .val (.int nB), .val (.int cB), .val (.int dB), .val (.int ncp), .val (.int mB), .val (.int eB), .val (.int fB), .val (.int wB), .val (.int lB), .val (.int kd), .unset, .unset, .unset] [(.int cA), (.int nA), (.ref b71), (.ref b71)])) _
    refine XS.iload X71.here hx rfl (hb hby at_303) rfl ?_
    show Steps p.tables e below (T71.setTop (mkF m 305 #[.val (.int va), .val (.int vb), .val (.int vc), .val (.int vd), .val (.int ve), .val (.int nA), .val (.int cA), .val (.int dA), .val (.int wA), .val (.int lA), .val (.int mA), .val (.int eA), .val (.int fA), .val (.int nid), .val (.int nB), .val (.int cB), .val (.int dB), .val (.int ncp), .val (.int mB), .val (.int eB), .val (.int fB), .val (.int wB), .val (.int lB), .val (.int kd), .unset, .unset, .unset] [(.int dA), (.int cA), (.int nA), (.ref b71), (.ref b71)])) _
    refine st79.trans ?_
    show Steps p.tables e below (T79.setTop (mkF m 308 #[.val (.int va), .val (.int vb), .val (.int vc), .val (.int vd), .val (.int ve), .val (.int nA), .val (.int cA), .val (.int dA), .val (.int wA), .val (.int lA), .val (.int mA), .val (.int eA), .val (.int fA), .val (.int nid), .val (.int nB), .val (.int cB), .val (.int dB), .val (.int ncp), .val (.int mB), .val (.int eB), .val (.int fB), .val (.int wB), .val (.int lB), .val (.int kd), .unset, .unset, .unset] [(.ref b79), (.ref b71), (.ref b71)])) _
    refine XS.iload X79.here hx rfl (hb hby at_308) rfl ?_
    show Steps p.tables e below (T79.setTop (mkF m 310 #[.val (.int va), .val (.int vb), .val (.int vc), .val (.int vd), .val (.int ve), .val (.int nA), .val (.int cA), .val (.int dA), .val (.int wA), .val (.int lA), .val (.int mA), .val (.int eA), .val (.int fA), .val (.int nid), .val (.int nB), .val (.int cB), .val (.int dB), .val (.int ncp), .val (.int mB), .val (.int eB), .val (.int fB), .val (.int wB), .val (.int lB), .val (.int kd), .unset, .unset, .unset] [(.int mA), (.ref b79), (.ref b71), (.ref b71)])) _
    refine XS.iload X79.here hx rfl (hb hby at_310) rfl ?_
    show Steps p.tables e below (T79.setTop (mkF m 312 #[.val (.int va), .val (.int vb), .val (.int vc), .val (.int vd), .val (.int ve), .val (.int nA), .val (.int cA), .val (.int dA), .val (.int wA), .val (.int lA), .val (.int mA), .val (.int eA), .val (.int fA), .val (.int nid), .val (.int nB), .val (.int cB), .val (.int dB), .val (.int ncp), .val (.int mB), .val (.int eB), .val (.int fB), .val (.int wB), .val (.int lB), .val (.int kd), .unset, .unset, .unset] [(.int eA), (.int mA), (.ref b79), (.ref b71), (.ref b71)])) _
    refine XS.iload X79.here hx rfl (hb hby at_312) rfl ?_
    show Steps p.tables e below (T79.setTop (mkF m 314 #[.val (.int va), .val (.int vb), .val (.int vc), .val (.int vd), .val (.int ve), .val (.int nA), .val (.int cA), .val (.int dA), .val (.int wA), .val (.int lA), .val (.int mA), .val (.int eA), .val (.int fA), .val (.int nid), .val (.int nB), .val (.int cB), .val (.int dB), .val (.int ncp), .val (.int mB), .val (.int eB), .val (.int fB), .val (.int wB), .val (.int lB), .val (.int kd), .unset, .unset, .unset] [(.int fA), (.int eA), (.int mA), (.ref b79), (.ref b71), (.ref b71)])) _
    refine st83.trans ?_
    show Steps p.tables e below (T83.setTop (mkF m 317 #[.val (.int va), .val (.int vb), .val (.int vc), .val (.int vd), .val (.int ve), .val (.int nA), .val (.int cA), .val (.int dA), .val (.int wA), .val (.int lA), .val (.int mA), .val (.int eA), .val (.int fA), .val (.int nid), .val (.int nB), .val (.int cB), .val (.int dB), .val (.int ncp), .val (.int mB), .val (.int eB), .val (.int fB), .val (.int wB), .val (.int lB), .val (.int kd), .unset, .unset, .unset] [(.ref b83), (.ref b79), (.ref b71), (.ref b71)])) _
    refine XS.iload X83.here hx rfl (hb hby at_317) rfl ?_
    show Steps p.tables e below (T83.setTop (mkF m 319 #[.val (.int va), .val (.int vb), .val (.int vc), .val (.int vd), .val (.int ve), .val (.int nA), .val (.int cA), .val (.int dA), .val (.int wA), .val (.int lA), .val (.int mA), .val (.int eA), .val (.int fA), .val (.int nid), .val (.int nB), .val (.int cB), .val (.int dB), .val (.int ncp), .val (.int mB), .val (.int eB), .val (.int fB), .val (.int wB), .val (.int lB), .val (.int kd), .unset, .unset, .unset] [(.int wA), (.ref b83), (.ref b79), (.ref b71), (.ref b71)])) _
    refine XS.iload X83.here hx rfl (hb hby at_319) rfl ?_
    show Steps p.tables e below (T83.setTop (mkF m 321 #[.val (.int va), .val (.int vb), .val (.int vc), .val (.int vd), .val (.int ve), .val (.int nA), .val (.int cA), .val (.int dA), .val (.int wA), .val (.int lA), .val (.int mA), .val (.int eA), .val (.int fA), .val (.int nid), .val (.int nB), .val (.int cB), .val (.int dB), .val (.int ncp), .val (.int mB), .val (.int eB), .val (.int fB), .val (.int wB), .val (.int lB), .val (.int kd), .unset, .unset, .unset] [(.int lA), (.int wA), (.ref b83), (.ref b79), (.ref b71), (.ref b71)])) _
    refine st95.trans ?_
    show Steps p.tables e below (T95.setTop (mkF m 324 #[.val (.int va), .val (.int vb), .val (.int vc), .val (.int vd), .val (.int ve), .val (.int nA), .val (.int cA), .val (.int dA), .val (.int wA), .val (.int lA), .val (.int mA), .val (.int eA), .val (.int fA), .val (.int nid), .val (.int nB), .val (.int cB), .val (.int dB), .val (.int ncp), .val (.int mB), .val (.int eB), .val (.int fB), .val (.int wB), .val (.int lB), .val (.int kd), .unset, .unset, .unset] [(.ref b71)])) _
    refine XS.astore X95.here hx rfl (hb hby at_324) rfl rfl (l' := #[.val (.int va), .val (.int vb), .val (.int vc), .val (.int vd), .val (.int ve), .val (.int nA), .val (.int cA), .val (.int dA), .val (.int wA), .val (.int lA), .val (.int mA), .val (.int eA), .val (.int fA), .val (.int nid), .val (.int nB), .val (.int cB), .val (.int dB), .val (.int ncp), .val (.int mB), .val (.int eB), .val (.int fB), .val (.int wB), .val (.int lB), .val (.int kd), .val (.ref b71), .unset, .unset]) rfl ?_
    show Steps p.tables e below (T95.setTop (mkF m 326 #[.val (.int va), .val (.int vb), .val (.int vc), .val (.int vd), .val (.int ve), .val (.int nA), .val (.int cA), .val (.int dA), .val (.int wA), .val (.int lA), .val (.int mA), .val (.int eA), .val (.int fA), .val (.int nid), .val (.int nB), .val (.int cB), .val (.int dB), .val (.int ncp), .val (.int mB), .val (.int eB), .val (.int fB), .val (.int wB), .val (.int lB), .val (.int kd), .val (.ref b71), .unset, .unset] [])) _
    refine XS.iload X95.here hx rfl (hb hby at_326) rfl ?_
    show Steps p.tables e below (T95.setTop (mkF m 328 #[.val (.int va), .val (.int vb), .val (.int vc), .val (.int vd), .val (.int ve), .val (.int nA), .val (.int cA), .val (.int dA), .val (.int wA), .val (.int lA), .val (.int mA), .val (.int eA), .val (.int fA), .val (.int nid), .val (.int nB), .val (.int cB), .val (.int dB), .val (.int ncp), .val (.int mB), .val (.int eB), .val (.int fB), .val (.int wB), .val (.int lB), .val (.int kd), .val (.ref b71), .unset, .unset] [(.int kd)])) _
    refine XS.iconst X95.here hx rfl (hb hby at_328) ?_
    show Steps p.tables e below (T95.setTop (mkF m 329 #[.val (.int va), .val (.int vb), .val (.int vc), .val (.int vd), .val (.int ve), .val (.int nA), .val (.int cA), .val (.int dA), .val (.int wA), .val (.int lA), .val (.int mA), .val (.int eA), .val (.int fA), .val (.int nid), .val (.int nB), .val (.int cB), .val (.int dB), .val (.int ncp), .val (.int mB), .val (.int eB), .val (.int fB), .val (.int wB), .val (.int lB), .val (.int kd), .val (.ref b71), .unset, .unset] [(.int (2 : Int32)), (.int kd)])) _
    exact k
  by_cases hc99 : kd = (2 : Int32)
  · obtain ⟨cq101, kq101, q101a, q101b, q101c⟩ := isOf hZ95 rfl Ex95
    obtain ⟨_, _, ⟨T100, L100, k100, n100⟩, -, X100, ⟨Lc100, hQ100, l100, y100, z100⟩, st100⟩ := X95.virtualBack hx (y := (⟨"com/example/netmark/netmark/rules/NettingAgreement", "equals", "(Ljava/lang/Object;)Z"⟩ : MethodName)) (z := (⟨"com/example/netmark/netmark/rules/NettingAgreement", "equals", "(Ljava/lang/Object;)Z"⟩ : MethodName)) hown95 (mvT hZ95 (hw _ (List.mem_of_getElem? (i := 70) rfl))) (mvT hZ95 (hw _ (List.mem_of_getElem? (i := 71) rfl))) (notFace_of_selects (args := #[]) (mvT hZ95 (hw _ (List.mem_of_getElem? (i := 73) rfl)))) (mvT hZ95 (hw _ (List.mem_of_getElem? (i := 73) rfl))) (mvT hZ95 (hw _ (List.mem_of_getElem? (i := 72) rfl))) (by decide) (backOf (W := 0) (rm_eqN l Z a0 hw [] b71 T95.heap n0 Zp97 ) hZ95 (hw _ (List.mem_of_getElem? (i := 74) rfl)) (hw _ (List.mem_of_getElem? (i := 6) rfl)) (by decide) (by decide)) q101a q101c (g := (mkF m 335 #[.val (.int va), .val (.int vb), .val (.int vc), .val (.int vd), .val (.int ve), .val (.int nA), .val (.int cA), .val (.int dA), .val (.int wA), .val (.int lA), .val (.int mA), .val (.int eA), .val (.int fA), .val (.int nid), .val (.int nB), .val (.int cB), .val (.int dB), .val (.int ncp), .val (.int mB), .val (.int eB), .val (.int fB), .val (.int wB), .val (.int lB), .val (.int kd), .val (.ref b71), .unset, .unset] [.null, (.ref b71)])) rfl (by rw [hml]; rfl) (Steps.refl _) (argsL := [.null]) (rest := []) (lenOf own_pd8 rfl) rfl (by show 2 * 0 + _ ≤ _; exact Nat.le_of_eq rfl) (hb hby at_335) (fun _ _ => ⟨rfl, rfl, (by decide : 17 + 0 ≤ _), (by decide : 100 + 0 ≤ _)⟩)
    dsimp only [Pt.U, Pt.locs, Pt.cells, Pt.slots] at X100 l100 y100 z100 st100 hQ100
    subst l100 y100 z100
    obtain ⟨rfl, Nq100, hh100⟩ := hQ100
    have Nf100 := Fr.app Nf95 Nq100
    obtain ⟨fs, hr, hrun, hended, hREW⟩ := X100.leaveW (s := s) (vm₁ := T95.vm) hS95 (by rw [hh100]; exact (Nat.le_refl _)) (v := some (.int (1 : Int32))) (fun h => by rw [Bd.returns] at h; cases h)
    refine ⟨_, _, pre98 _ ?_, hrun, hended, _, _, rfl, ?_, ?_, hREW.1, hREW.2.1, hREW.2.2.1, hREW.2.2.2.mono (by decide) (by decide)⟩
    · show Steps p.tables e below (T95.setTop (mkF m 329 #[.val (.int va), .val (.int vb), .val (.int vc), .val (.int vd), .val (.int ve), .val (.int nA), .val (.int cA), .val (.int dA), .val (.int wA), .val (.int lA), .val (.int mA), .val (.int eA), .val (.int fA), .val (.int nid), .val (.int nB), .val (.int cB), .val (.int dB), .val (.int ncp), .val (.int mB), .val (.int eB), .val (.int fB), .val (.int wB), .val (.int lB), .val (.int kd), .val (.ref b71), .unset, .unset] [(.int (2 : Int32)), (.int kd)])) _
      refine XS.icmpNo X95.here hx rfl (hb hby at_329) rfl (teq hc99).2 ?_
      show Steps p.tables e below (T95.setTop (mkF m 332 #[.val (.int va), .val (.int vb), .val (.int vc), .val (.int vd), .val (.int ve), .val (.int nA), .val (.int cA), .val (.int dA), .val (.int wA), .val (.int lA), .val (.int mA), .val (.int eA), .val (.int fA), .val (.int nid), .val (.int nB), .val (.int cB), .val (.int dB), .val (.int ncp), .val (.int mB), .val (.int eB), .val (.int fB), .val (.int wB), .val (.int lB), .val (.int kd), .val (.ref b71), .unset, .unset] [])) _
      refine XS.aload X95.here hx rfl (hb hby at_332) rfl rfl ?_
      show Steps p.tables e below (T95.setTop (mkF m 334 #[.val (.int va), .val (.int vb), .val (.int vc), .val (.int vd), .val (.int ve), .val (.int nA), .val (.int cA), .val (.int dA), .val (.int wA), .val (.int lA), .val (.int mA), .val (.int eA), .val (.int fA), .val (.int nid), .val (.int nB), .val (.int cB), .val (.int dB), .val (.int ncp), .val (.int mB), .val (.int eB), .val (.int fB), .val (.int wB), .val (.int lB), .val (.int kd), .val (.ref b71), .unset, .unset] [(.ref b71)])) _
      refine XS.aconstNull X95.here hx rfl (hb hby at_334) ?_
      show Steps p.tables e below (T95.setTop (mkF m 335 #[.val (.int va), .val (.int vb), .val (.int vc), .val (.int vd), .val (.int ve), .val (.int nA), .val (.int cA), .val (.int dA), .val (.int wA), .val (.int lA), .val (.int mA), .val (.int eA), .val (.int fA), .val (.int nid), .val (.int nB), .val (.int cB), .val (.int dB), .val (.int ncp), .val (.int mB), .val (.int eB), .val (.int fB), .val (.int wB), .val (.int lB), .val (.int kd), .val (.ref b71), .unset, .unset] [.null, (.ref b71)])) _
      refine st100.trans ?_
      show Steps p.tables e below (T100.setTop (mkF m 338 #[.val (.int va), .val (.int vb), .val (.int vc), .val (.int vd), .val (.int ve), .val (.int nA), .val (.int cA), .val (.int dA), .val (.int wA), .val (.int lA), .val (.int mA), .val (.int eA), .val (.int fA), .val (.int nid), .val (.int nB), .val (.int cB), .val (.int dB), .val (.int ncp), .val (.int mB), .val (.int eB), .val (.int fB), .val (.int wB), .val (.int lB), .val (.int kd), .val (.ref b71), .unset, .unset] [(.int (0 : Int32))])) _
      refine XS.ifNo X100.here hx rfl (hb hby at_338) rfl (by decide) ?_
      show Steps p.tables e below (T100.setTop (mkF m 341 #[.val (.int va), .val (.int vb), .val (.int vc), .val (.int vd), .val (.int ve), .val (.int nA), .val (.int cA), .val (.int dA), .val (.int wA), .val (.int lA), .val (.int mA), .val (.int eA), .val (.int fA), .val (.int nid), .val (.int nB), .val (.int cB), .val (.int dB), .val (.int ncp), .val (.int mB), .val (.int eB), .val (.int fB), .val (.int wB), .val (.int lB), .val (.int kd), .val (.ref b71), .unset, .unset] [])) _
      refine XS.iconst X100.here hx rfl (hb hby at_341) ?_
      show Steps p.tables e below (T100.setTop (mkF m 342 #[.val (.int va), .val (.int vb), .val (.int vc), .val (.int vd), .val (.int ve), .val (.int nA), .val (.int cA), .val (.int dA), .val (.int wA), .val (.int lA), .val (.int mA), .val (.int eA), .val (.int fA), .val (.int nid), .val (.int nB), .val (.int cB), .val (.int dB), .val (.int ncp), .val (.int mB), .val (.int eB), .val (.int fB), .val (.int wB), .val (.int lB), .val (.int kd), .val (.ref b71), .unset, .unset] [(.int (1 : Int32))])) _
      refine XS.goto X100.here hx rfl (pc0 := 342) (pc' := 346) rfl (hb hby at_342) (by decide) (by decide) ?_
      show Steps p.tables e below (T100.setTop (mkF m 346 #[.val (.int va), .val (.int vb), .val (.int vc), .val (.int vd), .val (.int ve), .val (.int nA), .val (.int cA), .val (.int dA), .val (.int wA), .val (.int lA), .val (.int mA), .val (.int eA), .val (.int fA), .val (.int nid), .val (.int nB), .val (.int cB), .val (.int dB), .val (.int ncp), .val (.int mB), .val (.int eB), .val (.int fB), .val (.int wB), .val (.int lB), .val (.int kd), .val (.ref b71), .unset, .unset] [(.int (1 : Int32))])) _
      exact retN X100 hx (t := .boolean) Bd.returns (by simp) (hb hby at_346) hr
    · show Q0 Z va vb vc vd ve vcs h0 n0 _ T100.heap _
      rw [hh100]
      exact ⟨rfl, Nf100⟩
    · show CHr Z own_EL s.vm s.heap T100.vm T100.heap
      rw [hh, hh100]
      exact CC96.trans (CHv.at (s := s) (vm0 := T95.vm) X100 hZ95 (own_ew hw) CC96.1)
  · have pre102 : ∀ t, Steps p.tables e below (T95.setTop (mkF m 350 #[.val (.int va), .val (.int vb), .val (.int vc), .val (.int vd), .val (.int ve), .val (.int nA), .val (.int cA), .val (.int dA), .val (.int wA), .val (.int lA), .val (.int mA), .val (.int eA), .val (.int fA), .val (.int nid), .val (.int nB), .val (.int cB), .val (.int dB), .val (.int ncp), .val (.int mB), .val (.int eB), .val (.int fB), .val (.int wB), .val (.int lB), .val (.int kd), .val (.ref b71), .unset, .unset] [(.int (3 : Int32)), (.int kd)])) t → Steps p.tables e below (s₁.setTop (entryFrame m #[(.int va), (.int vb), (.int vc), (.int vd), (.int ve)] maxLocals)) t := by
      intro t k
      refine pre98 t ?_
      show Steps p.tables e below (T95.setTop (mkF m 329 #[.val (.int va), .val (.int vb), .val (.int vc), .val (.int vd), .val (.int ve), .val (.int nA), .val (.int cA), .val (.int dA), .val (.int wA), .val (.int lA), .val (.int mA), .val (.int eA), .val (.int fA), .val (.int nid), .val (.int nB), .val (.int cB), .val (.int dB), .val (.int ncp), .val (.int mB), .val (.int eB), .val (.int fB), .val (.int wB), .val (.int lB), .val (.int kd), .val (.ref b71), .unset, .unset] [(.int (2 : Int32)), (.int kd)])) _
      refine XS.icmpYes X95.here hx rfl (pc0 := 329) (pc' := 347) rfl (hb hby at_329) rfl (feq hc99).2 (by decide) (by decide) ?_
      show Steps p.tables e below (T95.setTop (mkF m 347 #[.val (.int va), .val (.int vb), .val (.int vc), .val (.int vd), .val (.int ve), .val (.int nA), .val (.int cA), .val (.int dA), .val (.int wA), .val (.int lA), .val (.int mA), .val (.int eA), .val (.int fA), .val (.int nid), .val (.int nB), .val (.int cB), .val (.int dB), .val (.int ncp), .val (.int mB), .val (.int eB), .val (.int fB), .val (.int wB), .val (.int lB), .val (.int kd), .val (.ref b71), .unset, .unset] [])) _
      refine XS.iload X95.here hx rfl (hb hby at_347) rfl ?_
      show Steps p.tables e below (T95.setTop (mkF m 349 #[.val (.int va), .val (.int vb), .val (.int vc), .val (.int vd), .val (.int ve), .val (.int nA), .val (.int cA), .val (.int dA), .val (.int wA), .val (.int lA), .val (.int mA), .val (.int eA), .val (.int fA), .val (.int nid), .val (.int nB), .val (.int cB), .val (.int dB), .val (.int ncp), .val (.int mB), .val (.int eB), .val (.int fB), .val (.int wB), .val (.int lB), .val (.int kd), .val (.ref b71), .unset, .unset] [(.int kd)])) _
      refine XS.iconst X95.here hx rfl (hb hby at_349) ?_
      show Steps p.tables e below (T95.setTop (mkF m 350 #[.val (.int va), .val (.int vb), .val (.int vc), .val (.int vd), .val (.int ve), .val (.int nA), .val (.int cA), .val (.int dA), .val (.int wA), .val (.int lA), .val (.int mA), .val (.int eA), .val (.int fA), .val (.int nid), .val (.int nB), .val (.int cB), .val (.int dB), .val (.int ncp), .val (.int mB), .val (.int eB), .val (.int fB), .val (.int wB), .val (.int lB), .val (.int kd), .val (.ref b71), .unset, .unset] [(.int (3 : Int32)), (.int kd)])) _
      exact k
    by_cases hc103 : kd = (3 : Int32)
    · have Fc104 := (own_sta_keep K95 (allS (own_plE Fc86) all0) (own_sta_keep K83 all0 Fc82))
      obtain ⟨_, _, ⟨T105, L105, k105, n105⟩, -, Xs105, hSs105, hgs105, ⟨Lc105, hQ105, l105, y105, z105, hC105⟩, st105⟩ := callSS X95 hx (y := (⟨"com/example/netmark/netmark/rules/NettingAgreementEqualsPinLaw", "mk", "(ICC)Ljava/lang/String;"⟩ : MethodName)) hown95 (mvT hZ95 (hw _ (List.mem_of_getElem? (i := 7) rfl))) (mvT hZ95 (hw _ (List.mem_of_getElem? (i := 8) rfl))) (mvT hZ95 (hw _ (List.mem_of_getElem? (i := 9) rfl))) (mvT hZ95 (hw _ (List.mem_of_getElem? (i := 10) rfl))) (by decide) (backOfSH (W := 1) (rm_mk l Z a0 hw [] nA cA dA vcs T95.heap n0 Zp97 l_nA r_cA r_dA Fc104 hcs) hZ95 (hw _ (List.mem_of_getElem? (i := 10) rfl)) (hw _ (List.mem_of_getElem? (i := 9) rfl)) (by decide) (by decide) (own_ew hw) CC96.1) (g := (mkF m 361 #[.val (.int va), .val (.int vb), .val (.int vc), .val (.int vd), .val (.int ve), .val (.int nA), .val (.int cA), .val (.int dA), .val (.int wA), .val (.int lA), .val (.int mA), .val (.int eA), .val (.int fA), .val (.int nid), .val (.int nB), .val (.int cB), .val (.int dB), .val (.int ncp), .val (.int mB), .val (.int eB), .val (.int fB), .val (.int wB), .val (.int lB), .val (.int kd), .val (.ref b71), .unset, .unset] [(.int dA), (.int cA), (.int nA), (.ref b71)])) rfl (by rw [hml]; rfl) (argsL := [(.int nA), (.int cA), (.int dA)]) (rest := [(.ref b71)]) (lenOf own_pd10 rfl) rfl (by show 2 * 0 + _ ≤ _; exact Nat.le_of_eq rfl) (hb hby at_361) (fun _ _ => ⟨rfl, rfl, (by decide : 17 + 6 ≤ _), (by decide : 100 + 12 ≤ _)⟩)
      obtain ⟨X105, hS105, hZ105, hown105⟩ := rebS (s := s) (vm0 := T95.vm) hS95 (Nat.le_refl _) Xs105 hSs105 hgs105 hZ95 hown95
      dsimp only [Pt.U, Pt.locs, Pt.cells, Pt.slots] at X105 l105 y105 z105 st105 hQ105 hC105
      subst l105 y105 z105
      obtain ⟨b105, vb105, kb105, rfl, Nq105, K105, g_b105, sz_b105, Ex105, Fv105, Fc105, V105⟩ := hQ105
      have Nf105 := Fr.app Nf95 Nq105
      have CC106 := CC96.trans hC105
      have Zp107 : n0 ≤ T105.heap.size := Nat.le_trans Zp97 K105.1
      have Fc110 := (Ex95.keep K105)
      obtain ⟨cq109, kq109, q109a, q109b, q109c⟩ := isOf hZ105 rfl Fc110
      obtain ⟨_, _, ⟨T108, L108, k108, n108⟩, -, X108, ⟨Lc108, hQ108, l108, y108, z108⟩, st108⟩ := X105.virtualBack hx (y := (⟨"com/example/netmark/netmark/rules/NettingAgreement", "equals", "(Ljava/lang/Object;)Z"⟩ : MethodName)) (z := (⟨"com/example/netmark/netmark/rules/NettingAgreement", "equals", "(Ljava/lang/Object;)Z"⟩ : MethodName)) hown105 (mvT hZ105 (hw _ (List.mem_of_getElem? (i := 70) rfl))) (mvT hZ105 (hw _ (List.mem_of_getElem? (i := 71) rfl))) (notFace_of_selects (args := #[]) (mvT hZ105 (hw _ (List.mem_of_getElem? (i := 73) rfl)))) (mvT hZ105 (hw _ (List.mem_of_getElem? (i := 73) rfl))) (mvT hZ105 (hw _ (List.mem_of_getElem? (i := 72) rfl))) (by decide) (backOf (W := 0) (rm_eqS l Z a0 hw [] b71 b105 T105.heap n0 Zp107 Ex105) hZ105 (hw _ (List.mem_of_getElem? (i := 74) rfl)) (hw _ (List.mem_of_getElem? (i := 6) rfl)) (by decide) (by decide)) q109a q109c (g := (mkF m 364 #[.val (.int va), .val (.int vb), .val (.int vc), .val (.int vd), .val (.int ve), .val (.int nA), .val (.int cA), .val (.int dA), .val (.int wA), .val (.int lA), .val (.int mA), .val (.int eA), .val (.int fA), .val (.int nid), .val (.int nB), .val (.int cB), .val (.int dB), .val (.int ncp), .val (.int mB), .val (.int eB), .val (.int fB), .val (.int wB), .val (.int lB), .val (.int kd), .val (.ref b71), .unset, .unset] [(.ref b105), (.ref b71)])) rfl (by rw [hml]; rfl) (Steps.refl _) (argsL := [(.ref b105)]) (rest := []) (lenOf own_pd8 rfl) rfl (by show 2 * 0 + _ ≤ _; exact Nat.le_of_eq rfl) (hb hby at_364) (fun _ _ => ⟨rfl, rfl, (by decide : 23 + 0 ≤ _), (by decide : 112 + 0 ≤ _)⟩)
      dsimp only [Pt.U, Pt.locs, Pt.cells, Pt.slots] at X108 l108 y108 z108 st108 hQ108
      subst l108 y108 z108
      obtain ⟨rfl, Nq108, hh108⟩ := hQ108
      have Nf108 := Fr.app Nf105 Nq108
      obtain ⟨fs, hr, hrun, hended, hREW⟩ := X108.leaveW (s := s) (vm₁ := T105.vm) hS105 (by rw [hh108]; exact (Nat.le_refl _)) (v := some (.int (1 : Int32))) (fun h => by rw [Bd.returns] at h; cases h)
      refine ⟨_, _, pre102 _ ?_, hrun, hended, _, _, rfl, ?_, ?_, hREW.1, hREW.2.1, hREW.2.2.1, hREW.2.2.2.mono (by decide) (by decide)⟩
      · show Steps p.tables e below (T95.setTop (mkF m 350 #[.val (.int va), .val (.int vb), .val (.int vc), .val (.int vd), .val (.int ve), .val (.int nA), .val (.int cA), .val (.int dA), .val (.int wA), .val (.int lA), .val (.int mA), .val (.int eA), .val (.int fA), .val (.int nid), .val (.int nB), .val (.int cB), .val (.int dB), .val (.int ncp), .val (.int mB), .val (.int eB), .val (.int fB), .val (.int wB), .val (.int lB), .val (.int kd), .val (.ref b71), .unset, .unset] [(.int (3 : Int32)), (.int kd)])) _
        refine XS.icmpNo X95.here hx rfl (hb hby at_350) rfl (teq hc103).2 ?_
        show Steps p.tables e below (T95.setTop (mkF m 353 #[.val (.int va), .val (.int vb), .val (.int vc), .val (.int vd), .val (.int ve), .val (.int nA), .val (.int cA), .val (.int dA), .val (.int wA), .val (.int lA), .val (.int mA), .val (.int eA), .val (.int fA), .val (.int nid), .val (.int nB), .val (.int cB), .val (.int dB), .val (.int ncp), .val (.int mB), .val (.int eB), .val (.int fB), .val (.int wB), .val (.int lB), .val (.int kd), .val (.ref b71), .unset, .unset] [])) _
        refine XS.aload X95.here hx rfl (hb hby at_353) rfl rfl ?_
        show Steps p.tables e below (T95.setTop (mkF m 355 #[.val (.int va), .val (.int vb), .val (.int vc), .val (.int vd), .val (.int ve), .val (.int nA), .val (.int cA), .val (.int dA), .val (.int wA), .val (.int lA), .val (.int mA), .val (.int eA), .val (.int fA), .val (.int nid), .val (.int nB), .val (.int cB), .val (.int dB), .val (.int ncp), .val (.int mB), .val (.int eB), .val (.int fB), .val (.int wB), .val (.int lB), .val (.int kd), .val (.ref b71), .unset, .unset] [(.ref b71)])) _
        refine XS.iload X95.here hx rfl (hb hby at_355) rfl ?_
        show Steps p.tables e below (T95.setTop (mkF m 357 #[.val (.int va), .val (.int vb), .val (.int vc), .val (.int vd), .val (.int ve), .val (.int nA), .val (.int cA), .val (.int dA), .val (.int wA), .val (.int lA), .val (.int mA), .val (.int eA), .val (.int fA), .val (.int nid), .val (.int nB), .val (.int cB), .val (.int dB), .val (.int ncp), .val (.int mB), .val (.int eB), .val (.int fB), .val (.int wB), .val (.int lB), .val (.int kd), .val (.ref b71), .unset, .unset] [(.int nA), (.ref b71)])) _
        refine XS.iload X95.here hx rfl (hb hby at_357) rfl ?_
        show Steps p.tables e below (T95.setTop (mkF m 359 #[.val (.int va), .val (.int vb), .val (.int vc), .val (.int vd), .val (.int ve), .val (.int nA), .val (.int cA), .val (.int dA), .val (.int wA), .val (.int lA), .val (.int mA), .val (.int eA), .val (.int fA), .val (.int nid), .val (.int nB), .val (.int cB), .val (.int dB), .val (.int ncp), .val (.int mB), .val (.int eB), .val (.int fB), .val (.int wB), .val (.int lB), .val (.int kd), .val (.ref b71), .unset, .unset] [(.int cA), (.int nA), (.ref b71)])) _
        refine XS.iload X95.here hx rfl (hb hby at_359) rfl ?_
        show Steps p.tables e below (T95.setTop (mkF m 361 #[.val (.int va), .val (.int vb), .val (.int vc), .val (.int vd), .val (.int ve), .val (.int nA), .val (.int cA), .val (.int dA), .val (.int wA), .val (.int lA), .val (.int mA), .val (.int eA), .val (.int fA), .val (.int nid), .val (.int nB), .val (.int cB), .val (.int dB), .val (.int ncp), .val (.int mB), .val (.int eB), .val (.int fB), .val (.int wB), .val (.int lB), .val (.int kd), .val (.ref b71), .unset, .unset] [(.int dA), (.int cA), (.int nA), (.ref b71)])) _
        refine st105.trans ?_
        show Steps p.tables e below (T105.setTop (mkF m 364 #[.val (.int va), .val (.int vb), .val (.int vc), .val (.int vd), .val (.int ve), .val (.int nA), .val (.int cA), .val (.int dA), .val (.int wA), .val (.int lA), .val (.int mA), .val (.int eA), .val (.int fA), .val (.int nid), .val (.int nB), .val (.int cB), .val (.int dB), .val (.int ncp), .val (.int mB), .val (.int eB), .val (.int fB), .val (.int wB), .val (.int lB), .val (.int kd), .val (.ref b71), .unset, .unset] [(.ref b105), (.ref b71)])) _
        refine st108.trans ?_
        show Steps p.tables e below (T108.setTop (mkF m 367 #[.val (.int va), .val (.int vb), .val (.int vc), .val (.int vd), .val (.int ve), .val (.int nA), .val (.int cA), .val (.int dA), .val (.int wA), .val (.int lA), .val (.int mA), .val (.int eA), .val (.int fA), .val (.int nid), .val (.int nB), .val (.int cB), .val (.int dB), .val (.int ncp), .val (.int mB), .val (.int eB), .val (.int fB), .val (.int wB), .val (.int lB), .val (.int kd), .val (.ref b71), .unset, .unset] [(.int (0 : Int32))])) _
        refine XS.ifNo X108.here hx rfl (hb hby at_367) rfl (by decide) ?_
        show Steps p.tables e below (T108.setTop (mkF m 370 #[.val (.int va), .val (.int vb), .val (.int vc), .val (.int vd), .val (.int ve), .val (.int nA), .val (.int cA), .val (.int dA), .val (.int wA), .val (.int lA), .val (.int mA), .val (.int eA), .val (.int fA), .val (.int nid), .val (.int nB), .val (.int cB), .val (.int dB), .val (.int ncp), .val (.int mB), .val (.int eB), .val (.int fB), .val (.int wB), .val (.int lB), .val (.int kd), .val (.ref b71), .unset, .unset] [])) _
        refine XS.iconst X108.here hx rfl (hb hby at_370) ?_
        show Steps p.tables e below (T108.setTop (mkF m 371 #[.val (.int va), .val (.int vb), .val (.int vc), .val (.int vd), .val (.int ve), .val (.int nA), .val (.int cA), .val (.int dA), .val (.int wA), .val (.int lA), .val (.int mA), .val (.int eA), .val (.int fA), .val (.int nid), .val (.int nB), .val (.int cB), .val (.int dB), .val (.int ncp), .val (.int mB), .val (.int eB), .val (.int fB), .val (.int wB), .val (.int lB), .val (.int kd), .val (.ref b71), .unset, .unset] [(.int (1 : Int32))])) _
        refine XS.goto X108.here hx rfl (pc0 := 371) (pc' := 375) rfl (hb hby at_371) (by decide) (by decide) ?_
        show Steps p.tables e below (T108.setTop (mkF m 375 #[.val (.int va), .val (.int vb), .val (.int vc), .val (.int vd), .val (.int ve), .val (.int nA), .val (.int cA), .val (.int dA), .val (.int wA), .val (.int lA), .val (.int mA), .val (.int eA), .val (.int fA), .val (.int nid), .val (.int nB), .val (.int cB), .val (.int dB), .val (.int ncp), .val (.int mB), .val (.int eB), .val (.int fB), .val (.int wB), .val (.int lB), .val (.int kd), .val (.ref b71), .unset, .unset] [(.int (1 : Int32))])) _
        exact retN X108 hx (t := .boolean) Bd.returns (by simp) (hb hby at_375) hr
      · show Q0 Z va vb vc vd ve vcs h0 n0 _ T108.heap _
        rw [hh108]
        exact ⟨rfl, Nf108⟩
      · show CHr Z own_EL s.vm s.heap T108.vm T108.heap
        rw [hh, hh108]
        exact CC106.trans (CHv.at (s := s) (vm0 := T105.vm) X108 hZ105 (own_ew hw) CC106.1)
    · obtain ⟨T111, h111, X111, e111, E111, A111, D111, U111, st111⟩ := newO X95 hx hZ95 hown95 (hw _ (List.mem_of_getElem? (i := 4) rfl)) (hw _ (List.mem_of_getElem? (i := 5) rfl)) (hw _ (List.mem_of_getElem? (i := 6) rfl)) rfl (g := (mkF m 376 #[.val (.int va), .val (.int vb), .val (.int vc), .val (.int vd), .val (.int ve), .val (.int nA), .val (.int cA), .val (.int dA), .val (.int wA), .val (.int lA), .val (.int mA), .val (.int eA), .val (.int fA), .val (.int nid), .val (.int nB), .val (.int cB), .val (.int dB), .val (.int ncp), .val (.int mB), .val (.int eB), .val (.int fB), .val (.int wB), .val (.int lB), .val (.int kd), .val (.ref b71), .unset, .unset] [])) rfl (hb hby at_376) (by decide) (by decide)
      obtain ⟨b111, g111⟩ : ∃ z, z = T95.heap.size := ⟨_, rfl⟩
      rw [← g111] at A111 D111 U111 st111
      have g_b111 : n0 ≤ b111 := Nat.le_trans Zp97 (Nat.le_of_eq g111.symm)
      have CC112 := CC96.trans (CHr.ext E111 CC96.1)
      have Zp113 : n0 ≤ h111.size := Nat.le_trans Zp97 E111.1
      have hSk113 := Nat.le_trans (Nat.le_refl _) E111.1
      have Fn114 : Fld Z h111 b111 "com/example/netmark/netmark/rules/NettingAgreement" "id" "Ljava/lang/String;" .null := D111 (Or.inr (hw _ (List.mem_of_getElem? (i := 60) rfl))) (ty := (.object "java/lang/String")) (by decide)
      have Fn115 : Fld Z h111 b111 "com/example/netmark/netmark/rules/NettingAgreement" "counterpartyId" "Ljava/lang/String;" .null := D111 (Or.inr (hw _ (List.mem_of_getElem? (i := 62) rfl))) (ty := (.object "java/lang/String")) (by decide)
      have Fn116 : Fld Z h111 b111 "com/example/netmark/netmark/rules/NettingAgreement" "walkawayClause" "Z" (.int (0 : Int32)) := D111 (Or.inr (hw _ (List.mem_of_getElem? (i := 64) rfl))) (ty := .boolean) (by decide)
      have Fn117 : Fld Z h111 b111 "com/example/netmark/netmark/rules/NettingAgreement" "legallyEnforceable" "Z" (.int (0 : Int32)) := D111 (Or.inr (hw _ (List.mem_of_getElem? (i := 66) rfl))) (ty := .boolean) (by decide)
      have Fc118 := (Sta.ext E111 (own_sta_keep K95 (allS (own_plE Fc86) all0) (own_sta_keep K83 all0 Fc82)))
      obtain ⟨_, _, ⟨T119, L119, k119, n119⟩, -, Xs119, hSs119, hgs119, ⟨Lc119, hQ119, l119, y119, z119, hC119⟩, st119⟩ := callSS X111 hx (y := (⟨"com/example/netmark/netmark/rules/NettingAgreementEqualsPinLaw", "mk", "(ICC)Ljava/lang/String;"⟩ : MethodName)) hown95 (mvT hZ95 (hw _ (List.mem_of_getElem? (i := 7) rfl))) (mvT hZ95 (hw _ (List.mem_of_getElem? (i := 8) rfl))) (mvT hZ95 (hw _ (List.mem_of_getElem? (i := 9) rfl))) (mvT hZ95 (hw _ (List.mem_of_getElem? (i := 10) rfl))) (by decide) (backOfSH (W := 2) (rm_mk l Z a0 hw [] nB cB dB vcs h111 n0 Zp113 l_nB r_cB r_dB Fc118 hcs) hZ95 (hw _ (List.mem_of_getElem? (i := 10) rfl)) (hw _ (List.mem_of_getElem? (i := 9) rfl)) (by decide) (by decide) (own_ew hw) CC112.1) (g := (mkF m 386 #[.val (.int va), .val (.int vb), .val (.int vc), .val (.int vd), .val (.int ve), .val (.int nA), .val (.int cA), .val (.int dA), .val (.int wA), .val (.int lA), .val (.int mA), .val (.int eA), .val (.int fA), .val (.int nid), .val (.int nB), .val (.int cB), .val (.int dB), .val (.int ncp), .val (.int mB), .val (.int eB), .val (.int fB), .val (.int wB), .val (.int lB), .val (.int kd), .val (.ref b71), .unset, .unset] [(.int dB), (.int cB), (.int nB), (.ref b111), (.ref b111)])) rfl (by rw [hml]; rfl) (argsL := [(.int nB), (.int cB), (.int dB)]) (rest := [(.ref b111), (.ref b111)]) (lenOf own_pd10 rfl) rfl (by show 2 * 0 + _ ≤ _; exact Nat.le_of_eq rfl) (hb hby at_386) (fun _ _ => ⟨rfl, e111, (by decide : 18 + 6 ≤ _), (by decide : 104 + 12 ≤ _)⟩)
      obtain ⟨X119, hS119, hZ119, hown119⟩ := rebS (s := s) (vm0 := T95.vm) hS95 (by rw [e111]; exact hSk113) Xs119 hSs119 hgs119 hZ95 hown95
      dsimp only [Pt.U, Pt.locs, Pt.cells, Pt.slots] at X119 l119 y119 z119 st119 hQ119 hC119
      subst l119 y119 z119
      obtain ⟨b119, vb119, kb119, rfl, Nq119, K119, g_b119, sz_b119, Ex119, Fv119, Fc119, V119⟩ := hQ119
      have Nf119 := Fr.app Nf95 Nq119
      have CC120 := CC112.trans hC119
      have Zp121 : n0 ≤ T119.heap.size := Nat.le_trans Zp113 K119.1
      have Fc122 := (own_sta_keep K119 all0 Fc118)
      obtain ⟨_, _, ⟨T123, L123, k123, n123⟩, -, Xs123, hSs123, hgs123, ⟨Lc123, hQ123, l123, y123, z123, hC123⟩, st123⟩ := callSS X119 hx (y := (⟨"com/example/netmark/netmark/rules/NettingAgreementEqualsPinLaw", "mk", "(ICC)Ljava/lang/String;"⟩ : MethodName)) hown119 (mvT hZ119 (hw _ (List.mem_of_getElem? (i := 7) rfl))) (mvT hZ119 (hw _ (List.mem_of_getElem? (i := 8) rfl))) (mvT hZ119 (hw _ (List.mem_of_getElem? (i := 9) rfl))) (mvT hZ119 (hw _ (List.mem_of_getElem? (i := 10) rfl))) (by decide) (backOfSH (W := 3) (rm_mk l Z a0 hw [] mB eB fB vcs T119.heap n0 Zp121 l_mB r_eB r_fB Fc122 hcs) hZ119 (hw _ (List.mem_of_getElem? (i := 10) rfl)) (hw _ (List.mem_of_getElem? (i := 9) rfl)) (by decide) (by decide) (own_ew hw) CC120.1) (g := (mkF m 395 #[.val (.int va), .val (.int vb), .val (.int vc), .val (.int vd), .val (.int ve), .val (.int nA), .val (.int cA), .val (.int dA), .val (.int wA), .val (.int lA), .val (.int mA), .val (.int eA), .val (.int fA), .val (.int nid), .val (.int nB), .val (.int cB), .val (.int dB), .val (.int ncp), .val (.int mB), .val (.int eB), .val (.int fB), .val (.int wB), .val (.int lB), .val (.int kd), .val (.ref b71), .unset, .unset] [(.int fB), (.int eB), (.int mB), (.ref b119), (.ref b111), (.ref b111)])) rfl (by rw [hml]; rfl) (argsL := [(.int mB), (.int eB), (.int fB)]) (rest := [(.ref b119), (.ref b111), (.ref b111)]) (lenOf own_pd10 rfl) rfl (by show 2 * 0 + _ ≤ _; exact Nat.le_of_eq rfl) (hb hby at_395) (fun _ _ => ⟨rfl, rfl, (by decide : 24 + 6 ≤ _), (by decide : 116 + 12 ≤ _)⟩)
      obtain ⟨X123, hS123, hZ123, hown123⟩ := rebS (s := s) (vm0 := T119.vm) hS119 (Nat.le_refl _) Xs123 hSs123 hgs123 hZ119 hown119
      dsimp only [Pt.U, Pt.locs, Pt.cells, Pt.slots] at X123 l123 y123 z123 st123 hQ123 hC123
      subst l123 y123 z123
      obtain ⟨b123, vb123, kb123, rfl, Nq123, K123, g_b123, sz_b123, Ex123, Fv123, Fc123, V123⟩ := hQ123
      have Nf123 := Fr.app Nf119 Nq123
      have CC124 := CC120.trans hC123
      have Zp125 : n0 ≤ T123.heap.size := Nat.le_trans Zp121 K123.1
      have Fc126 := ((A111.keep K119).keep K123)
      have Fc127 := ((Fn114.keep K119 nin0).keep K123 nin0)
      have Fc128 := ((Fn115.keep K119 nin0).keep K123 nin0)
      have Fc129 := ((Fn116.keep K119 nin0).keep K123 nin0)
      have Fc130 := ((Fn117.keep K119 nin0).keep K123 nin0)
      have Fc131 := (Ex119.keep K123)
      have Fc132 := (Fv119.keep K123 nin0)
      have Fc133 := (Fc119.keep K123 nin0)
      have Fc134 := (V119.keep K123 nin0)
      obtain ⟨_, _, ⟨T135, L135, k135, n135⟩, -, Xs135, hSs135, hgs135, ⟨Lc135, hQ135, l135, y135, z135, hC135⟩, st135⟩ := X123.specialBackS hx (y := (⟨"com/example/netmark/netmark/rules/NettingAgreement", "<init>", "(Ljava/lang/String;Ljava/lang/String;ZZ)V"⟩ : MethodName)) rfl hown123 (mvT hZ123 (hw _ (List.mem_of_getElem? (i := 44) rfl))) (mvT hZ123 (hw _ (List.mem_of_getElem? (i := 45) rfl))) (mvT hZ123 (hw _ (List.mem_of_getElem? (i := 46) rfl))) (by decide) (backOfSH (W := 1) (rm_na l Z a0 hw [] b111 b119 b123 wB lB vb119 kb119 nB cB dB T123.heap n0 Zp125 Fc126 g_b111 Fc127 Fc128 Fc129 Fc130 b_wB b_lB p_nB Fc131 Fc132 Fc133 Fc134) hZ123 (hw _ (List.mem_of_getElem? (i := 46) rfl)) (hw _ (List.mem_of_getElem? (i := 6) rfl)) (by decide) (by decide) (own_ew hw) CC124.1) (g := (mkF m 402 #[.val (.int va), .val (.int vb), .val (.int vc), .val (.int vd), .val (.int ve), .val (.int nA), .val (.int cA), .val (.int dA), .val (.int wA), .val (.int lA), .val (.int mA), .val (.int eA), .val (.int fA), .val (.int nid), .val (.int nB), .val (.int cB), .val (.int dB), .val (.int ncp), .val (.int mB), .val (.int eB), .val (.int fB), .val (.int wB), .val (.int lB), .val (.int kd), .val (.ref b71), .unset, .unset] [(.int lB), (.int wB), (.ref b123), (.ref b119), (.ref b111), (.ref b111)])) rfl (by rw [hml]; rfl) (Steps.refl _) (a := b111) (argsL := [(.ref b119), (.ref b123), (.int wB), (.int lB)]) (rest := [(.ref b111)]) (lenOf own_pd11 rfl) rfl (by show 2 * 0 + _ ≤ _; exact Nat.le_of_eq rfl) (hb hby at_402) (fun _ _ => ⟨rfl, rfl, (by decide : 30 + 4 ≤ _), (by decide : 128 + 72 ≤ _)⟩)
      obtain ⟨X135, hS135, hZ135, hown135⟩ := rebS (s := s) (vm0 := T123.vm) hS123 (Nat.le_refl _) Xs135 hSs135 hgs135 hZ123 hown123
      dsimp only [Pt.U, Pt.locs, Pt.cells, Pt.slots] at X135 l135 y135 z135 st135 hQ135 hC135
      subst l135 y135 z135
      obtain ⟨rfl, Nq135, K135, Ex135, Fx135_0, Fx135_1, Fx135_2, Fx135_3⟩ := hQ135
      have Nf135 := Fr.app Nf123 Nq135
      have CC136 := CC124.trans hC135
      have Zp137 : n0 ≤ T135.heap.size := Nat.le_trans Zp125 K135.1
      have pre138 : ∀ t, Steps p.tables e below (T135.setTop (mkF m 407 #[.val (.int va), .val (.int vb), .val (.int vc), .val (.int vd), .val (.int ve), .val (.int nA), .val (.int cA), .val (.int dA), .val (.int wA), .val (.int lA), .val (.int mA), .val (.int eA), .val (.int fA), .val (.int nid), .val (.int nB), .val (.int cB), .val (.int dB), .val (.int ncp), .val (.int mB), .val (.int eB), .val (.int fB), .val (.int wB), .val (.int lB), .val (.int kd), .val (.ref b71), .val (.ref b111), .unset] [])) t → Steps p.tables e below (s₁.setTop (entryFrame m #[(.int va), (.int vb), (.int vc), (.int vd), (.int ve)] maxLocals)) t := by
        intro t k
        refine pre102 t ?_
        show Steps p.tables e below (T95.setTop (mkF m 350 #[.val (.int va), .val (.int vb), .val (.int vc), .val (.int vd), .val (.int ve), .val (.int nA), .val (.int cA), .val (.int dA), .val (.int wA), .val (.int lA), .val (.int mA), .val (.int eA), .val (.int fA), .val (.int nid), .val (.int nB), .val (.int cB), .val (.int dB), .val (.int ncp), .val (.int mB), .val (.int eB), .val (.int fB), .val (.int wB), .val (.int lB), .val (.int kd), .val (.ref b71), .unset, .unset] [(.int (3 : Int32)), (.int kd)])) _
        refine XS.icmpYes X95.here hx rfl (pc0 := 350) (pc' := 376) rfl (hb hby at_350) rfl (feq hc103).2 (by decide) (by decide) ?_
        show Steps p.tables e below (T95.setTop (mkF m 376 #[.val (.int va), .val (.int vb), .val (.int vc), .val (.int vd), .val (.int ve), .val (.int nA), .val (.int cA), .val (.int dA), .val (.int wA), .val (.int lA), .val (.int mA), .val (.int eA), .val (.int fA), .val (.int nid), .val (.int nB), .val (.int cB), .val (.int dB), .val (.int ncp), .val (.int mB), .val (.int eB), .val (.int fB), .val (.int wB), .val (.int lB), .val (.int kd), .val (.ref b71), .unset, .unset] [])) _
        refine st111 _ ?_
        show Steps p.tables e below (T111.setTop (mkF m 379 #[.val (.int va), .val (.int vb), .val (.int vc), .val (.int vd), .val (.int ve), .val (.int nA), .val (.int cA), .val (.int dA), .val (.int wA), .val (.int lA), .val (.int mA), .val (.int eA), .val (.int fA), .val (.int nid), .val (.int nB), .val (.int cB), .val (.int dB), .val (.int ncp), .val (.int mB), .val (.int eB), .val (.int fB), .val (.int wB), .val (.int lB), .val (.int kd), .val (.ref b71), .unset, .unset] [(.ref b111)])) _
        refine XS.dup X111.here hx rfl (hb hby at_379) rfl rfl ?_
        show Steps p.tables e below (T111.setTop (mkF m 380 #[.val (.int va), .val (.int vb), .val (.int vc), .val (.int vd), .val (.int ve), .val (.int nA), .val (.int cA), .val (.int dA), .val (.int wA), .val (.int lA), .val (.int mA), .val (.int eA), .val (.int fA), .val (.int nid), .val (.int nB), .val (.int cB), .val (.int dB), .val (.int ncp), .val (.int mB), .val (.int eB), .val (.int fB), .val (.int wB), .val (.int lB), .val (.int kd), .val (.ref b71), .unset, .unset] [(.ref b111), (.ref b111)])) _
        refine XS.iload X111.here hx rfl (hb hby at_380) rfl ?_
        show Steps p.tables e below (T111.setTop (mkF m 382 #[.val (.int va), .val (.int vb), .val (.int vc), .val (.int vd), .val (.int ve), .val (.int nA), .val (.int cA), .val (.int dA), .val (.int wA), .val (.int lA), .val (.int mA), .val (.int eA), .val (.int fA), .val (.int nid), .val (.int nB), .val (.int cB), .val (.int dB), .val (.int ncp), .val (.int mB), .val (.int eB), .val (.int fB), .val (.int wB), .val (.int lB), .val (.int kd), .val (.ref b71), .unset, .unset] [(.int nB), (.ref b111), (.ref b111)])) _
        refine XS.iload X111.here hx rfl (hb hby at_382) rfl ?_
        show Steps p.tables e below (T111.setTop (mkF m 384 #[.val (.int va), .val (.int vb), .val (.int vc), .val (.int vd), .val (.int ve), .val (.int nA), .val (.int cA), .val (.int dA), .val (.int wA), .val (.int lA), .val (.int mA), .val (.int eA), .val (.int fA), .val (.int nid), .val (.int nB), .val (.int cB), .val (.int dB), .val (.int ncp), .val (.int mB), .val (.int eB), .val (.int fB), .val (.int wB), .val (.int lB), .val (.int kd), .val (.ref b71), .unset, .unset] [(.int cB), (.int nB), (.ref b111), (.ref b111)])) _
        refine XS.iload X111.here hx rfl (hb hby at_384) rfl ?_
        show Steps p.tables e below (T111.setTop (mkF m 386 #[.val (.int va), .val (.int vb), .val (.int vc), .val (.int vd), .val (.int ve), .val (.int nA), .val (.int cA), .val (.int dA), .val (.int wA), .val (.int lA), .val (.int mA), .val (.int eA), .val (.int fA), .val (.int nid), .val (.int nB), .val (.int cB), .val (.int dB), .val (.int ncp), .val (.int mB), .val (.int eB), .val (.int fB), .val (.int wB), .val (.int lB), .val (.int kd), .val (.ref b71), .unset, .unset] [(.int dB), (.int cB), (.int nB), (.ref b111), (.ref b111)])) _
        refine st119.trans ?_
        show Steps p.tables e below (T119.setTop (mkF m 389 #[.val (.int va), .val (.int vb), .val (.int vc), .val (.int vd), .val (.int ve), .val (.int nA), .val (.int cA), .val (.int dA), .val (.int wA), .val (.int lA), .val (.int mA), .val (.int eA), .val (.int fA), .val (.int nid), .val (.int nB), .val (.int cB), .val (.int dB), .val (.int ncp), .val (.int mB), .val (.int eB), .val (.int fB), .val (.int wB), .val (.int lB), .val (.int kd), .val (.ref b71), .unset, .unset] [(.ref b119), (.ref b111), (.ref b111)])) _
        refine XS.iload X119.here hx rfl (hb hby at_389) rfl ?_
        show Steps p.tables e below (T119.setTop (mkF m 391 #[.val (.int va), .val (.int vb), .val (.int vc), .val (.int vd), .val (.int ve), .val (.int nA), .val (.int cA), .val (.int dA), .val (.int wA), .val (.int lA), .val (.int mA), .val (.int eA), .val (.int fA), .val (.int nid), .val (.int nB), .val (.int cB), .val (.int dB), .val (.int ncp), .val (.int mB), .val (.int eB), .val (.int fB), .val (.int wB), .val (.int lB), .val (.int kd), .val (.ref b71), .unset, .unset] [(.int mB), (.ref b119), (.ref b111), (.ref b111)])) _
        refine XS.iload X119.here hx rfl (hb hby at_391) rfl ?_
        show Steps p.tables e below (T119.setTop (mkF m 393 #[.val (.int va), .val (.int vb), .val (.int vc), .val (.int vd), .val (.int ve), .val (.int nA), .val (.int cA), .val (.int dA), .val (.int wA), .val (.int lA), .val (.int mA), .val (.int eA), .val (.int fA), .val (.int nid), .val (.int nB), .val (.int cB), .val (.int dB), .val (.int ncp), .val (.int mB), .val (.int eB), .val (.int fB), .val (.int wB), .val (.int lB), .val (.int kd), .val (.ref b71), .unset, .unset] [(.int eB), (.int mB), (.ref b119), (.ref b111), (.ref b111)])) _
        refine XS.iload X119.here hx rfl (hb hby at_393) rfl ?_
        show Steps p.tables e below (T119.setTop (mkF m 395 #[.val (.int va), .val (.int vb), .val (.int vc), .val (.int vd), .val (.int ve), .val (.int nA), .val (.int cA), .val (.int dA), .val (.int wA), .val (.int lA), .val (.int mA), .val (.int eA), .val (.int fA), .val (.int nid), .val (.int nB), .val (.int cB), .val (.int dB), .val (.int ncp), .val (.int mB), .val (.int eB), .val (.int fB), .val (.int wB), .val (.int lB), .val (.int kd), .val (.ref b71), .unset, .unset] [(.int fB), (.int eB), (.int mB), (.ref b119), (.ref b111), (.ref b111)])) _
        refine st123.trans ?_
        show Steps p.tables e below (T123.setTop (mkF m 398 #[.val (.int va), .val (.int vb), .val (.int vc), .val (.int vd), .val (.int ve), .val (.int nA), .val (.int cA), .val (.int dA), .val (.int wA), .val (.int lA), .val (.int mA), .val (.int eA), .val (.int fA), .val (.int nid), .val (.int nB), .val (.int cB), .val (.int dB), .val (.int ncp), .val (.int mB), .val (.int eB), .val (.int fB), .val (.int wB), .val (.int lB), .val (.int kd), .val (.ref b71), .unset, .unset] [(.ref b123), (.ref b119), (.ref b111), (.ref b111)])) _
        refine XS.iload X123.here hx rfl (hb hby at_398) rfl ?_
        show Steps p.tables e below (T123.setTop (mkF m 400 #[.val (.int va), .val (.int vb), .val (.int vc), .val (.int vd), .val (.int ve), .val (.int nA), .val (.int cA), .val (.int dA), .val (.int wA), .val (.int lA), .val (.int mA), .val (.int eA), .val (.int fA), .val (.int nid), .val (.int nB), .val (.int cB), .val (.int dB), .val (.int ncp), .val (.int mB), .val (.int eB), .val (.int fB), .val (.int wB), .val (.int lB), .val (.int kd), .val (.ref b71), .unset, .unset] [(.int wB), (.ref b123), (.ref b119), (.ref b111), (.ref b111)])) _
        refine XS.iload X123.here hx rfl (hb hby at_400) rfl ?_
        show Steps p.tables e below (T123.setTop (mkF m 402 #[.val (.int va), .val (.int vb), .val (.int vc), .val (.int vd), .val (.int ve), .val (.int nA), .val (.int cA), .val (.int dA), .val (.int wA), .val (.int lA), .val (.int mA), .val (.int eA), .val (.int fA), .val (.int nid), .val (.int nB), .val (.int cB), .val (.int dB), .val (.int ncp), .val (.int mB), .val (.int eB), .val (.int fB), .val (.int wB), .val (.int lB), .val (.int kd), .val (.ref b71), .unset, .unset] [(.int lB), (.int wB), (.ref b123), (.ref b119), (.ref b111), (.ref b111)])) _
        refine st135.trans ?_
        show Steps p.tables e below (T135.setTop (mkF m 405 #[.val (.int va), .val (.int vb), .val (.int vc), .val (.int vd), .val (.int ve), .val (.int nA), .val (.int cA), .val (.int dA), .val (.int wA), .val (.int lA), .val (.int mA), .val (.int eA), .val (.int fA), .val (.int nid), .val (.int nB), .val (.int cB), .val (.int dB), .val (.int ncp), .val (.int mB), .val (.int eB), .val (.int fB), .val (.int wB), .val (.int lB), .val (.int kd), .val (.ref b71), .unset, .unset] [(.ref b111)])) _
        refine XS.astore X135.here hx rfl (hb hby at_405) rfl rfl (l' := #[.val (.int va), .val (.int vb), .val (.int vc), .val (.int vd), .val (.int ve), .val (.int nA), .val (.int cA), .val (.int dA), .val (.int wA), .val (.int lA), .val (.int mA), .val (.int eA), .val (.int fA), .val (.int nid), .val (.int nB), .val (.int cB), .val (.int dB), .val (.int ncp), .val (.int mB), .val (.int eB), .val (.int fB), .val (.int wB), .val (.int lB), .val (.int kd), .val (.ref b71), .val (.ref b111), .unset]) rfl ?_
        show Steps p.tables e below (T135.setTop (mkF m 407 #[.val (.int va), .val (.int vb), .val (.int vc), .val (.int vd), .val (.int ve), .val (.int nA), .val (.int cA), .val (.int dA), .val (.int wA), .val (.int lA), .val (.int mA), .val (.int eA), .val (.int fA), .val (.int nid), .val (.int nB), .val (.int cB), .val (.int dB), .val (.int ncp), .val (.int mB), .val (.int eB), .val (.int fB), .val (.int wB), .val (.int lB), .val (.int kd), .val (.ref b71), .val (.ref b111), .unset] [])) _
        exact k
      obtain ⟨vz, T139, lo139, X139, Nj139, ej139, hj139, pre139⟩ : ∃ (vz : Int32) (T' : State) (lo : List Loc), Stand p l e room_1 (s.setVm T135.vm) m #[(.int va), (.int vb), (.int vc), (.int vd), (.int ve)] below meth c T' lo 34 200 ∧ Fr n0 lo ∧ T'.heap = T135.heap ∧ (vz = own_eqv (own_same nA cA dA nB cB dB) (own_same mA eA fA mB eB fB) wA wB lA lB) ∧ ∀ t, Steps p.tables e below (T'.setTop (mkF m 462 #[.val (.int va), .val (.int vb), .val (.int vc), .val (.int vd), .val (.int ve), .val (.int nA), .val (.int cA), .val (.int dA), .val (.int wA), .val (.int lA), .val (.int mA), .val (.int eA), .val (.int fA), .val (.int nid), .val (.int nB), .val (.int cB), .val (.int dB), .val (.int ncp), .val (.int mB), .val (.int eB), .val (.int fB), .val (.int wB), .val (.int lB), .val (.int kd), .val (.ref b71), .val (.ref b111), .unset] [(.int vz)])) t → Steps p.tables e below (s₁.setTop (entryFrame m #[(.int va), (.int vb), (.int vc), (.int vd), (.int ve)] maxLocals)) t := by
        obtain ⟨_, _, ⟨T140, L140, k140, n140⟩, -, X140, ⟨Lc140, hQ140, l140, y140, z140⟩, st140⟩ := Jvm.LawKit.callS X135 hx (y := (⟨"com/example/netmark/netmark/rules/NettingAgreementEqualsPinLaw", "same", "(ICCICC)Z"⟩ : MethodName)) hown135 (mvT hZ135 (hw _ (List.mem_of_getElem? (i := 67) rfl))) (mvT hZ135 (hw _ (List.mem_of_getElem? (i := 68) rfl))) (mvT hZ135 (hw _ (List.mem_of_getElem? (i := 9) rfl))) (mvT hZ135 (hw _ (List.mem_of_getElem? (i := 69) rfl))) (by decide) (backOf (W := 0) (rm_same l Z a0 hw [] nA cA dA nB cB dB T135.heap n0 Zp137 ) hZ135 (hw _ (List.mem_of_getElem? (i := 69) rfl)) (hw _ (List.mem_of_getElem? (i := 9) rfl)) (by decide) (by decide)) (g := (mkF m 419 #[.val (.int va), .val (.int vb), .val (.int vc), .val (.int vd), .val (.int ve), .val (.int nA), .val (.int cA), .val (.int dA), .val (.int wA), .val (.int lA), .val (.int mA), .val (.int eA), .val (.int fA), .val (.int nid), .val (.int nB), .val (.int cB), .val (.int dB), .val (.int ncp), .val (.int mB), .val (.int eB), .val (.int fB), .val (.int wB), .val (.int lB), .val (.int kd), .val (.ref b71), .val (.ref b111), .unset] [(.int dB), (.int cB), (.int nB), (.int dA), (.int cA), (.int nA)])) rfl (by rw [hml]; rfl) (argsL := [(.int nA), (.int cA), (.int dA), (.int nB), (.int cB), (.int dB)]) (rest := []) (lenOf own_pd12 rfl) rfl (by show 2 * 0 + _ ≤ _; exact Nat.le_of_eq rfl) (hb hby at_419) (fun _ _ => ⟨rfl, rfl, (by decide : 34 + 0 ≤ _), (by decide : 200 + 0 ≤ _)⟩)
        dsimp only [Pt.U, Pt.locs, Pt.cells, Pt.slots] at X140 l140 y140 z140 st140 hQ140
        subst l140 y140 z140
        obtain ⟨rfl, Nq140, hh140⟩ := hQ140
        have Nf140 := Fr.app Nf135 Nq140
        have pre141 : ∀ t, Steps p.tables e below (T140.setTop (mkF m 422 #[.val (.int va), .val (.int vb), .val (.int vc), .val (.int vd), .val (.int ve), .val (.int nA), .val (.int cA), .val (.int dA), .val (.int wA), .val (.int lA), .val (.int mA), .val (.int eA), .val (.int fA), .val (.int nid), .val (.int nB), .val (.int cB), .val (.int dB), .val (.int ncp), .val (.int mB), .val (.int eB), .val (.int fB), .val (.int wB), .val (.int lB), .val (.int kd), .val (.ref b71), .val (.ref b111), .unset] [(.int (own_same nA cA dA nB cB dB))])) t → Steps p.tables e below (s₁.setTop (entryFrame m #[(.int va), (.int vb), (.int vc), (.int vd), (.int ve)] maxLocals)) t := by
          intro t k
          refine pre138 t ?_
          show Steps p.tables e below (T135.setTop (mkF m 407 #[.val (.int va), .val (.int vb), .val (.int vc), .val (.int vd), .val (.int ve), .val (.int nA), .val (.int cA), .val (.int dA), .val (.int wA), .val (.int lA), .val (.int mA), .val (.int eA), .val (.int fA), .val (.int nid), .val (.int nB), .val (.int cB), .val (.int dB), .val (.int ncp), .val (.int mB), .val (.int eB), .val (.int fB), .val (.int wB), .val (.int lB), .val (.int kd), .val (.ref b71), .val (.ref b111), .unset] [])) _
          refine XS.iload X135.here hx rfl (hb hby at_407) rfl ?_
          show Steps p.tables e below (T135.setTop (mkF m 409 #[.val (.int va), .val (.int vb), .val (.int vc), .val (.int vd), .val (.int ve), .val (.int nA), .val (.int cA), .val (.int dA), .val (.int wA), .val (.int lA), .val (.int mA), .val (.int eA), .val (.int fA), .val (.int nid), .val (.int nB), .val (.int cB), .val (.int dB), .val (.int ncp), .val (.int mB), .val (.int eB), .val (.int fB), .val (.int wB), .val (.int lB), .val (.int kd), .val (.ref b71), .val (.ref b111), .unset] [(.int nA)])) _
          refine XS.iload X135.here hx rfl (hb hby at_409) rfl ?_
          show Steps p.tables e below (T135.setTop (mkF m 411 #[.val (.int va), .val (.int vb), .val (.int vc), .val (.int vd), .val (.int ve), .val (.int nA), .val (.int cA), .val (.int dA), .val (.int wA), .val (.int lA), .val (.int mA), .val (.int eA), .val (.int fA), .val (.int nid), .val (.int nB), .val (.int cB), .val (.int dB), .val (.int ncp), .val (.int mB), .val (.int eB), .val (.int fB), .val (.int wB), .val (.int lB), .val (.int kd), .val (.ref b71), .val (.ref b111), .unset] [(.int cA), (.int nA)])) _
          refine XS.iload X135.here hx rfl (hb hby at_411) rfl ?_
          show Steps p.tables e below (T135.setTop (mkF m 413 #[.val (.int va), .val (.int vb), .val (.int vc), .val (.int vd), .val (.int ve), .val (.int nA), .val (.int cA), .val (.int dA), .val (.int wA), .val (.int lA), .val (.int mA), .val (.int eA), .val (.int fA), .val (.int nid), .val (.int nB), .val (.int cB), .val (.int dB), .val (.int ncp), .val (.int mB), .val (.int eB), .val (.int fB), .val (.int wB), .val (.int lB), .val (.int kd), .val (.ref b71), .val (.ref b111), .unset] [(.int dA), (.int cA), (.int nA)])) _
          refine XS.iload X135.here hx rfl (hb hby at_413) rfl ?_
          show Steps p.tables e below (T135.setTop (mkF m 415 #[.val (.int va), .val (.int vb), .val (.int vc), .val (.int vd), .val (.int ve), .val (.int nA), .val (.int cA), .val (.int dA), .val (.int wA), .val (.int lA), .val (.int mA), .val (.int eA), .val (.int fA), .val (.int nid), .val (.int nB), .val (.int cB), .val (.int dB), .val (.int ncp), .val (.int mB), .val (.int eB), .val (.int fB), .val (.int wB), .val (.int lB), .val (.int kd), .val (.ref b71), .val (.ref b111), .unset] [(.int nB), (.int dA), (.int cA), (.int nA)])) _
          refine XS.iload X135.here hx rfl (hb hby at_415) rfl ?_
          show Steps p.tables e below (T135.setTop (mkF m 417 #[.val (.int va), .val (.int vb), .val (.int vc), .val (.int vd), .val (.int ve), .val (.int nA), .val (.int cA), .val (.int dA), .val (.int wA), .val (.int lA), .val (.int mA), .val (.int eA), .val (.int fA), .val (.int nid), .val (.int nB), .val (.int cB), .val (.int dB), .val (.int ncp), .val (.int mB), .val (.int eB), .val (.int fB), .val (.int wB), .val (.int lB), .val (.int kd), .val (.ref b71), .val (.ref b111), .unset] [(.int cB), (.int nB), (.int dA), (.int cA), (.int nA)])) _
          refine XS.iload X135.here hx rfl (hb hby at_417) rfl ?_
          show Steps p.tables e below (T135.setTop (mkF m 419 #[.val (.int va), .val (.int vb), .val (.int vc), .val (.int vd), .val (.int ve), .val (.int nA), .val (.int cA), .val (.int dA), .val (.int wA), .val (.int lA), .val (.int mA), .val (.int eA), .val (.int fA), .val (.int nid), .val (.int nB), .val (.int cB), .val (.int dB), .val (.int ncp), .val (.int mB), .val (.int eB), .val (.int fB), .val (.int wB), .val (.int lB), .val (.int kd), .val (.ref b71), .val (.ref b111), .unset] [(.int dB), (.int cB), (.int nB), (.int dA), (.int cA), (.int nA)])) _
          refine st140 _ ?_
          show Steps p.tables e below (T140.setTop (mkF m 422 #[.val (.int va), .val (.int vb), .val (.int vc), .val (.int vd), .val (.int ve), .val (.int nA), .val (.int cA), .val (.int dA), .val (.int wA), .val (.int lA), .val (.int mA), .val (.int eA), .val (.int fA), .val (.int nid), .val (.int nB), .val (.int cB), .val (.int dB), .val (.int ncp), .val (.int mB), .val (.int eB), .val (.int fB), .val (.int wB), .val (.int lB), .val (.int kd), .val (.ref b71), .val (.ref b111), .unset] [(.int (own_same nA cA dA nB cB dB))])) _
          exact k
        by_cases hc142 : (own_same nA cA dA nB cB dB) = (0 : Int32)
        · refine ⟨(0 : Int32), T140, _, X140, Nf140, hh140, (by simp [own_eqv, hc142]), fun t k => ?_⟩
          refine pre141 t ?_
          show Steps p.tables e below (T140.setTop (mkF m 422 #[.val (.int va), .val (.int vb), .val (.int vc), .val (.int vd), .val (.int ve), .val (.int nA), .val (.int cA), .val (.int dA), .val (.int wA), .val (.int lA), .val (.int mA), .val (.int eA), .val (.int fA), .val (.int nid), .val (.int nB), .val (.int cB), .val (.int dB), .val (.int ncp), .val (.int mB), .val (.int eB), .val (.int fB), .val (.int wB), .val (.int lB), .val (.int kd), .val (.ref b71), .val (.ref b111), .unset] [(.int (own_same nA cA dA nB cB dB))])) _
          refine XS.ifYes X140.here hx rfl (pc0 := 422) (pc' := 461) rfl (hb hby at_422) rfl ((if0 _ _).trans (teq hc142).1) (by decide) (by decide) ?_
          show Steps p.tables e below (T140.setTop (mkF m 461 #[.val (.int va), .val (.int vb), .val (.int vc), .val (.int vd), .val (.int ve), .val (.int nA), .val (.int cA), .val (.int dA), .val (.int wA), .val (.int lA), .val (.int mA), .val (.int eA), .val (.int fA), .val (.int nid), .val (.int nB), .val (.int cB), .val (.int dB), .val (.int ncp), .val (.int mB), .val (.int eB), .val (.int fB), .val (.int wB), .val (.int lB), .val (.int kd), .val (.ref b71), .val (.ref b111), .unset] [])) _
          refine XS.iconst X140.here hx rfl (hb hby at_461) ?_
          show Steps p.tables e below (T140.setTop (mkF m 462 #[.val (.int va), .val (.int vb), .val (.int vc), .val (.int vd), .val (.int ve), .val (.int nA), .val (.int cA), .val (.int dA), .val (.int wA), .val (.int lA), .val (.int mA), .val (.int eA), .val (.int fA), .val (.int nid), .val (.int nB), .val (.int cB), .val (.int dB), .val (.int ncp), .val (.int mB), .val (.int eB), .val (.int fB), .val (.int wB), .val (.int lB), .val (.int kd), .val (.ref b71), .val (.ref b111), .unset] [(.int (0 : Int32))])) _
          exact k
        · obtain ⟨_, _, ⟨T143, L143, k143, n143⟩, -, X143, ⟨Lc143, hQ143, l143, y143, z143⟩, st143⟩ := Jvm.LawKit.callS X140 hx (y := (⟨"com/example/netmark/netmark/rules/NettingAgreementEqualsPinLaw", "same", "(ICCICC)Z"⟩ : MethodName)) hown135 (mvT hZ135 (hw _ (List.mem_of_getElem? (i := 67) rfl))) (mvT hZ135 (hw _ (List.mem_of_getElem? (i := 68) rfl))) (mvT hZ135 (hw _ (List.mem_of_getElem? (i := 9) rfl))) (mvT hZ135 (hw _ (List.mem_of_getElem? (i := 69) rfl))) (by decide) (backOf (W := 0) (rm_same l Z a0 hw [] mA eA fA mB eB fB T135.heap n0 Zp137 ) hZ135 (hw _ (List.mem_of_getElem? (i := 69) rfl)) (hw _ (List.mem_of_getElem? (i := 9) rfl)) (by decide) (by decide)) (g := (mkF m 437 #[.val (.int va), .val (.int vb), .val (.int vc), .val (.int vd), .val (.int ve), .val (.int nA), .val (.int cA), .val (.int dA), .val (.int wA), .val (.int lA), .val (.int mA), .val (.int eA), .val (.int fA), .val (.int nid), .val (.int nB), .val (.int cB), .val (.int dB), .val (.int ncp), .val (.int mB), .val (.int eB), .val (.int fB), .val (.int wB), .val (.int lB), .val (.int kd), .val (.ref b71), .val (.ref b111), .unset] [(.int fB), (.int eB), (.int mB), (.int fA), (.int eA), (.int mA)])) rfl (by rw [hml]; rfl) (argsL := [(.int mA), (.int eA), (.int fA), (.int mB), (.int eB), (.int fB)]) (rest := []) (lenOf own_pd12 rfl) rfl (by show 2 * 0 + _ ≤ _; exact Nat.le_of_eq rfl) (hb hby at_437) (fun _ _ => ⟨rfl, hh140, (by decide : 34 + 0 ≤ _), (by decide : 200 + 0 ≤ _)⟩)
          dsimp only [Pt.U, Pt.locs, Pt.cells, Pt.slots] at X143 l143 y143 z143 st143 hQ143
          subst l143 y143 z143
          obtain ⟨rfl, Nq143, hh143⟩ := hQ143
          have Nf143 := Fr.app Nf140 Nq143
          have pre144 : ∀ t, Steps p.tables e below (T143.setTop (mkF m 440 #[.val (.int va), .val (.int vb), .val (.int vc), .val (.int vd), .val (.int ve), .val (.int nA), .val (.int cA), .val (.int dA), .val (.int wA), .val (.int lA), .val (.int mA), .val (.int eA), .val (.int fA), .val (.int nid), .val (.int nB), .val (.int cB), .val (.int dB), .val (.int ncp), .val (.int mB), .val (.int eB), .val (.int fB), .val (.int wB), .val (.int lB), .val (.int kd), .val (.ref b71), .val (.ref b111), .unset] [(.int (own_same mA eA fA mB eB fB))])) t → Steps p.tables e below (s₁.setTop (entryFrame m #[(.int va), (.int vb), (.int vc), (.int vd), (.int ve)] maxLocals)) t := by
            intro t k
            refine pre141 t ?_
            show Steps p.tables e below (T140.setTop (mkF m 422 #[.val (.int va), .val (.int vb), .val (.int vc), .val (.int vd), .val (.int ve), .val (.int nA), .val (.int cA), .val (.int dA), .val (.int wA), .val (.int lA), .val (.int mA), .val (.int eA), .val (.int fA), .val (.int nid), .val (.int nB), .val (.int cB), .val (.int dB), .val (.int ncp), .val (.int mB), .val (.int eB), .val (.int fB), .val (.int wB), .val (.int lB), .val (.int kd), .val (.ref b71), .val (.ref b111), .unset] [(.int (own_same nA cA dA nB cB dB))])) _
            refine XS.ifNo X140.here hx rfl (hb hby at_422) rfl ((if0 _ _).trans (feq hc142).1) ?_
            show Steps p.tables e below (T140.setTop (mkF m 425 #[.val (.int va), .val (.int vb), .val (.int vc), .val (.int vd), .val (.int ve), .val (.int nA), .val (.int cA), .val (.int dA), .val (.int wA), .val (.int lA), .val (.int mA), .val (.int eA), .val (.int fA), .val (.int nid), .val (.int nB), .val (.int cB), .val (.int dB), .val (.int ncp), .val (.int mB), .val (.int eB), .val (.int fB), .val (.int wB), .val (.int lB), .val (.int kd), .val (.ref b71), .val (.ref b111), .unset] [])) _
            refine XS.iload X140.here hx rfl (hb hby at_425) rfl ?_
            show Steps p.tables e below (T140.setTop (mkF m 427 #[.val (.int va), .val (.int vb), .val (.int vc), .val (.int vd), .val (.int ve), .val (.int nA), .val (.int cA), .val (.int dA), .val (.int wA), .val (.int lA), .val (.int mA), .val (.int eA), .val (.int fA), .val (.int nid), .val (.int nB), .val (.int cB), .val (.int dB), .val (.int ncp), .val (.int mB), .val (.int eB), .val (.int fB), .val (.int wB), .val (.int lB), .val (.int kd), .val (.ref b71), .val (.ref b111), .unset] [(.int mA)])) _
            refine XS.iload X140.here hx rfl (hb hby at_427) rfl ?_
            show Steps p.tables e below (T140.setTop (mkF m 429 #[.val (.int va), .val (.int vb), .val (.int vc), .val (.int vd), .val (.int ve), .val (.int nA), .val (.int cA), .val (.int dA), .val (.int wA), .val (.int lA), .val (.int mA), .val (.int eA), .val (.int fA), .val (.int nid), .val (.int nB), .val (.int cB), .val (.int dB), .val (.int ncp), .val (.int mB), .val (.int eB), .val (.int fB), .val (.int wB), .val (.int lB), .val (.int kd), .val (.ref b71), .val (.ref b111), .unset] [(.int eA), (.int mA)])) _
            refine XS.iload X140.here hx rfl (hb hby at_429) rfl ?_
            show Steps p.tables e below (T140.setTop (mkF m 431 #[.val (.int va), .val (.int vb), .val (.int vc), .val (.int vd), .val (.int ve), .val (.int nA), .val (.int cA), .val (.int dA), .val (.int wA), .val (.int lA), .val (.int mA), .val (.int eA), .val (.int fA), .val (.int nid), .val (.int nB), .val (.int cB), .val (.int dB), .val (.int ncp), .val (.int mB), .val (.int eB), .val (.int fB), .val (.int wB), .val (.int lB), .val (.int kd), .val (.ref b71), .val (.ref b111), .unset] [(.int fA), (.int eA), (.int mA)])) _
            refine XS.iload X140.here hx rfl (hb hby at_431) rfl ?_
            show Steps p.tables e below (T140.setTop (mkF m 433 #[.val (.int va), .val (.int vb), .val (.int vc), .val (.int vd), .val (.int ve), .val (.int nA), .val (.int cA), .val (.int dA), .val (.int wA), .val (.int lA), .val (.int mA), .val (.int eA), .val (.int fA), .val (.int nid), .val (.int nB), .val (.int cB), .val (.int dB), .val (.int ncp), .val (.int mB), .val (.int eB), .val (.int fB), .val (.int wB), .val (.int lB), .val (.int kd), .val (.ref b71), .val (.ref b111), .unset] [(.int mB), (.int fA), (.int eA), (.int mA)])) _
            refine XS.iload X140.here hx rfl (hb hby at_433) rfl ?_
            show Steps p.tables e below (T140.setTop (mkF m 435 #[.val (.int va), .val (.int vb), .val (.int vc), .val (.int vd), .val (.int ve), .val (.int nA), .val (.int cA), .val (.int dA), .val (.int wA), .val (.int lA), .val (.int mA), .val (.int eA), .val (.int fA), .val (.int nid), .val (.int nB), .val (.int cB), .val (.int dB), .val (.int ncp), .val (.int mB), .val (.int eB), .val (.int fB), .val (.int wB), .val (.int lB), .val (.int kd), .val (.ref b71), .val (.ref b111), .unset] [(.int eB), (.int mB), (.int fA), (.int eA), (.int mA)])) _
            refine XS.iload X140.here hx rfl (hb hby at_435) rfl ?_
            show Steps p.tables e below (T140.setTop (mkF m 437 #[.val (.int va), .val (.int vb), .val (.int vc), .val (.int vd), .val (.int ve), .val (.int nA), .val (.int cA), .val (.int dA), .val (.int wA), .val (.int lA), .val (.int mA), .val (.int eA), .val (.int fA), .val (.int nid), .val (.int nB), .val (.int cB), .val (.int dB), .val (.int ncp), .val (.int mB), .val (.int eB), .val (.int fB), .val (.int wB), .val (.int lB), .val (.int kd), .val (.ref b71), .val (.ref b111), .unset] [(.int fB), (.int eB), (.int mB), (.int fA), (.int eA), (.int mA)])) _
            refine st143 _ ?_
            show Steps p.tables e below (T143.setTop (mkF m 440 #[.val (.int va), .val (.int vb), .val (.int vc), .val (.int vd), .val (.int ve), .val (.int nA), .val (.int cA), .val (.int dA), .val (.int wA), .val (.int lA), .val (.int mA), .val (.int eA), .val (.int fA), .val (.int nid), .val (.int nB), .val (.int cB), .val (.int dB), .val (.int ncp), .val (.int mB), .val (.int eB), .val (.int fB), .val (.int wB), .val (.int lB), .val (.int kd), .val (.ref b71), .val (.ref b111), .unset] [(.int (own_same mA eA fA mB eB fB))])) _
            exact k
          by_cases hc145 : (own_same mA eA fA mB eB fB) = (0 : Int32)
          · refine ⟨(0 : Int32), T143, _, X143, Nf143, hh143, (by simp [own_eqv, hc142, hc145]), fun t k => ?_⟩
            refine pre144 t ?_
            show Steps p.tables e below (T143.setTop (mkF m 440 #[.val (.int va), .val (.int vb), .val (.int vc), .val (.int vd), .val (.int ve), .val (.int nA), .val (.int cA), .val (.int dA), .val (.int wA), .val (.int lA), .val (.int mA), .val (.int eA), .val (.int fA), .val (.int nid), .val (.int nB), .val (.int cB), .val (.int dB), .val (.int ncp), .val (.int mB), .val (.int eB), .val (.int fB), .val (.int wB), .val (.int lB), .val (.int kd), .val (.ref b71), .val (.ref b111), .unset] [(.int (own_same mA eA fA mB eB fB))])) _
            refine XS.ifYes X143.here hx rfl (pc0 := 440) (pc' := 461) rfl (hb hby at_440) rfl ((if0 _ _).trans (teq hc145).1) (by decide) (by decide) ?_
            show Steps p.tables e below (T143.setTop (mkF m 461 #[.val (.int va), .val (.int vb), .val (.int vc), .val (.int vd), .val (.int ve), .val (.int nA), .val (.int cA), .val (.int dA), .val (.int wA), .val (.int lA), .val (.int mA), .val (.int eA), .val (.int fA), .val (.int nid), .val (.int nB), .val (.int cB), .val (.int dB), .val (.int ncp), .val (.int mB), .val (.int eB), .val (.int fB), .val (.int wB), .val (.int lB), .val (.int kd), .val (.ref b71), .val (.ref b111), .unset] [])) _
            refine XS.iconst X143.here hx rfl (hb hby at_461) ?_
            show Steps p.tables e below (T143.setTop (mkF m 462 #[.val (.int va), .val (.int vb), .val (.int vc), .val (.int vd), .val (.int ve), .val (.int nA), .val (.int cA), .val (.int dA), .val (.int wA), .val (.int lA), .val (.int mA), .val (.int eA), .val (.int fA), .val (.int nid), .val (.int nB), .val (.int cB), .val (.int dB), .val (.int ncp), .val (.int mB), .val (.int eB), .val (.int fB), .val (.int wB), .val (.int lB), .val (.int kd), .val (.ref b71), .val (.ref b111), .unset] [(.int (0 : Int32))])) _
            exact k
          · have pre146 : ∀ t, Steps p.tables e below (T143.setTop (mkF m 447 #[.val (.int va), .val (.int vb), .val (.int vc), .val (.int vd), .val (.int ve), .val (.int nA), .val (.int cA), .val (.int dA), .val (.int wA), .val (.int lA), .val (.int mA), .val (.int eA), .val (.int fA), .val (.int nid), .val (.int nB), .val (.int cB), .val (.int dB), .val (.int ncp), .val (.int mB), .val (.int eB), .val (.int fB), .val (.int wB), .val (.int lB), .val (.int kd), .val (.ref b71), .val (.ref b111), .unset] [(.int wB), (.int wA)])) t → Steps p.tables e below (s₁.setTop (entryFrame m #[(.int va), (.int vb), (.int vc), (.int vd), (.int ve)] maxLocals)) t := by
              intro t k
              refine pre144 t ?_
              show Steps p.tables e below (T143.setTop (mkF m 440 #[.val (.int va), .val (.int vb), .val (.int vc), .val (.int vd), .val (.int ve), .val (.int nA), .val (.int cA), .val (.int dA), .val (.int wA), .val (.int lA), .val (.int mA), .val (.int eA), .val (.int fA), .val (.int nid), .val (.int nB), .val (.int cB), .val (.int dB), .val (.int ncp), .val (.int mB), .val (.int eB), .val (.int fB), .val (.int wB), .val (.int lB), .val (.int kd), .val (.ref b71), .val (.ref b111), .unset] [(.int (own_same mA eA fA mB eB fB))])) _
              refine XS.ifNo X143.here hx rfl (hb hby at_440) rfl ((if0 _ _).trans (feq hc145).1) ?_
              show Steps p.tables e below (T143.setTop (mkF m 443 #[.val (.int va), .val (.int vb), .val (.int vc), .val (.int vd), .val (.int ve), .val (.int nA), .val (.int cA), .val (.int dA), .val (.int wA), .val (.int lA), .val (.int mA), .val (.int eA), .val (.int fA), .val (.int nid), .val (.int nB), .val (.int cB), .val (.int dB), .val (.int ncp), .val (.int mB), .val (.int eB), .val (.int fB), .val (.int wB), .val (.int lB), .val (.int kd), .val (.ref b71), .val (.ref b111), .unset] [])) _
              refine XS.iload X143.here hx rfl (hb hby at_443) rfl ?_
              show Steps p.tables e below (T143.setTop (mkF m 445 #[.val (.int va), .val (.int vb), .val (.int vc), .val (.int vd), .val (.int ve), .val (.int nA), .val (.int cA), .val (.int dA), .val (.int wA), .val (.int lA), .val (.int mA), .val (.int eA), .val (.int fA), .val (.int nid), .val (.int nB), .val (.int cB), .val (.int dB), .val (.int ncp), .val (.int mB), .val (.int eB), .val (.int fB), .val (.int wB), .val (.int lB), .val (.int kd), .val (.ref b71), .val (.ref b111), .unset] [(.int wA)])) _
              refine XS.iload X143.here hx rfl (hb hby at_445) rfl ?_
              show Steps p.tables e below (T143.setTop (mkF m 447 #[.val (.int va), .val (.int vb), .val (.int vc), .val (.int vd), .val (.int ve), .val (.int nA), .val (.int cA), .val (.int dA), .val (.int wA), .val (.int lA), .val (.int mA), .val (.int eA), .val (.int fA), .val (.int nid), .val (.int nB), .val (.int cB), .val (.int dB), .val (.int ncp), .val (.int mB), .val (.int eB), .val (.int fB), .val (.int wB), .val (.int lB), .val (.int kd), .val (.ref b71), .val (.ref b111), .unset] [(.int wB), (.int wA)])) _
              exact k
            by_cases hc147 : wA = wB
            · have pre148 : ∀ t, Steps p.tables e below (T143.setTop (mkF m 454 #[.val (.int va), .val (.int vb), .val (.int vc), .val (.int vd), .val (.int ve), .val (.int nA), .val (.int cA), .val (.int dA), .val (.int wA), .val (.int lA), .val (.int mA), .val (.int eA), .val (.int fA), .val (.int nid), .val (.int nB), .val (.int cB), .val (.int dB), .val (.int ncp), .val (.int mB), .val (.int eB), .val (.int fB), .val (.int wB), .val (.int lB), .val (.int kd), .val (.ref b71), .val (.ref b111), .unset] [(.int lB), (.int lA)])) t → Steps p.tables e below (s₁.setTop (entryFrame m #[(.int va), (.int vb), (.int vc), (.int vd), (.int ve)] maxLocals)) t := by
                intro t k
                refine pre146 t ?_
                show Steps p.tables e below (T143.setTop (mkF m 447 #[.val (.int va), .val (.int vb), .val (.int vc), .val (.int vd), .val (.int ve), .val (.int nA), .val (.int cA), .val (.int dA), .val (.int wA), .val (.int lA), .val (.int mA), .val (.int eA), .val (.int fA), .val (.int nid), .val (.int nB), .val (.int cB), .val (.int dB), .val (.int ncp), .val (.int mB), .val (.int eB), .val (.int fB), .val (.int wB), .val (.int lB), .val (.int kd), .val (.ref b71), .val (.ref b111), .unset] [(.int wB), (.int wA)])) _
                refine XS.icmpNo X143.here hx rfl (hb hby at_447) rfl (teq hc147).2 ?_
                show Steps p.tables e below (T143.setTop (mkF m 450 #[.val (.int va), .val (.int vb), .val (.int vc), .val (.int vd), .val (.int ve), .val (.int nA), .val (.int cA), .val (.int dA), .val (.int wA), .val (.int lA), .val (.int mA), .val (.int eA), .val (.int fA), .val (.int nid), .val (.int nB), .val (.int cB), .val (.int dB), .val (.int ncp), .val (.int mB), .val (.int eB), .val (.int fB), .val (.int wB), .val (.int lB), .val (.int kd), .val (.ref b71), .val (.ref b111), .unset] [])) _
                refine XS.iload X143.here hx rfl (hb hby at_450) rfl ?_
                show Steps p.tables e below (T143.setTop (mkF m 452 #[.val (.int va), .val (.int vb), .val (.int vc), .val (.int vd), .val (.int ve), .val (.int nA), .val (.int cA), .val (.int dA), .val (.int wA), .val (.int lA), .val (.int mA), .val (.int eA), .val (.int fA), .val (.int nid), .val (.int nB), .val (.int cB), .val (.int dB), .val (.int ncp), .val (.int mB), .val (.int eB), .val (.int fB), .val (.int wB), .val (.int lB), .val (.int kd), .val (.ref b71), .val (.ref b111), .unset] [(.int lA)])) _
                refine XS.iload X143.here hx rfl (hb hby at_452) rfl ?_
                show Steps p.tables e below (T143.setTop (mkF m 454 #[.val (.int va), .val (.int vb), .val (.int vc), .val (.int vd), .val (.int ve), .val (.int nA), .val (.int cA), .val (.int dA), .val (.int wA), .val (.int lA), .val (.int mA), .val (.int eA), .val (.int fA), .val (.int nid), .val (.int nB), .val (.int cB), .val (.int dB), .val (.int ncp), .val (.int mB), .val (.int eB), .val (.int fB), .val (.int wB), .val (.int lB), .val (.int kd), .val (.ref b71), .val (.ref b111), .unset] [(.int lB), (.int lA)])) _
                exact k
              by_cases hc149 : lA = lB
              · refine ⟨(1 : Int32), T143, _, X143, Nf143, hh143, (by simp [own_eqv, hc142, hc145, hc147, hc149]), fun t k => ?_⟩
                refine pre148 t ?_
                show Steps p.tables e below (T143.setTop (mkF m 454 #[.val (.int va), .val (.int vb), .val (.int vc), .val (.int vd), .val (.int ve), .val (.int nA), .val (.int cA), .val (.int dA), .val (.int wA), .val (.int lA), .val (.int mA), .val (.int eA), .val (.int fA), .val (.int nid), .val (.int nB), .val (.int cB), .val (.int dB), .val (.int ncp), .val (.int mB), .val (.int eB), .val (.int fB), .val (.int wB), .val (.int lB), .val (.int kd), .val (.ref b71), .val (.ref b111), .unset] [(.int lB), (.int lA)])) _
                refine XS.icmpNo X143.here hx rfl (hb hby at_454) rfl (teq hc149).2 ?_
                show Steps p.tables e below (T143.setTop (mkF m 457 #[.val (.int va), .val (.int vb), .val (.int vc), .val (.int vd), .val (.int ve), .val (.int nA), .val (.int cA), .val (.int dA), .val (.int wA), .val (.int lA), .val (.int mA), .val (.int eA), .val (.int fA), .val (.int nid), .val (.int nB), .val (.int cB), .val (.int dB), .val (.int ncp), .val (.int mB), .val (.int eB), .val (.int fB), .val (.int wB), .val (.int lB), .val (.int kd), .val (.ref b71), .val (.ref b111), .unset] [])) _
                refine XS.iconst X143.here hx rfl (hb hby at_457) ?_
                show Steps p.tables e below (T143.setTop (mkF m 458 #[.val (.int va), .val (.int vb), .val (.int vc), .val (.int vd), .val (.int ve), .val (.int nA), .val (.int cA), .val (.int dA), .val (.int wA), .val (.int lA), .val (.int mA), .val (.int eA), .val (.int fA), .val (.int nid), .val (.int nB), .val (.int cB), .val (.int dB), .val (.int ncp), .val (.int mB), .val (.int eB), .val (.int fB), .val (.int wB), .val (.int lB), .val (.int kd), .val (.ref b71), .val (.ref b111), .unset] [(.int (1 : Int32))])) _
                refine XS.goto X143.here hx rfl (pc0 := 458) (pc' := 462) rfl (hb hby at_458) (by decide) (by decide) ?_
                show Steps p.tables e below (T143.setTop (mkF m 462 #[.val (.int va), .val (.int vb), .val (.int vc), .val (.int vd), .val (.int ve), .val (.int nA), .val (.int cA), .val (.int dA), .val (.int wA), .val (.int lA), .val (.int mA), .val (.int eA), .val (.int fA), .val (.int nid), .val (.int nB), .val (.int cB), .val (.int dB), .val (.int ncp), .val (.int mB), .val (.int eB), .val (.int fB), .val (.int wB), .val (.int lB), .val (.int kd), .val (.ref b71), .val (.ref b111), .unset] [(.int (1 : Int32))])) _
                exact k
              · refine ⟨(0 : Int32), T143, _, X143, Nf143, hh143, (by simp [own_eqv, hc142, hc145, hc147, hc149]), fun t k => ?_⟩
                refine pre148 t ?_
                show Steps p.tables e below (T143.setTop (mkF m 454 #[.val (.int va), .val (.int vb), .val (.int vc), .val (.int vd), .val (.int ve), .val (.int nA), .val (.int cA), .val (.int dA), .val (.int wA), .val (.int lA), .val (.int mA), .val (.int eA), .val (.int fA), .val (.int nid), .val (.int nB), .val (.int cB), .val (.int dB), .val (.int ncp), .val (.int mB), .val (.int eB), .val (.int fB), .val (.int wB), .val (.int lB), .val (.int kd), .val (.ref b71), .val (.ref b111), .unset] [(.int lB), (.int lA)])) _
                refine XS.icmpYes X143.here hx rfl (pc0 := 454) (pc' := 461) rfl (hb hby at_454) rfl (feq hc149).2 (by decide) (by decide) ?_
                show Steps p.tables e below (T143.setTop (mkF m 461 #[.val (.int va), .val (.int vb), .val (.int vc), .val (.int vd), .val (.int ve), .val (.int nA), .val (.int cA), .val (.int dA), .val (.int wA), .val (.int lA), .val (.int mA), .val (.int eA), .val (.int fA), .val (.int nid), .val (.int nB), .val (.int cB), .val (.int dB), .val (.int ncp), .val (.int mB), .val (.int eB), .val (.int fB), .val (.int wB), .val (.int lB), .val (.int kd), .val (.ref b71), .val (.ref b111), .unset] [])) _
                refine XS.iconst X143.here hx rfl (hb hby at_461) ?_
                show Steps p.tables e below (T143.setTop (mkF m 462 #[.val (.int va), .val (.int vb), .val (.int vc), .val (.int vd), .val (.int ve), .val (.int nA), .val (.int cA), .val (.int dA), .val (.int wA), .val (.int lA), .val (.int mA), .val (.int eA), .val (.int fA), .val (.int nid), .val (.int nB), .val (.int cB), .val (.int dB), .val (.int ncp), .val (.int mB), .val (.int eB), .val (.int fB), .val (.int wB), .val (.int lB), .val (.int kd), .val (.ref b71), .val (.ref b111), .unset] [(.int (0 : Int32))])) _
                exact k
            · refine ⟨(0 : Int32), T143, _, X143, Nf143, hh143, (by simp [own_eqv, hc142, hc145, hc147]), fun t k => ?_⟩
              refine pre146 t ?_
              show Steps p.tables e below (T143.setTop (mkF m 447 #[.val (.int va), .val (.int vb), .val (.int vc), .val (.int vd), .val (.int ve), .val (.int nA), .val (.int cA), .val (.int dA), .val (.int wA), .val (.int lA), .val (.int mA), .val (.int eA), .val (.int fA), .val (.int nid), .val (.int nB), .val (.int cB), .val (.int dB), .val (.int ncp), .val (.int mB), .val (.int eB), .val (.int fB), .val (.int wB), .val (.int lB), .val (.int kd), .val (.ref b71), .val (.ref b111), .unset] [(.int wB), (.int wA)])) _
              refine XS.icmpYes X143.here hx rfl (pc0 := 447) (pc' := 461) rfl (hb hby at_447) rfl (feq hc147).2 (by decide) (by decide) ?_
              show Steps p.tables e below (T143.setTop (mkF m 461 #[.val (.int va), .val (.int vb), .val (.int vc), .val (.int vd), .val (.int ve), .val (.int nA), .val (.int cA), .val (.int dA), .val (.int wA), .val (.int lA), .val (.int mA), .val (.int eA), .val (.int fA), .val (.int nid), .val (.int nB), .val (.int cB), .val (.int dB), .val (.int ncp), .val (.int mB), .val (.int eB), .val (.int fB), .val (.int wB), .val (.int lB), .val (.int kd), .val (.ref b71), .val (.ref b111), .unset] [])) _
              refine XS.iconst X143.here hx rfl (hb hby at_461) ?_
              show Steps p.tables e below (T143.setTop (mkF m 462 #[.val (.int va), .val (.int vb), .val (.int vc), .val (.int vd), .val (.int ve), .val (.int nA), .val (.int cA), .val (.int dA), .val (.int wA), .val (.int lA), .val (.int mA), .val (.int eA), .val (.int fA), .val (.int nid), .val (.int nB), .val (.int cB), .val (.int dB), .val (.int ncp), .val (.int mB), .val (.int eB), .val (.int fB), .val (.int wB), .val (.int lB), .val (.int kd), .val (.ref b71), .val (.ref b111), .unset] [(.int (0 : Int32))])) _
              exact k
      have Fc150 := ((((Fld.ext E111 Fx95_0).keep K119 nin0).keep K123 nin0).keep K135 (ninS (Nat.ne_of_lt (Nat.lt_of_lt_of_le (Ex95).lt (Nat.le_of_eq g111.symm))) nin0))
      have Fc151 := ((((Exa.ext E111 (Fc91.keep K95)).keep K119).keep K123).keep K135)
      have Fc152 := (Fc91.keep K95)
      have Fc153 := ((((Fld.ext E111 (Fc92.keep K95 (ninS (Ne.symm (Nat.ne_of_lt (Nat.lt_of_lt_of_le (A71).lt sz_b79))) nin0))).keep K119 nin0).keep K123 nin0).keep K135 (ninS (Nat.ne_of_lt (Nat.lt_of_lt_of_le (Fc152).lt (Nat.le_of_eq g111.symm))) nin0))
      have Fc154 := ((((Fld.ext E111 (Fc93.keep K95 (ninS (Ne.symm (Nat.ne_of_lt (Nat.lt_of_lt_of_le (A71).lt sz_b79))) nin0))).keep K119 nin0).keep K123 nin0).keep K135 (ninS (Nat.ne_of_lt (Nat.lt_of_lt_of_le (Fc152).lt (Nat.le_of_eq g111.symm))) nin0))
      have Fc155 := (A71.keep K79)
      have Fc156 := (Fc94.keep K95 (ninS (Ne.symm (Exa.neArv Fc155 V79 (hw _ (List.mem_of_getElem? (i := 5) rfl)))) nin0))
      have Fc157 := (((((Fc94.keep K95 (ninS (Ne.symm (Exa.neArv Fc155 V79 (hw _ (List.mem_of_getElem? (i := 5) rfl)))) nin0)).ext E111).keep K119 nin0).keep K123 nin0).keep K135 (ninS (Nat.ne_of_lt (Nat.lt_of_lt_of_le (Fc156).lt (Nat.le_of_eq g111.symm))) nin0))
      have Fc158 := ((((Fld.ext E111 Fx95_1).keep K119 nin0).keep K123 nin0).keep K135 (ninS (Nat.ne_of_lt (Nat.lt_of_lt_of_le (Ex95).lt (Nat.le_of_eq g111.symm))) nin0))
      have Fc159 := ((((Exa.ext E111 (Ex83.keep K95)).keep K119).keep K123).keep K135)
      have Fc160 := (Ex83.keep K95)
      have Fc161 := ((((Fld.ext E111 (Fv83.keep K95 (ninS (Ne.symm (Nat.ne_of_lt (Nat.lt_of_lt_of_le (Fc155).lt sz_b83))) nin0))).keep K119 nin0).keep K123 nin0).keep K135 (ninS (Nat.ne_of_lt (Nat.lt_of_lt_of_le (Fc160).lt (Nat.le_of_eq g111.symm))) nin0))
      have Fc162 := ((((Fld.ext E111 (Fc83.keep K95 (ninS (Ne.symm (Nat.ne_of_lt (Nat.lt_of_lt_of_le (Fc155).lt sz_b83))) nin0))).keep K119 nin0).keep K123 nin0).keep K135 (ninS (Nat.ne_of_lt (Nat.lt_of_lt_of_le (Fc160).lt (Nat.le_of_eq g111.symm))) nin0))
      have Fc163 := (V83.keep K95 (ninS (Ne.symm (Exa.neArv Fc86 V83 (hw _ (List.mem_of_getElem? (i := 5) rfl)))) nin0))
      have Fc164 := (((((V83.keep K95 (ninS (Ne.symm (Exa.neArv Fc86 V83 (hw _ (List.mem_of_getElem? (i := 5) rfl)))) nin0)).ext E111).keep K119 nin0).keep K123 nin0).keep K135 (ninS (Nat.ne_of_lt (Nat.lt_of_lt_of_le (Fc163).lt (Nat.le_of_eq g111.symm))) nin0))
      have Fc165 := (Fc131.keep K135)
      have Fc166 := (Fc132.keep K135 (ninS (Ne.symm (Nat.ne_of_lt (Nat.lt_of_lt_of_le (A111).lt sz_b119))) nin0))
      have Fc167 := (Fc133.keep K135 (ninS (Ne.symm (Nat.ne_of_lt (Nat.lt_of_lt_of_le (A111).lt sz_b119))) nin0))
      have Fc168 := (A111.keep K119)
      have Fc169 := (Fc134.keep K135 (ninS (Ne.symm (Exa.neArv Fc168 V119 (hw _ (List.mem_of_getElem? (i := 5) rfl)))) nin0))
      have Fc170 := (Ex123.keep K135)
      have Fc171 := (Fv123.keep K135 (ninS (Ne.symm (Nat.ne_of_lt (Nat.lt_of_lt_of_le (Fc168).lt sz_b123))) nin0))
      have Fc172 := (Fc123.keep K135 (ninS (Ne.symm (Nat.ne_of_lt (Nat.lt_of_lt_of_le (Fc168).lt sz_b123))) nin0))
      have Fc173 := (V123.keep K135 (ninS (Ne.symm (Exa.neArv Fc126 V123 (hw _ (List.mem_of_getElem? (i := 5) rfl)))) nin0))
      have Fc174 := ((((Fld.ext E111 Fx95_2).keep K119 nin0).keep K123 nin0).keep K135 (ninS (Nat.ne_of_lt (Nat.lt_of_lt_of_le (Ex95).lt (Nat.le_of_eq g111.symm))) nin0))
      have Fc175 := ((((Fld.ext E111 Fx95_3).keep K119 nin0).keep K123 nin0).keep K135 (ninS (Nat.ne_of_lt (Nat.lt_of_lt_of_le (Ex95).lt (Nat.le_of_eq g111.symm))) nin0))
      have Fc176 := (Exa.ext E111 Fc152)
      have Fc177 := ((Exa.ext E111 Fc160).keep K119)
      have Fc178 := (own_sta_keep K135 (allS (own_plE Fc126) all0) (own_sta_keep K123 all0 Fc122))
      have Fc181 := ((((Exa.ext E111 Ex95).keep K119).keep K123).keep K135)
      obtain ⟨cq180, kq180, q180a, q180b, q180c⟩ := isOf hZ135 ej139 Fc181
      obtain ⟨_, _, ⟨T179, L179, k179, n179⟩, -, X179, ⟨Lc179, hQ179, l179, y179, z179⟩, st179⟩ := X139.virtualBack hx (y := (⟨"com/example/netmark/netmark/rules/NettingAgreement", "equals", "(Ljava/lang/Object;)Z"⟩ : MethodName)) (z := (⟨"com/example/netmark/netmark/rules/NettingAgreement", "equals", "(Ljava/lang/Object;)Z"⟩ : MethodName)) hown135 (mvT hZ135 (hw _ (List.mem_of_getElem? (i := 70) rfl))) (mvT hZ135 (hw _ (List.mem_of_getElem? (i := 71) rfl))) (notFace_of_selects (args := #[]) (mvT hZ135 (hw _ (List.mem_of_getElem? (i := 73) rfl)))) (mvT hZ135 (hw _ (List.mem_of_getElem? (i := 73) rfl))) (mvT hZ135 (hw _ (List.mem_of_getElem? (i := 72) rfl))) (by decide) (backOf (W := 0) (rm_eqA l Z a0 hw [] b71 b111 b79 vb79 kb79 nA cA dA b83 vb83 kb83 mA eA fA b119 vb119 kb119 nB cB dB b123 vb123 kb123 mB eB fB wA lA wB lB vcs T135.heap n0 Zp137 Fc150 Fc151 Fc153 Fc154 Fc157 l_nA r_cA r_dA Fc158 Fc159 Fc161 Fc162 Fc164 l_mA r_eA r_fA Fx135_0 Fc165 Fc166 Fc167 Fc169 l_nB r_cB r_dB Fx135_1 Fc170 Fc171 Fc172 Fc173 l_mB r_eB r_fB Fc174 Fc175 Fx135_2 Fx135_3 Ex135 (Nat.ne_of_lt (Nat.lt_of_lt_of_le (Fc176).lt sz_b119)) (Nat.ne_of_lt (Nat.lt_of_lt_of_le (Fc177).lt sz_b123)) Fc178 hcs) hZ135 (hw _ (List.mem_of_getElem? (i := 74) rfl)) (hw _ (List.mem_of_getElem? (i := 6) rfl)) (by decide) (by decide)) q180a q180c (g := (mkF m 468 #[.val (.int va), .val (.int vb), .val (.int vc), .val (.int vd), .val (.int ve), .val (.int nA), .val (.int cA), .val (.int dA), .val (.int wA), .val (.int lA), .val (.int mA), .val (.int eA), .val (.int fA), .val (.int nid), .val (.int nB), .val (.int cB), .val (.int dB), .val (.int ncp), .val (.int mB), .val (.int eB), .val (.int fB), .val (.int wB), .val (.int lB), .val (.int kd), .val (.ref b71), .val (.ref b111), .val (.int vz)] [(.ref b111), (.ref b71)])) rfl (by rw [hml]; rfl) (Steps.refl _) (argsL := [(.ref b111)]) (rest := []) (lenOf own_pd8 rfl) rfl (by show 2 * 0 + _ ≤ _; exact Nat.le_of_eq rfl) (hb hby at_468) (fun _ _ => ⟨rfl, ej139, (by decide : 34 + 0 ≤ _), (by decide : 200 + 0 ≤ _)⟩)
      dsimp only [Pt.U, Pt.locs, Pt.cells, Pt.slots] at X179 l179 y179 z179 st179 hQ179
      subst l179 y179 z179
      obtain ⟨rfl, Nq179, hh179⟩ := hQ179
      have Nf179 := Fr.app Nj139 Nq179
      have pre182 : ∀ t, Steps p.tables e below (T179.setTop (mkF m 473 #[.val (.int va), .val (.int vb), .val (.int vc), .val (.int vd), .val (.int ve), .val (.int nA), .val (.int cA), .val (.int dA), .val (.int wA), .val (.int lA), .val (.int mA), .val (.int eA), .val (.int fA), .val (.int nid), .val (.int nB), .val (.int cB), .val (.int dB), .val (.int ncp), .val (.int mB), .val (.int eB), .val (.int fB), .val (.int wB), .val (.int lB), .val (.int kd), .val (.ref b71), .val (.ref b111), .val (.int vz)] [(.int vz), (.int (own_eqv (own_same nA cA dA nB cB dB) (own_same mA eA fA mB eB fB) wA wB lA lB))])) t → Steps p.tables e below (s₁.setTop (entryFrame m #[(.int va), (.int vb), (.int vc), (.int vd), (.int ve)] maxLocals)) t := by
        intro t k
        refine pre139 t ?_
        show Steps p.tables e below (T139.setTop (mkF m 462 #[.val (.int va), .val (.int vb), .val (.int vc), .val (.int vd), .val (.int ve), .val (.int nA), .val (.int cA), .val (.int dA), .val (.int wA), .val (.int lA), .val (.int mA), .val (.int eA), .val (.int fA), .val (.int nid), .val (.int nB), .val (.int cB), .val (.int dB), .val (.int ncp), .val (.int mB), .val (.int eB), .val (.int fB), .val (.int wB), .val (.int lB), .val (.int kd), .val (.ref b71), .val (.ref b111), .unset] [(.int vz)])) _
        refine XS.istore X139.here hx rfl (hb hby at_462) rfl (l' := #[.val (.int va), .val (.int vb), .val (.int vc), .val (.int vd), .val (.int ve), .val (.int nA), .val (.int cA), .val (.int dA), .val (.int wA), .val (.int lA), .val (.int mA), .val (.int eA), .val (.int fA), .val (.int nid), .val (.int nB), .val (.int cB), .val (.int dB), .val (.int ncp), .val (.int mB), .val (.int eB), .val (.int fB), .val (.int wB), .val (.int lB), .val (.int kd), .val (.ref b71), .val (.ref b111), .val (.int vz)]) rfl ?_
        show Steps p.tables e below (T139.setTop (mkF m 464 #[.val (.int va), .val (.int vb), .val (.int vc), .val (.int vd), .val (.int ve), .val (.int nA), .val (.int cA), .val (.int dA), .val (.int wA), .val (.int lA), .val (.int mA), .val (.int eA), .val (.int fA), .val (.int nid), .val (.int nB), .val (.int cB), .val (.int dB), .val (.int ncp), .val (.int mB), .val (.int eB), .val (.int fB), .val (.int wB), .val (.int lB), .val (.int kd), .val (.ref b71), .val (.ref b111), .val (.int vz)] [])) _
        refine XS.aload X139.here hx rfl (hb hby at_464) rfl rfl ?_
        show Steps p.tables e below (T139.setTop (mkF m 466 #[.val (.int va), .val (.int vb), .val (.int vc), .val (.int vd), .val (.int ve), .val (.int nA), .val (.int cA), .val (.int dA), .val (.int wA), .val (.int lA), .val (.int mA), .val (.int eA), .val (.int fA), .val (.int nid), .val (.int nB), .val (.int cB), .val (.int dB), .val (.int ncp), .val (.int mB), .val (.int eB), .val (.int fB), .val (.int wB), .val (.int lB), .val (.int kd), .val (.ref b71), .val (.ref b111), .val (.int vz)] [(.ref b71)])) _
        refine XS.aload X139.here hx rfl (hb hby at_466) rfl rfl ?_
        show Steps p.tables e below (T139.setTop (mkF m 468 #[.val (.int va), .val (.int vb), .val (.int vc), .val (.int vd), .val (.int ve), .val (.int nA), .val (.int cA), .val (.int dA), .val (.int wA), .val (.int lA), .val (.int mA), .val (.int eA), .val (.int fA), .val (.int nid), .val (.int nB), .val (.int cB), .val (.int dB), .val (.int ncp), .val (.int mB), .val (.int eB), .val (.int fB), .val (.int wB), .val (.int lB), .val (.int kd), .val (.ref b71), .val (.ref b111), .val (.int vz)] [(.ref b111), (.ref b71)])) _
        refine st179.trans ?_
        show Steps p.tables e below (T179.setTop (mkF m 471 #[.val (.int va), .val (.int vb), .val (.int vc), .val (.int vd), .val (.int ve), .val (.int nA), .val (.int cA), .val (.int dA), .val (.int wA), .val (.int lA), .val (.int mA), .val (.int eA), .val (.int fA), .val (.int nid), .val (.int nB), .val (.int cB), .val (.int dB), .val (.int ncp), .val (.int mB), .val (.int eB), .val (.int fB), .val (.int wB), .val (.int lB), .val (.int kd), .val (.ref b71), .val (.ref b111), .val (.int vz)] [(.int (own_eqv (own_same nA cA dA nB cB dB) (own_same mA eA fA mB eB fB) wA wB lA lB))])) _
        refine XS.iload X179.here hx rfl (hb hby at_471) rfl ?_
        show Steps p.tables e below (T179.setTop (mkF m 473 #[.val (.int va), .val (.int vb), .val (.int vc), .val (.int vd), .val (.int ve), .val (.int nA), .val (.int cA), .val (.int dA), .val (.int wA), .val (.int lA), .val (.int mA), .val (.int eA), .val (.int fA), .val (.int nid), .val (.int nB), .val (.int cB), .val (.int dB), .val (.int ncp), .val (.int mB), .val (.int eB), .val (.int fB), .val (.int wB), .val (.int lB), .val (.int kd), .val (.ref b71), .val (.ref b111), .val (.int vz)] [(.int vz), (.int (own_eqv (own_same nA cA dA nB cB dB) (own_same mA eA fA mB eB fB) wA wB lA lB))])) _
        exact k
      have hd183 : (own_eqv (own_same nA cA dA nB cB dB) (own_same mA eA fA mB eB fB) wA wB lA lB) = vz := hj139.symm
      obtain ⟨cq185, kq185, q185a, q185b, q185c⟩ := isOf hZ135 hh179 Ex135
      obtain ⟨_, _, ⟨T184, L184, k184, n184⟩, -, X184, ⟨Lc184, hQ184, l184, y184, z184⟩, st184⟩ := X179.virtualBack hx (y := (⟨"com/example/netmark/netmark/rules/NettingAgreement", "equals", "(Ljava/lang/Object;)Z"⟩ : MethodName)) (z := (⟨"com/example/netmark/netmark/rules/NettingAgreement", "equals", "(Ljava/lang/Object;)Z"⟩ : MethodName)) hown135 (mvT hZ135 (hw _ (List.mem_of_getElem? (i := 70) rfl))) (mvT hZ135 (hw _ (List.mem_of_getElem? (i := 71) rfl))) (notFace_of_selects (args := #[]) (mvT hZ135 (hw _ (List.mem_of_getElem? (i := 73) rfl)))) (mvT hZ135 (hw _ (List.mem_of_getElem? (i := 73) rfl))) (mvT hZ135 (hw _ (List.mem_of_getElem? (i := 72) rfl))) (by decide) (backOf (W := 0) (rm_eqA l Z a0 hw [] b111 b71 b119 vb119 kb119 nB cB dB b123 vb123 kb123 mB eB fB b79 vb79 kb79 nA cA dA b83 vb83 kb83 mA eA fA wB lB wA lA vcs T135.heap n0 Zp137 Fx135_0 Fc165 Fc166 Fc167 Fc169 l_nB r_cB r_dB Fx135_1 Fc170 Fc171 Fc172 Fc173 l_mB r_eB r_fB Fc150 Fc151 Fc153 Fc154 Fc157 l_nA r_cA r_dA Fc158 Fc159 Fc161 Fc162 Fc164 l_mA r_eA r_fA Fx135_2 Fx135_3 Fc174 Fc175 Fc181 (Ne.symm (Nat.ne_of_lt (Nat.lt_of_lt_of_le (Fc176).lt sz_b119))) (Ne.symm (Nat.ne_of_lt (Nat.lt_of_lt_of_le (Fc177).lt sz_b123))) Fc178 hcs) hZ135 (hw _ (List.mem_of_getElem? (i := 74) rfl)) (hw _ (List.mem_of_getElem? (i := 6) rfl)) (by decide) (by decide)) q185a q185c (g := (mkF m 480 #[.val (.int va), .val (.int vb), .val (.int vc), .val (.int vd), .val (.int ve), .val (.int nA), .val (.int cA), .val (.int dA), .val (.int wA), .val (.int lA), .val (.int mA), .val (.int eA), .val (.int fA), .val (.int nid), .val (.int nB), .val (.int cB), .val (.int dB), .val (.int ncp), .val (.int mB), .val (.int eB), .val (.int fB), .val (.int wB), .val (.int lB), .val (.int kd), .val (.ref b71), .val (.ref b111), .val (.int vz)] [(.ref b71), (.ref b111)])) rfl (by rw [hml]; rfl) (Steps.refl _) (argsL := [(.ref b71)]) (rest := []) (lenOf own_pd8 rfl) rfl (by show 2 * 0 + _ ≤ _; exact Nat.le_of_eq rfl) (hb hby at_480) (fun _ _ => ⟨rfl, hh179, (by decide : 34 + 0 ≤ _), (by decide : 200 + 0 ≤ _)⟩)
      dsimp only [Pt.U, Pt.locs, Pt.cells, Pt.slots] at X184 l184 y184 z184 st184 hQ184
      subst l184 y184 z184
      obtain ⟨rfl, Nq184, hh184⟩ := hQ184
      have Nf184 := Fr.app Nf179 Nq184
      have pre186 : ∀ t, Steps p.tables e below (T184.setTop (mkF m 485 #[.val (.int va), .val (.int vb), .val (.int vc), .val (.int vd), .val (.int ve), .val (.int nA), .val (.int cA), .val (.int dA), .val (.int wA), .val (.int lA), .val (.int mA), .val (.int eA), .val (.int fA), .val (.int nid), .val (.int nB), .val (.int cB), .val (.int dB), .val (.int ncp), .val (.int mB), .val (.int eB), .val (.int fB), .val (.int wB), .val (.int lB), .val (.int kd), .val (.ref b71), .val (.ref b111), .val (.int vz)] [(.int vz), (.int (own_eqv (own_same nB cB dB nA cA dA) (own_same mB eB fB mA eA fA) wB wA lB lA))])) t → Steps p.tables e below (s₁.setTop (entryFrame m #[(.int va), (.int vb), (.int vc), (.int vd), (.int ve)] maxLocals)) t := by
        intro t k
        refine pre182 t ?_
        show Steps p.tables e below (T179.setTop (mkF m 473 #[.val (.int va), .val (.int vb), .val (.int vc), .val (.int vd), .val (.int ve), .val (.int nA), .val (.int cA), .val (.int dA), .val (.int wA), .val (.int lA), .val (.int mA), .val (.int eA), .val (.int fA), .val (.int nid), .val (.int nB), .val (.int cB), .val (.int dB), .val (.int ncp), .val (.int mB), .val (.int eB), .val (.int fB), .val (.int wB), .val (.int lB), .val (.int kd), .val (.ref b71), .val (.ref b111), .val (.int vz)] [(.int vz), (.int (own_eqv (own_same nA cA dA nB cB dB) (own_same mA eA fA mB eB fB) wA wB lA lB))])) _
        refine XS.icmpNo X179.here hx rfl (hb hby at_473) rfl (teq hd183).2 ?_
        show Steps p.tables e below (T179.setTop (mkF m 476 #[.val (.int va), .val (.int vb), .val (.int vc), .val (.int vd), .val (.int ve), .val (.int nA), .val (.int cA), .val (.int dA), .val (.int wA), .val (.int lA), .val (.int mA), .val (.int eA), .val (.int fA), .val (.int nid), .val (.int nB), .val (.int cB), .val (.int dB), .val (.int ncp), .val (.int mB), .val (.int eB), .val (.int fB), .val (.int wB), .val (.int lB), .val (.int kd), .val (.ref b71), .val (.ref b111), .val (.int vz)] [])) _
        refine XS.aload X179.here hx rfl (hb hby at_476) rfl rfl ?_
        show Steps p.tables e below (T179.setTop (mkF m 478 #[.val (.int va), .val (.int vb), .val (.int vc), .val (.int vd), .val (.int ve), .val (.int nA), .val (.int cA), .val (.int dA), .val (.int wA), .val (.int lA), .val (.int mA), .val (.int eA), .val (.int fA), .val (.int nid), .val (.int nB), .val (.int cB), .val (.int dB), .val (.int ncp), .val (.int mB), .val (.int eB), .val (.int fB), .val (.int wB), .val (.int lB), .val (.int kd), .val (.ref b71), .val (.ref b111), .val (.int vz)] [(.ref b111)])) _
        refine XS.aload X179.here hx rfl (hb hby at_478) rfl rfl ?_
        show Steps p.tables e below (T179.setTop (mkF m 480 #[.val (.int va), .val (.int vb), .val (.int vc), .val (.int vd), .val (.int ve), .val (.int nA), .val (.int cA), .val (.int dA), .val (.int wA), .val (.int lA), .val (.int mA), .val (.int eA), .val (.int fA), .val (.int nid), .val (.int nB), .val (.int cB), .val (.int dB), .val (.int ncp), .val (.int mB), .val (.int eB), .val (.int fB), .val (.int wB), .val (.int lB), .val (.int kd), .val (.ref b71), .val (.ref b111), .val (.int vz)] [(.ref b71), (.ref b111)])) _
        refine st184.trans ?_
        show Steps p.tables e below (T184.setTop (mkF m 483 #[.val (.int va), .val (.int vb), .val (.int vc), .val (.int vd), .val (.int ve), .val (.int nA), .val (.int cA), .val (.int dA), .val (.int wA), .val (.int lA), .val (.int mA), .val (.int eA), .val (.int fA), .val (.int nid), .val (.int nB), .val (.int cB), .val (.int dB), .val (.int ncp), .val (.int mB), .val (.int eB), .val (.int fB), .val (.int wB), .val (.int lB), .val (.int kd), .val (.ref b71), .val (.ref b111), .val (.int vz)] [(.int (own_eqv (own_same nB cB dB nA cA dA) (own_same mB eB fB mA eA fA) wB wA lB lA))])) _
        refine XS.iload X184.here hx rfl (hb hby at_483) rfl ?_
        show Steps p.tables e below (T184.setTop (mkF m 485 #[.val (.int va), .val (.int vb), .val (.int vc), .val (.int vd), .val (.int ve), .val (.int nA), .val (.int cA), .val (.int dA), .val (.int wA), .val (.int lA), .val (.int mA), .val (.int eA), .val (.int fA), .val (.int nid), .val (.int nB), .val (.int cB), .val (.int dB), .val (.int ncp), .val (.int mB), .val (.int eB), .val (.int fB), .val (.int wB), .val (.int lB), .val (.int kd), .val (.ref b71), .val (.ref b111), .val (.int vz)] [(.int vz), (.int (own_eqv (own_same nB cB dB nA cA dA) (own_same mB eB fB mA eA fA) wB wA lB lA))])) _
        exact k
      have hd187 : (own_eqv (own_same nB cB dB nA cA dA) (own_same mB eB fB mA eA fA) wB wA lB lA) = vz := (own_eqv_symm _ _ _ _ _ _ _ _ _ _ _ _ _ _ _ _).trans hj139.symm
      obtain ⟨fs, hr, hrun, hended, hREW⟩ := X184.leaveW (s := s) (vm₁ := T135.vm) hS135 (by rw [hh184]; exact (Nat.le_refl _)) (v := some (.int (1 : Int32))) (fun h => by rw [Bd.returns] at h; cases h)
      refine ⟨_, _, pre186 _ ?_, hrun, hended, _, _, rfl, ?_, ?_, hREW.1, hREW.2.1, hREW.2.2.1, hREW.2.2.2.mono (by decide) (by decide)⟩
      · show Steps p.tables e below (T184.setTop (mkF m 485 #[.val (.int va), .val (.int vb), .val (.int vc), .val (.int vd), .val (.int ve), .val (.int nA), .val (.int cA), .val (.int dA), .val (.int wA), .val (.int lA), .val (.int mA), .val (.int eA), .val (.int fA), .val (.int nid), .val (.int nB), .val (.int cB), .val (.int dB), .val (.int ncp), .val (.int mB), .val (.int eB), .val (.int fB), .val (.int wB), .val (.int lB), .val (.int kd), .val (.ref b71), .val (.ref b111), .val (.int vz)] [(.int vz), (.int (own_eqv (own_same nB cB dB nA cA dA) (own_same mB eB fB mA eA fA) wB wA lB lA))])) _
        refine XS.icmpNo X184.here hx rfl (hb hby at_485) rfl (teq hd187).2 ?_
        show Steps p.tables e below (T184.setTop (mkF m 488 #[.val (.int va), .val (.int vb), .val (.int vc), .val (.int vd), .val (.int ve), .val (.int nA), .val (.int cA), .val (.int dA), .val (.int wA), .val (.int lA), .val (.int mA), .val (.int eA), .val (.int fA), .val (.int nid), .val (.int nB), .val (.int cB), .val (.int dB), .val (.int ncp), .val (.int mB), .val (.int eB), .val (.int fB), .val (.int wB), .val (.int lB), .val (.int kd), .val (.ref b71), .val (.ref b111), .val (.int vz)] [])) _
        refine XS.iconst X184.here hx rfl (hb hby at_488) ?_
        show Steps p.tables e below (T184.setTop (mkF m 489 #[.val (.int va), .val (.int vb), .val (.int vc), .val (.int vd), .val (.int ve), .val (.int nA), .val (.int cA), .val (.int dA), .val (.int wA), .val (.int lA), .val (.int mA), .val (.int eA), .val (.int fA), .val (.int nid), .val (.int nB), .val (.int cB), .val (.int dB), .val (.int ncp), .val (.int mB), .val (.int eB), .val (.int fB), .val (.int wB), .val (.int lB), .val (.int kd), .val (.ref b71), .val (.ref b111), .val (.int vz)] [(.int (1 : Int32))])) _
        refine XS.goto X184.here hx rfl (pc0 := 489) (pc' := 493) rfl (hb hby at_489) (by decide) (by decide) ?_
        show Steps p.tables e below (T184.setTop (mkF m 493 #[.val (.int va), .val (.int vb), .val (.int vc), .val (.int vd), .val (.int ve), .val (.int nA), .val (.int cA), .val (.int dA), .val (.int wA), .val (.int lA), .val (.int mA), .val (.int eA), .val (.int fA), .val (.int nid), .val (.int nB), .val (.int cB), .val (.int dB), .val (.int ncp), .val (.int mB), .val (.int eB), .val (.int fB), .val (.int wB), .val (.int lB), .val (.int kd), .val (.ref b71), .val (.ref b111), .val (.int vz)] [(.int (1 : Int32))])) _
        exact retN X184 hx (t := .boolean) Bd.returns (by simp) (hb hby at_493) hr
      · show Q0 Z va vb vc vd ve vcs h0 n0 _ T184.heap _
        rw [hh184]
        exact ⟨rfl, Nf184⟩
      · show CHr Z own_EL s.vm s.heap T184.vm T184.heap
        rw [hh, hh184]
        exact CC136.trans (CHv.at (s := s) (vm0 := T135.vm) X184 hZ135 (own_ew hw) CC136.1)
set_option maxRecDepth 65536 in
set_option maxHeartbeats 40000000 in
theorem comes_1 {Post : Tables → Env → Array Value → State → Outcome → State → Prop} (hpost : ∀ tb e args s v u, (limb_1_1.after args s (.returned v) u = true ∧ limb_1_2.after args s (.returned v) u = true ∧ True) → ReturnedEndW s (.returned v) u (Jvm.fieldLocs frame_1_writes args s ++ Jvm.arrayLocs frame_1_arrays args s ++ Jvm.staticLocs frame_1_statics s) 48 3264 → Post tb e args s (.returned v) u) :
    ArmFor flags0 classFile x code maxLocals ret World_1 tables_1 room_1 Calls_1 rest_1 Pre_1 Post := by
  intro l hfl _ _ p e ha hc hk s m args below hf hA hF happ hP
  obtain ⟨hcalls, hrest, hpre⟩ := hP
  obtain ⟨-, -, -, hnamed, -, -, -, hat⟩ := (Spec.applies_iff hf).mp happ
  obtain ⟨hg, hn⟩ := and_e (Cond.before_iff.mp (show (Jvm.Cond.and given_1 narrow_1).before args s = true from hpre))
  obtain ⟨ga1, gb1⟩ := and_e hg
  obtain ⟨ga2, gb2⟩ := and_e gb1
  obtain ⟨ga3, gb3⟩ := and_e gb2
  obtain ⟨ga4, gb4⟩ := and_e gb3
  obtain ⟨ga5, gb5⟩ := and_e gb4
  obtain ⟨w0, w1, w2, w3, w4, rfl⟩ : ∃ w0 w1 w2 w3 w4 : Value, args = #[w0, w1, w2, w3, w4] := by
    have hs : args.size = 5 := by simpa [Cond.value, given_1] using ga1
    obtain ⟨L⟩ := args
    match L, hs with
    | [w0, w1, w2, w3, w4], _ => exact ⟨w0, w1, w2, w3, w4, rfl⟩
  have hw := fun d (hd : d ∈ tables_1) => atoms_spec (ws := Jvm.Cond.code x code maxLocals ret :: tables_1) hat d (List.mem_cons_of_mem _ hd)
  have hfit : Fit s := fun {y c} hc i hi => by
    obtain ⟨ha, rfl⟩ := Array.getElem?_eq_some_iff.mp hc
    have q := List.all_eq_true.mp ((Array.all_eq_true_iff_forall_mem.mp hF) _ (Array.getElem_mem ha)) i (List.mem_range.mpr hi)
    simpa [Array.getElem?_eq_getElem hi] using q
  obtain ⟨i0, ei0⟩ := is_v ga2
  obtain rfl : w0 = (.int i0) := Option.some.inj ei0
  obtain ⟨i1, ei1⟩ := is_v ga3
  obtain rfl : w1 = (.int i1) := Option.some.inj ei1
  obtain ⟨i2, ei2⟩ := is_v ga4
  obtain rfl : w2 = (.int i2) := Option.some.inj ei2
  obtain ⟨i3, ei3⟩ := is_v ga5
  obtain rfl : w3 = (.int i3) := Option.some.inj ei3
  obtain ⟨i4, ei4⟩ := is_v gb5
  obtain rfl : w4 = (.int i4) := Option.some.inj ei4
  obtain ⟨hsets, hown0⟩ := atoms_of _ (rest_1_c_eq ▸ (show rest_1_c.before _ s = true from hrest))
  obtain ⟨vcs, evcs⟩ := is_v (Cond.before_iff.mp (hsets _ (List.mem_of_getElem? (i := 1) rfl)))
  have S_cs := Sta.start evcs (Or.inl (hsets _ (List.mem_of_getElem? (i := 0) rfl)))
  have hcs : ¬ vcs = 0 := gotF (Cond.eq_ints evcs (Term.int_eval 0)) (not_v (Cond.before_iff.mp (hsets _ (List.mem_of_getElem? (i := 2) rfl))))
  have hCH : CHv s own_EL s.vm s.heap := CHv.start (own_ew hw) (own_held hcalls) (hsets _ (List.mem_of_getElem? (i := 2) rfl)) (hw _ (List.mem_of_getElem? (i := 30) rfl)) (hw _ (List.mem_of_getElem? (i := 12) rfl))
  obtain ⟨n, o, h1, h2, h3, _, L, rfl, ⟨rfl, N⟩, -, hq⟩ := rm0 l s _ hw tables_1 i0 i1 i2 i3 i4 vcs s.heap s.heap.size (Nat.le_refl _) S_cs hcs p e ha hc hk s m _ below hf ((Spec.applies_iff_loose hf).mp happ).1 ⟨rfl, State.Warmed39.refl s, rfl, hCH⟩ trivial
  refine ⟨n, _, h1, h2, h3, hpost _ _ _ _ _ _ ⟨Cond.after_iff.mpr rfl, Cond.after_iff.mpr (eq_i res_at (Term.int_eval (1)) rfl), trivial⟩ ⟨hq.1, hq.2.1, hq.2.2.1, (hq.2.2.2.sift fun y hy => Or.inr (N y hy)).mono (by decide) (by decide)⟩⟩
theorem main_1_1 : Claimed_1_1 := comes_1 fun _ _ _ _ _ _ h hF => ⟨h.1, hF⟩
theorem main_1_2 : Claimed_1_2 := comes_1 fun _ _ _ _ _ _ h hF => ⟨h.2.1, hF⟩
end Jvm.Pilot.@@N@@
namespace Jvm.Pilot.@@N@@
open Jvm Jvm.ClassFile Sem Op Lib Jvm.Free Jvm.Stand Jvm.Pilot.@@N@@.Jvm.D
/-! MADE BY PROGRAM (witnessworld.py) out of the Statement's table words and the real class files: 22 classes; the members and pool entries that the words name. The judged class is class 1, her method 3. -/
namespace start1
open Jvm.ClassFile
def u (s : String) : CpInfo := .utf8 (stringToUtf16 s)
/-- a pool by its gaps: so many unusable entries, then the entry; so many at the end -/
def gap : Nat → List CpInfo → List CpInfo
  | 0, r => r
  | n + 1, r => .unusable :: gap n r
def poolList (es : List (Nat × CpInfo)) (last : Nat) : List CpInfo := es.foldr (fun e r => gap e.1 (e.2 :: r)) (gap last [])
def pool (es : List (Nat × CpInfo)) (last : Nat) : Array CpInfo := ⟨poolList es last⟩
def fileOf (pool : Array CpInfo) (this : Nat) (attrs : Array Attribute := #[]) (ms : Array MethodInfo := #[]) (fl : Nat := 33) (sup : Nat := 0) (ifs : Array Nat := #[]) (fds : Array FieldInfo := #[]) : ClassFile where
  minorVersion := 0
  majorVersion := 65
  constantPool := pool
  accessFlags := fl
  thisClass := this
  superClass := sup
  interfaces := ifs
  fields := fds
  methods := ms
  attributes := attrs
def plain (name : String) (sup : Option ClassId) : Class where
  name := name
  kind := .ordinary
  loader := none
  accessFlags := 33
  super := sup
  interfaces := #[]
  cf := none
  fields := #[]
  methods := #[]
  instanceTypes := #[]
  staticTypes := #[]
  resolved := #[]
  callSites := []
  init := .initialized
  statics := none
  mirror := none

def pool0 : Array CpInfo := pool [(5, u "<init>"), (0, u "()V"), (1, .class_ 10), (1, u "java/lang/Object")] 113

def k0c0 : Code := { maxStack := 0, maxLocals := 1, code := object_method_1_code, exceptionTable := #[], attributes := #[] }
def k0m0 : Method := { name := "<init>", desc := "()V", sig := { parameters := [], returnType := none }, accessFlags := 1, code := some k0c0 }
/-- java/lang/Object -/
def k0 : Class := { plain "java/lang/Object" none with
  accessFlags := 33
  interfaces := #[]
  cf := some (fileOf pool0 8 #[] #[{ accessFlags := 1, nameIndex := 5, descriptorIndex := 6, attributes := #[] }] 33 0 #[] #[])
  fields := #[]
  methods := #[k0m0]
  instanceTypes := #[]
  staticTypes := #[]
  resolved := Array.replicate 124 none
  statics := none }

def pool1 : Array CpInfo := pool [(2, .class_ 4), (1, u "java/lang/Object"), (0, u "<init>"), (0, u "()V"), (0, .class_ 8), (0, u "java/lang/String"), (0, .methodref 7 10), (0, .nameAndType 5 11), (0, u "([C)V"), (0, .methodref 13 14), (0, .class_ 15), (0, .nameAndType 16 17), (0, u "java/lang/Math"), (0, u "min"), (0, u "(II)I"), (0, .class_ 19), (0, u "com/example/netmark/netmark/rules/NettingAgreement"), (0, .methodref 21 22), (0, .class_ 23), (0, .nameAndType 24 25), (0, u "com/example/netmark/netmark/rules/NettingAgreementEqualsPinLaw"), (0, u "mk"), (0, u "(ICC)Ljava/lang/String;"), (0, .methodref 18 27), (0, .nameAndType 5 28), (0, u "(Ljava/lang/String;Ljava/lang/String;ZZ)V"), (0, .methodref 18 30), (0, .nameAndType 31 32), (0, u "equals"), (0, u "(Ljava/lang/Object;)Z"), (0, .methodref 21 34), (0, .nameAndType 35 36), (0, u "same"), (0, u "(ICCICC)Z"), (3, u "law"), (0, u "(IIIII)Z")] 2

def k1m0 : Method := { name := "<init>", desc := "()V", sig := { parameters := [], returnType := none }, accessFlags := 1, code := none }
def k1c1 : Code := { maxStack := 6, maxLocals := 3, code := method_2_code, exceptionTable := #[], attributes := #[] }
def k1m1 : Method := { name := "mk", desc := "(ICC)Ljava/lang/String;", sig := { parameters := [.int, .char, .char], returnType := some (.object "java/lang/String") }, accessFlags := 10, code := some k1c1 }
def k1c2 : Code := { maxStack := 2, maxLocals := 6, code := method_3_code, exceptionTable := #[], attributes := #[] }
def k1m2 : Method := { name := "same", desc := "(ICCICC)Z", sig := { parameters := [.int, .char, .char, .int, .char, .char], returnType := some .boolean }, accessFlags := 10, code := some k1c2 }
def k1c3 : Code := { maxStack := 6, maxLocals := 27, code := code, exceptionTable := #[], attributes := #[] }
def k1m3 : Method := { name := "law", desc := "(IIIII)Z", sig := { parameters := [.int, .int, .int, .int, .int], returnType := some .boolean }, accessFlags := 9, code := some k1c3 }
/-- com/example/netmark/netmark/rules/NettingAgreementEqualsPinLaw -/
def k1 : Class := { plain "com/example/netmark/netmark/rules/NettingAgreementEqualsPinLaw" (some 0) with
  accessFlags := 49
  interfaces := #[]
  cf := some (fileOf pool1 21 #[] #[{ accessFlags := 1, nameIndex := 5, descriptorIndex := 6, attributes := #[] }, { accessFlags := 10, nameIndex := 24, descriptorIndex := 25, attributes := #[] }, { accessFlags := 10, nameIndex := 35, descriptorIndex := 36, attributes := #[] }, { accessFlags := 9, nameIndex := 40, descriptorIndex := 41, attributes := #[] }] 49 2 #[] #[])
  fields := #[]
  methods := #[k1m0, k1m1, k1m2, k1m3]
  instanceTypes := #[]
  staticTypes := #[]
  resolved := Array.replicate 44 none
  statics := none }

def pool2 : Array CpInfo := pool [(1, .class_ 2), (0, u "java/lang/Math"), (1, .class_ 6), (1, u "java/lang/Object"), (0, u "<init>"), (0, u "()V"), (89, .class_ 100), (1, u "java/lang/Math$RandomNumberGeneratorHolder"), (71, u "negativeZeroFloatBits"), (0, u "J"), (2, u "negativeZeroDoubleBits"), (24, u "min"), (43, u "$assertionsDisabled"), (0, u "Z"), (88, u "(II)I"), (2, u "twoToTheDoubleScaleDown"), (0, u "D"), (4, u "twoToTheDoubleScaleUp"), (9, u "E"), (3, u "PI"), (2, u "TAU"), (2, u "DEGREES_TO_RADIANS"), (0, u "RADIANS_TO_DEGREES")] 94

def k2m0 : Method := { name := "<init>", desc := "()V", sig := { parameters := [], returnType := none }, accessFlags := 2, code := none }
def k2c1 : Code := { maxStack := 2, maxLocals := 2, code := jdk_29_method_69_code, exceptionTable := #[], attributes := #[] }
def k2m1 : Method := { name := "min", desc := "(II)I", sig := { parameters := [.int, .int], returnType := some .int }, accessFlags := 9, code := some k2c1 }
/-- java/lang/Math -/
def k2 : Class := { plain "java/lang/Math" (some 0) with
  accessFlags := 49
  interfaces := #[]
  cf := some (fileOf pool2 1 #[.nestMembers #[98]] #[{ accessFlags := 2, nameIndex := 7, descriptorIndex := 8, attributes := #[] }, { accessFlags := 9, nameIndex := 201, descriptorIndex := 335, attributes := #[] }] 49 4 #[] #[{ accessFlags := 25, nameIndex := 354, descriptorIndex := 339, attributes := #[] }, { accessFlags := 25, nameIndex := 358, descriptorIndex := 339, attributes := #[] }, { accessFlags := 25, nameIndex := 361, descriptorIndex := 339, attributes := #[] }, { accessFlags := 26, nameIndex := 364, descriptorIndex := 339, attributes := #[] }, { accessFlags := 26, nameIndex := 365, descriptorIndex := 339, attributes := #[] }, { accessFlags := 26, nameIndex := 172, descriptorIndex := 173, attributes := #[] }, { accessFlags := 26, nameIndex := 176, descriptorIndex := 173, attributes := #[] }, { accessFlags := 8, nameIndex := 344, descriptorIndex := 339, attributes := #[] }, { accessFlags := 8, nameIndex := 338, descriptorIndex := 339, attributes := #[] }, { accessFlags := 4120, nameIndex := 245, descriptorIndex := 246, attributes := #[] }])
  fields := #[{ name := "E", type := .double, accessFlags := 25, slot := 0, constantValue := 0 }, { name := "PI", type := .double, accessFlags := 25, slot := 1, constantValue := 0 }, { name := "TAU", type := .double, accessFlags := 25, slot := 2, constantValue := 0 }, { name := "DEGREES_TO_RADIANS", type := .double, accessFlags := 26, slot := 3, constantValue := 0 }, { name := "RADIANS_TO_DEGREES", type := .double, accessFlags := 26, slot := 4, constantValue := 0 }, { name := "negativeZeroFloatBits", type := .long, accessFlags := 26, slot := 5, constantValue := 0 }, { name := "negativeZeroDoubleBits", type := .long, accessFlags := 26, slot := 6, constantValue := 0 }, { name := "twoToTheDoubleScaleUp", type := .double, accessFlags := 8, slot := 7, constantValue := 0 }, { name := "twoToTheDoubleScaleDown", type := .double, accessFlags := 8, slot := 8, constantValue := 0 }, { name := "$assertionsDisabled", type := .boolean, accessFlags := 4120, slot := 9, constantValue := 0 }]
  methods := #[k2m0, k2m1]
  instanceTypes := #[]
  staticTypes := #[.double, .double, .double, .double, .double, .long, .long, .double, .double, .boolean]
  resolved := Array.replicate 460 none
  statics := none }

def pool3 : Array CpInfo := pool [(1, .methodref 2 3), (0, .class_ 4), (0, .nameAndType 5 6), (0, u "java/lang/Object"), (0, u "<init>"), (0, u "()V"), (0, .string 8), (0, u "id"), (0, .methodref 10 11), (0, .class_ 12), (0, .nameAndType 13 14), (0, u "java/util/Objects"), (0, u "requireNonNull"), (0, u "(Ljava/lang/Object;Ljava/lang/String;)Ljava/lang/Object;"), (0, .string 16), (0, u "counterpartyId"), (0, .methodref 18 19), (0, .class_ 20), (0, .nameAndType 21 22), (0, u "java/lang/String"), (0, u "isEmpty"), (0, u "()Z"), (7, .fieldref 31 32), (0, .class_ 33), (0, .nameAndType 8 34), (0, u "com/example/netmark/netmark/rules/NettingAgreement"), (0, u "Ljava/lang/String;"), (0, .fieldref 31 36), (0, .nameAndType 16 34), (0, .fieldref 31 38), (0, .nameAndType 39 40), (0, u "walkawayClause"), (0, u "Z"), (0, .fieldref 31 42), (0, .nameAndType 43 40), (0, u "legallyEnforceable"), (2, u "(Ljava/lang/String;Ljava/lang/String;ZZ)V"), (0, .methodref 18 48), (0, .nameAndType 49 50), (0, u "equals"), (0, u "(Ljava/lang/Object;)Z")] 25

def k3c0 : Code := { maxStack := 3, maxLocals := 5, code := prog_36_method_1_code, exceptionTable := #[], attributes := #[] }
def k3m0 : Method := { name := "<init>", desc := "(Ljava/lang/String;Ljava/lang/String;ZZ)V", sig := { parameters := [(.object "java/lang/String"), (.object "java/lang/String"), .boolean, .boolean], returnType := none }, accessFlags := 1, code := some k3c0 }
def k3c1 : Code := { maxStack := 2, maxLocals := 3, code := prog_36_method_8_code, exceptionTable := #[], attributes := #[] }
def k3m1 : Method := { name := "equals", desc := "(Ljava/lang/Object;)Z", sig := { parameters := [(.object "java/lang/Object")], returnType := some .boolean }, accessFlags := 1, code := some k3c1 }
/-- com/example/netmark/netmark/rules/NettingAgreement -/
def k3 : Class := { plain "com/example/netmark/netmark/rules/NettingAgreement" (some 0) with
  accessFlags := 49
  interfaces := #[]
  cf := some (fileOf pool3 31 #[] #[{ accessFlags := 1, nameIndex := 5, descriptorIndex := 46, attributes := #[] }, { accessFlags := 1, nameIndex := 49, descriptorIndex := 50, attributes := #[] }] 49 2 #[] #[{ accessFlags := 18, nameIndex := 8, descriptorIndex := 34, attributes := #[] }, { accessFlags := 18, nameIndex := 16, descriptorIndex := 34, attributes := #[] }, { accessFlags := 18, nameIndex := 39, descriptorIndex := 40, attributes := #[] }, { accessFlags := 18, nameIndex := 43, descriptorIndex := 40, attributes := #[] }])
  fields := #[{ name := "id", type := (.object "java/lang/String"), accessFlags := 18, slot := 0, constantValue := 0 }, { name := "counterpartyId", type := (.object "java/lang/String"), accessFlags := 18, slot := 1, constantValue := 0 }, { name := "walkawayClause", type := .boolean, accessFlags := 18, slot := 2, constantValue := 0 }, { name := "legallyEnforceable", type := .boolean, accessFlags := 18, slot := 3, constantValue := 0 }]
  methods := #[k3m0, k3m1]
  instanceTypes := #[(.object "java/lang/String"), (.object "java/lang/String"), .boolean, .boolean]
  staticTypes := #[]
  resolved := Array.replicate 76 none
  statics := none }

def pool4 : Array CpInfo := pool [(1, .class_ 2), (0, u "java/io/Serializable"), (0, .class_ 4), (0, u "java/lang/Object")] 2

/-- java/io/Serializable -/
def k4 : Class := { plain "java/io/Serializable" (some 0) with
  accessFlags := 1537
  interfaces := #[]
  cf := some (fileOf pool4 1 #[] #[] 1537 3 #[] #[])
  fields := #[]
  methods := #[]
  instanceTypes := #[]
  staticTypes := #[]
  resolved := Array.replicate 7 none
  statics := none }

def pool5 : Array CpInfo := pool [(1, .class_ 2), (0, u "java/lang/Comparable"), (0, .class_ 4), (0, u "java/lang/Object")] 7

/-- java/lang/Comparable -/
def k5 : Class := { plain "java/lang/Comparable" (some 0) with
  accessFlags := 1537
  interfaces := #[]
  cf := some (fileOf pool5 1 #[] #[] 1537 3 #[] #[])
  fields := #[]
  methods := #[]
  instanceTypes := #[]
  staticTypes := #[]
  resolved := Array.replicate 12 none
  statics := none }

def pool6 : Array CpInfo := pool [(2, .class_ 4), (1, u "java/lang/CharSequence"), (42, .class_ 48), (0, u "java/lang/CharSequence$1CodePointIterator"), (10, .class_ 60), (0, u "java/lang/CharSequence$1CharIterator"), (5, .class_ 67), (0, u "java/lang/Object")] 63

/-- java/lang/CharSequence -/
def k6 : Class := { plain "java/lang/CharSequence" (some 0) with
  accessFlags := 1537
  interfaces := #[]
  cf := some (fileOf pool6 2 #[.nestMembers #[47, 59]] #[] 1537 66 #[] #[])
  fields := #[]
  methods := #[]
  instanceTypes := #[]
  staticTypes := #[]
  resolved := Array.replicate 131 none
  statics := none }

def pool7 : Array CpInfo := pool [(1, .class_ 2), (0, u "java/lang/constant/Constable"), (0, .class_ 4), (0, u "java/lang/Object")] 6

/-- java/lang/constant/Constable -/
def k7 : Class := { plain "java/lang/constant/Constable" (some 0) with
  accessFlags := 1537
  interfaces := #[]
  cf := some (fileOf pool7 1 #[] #[] 1537 3 #[] #[])
  fields := #[]
  methods := #[]
  instanceTypes := #[]
  staticTypes := #[]
  resolved := Array.replicate 11 none
  statics := none }

def pool8 : Array CpInfo := pool [(1, .class_ 2), (0, u "java/lang/constant/ConstantDesc"), (0, .class_ 4), (0, u "java/lang/Object")] 32

/-- java/lang/constant/ConstantDesc -/
def k8 : Class := { plain "java/lang/constant/ConstantDesc" (some 0) with
  accessFlags := 1537
  interfaces := #[]
  cf := some (fileOf pool8 1 #[] #[] 1537 3 #[] #[])
  fields := #[]
  methods := #[]
  instanceTypes := #[]
  staticTypes := #[]
  resolved := Array.replicate 37 none
  statics := none }

def pool9 : Array CpInfo := pool [(1, .methodref 2 3), (0, .class_ 4), (0, .nameAndType 5 6), (0, u "java/lang/Object"), (0, u "<init>"), (0, u "()V"), (0, .string 8), (0, u ""), (0, .fieldref 10 11), (0, .class_ 12), (0, .nameAndType 13 14), (0, u "java/lang/String"), (0, u "value"), (0, u "[B"), (0, .fieldref 10 16), (0, .nameAndType 17 18), (0, u "coder"), (0, u "B"), (2, u "hash"), (0, u "I"), (2, u "hashIsZero"), (0, u "Z"), (0, .methodref 10 28), (0, .nameAndType 5 29), (0, u "([CIILjava/lang/Void;)V"), (8, .fieldref 10 39), (0, .nameAndType 40 26), (0, u "COMPACT_STRINGS"), (1, .class_ 44), (1, u "java/lang/StringUTF16"), (0, u "compress"), (1, .methodref 42 48), (0, .nameAndType 49 50), (0, u "coderFromArrayLen"), (0, u "([BI)B"), (56, .class_ 109), (1, u "java/lang/StringLatin1"), (32, u "()Z"), (34, .methodref 42 178), (0, .nameAndType 45 179), (0, u "([CII)[B"), (361, .methodref 107 542), (0, .nameAndType 543 544), (0, u "equals"), (0, u "([B[B)Z"), (28, u "(Ljava/lang/Object;)Z"), (1, .class_ 576), (0, u "java/lang/CharSequence"), (22, u "CASE_INSENSITIVE_ORDER"), (0, u "Ljava/util/Comparator;"), (91, u "isEmpty"), (317, u "([C)V"), (90, u "serialPersistentFields"), (0, u "[Ljava/io/ObjectStreamField;"), (0, .class_ 1104), (0, u "java/lang/String$CaseInsensitiveComparator"), (1, .class_ 1107), (0, u "java/io/Serializable"), (0, .class_ 1109), (0, u "java/lang/Comparable"), (0, .class_ 1111), (0, u "java/lang/constant/Constable"), (0, .class_ 1113), (0, u "java/lang/constant/ConstantDesc"), (2, u "serialVersionUID"), (0, u "J"), (3, u "REPL"), (0, u "C"), (2, u "LATIN1"), (1, u "UTF16")] 323

def k9m0 : Method := { name := "<init>", desc := "()V", sig := { parameters := [], returnType := none }, accessFlags := 1, code := none }
def k9c1 : Code := { maxStack := 5, maxLocals := 2, code := jdk_42_method_3_code, exceptionTable := #[], attributes := #[] }
def k9m1 : Method := { name := "<init>", desc := "([C)V", sig := { parameters := [(.array .char)], returnType := none }, accessFlags := 1, code := some k9c1 }
def k9c2 : Code := { maxStack := 1, maxLocals := 1, code := jdk_42_method_55_code, exceptionTable := #[], attributes := #[] }
def k9m2 : Method := { name := "isEmpty", desc := "()Z", sig := { parameters := [], returnType := some .boolean }, accessFlags := 1, code := some k9c2 }
def k9c3 : Code := { maxStack := 2, maxLocals := 3, code := jdk_42_method_66_code, exceptionTable := #[], attributes := #[] }
def k9m3 : Method := { name := "equals", desc := "(Ljava/lang/Object;)Z", sig := { parameters := [(.object "java/lang/Object")], returnType := some .boolean }, accessFlags := 1, code := some k9c3 }
def k9c4 : Code := { maxStack := 4, maxLocals := 6, code := jdk_42_method_149_code, exceptionTable := #[], attributes := #[] }
def k9m4 : Method := { name := "<init>", desc := "([CIILjava/lang/Void;)V", sig := { parameters := [(.array .char), .int, .int, (.object "java/lang/Void")], returnType := none }, accessFlags := 2, code := some k9c4 }
/-- java/lang/String -/
def k9 : Class := { plain "java/lang/String" (some 0) with
  accessFlags := 49
  interfaces := #[4, 5, 6, 7, 8]
  cf := some (fileOf pool9 10 #[.nestMembers #[1103]] #[{ accessFlags := 1, nameIndex := 5, descriptorIndex := 6, attributes := #[] }, { accessFlags := 1, nameIndex := 5, descriptorIndex := 1010, attributes := #[] }, { accessFlags := 1, nameIndex := 692, descriptorIndex := 142, attributes := #[] }, { accessFlags := 1, nameIndex := 543, descriptorIndex := 573, attributes := #[] }, { accessFlags := 2, nameIndex := 5, descriptorIndex := 29, attributes := #[] }] 49 2 #[1106, 1108, 575, 1110, 1112] #[{ accessFlags := 18, nameIndex := 13, descriptorIndex := 14, attributes := #[] }, { accessFlags := 18, nameIndex := 17, descriptorIndex := 18, attributes := #[] }, { accessFlags := 2, nameIndex := 21, descriptorIndex := 22, attributes := #[] }, { accessFlags := 2, nameIndex := 25, descriptorIndex := 26, attributes := #[] }, { accessFlags := 26, nameIndex := 1116, descriptorIndex := 1117, attributes := #[] }, { accessFlags := 24, nameIndex := 40, descriptorIndex := 26, attributes := #[] }, { accessFlags := 26, nameIndex := 1101, descriptorIndex := 1102, attributes := #[] }, { accessFlags := 26, nameIndex := 1121, descriptorIndex := 1122, attributes := #[] }, { accessFlags := 25, nameIndex := 599, descriptorIndex := 600, attributes := #[] }, { accessFlags := 24, nameIndex := 1125, descriptorIndex := 18, attributes := #[] }, { accessFlags := 24, nameIndex := 1127, descriptorIndex := 18, attributes := #[] }])
  fields := #[{ name := "value", type := (.array .byte), accessFlags := 18, slot := 0, constantValue := 0 }, { name := "coder", type := .byte, accessFlags := 18, slot := 1, constantValue := 0 }, { name := "hash", type := .int, accessFlags := 2, slot := 2, constantValue := 0 }, { name := "hashIsZero", type := .boolean, accessFlags := 2, slot := 3, constantValue := 0 }, { name := "serialVersionUID", type := .long, accessFlags := 26, slot := 0, constantValue := 0 }, { name := "COMPACT_STRINGS", type := .boolean, accessFlags := 24, slot := 1, constantValue := 0 }, { name := "serialPersistentFields", type := (.array (.object "java/io/ObjectStreamField")), accessFlags := 26, slot := 2, constantValue := 0 }, { name := "REPL", type := .char, accessFlags := 26, slot := 3, constantValue := 0 }, { name := "CASE_INSENSITIVE_ORDER", type := (.object "java/util/Comparator"), accessFlags := 25, slot := 4, constantValue := 0 }, { name := "LATIN1", type := .byte, accessFlags := 24, slot := 5, constantValue := 0 }, { name := "UTF16", type := .byte, accessFlags := 24, slot := 6, constantValue := 0 }]
  methods := #[k9m0, k9m1, k9m2, k9m3, k9m4]
  instanceTypes := #[(.array .byte), .byte, .int, .boolean]
  staticTypes := #[.long, .boolean, (.array (.object "java/io/ObjectStreamField")), .char, (.object "java/util/Comparator"), .byte, .byte]
  resolved := Array.replicate 1451 none
  statics := some 0 }

def pool10 : Array CpInfo := pool [(6, .class_ 8), (1, u "java/lang/Object"), (0, u "<init>"), (0, u "()V"), (1, .class_ 14), (1, u "java/lang/StringUTF16"), (31, u "$assertionsDisabled"), (0, u "Z"), (13, u "HI_BYTE_SHIFT"), (0, u "I"), (2, u "LO_BYTE_SHIFT"), (49, .methodref 12 116), (0, .nameAndType 117 118), (0, u "compress"), (0, u "([CI[BII)I"), (3, u "([CII)[B"), (138, u "coderFromArrayLen"), (0, u "([BI)B"), (106, .class_ 371), (1, u "java/lang/StringUTF16$LinesSpliterator"), (58, u "MAX_LENGTH"), (196, .class_ 628), (0, u "java/lang/StringUTF16$CodePointsSpliterator"), (0, .class_ 630), (0, u "java/lang/StringUTF16$CharsSpliterator")] 4

def k10m0 : Method := { name := "<init>", desc := "()V", sig := { parameters := [], returnType := none }, accessFlags := 0, code := none }
def k10c1 : Code := { maxStack := 2, maxLocals := 2, code := jdk_52_method_15_code, exceptionTable := #[], attributes := #[] }
def k10m1 : Method := { name := "coderFromArrayLen", desc := "([BI)B", sig := { parameters := [(.array .byte), .int], returnType := some .byte }, accessFlags := 8, code := some k10c1 }
def k10c2 : Code := { maxStack := 5, maxLocals := 6, code := jdk_52_method_16_code, exceptionTable := #[], attributes := #[] }
def k10m2 : Method := { name := "compress", desc := "([CII)[B", sig := { parameters := [(.array .char), .int, .int], returnType := some (.array .byte) }, accessFlags := 9, code := some k10c2 }
def k10c3 : Code := { maxStack := 3, maxLocals := 7, code := jdk_52_method_21_code, exceptionTable := #[], attributes := #[] }
def k10m3 : Method := { name := "compress", desc := "([CI[BII)I", sig := { parameters := [(.array .char), .int, (.array .byte), .int, .int], returnType := some .int }, accessFlags := 9, code := some k10c3 }
/-- java/lang/StringUTF16 -/
def k10 : Class := { plain "java/lang/StringUTF16" (some 0) with
  accessFlags := 48
  interfaces := #[]
  cf := some (fileOf pool10 12 #[.nestMembers #[627, 629, 369]] #[{ accessFlags := 0, nameIndex := 9, descriptorIndex := 10, attributes := #[] }, { accessFlags := 8, nameIndex := 261, descriptorIndex := 262, attributes := #[] }, { accessFlags := 9, nameIndex := 117, descriptorIndex := 122, attributes := #[] }, { accessFlags := 9, nameIndex := 117, descriptorIndex := 118, attributes := #[] }] 48 6 #[] #[{ accessFlags := 26, nameIndex := 61, descriptorIndex := 62, attributes := #[] }, { accessFlags := 26, nameIndex := 65, descriptorIndex := 62, attributes := #[] }, { accessFlags := 24, nameIndex := 430, descriptorIndex := 62, attributes := #[] }, { accessFlags := 4120, nameIndex := 46, descriptorIndex := 47, attributes := #[] }])
  fields := #[{ name := "HI_BYTE_SHIFT", type := .int, accessFlags := 26, slot := 0, constantValue := 0 }, { name := "LO_BYTE_SHIFT", type := .int, accessFlags := 26, slot := 1, constantValue := 0 }, { name := "MAX_LENGTH", type := .int, accessFlags := 24, slot := 2, constantValue := 0 }, { name := "$assertionsDisabled", type := .boolean, accessFlags := 4120, slot := 3, constantValue := 0 }]
  methods := #[k10m0, k10m1, k10m2, k10m3]
  instanceTypes := #[]
  staticTypes := #[.int, .int, .int, .boolean]
  resolved := Array.replicate 635 none
  statics := none }

def pool11 : Array CpInfo := pool [(2, .class_ 4), (1, u "java/lang/Object"), (0, u "<init>"), (0, u "()V"), (35, .class_ 44), (1, u "java/util/Objects"), (0, u "requireNonNull"), (48, u "(Ljava/lang/Object;Ljava/lang/String;)Ljava/lang/Object;")] 89

def k11m0 : Method := { name := "<init>", desc := "()V", sig := { parameters := [], returnType := none }, accessFlags := 2, code := none }
def k11c1 : Code := { maxStack := 3, maxLocals := 2, code := jdk_31_method_11_code, exceptionTable := #[], attributes := #[] }
def k11m1 : Method := { name := "requireNonNull", desc := "(Ljava/lang/Object;Ljava/lang/String;)Ljava/lang/Object;", sig := { parameters := [(.object "java/lang/Object"), (.object "java/lang/String")], returnType := some (.object "java/lang/Object") }, accessFlags := 9, code := some k11c1 }
/-- java/util/Objects -/
def k11 : Class := { plain "java/util/Objects" (some 0) with
  accessFlags := 49
  interfaces := #[]
  cf := some (fileOf pool11 42 #[] #[{ accessFlags := 2, nameIndex := 5, descriptorIndex := 6, attributes := #[] }, { accessFlags := 9, nameIndex := 45, descriptorIndex := 94, attributes := #[] }] 49 2 #[] #[])
  fields := #[]
  methods := #[k11m0, k11m1]
  instanceTypes := #[]
  staticTypes := #[]
  resolved := Array.replicate 184 none
  statics := none }

def pool12 : Array CpInfo := pool [(4, .class_ 6), (1, u "java/lang/Object"), (0, u "<init>"), (0, u "()V"), (5, .class_ 16), (1, u "java/lang/StringLatin1"), (104, u "$assertionsDisabled"), (0, u "Z"), (98, .class_ 223), (1, u "java/lang/StringLatin1$LinesSpliterator"), (57, u "equals"), (0, u "([B[B)Z"), (107, .class_ 391), (0, u "java/lang/StringLatin1$CharsSpliterator")] 3

def k12m0 : Method := { name := "<init>", desc := "()V", sig := { parameters := [], returnType := none }, accessFlags := 0, code := none }
def k12c1 : Code := { maxStack := 3, maxLocals := 3, code := jdk_43_method_13_code, exceptionTable := #[], attributes := #[] }
def k12m1 : Method := { name := "equals", desc := "([B[B)Z", sig := { parameters := [(.array .byte), (.array .byte)], returnType := some .boolean }, accessFlags := 9, code := some k12c1 }
/-- java/lang/StringLatin1 -/
def k12 : Class := { plain "java/lang/StringLatin1" (some 0) with
  accessFlags := 48
  interfaces := #[]
  cf := some (fileOf pool12 14 #[.nestMembers #[390, 221]] #[{ accessFlags := 0, nameIndex := 7, descriptorIndex := 8, attributes := #[] }, { accessFlags := 9, nameIndex := 281, descriptorIndex := 282, attributes := #[] }] 48 4 #[] #[{ accessFlags := 4120, nameIndex := 121, descriptorIndex := 122, attributes := #[] }])
  fields := #[{ name := "$assertionsDisabled", type := .boolean, accessFlags := 4120, slot := 0, constantValue := 0 }]
  methods := #[k12m0, k12m1]
  instanceTypes := #[]
  staticTypes := #[.boolean]
  resolved := Array.replicate 395 none
  statics := none }

def pool13 : Array CpInfo := pool [(2, .class_ 4), (1, u "java/lang/Object"), (0, u "<init>"), (0, u "()V"), (17, .class_ 26), (1, u "jdk/internal/util/Preconditions"), (28, .class_ 56), (0, u "jdk/internal/util/Preconditions$4"), (57, .class_ 115), (0, u "jdk/internal/util/Preconditions$1"), (7, u "SIOOBE_FORMATTER"), (0, u "Ljava/util/function/BiFunction;"), (0, .class_ 126), (0, u "jdk/internal/util/Preconditions$2"), (3, u "AIOOBE_FORMATTER"), (0, .class_ 132), (0, u "jdk/internal/util/Preconditions$3"), (3, u "IOOBE_FORMATTER")] 57

def k13m0 : Method := { name := "<init>", desc := "()V", sig := { parameters := [], returnType := none }, accessFlags := 1, code := none }
/-- jdk/internal/util/Preconditions -/
def k13 : Class := { plain "jdk/internal/util/Preconditions" (some 0) with
  accessFlags := 33
  interfaces := #[]
  cf := some (fileOf pool13 24 #[.nestMembers #[55, 131, 125, 114]] #[{ accessFlags := 1, nameIndex := 5, descriptorIndex := 6, attributes := #[] }] 33 2 #[] #[{ accessFlags := 25, nameIndex := 123, descriptorIndex := 124, attributes := #[] }, { accessFlags := 25, nameIndex := 130, descriptorIndex := 124, attributes := #[] }, { accessFlags := 25, nameIndex := 136, descriptorIndex := 124, attributes := #[] }])
  fields := #[{ name := "SIOOBE_FORMATTER", type := (.object "java/util/function/BiFunction"), accessFlags := 25, slot := 0, constantValue := 0 }, { name := "AIOOBE_FORMATTER", type := (.object "java/util/function/BiFunction"), accessFlags := 25, slot := 1, constantValue := 0 }, { name := "IOOBE_FORMATTER", type := (.object "java/util/function/BiFunction"), accessFlags := 25, slot := 2, constantValue := 0 }]
  methods := #[k13m0]
  instanceTypes := #[]
  staticTypes := #[(.object "java/util/function/BiFunction"), (.object "java/util/function/BiFunction"), (.object "java/util/function/BiFunction")]
  resolved := Array.replicate 194 none
  statics := some 1 }

def pool14 : Array CpInfo := pool [(9, u "<init>"), (6, .class_ 18), (1, u "java/lang/Object"), (0, u "()V"), (1, .class_ 23), (1, u "jdk/internal/util/ArraysSupport"), (0, u "LOG2_ARRAY_LONG_INDEX_SCALE"), (0, u "I"), (2, u "U"), (0, u "Ljdk/internal/misc/Unsafe;"), (8, u "BIG_ENDIAN"), (0, u "Z"), (8, u "LOG2_BYTE_BIT_SIZE"), (4, u "LOG2_ARRAY_INT_INDEX_SCALE"), (54, u "JLA"), (0, u "Ljdk/internal/access/JavaLangAccess;"), (11, u "LOG2_ARRAY_BOOLEAN_INDEX_SCALE"), (9, u "LOG2_ARRAY_BYTE_INDEX_SCALE"), (5, u "LOG2_ARRAY_CHAR_INDEX_SCALE"), (5, u "LOG2_ARRAY_SHORT_INDEX_SCALE"), (18, u "LOG2_ARRAY_FLOAT_INDEX_SCALE"), (24, u "LOG2_ARRAY_DOUBLE_INDEX_SCALE"), (89, u "T_BOOLEAN"), (2, u "T_CHAR"), (1, u "T_FLOAT"), (1, u "T_DOUBLE"), (1, u "T_BYTE"), (1, u "T_SHORT"), (1, u "T_INT"), (1, u "T_LONG"), (1, u "SOFT_MAX_ARRAY_LENGTH")] 83

def k14m0 : Method := { name := "<init>", desc := "()V", sig := { parameters := [], returnType := none }, accessFlags := 2, code := none }
/-- jdk/internal/util/ArraysSupport -/
def k14 : Class := { plain "jdk/internal/util/ArraysSupport" (some 0) with
  accessFlags := 33
  interfaces := #[]
  cf := some (fileOf pool14 21 #[] #[{ accessFlags := 2, nameIndex := 9, descriptorIndex := 19, attributes := #[] }] 33 16 #[] #[{ accessFlags := 24, nameIndex := 28, descriptorIndex := 29, attributes := #[] }, { accessFlags := 26, nameIndex := 38, descriptorIndex := 39, attributes := #[] }, { accessFlags := 25, nameIndex := 121, descriptorIndex := 25, attributes := #[] }, { accessFlags := 25, nameIndex := 131, descriptorIndex := 25, attributes := #[] }, { accessFlags := 25, nameIndex := 137, descriptorIndex := 25, attributes := #[] }, { accessFlags := 25, nameIndex := 143, descriptorIndex := 25, attributes := #[] }, { accessFlags := 25, nameIndex := 53, descriptorIndex := 25, attributes := #[] }, { accessFlags := 25, nameIndex := 24, descriptorIndex := 25, attributes := #[] }, { accessFlags := 25, nameIndex := 162, descriptorIndex := 25, attributes := #[] }, { accessFlags := 25, nameIndex := 187, descriptorIndex := 25, attributes := #[] }, { accessFlags := 26, nameIndex := 48, descriptorIndex := 25, attributes := #[] }, { accessFlags := 25, nameIndex := 277, descriptorIndex := 25, attributes := #[] }, { accessFlags := 25, nameIndex := 280, descriptorIndex := 25, attributes := #[] }, { accessFlags := 25, nameIndex := 282, descriptorIndex := 25, attributes := #[] }, { accessFlags := 25, nameIndex := 284, descriptorIndex := 25, attributes := #[] }, { accessFlags := 25, nameIndex := 286, descriptorIndex := 25, attributes := #[] }, { accessFlags := 25, nameIndex := 288, descriptorIndex := 25, attributes := #[] }, { accessFlags := 25, nameIndex := 290, descriptorIndex := 25, attributes := #[] }, { accessFlags := 25, nameIndex := 292, descriptorIndex := 25, attributes := #[] }, { accessFlags := 26, nameIndex := 108, descriptorIndex := 109, attributes := #[] }, { accessFlags := 25, nameIndex := 294, descriptorIndex := 25, attributes := #[] }])
  fields := #[{ name := "U", type := (.object "jdk/internal/misc/Unsafe"), accessFlags := 24, slot := 0, constantValue := 0 }, { name := "BIG_ENDIAN", type := .boolean, accessFlags := 26, slot := 1, constantValue := 0 }, { name := "LOG2_ARRAY_BOOLEAN_INDEX_SCALE", type := .int, accessFlags := 25, slot := 2, constantValue := 0 }, { name := "LOG2_ARRAY_BYTE_INDEX_SCALE", type := .int, accessFlags := 25, slot := 3, constantValue := 0 }, { name := "LOG2_ARRAY_CHAR_INDEX_SCALE", type := .int, accessFlags := 25, slot := 4, constantValue := 0 }, { name := "LOG2_ARRAY_SHORT_INDEX_SCALE", type := .int, accessFlags := 25, slot := 5, constantValue := 0 }, { name := "LOG2_ARRAY_INT_INDEX_SCALE", type := .int, accessFlags := 25, slot := 6, constantValue := 0 }, { name := "LOG2_ARRAY_LONG_INDEX_SCALE", type := .int, accessFlags := 25, slot := 7, constantValue := 0 }, { name := "LOG2_ARRAY_FLOAT_INDEX_SCALE", type := .int, accessFlags := 25, slot := 8, constantValue := 0 }, { name := "LOG2_ARRAY_DOUBLE_INDEX_SCALE", type := .int, accessFlags := 25, slot := 9, constantValue := 0 }, { name := "LOG2_BYTE_BIT_SIZE", type := .int, accessFlags := 26, slot := 10, constantValue := 0 }, { name := "T_BOOLEAN", type := .int, accessFlags := 25, slot := 11, constantValue := 0 }, { name := "T_CHAR", type := .int, accessFlags := 25, slot := 12, constantValue := 0 }, { name := "T_FLOAT", type := .int, accessFlags := 25, slot := 13, constantValue := 0 }, { name := "T_DOUBLE", type := .int, accessFlags := 25, slot := 14, constantValue := 0 }, { name := "T_BYTE", type := .int, accessFlags := 25, slot := 15, constantValue := 0 }, { name := "T_SHORT", type := .int, accessFlags := 25, slot := 16, constantValue := 0 }, { name := "T_INT", type := .int, accessFlags := 25, slot := 17, constantValue := 0 }, { name := "T_LONG", type := .int, accessFlags := 25, slot := 18, constantValue := 0 }, { name := "JLA", type := (.object "jdk/internal/access/JavaLangAccess"), accessFlags := 26, slot := 19, constantValue := 0 }, { name := "SOFT_MAX_ARRAY_LENGTH", type := .int, accessFlags := 25, slot := 20, constantValue := 0 }]
  methods := #[k14m0]
  instanceTypes := #[]
  staticTypes := #[(.object "jdk/internal/misc/Unsafe"), .boolean, .int, .int, .int, .int, .int, .int, .int, .int, .int, .int, .int, .int, .int, .int, .int, .int, .int, (.object "jdk/internal/access/JavaLangAccess"), .int]
  resolved := Array.replicate 378 none
  statics := none }

def pool15 : Array CpInfo := pool [(1, u "java/lang/Cloneable"), (0, .class_ 1), (0, u "java/lang/Object"), (0, .class_ 3)] 3

/-- java/lang/Cloneable -/
def k15 : Class := { plain "java/lang/Cloneable" (some 0) with
  accessFlags := 1537
  interfaces := #[]
  cf := some (fileOf pool15 2 #[] #[] 1537 4 #[] #[])
  fields := #[]
  methods := #[]
  instanceTypes := #[]
  staticTypes := #[]
  resolved := Array.replicate 8 none
  statics := none }

/-- the primitive byte -/
def k16 : Class := { plain "byte" none with kind := .primitive 'B', accessFlags := 0x411 }
/-- [B -/
def k17 : Class := { plain "[B" (some 0) with kind := .array 16 .byte, interfaces := #[15, 4], accessFlags := 1041 }

/-- the primitive char -/
def k18 : Class := { plain "char" none with kind := .primitive 'C', accessFlags := 0x411 }
/-- [C -/
def k19 : Class := { plain "[C" (some 0) with kind := .array 18 .char, interfaces := #[15, 4], accessFlags := 1041 }

/-- the primitive int -/
def k20 : Class := { plain "int" none with kind := .primitive 'I', accessFlags := 0x411 }
/-- [I -/
def k21 : Class := { plain "[I" (some 0) with kind := .array 20 .int, interfaces := #[15, 4], accessFlags := 1041 }

def heap : Heap := #[{ cls := 9, slots := #[.long 0, .int 1, .null, .int 0, .null, .int 0, .int 0], vm := .statics 9 },
  { cls := 13, slots := #[.null, .null, .null], vm := .statics 13 }]
def classes : Array Class := #[k0, k1, k2, k3, k4, k5, k6, k7, k8, k9, k10, k11, k12, k13, k14, k15, k16, k17, k18, k19, k20, k21]
def interned : List (Array UInt16 × Addr) := []
def slotsUsed : Nat := 10
def theMethod : MethodId := ⟨1, 3⟩
def args0 : Array Value := #[.int 3, .int 7, .int 8, .int 9, .int 10]
def aboutOver (below : List Frame) : State where
  vm := { classes := classes, interned := interned.toArray }
  heap := heap
  slotsUsed := slotsUsed
  threads := #[{ frames := .invoking theMethod args0 :: below }]
def below0 : List Frame := [.native { method := ⟨0, 0⟩, args := #[] }]
def about1 : State := aboutOver below0
def p0 : Program := .bare "" "" ""
def e0 : Env := launch0.env 0 0 0
theorem w_frames : about1.frames = Frame.invoking theMethod args0 :: below0 := rfl
set_option maxRecDepth 65536 in
theorem w_args : argsFit about1.vm theMethod args0 = true := by decide +kernel
set_option maxRecDepth 65536 in
theorem w_heap : heapFits about1 = true := by decide +kernel
set_option maxRecDepth 65536 in
theorem w_runnable : about1.curStatus? = some .runnable := by decide +kernel
set_option maxRecDepth 65536 in
theorem w_alone : about1.alone = true := by decide +kernel
set_option maxRecDepth 65536 in
theorem w_named : about1.methodNamed? x = some theMethod := by decide +kernel
set_option maxRecDepth 65536 in
theorem w_hears : about1.hears theMethod below0 = true := by decide +kernel
set_option maxRecDepth 65536 in
theorem w_ripe : about1.ripe theMethod args0 below0 = true := by decide +kernel
theorem w_running : about1.status = .running := rfl
set_option maxRecDepth 65536 in
theorem w_room : about1.hasRoom e0.platform room_1 = true :=
  launch0.hasRoom_least _ room_1 (by decide +kernel) (by decide +kernel) (by decide +kernel) (by decide +kernel) (by decide +kernel) (by decide +kernel)
theorem allAtoms_all (ts : List Jvm.Cond) (a : Array Jvm.Value) (st : Jvm.State) : (allAtoms ts).before a st = ts.all (fun c => c.before a st) := by
  induction ts with
  | nil => rfl
  | cons c t ih =>
    show (Jvm.Cond.and c (allAtoms t)).before a st = _
    rw [Jvm.Cond.before_and, ih, List.all_cons]
def words1 : List Jvm.Cond := Jvm.Cond.code x code maxLocals ret :: tables_1
/-- a 'code' word, met by the world's own term for the bytes: nothing is compared byte by byte -/
theorem code_word {y : MethodName} {bytes : ByteArray} {mx : Nat} {rt : Option FieldType} {a : Array Value} {s : State} {m : MethodId} {meth : Method} {c : Code} (h1 : s.methodNamed? y = some m) (h2 : s.vm.method? m = some meth) (h3 : meth.code = some c) (h4 : c.code = bytes)
    (h5 : (c.maxLocals == mx && c.exceptionTable.isEmpty && decide (c.maxStack ≤ mostOperands) && decide (meth.sig.returnType = rt) && !meth.locks && decide (parseMethodDescriptor y.desc = some meth.sig)) = true) : (Jvm.Cond.code y bytes mx rt).before a s = true := by
  simp only [Bool.and_eq_true, beq_iff_eq, Bool.not_eq_true', decide_eq_true_eq] at h5
  obtain ⟨⟨⟨⟨⟨g1, g2⟩, g3⟩, g4⟩, g5⟩, g6⟩ := h5
  simp [Cond.before, Cond.holds, Cond.value, h1, h2, h3, h4, g1, g2, g3, g4, g5, g6]
def isCode : Jvm.Cond → Bool
  | .code _ _ _ _ => true
  | _ => false
theorem all_split {L : List Jvm.Cond} {P : Jvm.Cond → Bool} (h1 : L.all (fun c => isCode c || P c) = true) (h2 : ∀ c ∈ L.filter isCode, P c = true) : L.all P = true := by
  refine List.all_eq_true.mpr fun c hc => ?_
  have h := List.all_eq_true.mp h1 c hc
  rcases Bool.eq_false_or_eq_true (isCode c) with hi | hi
  · exact h2 c (List.mem_filter.mpr ⟨hc, hi⟩)
  · simpa [hi] using h
set_option maxRecDepth 65536 in
theorem w_c0 : (Jvm.Cond.code x code maxLocals ret).before args0 about1 = true := code_word (m := ⟨1, 3⟩) (meth := k1m3) (c := k1c3) (by decide +kernel) rfl rfl rfl (by decide +kernel)
set_option maxRecDepth 65536 in
theorem w_c1 : (Jvm.Cond.code ({ cls := "java/lang/Math", name := "min", desc := "(II)I" } : Jvm.MethodName) jdk_29_method_69_code (2 : Nat) (Option.some Jvm.ClassFile.FieldType.int)).before args0 about1 = true := code_word (m := ⟨2, 1⟩) (meth := k2m1) (c := k2c1) (by decide +kernel) rfl rfl rfl (by decide +kernel)
set_option maxRecDepth 65536 in
theorem w_c2 : (Jvm.Cond.code ({ cls := "com/example/netmark/netmark/rules/NettingAgreementEqualsPinLaw", name := "mk", desc := "(ICC)Ljava/lang/String;" } : Jvm.MethodName) method_2_code (3 : Nat) (Option.some (Jvm.ClassFile.FieldType.object "java/lang/String"))).before args0 about1 = true := code_word (m := ⟨1, 1⟩) (meth := k1m1) (c := k1c1) (by decide +kernel) rfl rfl rfl (by decide +kernel)
set_option maxRecDepth 65536 in
theorem w_c3 : (Jvm.Cond.code ({ cls := "java/lang/String", name := "<init>", desc := "([C)V" } : Jvm.MethodName) jdk_42_method_3_code (2 : Nat) (Option.none : Option Jvm.ClassFile.FieldType)).before args0 about1 = true := code_word (m := ⟨9, 1⟩) (meth := k9m1) (c := k9c1) (by decide +kernel) rfl rfl rfl (by decide +kernel)
set_option maxRecDepth 65536 in
theorem w_c4 : (Jvm.Cond.code ({ cls := "java/lang/String", name := "<init>", desc := "([CIILjava/lang/Void;)V" } : Jvm.MethodName) jdk_42_method_149_code (6 : Nat) (Option.none : Option Jvm.ClassFile.FieldType)).before args0 about1 = true := code_word (m := ⟨9, 4⟩) (meth := k9m4) (c := k9c4) (by decide +kernel) rfl rfl rfl (by decide +kernel)
set_option maxRecDepth 65536 in
theorem w_c5 : (Jvm.Cond.code ({ cls := "java/lang/Object", name := "<init>", desc := "()V" } : Jvm.MethodName) object_method_1_code (1 : Nat) (Option.none : Option Jvm.ClassFile.FieldType)).before args0 about1 = true := code_word (m := ⟨0, 0⟩) (meth := k0m0) (c := k0c0) (by decide +kernel) rfl rfl rfl (by decide +kernel)
set_option maxRecDepth 65536 in
theorem w_c6 : (Jvm.Cond.code ({ cls := "java/lang/StringUTF16", name := "compress", desc := "([CII)[B" } : Jvm.MethodName) jdk_52_method_16_code (6 : Nat) (Option.some (Jvm.ClassFile.FieldType.array Jvm.ClassFile.FieldType.byte))).before args0 about1 = true := code_word (m := ⟨10, 2⟩) (meth := k10m2) (c := k10c2) (by decide +kernel) rfl rfl rfl (by decide +kernel)
set_option maxRecDepth 65536 in
theorem w_c7 : (Jvm.Cond.code ({ cls := "java/lang/StringUTF16", name := "compress", desc := "([CI[BII)I" } : Jvm.MethodName) jdk_52_method_21_code (7 : Nat) (Option.some Jvm.ClassFile.FieldType.int)).before args0 about1 = true := code_word (m := ⟨10, 3⟩) (meth := k10m3) (c := k10c3) (by decide +kernel) rfl rfl rfl (by decide +kernel)
set_option maxRecDepth 65536 in
theorem w_c8 : (Jvm.Cond.code ({ cls := "java/lang/StringUTF16", name := "coderFromArrayLen", desc := "([BI)B" } : Jvm.MethodName) jdk_52_method_15_code (2 : Nat) (Option.some Jvm.ClassFile.FieldType.byte)).before args0 about1 = true := code_word (m := ⟨10, 1⟩) (meth := k10m1) (c := k10c1) (by decide +kernel) rfl rfl rfl (by decide +kernel)
set_option maxRecDepth 65536 in
theorem w_c9 : (Jvm.Cond.code ({ cls := "com/example/netmark/netmark/rules/NettingAgreement", name := "<init>", desc := "(Ljava/lang/String;Ljava/lang/String;ZZ)V" } : Jvm.MethodName) prog_36_method_1_code (5 : Nat) (Option.none : Option Jvm.ClassFile.FieldType)).before args0 about1 = true := code_word (m := ⟨3, 0⟩) (meth := k3m0) (c := k3c0) (by decide +kernel) rfl rfl rfl (by decide +kernel)
set_option maxRecDepth 65536 in
theorem w_c10 : (Jvm.Cond.code ({ cls := "java/util/Objects", name := "requireNonNull", desc := "(Ljava/lang/Object;Ljava/lang/String;)Ljava/lang/Object;" } : Jvm.MethodName) jdk_31_method_11_code (2 : Nat) (Option.some (Jvm.ClassFile.FieldType.object "java/lang/Object"))).before args0 about1 = true := code_word (m := ⟨11, 1⟩) (meth := k11m1) (c := k11c1) (by decide +kernel) rfl rfl rfl (by decide +kernel)
set_option maxRecDepth 65536 in
theorem w_c11 : (Jvm.Cond.code ({ cls := "java/lang/String", name := "isEmpty", desc := "()Z" } : Jvm.MethodName) jdk_42_method_55_code (1 : Nat) (Option.some Jvm.ClassFile.FieldType.boolean)).before args0 about1 = true := code_word (m := ⟨9, 2⟩) (meth := k9m2) (c := k9c2) (by decide +kernel) rfl rfl rfl (by decide +kernel)
set_option maxRecDepth 65536 in
theorem w_c12 : (Jvm.Cond.code ({ cls := "com/example/netmark/netmark/rules/NettingAgreementEqualsPinLaw", name := "same", desc := "(ICCICC)Z" } : Jvm.MethodName) method_3_code (6 : Nat) (Option.some Jvm.ClassFile.FieldType.boolean)).before args0 about1 = true := code_word (m := ⟨1, 2⟩) (meth := k1m2) (c := k1c2) (by decide +kernel) rfl rfl rfl (by decide +kernel)
set_option maxRecDepth 65536 in
theorem w_c13 : (Jvm.Cond.code ({ cls := "com/example/netmark/netmark/rules/NettingAgreement", name := "equals", desc := "(Ljava/lang/Object;)Z" } : Jvm.MethodName) prog_36_method_8_code (3 : Nat) (Option.some Jvm.ClassFile.FieldType.boolean)).before args0 about1 = true := code_word (m := ⟨3, 1⟩) (meth := k3m1) (c := k3c1) (by decide +kernel) rfl rfl rfl (by decide +kernel)
set_option maxRecDepth 65536 in
theorem w_c14 : (Jvm.Cond.code ({ cls := "java/lang/String", name := "equals", desc := "(Ljava/lang/Object;)Z" } : Jvm.MethodName) jdk_42_method_66_code (3 : Nat) (Option.some Jvm.ClassFile.FieldType.boolean)).before args0 about1 = true := code_word (m := ⟨9, 3⟩) (meth := k9m3) (c := k9c3) (by decide +kernel) rfl rfl rfl (by decide +kernel)
set_option maxRecDepth 65536 in
theorem w_c15 : (Jvm.Cond.code ({ cls := "java/lang/StringLatin1", name := "equals", desc := "([B[B)Z" } : Jvm.MethodName) jdk_43_method_13_code (3 : Nat) (Option.some Jvm.ClassFile.FieldType.boolean)).before args0 about1 = true := code_word (m := ⟨12, 1⟩) (meth := k12m1) (c := k12c1) (by decide +kernel) rfl rfl rfl (by decide +kernel)
def codes1 : List Jvm.Cond := [Jvm.Cond.code x code maxLocals ret, Jvm.Cond.code ({ cls := "java/lang/Math", name := "min", desc := "(II)I" } : Jvm.MethodName) jdk_29_method_69_code (2 : Nat) (Option.some Jvm.ClassFile.FieldType.int), Jvm.Cond.code ({ cls := "com/example/netmark/netmark/rules/NettingAgreementEqualsPinLaw", name := "mk", desc := "(ICC)Ljava/lang/String;" } : Jvm.MethodName) method_2_code (3 : Nat) (Option.some (Jvm.ClassFile.FieldType.object "java/lang/String")), Jvm.Cond.code ({ cls := "java/lang/String", name := "<init>", desc := "([C)V" } : Jvm.MethodName) jdk_42_method_3_code (2 : Nat) (Option.none : Option Jvm.ClassFile.FieldType), Jvm.Cond.code ({ cls := "java/lang/String", name := "<init>", desc := "([CIILjava/lang/Void;)V" } : Jvm.MethodName) jdk_42_method_149_code (6 : Nat) (Option.none : Option Jvm.ClassFile.FieldType), Jvm.Cond.code ({ cls := "java/lang/Object", name := "<init>", desc := "()V" } : Jvm.MethodName) object_method_1_code (1 : Nat) (Option.none : Option Jvm.ClassFile.FieldType), Jvm.Cond.code ({ cls := "java/lang/StringUTF16", name := "compress", desc := "([CII)[B" } : Jvm.MethodName) jdk_52_method_16_code (6 : Nat) (Option.some (Jvm.ClassFile.FieldType.array Jvm.ClassFile.FieldType.byte)), Jvm.Cond.code ({ cls := "java/lang/StringUTF16", name := "compress", desc := "([CI[BII)I" } : Jvm.MethodName) jdk_52_method_21_code (7 : Nat) (Option.some Jvm.ClassFile.FieldType.int), Jvm.Cond.code ({ cls := "java/lang/StringUTF16", name := "coderFromArrayLen", desc := "([BI)B" } : Jvm.MethodName) jdk_52_method_15_code (2 : Nat) (Option.some Jvm.ClassFile.FieldType.byte), Jvm.Cond.code ({ cls := "com/example/netmark/netmark/rules/NettingAgreement", name := "<init>", desc := "(Ljava/lang/String;Ljava/lang/String;ZZ)V" } : Jvm.MethodName) prog_36_method_1_code (5 : Nat) (Option.none : Option Jvm.ClassFile.FieldType), Jvm.Cond.code ({ cls := "java/util/Objects", name := "requireNonNull", desc := "(Ljava/lang/Object;Ljava/lang/String;)Ljava/lang/Object;" } : Jvm.MethodName) jdk_31_method_11_code (2 : Nat) (Option.some (Jvm.ClassFile.FieldType.object "java/lang/Object")), Jvm.Cond.code ({ cls := "java/lang/String", name := "isEmpty", desc := "()Z" } : Jvm.MethodName) jdk_42_method_55_code (1 : Nat) (Option.some Jvm.ClassFile.FieldType.boolean), Jvm.Cond.code ({ cls := "com/example/netmark/netmark/rules/NettingAgreementEqualsPinLaw", name := "same", desc := "(ICCICC)Z" } : Jvm.MethodName) method_3_code (6 : Nat) (Option.some Jvm.ClassFile.FieldType.boolean), Jvm.Cond.code ({ cls := "com/example/netmark/netmark/rules/NettingAgreement", name := "equals", desc := "(Ljava/lang/Object;)Z" } : Jvm.MethodName) prog_36_method_8_code (3 : Nat) (Option.some Jvm.ClassFile.FieldType.boolean), Jvm.Cond.code ({ cls := "java/lang/String", name := "equals", desc := "(Ljava/lang/Object;)Z" } : Jvm.MethodName) jdk_42_method_66_code (3 : Nat) (Option.some Jvm.ClassFile.FieldType.boolean), Jvm.Cond.code ({ cls := "java/lang/StringLatin1", name := "equals", desc := "([B[B)Z" } : Jvm.MethodName) jdk_43_method_13_code (3 : Nat) (Option.some Jvm.ClassFile.FieldType.boolean)]
set_option maxRecDepth 65536 in
theorem codes_eq : words1.filter isCode = codes1 := rfl
theorem w_codes : ∀ c ∈ words1.filter isCode, c.before args0 about1 = true := by
  rw [codes_eq]
  intro c hc
  simp only [codes1, List.mem_cons, List.not_mem_nil, or_false] at hc
  rcases hc with rfl | rfl | rfl | rfl | rfl | rfl | rfl | rfl | rfl | rfl | rfl | rfl | rfl | rfl | rfl | rfl
  · exact w_c0
  · exact w_c1
  · exact w_c2
  · exact w_c3
  · exact w_c4
  · exact w_c5
  · exact w_c6
  · exact w_c7
  · exact w_c8
  · exact w_c9
  · exact w_c10
  · exact w_c11
  · exact w_c12
  · exact w_c13
  · exact w_c14
  · exact w_c15
set_option maxRecDepth 65536 in
theorem w_t1 : (words1.take 24).all (fun c => isCode c || c.before args0 about1) = true := by decide +kernel
set_option maxRecDepth 65536 in
theorem w_t2 : ((words1.drop 24).take 24).all (fun c => isCode c || c.before args0 about1) = true := by decide +kernel
set_option maxRecDepth 65536 in
theorem w_t3 : (((words1.drop 24).drop 24).take 24).all (fun c => isCode c || c.before args0 about1) = true := by decide +kernel
set_option maxRecDepth 65536 in
theorem w_t4 : (((words1.drop 24).drop 24).drop 24).all (fun c => isCode c || c.before args0 about1) = true := by decide +kernel
theorem w_tables : (allAtoms (Jvm.Cond.code x code maxLocals ret :: tables_1)).before args0 about1 = true := by
  rw [allAtoms_all]
  show words1.all (fun c => c.before args0 about1) = true
  refine all_split ?_ w_codes
  rw [← List.take_append_drop 24 words1, List.all_append, w_t1, ← List.take_append_drop 24 (words1.drop 24), List.all_append, w_t2, ← List.take_append_drop 24 ((words1.drop 24).drop 24), List.all_append, w_t3, w_t4]
  rfl
set_option maxRecDepth 65536 in
theorem w_rest : rest_1_c.before args0 about1 = true := by decide +kernel
set_option maxRecDepth 65536 in
theorem w_case : (Jvm.Cond.and given_1 narrow_1).before args0 about1 = true := by decide +kernel
set_option maxRecDepth 65536 in
theorem w_consts : constsHeld consts_1 about1 := Jvm.Lit.constsHeldB_iff.mp (by decide +kernel)
theorem w_applies : (headSpec (Jvm.Cond.code x code maxLocals ret :: tables_1) room_1).applies x e0.platform about1 = true :=
  (Spec.applies_iff w_frames).mpr ⟨w_running, w_runnable, w_alone, w_named, w_hears, w_ripe, w_room, w_tables⟩
theorem atStart : AtStart classFile x code maxLocals ret World_1 tables_1 room_1 Calls_1 rest_1 Pre_1 launch0 p0 e0 about1 theMethod args0 below0 :=
  ⟨lists_1, trivial, launch0.admits_env _ _ _, launch0.least_env, fairChoices_fair.cas, fairChoices_fair.clock, w_frames, w_args, w_heap, w_applies, ⟨w_consts, trivial⟩, w_rest, w_case⟩
end start1
theorem witness_1 : WitnessClaimed_1 := ⟨start1.p0, start1.e0, start1.about1, start1.theMethod, start1.args0, start1.below0, start1.atStart⟩
end Jvm.Pilot.@@N@@
