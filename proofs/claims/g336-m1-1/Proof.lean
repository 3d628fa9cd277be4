import JvmDerived
import JvmDerived.Pilot.@@N@@Statement
import JvmDerived.Pilot.@@N@@Code
set_option linter.unusedVariables false
set_option linter.unusedSimpArgs false
namespace Jvm.RoadKit
open Sem ClassFile Op Lib Jvm.Stand Jvm.Free Jvm.LawKit
section New
variable {p : Program} {l : Launch} {e : Env} {R : Room} {s : State} {m : MethodId} {args : Array Value} {below : List Frame} {meth : Method} {c : Code} {T : State} {locs : List Loc} {cells slots : Nat}
theorem retI (X : Stand p l e R s m args below meth c T locs cells slots) (hx : p.tables.exec = Jvm.exec) {pc : Nat} {Ls : Array Slot} {z : Int32} {rest : List Value} (hret : meth.sig.returnType = some .int) (hd : decode c.code pc = .ok (.ireturn, 1)) {fs : List Frame}
    (hl : ∀ (f : JFrame) (acts : List Action), f.method = m → f.locked = none → f.entered = [] → (doReturn e (T.setTop f) acts (some (.int z))).1 = T.setFrames fs) : Steps p.tables e below (T.setTop (mkF m pc Ls (.int z :: rest))) (T.setFrames fs) := by
  have hm' : T.vm.method? m = some meth := X.method'
  have hn : narrow .int (.int z) = .int z := rfl
  show Steps p.tables e below (T.setTop { method := m, pc := pc, locals := Ls, stack := _ :: rest, locked := none }) _
  jvm_step X.here [X.here.top, hx, hd, hm', hret, hn]
  first | (intro acts; rw [hl _ acts rfl rfl rfl]) | rw [hl _ _ rfl rfl rfl]
  exact Steps.refl _
end New
end Jvm.RoadKit
namespace Jvm.Pilot.@@N@@
open Jvm Jvm.ClassFile Sem Op Lib Jvm.Free Jvm.Stand Jvm.LawKit Jvm.RoadKit Bundle Jvm.Pilot.@@N@@.Jvm.D
theorem own_lt {x k : Int32} {K : Int} (h : x < k) (e : k.toInt = K) : x.toInt < K := by rw [Int32.lt_iff_toInt_lt] at h; omega
theorem own_nlt {x k : Int32} {K : Int} (h : ¬ x < k) (e : k.toInt = K) : K ≤ x.toInt := by rw [Int32.lt_iff_toInt_lt] at h; omega
theorem own_gt {x k : Int32} {K : Int} (h : k < x) (e : k.toInt = K) : K < x.toInt := by rw [Int32.lt_iff_toInt_lt] at h; omega
theorem own_ngt {x k : Int32} {K : Int} (h : ¬ k < x) (e : k.toInt = K) : x.toInt ≤ K := by rw [Int32.lt_iff_toInt_lt] at h; omega
theorem own_eq {x k : Int32} {K : Int} (h : x = k) (e : k.toInt = K) : x.toInt = K := by rw [h]; exact e
theorem own_neq {x k : Int32} {K : Int} (h : ¬ x = k) (e : k.toInt = K) : ¬ x.toInt = K := fun q => h (Int32.toInt_inj.mp (q.trans e.symm))
theorem own_mk_lt {x k : Int32} {K : Int} (h : x.toInt < K) (e : k.toInt = K) : x < k := by rw [Int32.lt_iff_toInt_lt]; omega
theorem own_mk_nlt {x k : Int32} {K : Int} (h : K ≤ x.toInt) (e : k.toInt = K) : ¬ x < k := by rw [Int32.lt_iff_toInt_lt]; omega
theorem own_mk_gt {x k : Int32} {K : Int} (h : K < x.toInt) (e : k.toInt = K) : k < x := by rw [Int32.lt_iff_toInt_lt]; omega
theorem own_mk_ngt {x k : Int32} {K : Int} (h : x.toInt ≤ K) (e : k.toInt = K) : ¬ k < x := by rw [Int32.lt_iff_toInt_lt]; omega
theorem own_mk_eq {x k : Int32} {K : Int} (h : x.toInt = K) (e : k.toInt = K) : x = k := Int32.toInt_inj.mp (h.trans e.symm)
theorem own_mk_neq {x k : Int32} {K : Int} (h : ¬ x.toInt = K) (e : k.toInt = K) : ¬ x = k := fun q => h (q ▸ e)
theorem own_getD (q : List Int32) (i : Nat) (d : Int32) : (q.map Value.int).getD i (.int d) = .int (q.getD i d) := by
  induction q generalizing i with
  | nil => rfl
  | cons a r ih => cases i with
    | zero => rfl
    | succ n => simpa using ih n
def own_isn (c : Int32) : Int32 := if (65 ≤ c.toInt ∧ c.toInt ≤ 90) ∨ c.toInt = 95 ∨ (97 ≤ c.toInt ∧ c.toInt ≤ 122) ∨ (192 ≤ c.toInt ∧ c.toInt ≤ 214) ∨ (216 ≤ c.toInt ∧ c.toInt ≤ 246) ∨ (248 ≤ c.toInt ∧ c.toInt ≤ 767) ∨ (880 ≤ c.toInt ∧ c.toInt ≤ 893) ∨ (895 ≤ c.toInt ∧ c.toInt ≤ 8191) ∨ (8204 ≤ c.toInt ∧ c.toInt ≤ 8205) ∨ (8304 ≤ c.toInt ∧ c.toInt ≤ 8591) ∨ (11264 ≤ c.toInt ∧ c.toInt ≤ 12271) ∨ (12289 ≤ c.toInt ∧ c.toInt ≤ 55295) ∨ (63744 ≤ c.toInt ∧ c.toInt ≤ 64975) ∨ (65008 ≤ c.toInt ∧ c.toInt ≤ 65533) ∨ (65536 ≤ c.toInt ∧ c.toInt ≤ 983039) then 1 else 0
theorem own_rem (u : Int32) (h : 0 ≤ u.toInt) : ¬ (u % (36 : Int32)) < 0 ∧ (u % (36 : Int32)) < (36 : Int32) := by
  rw [Int32.lt_iff_toInt_lt, Int32.lt_iff_toInt_lt, Int32.toInt_mod]
  have e0 : (0 : Int32).toInt = 0 := by decide
  have e4 : (36 : Int32).toInt = 36 := by decide
  rw [e0, e4, Int.tmod_eq_emod_of_nonneg h]; omega
theorem own_idx (x : Int32) : ¬ (((x.toUInt32 >>> ((1 : Int32) &&& 31).toUInt32).toInt32) % (36 : Int32)) < 0 ∧ (((x.toUInt32 >>> ((1 : Int32) &&& 31).toUInt32).toInt32) % (36 : Int32)) < (36 : Int32) := by
  refine own_rem _ ?_
  rw [c_iushr x 1 1 (by decide) (by decide)]
  exact Int.ediv_nonneg (Int.emod_nonneg _ (by decide)) (by decide)
theorem own_pd0 : parseMethodDescriptor "(I)Z" = some ⟨[.int], some .boolean⟩ := by decide +kernel
theorem d1_0 : decode prog_198_method_7_code 0 = .ok (.iload_n 0, 1) := by decide +kernel
theorem d1_1 : decode prog_198_method_7_code 1 = .ok (.bipush 65, 2) := by decide +kernel
theorem d1_3 : decode prog_198_method_7_code 3 = .ok (.if_icmp .lt 9, 3) := by decide +kernel
theorem d1_6 : decode prog_198_method_7_code 6 = .ok (.iload_n 0, 1) := by decide +kernel
theorem d1_7 : decode prog_198_method_7_code 7 = .ok (.bipush 90, 2) := by decide +kernel
theorem d1_9 : decode prog_198_method_7_code 9 = .ok (.if_icmp .le 182, 3) := by decide +kernel
theorem d1_12 : decode prog_198_method_7_code 12 = .ok (.iload_n 0, 1) := by decide +kernel
theorem d1_13 : decode prog_198_method_7_code 13 = .ok (.bipush 95, 2) := by decide +kernel
theorem d1_15 : decode prog_198_method_7_code 15 = .ok (.if_icmp .eq 176, 3) := by decide +kernel
theorem d1_18 : decode prog_198_method_7_code 18 = .ok (.iload_n 0, 1) := by decide +kernel
theorem d1_19 : decode prog_198_method_7_code 19 = .ok (.bipush 97, 2) := by decide +kernel
theorem d1_21 : decode prog_198_method_7_code 21 = .ok (.if_icmp .lt 9, 3) := by decide +kernel
theorem d1_24 : decode prog_198_method_7_code 24 = .ok (.iload_n 0, 1) := by decide +kernel
theorem d1_25 : decode prog_198_method_7_code 25 = .ok (.bipush 122, 2) := by decide +kernel
theorem d1_27 : decode prog_198_method_7_code 27 = .ok (.if_icmp .le 164, 3) := by decide +kernel
theorem d1_30 : decode prog_198_method_7_code 30 = .ok (.iload_n 0, 1) := by decide +kernel
theorem d1_31 : decode prog_198_method_7_code 31 = .ok (.sipush 192, 3) := by decide +kernel
theorem d1_34 : decode prog_198_method_7_code 34 = .ok (.if_icmp .lt 10, 3) := by decide +kernel
theorem d1_37 : decode prog_198_method_7_code 37 = .ok (.iload_n 0, 1) := by decide +kernel
theorem d1_38 : decode prog_198_method_7_code 38 = .ok (.sipush 214, 3) := by decide +kernel
theorem d1_41 : decode prog_198_method_7_code 41 = .ok (.if_icmp .le 150, 3) := by decide +kernel
theorem d1_44 : decode prog_198_method_7_code 44 = .ok (.iload_n 0, 1) := by decide +kernel
theorem d1_45 : decode prog_198_method_7_code 45 = .ok (.sipush 216, 3) := by decide +kernel
theorem d1_48 : decode prog_198_method_7_code 48 = .ok (.if_icmp .lt 10, 3) := by decide +kernel
theorem d1_51 : decode prog_198_method_7_code 51 = .ok (.iload_n 0, 1) := by decide +kernel
theorem d1_52 : decode prog_198_method_7_code 52 = .ok (.sipush 246, 3) := by decide +kernel
theorem d1_55 : decode prog_198_method_7_code 55 = .ok (.if_icmp .le 136, 3) := by decide +kernel
theorem d1_58 : decode prog_198_method_7_code 58 = .ok (.iload_n 0, 1) := by decide +kernel
theorem d1_59 : decode prog_198_method_7_code 59 = .ok (.sipush 248, 3) := by decide +kernel
theorem d1_62 : decode prog_198_method_7_code 62 = .ok (.if_icmp .lt 10, 3) := by decide +kernel
theorem d1_65 : decode prog_198_method_7_code 65 = .ok (.iload_n 0, 1) := by decide +kernel
theorem d1_66 : decode prog_198_method_7_code 66 = .ok (.sipush 767, 3) := by decide +kernel
theorem d1_69 : decode prog_198_method_7_code 69 = .ok (.if_icmp .le 122, 3) := by decide +kernel
theorem d1_72 : decode prog_198_method_7_code 72 = .ok (.iload_n 0, 1) := by decide +kernel
theorem d1_73 : decode prog_198_method_7_code 73 = .ok (.sipush 880, 3) := by decide +kernel
theorem d1_76 : decode prog_198_method_7_code 76 = .ok (.if_icmp .lt 10, 3) := by decide +kernel
theorem d1_79 : decode prog_198_method_7_code 79 = .ok (.iload_n 0, 1) := by decide +kernel
theorem d1_80 : decode prog_198_method_7_code 80 = .ok (.sipush 893, 3) := by decide +kernel
theorem d1_83 : decode prog_198_method_7_code 83 = .ok (.if_icmp .le 108, 3) := by decide +kernel
theorem d1_86 : decode prog_198_method_7_code 86 = .ok (.iload_n 0, 1) := by decide +kernel
theorem d1_87 : decode prog_198_method_7_code 87 = .ok (.sipush 895, 3) := by decide +kernel
theorem d1_90 : decode prog_198_method_7_code 90 = .ok (.if_icmp .lt 10, 3) := by decide +kernel
theorem d1_93 : decode prog_198_method_7_code 93 = .ok (.iload_n 0, 1) := by decide +kernel
theorem d1_94 : decode prog_198_method_7_code 94 = .ok (.sipush 8191, 3) := by decide +kernel
theorem d1_97 : decode prog_198_method_7_code 97 = .ok (.if_icmp .le 94, 3) := by decide +kernel
theorem d1_100 : decode prog_198_method_7_code 100 = .ok (.iload_n 0, 1) := by decide +kernel
theorem d1_101 : decode prog_198_method_7_code 101 = .ok (.sipush 8204, 3) := by decide +kernel
theorem d1_104 : decode prog_198_method_7_code 104 = .ok (.if_icmp .lt 10, 3) := by decide +kernel
theorem d1_107 : decode prog_198_method_7_code 107 = .ok (.iload_n 0, 1) := by decide +kernel
theorem d1_108 : decode prog_198_method_7_code 108 = .ok (.sipush 8205, 3) := by decide +kernel
theorem d1_111 : decode prog_198_method_7_code 111 = .ok (.if_icmp .le 80, 3) := by decide +kernel
theorem d1_114 : decode prog_198_method_7_code 114 = .ok (.iload_n 0, 1) := by decide +kernel
theorem d1_115 : decode prog_198_method_7_code 115 = .ok (.sipush 8304, 3) := by decide +kernel
theorem d1_118 : decode prog_198_method_7_code 118 = .ok (.if_icmp .lt 10, 3) := by decide +kernel
theorem d1_121 : decode prog_198_method_7_code 121 = .ok (.iload_n 0, 1) := by decide +kernel
theorem d1_122 : decode prog_198_method_7_code 122 = .ok (.sipush 8591, 3) := by decide +kernel
theorem d1_125 : decode prog_198_method_7_code 125 = .ok (.if_icmp .le 66, 3) := by decide +kernel
theorem d1_128 : decode prog_198_method_7_code 128 = .ok (.iload_n 0, 1) := by decide +kernel
theorem d1_129 : decode prog_198_method_7_code 129 = .ok (.sipush 11264, 3) := by decide +kernel
theorem d1_132 : decode prog_198_method_7_code 132 = .ok (.if_icmp .lt 10, 3) := by decide +kernel
theorem d1_135 : decode prog_198_method_7_code 135 = .ok (.iload_n 0, 1) := by decide +kernel
theorem d1_136 : decode prog_198_method_7_code 136 = .ok (.sipush 12271, 3) := by decide +kernel
theorem d1_139 : decode prog_198_method_7_code 139 = .ok (.if_icmp .le 52, 3) := by decide +kernel
theorem d1_142 : decode prog_198_method_7_code 142 = .ok (.iload_n 0, 1) := by decide +kernel
theorem d1_143 : decode prog_198_method_7_code 143 = .ok (.sipush 12289, 3) := by decide +kernel
theorem d1_146 : decode prog_198_method_7_code 146 = .ok (.if_icmp .lt 9, 3) := by decide +kernel
theorem d1_149 : decode prog_198_method_7_code 149 = .ok (.iload_n 0, 1) := by decide +kernel
theorem d1_150 : decode prog_198_method_7_code 150 = .ok (.ldc 57, 2) := by decide +kernel
theorem d1_152 : decode prog_198_method_7_code 152 = .ok (.if_icmp .le 39, 3) := by decide +kernel
theorem d1_155 : decode prog_198_method_7_code 155 = .ok (.iload_n 0, 1) := by decide +kernel
theorem d1_156 : decode prog_198_method_7_code 156 = .ok (.ldc 58, 2) := by decide +kernel
theorem d1_158 : decode prog_198_method_7_code 158 = .ok (.if_icmp .lt 9, 3) := by decide +kernel
theorem d1_161 : decode prog_198_method_7_code 161 = .ok (.iload_n 0, 1) := by decide +kernel
theorem d1_162 : decode prog_198_method_7_code 162 = .ok (.ldc 59, 2) := by decide +kernel
theorem d1_164 : decode prog_198_method_7_code 164 = .ok (.if_icmp .le 27, 3) := by decide +kernel
theorem d1_167 : decode prog_198_method_7_code 167 = .ok (.iload_n 0, 1) := by decide +kernel
theorem d1_168 : decode prog_198_method_7_code 168 = .ok (.ldc 60, 2) := by decide +kernel
theorem d1_170 : decode prog_198_method_7_code 170 = .ok (.if_icmp .lt 9, 3) := by decide +kernel
theorem d1_173 : decode prog_198_method_7_code 173 = .ok (.iload_n 0, 1) := by decide +kernel
theorem d1_174 : decode prog_198_method_7_code 174 = .ok (.ldc 61, 2) := by decide +kernel
theorem d1_176 : decode prog_198_method_7_code 176 = .ok (.if_icmp .le 15, 3) := by decide +kernel
theorem d1_179 : decode prog_198_method_7_code 179 = .ok (.iload_n 0, 1) := by decide +kernel
theorem d1_180 : decode prog_198_method_7_code 180 = .ok (.ldc 62, 2) := by decide +kernel
theorem d1_182 : decode prog_198_method_7_code 182 = .ok (.if_icmp .lt 13, 3) := by decide +kernel
theorem d1_185 : decode prog_198_method_7_code 185 = .ok (.iload_n 0, 1) := by decide +kernel
theorem d1_186 : decode prog_198_method_7_code 186 = .ok (.ldc 63, 2) := by decide +kernel
theorem d1_188 : decode prog_198_method_7_code 188 = .ok (.if_icmp .gt 7, 3) := by decide +kernel
theorem d1_191 : decode prog_198_method_7_code 191 = .ok (.iconst 1, 1) := by decide +kernel
theorem d1_192 : decode prog_198_method_7_code 192 = .ok (.goto 4, 3) := by decide +kernel
theorem d1_195 : decode prog_198_method_7_code 195 = .ok (.iconst 0, 1) := by decide +kernel
theorem d1_196 : decode prog_198_method_7_code 196 = .ok (.ireturn, 1) := by decide +kernel
theorem pn_rm_isn : plainName "com/example/nano_xpath/nanoxpath/XmlNames" = true := by first | (simp [plainName, overriddenIn]; done) | decide +kernel
theorem ef_rm_isn (m : MethodId) (vc : Int32) : entryFrame m #[(.int vc)] 1 = mkF m 0 #[.val (.int vc)] [] := by first | (simp [entryFrame, mkF, argsToLocals, Value.category]; done) | rfl
def Q_isn (Z : State) (vc : Int32) (h0 : Heap) (n0 : Nat) (v : Option Value) (h : Heap) (L : List Loc) : Prop := v = some (.int (own_isn vc)) ∧ Fr n0 L ∧ h = h0
set_option maxRecDepth 65536 in
set_option maxHeartbeats 40000000 in
theorem rm_isn (l : Launch) (Z : State) (a0 : Array Value) (hw : ∀ d ∈ tables_1, d.before a0 Z = true) (ws : List Jvm.Cond) (vc : Int32) (h0 : Heap) (n0 : Nat) (Z0 : n0 ≤ h0.size) :
    MetFree l (⟨"com/example/nano_xpath/nanoxpath/XmlNames", "isNameStartCharacter", "(I)Z"⟩ : MethodName) (head1 (Jvm.Cond.code (⟨"com/example/nano_xpath/nanoxpath/XmlNames", "isNameStartCharacter", "(I)Z"⟩ : MethodName) prog_198_method_7_code 1 (some .boolean) :: ws) ({ frames := 0, cells := 0, slots := 0, locals := 0 } : Room)) (fun a U => a = #[(.int vc)] ∧ Z.Warmed39 U.vm ∧ U.heap = h0) (fun _ _ _ _ _ => True) (fun _ U o U' => ∃ v L, o = .returned v ∧ Q_isn Z vc h0 n0 v U'.heap L ∧ FrameEnd U o U' L ({ frames := 0, cells := 0, slots := 0, locals := 0 } : Room).cells ({ frames := 0, cells := 0, slots := 0, locals := 0 } : Room).slots) := by
  refine MetFree.of_bodySF (plainFor_of_name pn_rm_isn) hisR ?_
  intro p e s m args below meth c s₁ Bd hml0 hP hK
  obtain ⟨rfl, hZ, hh⟩ := hP
  have hx := Bd.exec
  have hby := Bd.bytes
  have hml : c.maxLocals = 1 := hml0
  have hown : s.vm.findClass "com/example/nano_xpath/nanoxpath/XmlNames" = some m.cls := findClass_of_methodNamed Bd.named
  have hnm := (name_of_methodNamed Bd.named Bd.method).1
  have X0 : Stand p l e ({ frames := 0, cells := 0, slots := 0, locals := 0 } : Room) s m #[(.int vc)] below meth c s₁ [] 0 0 := Stand.of_body Bd
  have e0 : s₁.heap = h0 := by rw [← hh, Bd.state]; rfl
  have N0 := Fr.nil n0
  have pre0 : ∀ t, Steps p.tables e below (s₁.setTop (mkF m 0 #[.val (.int vc)] [])) t → Steps p.tables e below (s₁.setTop (entryFrame m #[(.int vc)] 1)) t := fun t k => castTop (ef_rm_isn m vc) k
  by_cases hC0 : (65 ≤ vc.toInt ∧ vc.toInt ≤ 90)
  · have pre1 : ∀ t, Steps p.tables e below (s₁.setTop (mkF m 3 #[.val (.int vc)] [(.int (65 : Int32)), (.int vc)])) t → Steps p.tables e below (s₁.setTop (entryFrame m #[(.int vc)] 1)) t := by
      intro t k
      refine pre0 t ?_
      show Steps p.tables e below (s₁.setTop (mkF m 0 #[.val (.int vc)] [])) _
      refine XS.iloadN X0.here hx rfl (hb hby d1_0) rfl ?_
      show Steps p.tables e below (s₁.setTop (mkF m 1 #[.val (.int vc)] [(.int vc)])) _
      refine XS.bipush X0.here hx rfl (hb hby d1_1) ?_
      show Steps p.tables e below (s₁.setTop (mkF m 3 #[.val (.int vc)] [(.int (65 : Int32)), (.int vc)])) _
      exact k
    have hd2 : ¬ (vc < (65 : Int32)) := own_mk_nlt (K := 65) (by omega) (by decide)
    have pre3 : ∀ t, Steps p.tables e below (s₁.setTop (mkF m 9 #[.val (.int vc)] [(.int (90 : Int32)), (.int vc)])) t → Steps p.tables e below (s₁.setTop (entryFrame m #[(.int vc)] 1)) t := by
      intro t k
      refine pre1 t ?_
      show Steps p.tables e below (s₁.setTop (mkF m 3 #[.val (.int vc)] [(.int (65 : Int32)), (.int vc)])) _
      refine XS.icmpNo X0.here hx rfl (hb hby d1_3) rfl (flt hd2).1 ?_
      show Steps p.tables e below (s₁.setTop (mkF m 6 #[.val (.int vc)] [])) _
      refine XS.iloadN X0.here hx rfl (hb hby d1_6) rfl ?_
      show Steps p.tables e below (s₁.setTop (mkF m 7 #[.val (.int vc)] [(.int vc)])) _
      refine XS.bipush X0.here hx rfl (hb hby d1_7) ?_
      show Steps p.tables e below (s₁.setTop (mkF m 9 #[.val (.int vc)] [(.int (90 : Int32)), (.int vc)])) _
      exact k
    have hd4 : ¬ ((90 : Int32) < vc) := own_mk_ngt (K := 90) (by omega) (by decide)
    obtain ⟨fs, hr, hrun, hended, hW, hsame⟩ := X0.leave (v := some (.int (1 : Int32))) (fun h => by rw [Bd.returns] at h; cases h)
    refine ⟨_, _, pre3 _ ?_, hrun, hended, _, _, rfl, ?_, ⟨_, rfl⟩, hW, hsame.mono (by decide) (by decide)⟩
    · show Steps p.tables e below (s₁.setTop (mkF m 9 #[.val (.int vc)] [(.int (90 : Int32)), (.int vc)])) _
      refine XS.icmpYes X0.here hx rfl (pc0 := 9) (pc' := 191) rfl (hb hby d1_9) rfl (flt hd4).2.2.2 (by decide) (by decide) ?_
      show Steps p.tables e below (s₁.setTop (mkF m 191 #[.val (.int vc)] [])) _
      refine XS.iconst X0.here hx rfl (hb hby d1_191) ?_
      show Steps p.tables e below (s₁.setTop (mkF m 192 #[.val (.int vc)] [(.int (1 : Int32))])) _
      refine XS.goto X0.here hx rfl (pc0 := 192) (pc' := 196) rfl (hb hby d1_192) (by decide) (by decide) ?_
      show Steps p.tables e below (s₁.setTop (mkF m 196 #[.val (.int vc)] [(.int (1 : Int32))])) _
      exact retN X0 hx (t := .boolean) Bd.returns (by simp) (hb hby d1_196) hr
    · show Q_isn Z vc h0 n0 _ s₁.heap _
      rw [e0]
      exact ⟨by rw [own_isn, if_pos (Or.inl hC0)], N0, rfl⟩
  · obtain ⟨T5, lo5, X5, Nj5, ej5, hj5, pre5⟩ : ∃  (T' : State) (lo : List Loc), Stand p l e ({ frames := 0, cells := 0, slots := 0, locals := 0 } : Room) s m #[(.int vc)] below meth c T' lo 0 0 ∧ Fr n0 lo ∧ T'.heap = h0 ∧ (True) ∧ ∀ t, Steps p.tables e below (T'.setTop (mkF m 12 #[.val (.int vc)] [])) t → Steps p.tables e below (s₁.setTop (entryFrame m #[(.int vc)] 1)) t := by
      have pre6 : ∀ t, Steps p.tables e below (s₁.setTop (mkF m 3 #[.val (.int vc)] [(.int (65 : Int32)), (.int vc)])) t → Steps p.tables e below (s₁.setTop (entryFrame m #[(.int vc)] 1)) t := by
        intro t k
        refine pre0 t ?_
        show Steps p.tables e below (s₁.setTop (mkF m 0 #[.val (.int vc)] [])) _
        refine XS.iloadN X0.here hx rfl (hb hby d1_0) rfl ?_
        show Steps p.tables e below (s₁.setTop (mkF m 1 #[.val (.int vc)] [(.int vc)])) _
        refine XS.bipush X0.here hx rfl (hb hby d1_1) ?_
        show Steps p.tables e below (s₁.setTop (mkF m 3 #[.val (.int vc)] [(.int (65 : Int32)), (.int vc)])) _
        exact k
      by_cases hc7 : vc < (65 : Int32)
      · have hz7 := own_lt (K := 65) hc7 (by decide)
        refine ⟨s₁, _, X0, N0, e0, trivial, fun t k => ?_⟩
        refine pre6 t ?_
        show Steps p.tables e below (s₁.setTop (mkF m 3 #[.val (.int vc)] [(.int (65 : Int32)), (.int vc)])) _
        refine XS.icmpYes X0.here hx rfl (pc0 := 3) (pc' := 12) rfl (hb hby d1_3) rfl (tlt hc7).1 (by decide) (by decide) ?_
        show Steps p.tables e below (s₁.setTop (mkF m 12 #[.val (.int vc)] [])) _
        exact k
      · have hz7 := own_nlt (K := 65) hc7 (by decide)
        have pre8 : ∀ t, Steps p.tables e below (s₁.setTop (mkF m 9 #[.val (.int vc)] [(.int (90 : Int32)), (.int vc)])) t → Steps p.tables e below (s₁.setTop (entryFrame m #[(.int vc)] 1)) t := by
          intro t k
          refine pre6 t ?_
          show Steps p.tables e below (s₁.setTop (mkF m 3 #[.val (.int vc)] [(.int (65 : Int32)), (.int vc)])) _
          refine XS.icmpNo X0.here hx rfl (hb hby d1_3) rfl (flt hc7).1 ?_
          show Steps p.tables e below (s₁.setTop (mkF m 6 #[.val (.int vc)] [])) _
          refine XS.iloadN X0.here hx rfl (hb hby d1_6) rfl ?_
          show Steps p.tables e below (s₁.setTop (mkF m 7 #[.val (.int vc)] [(.int vc)])) _
          refine XS.bipush X0.here hx rfl (hb hby d1_7) ?_
          show Steps p.tables e below (s₁.setTop (mkF m 9 #[.val (.int vc)] [(.int (90 : Int32)), (.int vc)])) _
          exact k
        have hd9 : (90 : Int32) < vc := own_mk_gt (K := 90) (by omega) (by decide)
        refine ⟨s₁, _, X0, N0, e0, trivial, fun t k => ?_⟩
        refine pre8 t ?_
        show Steps p.tables e below (s₁.setTop (mkF m 9 #[.val (.int vc)] [(.int (90 : Int32)), (.int vc)])) _
        refine XS.icmpNo X0.here hx rfl (hb hby d1_9) rfl (tlt hd9).2.2.2 ?_
        show Steps p.tables e below (s₁.setTop (mkF m 12 #[.val (.int vc)] [])) _
        exact k
    by_cases hC1 : vc.toInt = 95
    · have pre10 : ∀ t, Steps p.tables e below (T5.setTop (mkF m 15 #[.val (.int vc)] [(.int (95 : Int32)), (.int vc)])) t → Steps p.tables e below (s₁.setTop (entryFrame m #[(.int vc)] 1)) t := by
        intro t k
        refine pre5 t ?_
        show Steps p.tables e below (T5.setTop (mkF m 12 #[.val (.int vc)] [])) _
        refine XS.iloadN X5.here hx rfl (hb hby d1_12) rfl ?_
        show Steps p.tables e below (T5.setTop (mkF m 13 #[.val (.int vc)] [(.int vc)])) _
        refine XS.bipush X5.here hx rfl (hb hby d1_13) ?_
        show Steps p.tables e below (T5.setTop (mkF m 15 #[.val (.int vc)] [(.int (95 : Int32)), (.int vc)])) _
        exact k
      have hd11 : vc = (95 : Int32) := own_mk_eq (K := 95) (by omega) (by decide)
      obtain ⟨fs, hr, hrun, hended, hW, hsame⟩ := X5.leave (v := some (.int (1 : Int32))) (fun h => by rw [Bd.returns] at h; cases h)
      refine ⟨_, _, pre10 _ ?_, hrun, hended, _, _, rfl, ?_, ⟨_, rfl⟩, hW, hsame.mono (by decide) (by decide)⟩
      · show Steps p.tables e below (T5.setTop (mkF m 15 #[.val (.int vc)] [(.int (95 : Int32)), (.int vc)])) _
        refine XS.icmpYes X5.here hx rfl (pc0 := 15) (pc' := 191) rfl (hb hby d1_15) rfl (teq hd11).1 (by decide) (by decide) ?_
        show Steps p.tables e below (T5.setTop (mkF m 191 #[.val (.int vc)] [])) _
        refine XS.iconst X5.here hx rfl (hb hby d1_191) ?_
        show Steps p.tables e below (T5.setTop (mkF m 192 #[.val (.int vc)] [(.int (1 : Int32))])) _
        refine XS.goto X5.here hx rfl (pc0 := 192) (pc' := 196) rfl (hb hby d1_192) (by decide) (by decide) ?_
        show Steps p.tables e below (T5.setTop (mkF m 196 #[.val (.int vc)] [(.int (1 : Int32))])) _
        exact retN X5 hx (t := .boolean) Bd.returns (by simp) (hb hby d1_196) hr
      · show Q_isn Z vc h0 n0 _ T5.heap _
        rw [ej5]
        exact ⟨by rw [own_isn, if_pos (Or.inr (Or.inl hC1))], Nj5, rfl⟩
    · obtain ⟨T12, lo12, X12, Nj12, ej12, hj12, pre12⟩ : ∃  (T' : State) (lo : List Loc), Stand p l e ({ frames := 0, cells := 0, slots := 0, locals := 0 } : Room) s m #[(.int vc)] below meth c T' lo 0 0 ∧ Fr n0 lo ∧ T'.heap = h0 ∧ (True) ∧ ∀ t, Steps p.tables e below (T'.setTop (mkF m 18 #[.val (.int vc)] [])) t → Steps p.tables e below (s₁.setTop (entryFrame m #[(.int vc)] 1)) t := by
        have pre13 : ∀ t, Steps p.tables e below (T5.setTop (mkF m 15 #[.val (.int vc)] [(.int (95 : Int32)), (.int vc)])) t → Steps p.tables e below (s₁.setTop (entryFrame m #[(.int vc)] 1)) t := by
          intro t k
          refine pre5 t ?_
          show Steps p.tables e below (T5.setTop (mkF m 12 #[.val (.int vc)] [])) _
          refine XS.iloadN X5.here hx rfl (hb hby d1_12) rfl ?_
          show Steps p.tables e below (T5.setTop (mkF m 13 #[.val (.int vc)] [(.int vc)])) _
          refine XS.bipush X5.here hx rfl (hb hby d1_13) ?_
          show Steps p.tables e below (T5.setTop (mkF m 15 #[.val (.int vc)] [(.int (95 : Int32)), (.int vc)])) _
          exact k
        have hd14 : ¬ (vc = (95 : Int32)) := own_mk_neq (K := 95) (by omega) (by decide)
        refine ⟨T5, _, X5, Nj5, ej5, trivial, fun t k => ?_⟩
        refine pre13 t ?_
        show Steps p.tables e below (T5.setTop (mkF m 15 #[.val (.int vc)] [(.int (95 : Int32)), (.int vc)])) _
        refine XS.icmpNo X5.here hx rfl (hb hby d1_15) rfl (feq hd14).1 ?_
        show Steps p.tables e below (T5.setTop (mkF m 18 #[.val (.int vc)] [])) _
        exact k
      by_cases hC2 : (97 ≤ vc.toInt ∧ vc.toInt ≤ 122)
      · have pre15 : ∀ t, Steps p.tables e below (T12.setTop (mkF m 21 #[.val (.int vc)] [(.int (97 : Int32)), (.int vc)])) t → Steps p.tables e below (s₁.setTop (entryFrame m #[(.int vc)] 1)) t := by
          intro t k
          refine pre12 t ?_
          show Steps p.tables e below (T12.setTop (mkF m 18 #[.val (.int vc)] [])) _
          refine XS.iloadN X12.here hx rfl (hb hby d1_18) rfl ?_
          show Steps p.tables e below (T12.setTop (mkF m 19 #[.val (.int vc)] [(.int vc)])) _
          refine XS.bipush X12.here hx rfl (hb hby d1_19) ?_
          show Steps p.tables e below (T12.setTop (mkF m 21 #[.val (.int vc)] [(.int (97 : Int32)), (.int vc)])) _
          exact k
        have hd16 : ¬ (vc < (97 : Int32)) := own_mk_nlt (K := 97) (by omega) (by decide)
        have pre17 : ∀ t, Steps p.tables e below (T12.setTop (mkF m 27 #[.val (.int vc)] [(.int (122 : Int32)), (.int vc)])) t → Steps p.tables e below (s₁.setTop (entryFrame m #[(.int vc)] 1)) t := by
          intro t k
          refine pre15 t ?_
          show Steps p.tables e below (T12.setTop (mkF m 21 #[.val (.int vc)] [(.int (97 : Int32)), (.int vc)])) _
          refine XS.icmpNo X12.here hx rfl (hb hby d1_21) rfl (flt hd16).1 ?_
          show Steps p.tables e below (T12.setTop (mkF m 24 #[.val (.int vc)] [])) _
          refine XS.iloadN X12.here hx rfl (hb hby d1_24) rfl ?_
          show Steps p.tables e below (T12.setTop (mkF m 25 #[.val (.int vc)] [(.int vc)])) _
          refine XS.bipush X12.here hx rfl (hb hby d1_25) ?_
          show Steps p.tables e below (T12.setTop (mkF m 27 #[.val (.int vc)] [(.int (122 : Int32)), (.int vc)])) _
          exact k
        have hd18 : ¬ ((122 : Int32) < vc) := own_mk_ngt (K := 122) (by omega) (by decide)
        obtain ⟨fs, hr, hrun, hended, hW, hsame⟩ := X12.leave (v := some (.int (1 : Int32))) (fun h => by rw [Bd.returns] at h; cases h)
        refine ⟨_, _, pre17 _ ?_, hrun, hended, _, _, rfl, ?_, ⟨_, rfl⟩, hW, hsame.mono (by decide) (by decide)⟩
        · show Steps p.tables e below (T12.setTop (mkF m 27 #[.val (.int vc)] [(.int (122 : Int32)), (.int vc)])) _
          refine XS.icmpYes X12.here hx rfl (pc0 := 27) (pc' := 191) rfl (hb hby d1_27) rfl (flt hd18).2.2.2 (by decide) (by decide) ?_
          show Steps p.tables e below (T12.setTop (mkF m 191 #[.val (.int vc)] [])) _
          refine XS.iconst X12.here hx rfl (hb hby d1_191) ?_
          show Steps p.tables e below (T12.setTop (mkF m 192 #[.val (.int vc)] [(.int (1 : Int32))])) _
          refine XS.goto X12.here hx rfl (pc0 := 192) (pc' := 196) rfl (hb hby d1_192) (by decide) (by decide) ?_
          show Steps p.tables e below (T12.setTop (mkF m 196 #[.val (.int vc)] [(.int (1 : Int32))])) _
          exact retN X12 hx (t := .boolean) Bd.returns (by simp) (hb hby d1_196) hr
        · show Q_isn Z vc h0 n0 _ T12.heap _
          rw [ej12]
          exact ⟨by rw [own_isn, if_pos (Or.inr (Or.inr (Or.inl hC2)))], Nj12, rfl⟩
      · obtain ⟨T19, lo19, X19, Nj19, ej19, hj19, pre19⟩ : ∃  (T' : State) (lo : List Loc), Stand p l e ({ frames := 0, cells := 0, slots := 0, locals := 0 } : Room) s m #[(.int vc)] below meth c T' lo 0 0 ∧ Fr n0 lo ∧ T'.heap = h0 ∧ (True) ∧ ∀ t, Steps p.tables e below (T'.setTop (mkF m 30 #[.val (.int vc)] [])) t → Steps p.tables e below (s₁.setTop (entryFrame m #[(.int vc)] 1)) t := by
          have pre20 : ∀ t, Steps p.tables e below (T12.setTop (mkF m 21 #[.val (.int vc)] [(.int (97 : Int32)), (.int vc)])) t → Steps p.tables e below (s₁.setTop (entryFrame m #[(.int vc)] 1)) t := by
            intro t k
            refine pre12 t ?_
            show Steps p.tables e below (T12.setTop (mkF m 18 #[.val (.int vc)] [])) _
            refine XS.iloadN X12.here hx rfl (hb hby d1_18) rfl ?_
            show Steps p.tables e below (T12.setTop (mkF m 19 #[.val (.int vc)] [(.int vc)])) _
            refine XS.bipush X12.here hx rfl (hb hby d1_19) ?_
            show Steps p.tables e below (T12.setTop (mkF m 21 #[.val (.int vc)] [(.int (97 : Int32)), (.int vc)])) _
            exact k
          by_cases hc21 : vc < (97 : Int32)
          · have hz21 := own_lt (K := 97) hc21 (by decide)
            refine ⟨T12, _, X12, Nj12, ej12, trivial, fun t k => ?_⟩
            refine pre20 t ?_
            show Steps p.tables e below (T12.setTop (mkF m 21 #[.val (.int vc)] [(.int (97 : Int32)), (.int vc)])) _
            refine XS.icmpYes X12.here hx rfl (pc0 := 21) (pc' := 30) rfl (hb hby d1_21) rfl (tlt hc21).1 (by decide) (by decide) ?_
            show Steps p.tables e below (T12.setTop (mkF m 30 #[.val (.int vc)] [])) _
            exact k
          · have hz21 := own_nlt (K := 97) hc21 (by decide)
            have pre22 : ∀ t, Steps p.tables e below (T12.setTop (mkF m 27 #[.val (.int vc)] [(.int (122 : Int32)), (.int vc)])) t → Steps p.tables e below (s₁.setTop (entryFrame m #[(.int vc)] 1)) t := by
              intro t k
              refine pre20 t ?_
              show Steps p.tables e below (T12.setTop (mkF m 21 #[.val (.int vc)] [(.int (97 : Int32)), (.int vc)])) _
              refine XS.icmpNo X12.here hx rfl (hb hby d1_21) rfl (flt hc21).1 ?_
              show Steps p.tables e below (T12.setTop (mkF m 24 #[.val (.int vc)] [])) _
              refine XS.iloadN X12.here hx rfl (hb hby d1_24) rfl ?_
              show Steps p.tables e below (T12.setTop (mkF m 25 #[.val (.int vc)] [(.int vc)])) _
              refine XS.bipush X12.here hx rfl (hb hby d1_25) ?_
              show Steps p.tables e below (T12.setTop (mkF m 27 #[.val (.int vc)] [(.int (122 : Int32)), (.int vc)])) _
              exact k
            have hd23 : (122 : Int32) < vc := own_mk_gt (K := 122) (by omega) (by decide)
            refine ⟨T12, _, X12, Nj12, ej12, trivial, fun t k => ?_⟩
            refine pre22 t ?_
            show Steps p.tables e below (T12.setTop (mkF m 27 #[.val (.int vc)] [(.int (122 : Int32)), (.int vc)])) _
            refine XS.icmpNo X12.here hx rfl (hb hby d1_27) rfl (tlt hd23).2.2.2 ?_
            show Steps p.tables e below (T12.setTop (mkF m 30 #[.val (.int vc)] [])) _
            exact k
        by_cases hC3 : (192 ≤ vc.toInt ∧ vc.toInt ≤ 214)
        · have pre24 : ∀ t, Steps p.tables e below (T19.setTop (mkF m 34 #[.val (.int vc)] [(.int (192 : Int32)), (.int vc)])) t → Steps p.tables e below (s₁.setTop (entryFrame m #[(.int vc)] 1)) t := by
            intro t k
            refine pre19 t ?_
            show Steps p.tables e below (T19.setTop (mkF m 30 #[.val (.int vc)] [])) _
            refine XS.iloadN X19.here hx rfl (hb hby d1_30) rfl ?_
            show Steps p.tables e below (T19.setTop (mkF m 31 #[.val (.int vc)] [(.int vc)])) _
            refine XS.sipush X19.here hx rfl (hb hby d1_31) ?_
            show Steps p.tables e below (T19.setTop (mkF m 34 #[.val (.int vc)] [(.int (192 : Int32)), (.int vc)])) _
            exact k
          have hd25 : ¬ (vc < (192 : Int32)) := own_mk_nlt (K := 192) (by omega) (by decide)
          have pre26 : ∀ t, Steps p.tables e below (T19.setTop (mkF m 41 #[.val (.int vc)] [(.int (214 : Int32)), (.int vc)])) t → Steps p.tables e below (s₁.setTop (entryFrame m #[(.int vc)] 1)) t := by
            intro t k
            refine pre24 t ?_
            show Steps p.tables e below (T19.setTop (mkF m 34 #[.val (.int vc)] [(.int (192 : Int32)), (.int vc)])) _
            refine XS.icmpNo X19.here hx rfl (hb hby d1_34) rfl (flt hd25).1 ?_
            show Steps p.tables e below (T19.setTop (mkF m 37 #[.val (.int vc)] [])) _
            refine XS.iloadN X19.here hx rfl (hb hby d1_37) rfl ?_
            show Steps p.tables e below (T19.setTop (mkF m 38 #[.val (.int vc)] [(.int vc)])) _
            refine XS.sipush X19.here hx rfl (hb hby d1_38) ?_
            show Steps p.tables e below (T19.setTop (mkF m 41 #[.val (.int vc)] [(.int (214 : Int32)), (.int vc)])) _
            exact k
          have hd27 : ¬ ((214 : Int32) < vc) := own_mk_ngt (K := 214) (by omega) (by decide)
          obtain ⟨fs, hr, hrun, hended, hW, hsame⟩ := X19.leave (v := some (.int (1 : Int32))) (fun h => by rw [Bd.returns] at h; cases h)
          refine ⟨_, _, pre26 _ ?_, hrun, hended, _, _, rfl, ?_, ⟨_, rfl⟩, hW, hsame.mono (by decide) (by decide)⟩
          · show Steps p.tables e below (T19.setTop (mkF m 41 #[.val (.int vc)] [(.int (214 : Int32)), (.int vc)])) _
            refine XS.icmpYes X19.here hx rfl (pc0 := 41) (pc' := 191) rfl (hb hby d1_41) rfl (flt hd27).2.2.2 (by decide) (by decide) ?_
            show Steps p.tables e below (T19.setTop (mkF m 191 #[.val (.int vc)] [])) _
            refine XS.iconst X19.here hx rfl (hb hby d1_191) ?_
            show Steps p.tables e below (T19.setTop (mkF m 192 #[.val (.int vc)] [(.int (1 : Int32))])) _
            refine XS.goto X19.here hx rfl (pc0 := 192) (pc' := 196) rfl (hb hby d1_192) (by decide) (by decide) ?_
            show Steps p.tables e below (T19.setTop (mkF m 196 #[.val (.int vc)] [(.int (1 : Int32))])) _
            exact retN X19 hx (t := .boolean) Bd.returns (by simp) (hb hby d1_196) hr
          · show Q_isn Z vc h0 n0 _ T19.heap _
            rw [ej19]
            exact ⟨by rw [own_isn, if_pos (Or.inr (Or.inr (Or.inr (Or.inl hC3))))], Nj19, rfl⟩
        · obtain ⟨T28, lo28, X28, Nj28, ej28, hj28, pre28⟩ : ∃  (T' : State) (lo : List Loc), Stand p l e ({ frames := 0, cells := 0, slots := 0, locals := 0 } : Room) s m #[(.int vc)] below meth c T' lo 0 0 ∧ Fr n0 lo ∧ T'.heap = h0 ∧ (True) ∧ ∀ t, Steps p.tables e below (T'.setTop (mkF m 44 #[.val (.int vc)] [])) t → Steps p.tables e below (s₁.setTop (entryFrame m #[(.int vc)] 1)) t := by
            have pre29 : ∀ t, Steps p.tables e below (T19.setTop (mkF m 34 #[.val (.int vc)] [(.int (192 : Int32)), (.int vc)])) t → Steps p.tables e below (s₁.setTop (entryFrame m #[(.int vc)] 1)) t := by
              intro t k
              refine pre19 t ?_
              show Steps p.tables e below (T19.setTop (mkF m 30 #[.val (.int vc)] [])) _
              refine XS.iloadN X19.here hx rfl (hb hby d1_30) rfl ?_
              show Steps p.tables e below (T19.setTop (mkF m 31 #[.val (.int vc)] [(.int vc)])) _
              refine XS.sipush X19.here hx rfl (hb hby d1_31) ?_
              show Steps p.tables e below (T19.setTop (mkF m 34 #[.val (.int vc)] [(.int (192 : Int32)), (.int vc)])) _
              exact k
            by_cases hc30 : vc < (192 : Int32)
            · have hz30 := own_lt (K := 192) hc30 (by decide)
              refine ⟨T19, _, X19, Nj19, ej19, trivial, fun t k => ?_⟩
              refine pre29 t ?_
              show Steps p.tables e below (T19.setTop (mkF m 34 #[.val (.int vc)] [(.int (192 : Int32)), (.int vc)])) _
              refine XS.icmpYes X19.here hx rfl (pc0 := 34) (pc' := 44) rfl (hb hby d1_34) rfl (tlt hc30).1 (by decide) (by decide) ?_
              show Steps p.tables e below (T19.setTop (mkF m 44 #[.val (.int vc)] [])) _
              exact k
            · have hz30 := own_nlt (K := 192) hc30 (by decide)
              have pre31 : ∀ t, Steps p.tables e below (T19.setTop (mkF m 41 #[.val (.int vc)] [(.int (214 : Int32)), (.int vc)])) t → Steps p.tables e below (s₁.setTop (entryFrame m #[(.int vc)] 1)) t := by
                intro t k
                refine pre29 t ?_
                show Steps p.tables e below (T19.setTop (mkF m 34 #[.val (.int vc)] [(.int (192 : Int32)), (.int vc)])) _
                refine XS.icmpNo X19.here hx rfl (hb hby d1_34) rfl (flt hc30).1 ?_
                show Steps p.tables e below (T19.setTop (mkF m 37 #[.val (.int vc)] [])) _
                refine XS.iloadN X19.here hx rfl (hb hby d1_37) rfl ?_
                show Steps p.tables e below (T19.setTop (mkF m 38 #[.val (.int vc)] [(.int vc)])) _
                refine XS.sipush X19.here hx rfl (hb hby d1_38) ?_
                show Steps p.tables e below (T19.setTop (mkF m 41 #[.val (.int vc)] [(.int (214 : Int32)), (.int vc)])) _
                exact k
              have hd32 : (214 : Int32) < vc := own_mk_gt (K := 214) (by omega) (by decide)
              refine ⟨T19, _, X19, Nj19, ej19, trivial, fun t k => ?_⟩
              refine pre31 t ?_
              show Steps p.tables e below (T19.setTop (mkF m 41 #[.val (.int vc)] [(.int (214 : Int32)), (.int vc)])) _
              refine XS.icmpNo X19.here hx rfl (hb hby d1_41) rfl (tlt hd32).2.2.2 ?_
              show Steps p.tables e below (T19.setTop (mkF m 44 #[.val (.int vc)] [])) _
              exact k
          by_cases hC4 : (216 ≤ vc.toInt ∧ vc.toInt ≤ 246)
          · have pre33 : ∀ t, Steps p.tables e below (T28.setTop (mkF m 48 #[.val (.int vc)] [(.int (216 : Int32)), (.int vc)])) t → Steps p.tables e below (s₁.setTop (entryFrame m #[(.int vc)] 1)) t := by
              intro t k
              refine pre28 t ?_
              show Steps p.tables e below (T28.setTop (mkF m 44 #[.val (.int vc)] [])) _
              refine XS.iloadN X28.here hx rfl (hb hby d1_44) rfl ?_
              show Steps p.tables e below (T28.setTop (mkF m 45 #[.val (.int vc)] [(.int vc)])) _
              refine XS.sipush X28.here hx rfl (hb hby d1_45) ?_
              show Steps p.tables e below (T28.setTop (mkF m 48 #[.val (.int vc)] [(.int (216 : Int32)), (.int vc)])) _
              exact k
            have hd34 : ¬ (vc < (216 : Int32)) := own_mk_nlt (K := 216) (by omega) (by decide)
            have pre35 : ∀ t, Steps p.tables e below (T28.setTop (mkF m 55 #[.val (.int vc)] [(.int (246 : Int32)), (.int vc)])) t → Steps p.tables e below (s₁.setTop (entryFrame m #[(.int vc)] 1)) t := by
              intro t k
              refine pre33 t ?_
              show Steps p.tables e below (T28.setTop (mkF m 48 #[.val (.int vc)] [(.int (216 : Int32)), (.int vc)])) _
              refine XS.icmpNo X28.here hx rfl (hb hby d1_48) rfl (flt hd34).1 ?_
              show Steps p.tables e below (T28.setTop (mkF m 51 #[.val (.int vc)] [])) _
              refine XS.iloadN X28.here hx rfl (hb hby d1_51) rfl ?_
              show Steps p.tables e below (T28.setTop (mkF m 52 #[.val (.int vc)] [(.int vc)])) _
              refine XS.sipush X28.here hx rfl (hb hby d1_52) ?_
              show Steps p.tables e below (T28.setTop (mkF m 55 #[.val (.int vc)] [(.int (246 : Int32)), (.int vc)])) _
              exact k
            have hd36 : ¬ ((246 : Int32) < vc) := own_mk_ngt (K := 246) (by omega) (by decide)
            obtain ⟨fs, hr, hrun, hended, hW, hsame⟩ := X28.leave (v := some (.int (1 : Int32))) (fun h => by rw [Bd.returns] at h; cases h)
            refine ⟨_, _, pre35 _ ?_, hrun, hended, _, _, rfl, ?_, ⟨_, rfl⟩, hW, hsame.mono (by decide) (by decide)⟩
            · show Steps p.tables e below (T28.setTop (mkF m 55 #[.val (.int vc)] [(.int (246 : Int32)), (.int vc)])) _
              refine XS.icmpYes X28.here hx rfl (pc0 := 55) (pc' := 191) rfl (hb hby d1_55) rfl (flt hd36).2.2.2 (by decide) (by decide) ?_
              show Steps p.tables e below (T28.setTop (mkF m 191 #[.val (.int vc)] [])) _
              refine XS.iconst X28.here hx rfl (hb hby d1_191) ?_
              show Steps p.tables e below (T28.setTop (mkF m 192 #[.val (.int vc)] [(.int (1 : Int32))])) _
              refine XS.goto X28.here hx rfl (pc0 := 192) (pc' := 196) rfl (hb hby d1_192) (by decide) (by decide) ?_
              show Steps p.tables e below (T28.setTop (mkF m 196 #[.val (.int vc)] [(.int (1 : Int32))])) _
              exact retN X28 hx (t := .boolean) Bd.returns (by simp) (hb hby d1_196) hr
            · show Q_isn Z vc h0 n0 _ T28.heap _
              rw [ej28]
              exact ⟨by rw [own_isn, if_pos (Or.inr (Or.inr (Or.inr (Or.inr (Or.inl hC4)))))], Nj28, rfl⟩
          · obtain ⟨T37, lo37, X37, Nj37, ej37, hj37, pre37⟩ : ∃  (T' : State) (lo : List Loc), Stand p l e ({ frames := 0, cells := 0, slots := 0, locals := 0 } : Room) s m #[(.int vc)] below meth c T' lo 0 0 ∧ Fr n0 lo ∧ T'.heap = h0 ∧ (True) ∧ ∀ t, Steps p.tables e below (T'.setTop (mkF m 58 #[.val (.int vc)] [])) t → Steps p.tables e below (s₁.setTop (entryFrame m #[(.int vc)] 1)) t := by
              have pre38 : ∀ t, Steps p.tables e below (T28.setTop (mkF m 48 #[.val (.int vc)] [(.int (216 : Int32)), (.int vc)])) t → Steps p.tables e below (s₁.setTop (entryFrame m #[(.int vc)] 1)) t := by
                intro t k
                refine pre28 t ?_
                show Steps p.tables e below (T28.setTop (mkF m 44 #[.val (.int vc)] [])) _
                refine XS.iloadN X28.here hx rfl (hb hby d1_44) rfl ?_
                show Steps p.tables e below (T28.setTop (mkF m 45 #[.val (.int vc)] [(.int vc)])) _
                refine XS.sipush X28.here hx rfl (hb hby d1_45) ?_
                show Steps p.tables e below (T28.setTop (mkF m 48 #[.val (.int vc)] [(.int (216 : Int32)), (.int vc)])) _
                exact k
              by_cases hc39 : vc < (216 : Int32)
              · have hz39 := own_lt (K := 216) hc39 (by decide)
                refine ⟨T28, _, X28, Nj28, ej28, trivial, fun t k => ?_⟩
                refine pre38 t ?_
                show Steps p.tables e below (T28.setTop (mkF m 48 #[.val (.int vc)] [(.int (216 : Int32)), (.int vc)])) _
                refine XS.icmpYes X28.here hx rfl (pc0 := 48) (pc' := 58) rfl (hb hby d1_48) rfl (tlt hc39).1 (by decide) (by decide) ?_
                show Steps p.tables e below (T28.setTop (mkF m 58 #[.val (.int vc)] [])) _
                exact k
              · have hz39 := own_nlt (K := 216) hc39 (by decide)
                have pre40 : ∀ t, Steps p.tables e below (T28.setTop (mkF m 55 #[.val (.int vc)] [(.int (246 : Int32)), (.int vc)])) t → Steps p.tables e below (s₁.setTop (entryFrame m #[(.int vc)] 1)) t := by
                  intro t k
                  refine pre38 t ?_
                  show Steps p.tables e below (T28.setTop (mkF m 48 #[.val (.int vc)] [(.int (216 : Int32)), (.int vc)])) _
                  refine XS.icmpNo X28.here hx rfl (hb hby d1_48) rfl (flt hc39).1 ?_
                  show Steps p.tables e below (T28.setTop (mkF m 51 #[.val (.int vc)] [])) _
                  refine XS.iloadN X28.here hx rfl (hb hby d1_51) rfl ?_
                  show Steps p.tables e below (T28.setTop (mkF m 52 #[.val (.int vc)] [(.int vc)])) _
                  refine XS.sipush X28.here hx rfl (hb hby d1_52) ?_
                  show Steps p.tables e below (T28.setTop (mkF m 55 #[.val (.int vc)] [(.int (246 : Int32)), (.int vc)])) _
                  exact k
                have hd41 : (246 : Int32) < vc := own_mk_gt (K := 246) (by omega) (by decide)
                refine ⟨T28, _, X28, Nj28, ej28, trivial, fun t k => ?_⟩
                refine pre40 t ?_
                show Steps p.tables e below (T28.setTop (mkF m 55 #[.val (.int vc)] [(.int (246 : Int32)), (.int vc)])) _
                refine XS.icmpNo X28.here hx rfl (hb hby d1_55) rfl (tlt hd41).2.2.2 ?_
                show Steps p.tables e below (T28.setTop (mkF m 58 #[.val (.int vc)] [])) _
                exact k
            by_cases hC5 : (248 ≤ vc.toInt ∧ vc.toInt ≤ 767)
            · have pre42 : ∀ t, Steps p.tables e below (T37.setTop (mkF m 62 #[.val (.int vc)] [(.int (248 : Int32)), (.int vc)])) t → Steps p.tables e below (s₁.setTop (entryFrame m #[(.int vc)] 1)) t := by
                intro t k
                refine pre37 t ?_
                show Steps p.tables e below (T37.setTop (mkF m 58 #[.val (.int vc)] [])) _
                refine XS.iloadN X37.here hx rfl (hb hby d1_58) rfl ?_
                show Steps p.tables e below (T37.setTop (mkF m 59 #[.val (.int vc)] [(.int vc)])) _
                refine XS.sipush X37.here hx rfl (hb hby d1_59) ?_
                show Steps p.tables e below (T37.setTop (mkF m 62 #[.val (.int vc)] [(.int (248 : Int32)), (.int vc)])) _
                exact k
              have hd43 : ¬ (vc < (248 : Int32)) := own_mk_nlt (K := 248) (by omega) (by decide)
              have pre44 : ∀ t, Steps p.tables e below (T37.setTop (mkF m 69 #[.val (.int vc)] [(.int (767 : Int32)), (.int vc)])) t → Steps p.tables e below (s₁.setTop (entryFrame m #[(.int vc)] 1)) t := by
                intro t k
                refine pre42 t ?_
                show Steps p.tables e below (T37.setTop (mkF m 62 #[.val (.int vc)] [(.int (248 : Int32)), (.int vc)])) _
                refine XS.icmpNo X37.here hx rfl (hb hby d1_62) rfl (flt hd43).1 ?_
                show Steps p.tables e below (T37.setTop (mkF m 65 #[.val (.int vc)] [])) _
                refine XS.iloadN X37.here hx rfl (hb hby d1_65) rfl ?_
                show Steps p.tables e below (T37.setTop (mkF m 66 #[.val (.int vc)] [(.int vc)])) _
                refine XS.sipush X37.here hx rfl (hb hby d1_66) ?_
                show Steps p.tables e below (T37.setTop (mkF m 69 #[.val (.int vc)] [(.int (767 : Int32)), (.int vc)])) _
                exact k
              have hd45 : ¬ ((767 : Int32) < vc) := own_mk_ngt (K := 767) (by omega) (by decide)
              obtain ⟨fs, hr, hrun, hended, hW, hsame⟩ := X37.leave (v := some (.int (1 : Int32))) (fun h => by rw [Bd.returns] at h; cases h)
              refine ⟨_, _, pre44 _ ?_, hrun, hended, _, _, rfl, ?_, ⟨_, rfl⟩, hW, hsame.mono (by decide) (by decide)⟩
              · show Steps p.tables e below (T37.setTop (mkF m 69 #[.val (.int vc)] [(.int (767 : Int32)), (.int vc)])) _
                refine XS.icmpYes X37.here hx rfl (pc0 := 69) (pc' := 191) rfl (hb hby d1_69) rfl (flt hd45).2.2.2 (by decide) (by decide) ?_
                show Steps p.tables e below (T37.setTop (mkF m 191 #[.val (.int vc)] [])) _
                refine XS.iconst X37.here hx rfl (hb hby d1_191) ?_
                show Steps p.tables e below (T37.setTop (mkF m 192 #[.val (.int vc)] [(.int (1 : Int32))])) _
                refine XS.goto X37.here hx rfl (pc0 := 192) (pc' := 196) rfl (hb hby d1_192) (by decide) (by decide) ?_
                show Steps p.tables e below (T37.setTop (mkF m 196 #[.val (.int vc)] [(.int (1 : Int32))])) _
                exact retN X37 hx (t := .boolean) Bd.returns (by simp) (hb hby d1_196) hr
              · show Q_isn Z vc h0 n0 _ T37.heap _
                rw [ej37]
                exact ⟨by rw [own_isn, if_pos (Or.inr (Or.inr (Or.inr (Or.inr (Or.inr (Or.inl hC5))))))], Nj37, rfl⟩
            · obtain ⟨T46, lo46, X46, Nj46, ej46, hj46, pre46⟩ : ∃  (T' : State) (lo : List Loc), Stand p l e ({ frames := 0, cells := 0, slots := 0, locals := 0 } : Room) s m #[(.int vc)] below meth c T' lo 0 0 ∧ Fr n0 lo ∧ T'.heap = h0 ∧ (True) ∧ ∀ t, Steps p.tables e below (T'.setTop (mkF m 72 #[.val (.int vc)] [])) t → Steps p.tables e below (s₁.setTop (entryFrame m #[(.int vc)] 1)) t := by
                have pre47 : ∀ t, Steps p.tables e below (T37.setTop (mkF m 62 #[.val (.int vc)] [(.int (248 : Int32)), (.int vc)])) t → Steps p.tables e below (s₁.setTop (entryFrame m #[(.int vc)] 1)) t := by
                  intro t k
                  refine pre37 t ?_
                  show Steps p.tables e below (T37.setTop (mkF m 58 #[.val (.int vc)] [])) _
                  refine XS.iloadN X37.here hx rfl (hb hby d1_58) rfl ?_
                  show Steps p.tables e below (T37.setTop (mkF m 59 #[.val (.int vc)] [(.int vc)])) _
                  refine XS.sipush X37.here hx rfl (hb hby d1_59) ?_
                  show Steps p.tables e below (T37.setTop (mkF m 62 #[.val (.int vc)] [(.int (248 : Int32)), (.int vc)])) _
                  exact k
                by_cases hc48 : vc < (248 : Int32)
                · have hz48 := own_lt (K := 248) hc48 (by decide)
                  refine ⟨T37, _, X37, Nj37, ej37, trivial, fun t k => ?_⟩
                  refine pre47 t ?_
                  show Steps p.tables e below (T37.setTop (mkF m 62 #[.val (.int vc)] [(.int (248 : Int32)), (.int vc)])) _
                  refine XS.icmpYes X37.here hx rfl (pc0 := 62) (pc' := 72) rfl (hb hby d1_62) rfl (tlt hc48).1 (by decide) (by decide) ?_
                  show Steps p.tables e below (T37.setTop (mkF m 72 #[.val (.int vc)] [])) _
                  exact k
                · have hz48 := own_nlt (K := 248) hc48 (by decide)
                  have pre49 : ∀ t, Steps p.tables e below (T37.setTop (mkF m 69 #[.val (.int vc)] [(.int (767 : Int32)), (.int vc)])) t → Steps p.tables e below (s₁.setTop (entryFrame m #[(.int vc)] 1)) t := by
                    intro t k
                    refine pre47 t ?_
                    show Steps p.tables e below (T37.setTop (mkF m 62 #[.val (.int vc)] [(.int (248 : Int32)), (.int vc)])) _
                    refine XS.icmpNo X37.here hx rfl (hb hby d1_62) rfl (flt hc48).1 ?_
                    show Steps p.tables e below (T37.setTop (mkF m 65 #[.val (.int vc)] [])) _
                    refine XS.iloadN X37.here hx rfl (hb hby d1_65) rfl ?_
                    show Steps p.tables e below (T37.setTop (mkF m 66 #[.val (.int vc)] [(.int vc)])) _
                    refine XS.sipush X37.here hx rfl (hb hby d1_66) ?_
                    show Steps p.tables e below (T37.setTop (mkF m 69 #[.val (.int vc)] [(.int (767 : Int32)), (.int vc)])) _
                    exact k
                  have hd50 : (767 : Int32) < vc := own_mk_gt (K := 767) (by omega) (by decide)
                  refine ⟨T37, _, X37, Nj37, ej37, trivial, fun t k => ?_⟩
                  refine pre49 t ?_
                  show Steps p.tables e below (T37.setTop (mkF m 69 #[.val (.int vc)] [(.int (767 : Int32)), (.int vc)])) _
                  refine XS.icmpNo X37.here hx rfl (hb hby d1_69) rfl (tlt hd50).2.2.2 ?_
                  show Steps p.tables e below (T37.setTop (mkF m 72 #[.val (.int vc)] [])) _
                  exact k
              by_cases hC6 : (880 ≤ vc.toInt ∧ vc.toInt ≤ 893)
              · have pre51 : ∀ t, Steps p.tables e below (T46.setTop (mkF m 76 #[.val (.int vc)] [(.int (880 : Int32)), (.int vc)])) t → Steps p.tables e below (s₁.setTop (entryFrame m #[(.int vc)] 1)) t := by
                  intro t k
                  refine pre46 t ?_
                  show Steps p.tables e below (T46.setTop (mkF m 72 #[.val (.int vc)] [])) _
                  refine XS.iloadN X46.here hx rfl (hb hby d1_72) rfl ?_
                  show Steps p.tables e below (T46.setTop (mkF m 73 #[.val (.int vc)] [(.int vc)])) _
                  refine XS.sipush X46.here hx rfl (hb hby d1_73) ?_
                  show Steps p.tables e below (T46.setTop (mkF m 76 #[.val (.int vc)] [(.int (880 : Int32)), (.int vc)])) _
                  exact k
                have hd52 : ¬ (vc < (880 : Int32)) := own_mk_nlt (K := 880) (by omega) (by decide)
                have pre53 : ∀ t, Steps p.tables e below (T46.setTop (mkF m 83 #[.val (.int vc)] [(.int (893 : Int32)), (.int vc)])) t → Steps p.tables e below (s₁.setTop (entryFrame m #[(.int vc)] 1)) t := by
                  intro t k
                  refine pre51 t ?_
                  show Steps p.tables e below (T46.setTop (mkF m 76 #[.val (.int vc)] [(.int (880 : Int32)), (.int vc)])) _
                  refine XS.icmpNo X46.here hx rfl (hb hby d1_76) rfl (flt hd52).1 ?_
                  show Steps p.tables e below (T46.setTop (mkF m 79 #[.val (.int vc)] [])) _
                  refine XS.iloadN X46.here hx rfl (hb hby d1_79) rfl ?_
                  show Steps p.tables e below (T46.setTop (mkF m 80 #[.val (.int vc)] [(.int vc)])) _
                  refine XS.sipush X46.here hx rfl (hb hby d1_80) ?_
                  show Steps p.tables e below (T46.setTop (mkF m 83 #[.val (.int vc)] [(.int (893 : Int32)), (.int vc)])) _
                  exact k
                have hd54 : ¬ ((893 : Int32) < vc) := own_mk_ngt (K := 893) (by omega) (by decide)
                obtain ⟨fs, hr, hrun, hended, hW, hsame⟩ := X46.leave (v := some (.int (1 : Int32))) (fun h => by rw [Bd.returns] at h; cases h)
                refine ⟨_, _, pre53 _ ?_, hrun, hended, _, _, rfl, ?_, ⟨_, rfl⟩, hW, hsame.mono (by decide) (by decide)⟩
                · show Steps p.tables e below (T46.setTop (mkF m 83 #[.val (.int vc)] [(.int (893 : Int32)), (.int vc)])) _
                  refine XS.icmpYes X46.here hx rfl (pc0 := 83) (pc' := 191) rfl (hb hby d1_83) rfl (flt hd54).2.2.2 (by decide) (by decide) ?_
                  show Steps p.tables e below (T46.setTop (mkF m 191 #[.val (.int vc)] [])) _
                  refine XS.iconst X46.here hx rfl (hb hby d1_191) ?_
                  show Steps p.tables e below (T46.setTop (mkF m 192 #[.val (.int vc)] [(.int (1 : Int32))])) _
                  refine XS.goto X46.here hx rfl (pc0 := 192) (pc' := 196) rfl (hb hby d1_192) (by decide) (by decide) ?_
                  show Steps p.tables e below (T46.setTop (mkF m 196 #[.val (.int vc)] [(.int (1 : Int32))])) _
                  exact retN X46 hx (t := .boolean) Bd.returns (by simp) (hb hby d1_196) hr
                · show Q_isn Z vc h0 n0 _ T46.heap _
                  rw [ej46]
                  exact ⟨by rw [own_isn, if_pos (Or.inr (Or.inr (Or.inr (Or.inr (Or.inr (Or.inr (Or.inl hC6)))))))], Nj46, rfl⟩
              · obtain ⟨T55, lo55, X55, Nj55, ej55, hj55, pre55⟩ : ∃  (T' : State) (lo : List Loc), Stand p l e ({ frames := 0, cells := 0, slots := 0, locals := 0 } : Room) s m #[(.int vc)] below meth c T' lo 0 0 ∧ Fr n0 lo ∧ T'.heap = h0 ∧ (True) ∧ ∀ t, Steps p.tables e below (T'.setTop (mkF m 86 #[.val (.int vc)] [])) t → Steps p.tables e below (s₁.setTop (entryFrame m #[(.int vc)] 1)) t := by
                  have pre56 : ∀ t, Steps p.tables e below (T46.setTop (mkF m 76 #[.val (.int vc)] [(.int (880 : Int32)), (.int vc)])) t → Steps p.tables e below (s₁.setTop (entryFrame m #[(.int vc)] 1)) t := by
                    intro t k
                    refine pre46 t ?_
                    show Steps p.tables e below (T46.setTop (mkF m 72 #[.val (.int vc)] [])) _
                    refine XS.iloadN X46.here hx rfl (hb hby d1_72) rfl ?_
                    show Steps p.tables e below (T46.setTop (mkF m 73 #[.val (.int vc)] [(.int vc)])) _
                    refine XS.sipush X46.here hx rfl (hb hby d1_73) ?_
                    show Steps p.tables e below (T46.setTop (mkF m 76 #[.val (.int vc)] [(.int (880 : Int32)), (.int vc)])) _
                    exact k
                  by_cases hc57 : vc < (880 : Int32)
                  · have hz57 := own_lt (K := 880) hc57 (by decide)
                    refine ⟨T46, _, X46, Nj46, ej46, trivial, fun t k => ?_⟩
                    refine pre56 t ?_
                    show Steps p.tables e below (T46.setTop (mkF m 76 #[.val (.int vc)] [(.int (880 : Int32)), (.int vc)])) _
                    refine XS.icmpYes X46.here hx rfl (pc0 := 76) (pc' := 86) rfl (hb hby d1_76) rfl (tlt hc57).1 (by decide) (by decide) ?_
                    show Steps p.tables e below (T46.setTop (mkF m 86 #[.val (.int vc)] [])) _
                    exact k
                  · have hz57 := own_nlt (K := 880) hc57 (by decide)
                    have pre58 : ∀ t, Steps p.tables e below (T46.setTop (mkF m 83 #[.val (.int vc)] [(.int (893 : Int32)), (.int vc)])) t → Steps p.tables e below (s₁.setTop (entryFrame m #[(.int vc)] 1)) t := by
                      intro t k
                      refine pre56 t ?_
                      show Steps p.tables e below (T46.setTop (mkF m 76 #[.val (.int vc)] [(.int (880 : Int32)), (.int vc)])) _
                      refine XS.icmpNo X46.here hx rfl (hb hby d1_76) rfl (flt hc57).1 ?_
                      show Steps p.tables e below (T46.setTop (mkF m 79 #[.val (.int vc)] [])) _
                      refine XS.iloadN X46.here hx rfl (hb hby d1_79) rfl ?_
                      show Steps p.tables e below (T46.setTop (mkF m 80 #[.val (.int vc)] [(.int vc)])) _
                      refine XS.sipush X46.here hx rfl (hb hby d1_80) ?_
                      show Steps p.tables e below (T46.setTop (mkF m 83 #[.val (.int vc)] [(.int (893 : Int32)), (.int vc)])) _
                      exact k
                    have hd59 : (893 : Int32) < vc := own_mk_gt (K := 893) (by omega) (by decide)
                    refine ⟨T46, _, X46, Nj46, ej46, trivial, fun t k => ?_⟩
                    refine pre58 t ?_
                    show Steps p.tables e below (T46.setTop (mkF m 83 #[.val (.int vc)] [(.int (893 : Int32)), (.int vc)])) _
                    refine XS.icmpNo X46.here hx rfl (hb hby d1_83) rfl (tlt hd59).2.2.2 ?_
                    show Steps p.tables e below (T46.setTop (mkF m 86 #[.val (.int vc)] [])) _
                    exact k
                by_cases hC7 : (895 ≤ vc.toInt ∧ vc.toInt ≤ 8191)
                · have pre60 : ∀ t, Steps p.tables e below (T55.setTop (mkF m 90 #[.val (.int vc)] [(.int (895 : Int32)), (.int vc)])) t → Steps p.tables e below (s₁.setTop (entryFrame m #[(.int vc)] 1)) t := by
                    intro t k
                    refine pre55 t ?_
                    show Steps p.tables e below (T55.setTop (mkF m 86 #[.val (.int vc)] [])) _
                    refine XS.iloadN X55.here hx rfl (hb hby d1_86) rfl ?_
                    show Steps p.tables e below (T55.setTop (mkF m 87 #[.val (.int vc)] [(.int vc)])) _
                    refine XS.sipush X55.here hx rfl (hb hby d1_87) ?_
                    show Steps p.tables e below (T55.setTop (mkF m 90 #[.val (.int vc)] [(.int (895 : Int32)), (.int vc)])) _
                    exact k
                  have hd61 : ¬ (vc < (895 : Int32)) := own_mk_nlt (K := 895) (by omega) (by decide)
                  have pre62 : ∀ t, Steps p.tables e below (T55.setTop (mkF m 97 #[.val (.int vc)] [(.int (8191 : Int32)), (.int vc)])) t → Steps p.tables e below (s₁.setTop (entryFrame m #[(.int vc)] 1)) t := by
                    intro t k
                    refine pre60 t ?_
                    show Steps p.tables e below (T55.setTop (mkF m 90 #[.val (.int vc)] [(.int (895 : Int32)), (.int vc)])) _
                    refine XS.icmpNo X55.here hx rfl (hb hby d1_90) rfl (flt hd61).1 ?_
                    show Steps p.tables e below (T55.setTop (mkF m 93 #[.val (.int vc)] [])) _
                    refine XS.iloadN X55.here hx rfl (hb hby d1_93) rfl ?_
                    show Steps p.tables e below (T55.setTop (mkF m 94 #[.val (.int vc)] [(.int vc)])) _
                    refine XS.sipush X55.here hx rfl (hb hby d1_94) ?_
                    show Steps p.tables e below (T55.setTop (mkF m 97 #[.val (.int vc)] [(.int (8191 : Int32)), (.int vc)])) _
                    exact k
                  have hd63 : ¬ ((8191 : Int32) < vc) := own_mk_ngt (K := 8191) (by omega) (by decide)
                  obtain ⟨fs, hr, hrun, hended, hW, hsame⟩ := X55.leave (v := some (.int (1 : Int32))) (fun h => by rw [Bd.returns] at h; cases h)
                  refine ⟨_, _, pre62 _ ?_, hrun, hended, _, _, rfl, ?_, ⟨_, rfl⟩, hW, hsame.mono (by decide) (by decide)⟩
                  · show Steps p.tables e below (T55.setTop (mkF m 97 #[.val (.int vc)] [(.int (8191 : Int32)), (.int vc)])) _
                    refine XS.icmpYes X55.here hx rfl (pc0 := 97) (pc' := 191) rfl (hb hby d1_97) rfl (flt hd63).2.2.2 (by decide) (by decide) ?_
                    show Steps p.tables e below (T55.setTop (mkF m 191 #[.val (.int vc)] [])) _
                    refine XS.iconst X55.here hx rfl (hb hby d1_191) ?_
                    show Steps p.tables e below (T55.setTop (mkF m 192 #[.val (.int vc)] [(.int (1 : Int32))])) _
                    refine XS.goto X55.here hx rfl (pc0 := 192) (pc' := 196) rfl (hb hby d1_192) (by decide) (by decide) ?_
                    show Steps p.tables e below (T55.setTop (mkF m 196 #[.val (.int vc)] [(.int (1 : Int32))])) _
                    exact retN X55 hx (t := .boolean) Bd.returns (by simp) (hb hby d1_196) hr
                  · show Q_isn Z vc h0 n0 _ T55.heap _
                    rw [ej55]
                    exact ⟨by rw [own_isn, if_pos (Or.inr (Or.inr (Or.inr (Or.inr (Or.inr (Or.inr (Or.inr (Or.inl hC7))))))))], Nj55, rfl⟩
                · obtain ⟨T64, lo64, X64, Nj64, ej64, hj64, pre64⟩ : ∃  (T' : State) (lo : List Loc), Stand p l e ({ frames := 0, cells := 0, slots := 0, locals := 0 } : Room) s m #[(.int vc)] below meth c T' lo 0 0 ∧ Fr n0 lo ∧ T'.heap = h0 ∧ (True) ∧ ∀ t, Steps p.tables e below (T'.setTop (mkF m 100 #[.val (.int vc)] [])) t → Steps p.tables e below (s₁.setTop (entryFrame m #[(.int vc)] 1)) t := by
                    have pre65 : ∀ t, Steps p.tables e below (T55.setTop (mkF m 90 #[.val (.int vc)] [(.int (895 : Int32)), (.int vc)])) t → Steps p.tables e below (s₁.setTop (entryFrame m #[(.int vc)] 1)) t := by
                      intro t k
                      refine pre55 t ?_
                      show Steps p.tables e below (T55.setTop (mkF m 86 #[.val (.int vc)] [])) _
                      refine XS.iloadN X55.here hx rfl (hb hby d1_86) rfl ?_
                      show Steps p.tables e below (T55.setTop (mkF m 87 #[.val (.int vc)] [(.int vc)])) _
                      refine XS.sipush X55.here hx rfl (hb hby d1_87) ?_
                      show Steps p.tables e below (T55.setTop (mkF m 90 #[.val (.int vc)] [(.int (895 : Int32)), (.int vc)])) _
                      exact k
                    by_cases hc66 : vc < (895 : Int32)
                    · have hz66 := own_lt (K := 895) hc66 (by decide)
                      refine ⟨T55, _, X55, Nj55, ej55, trivial, fun t k => ?_⟩
                      refine pre65 t ?_
                      show Steps p.tables e below (T55.setTop (mkF m 90 #[.val (.int vc)] [(.int (895 : Int32)), (.int vc)])) _
                      refine XS.icmpYes X55.here hx rfl (pc0 := 90) (pc' := 100) rfl (hb hby d1_90) rfl (tlt hc66).1 (by decide) (by decide) ?_
                      show Steps p.tables e below (T55.setTop (mkF m 100 #[.val (.int vc)] [])) _
                      exact k
                    · have hz66 := own_nlt (K := 895) hc66 (by decide)
                      have pre67 : ∀ t, Steps p.tables e below (T55.setTop (mkF m 97 #[.val (.int vc)] [(.int (8191 : Int32)), (.int vc)])) t → Steps p.tables e below (s₁.setTop (entryFrame m #[(.int vc)] 1)) t := by
                        intro t k
                        refine pre65 t ?_
                        show Steps p.tables e below (T55.setTop (mkF m 90 #[.val (.int vc)] [(.int (895 : Int32)), (.int vc)])) _
                        refine XS.icmpNo X55.here hx rfl (hb hby d1_90) rfl (flt hc66).1 ?_
                        show Steps p.tables e below (T55.setTop (mkF m 93 #[.val (.int vc)] [])) _
                        refine XS.iloadN X55.here hx rfl (hb hby d1_93) rfl ?_
                        show Steps p.tables e below (T55.setTop (mkF m 94 #[.val (.int vc)] [(.int vc)])) _
                        refine XS.sipush X55.here hx rfl (hb hby d1_94) ?_
                        show Steps p.tables e below (T55.setTop (mkF m 97 #[.val (.int vc)] [(.int (8191 : Int32)), (.int vc)])) _
                        exact k
                      have hd68 : (8191 : Int32) < vc := own_mk_gt (K := 8191) (by omega) (by decide)
                      refine ⟨T55, _, X55, Nj55, ej55, trivial, fun t k => ?_⟩
                      refine pre67 t ?_
                      show Steps p.tables e below (T55.setTop (mkF m 97 #[.val (.int vc)] [(.int (8191 : Int32)), (.int vc)])) _
                      refine XS.icmpNo X55.here hx rfl (hb hby d1_97) rfl (tlt hd68).2.2.2 ?_
                      show Steps p.tables e below (T55.setTop (mkF m 100 #[.val (.int vc)] [])) _
                      exact k
                  by_cases hC8 : (8204 ≤ vc.toInt ∧ vc.toInt ≤ 8205)
                  · have pre69 : ∀ t, Steps p.tables e below (T64.setTop (mkF m 104 #[.val (.int vc)] [(.int (8204 : Int32)), (.int vc)])) t → Steps p.tables e below (s₁.setTop (entryFrame m #[(.int vc)] 1)) t := by
                      intro t k
                      refine pre64 t ?_
                      show Steps p.tables e below (T64.setTop (mkF m 100 #[.val (.int vc)] [])) _
                      refine XS.iloadN X64.here hx rfl (hb hby d1_100) rfl ?_
                      show Steps p.tables e below (T64.setTop (mkF m 101 #[.val (.int vc)] [(.int vc)])) _
                      refine XS.sipush X64.here hx rfl (hb hby d1_101) ?_
                      show Steps p.tables e below (T64.setTop (mkF m 104 #[.val (.int vc)] [(.int (8204 : Int32)), (.int vc)])) _
                      exact k
                    have hd70 : ¬ (vc < (8204 : Int32)) := own_mk_nlt (K := 8204) (by omega) (by decide)
                    have pre71 : ∀ t, Steps p.tables e below (T64.setTop (mkF m 111 #[.val (.int vc)] [(.int (8205 : Int32)), (.int vc)])) t → Steps p.tables e below (s₁.setTop (entryFrame m #[(.int vc)] 1)) t := by
                      intro t k
                      refine pre69 t ?_
                      show Steps p.tables e below (T64.setTop (mkF m 104 #[.val (.int vc)] [(.int (8204 : Int32)), (.int vc)])) _
                      refine XS.icmpNo X64.here hx rfl (hb hby d1_104) rfl (flt hd70).1 ?_
                      show Steps p.tables e below (T64.setTop (mkF m 107 #[.val (.int vc)] [])) _
                      refine XS.iloadN X64.here hx rfl (hb hby d1_107) rfl ?_
                      show Steps p.tables e below (T64.setTop (mkF m 108 #[.val (.int vc)] [(.int vc)])) _
                      refine XS.sipush X64.here hx rfl (hb hby d1_108) ?_
                      show Steps p.tables e below (T64.setTop (mkF m 111 #[.val (.int vc)] [(.int (8205 : Int32)), (.int vc)])) _
                      exact k
                    have hd72 : ¬ ((8205 : Int32) < vc) := own_mk_ngt (K := 8205) (by omega) (by decide)
                    obtain ⟨fs, hr, hrun, hended, hW, hsame⟩ := X64.leave (v := some (.int (1 : Int32))) (fun h => by rw [Bd.returns] at h; cases h)
                    refine ⟨_, _, pre71 _ ?_, hrun, hended, _, _, rfl, ?_, ⟨_, rfl⟩, hW, hsame.mono (by decide) (by decide)⟩
                    · show Steps p.tables e below (T64.setTop (mkF m 111 #[.val (.int vc)] [(.int (8205 : Int32)), (.int vc)])) _
                      refine XS.icmpYes X64.here hx rfl (pc0 := 111) (pc' := 191) rfl (hb hby d1_111) rfl (flt hd72).2.2.2 (by decide) (by decide) ?_
                      show Steps p.tables e below (T64.setTop (mkF m 191 #[.val (.int vc)] [])) _
                      refine XS.iconst X64.here hx rfl (hb hby d1_191) ?_
                      show Steps p.tables e below (T64.setTop (mkF m 192 #[.val (.int vc)] [(.int (1 : Int32))])) _
                      refine XS.goto X64.here hx rfl (pc0 := 192) (pc' := 196) rfl (hb hby d1_192) (by decide) (by decide) ?_
                      show Steps p.tables e below (T64.setTop (mkF m 196 #[.val (.int vc)] [(.int (1 : Int32))])) _
                      exact retN X64 hx (t := .boolean) Bd.returns (by simp) (hb hby d1_196) hr
                    · show Q_isn Z vc h0 n0 _ T64.heap _
                      rw [ej64]
                      exact ⟨by rw [own_isn, if_pos (Or.inr (Or.inr (Or.inr (Or.inr (Or.inr (Or.inr (Or.inr (Or.inr (Or.inl hC8)))))))))], Nj64, rfl⟩
                  · obtain ⟨T73, lo73, X73, Nj73, ej73, hj73, pre73⟩ : ∃  (T' : State) (lo : List Loc), Stand p l e ({ frames := 0, cells := 0, slots := 0, locals := 0 } : Room) s m #[(.int vc)] below meth c T' lo 0 0 ∧ Fr n0 lo ∧ T'.heap = h0 ∧ (True) ∧ ∀ t, Steps p.tables e below (T'.setTop (mkF m 114 #[.val (.int vc)] [])) t → Steps p.tables e below (s₁.setTop (entryFrame m #[(.int vc)] 1)) t := by
                      have pre74 : ∀ t, Steps p.tables e below (T64.setTop (mkF m 104 #[.val (.int vc)] [(.int (8204 : Int32)), (.int vc)])) t → Steps p.tables e below (s₁.setTop (entryFrame m #[(.int vc)] 1)) t := by
                        intro t k
                        refine pre64 t ?_
                        show Steps p.tables e below (T64.setTop (mkF m 100 #[.val (.int vc)] [])) _
                        refine XS.iloadN X64.here hx rfl (hb hby d1_100) rfl ?_
                        show Steps p.tables e below (T64.setTop (mkF m 101 #[.val (.int vc)] [(.int vc)])) _
                        refine XS.sipush X64.here hx rfl (hb hby d1_101) ?_
                        show Steps p.tables e below (T64.setTop (mkF m 104 #[.val (.int vc)] [(.int (8204 : Int32)), (.int vc)])) _
                        exact k
                      by_cases hc75 : vc < (8204 : Int32)
                      · have hz75 := own_lt (K := 8204) hc75 (by decide)
                        refine ⟨T64, _, X64, Nj64, ej64, trivial, fun t k => ?_⟩
                        refine pre74 t ?_
                        show Steps p.tables e below (T64.setTop (mkF m 104 #[.val (.int vc)] [(.int (8204 : Int32)), (.int vc)])) _
                        refine XS.icmpYes X64.here hx rfl (pc0 := 104) (pc' := 114) rfl (hb hby d1_104) rfl (tlt hc75).1 (by decide) (by decide) ?_
                        show Steps p.tables e below (T64.setTop (mkF m 114 #[.val (.int vc)] [])) _
                        exact k
                      · have hz75 := own_nlt (K := 8204) hc75 (by decide)
                        have pre76 : ∀ t, Steps p.tables e below (T64.setTop (mkF m 111 #[.val (.int vc)] [(.int (8205 : Int32)), (.int vc)])) t → Steps p.tables e below (s₁.setTop (entryFrame m #[(.int vc)] 1)) t := by
                          intro t k
                          refine pre74 t ?_
                          show Steps p.tables e below (T64.setTop (mkF m 104 #[.val (.int vc)] [(.int (8204 : Int32)), (.int vc)])) _
                          refine XS.icmpNo X64.here hx rfl (hb hby d1_104) rfl (flt hc75).1 ?_
                          show Steps p.tables e below (T64.setTop (mkF m 107 #[.val (.int vc)] [])) _
                          refine XS.iloadN X64.here hx rfl (hb hby d1_107) rfl ?_
                          show Steps p.tables e below (T64.setTop (mkF m 108 #[.val (.int vc)] [(.int vc)])) _
                          refine XS.sipush X64.here hx rfl (hb hby d1_108) ?_
                          show Steps p.tables e below (T64.setTop (mkF m 111 #[.val (.int vc)] [(.int (8205 : Int32)), (.int vc)])) _
                          exact k
                        have hd77 : (8205 : Int32) < vc := own_mk_gt (K := 8205) (by omega) (by decide)
                        refine ⟨T64, _, X64, Nj64, ej64, trivial, fun t k => ?_⟩
                        refine pre76 t ?_
                        show Steps p.tables e below (T64.setTop (mkF m 111 #[.val (.int vc)] [(.int (8205 : Int32)), (.int vc)])) _
                        refine XS.icmpNo X64.here hx rfl (hb hby d1_111) rfl (tlt hd77).2.2.2 ?_
                        show Steps p.tables e below (T64.setTop (mkF m 114 #[.val (.int vc)] [])) _
                        exact k
                    by_cases hC9 : (8304 ≤ vc.toInt ∧ vc.toInt ≤ 8591)
                    · have pre78 : ∀ t, Steps p.tables e below (T73.setTop (mkF m 118 #[.val (.int vc)] [(.int (8304 : Int32)), (.int vc)])) t → Steps p.tables e below (s₁.setTop (entryFrame m #[(.int vc)] 1)) t := by
                        intro t k
                        refine pre73 t ?_
                        show Steps p.tables e below (T73.setTop (mkF m 114 #[.val (.int vc)] [])) _
                        refine XS.iloadN X73.here hx rfl (hb hby d1_114) rfl ?_
                        show Steps p.tables e below (T73.setTop (mkF m 115 #[.val (.int vc)] [(.int vc)])) _
                        refine XS.sipush X73.here hx rfl (hb hby d1_115) ?_
                        show Steps p.tables e below (T73.setTop (mkF m 118 #[.val (.int vc)] [(.int (8304 : Int32)), (.int vc)])) _
                        exact k
                      have hd79 : ¬ (vc < (8304 : Int32)) := own_mk_nlt (K := 8304) (by omega) (by decide)
                      have pre80 : ∀ t, Steps p.tables e below (T73.setTop (mkF m 125 #[.val (.int vc)] [(.int (8591 : Int32)), (.int vc)])) t → Steps p.tables e below (s₁.setTop (entryFrame m #[(.int vc)] 1)) t := by
                        intro t k
                        refine pre78 t ?_
                        show Steps p.tables e below (T73.setTop (mkF m 118 #[.val (.int vc)] [(.int (8304 : Int32)), (.int vc)])) _
                        refine XS.icmpNo X73.here hx rfl (hb hby d1_118) rfl (flt hd79).1 ?_
                        show Steps p.tables e below (T73.setTop (mkF m 121 #[.val (.int vc)] [])) _
                        refine XS.iloadN X73.here hx rfl (hb hby d1_121) rfl ?_
                        show Steps p.tables e below (T73.setTop (mkF m 122 #[.val (.int vc)] [(.int vc)])) _
                        refine XS.sipush X73.here hx rfl (hb hby d1_122) ?_
                        show Steps p.tables e below (T73.setTop (mkF m 125 #[.val (.int vc)] [(.int (8591 : Int32)), (.int vc)])) _
                        exact k
                      have hd81 : ¬ ((8591 : Int32) < vc) := own_mk_ngt (K := 8591) (by omega) (by decide)
                      obtain ⟨fs, hr, hrun, hended, hW, hsame⟩ := X73.leave (v := some (.int (1 : Int32))) (fun h => by rw [Bd.returns] at h; cases h)
                      refine ⟨_, _, pre80 _ ?_, hrun, hended, _, _, rfl, ?_, ⟨_, rfl⟩, hW, hsame.mono (by decide) (by decide)⟩
                      · show Steps p.tables e below (T73.setTop (mkF m 125 #[.val (.int vc)] [(.int (8591 : Int32)), (.int vc)])) _
                        refine XS.icmpYes X73.here hx rfl (pc0 := 125) (pc' := 191) rfl (hb hby d1_125) rfl (flt hd81).2.2.2 (by decide) (by decide) ?_
                        show Steps p.tables e below (T73.setTop (mkF m 191 #[.val (.int vc)] [])) _
                        refine XS.iconst X73.here hx rfl (hb hby d1_191) ?_
                        show Steps p.tables e below (T73.setTop (mkF m 192 #[.val (.int vc)] [(.int (1 : Int32))])) _
                        refine XS.goto X73.here hx rfl (pc0 := 192) (pc' := 196) rfl (hb hby d1_192) (by decide) (by decide) ?_
                        show Steps p.tables e below (T73.setTop (mkF m 196 #[.val (.int vc)] [(.int (1 : Int32))])) _
                        exact retN X73 hx (t := .boolean) Bd.returns (by simp) (hb hby d1_196) hr
                      · show Q_isn Z vc h0 n0 _ T73.heap _
                        rw [ej73]
                        exact ⟨by rw [own_isn, if_pos (Or.inr (Or.inr (Or.inr (Or.inr (Or.inr (Or.inr (Or.inr (Or.inr (Or.inr (Or.inl hC9))))))))))], Nj73, rfl⟩
                    · obtain ⟨T82, lo82, X82, Nj82, ej82, hj82, pre82⟩ : ∃  (T' : State) (lo : List Loc), Stand p l e ({ frames := 0, cells := 0, slots := 0, locals := 0 } : Room) s m #[(.int vc)] below meth c T' lo 0 0 ∧ Fr n0 lo ∧ T'.heap = h0 ∧ (True) ∧ ∀ t, Steps p.tables e below (T'.setTop (mkF m 128 #[.val (.int vc)] [])) t → Steps p.tables e below (s₁.setTop (entryFrame m #[(.int vc)] 1)) t := by
                        have pre83 : ∀ t, Steps p.tables e below (T73.setTop (mkF m 118 #[.val (.int vc)] [(.int (8304 : Int32)), (.int vc)])) t → Steps p.tables e below (s₁.setTop (entryFrame m #[(.int vc)] 1)) t := by
                          intro t k
                          refine pre73 t ?_
                          show Steps p.tables e below (T73.setTop (mkF m 114 #[.val (.int vc)] [])) _
                          refine XS.iloadN X73.here hx rfl (hb hby d1_114) rfl ?_
                          show Steps p.tables e below (T73.setTop (mkF m 115 #[.val (.int vc)] [(.int vc)])) _
                          refine XS.sipush X73.here hx rfl (hb hby d1_115) ?_
                          show Steps p.tables e below (T73.setTop (mkF m 118 #[.val (.int vc)] [(.int (8304 : Int32)), (.int vc)])) _
                          exact k
                        by_cases hc84 : vc < (8304 : Int32)
                        · have hz84 := own_lt (K := 8304) hc84 (by decide)
                          refine ⟨T73, _, X73, Nj73, ej73, trivial, fun t k => ?_⟩
                          refine pre83 t ?_
                          show Steps p.tables e below (T73.setTop (mkF m 118 #[.val (.int vc)] [(.int (8304 : Int32)), (.int vc)])) _
                          refine XS.icmpYes X73.here hx rfl (pc0 := 118) (pc' := 128) rfl (hb hby d1_118) rfl (tlt hc84).1 (by decide) (by decide) ?_
                          show Steps p.tables e below (T73.setTop (mkF m 128 #[.val (.int vc)] [])) _
                          exact k
                        · have hz84 := own_nlt (K := 8304) hc84 (by decide)
                          have pre85 : ∀ t, Steps p.tables e below (T73.setTop (mkF m 125 #[.val (.int vc)] [(.int (8591 : Int32)), (.int vc)])) t → Steps p.tables e below (s₁.setTop (entryFrame m #[(.int vc)] 1)) t := by
                            intro t k
                            refine pre83 t ?_
                            show Steps p.tables e below (T73.setTop (mkF m 118 #[.val (.int vc)] [(.int (8304 : Int32)), (.int vc)])) _
                            refine XS.icmpNo X73.here hx rfl (hb hby d1_118) rfl (flt hc84).1 ?_
                            show Steps p.tables e below (T73.setTop (mkF m 121 #[.val (.int vc)] [])) _
                            refine XS.iloadN X73.here hx rfl (hb hby d1_121) rfl ?_
                            show Steps p.tables e below (T73.setTop (mkF m 122 #[.val (.int vc)] [(.int vc)])) _
                            refine XS.sipush X73.here hx rfl (hb hby d1_122) ?_
                            show Steps p.tables e below (T73.setTop (mkF m 125 #[.val (.int vc)] [(.int (8591 : Int32)), (.int vc)])) _
                            exact k
                          have hd86 : (8591 : Int32) < vc := own_mk_gt (K := 8591) (by omega) (by decide)
                          refine ⟨T73, _, X73, Nj73, ej73, trivial, fun t k => ?_⟩
                          refine pre85 t ?_
                          show Steps p.tables e below (T73.setTop (mkF m 125 #[.val (.int vc)] [(.int (8591 : Int32)), (.int vc)])) _
                          refine XS.icmpNo X73.here hx rfl (hb hby d1_125) rfl (tlt hd86).2.2.2 ?_
                          show Steps p.tables e below (T73.setTop (mkF m 128 #[.val (.int vc)] [])) _
                          exact k
                      by_cases hC10 : (11264 ≤ vc.toInt ∧ vc.toInt ≤ 12271)
                      · have pre87 : ∀ t, Steps p.tables e below (T82.setTop (mkF m 132 #[.val (.int vc)] [(.int (11264 : Int32)), (.int vc)])) t → Steps p.tables e below (s₁.setTop (entryFrame m #[(.int vc)] 1)) t := by
                          intro t k
                          refine pre82 t ?_
                          show Steps p.tables e below (T82.setTop (mkF m 128 #[.val (.int vc)] [])) _
                          refine XS.iloadN X82.here hx rfl (hb hby d1_128) rfl ?_
                          show Steps p.tables e below (T82.setTop (mkF m 129 #[.val (.int vc)] [(.int vc)])) _
                          refine XS.sipush X82.here hx rfl (hb hby d1_129) ?_
                          show Steps p.tables e below (T82.setTop (mkF m 132 #[.val (.int vc)] [(.int (11264 : Int32)), (.int vc)])) _
                          exact k
                        have hd88 : ¬ (vc < (11264 : Int32)) := own_mk_nlt (K := 11264) (by omega) (by decide)
                        have pre89 : ∀ t, Steps p.tables e below (T82.setTop (mkF m 139 #[.val (.int vc)] [(.int (12271 : Int32)), (.int vc)])) t → Steps p.tables e below (s₁.setTop (entryFrame m #[(.int vc)] 1)) t := by
                          intro t k
                          refine pre87 t ?_
                          show Steps p.tables e below (T82.setTop (mkF m 132 #[.val (.int vc)] [(.int (11264 : Int32)), (.int vc)])) _
                          refine XS.icmpNo X82.here hx rfl (hb hby d1_132) rfl (flt hd88).1 ?_
                          show Steps p.tables e below (T82.setTop (mkF m 135 #[.val (.int vc)] [])) _
                          refine XS.iloadN X82.here hx rfl (hb hby d1_135) rfl ?_
                          show Steps p.tables e below (T82.setTop (mkF m 136 #[.val (.int vc)] [(.int vc)])) _
                          refine XS.sipush X82.here hx rfl (hb hby d1_136) ?_
                          show Steps p.tables e below (T82.setTop (mkF m 139 #[.val (.int vc)] [(.int (12271 : Int32)), (.int vc)])) _
                          exact k
                        have hd90 : ¬ ((12271 : Int32) < vc) := own_mk_ngt (K := 12271) (by omega) (by decide)
                        obtain ⟨fs, hr, hrun, hended, hW, hsame⟩ := X82.leave (v := some (.int (1 : Int32))) (fun h => by rw [Bd.returns] at h; cases h)
                        refine ⟨_, _, pre89 _ ?_, hrun, hended, _, _, rfl, ?_, ⟨_, rfl⟩, hW, hsame.mono (by decide) (by decide)⟩
                        · show Steps p.tables e below (T82.setTop (mkF m 139 #[.val (.int vc)] [(.int (12271 : Int32)), (.int vc)])) _
                          refine XS.icmpYes X82.here hx rfl (pc0 := 139) (pc' := 191) rfl (hb hby d1_139) rfl (flt hd90).2.2.2 (by decide) (by decide) ?_
                          show Steps p.tables e below (T82.setTop (mkF m 191 #[.val (.int vc)] [])) _
                          refine XS.iconst X82.here hx rfl (hb hby d1_191) ?_
                          show Steps p.tables e below (T82.setTop (mkF m 192 #[.val (.int vc)] [(.int (1 : Int32))])) _
                          refine XS.goto X82.here hx rfl (pc0 := 192) (pc' := 196) rfl (hb hby d1_192) (by decide) (by decide) ?_
                          show Steps p.tables e below (T82.setTop (mkF m 196 #[.val (.int vc)] [(.int (1 : Int32))])) _
                          exact retN X82 hx (t := .boolean) Bd.returns (by simp) (hb hby d1_196) hr
                        · show Q_isn Z vc h0 n0 _ T82.heap _
                          rw [ej82]
                          exact ⟨by rw [own_isn, if_pos (Or.inr (Or.inr (Or.inr (Or.inr (Or.inr (Or.inr (Or.inr (Or.inr (Or.inr (Or.inr (Or.inl hC10)))))))))))], Nj82, rfl⟩
                      · obtain ⟨T91, lo91, X91, Nj91, ej91, hj91, pre91⟩ : ∃  (T' : State) (lo : List Loc), Stand p l e ({ frames := 0, cells := 0, slots := 0, locals := 0 } : Room) s m #[(.int vc)] below meth c T' lo 0 0 ∧ Fr n0 lo ∧ T'.heap = h0 ∧ (True) ∧ ∀ t, Steps p.tables e below (T'.setTop (mkF m 142 #[.val (.int vc)] [])) t → Steps p.tables e below (s₁.setTop (entryFrame m #[(.int vc)] 1)) t := by
                          have pre92 : ∀ t, Steps p.tables e below (T82.setTop (mkF m 132 #[.val (.int vc)] [(.int (11264 : Int32)), (.int vc)])) t → Steps p.tables e below (s₁.setTop (entryFrame m #[(.int vc)] 1)) t := by
                            intro t k
                            refine pre82 t ?_
                            show Steps p.tables e below (T82.setTop (mkF m 128 #[.val (.int vc)] [])) _
                            refine XS.iloadN X82.here hx rfl (hb hby d1_128) rfl ?_
                            show Steps p.tables e below (T82.setTop (mkF m 129 #[.val (.int vc)] [(.int vc)])) _
                            refine XS.sipush X82.here hx rfl (hb hby d1_129) ?_
                            show Steps p.tables e below (T82.setTop (mkF m 132 #[.val (.int vc)] [(.int (11264 : Int32)), (.int vc)])) _
                            exact k
                          by_cases hc93 : vc < (11264 : Int32)
                          · have hz93 := own_lt (K := 11264) hc93 (by decide)
                            refine ⟨T82, _, X82, Nj82, ej82, trivial, fun t k => ?_⟩
                            refine pre92 t ?_
                            show Steps p.tables e below (T82.setTop (mkF m 132 #[.val (.int vc)] [(.int (11264 : Int32)), (.int vc)])) _
                            refine XS.icmpYes X82.here hx rfl (pc0 := 132) (pc' := 142) rfl (hb hby d1_132) rfl (tlt hc93).1 (by decide) (by decide) ?_
                            show Steps p.tables e below (T82.setTop (mkF m 142 #[.val (.int vc)] [])) _
                            exact k
                          · have hz93 := own_nlt (K := 11264) hc93 (by decide)
                            have pre94 : ∀ t, Steps p.tables e below (T82.setTop (mkF m 139 #[.val (.int vc)] [(.int (12271 : Int32)), (.int vc)])) t → Steps p.tables e below (s₁.setTop (entryFrame m #[(.int vc)] 1)) t := by
                              intro t k
                              refine pre92 t ?_
                              show Steps p.tables e below (T82.setTop (mkF m 132 #[.val (.int vc)] [(.int (11264 : Int32)), (.int vc)])) _
                              refine XS.icmpNo X82.here hx rfl (hb hby d1_132) rfl (flt hc93).1 ?_
                              show Steps p.tables e below (T82.setTop (mkF m 135 #[.val (.int vc)] [])) _
                              refine XS.iloadN X82.here hx rfl (hb hby d1_135) rfl ?_
                              show Steps p.tables e below (T82.setTop (mkF m 136 #[.val (.int vc)] [(.int vc)])) _
                              refine XS.sipush X82.here hx rfl (hb hby d1_136) ?_
                              show Steps p.tables e below (T82.setTop (mkF m 139 #[.val (.int vc)] [(.int (12271 : Int32)), (.int vc)])) _
                              exact k
                            have hd95 : (12271 : Int32) < vc := own_mk_gt (K := 12271) (by omega) (by decide)
                            refine ⟨T82, _, X82, Nj82, ej82, trivial, fun t k => ?_⟩
                            refine pre94 t ?_
                            show Steps p.tables e below (T82.setTop (mkF m 139 #[.val (.int vc)] [(.int (12271 : Int32)), (.int vc)])) _
                            refine XS.icmpNo X82.here hx rfl (hb hby d1_139) rfl (tlt hd95).2.2.2 ?_
                            show Steps p.tables e below (T82.setTop (mkF m 142 #[.val (.int vc)] [])) _
                            exact k
                        by_cases hC11 : (12289 ≤ vc.toInt ∧ vc.toInt ≤ 55295)
                        · have pre96 : ∀ t, Steps p.tables e below (T91.setTop (mkF m 146 #[.val (.int vc)] [(.int (12289 : Int32)), (.int vc)])) t → Steps p.tables e below (s₁.setTop (entryFrame m #[(.int vc)] 1)) t := by
                            intro t k
                            refine pre91 t ?_
                            show Steps p.tables e below (T91.setTop (mkF m 142 #[.val (.int vc)] [])) _
                            refine XS.iloadN X91.here hx rfl (hb hby d1_142) rfl ?_
                            show Steps p.tables e below (T91.setTop (mkF m 143 #[.val (.int vc)] [(.int vc)])) _
                            refine XS.sipush X91.here hx rfl (hb hby d1_143) ?_
                            show Steps p.tables e below (T91.setTop (mkF m 146 #[.val (.int vc)] [(.int (12289 : Int32)), (.int vc)])) _
                            exact k
                          have hd97 : ¬ (vc < (12289 : Int32)) := own_mk_nlt (K := 12289) (by omega) (by decide)
                          have pre98 : ∀ t, Steps p.tables e below (T91.setTop (mkF m 152 #[.val (.int vc)] [(.int (55295 : Int32)), (.int vc)])) t → Steps p.tables e below (s₁.setTop (entryFrame m #[(.int vc)] 1)) t := by
                            intro t k
                            refine pre96 t ?_
                            show Steps p.tables e below (T91.setTop (mkF m 146 #[.val (.int vc)] [(.int (12289 : Int32)), (.int vc)])) _
                            refine XS.icmpNo X91.here hx rfl (hb hby d1_146) rfl (flt hd97).1 ?_
                            show Steps p.tables e below (T91.setTop (mkF m 149 #[.val (.int vc)] [])) _
                            refine XS.iloadN X91.here hx rfl (hb hby d1_149) rfl ?_
                            show Steps p.tables e below (T91.setTop (mkF m 150 #[.val (.int vc)] [(.int vc)])) _
                            refine X91.ldcInt hx hown (mvT hZ (hw _ (List.mem_of_getElem? (i := 21) rfl))) (g := (mkF m 150 #[.val (.int vc)] [(.int vc)])) rfl (hb hby d1_150) _ ?_
                            show Steps p.tables e below (T91.setTop (mkF m 152 #[.val (.int vc)] [(.int (55295 : Int32)), (.int vc)])) _
                            exact k
                          have hd99 : ¬ ((55295 : Int32) < vc) := own_mk_ngt (K := 55295) (by omega) (by decide)
                          obtain ⟨fs, hr, hrun, hended, hW, hsame⟩ := X91.leave (v := some (.int (1 : Int32))) (fun h => by rw [Bd.returns] at h; cases h)
                          refine ⟨_, _, pre98 _ ?_, hrun, hended, _, _, rfl, ?_, ⟨_, rfl⟩, hW, hsame.mono (by decide) (by decide)⟩
                          · show Steps p.tables e below (T91.setTop (mkF m 152 #[.val (.int vc)] [(.int (55295 : Int32)), (.int vc)])) _
                            refine XS.icmpYes X91.here hx rfl (pc0 := 152) (pc' := 191) rfl (hb hby d1_152) rfl (flt hd99).2.2.2 (by decide) (by decide) ?_
                            show Steps p.tables e below (T91.setTop (mkF m 191 #[.val (.int vc)] [])) _
                            refine XS.iconst X91.here hx rfl (hb hby d1_191) ?_
                            show Steps p.tables e below (T91.setTop (mkF m 192 #[.val (.int vc)] [(.int (1 : Int32))])) _
                            refine XS.goto X91.here hx rfl (pc0 := 192) (pc' := 196) rfl (hb hby d1_192) (by decide) (by decide) ?_
                            show Steps p.tables e below (T91.setTop (mkF m 196 #[.val (.int vc)] [(.int (1 : Int32))])) _
                            exact retN X91 hx (t := .boolean) Bd.returns (by simp) (hb hby d1_196) hr
                          · show Q_isn Z vc h0 n0 _ T91.heap _
                            rw [ej91]
                            exact ⟨by rw [own_isn, if_pos (Or.inr (Or.inr (Or.inr (Or.inr (Or.inr (Or.inr (Or.inr (Or.inr (Or.inr (Or.inr (Or.inr (Or.inl hC11))))))))))))], Nj91, rfl⟩
                        · obtain ⟨T100, lo100, X100, Nj100, ej100, hj100, pre100⟩ : ∃  (T' : State) (lo : List Loc), Stand p l e ({ frames := 0, cells := 0, slots := 0, locals := 0 } : Room) s m #[(.int vc)] below meth c T' lo 0 0 ∧ Fr n0 lo ∧ T'.heap = h0 ∧ (True) ∧ ∀ t, Steps p.tables e below (T'.setTop (mkF m 155 #[.val (.int vc)] [])) t → Steps p.tables e below (s₁.setTop (entryFrame m #[(.int vc)] 1)) t := by
                            have pre101 : ∀ t, Steps p.tables e below (T91.setTop (mkF m 146 #[.val (.int vc)] [(.int (12289 : Int32)), (.int vc)])) t → Steps p.tables e below (s₁.setTop (entryFrame m #[(.int vc)] 1)) t := by
                              intro t k
                              refine pre91 t ?_
                              show Steps p.tables e below (T91.setTop (mkF m 142 #[.val (.int vc)] [])) _
                              refine XS.iloadN X91.here hx rfl (hb hby d1_142) rfl ?_
                              show Steps p.tables e below (T91.setTop (mkF m 143 #[.val (.int vc)] [(.int vc)])) _
                              refine XS.sipush X91.here hx rfl (hb hby d1_143) ?_
                              show Steps p.tables e below (T91.setTop (mkF m 146 #[.val (.int vc)] [(.int (12289 : Int32)), (.int vc)])) _
                              exact k
                            by_cases hc102 : vc < (12289 : Int32)
                            · have hz102 := own_lt (K := 12289) hc102 (by decide)
                              refine ⟨T91, _, X91, Nj91, ej91, trivial, fun t k => ?_⟩
                              refine pre101 t ?_
                              show Steps p.tables e below (T91.setTop (mkF m 146 #[.val (.int vc)] [(.int (12289 : Int32)), (.int vc)])) _
                              refine XS.icmpYes X91.here hx rfl (pc0 := 146) (pc' := 155) rfl (hb hby d1_146) rfl (tlt hc102).1 (by decide) (by decide) ?_
                              show Steps p.tables e below (T91.setTop (mkF m 155 #[.val (.int vc)] [])) _
                              exact k
                            · have hz102 := own_nlt (K := 12289) hc102 (by decide)
                              have pre103 : ∀ t, Steps p.tables e below (T91.setTop (mkF m 152 #[.val (.int vc)] [(.int (55295 : Int32)), (.int vc)])) t → Steps p.tables e below (s₁.setTop (entryFrame m #[(.int vc)] 1)) t := by
                                intro t k
                                refine pre101 t ?_
                                show Steps p.tables e below (T91.setTop (mkF m 146 #[.val (.int vc)] [(.int (12289 : Int32)), (.int vc)])) _
                                refine XS.icmpNo X91.here hx rfl (hb hby d1_146) rfl (flt hc102).1 ?_
                                show Steps p.tables e below (T91.setTop (mkF m 149 #[.val (.int vc)] [])) _
                                refine XS.iloadN X91.here hx rfl (hb hby d1_149) rfl ?_
                                show Steps p.tables e below (T91.setTop (mkF m 150 #[.val (.int vc)] [(.int vc)])) _
                                refine X91.ldcInt hx hown (mvT hZ (hw _ (List.mem_of_getElem? (i := 21) rfl))) (g := (mkF m 150 #[.val (.int vc)] [(.int vc)])) rfl (hb hby d1_150) _ ?_
                                show Steps p.tables e below (T91.setTop (mkF m 152 #[.val (.int vc)] [(.int (55295 : Int32)), (.int vc)])) _
                                exact k
                              have hd104 : (55295 : Int32) < vc := own_mk_gt (K := 55295) (by omega) (by decide)
                              refine ⟨T91, _, X91, Nj91, ej91, trivial, fun t k => ?_⟩
                              refine pre103 t ?_
                              show Steps p.tables e below (T91.setTop (mkF m 152 #[.val (.int vc)] [(.int (55295 : Int32)), (.int vc)])) _
                              refine XS.icmpNo X91.here hx rfl (hb hby d1_152) rfl (tlt hd104).2.2.2 ?_
                              show Steps p.tables e below (T91.setTop (mkF m 155 #[.val (.int vc)] [])) _
                              exact k
                          by_cases hC12 : (63744 ≤ vc.toInt ∧ vc.toInt ≤ 64975)
                          · have pre105 : ∀ t, Steps p.tables e below (T100.setTop (mkF m 158 #[.val (.int vc)] [(.int (63744 : Int32)), (.int vc)])) t → Steps p.tables e below (s₁.setTop (entryFrame m #[(.int vc)] 1)) t := by
                              intro t k
                              refine pre100 t ?_
                              show Steps p.tables e below (T100.setTop (mkF m 155 #[.val (.int vc)] [])) _
                              refine XS.iloadN X100.here hx rfl (hb hby d1_155) rfl ?_
                              show Steps p.tables e below (T100.setTop (mkF m 156 #[.val (.int vc)] [(.int vc)])) _
                              refine X100.ldcInt hx hown (mvT hZ (hw _ (List.mem_of_getElem? (i := 14) rfl))) (g := (mkF m 156 #[.val (.int vc)] [(.int vc)])) rfl (hb hby d1_156) _ ?_
                              show Steps p.tables e below (T100.setTop (mkF m 158 #[.val (.int vc)] [(.int (63744 : Int32)), (.int vc)])) _
                              exact k
                            have hd106 : ¬ (vc < (63744 : Int32)) := own_mk_nlt (K := 63744) (by omega) (by decide)
                            have pre107 : ∀ t, Steps p.tables e below (T100.setTop (mkF m 164 #[.val (.int vc)] [(.int (64975 : Int32)), (.int vc)])) t → Steps p.tables e below (s₁.setTop (entryFrame m #[(.int vc)] 1)) t := by
                              intro t k
                              refine pre105 t ?_
                              show Steps p.tables e below (T100.setTop (mkF m 158 #[.val (.int vc)] [(.int (63744 : Int32)), (.int vc)])) _
                              refine XS.icmpNo X100.here hx rfl (hb hby d1_158) rfl (flt hd106).1 ?_
                              show Steps p.tables e below (T100.setTop (mkF m 161 #[.val (.int vc)] [])) _
                              refine XS.iloadN X100.here hx rfl (hb hby d1_161) rfl ?_
                              show Steps p.tables e below (T100.setTop (mkF m 162 #[.val (.int vc)] [(.int vc)])) _
                              refine X100.ldcInt hx hown (mvT hZ (hw _ (List.mem_of_getElem? (i := 22) rfl))) (g := (mkF m 162 #[.val (.int vc)] [(.int vc)])) rfl (hb hby d1_162) _ ?_
                              show Steps p.tables e below (T100.setTop (mkF m 164 #[.val (.int vc)] [(.int (64975 : Int32)), (.int vc)])) _
                              exact k
                            have hd108 : ¬ ((64975 : Int32) < vc) := own_mk_ngt (K := 64975) (by omega) (by decide)
                            obtain ⟨fs, hr, hrun, hended, hW, hsame⟩ := X100.leave (v := some (.int (1 : Int32))) (fun h => by rw [Bd.returns] at h; cases h)
                            refine ⟨_, _, pre107 _ ?_, hrun, hended, _, _, rfl, ?_, ⟨_, rfl⟩, hW, hsame.mono (by decide) (by decide)⟩
                            · show Steps p.tables e below (T100.setTop (mkF m 164 #[.val (.int vc)] [(.int (64975 : Int32)), (.int vc)])) _
                              refine XS.icmpYes X100.here hx rfl (pc0 := 164) (pc' := 191) rfl (hb hby d1_164) rfl (flt hd108).2.2.2 (by decide) (by decide) ?_
                              show Steps p.tables e below (T100.setTop (mkF m 191 #[.val (.int vc)] [])) _
                              refine XS.iconst X100.here hx rfl (hb hby d1_191) ?_
                              show Steps p.tables e below (T100.setTop (mkF m 192 #[.val (.int vc)] [(.int (1 : Int32))])) _
                              refine XS.goto X100.here hx rfl (pc0 := 192) (pc' := 196) rfl (hb hby d1_192) (by decide) (by decide) ?_
                              show Steps p.tables e below (T100.setTop (mkF m 196 #[.val (.int vc)] [(.int (1 : Int32))])) _
                              exact retN X100 hx (t := .boolean) Bd.returns (by simp) (hb hby d1_196) hr
                            · show Q_isn Z vc h0 n0 _ T100.heap _
                              rw [ej100]
                              exact ⟨by rw [own_isn, if_pos (Or.inr (Or.inr (Or.inr (Or.inr (Or.inr (Or.inr (Or.inr (Or.inr (Or.inr (Or.inr (Or.inr (Or.inr (Or.inl hC12)))))))))))))], Nj100, rfl⟩
                          · obtain ⟨T109, lo109, X109, Nj109, ej109, hj109, pre109⟩ : ∃  (T' : State) (lo : List Loc), Stand p l e ({ frames := 0, cells := 0, slots := 0, locals := 0 } : Room) s m #[(.int vc)] below meth c T' lo 0 0 ∧ Fr n0 lo ∧ T'.heap = h0 ∧ (True) ∧ ∀ t, Steps p.tables e below (T'.setTop (mkF m 167 #[.val (.int vc)] [])) t → Steps p.tables e below (s₁.setTop (entryFrame m #[(.int vc)] 1)) t := by
                              have pre110 : ∀ t, Steps p.tables e below (T100.setTop (mkF m 158 #[.val (.int vc)] [(.int (63744 : Int32)), (.int vc)])) t → Steps p.tables e below (s₁.setTop (entryFrame m #[(.int vc)] 1)) t := by
                                intro t k
                                refine pre100 t ?_
                                show Steps p.tables e below (T100.setTop (mkF m 155 #[.val (.int vc)] [])) _
                                refine XS.iloadN X100.here hx rfl (hb hby d1_155) rfl ?_
                                show Steps p.tables e below (T100.setTop (mkF m 156 #[.val (.int vc)] [(.int vc)])) _
                                refine X100.ldcInt hx hown (mvT hZ (hw _ (List.mem_of_getElem? (i := 14) rfl))) (g := (mkF m 156 #[.val (.int vc)] [(.int vc)])) rfl (hb hby d1_156) _ ?_
                                show Steps p.tables e below (T100.setTop (mkF m 158 #[.val (.int vc)] [(.int (63744 : Int32)), (.int vc)])) _
                                exact k
                              by_cases hc111 : vc < (63744 : Int32)
                              · have hz111 := own_lt (K := 63744) hc111 (by decide)
                                refine ⟨T100, _, X100, Nj100, ej100, trivial, fun t k => ?_⟩
                                refine pre110 t ?_
                                show Steps p.tables e below (T100.setTop (mkF m 158 #[.val (.int vc)] [(.int (63744 : Int32)), (.int vc)])) _
                                refine XS.icmpYes X100.here hx rfl (pc0 := 158) (pc' := 167) rfl (hb hby d1_158) rfl (tlt hc111).1 (by decide) (by decide) ?_
                                show Steps p.tables e below (T100.setTop (mkF m 167 #[.val (.int vc)] [])) _
                                exact k
                              · have hz111 := own_nlt (K := 63744) hc111 (by decide)
                                have pre112 : ∀ t, Steps p.tables e below (T100.setTop (mkF m 164 #[.val (.int vc)] [(.int (64975 : Int32)), (.int vc)])) t → Steps p.tables e below (s₁.setTop (entryFrame m #[(.int vc)] 1)) t := by
                                  intro t k
                                  refine pre110 t ?_
                                  show Steps p.tables e below (T100.setTop (mkF m 158 #[.val (.int vc)] [(.int (63744 : Int32)), (.int vc)])) _
                                  refine XS.icmpNo X100.here hx rfl (hb hby d1_158) rfl (flt hc111).1 ?_
                                  show Steps p.tables e below (T100.setTop (mkF m 161 #[.val (.int vc)] [])) _
                                  refine XS.iloadN X100.here hx rfl (hb hby d1_161) rfl ?_
                                  show Steps p.tables e below (T100.setTop (mkF m 162 #[.val (.int vc)] [(.int vc)])) _
                                  refine X100.ldcInt hx hown (mvT hZ (hw _ (List.mem_of_getElem? (i := 22) rfl))) (g := (mkF m 162 #[.val (.int vc)] [(.int vc)])) rfl (hb hby d1_162) _ ?_
                                  show Steps p.tables e below (T100.setTop (mkF m 164 #[.val (.int vc)] [(.int (64975 : Int32)), (.int vc)])) _
                                  exact k
                                have hd113 : (64975 : Int32) < vc := own_mk_gt (K := 64975) (by omega) (by decide)
                                refine ⟨T100, _, X100, Nj100, ej100, trivial, fun t k => ?_⟩
                                refine pre112 t ?_
                                show Steps p.tables e below (T100.setTop (mkF m 164 #[.val (.int vc)] [(.int (64975 : Int32)), (.int vc)])) _
                                refine XS.icmpNo X100.here hx rfl (hb hby d1_164) rfl (tlt hd113).2.2.2 ?_
                                show Steps p.tables e below (T100.setTop (mkF m 167 #[.val (.int vc)] [])) _
                                exact k
                            by_cases hC13 : (65008 ≤ vc.toInt ∧ vc.toInt ≤ 65533)
                            · have pre114 : ∀ t, Steps p.tables e below (T109.setTop (mkF m 170 #[.val (.int vc)] [(.int (65008 : Int32)), (.int vc)])) t → Steps p.tables e below (s₁.setTop (entryFrame m #[(.int vc)] 1)) t := by
                                intro t k
                                refine pre109 t ?_
                                show Steps p.tables e below (T109.setTop (mkF m 167 #[.val (.int vc)] [])) _
                                refine XS.iloadN X109.here hx rfl (hb hby d1_167) rfl ?_
                                show Steps p.tables e below (T109.setTop (mkF m 168 #[.val (.int vc)] [(.int vc)])) _
                                refine X109.ldcInt hx hown (mvT hZ (hw _ (List.mem_of_getElem? (i := 15) rfl))) (g := (mkF m 168 #[.val (.int vc)] [(.int vc)])) rfl (hb hby d1_168) _ ?_
                                show Steps p.tables e below (T109.setTop (mkF m 170 #[.val (.int vc)] [(.int (65008 : Int32)), (.int vc)])) _
                                exact k
                              have hd115 : ¬ (vc < (65008 : Int32)) := own_mk_nlt (K := 65008) (by omega) (by decide)
                              have pre116 : ∀ t, Steps p.tables e below (T109.setTop (mkF m 176 #[.val (.int vc)] [(.int (65533 : Int32)), (.int vc)])) t → Steps p.tables e below (s₁.setTop (entryFrame m #[(.int vc)] 1)) t := by
                                intro t k
                                refine pre114 t ?_
                                show Steps p.tables e below (T109.setTop (mkF m 170 #[.val (.int vc)] [(.int (65008 : Int32)), (.int vc)])) _
                                refine XS.icmpNo X109.here hx rfl (hb hby d1_170) rfl (flt hd115).1 ?_
                                show Steps p.tables e below (T109.setTop (mkF m 173 #[.val (.int vc)] [])) _
                                refine XS.iloadN X109.here hx rfl (hb hby d1_173) rfl ?_
                                show Steps p.tables e below (T109.setTop (mkF m 174 #[.val (.int vc)] [(.int vc)])) _
                                refine X109.ldcInt hx hown (mvT hZ (hw _ (List.mem_of_getElem? (i := 23) rfl))) (g := (mkF m 174 #[.val (.int vc)] [(.int vc)])) rfl (hb hby d1_174) _ ?_
                                show Steps p.tables e below (T109.setTop (mkF m 176 #[.val (.int vc)] [(.int (65533 : Int32)), (.int vc)])) _
                                exact k
                              have hd117 : ¬ ((65533 : Int32) < vc) := own_mk_ngt (K := 65533) (by omega) (by decide)
                              obtain ⟨fs, hr, hrun, hended, hW, hsame⟩ := X109.leave (v := some (.int (1 : Int32))) (fun h => by rw [Bd.returns] at h; cases h)
                              refine ⟨_, _, pre116 _ ?_, hrun, hended, _, _, rfl, ?_, ⟨_, rfl⟩, hW, hsame.mono (by decide) (by decide)⟩
                              · show Steps p.tables e below (T109.setTop (mkF m 176 #[.val (.int vc)] [(.int (65533 : Int32)), (.int vc)])) _
                                refine XS.icmpYes X109.here hx rfl (pc0 := 176) (pc' := 191) rfl (hb hby d1_176) rfl (flt hd117).2.2.2 (by decide) (by decide) ?_
                                show Steps p.tables e below (T109.setTop (mkF m 191 #[.val (.int vc)] [])) _
                                refine XS.iconst X109.here hx rfl (hb hby d1_191) ?_
                                show Steps p.tables e below (T109.setTop (mkF m 192 #[.val (.int vc)] [(.int (1 : Int32))])) _
                                refine XS.goto X109.here hx rfl (pc0 := 192) (pc' := 196) rfl (hb hby d1_192) (by decide) (by decide) ?_
                                show Steps p.tables e below (T109.setTop (mkF m 196 #[.val (.int vc)] [(.int (1 : Int32))])) _
                                exact retN X109 hx (t := .boolean) Bd.returns (by simp) (hb hby d1_196) hr
                              · show Q_isn Z vc h0 n0 _ T109.heap _
                                rw [ej109]
                                exact ⟨by rw [own_isn, if_pos (Or.inr (Or.inr (Or.inr (Or.inr (Or.inr (Or.inr (Or.inr (Or.inr (Or.inr (Or.inr (Or.inr (Or.inr (Or.inr (Or.inl hC13))))))))))))))], Nj109, rfl⟩
                            · obtain ⟨T118, lo118, X118, Nj118, ej118, hj118, pre118⟩ : ∃  (T' : State) (lo : List Loc), Stand p l e ({ frames := 0, cells := 0, slots := 0, locals := 0 } : Room) s m #[(.int vc)] below meth c T' lo 0 0 ∧ Fr n0 lo ∧ T'.heap = h0 ∧ (True) ∧ ∀ t, Steps p.tables e below (T'.setTop (mkF m 179 #[.val (.int vc)] [])) t → Steps p.tables e below (s₁.setTop (entryFrame m #[(.int vc)] 1)) t := by
                                have pre119 : ∀ t, Steps p.tables e below (T109.setTop (mkF m 170 #[.val (.int vc)] [(.int (65008 : Int32)), (.int vc)])) t → Steps p.tables e below (s₁.setTop (entryFrame m #[(.int vc)] 1)) t := by
                                  intro t k
                                  refine pre109 t ?_
                                  show Steps p.tables e below (T109.setTop (mkF m 167 #[.val (.int vc)] [])) _
                                  refine XS.iloadN X109.here hx rfl (hb hby d1_167) rfl ?_
                                  show Steps p.tables e below (T109.setTop (mkF m 168 #[.val (.int vc)] [(.int vc)])) _
                                  refine X109.ldcInt hx hown (mvT hZ (hw _ (List.mem_of_getElem? (i := 15) rfl))) (g := (mkF m 168 #[.val (.int vc)] [(.int vc)])) rfl (hb hby d1_168) _ ?_
                                  show Steps p.tables e below (T109.setTop (mkF m 170 #[.val (.int vc)] [(.int (65008 : Int32)), (.int vc)])) _
                                  exact k
                                by_cases hc120 : vc < (65008 : Int32)
                                · have hz120 := own_lt (K := 65008) hc120 (by decide)
                                  refine ⟨T109, _, X109, Nj109, ej109, trivial, fun t k => ?_⟩
                                  refine pre119 t ?_
                                  show Steps p.tables e below (T109.setTop (mkF m 170 #[.val (.int vc)] [(.int (65008 : Int32)), (.int vc)])) _
                                  refine XS.icmpYes X109.here hx rfl (pc0 := 170) (pc' := 179) rfl (hb hby d1_170) rfl (tlt hc120).1 (by decide) (by decide) ?_
                                  show Steps p.tables e below (T109.setTop (mkF m 179 #[.val (.int vc)] [])) _
                                  exact k
                                · have hz120 := own_nlt (K := 65008) hc120 (by decide)
                                  have pre121 : ∀ t, Steps p.tables e below (T109.setTop (mkF m 176 #[.val (.int vc)] [(.int (65533 : Int32)), (.int vc)])) t → Steps p.tables e below (s₁.setTop (entryFrame m #[(.int vc)] 1)) t := by
                                    intro t k
                                    refine pre119 t ?_
                                    show Steps p.tables e below (T109.setTop (mkF m 170 #[.val (.int vc)] [(.int (65008 : Int32)), (.int vc)])) _
                                    refine XS.icmpNo X109.here hx rfl (hb hby d1_170) rfl (flt hc120).1 ?_
                                    show Steps p.tables e below (T109.setTop (mkF m 173 #[.val (.int vc)] [])) _
                                    refine XS.iloadN X109.here hx rfl (hb hby d1_173) rfl ?_
                                    show Steps p.tables e below (T109.setTop (mkF m 174 #[.val (.int vc)] [(.int vc)])) _
                                    refine X109.ldcInt hx hown (mvT hZ (hw _ (List.mem_of_getElem? (i := 23) rfl))) (g := (mkF m 174 #[.val (.int vc)] [(.int vc)])) rfl (hb hby d1_174) _ ?_
                                    show Steps p.tables e below (T109.setTop (mkF m 176 #[.val (.int vc)] [(.int (65533 : Int32)), (.int vc)])) _
                                    exact k
                                  have hd122 : (65533 : Int32) < vc := own_mk_gt (K := 65533) (by omega) (by decide)
                                  refine ⟨T109, _, X109, Nj109, ej109, trivial, fun t k => ?_⟩
                                  refine pre121 t ?_
                                  show Steps p.tables e below (T109.setTop (mkF m 176 #[.val (.int vc)] [(.int (65533 : Int32)), (.int vc)])) _
                                  refine XS.icmpNo X109.here hx rfl (hb hby d1_176) rfl (tlt hd122).2.2.2 ?_
                                  show Steps p.tables e below (T109.setTop (mkF m 179 #[.val (.int vc)] [])) _
                                  exact k
                              by_cases hC14 : (65536 ≤ vc.toInt ∧ vc.toInt ≤ 983039)
                              · have pre123 : ∀ t, Steps p.tables e below (T118.setTop (mkF m 182 #[.val (.int vc)] [(.int (65536 : Int32)), (.int vc)])) t → Steps p.tables e below (s₁.setTop (entryFrame m #[(.int vc)] 1)) t := by
                                  intro t k
                                  refine pre118 t ?_
                                  show Steps p.tables e below (T118.setTop (mkF m 179 #[.val (.int vc)] [])) _
                                  refine XS.iloadN X118.here hx rfl (hb hby d1_179) rfl ?_
                                  show Steps p.tables e below (T118.setTop (mkF m 180 #[.val (.int vc)] [(.int vc)])) _
                                  refine X118.ldcInt hx hown (mvT hZ (hw _ (List.mem_of_getElem? (i := 16) rfl))) (g := (mkF m 180 #[.val (.int vc)] [(.int vc)])) rfl (hb hby d1_180) _ ?_
                                  show Steps p.tables e below (T118.setTop (mkF m 182 #[.val (.int vc)] [(.int (65536 : Int32)), (.int vc)])) _
                                  exact k
                                have hd124 : ¬ (vc < (65536 : Int32)) := own_mk_nlt (K := 65536) (by omega) (by decide)
                                have pre125 : ∀ t, Steps p.tables e below (T118.setTop (mkF m 188 #[.val (.int vc)] [(.int (983039 : Int32)), (.int vc)])) t → Steps p.tables e below (s₁.setTop (entryFrame m #[(.int vc)] 1)) t := by
                                  intro t k
                                  refine pre123 t ?_
                                  show Steps p.tables e below (T118.setTop (mkF m 182 #[.val (.int vc)] [(.int (65536 : Int32)), (.int vc)])) _
                                  refine XS.icmpNo X118.here hx rfl (hb hby d1_182) rfl (flt hd124).1 ?_
                                  show Steps p.tables e below (T118.setTop (mkF m 185 #[.val (.int vc)] [])) _
                                  refine XS.iloadN X118.here hx rfl (hb hby d1_185) rfl ?_
                                  show Steps p.tables e below (T118.setTop (mkF m 186 #[.val (.int vc)] [(.int vc)])) _
                                  refine X118.ldcInt hx hown (mvT hZ (hw _ (List.mem_of_getElem? (i := 24) rfl))) (g := (mkF m 186 #[.val (.int vc)] [(.int vc)])) rfl (hb hby d1_186) _ ?_
                                  show Steps p.tables e below (T118.setTop (mkF m 188 #[.val (.int vc)] [(.int (983039 : Int32)), (.int vc)])) _
                                  exact k
                                have hd126 : ¬ ((983039 : Int32) < vc) := own_mk_ngt (K := 983039) (by omega) (by decide)
                                obtain ⟨fs, hr, hrun, hended, hW, hsame⟩ := X118.leave (v := some (.int (1 : Int32))) (fun h => by rw [Bd.returns] at h; cases h)
                                refine ⟨_, _, pre125 _ ?_, hrun, hended, _, _, rfl, ?_, ⟨_, rfl⟩, hW, hsame.mono (by decide) (by decide)⟩
                                · show Steps p.tables e below (T118.setTop (mkF m 188 #[.val (.int vc)] [(.int (983039 : Int32)), (.int vc)])) _
                                  refine XS.icmpNo X118.here hx rfl (hb hby d1_188) rfl (flt hd126).2.2.1 ?_
                                  show Steps p.tables e below (T118.setTop (mkF m 191 #[.val (.int vc)] [])) _
                                  refine XS.iconst X118.here hx rfl (hb hby d1_191) ?_
                                  show Steps p.tables e below (T118.setTop (mkF m 192 #[.val (.int vc)] [(.int (1 : Int32))])) _
                                  refine XS.goto X118.here hx rfl (pc0 := 192) (pc' := 196) rfl (hb hby d1_192) (by decide) (by decide) ?_
                                  show Steps p.tables e below (T118.setTop (mkF m 196 #[.val (.int vc)] [(.int (1 : Int32))])) _
                                  exact retN X118 hx (t := .boolean) Bd.returns (by simp) (hb hby d1_196) hr
                                · show Q_isn Z vc h0 n0 _ T118.heap _
                                  rw [ej118]
                                  exact ⟨by rw [own_isn, if_pos (Or.inr (Or.inr (Or.inr (Or.inr (Or.inr (Or.inr (Or.inr (Or.inr (Or.inr (Or.inr (Or.inr (Or.inr (Or.inr (Or.inr hC14))))))))))))))], Nj118, rfl⟩
                              · obtain ⟨T127, lo127, X127, Nj127, ej127, hj127, pre127⟩ : ∃  (T' : State) (lo : List Loc), Stand p l e ({ frames := 0, cells := 0, slots := 0, locals := 0 } : Room) s m #[(.int vc)] below meth c T' lo 0 0 ∧ Fr n0 lo ∧ T'.heap = h0 ∧ (True) ∧ ∀ t, Steps p.tables e below (T'.setTop (mkF m 195 #[.val (.int vc)] [])) t → Steps p.tables e below (s₁.setTop (entryFrame m #[(.int vc)] 1)) t := by
                                  have pre128 : ∀ t, Steps p.tables e below (T118.setTop (mkF m 182 #[.val (.int vc)] [(.int (65536 : Int32)), (.int vc)])) t → Steps p.tables e below (s₁.setTop (entryFrame m #[(.int vc)] 1)) t := by
                                    intro t k
                                    refine pre118 t ?_
                                    show Steps p.tables e below (T118.setTop (mkF m 179 #[.val (.int vc)] [])) _
                                    refine XS.iloadN X118.here hx rfl (hb hby d1_179) rfl ?_
                                    show Steps p.tables e below (T118.setTop (mkF m 180 #[.val (.int vc)] [(.int vc)])) _
                                    refine X118.ldcInt hx hown (mvT hZ (hw _ (List.mem_of_getElem? (i := 16) rfl))) (g := (mkF m 180 #[.val (.int vc)] [(.int vc)])) rfl (hb hby d1_180) _ ?_
                                    show Steps p.tables e below (T118.setTop (mkF m 182 #[.val (.int vc)] [(.int (65536 : Int32)), (.int vc)])) _
                                    exact k
                                  by_cases hc129 : vc < (65536 : Int32)
                                  · have hz129 := own_lt (K := 65536) hc129 (by decide)
                                    refine ⟨T118, _, X118, Nj118, ej118, trivial, fun t k => ?_⟩
                                    refine pre128 t ?_
                                    show Steps p.tables e below (T118.setTop (mkF m 182 #[.val (.int vc)] [(.int (65536 : Int32)), (.int vc)])) _
                                    refine XS.icmpYes X118.here hx rfl (pc0 := 182) (pc' := 195) rfl (hb hby d1_182) rfl (tlt hc129).1 (by decide) (by decide) ?_
                                    show Steps p.tables e below (T118.setTop (mkF m 195 #[.val (.int vc)] [])) _
                                    exact k
                                  · have hz129 := own_nlt (K := 65536) hc129 (by decide)
                                    have pre130 : ∀ t, Steps p.tables e below (T118.setTop (mkF m 188 #[.val (.int vc)] [(.int (983039 : Int32)), (.int vc)])) t → Steps p.tables e below (s₁.setTop (entryFrame m #[(.int vc)] 1)) t := by
                                      intro t k
                                      refine pre128 t ?_
                                      show Steps p.tables e below (T118.setTop (mkF m 182 #[.val (.int vc)] [(.int (65536 : Int32)), (.int vc)])) _
                                      refine XS.icmpNo X118.here hx rfl (hb hby d1_182) rfl (flt hc129).1 ?_
                                      show Steps p.tables e below (T118.setTop (mkF m 185 #[.val (.int vc)] [])) _
                                      refine XS.iloadN X118.here hx rfl (hb hby d1_185) rfl ?_
                                      show Steps p.tables e below (T118.setTop (mkF m 186 #[.val (.int vc)] [(.int vc)])) _
                                      refine X118.ldcInt hx hown (mvT hZ (hw _ (List.mem_of_getElem? (i := 24) rfl))) (g := (mkF m 186 #[.val (.int vc)] [(.int vc)])) rfl (hb hby d1_186) _ ?_
                                      show Steps p.tables e below (T118.setTop (mkF m 188 #[.val (.int vc)] [(.int (983039 : Int32)), (.int vc)])) _
                                      exact k
                                    have hd131 : (983039 : Int32) < vc := own_mk_gt (K := 983039) (by omega) (by decide)
                                    refine ⟨T118, _, X118, Nj118, ej118, trivial, fun t k => ?_⟩
                                    refine pre130 t ?_
                                    show Steps p.tables e below (T118.setTop (mkF m 188 #[.val (.int vc)] [(.int (983039 : Int32)), (.int vc)])) _
                                    refine XS.icmpYes X118.here hx rfl (pc0 := 188) (pc' := 195) rfl (hb hby d1_188) rfl (tlt hd131).2.2.1 (by decide) (by decide) ?_
                                    show Steps p.tables e below (T118.setTop (mkF m 195 #[.val (.int vc)] [])) _
                                    exact k
                                obtain ⟨fs, hr, hrun, hended, hW, hsame⟩ := X127.leave (v := some (.int (0 : Int32))) (fun h => by rw [Bd.returns] at h; cases h)
                                refine ⟨_, _, pre127 _ ?_, hrun, hended, _, _, rfl, ?_, ⟨_, rfl⟩, hW, hsame.mono (by decide) (by decide)⟩
                                · show Steps p.tables e below (T127.setTop (mkF m 195 #[.val (.int vc)] [])) _
                                  refine XS.iconst X127.here hx rfl (hb hby d1_195) ?_
                                  show Steps p.tables e below (T127.setTop (mkF m 196 #[.val (.int vc)] [(.int (0 : Int32))])) _
                                  exact retN X127 hx (t := .boolean) Bd.returns (by simp) (hb hby d1_196) hr
                                · show Q_isn Z vc h0 n0 _ T127.heap _
                                  rw [ej127]
                                  exact ⟨by rw [own_isn, if_neg (not_or.mpr ⟨hC0, (not_or.mpr ⟨hC1, (not_or.mpr ⟨hC2, (not_or.mpr ⟨hC3, (not_or.mpr ⟨hC4, (not_or.mpr ⟨hC5, (not_or.mpr ⟨hC6, (not_or.mpr ⟨hC7, (not_or.mpr ⟨hC8, (not_or.mpr ⟨hC9, (not_or.mpr ⟨hC10, (not_or.mpr ⟨hC11, (not_or.mpr ⟨hC12, (not_or.mpr ⟨hC13, hC14⟩)⟩)⟩)⟩)⟩)⟩)⟩)⟩)⟩)⟩)⟩)⟩)⟩)⟩)], Nj127, rfl⟩
theorem d2_0 : decode method_3_code 0 = .ok (.iload_n 0, 1) := by decide +kernel
theorem d2_1 : decode method_3_code 1 = .ok (.bipush 65, 2) := by decide +kernel
theorem d2_3 : decode method_3_code 3 = .ok (.if_icmp .ge 5, 3) := by decide +kernel
theorem d2_6 : decode method_3_code 6 = .ok (.iconst 0, 1) := by decide +kernel
theorem d2_7 : decode method_3_code 7 = .ok (.ireturn, 1) := by decide +kernel
theorem d2_8 : decode method_3_code 8 = .ok (.iload_n 0, 1) := by decide +kernel
theorem d2_9 : decode method_3_code 9 = .ok (.bipush 90, 2) := by decide +kernel
theorem d2_11 : decode method_3_code 11 = .ok (.if_icmp .gt 5, 3) := by decide +kernel
theorem d2_14 : decode method_3_code 14 = .ok (.iconst 1, 1) := by decide +kernel
theorem d2_15 : decode method_3_code 15 = .ok (.ireturn, 1) := by decide +kernel
theorem d2_16 : decode method_3_code 16 = .ok (.iload_n 0, 1) := by decide +kernel
theorem d2_17 : decode method_3_code 17 = .ok (.bipush 95, 2) := by decide +kernel
theorem d2_19 : decode method_3_code 19 = .ok (.if_icmp .ge 5, 3) := by decide +kernel
theorem d2_22 : decode method_3_code 22 = .ok (.iconst 0, 1) := by decide +kernel
theorem d2_23 : decode method_3_code 23 = .ok (.ireturn, 1) := by decide +kernel
theorem d2_24 : decode method_3_code 24 = .ok (.iload_n 0, 1) := by decide +kernel
theorem d2_25 : decode method_3_code 25 = .ok (.bipush 95, 2) := by decide +kernel
theorem d2_27 : decode method_3_code 27 = .ok (.if_icmp .ne 5, 3) := by decide +kernel
theorem d2_30 : decode method_3_code 30 = .ok (.iconst 1, 1) := by decide +kernel
theorem d2_31 : decode method_3_code 31 = .ok (.ireturn, 1) := by decide +kernel
theorem d2_32 : decode method_3_code 32 = .ok (.iload_n 0, 1) := by decide +kernel
theorem d2_33 : decode method_3_code 33 = .ok (.bipush 96, 2) := by decide +kernel
theorem d2_35 : decode method_3_code 35 = .ok (.if_icmp .ne 5, 3) := by decide +kernel
theorem d2_38 : decode method_3_code 38 = .ok (.iconst 0, 1) := by decide +kernel
theorem d2_39 : decode method_3_code 39 = .ok (.ireturn, 1) := by decide +kernel
theorem d2_40 : decode method_3_code 40 = .ok (.iload_n 0, 1) := by decide +kernel
theorem d2_41 : decode method_3_code 41 = .ok (.bipush 122, 2) := by decide +kernel
theorem d2_43 : decode method_3_code 43 = .ok (.if_icmp .gt 5, 3) := by decide +kernel
theorem d2_46 : decode method_3_code 46 = .ok (.iconst 1, 1) := by decide +kernel
theorem d2_47 : decode method_3_code 47 = .ok (.ireturn, 1) := by decide +kernel
theorem d2_48 : decode method_3_code 48 = .ok (.iload_n 0, 1) := by decide +kernel
theorem d2_49 : decode method_3_code 49 = .ok (.sipush 192, 3) := by decide +kernel
theorem d2_52 : decode method_3_code 52 = .ok (.if_icmp .ge 5, 3) := by decide +kernel
theorem d2_55 : decode method_3_code 55 = .ok (.iconst 0, 1) := by decide +kernel
theorem d2_56 : decode method_3_code 56 = .ok (.ireturn, 1) := by decide +kernel
theorem d2_57 : decode method_3_code 57 = .ok (.iload_n 0, 1) := by decide +kernel
theorem d2_58 : decode method_3_code 58 = .ok (.sipush 215, 3) := by decide +kernel
theorem d2_61 : decode method_3_code 61 = .ok (.if_icmp .eq 10, 3) := by decide +kernel
theorem d2_64 : decode method_3_code 64 = .ok (.iload_n 0, 1) := by decide +kernel
theorem d2_65 : decode method_3_code 65 = .ok (.sipush 247, 3) := by decide +kernel
theorem d2_68 : decode method_3_code 68 = .ok (.if_icmp .ne 5, 3) := by decide +kernel
theorem d2_71 : decode method_3_code 71 = .ok (.iconst 0, 1) := by decide +kernel
theorem d2_72 : decode method_3_code 72 = .ok (.ireturn, 1) := by decide +kernel
theorem d2_73 : decode method_3_code 73 = .ok (.iload_n 0, 1) := by decide +kernel
theorem d2_74 : decode method_3_code 74 = .ok (.sipush 768, 3) := by decide +kernel
theorem d2_77 : decode method_3_code 77 = .ok (.if_icmp .ge 5, 3) := by decide +kernel
theorem d2_80 : decode method_3_code 80 = .ok (.iconst 1, 1) := by decide +kernel
theorem d2_81 : decode method_3_code 81 = .ok (.ireturn, 1) := by decide +kernel
theorem d2_82 : decode method_3_code 82 = .ok (.iload_n 0, 1) := by decide +kernel
theorem d2_83 : decode method_3_code 83 = .ok (.sipush 880, 3) := by decide +kernel
theorem d2_86 : decode method_3_code 86 = .ok (.if_icmp .ge 5, 3) := by decide +kernel
theorem d2_89 : decode method_3_code 89 = .ok (.iconst 0, 1) := by decide +kernel
theorem d2_90 : decode method_3_code 90 = .ok (.ireturn, 1) := by decide +kernel
theorem d2_91 : decode method_3_code 91 = .ok (.iload_n 0, 1) := by decide +kernel
theorem d2_92 : decode method_3_code 92 = .ok (.sipush 894, 3) := by decide +kernel
theorem d2_95 : decode method_3_code 95 = .ok (.if_icmp .ne 5, 3) := by decide +kernel
theorem d2_98 : decode method_3_code 98 = .ok (.iconst 0, 1) := by decide +kernel
theorem d2_99 : decode method_3_code 99 = .ok (.ireturn, 1) := by decide +kernel
theorem d2_100 : decode method_3_code 100 = .ok (.iload_n 0, 1) := by decide +kernel
theorem d2_101 : decode method_3_code 101 = .ok (.sipush 8192, 3) := by decide +kernel
theorem d2_104 : decode method_3_code 104 = .ok (.if_icmp .ge 5, 3) := by decide +kernel
theorem d2_107 : decode method_3_code 107 = .ok (.iconst 1, 1) := by decide +kernel
theorem d2_108 : decode method_3_code 108 = .ok (.ireturn, 1) := by decide +kernel
theorem d2_109 : decode method_3_code 109 = .ok (.iload_n 0, 1) := by decide +kernel
theorem d2_110 : decode method_3_code 110 = .ok (.sipush 8204, 3) := by decide +kernel
theorem d2_113 : decode method_3_code 113 = .ok (.if_icmp .ge 5, 3) := by decide +kernel
theorem d2_116 : decode method_3_code 116 = .ok (.iconst 0, 1) := by decide +kernel
theorem d2_117 : decode method_3_code 117 = .ok (.ireturn, 1) := by decide +kernel
theorem d2_118 : decode method_3_code 118 = .ok (.iload_n 0, 1) := by decide +kernel
theorem d2_119 : decode method_3_code 119 = .ok (.sipush 8205, 3) := by decide +kernel
theorem d2_122 : decode method_3_code 122 = .ok (.if_icmp .gt 5, 3) := by decide +kernel
theorem d2_125 : decode method_3_code 125 = .ok (.iconst 1, 1) := by decide +kernel
theorem d2_126 : decode method_3_code 126 = .ok (.ireturn, 1) := by decide +kernel
theorem d2_127 : decode method_3_code 127 = .ok (.iload_n 0, 1) := by decide +kernel
theorem d2_128 : decode method_3_code 128 = .ok (.sipush 8304, 3) := by decide +kernel
theorem d2_131 : decode method_3_code 131 = .ok (.if_icmp .ge 5, 3) := by decide +kernel
theorem d2_134 : decode method_3_code 134 = .ok (.iconst 0, 1) := by decide +kernel
theorem d2_135 : decode method_3_code 135 = .ok (.ireturn, 1) := by decide +kernel
theorem d2_136 : decode method_3_code 136 = .ok (.iload_n 0, 1) := by decide +kernel
theorem d2_137 : decode method_3_code 137 = .ok (.sipush 8592, 3) := by decide +kernel
theorem d2_140 : decode method_3_code 140 = .ok (.if_icmp .ge 5, 3) := by decide +kernel
theorem d2_143 : decode method_3_code 143 = .ok (.iconst 1, 1) := by decide +kernel
theorem d2_144 : decode method_3_code 144 = .ok (.ireturn, 1) := by decide +kernel
theorem d2_145 : decode method_3_code 145 = .ok (.iload_n 0, 1) := by decide +kernel
theorem d2_146 : decode method_3_code 146 = .ok (.sipush 11264, 3) := by decide +kernel
theorem d2_149 : decode method_3_code 149 = .ok (.if_icmp .ge 5, 3) := by decide +kernel
theorem d2_152 : decode method_3_code 152 = .ok (.iconst 0, 1) := by decide +kernel
theorem d2_153 : decode method_3_code 153 = .ok (.ireturn, 1) := by decide +kernel
theorem d2_154 : decode method_3_code 154 = .ok (.iload_n 0, 1) := by decide +kernel
theorem d2_155 : decode method_3_code 155 = .ok (.sipush 12272, 3) := by decide +kernel
theorem d2_158 : decode method_3_code 158 = .ok (.if_icmp .ge 5, 3) := by decide +kernel
theorem d2_161 : decode method_3_code 161 = .ok (.iconst 1, 1) := by decide +kernel
theorem d2_162 : decode method_3_code 162 = .ok (.ireturn, 1) := by decide +kernel
theorem d2_163 : decode method_3_code 163 = .ok (.iload_n 0, 1) := by decide +kernel
theorem d2_164 : decode method_3_code 164 = .ok (.sipush 12288, 3) := by decide +kernel
theorem d2_167 : decode method_3_code 167 = .ok (.if_icmp .gt 5, 3) := by decide +kernel
theorem d2_170 : decode method_3_code 170 = .ok (.iconst 0, 1) := by decide +kernel
theorem d2_171 : decode method_3_code 171 = .ok (.ireturn, 1) := by decide +kernel
theorem d2_172 : decode method_3_code 172 = .ok (.iload_n 0, 1) := by decide +kernel
theorem d2_173 : decode method_3_code 173 = .ok (.ldc 29, 2) := by decide +kernel
theorem d2_175 : decode method_3_code 175 = .ok (.if_icmp .ge 5, 3) := by decide +kernel
theorem d2_178 : decode method_3_code 178 = .ok (.iconst 1, 1) := by decide +kernel
theorem d2_179 : decode method_3_code 179 = .ok (.ireturn, 1) := by decide +kernel
theorem d2_180 : decode method_3_code 180 = .ok (.iload_n 0, 1) := by decide +kernel
theorem d2_181 : decode method_3_code 181 = .ok (.ldc 8, 2) := by decide +kernel
theorem d2_183 : decode method_3_code 183 = .ok (.if_icmp .ge 5, 3) := by decide +kernel
theorem d2_186 : decode method_3_code 186 = .ok (.iconst 0, 1) := by decide +kernel
theorem d2_187 : decode method_3_code 187 = .ok (.ireturn, 1) := by decide +kernel
theorem d2_188 : decode method_3_code 188 = .ok (.iload_n 0, 1) := by decide +kernel
theorem d2_189 : decode method_3_code 189 = .ok (.ldc 30, 2) := by decide +kernel
theorem d2_191 : decode method_3_code 191 = .ok (.if_icmp .ge 5, 3) := by decide +kernel
theorem d2_194 : decode method_3_code 194 = .ok (.iconst 1, 1) := by decide +kernel
theorem d2_195 : decode method_3_code 195 = .ok (.ireturn, 1) := by decide +kernel
theorem d2_196 : decode method_3_code 196 = .ok (.iload_n 0, 1) := by decide +kernel
theorem d2_197 : decode method_3_code 197 = .ok (.ldc 10, 2) := by decide +kernel
theorem d2_199 : decode method_3_code 199 = .ok (.if_icmp .ge 5, 3) := by decide +kernel
theorem d2_202 : decode method_3_code 202 = .ok (.iconst 0, 1) := by decide +kernel
theorem d2_203 : decode method_3_code 203 = .ok (.ireturn, 1) := by decide +kernel
theorem d2_204 : decode method_3_code 204 = .ok (.iload_n 0, 1) := by decide +kernel
theorem d2_205 : decode method_3_code 205 = .ok (.ldc 31, 2) := by decide +kernel
theorem d2_207 : decode method_3_code 207 = .ok (.if_icmp .ge 5, 3) := by decide +kernel
theorem d2_210 : decode method_3_code 210 = .ok (.iconst 1, 1) := by decide +kernel
theorem d2_211 : decode method_3_code 211 = .ok (.ireturn, 1) := by decide +kernel
theorem d2_212 : decode method_3_code 212 = .ok (.iload_n 0, 1) := by decide +kernel
theorem d2_213 : decode method_3_code 213 = .ok (.ldc 12, 2) := by decide +kernel
theorem d2_215 : decode method_3_code 215 = .ok (.if_icmp .ge 5, 3) := by decide +kernel
theorem d2_218 : decode method_3_code 218 = .ok (.iconst 0, 1) := by decide +kernel
theorem d2_219 : decode method_3_code 219 = .ok (.ireturn, 1) := by decide +kernel
theorem d2_220 : decode method_3_code 220 = .ok (.iload_n 0, 1) := by decide +kernel
theorem d2_221 : decode method_3_code 221 = .ok (.ldc 32, 2) := by decide +kernel
theorem d2_223 : decode method_3_code 223 = .ok (.if_icmp .ge 7, 3) := by decide +kernel
theorem d2_226 : decode method_3_code 226 = .ok (.iconst 1, 1) := by decide +kernel
theorem d2_227 : decode method_3_code 227 = .ok (.goto 4, 3) := by decide +kernel
theorem d2_230 : decode method_3_code 230 = .ok (.iconst 0, 1) := by decide +kernel
theorem d2_231 : decode method_3_code 231 = .ok (.ireturn, 1) := by decide +kernel
theorem pn_rm_ex : plainName "com/example/nano_xpath/nanoxpath/XmlNamesIsNameStartCharacterPinLaw" = true := by first | (simp [plainName, overriddenIn]; done) | decide +kernel
theorem ef_rm_ex (m : MethodId) (vc : Int32) : entryFrame m #[(.int vc)] 1 = mkF m 0 #[.val (.int vc)] [] := by first | (simp [entryFrame, mkF, argsToLocals, Value.category]; done) | rfl
def Q_ex (Z : State) (vc : Int32) (h0 : Heap) (n0 : Nat) (v : Option Value) (h : Heap) (L : List Loc) : Prop := v = some (.int (own_isn vc)) ∧ Fr n0 L ∧ h = h0
set_option maxRecDepth 65536 in
set_option maxHeartbeats 40000000 in
theorem rm_ex (l : Launch) (Z : State) (a0 : Array Value) (hw : ∀ d ∈ tables_1, d.before a0 Z = true) (ws : List Jvm.Cond) (vc : Int32) (h0 : Heap) (n0 : Nat) (Z0 : n0 ≤ h0.size) :
    MetFree l (⟨"com/example/nano_xpath/nanoxpath/XmlNamesIsNameStartCharacterPinLaw", "expected", "(I)Z"⟩ : MethodName) (head1 (Jvm.Cond.code (⟨"com/example/nano_xpath/nanoxpath/XmlNamesIsNameStartCharacterPinLaw", "expected", "(I)Z"⟩ : MethodName) method_3_code 1 (some .boolean) :: ws) ({ frames := 0, cells := 0, slots := 0, locals := 0 } : Room)) (fun a U => a = #[(.int vc)] ∧ Z.Warmed39 U.vm ∧ U.heap = h0) (fun _ _ _ _ _ => True) (fun _ U o U' => ∃ v L, o = .returned v ∧ Q_ex Z vc h0 n0 v U'.heap L ∧ FrameEnd U o U' L ({ frames := 0, cells := 0, slots := 0, locals := 0 } : Room).cells ({ frames := 0, cells := 0, slots := 0, locals := 0 } : Room).slots) := by
  refine MetFree.of_bodySF (plainFor_of_name pn_rm_ex) hisR ?_
  intro p e s m args below meth c s₁ Bd hml0 hP hK
  obtain ⟨rfl, hZ, hh⟩ := hP
  have hx := Bd.exec
  have hby := Bd.bytes
  have hml : c.maxLocals = 1 := hml0
  have hown : s.vm.findClass "com/example/nano_xpath/nanoxpath/XmlNamesIsNameStartCharacterPinLaw" = some m.cls := findClass_of_methodNamed Bd.named
  have hnm := (name_of_methodNamed Bd.named Bd.method).1
  have X0 : Stand p l e ({ frames := 0, cells := 0, slots := 0, locals := 0 } : Room) s m #[(.int vc)] below meth c s₁ [] 0 0 := Stand.of_body Bd
  have e0 : s₁.heap = h0 := by rw [← hh, Bd.state]; rfl
  have N0 := Fr.nil n0
  have pre0 : ∀ t, Steps p.tables e below (s₁.setTop (mkF m 0 #[.val (.int vc)] [])) t → Steps p.tables e below (s₁.setTop (entryFrame m #[(.int vc)] 1)) t := fun t k => castTop (ef_rm_ex m vc) k
  have pre1 : ∀ t, Steps p.tables e below (s₁.setTop (mkF m 3 #[.val (.int vc)] [(.int (65 : Int32)), (.int vc)])) t → Steps p.tables e below (s₁.setTop (entryFrame m #[(.int vc)] 1)) t := by
    intro t k
    refine pre0 t ?_
    show Steps p.tables e below (s₁.setTop (mkF m 0 #[.val (.int vc)] [])) _
    refine XS.iloadN X0.here hx rfl (hb hby d2_0) rfl ?_
    show Steps p.tables e below (s₁.setTop (mkF m 1 #[.val (.int vc)] [(.int vc)])) _
    refine XS.bipush X0.here hx rfl (hb hby d2_1) ?_
    show Steps p.tables e below (s₁.setTop (mkF m 3 #[.val (.int vc)] [(.int (65 : Int32)), (.int vc)])) _
    exact k
  by_cases hc2 : vc < (65 : Int32)
  · have hz2 := own_lt (K := 65) hc2 (by decide)
    obtain ⟨fs, hr, hrun, hended, hW, hsame⟩ := X0.leave (v := some (.int (0 : Int32))) (fun h => by rw [Bd.returns] at h; cases h)
    refine ⟨_, _, pre1 _ ?_, hrun, hended, _, _, rfl, ?_, ⟨_, rfl⟩, hW, hsame.mono (by decide) (by decide)⟩
    · show Steps p.tables e below (s₁.setTop (mkF m 3 #[.val (.int vc)] [(.int (65 : Int32)), (.int vc)])) _
      refine XS.icmpNo X0.here hx rfl (hb hby d2_3) rfl (tlt hc2).2.1 ?_
      show Steps p.tables e below (s₁.setTop (mkF m 6 #[.val (.int vc)] [])) _
      refine XS.iconst X0.here hx rfl (hb hby d2_6) ?_
      show Steps p.tables e below (s₁.setTop (mkF m 7 #[.val (.int vc)] [(.int (0 : Int32))])) _
      exact retN X0 hx (t := .boolean) Bd.returns (by simp) (hb hby d2_7) hr
    · show Q_ex Z vc h0 n0 _ s₁.heap _
      rw [e0]
      exact ⟨by rw [own_isn, if_neg (by omega)], N0, rfl⟩
  · have hz2 := own_nlt (K := 65) hc2 (by decide)
    have pre3 : ∀ t, Steps p.tables e below (s₁.setTop (mkF m 11 #[.val (.int vc)] [(.int (90 : Int32)), (.int vc)])) t → Steps p.tables e below (s₁.setTop (entryFrame m #[(.int vc)] 1)) t := by
      intro t k
      refine pre1 t ?_
      show Steps p.tables e below (s₁.setTop (mkF m 3 #[.val (.int vc)] [(.int (65 : Int32)), (.int vc)])) _
      refine XS.icmpYes X0.here hx rfl (pc0 := 3) (pc' := 8) rfl (hb hby d2_3) rfl (flt hc2).2.1 (by decide) (by decide) ?_
      show Steps p.tables e below (s₁.setTop (mkF m 8 #[.val (.int vc)] [])) _
      refine XS.iloadN X0.here hx rfl (hb hby d2_8) rfl ?_
      show Steps p.tables e below (s₁.setTop (mkF m 9 #[.val (.int vc)] [(.int vc)])) _
      refine XS.bipush X0.here hx rfl (hb hby d2_9) ?_
      show Steps p.tables e below (s₁.setTop (mkF m 11 #[.val (.int vc)] [(.int (90 : Int32)), (.int vc)])) _
      exact k
    by_cases hc4 : (90 : Int32) < vc
    · have hz4 := own_gt (K := 90) hc4 (by decide)
      have pre5 : ∀ t, Steps p.tables e below (s₁.setTop (mkF m 19 #[.val (.int vc)] [(.int (95 : Int32)), (.int vc)])) t → Steps p.tables e below (s₁.setTop (entryFrame m #[(.int vc)] 1)) t := by
        intro t k
        refine pre3 t ?_
        show Steps p.tables e below (s₁.setTop (mkF m 11 #[.val (.int vc)] [(.int (90 : Int32)), (.int vc)])) _
        refine XS.icmpYes X0.here hx rfl (pc0 := 11) (pc' := 16) rfl (hb hby d2_11) rfl (tlt hc4).2.2.1 (by decide) (by decide) ?_
        show Steps p.tables e below (s₁.setTop (mkF m 16 #[.val (.int vc)] [])) _
        refine XS.iloadN X0.here hx rfl (hb hby d2_16) rfl ?_
        show Steps p.tables e below (s₁.setTop (mkF m 17 #[.val (.int vc)] [(.int vc)])) _
        refine XS.bipush X0.here hx rfl (hb hby d2_17) ?_
        show Steps p.tables e below (s₁.setTop (mkF m 19 #[.val (.int vc)] [(.int (95 : Int32)), (.int vc)])) _
        exact k
      by_cases hc6 : vc < (95 : Int32)
      · have hz6 := own_lt (K := 95) hc6 (by decide)
        obtain ⟨fs, hr, hrun, hended, hW, hsame⟩ := X0.leave (v := some (.int (0 : Int32))) (fun h => by rw [Bd.returns] at h; cases h)
        refine ⟨_, _, pre5 _ ?_, hrun, hended, _, _, rfl, ?_, ⟨_, rfl⟩, hW, hsame.mono (by decide) (by decide)⟩
        · show Steps p.tables e below (s₁.setTop (mkF m 19 #[.val (.int vc)] [(.int (95 : Int32)), (.int vc)])) _
          refine XS.icmpNo X0.here hx rfl (hb hby d2_19) rfl (tlt hc6).2.1 ?_
          show Steps p.tables e below (s₁.setTop (mkF m 22 #[.val (.int vc)] [])) _
          refine XS.iconst X0.here hx rfl (hb hby d2_22) ?_
          show Steps p.tables e below (s₁.setTop (mkF m 23 #[.val (.int vc)] [(.int (0 : Int32))])) _
          exact retN X0 hx (t := .boolean) Bd.returns (by simp) (hb hby d2_23) hr
        · show Q_ex Z vc h0 n0 _ s₁.heap _
          rw [e0]
          exact ⟨by rw [own_isn, if_neg (by omega)], N0, rfl⟩
      · have hz6 := own_nlt (K := 95) hc6 (by decide)
        have pre7 : ∀ t, Steps p.tables e below (s₁.setTop (mkF m 27 #[.val (.int vc)] [(.int (95 : Int32)), (.int vc)])) t → Steps p.tables e below (s₁.setTop (entryFrame m #[(.int vc)] 1)) t := by
          intro t k
          refine pre5 t ?_
          show Steps p.tables e below (s₁.setTop (mkF m 19 #[.val (.int vc)] [(.int (95 : Int32)), (.int vc)])) _
          refine XS.icmpYes X0.here hx rfl (pc0 := 19) (pc' := 24) rfl (hb hby d2_19) rfl (flt hc6).2.1 (by decide) (by decide) ?_
          show Steps p.tables e below (s₁.setTop (mkF m 24 #[.val (.int vc)] [])) _
          refine XS.iloadN X0.here hx rfl (hb hby d2_24) rfl ?_
          show Steps p.tables e below (s₁.setTop (mkF m 25 #[.val (.int vc)] [(.int vc)])) _
          refine XS.bipush X0.here hx rfl (hb hby d2_25) ?_
          show Steps p.tables e below (s₁.setTop (mkF m 27 #[.val (.int vc)] [(.int (95 : Int32)), (.int vc)])) _
          exact k
        by_cases hc8 : vc = (95 : Int32)
        · have hz8 := own_eq (K := 95) hc8 (by decide)
          obtain ⟨fs, hr, hrun, hended, hW, hsame⟩ := X0.leave (v := some (.int (1 : Int32))) (fun h => by rw [Bd.returns] at h; cases h)
          refine ⟨_, _, pre7 _ ?_, hrun, hended, _, _, rfl, ?_, ⟨_, rfl⟩, hW, hsame.mono (by decide) (by decide)⟩
          · show Steps p.tables e below (s₁.setTop (mkF m 27 #[.val (.int vc)] [(.int (95 : Int32)), (.int vc)])) _
            refine XS.icmpNo X0.here hx rfl (hb hby d2_27) rfl (teq hc8).2 ?_
            show Steps p.tables e below (s₁.setTop (mkF m 30 #[.val (.int vc)] [])) _
            refine XS.iconst X0.here hx rfl (hb hby d2_30) ?_
            show Steps p.tables e below (s₁.setTop (mkF m 31 #[.val (.int vc)] [(.int (1 : Int32))])) _
            exact retN X0 hx (t := .boolean) Bd.returns (by simp) (hb hby d2_31) hr
          · show Q_ex Z vc h0 n0 _ s₁.heap _
            rw [e0]
            exact ⟨by rw [own_isn, if_pos (Or.inr (Or.inl (by omega)))], N0, rfl⟩
        · have hz8 := own_neq (K := 95) hc8 (by decide)
          have pre9 : ∀ t, Steps p.tables e below (s₁.setTop (mkF m 35 #[.val (.int vc)] [(.int (96 : Int32)), (.int vc)])) t → Steps p.tables e below (s₁.setTop (entryFrame m #[(.int vc)] 1)) t := by
            intro t k
            refine pre7 t ?_
            show Steps p.tables e below (s₁.setTop (mkF m 27 #[.val (.int vc)] [(.int (95 : Int32)), (.int vc)])) _
            refine XS.icmpYes X0.here hx rfl (pc0 := 27) (pc' := 32) rfl (hb hby d2_27) rfl (feq hc8).2 (by decide) (by decide) ?_
            show Steps p.tables e below (s₁.setTop (mkF m 32 #[.val (.int vc)] [])) _
            refine XS.iloadN X0.here hx rfl (hb hby d2_32) rfl ?_
            show Steps p.tables e below (s₁.setTop (mkF m 33 #[.val (.int vc)] [(.int vc)])) _
            refine XS.bipush X0.here hx rfl (hb hby d2_33) ?_
            show Steps p.tables e below (s₁.setTop (mkF m 35 #[.val (.int vc)] [(.int (96 : Int32)), (.int vc)])) _
            exact k
          by_cases hc10 : vc = (96 : Int32)
          · have hz10 := own_eq (K := 96) hc10 (by decide)
            obtain ⟨fs, hr, hrun, hended, hW, hsame⟩ := X0.leave (v := some (.int (0 : Int32))) (fun h => by rw [Bd.returns] at h; cases h)
            refine ⟨_, _, pre9 _ ?_, hrun, hended, _, _, rfl, ?_, ⟨_, rfl⟩, hW, hsame.mono (by decide) (by decide)⟩
            · show Steps p.tables e below (s₁.setTop (mkF m 35 #[.val (.int vc)] [(.int (96 : Int32)), (.int vc)])) _
              refine XS.icmpNo X0.here hx rfl (hb hby d2_35) rfl (teq hc10).2 ?_
              show Steps p.tables e below (s₁.setTop (mkF m 38 #[.val (.int vc)] [])) _
              refine XS.iconst X0.here hx rfl (hb hby d2_38) ?_
              show Steps p.tables e below (s₁.setTop (mkF m 39 #[.val (.int vc)] [(.int (0 : Int32))])) _
              exact retN X0 hx (t := .boolean) Bd.returns (by simp) (hb hby d2_39) hr
            · show Q_ex Z vc h0 n0 _ s₁.heap _
              rw [e0]
              exact ⟨by rw [own_isn, if_neg (by omega)], N0, rfl⟩
          · have hz10 := own_neq (K := 96) hc10 (by decide)
            have pre11 : ∀ t, Steps p.tables e below (s₁.setTop (mkF m 43 #[.val (.int vc)] [(.int (122 : Int32)), (.int vc)])) t → Steps p.tables e below (s₁.setTop (entryFrame m #[(.int vc)] 1)) t := by
              intro t k
              refine pre9 t ?_
              show Steps p.tables e below (s₁.setTop (mkF m 35 #[.val (.int vc)] [(.int (96 : Int32)), (.int vc)])) _
              refine XS.icmpYes X0.here hx rfl (pc0 := 35) (pc' := 40) rfl (hb hby d2_35) rfl (feq hc10).2 (by decide) (by decide) ?_
              show Steps p.tables e below (s₁.setTop (mkF m 40 #[.val (.int vc)] [])) _
              refine XS.iloadN X0.here hx rfl (hb hby d2_40) rfl ?_
              show Steps p.tables e below (s₁.setTop (mkF m 41 #[.val (.int vc)] [(.int vc)])) _
              refine XS.bipush X0.here hx rfl (hb hby d2_41) ?_
              show Steps p.tables e below (s₁.setTop (mkF m 43 #[.val (.int vc)] [(.int (122 : Int32)), (.int vc)])) _
              exact k
            by_cases hc12 : (122 : Int32) < vc
            · have hz12 := own_gt (K := 122) hc12 (by decide)
              have pre13 : ∀ t, Steps p.tables e below (s₁.setTop (mkF m 52 #[.val (.int vc)] [(.int (192 : Int32)), (.int vc)])) t → Steps p.tables e below (s₁.setTop (entryFrame m #[(.int vc)] 1)) t := by
                intro t k
                refine pre11 t ?_
                show Steps p.tables e below (s₁.setTop (mkF m 43 #[.val (.int vc)] [(.int (122 : Int32)), (.int vc)])) _
                refine XS.icmpYes X0.here hx rfl (pc0 := 43) (pc' := 48) rfl (hb hby d2_43) rfl (tlt hc12).2.2.1 (by decide) (by decide) ?_
                show Steps p.tables e below (s₁.setTop (mkF m 48 #[.val (.int vc)] [])) _
                refine XS.iloadN X0.here hx rfl (hb hby d2_48) rfl ?_
                show Steps p.tables e below (s₁.setTop (mkF m 49 #[.val (.int vc)] [(.int vc)])) _
                refine XS.sipush X0.here hx rfl (hb hby d2_49) ?_
                show Steps p.tables e below (s₁.setTop (mkF m 52 #[.val (.int vc)] [(.int (192 : Int32)), (.int vc)])) _
                exact k
              by_cases hc14 : vc < (192 : Int32)
              · have hz14 := own_lt (K := 192) hc14 (by decide)
                obtain ⟨fs, hr, hrun, hended, hW, hsame⟩ := X0.leave (v := some (.int (0 : Int32))) (fun h => by rw [Bd.returns] at h; cases h)
                refine ⟨_, _, pre13 _ ?_, hrun, hended, _, _, rfl, ?_, ⟨_, rfl⟩, hW, hsame.mono (by decide) (by decide)⟩
                · show Steps p.tables e below (s₁.setTop (mkF m 52 #[.val (.int vc)] [(.int (192 : Int32)), (.int vc)])) _
                  refine XS.icmpNo X0.here hx rfl (hb hby d2_52) rfl (tlt hc14).2.1 ?_
                  show Steps p.tables e below (s₁.setTop (mkF m 55 #[.val (.int vc)] [])) _
                  refine XS.iconst X0.here hx rfl (hb hby d2_55) ?_
                  show Steps p.tables e below (s₁.setTop (mkF m 56 #[.val (.int vc)] [(.int (0 : Int32))])) _
                  exact retN X0 hx (t := .boolean) Bd.returns (by simp) (hb hby d2_56) hr
                · show Q_ex Z vc h0 n0 _ s₁.heap _
                  rw [e0]
                  exact ⟨by rw [own_isn, if_neg (by omega)], N0, rfl⟩
              · have hz14 := own_nlt (K := 192) hc14 (by decide)
                have pre15 : ∀ t, Steps p.tables e below (s₁.setTop (mkF m 61 #[.val (.int vc)] [(.int (215 : Int32)), (.int vc)])) t → Steps p.tables e below (s₁.setTop (entryFrame m #[(.int vc)] 1)) t := by
                  intro t k
                  refine pre13 t ?_
                  show Steps p.tables e below (s₁.setTop (mkF m 52 #[.val (.int vc)] [(.int (192 : Int32)), (.int vc)])) _
                  refine XS.icmpYes X0.here hx rfl (pc0 := 52) (pc' := 57) rfl (hb hby d2_52) rfl (flt hc14).2.1 (by decide) (by decide) ?_
                  show Steps p.tables e below (s₁.setTop (mkF m 57 #[.val (.int vc)] [])) _
                  refine XS.iloadN X0.here hx rfl (hb hby d2_57) rfl ?_
                  show Steps p.tables e below (s₁.setTop (mkF m 58 #[.val (.int vc)] [(.int vc)])) _
                  refine XS.sipush X0.here hx rfl (hb hby d2_58) ?_
                  show Steps p.tables e below (s₁.setTop (mkF m 61 #[.val (.int vc)] [(.int (215 : Int32)), (.int vc)])) _
                  exact k
                by_cases hc16 : vc = (215 : Int32)
                · have hz16 := own_eq (K := 215) hc16 (by decide)
                  obtain ⟨fs, hr, hrun, hended, hW, hsame⟩ := X0.leave (v := some (.int (0 : Int32))) (fun h => by rw [Bd.returns] at h; cases h)
                  refine ⟨_, _, pre15 _ ?_, hrun, hended, _, _, rfl, ?_, ⟨_, rfl⟩, hW, hsame.mono (by decide) (by decide)⟩
                  · show Steps p.tables e below (s₁.setTop (mkF m 61 #[.val (.int vc)] [(.int (215 : Int32)), (.int vc)])) _
                    refine XS.icmpYes X0.here hx rfl (pc0 := 61) (pc' := 71) rfl (hb hby d2_61) rfl (teq hc16).1 (by decide) (by decide) ?_
                    show Steps p.tables e below (s₁.setTop (mkF m 71 #[.val (.int vc)] [])) _
                    refine XS.iconst X0.here hx rfl (hb hby d2_71) ?_
                    show Steps p.tables e below (s₁.setTop (mkF m 72 #[.val (.int vc)] [(.int (0 : Int32))])) _
                    exact retN X0 hx (t := .boolean) Bd.returns (by simp) (hb hby d2_72) hr
                  · show Q_ex Z vc h0 n0 _ s₁.heap _
                    rw [e0]
                    exact ⟨by rw [own_isn, if_neg (by omega)], N0, rfl⟩
                · have hz16 := own_neq (K := 215) hc16 (by decide)
                  have pre17 : ∀ t, Steps p.tables e below (s₁.setTop (mkF m 68 #[.val (.int vc)] [(.int (247 : Int32)), (.int vc)])) t → Steps p.tables e below (s₁.setTop (entryFrame m #[(.int vc)] 1)) t := by
                    intro t k
                    refine pre15 t ?_
                    show Steps p.tables e below (s₁.setTop (mkF m 61 #[.val (.int vc)] [(.int (215 : Int32)), (.int vc)])) _
                    refine XS.icmpNo X0.here hx rfl (hb hby d2_61) rfl (feq hc16).1 ?_
                    show Steps p.tables e below (s₁.setTop (mkF m 64 #[.val (.int vc)] [])) _
                    refine XS.iloadN X0.here hx rfl (hb hby d2_64) rfl ?_
                    show Steps p.tables e below (s₁.setTop (mkF m 65 #[.val (.int vc)] [(.int vc)])) _
                    refine XS.sipush X0.here hx rfl (hb hby d2_65) ?_
                    show Steps p.tables e below (s₁.setTop (mkF m 68 #[.val (.int vc)] [(.int (247 : Int32)), (.int vc)])) _
                    exact k
                  by_cases hc18 : vc = (247 : Int32)
                  · have hz18 := own_eq (K := 247) hc18 (by decide)
                    obtain ⟨fs, hr, hrun, hended, hW, hsame⟩ := X0.leave (v := some (.int (0 : Int32))) (fun h => by rw [Bd.returns] at h; cases h)
                    refine ⟨_, _, pre17 _ ?_, hrun, hended, _, _, rfl, ?_, ⟨_, rfl⟩, hW, hsame.mono (by decide) (by decide)⟩
                    · show Steps p.tables e below (s₁.setTop (mkF m 68 #[.val (.int vc)] [(.int (247 : Int32)), (.int vc)])) _
                      refine XS.icmpNo X0.here hx rfl (hb hby d2_68) rfl (teq hc18).2 ?_
                      show Steps p.tables e below (s₁.setTop (mkF m 71 #[.val (.int vc)] [])) _
                      refine XS.iconst X0.here hx rfl (hb hby d2_71) ?_
                      show Steps p.tables e below (s₁.setTop (mkF m 72 #[.val (.int vc)] [(.int (0 : Int32))])) _
                      exact retN X0 hx (t := .boolean) Bd.returns (by simp) (hb hby d2_72) hr
                    · show Q_ex Z vc h0 n0 _ s₁.heap _
                      rw [e0]
                      exact ⟨by rw [own_isn, if_neg (by omega)], N0, rfl⟩
                  · have hz18 := own_neq (K := 247) hc18 (by decide)
                    have pre19 : ∀ t, Steps p.tables e below (s₁.setTop (mkF m 77 #[.val (.int vc)] [(.int (768 : Int32)), (.int vc)])) t → Steps p.tables e below (s₁.setTop (entryFrame m #[(.int vc)] 1)) t := by
                      intro t k
                      refine pre17 t ?_
                      show Steps p.tables e below (s₁.setTop (mkF m 68 #[.val (.int vc)] [(.int (247 : Int32)), (.int vc)])) _
                      refine XS.icmpYes X0.here hx rfl (pc0 := 68) (pc' := 73) rfl (hb hby d2_68) rfl (feq hc18).2 (by decide) (by decide) ?_
                      show Steps p.tables e below (s₁.setTop (mkF m 73 #[.val (.int vc)] [])) _
                      refine XS.iloadN X0.here hx rfl (hb hby d2_73) rfl ?_
                      show Steps p.tables e below (s₁.setTop (mkF m 74 #[.val (.int vc)] [(.int vc)])) _
                      refine XS.sipush X0.here hx rfl (hb hby d2_74) ?_
                      show Steps p.tables e below (s₁.setTop (mkF m 77 #[.val (.int vc)] [(.int (768 : Int32)), (.int vc)])) _
                      exact k
                    by_cases hc20 : vc < (768 : Int32)
                    · have hz20 := own_lt (K := 768) hc20 (by decide)
                      obtain ⟨fs, hr, hrun, hended, hW, hsame⟩ := X0.leave (v := some (.int (1 : Int32))) (fun h => by rw [Bd.returns] at h; cases h)
                      refine ⟨_, _, pre19 _ ?_, hrun, hended, _, _, rfl, ?_, ⟨_, rfl⟩, hW, hsame.mono (by decide) (by decide)⟩
                      · show Steps p.tables e below (s₁.setTop (mkF m 77 #[.val (.int vc)] [(.int (768 : Int32)), (.int vc)])) _
                        refine XS.icmpNo X0.here hx rfl (hb hby d2_77) rfl (tlt hc20).2.1 ?_
                        show Steps p.tables e below (s₁.setTop (mkF m 80 #[.val (.int vc)] [])) _
                        refine XS.iconst X0.here hx rfl (hb hby d2_80) ?_
                        show Steps p.tables e below (s₁.setTop (mkF m 81 #[.val (.int vc)] [(.int (1 : Int32))])) _
                        exact retN X0 hx (t := .boolean) Bd.returns (by simp) (hb hby d2_81) hr
                      · show Q_ex Z vc h0 n0 _ s₁.heap _
                        rw [e0]
                        exact ⟨by rw [own_isn, if_pos (by omega)], N0, rfl⟩
                    · have hz20 := own_nlt (K := 768) hc20 (by decide)
                      have pre21 : ∀ t, Steps p.tables e below (s₁.setTop (mkF m 86 #[.val (.int vc)] [(.int (880 : Int32)), (.int vc)])) t → Steps p.tables e below (s₁.setTop (entryFrame m #[(.int vc)] 1)) t := by
                        intro t k
                        refine pre19 t ?_
                        show Steps p.tables e below (s₁.setTop (mkF m 77 #[.val (.int vc)] [(.int (768 : Int32)), (.int vc)])) _
                        refine XS.icmpYes X0.here hx rfl (pc0 := 77) (pc' := 82) rfl (hb hby d2_77) rfl (flt hc20).2.1 (by decide) (by decide) ?_
                        show Steps p.tables e below (s₁.setTop (mkF m 82 #[.val (.int vc)] [])) _
                        refine XS.iloadN X0.here hx rfl (hb hby d2_82) rfl ?_
                        show Steps p.tables e below (s₁.setTop (mkF m 83 #[.val (.int vc)] [(.int vc)])) _
                        refine XS.sipush X0.here hx rfl (hb hby d2_83) ?_
                        show Steps p.tables e below (s₁.setTop (mkF m 86 #[.val (.int vc)] [(.int (880 : Int32)), (.int vc)])) _
                        exact k
                      by_cases hc22 : vc < (880 : Int32)
                      · have hz22 := own_lt (K := 880) hc22 (by decide)
                        obtain ⟨fs, hr, hrun, hended, hW, hsame⟩ := X0.leave (v := some (.int (0 : Int32))) (fun h => by rw [Bd.returns] at h; cases h)
                        refine ⟨_, _, pre21 _ ?_, hrun, hended, _, _, rfl, ?_, ⟨_, rfl⟩, hW, hsame.mono (by decide) (by decide)⟩
                        · show Steps p.tables e below (s₁.setTop (mkF m 86 #[.val (.int vc)] [(.int (880 : Int32)), (.int vc)])) _
                          refine XS.icmpNo X0.here hx rfl (hb hby d2_86) rfl (tlt hc22).2.1 ?_
                          show Steps p.tables e below (s₁.setTop (mkF m 89 #[.val (.int vc)] [])) _
                          refine XS.iconst X0.here hx rfl (hb hby d2_89) ?_
                          show Steps p.tables e below (s₁.setTop (mkF m 90 #[.val (.int vc)] [(.int (0 : Int32))])) _
                          exact retN X0 hx (t := .boolean) Bd.returns (by simp) (hb hby d2_90) hr
                        · show Q_ex Z vc h0 n0 _ s₁.heap _
                          rw [e0]
                          exact ⟨by rw [own_isn, if_neg (by omega)], N0, rfl⟩
                      · have hz22 := own_nlt (K := 880) hc22 (by decide)
                        have pre23 : ∀ t, Steps p.tables e below (s₁.setTop (mkF m 95 #[.val (.int vc)] [(.int (894 : Int32)), (.int vc)])) t → Steps p.tables e below (s₁.setTop (entryFrame m #[(.int vc)] 1)) t := by
                          intro t k
                          refine pre21 t ?_
                          show Steps p.tables e below (s₁.setTop (mkF m 86 #[.val (.int vc)] [(.int (880 : Int32)), (.int vc)])) _
                          refine XS.icmpYes X0.here hx rfl (pc0 := 86) (pc' := 91) rfl (hb hby d2_86) rfl (flt hc22).2.1 (by decide) (by decide) ?_
                          show Steps p.tables e below (s₁.setTop (mkF m 91 #[.val (.int vc)] [])) _
                          refine XS.iloadN X0.here hx rfl (hb hby d2_91) rfl ?_
                          show Steps p.tables e below (s₁.setTop (mkF m 92 #[.val (.int vc)] [(.int vc)])) _
                          refine XS.sipush X0.here hx rfl (hb hby d2_92) ?_
                          show Steps p.tables e below (s₁.setTop (mkF m 95 #[.val (.int vc)] [(.int (894 : Int32)), (.int vc)])) _
                          exact k
                        by_cases hc24 : vc = (894 : Int32)
                        · have hz24 := own_eq (K := 894) hc24 (by decide)
                          obtain ⟨fs, hr, hrun, hended, hW, hsame⟩ := X0.leave (v := some (.int (0 : Int32))) (fun h => by rw [Bd.returns] at h; cases h)
                          refine ⟨_, _, pre23 _ ?_, hrun, hended, _, _, rfl, ?_, ⟨_, rfl⟩, hW, hsame.mono (by decide) (by decide)⟩
                          · show Steps p.tables e below (s₁.setTop (mkF m 95 #[.val (.int vc)] [(.int (894 : Int32)), (.int vc)])) _
                            refine XS.icmpNo X0.here hx rfl (hb hby d2_95) rfl (teq hc24).2 ?_
                            show Steps p.tables e below (s₁.setTop (mkF m 98 #[.val (.int vc)] [])) _
                            refine XS.iconst X0.here hx rfl (hb hby d2_98) ?_
                            show Steps p.tables e below (s₁.setTop (mkF m 99 #[.val (.int vc)] [(.int (0 : Int32))])) _
                            exact retN X0 hx (t := .boolean) Bd.returns (by simp) (hb hby d2_99) hr
                          · show Q_ex Z vc h0 n0 _ s₁.heap _
                            rw [e0]
                            exact ⟨by rw [own_isn, if_neg (by omega)], N0, rfl⟩
                        · have hz24 := own_neq (K := 894) hc24 (by decide)
                          have pre25 : ∀ t, Steps p.tables e below (s₁.setTop (mkF m 104 #[.val (.int vc)] [(.int (8192 : Int32)), (.int vc)])) t → Steps p.tables e below (s₁.setTop (entryFrame m #[(.int vc)] 1)) t := by
                            intro t k
                            refine pre23 t ?_
                            show Steps p.tables e below (s₁.setTop (mkF m 95 #[.val (.int vc)] [(.int (894 : Int32)), (.int vc)])) _
                            refine XS.icmpYes X0.here hx rfl (pc0 := 95) (pc' := 100) rfl (hb hby d2_95) rfl (feq hc24).2 (by decide) (by decide) ?_
                            show Steps p.tables e below (s₁.setTop (mkF m 100 #[.val (.int vc)] [])) _
                            refine XS.iloadN X0.here hx rfl (hb hby d2_100) rfl ?_
                            show Steps p.tables e below (s₁.setTop (mkF m 101 #[.val (.int vc)] [(.int vc)])) _
                            refine XS.sipush X0.here hx rfl (hb hby d2_101) ?_
                            show Steps p.tables e below (s₁.setTop (mkF m 104 #[.val (.int vc)] [(.int (8192 : Int32)), (.int vc)])) _
                            exact k
                          by_cases hc26 : vc < (8192 : Int32)
                          · have hz26 := own_lt (K := 8192) hc26 (by decide)
                            obtain ⟨fs, hr, hrun, hended, hW, hsame⟩ := X0.leave (v := some (.int (1 : Int32))) (fun h => by rw [Bd.returns] at h; cases h)
                            refine ⟨_, _, pre25 _ ?_, hrun, hended, _, _, rfl, ?_, ⟨_, rfl⟩, hW, hsame.mono (by decide) (by decide)⟩
                            · show Steps p.tables e below (s₁.setTop (mkF m 104 #[.val (.int vc)] [(.int (8192 : Int32)), (.int vc)])) _
                              refine XS.icmpNo X0.here hx rfl (hb hby d2_104) rfl (tlt hc26).2.1 ?_
                              show Steps p.tables e below (s₁.setTop (mkF m 107 #[.val (.int vc)] [])) _
                              refine XS.iconst X0.here hx rfl (hb hby d2_107) ?_
                              show Steps p.tables e below (s₁.setTop (mkF m 108 #[.val (.int vc)] [(.int (1 : Int32))])) _
                              exact retN X0 hx (t := .boolean) Bd.returns (by simp) (hb hby d2_108) hr
                            · show Q_ex Z vc h0 n0 _ s₁.heap _
                              rw [e0]
                              exact ⟨by rw [own_isn, if_pos (by omega)], N0, rfl⟩
                          · have hz26 := own_nlt (K := 8192) hc26 (by decide)
                            have pre27 : ∀ t, Steps p.tables e below (s₁.setTop (mkF m 113 #[.val (.int vc)] [(.int (8204 : Int32)), (.int vc)])) t → Steps p.tables e below (s₁.setTop (entryFrame m #[(.int vc)] 1)) t := by
                              intro t k
                              refine pre25 t ?_
                              show Steps p.tables e below (s₁.setTop (mkF m 104 #[.val (.int vc)] [(.int (8192 : Int32)), (.int vc)])) _
                              refine XS.icmpYes X0.here hx rfl (pc0 := 104) (pc' := 109) rfl (hb hby d2_104) rfl (flt hc26).2.1 (by decide) (by decide) ?_
                              show Steps p.tables e below (s₁.setTop (mkF m 109 #[.val (.int vc)] [])) _
                              refine XS.iloadN X0.here hx rfl (hb hby d2_109) rfl ?_
                              show Steps p.tables e below (s₁.setTop (mkF m 110 #[.val (.int vc)] [(.int vc)])) _
                              refine XS.sipush X0.here hx rfl (hb hby d2_110) ?_
                              show Steps p.tables e below (s₁.setTop (mkF m 113 #[.val (.int vc)] [(.int (8204 : Int32)), (.int vc)])) _
                              exact k
                            by_cases hc28 : vc < (8204 : Int32)
                            · have hz28 := own_lt (K := 8204) hc28 (by decide)
                              obtain ⟨fs, hr, hrun, hended, hW, hsame⟩ := X0.leave (v := some (.int (0 : Int32))) (fun h => by rw [Bd.returns] at h; cases h)
                              refine ⟨_, _, pre27 _ ?_, hrun, hended, _, _, rfl, ?_, ⟨_, rfl⟩, hW, hsame.mono (by decide) (by decide)⟩
                              · show Steps p.tables e below (s₁.setTop (mkF m 113 #[.val (.int vc)] [(.int (8204 : Int32)), (.int vc)])) _
                                refine XS.icmpNo X0.here hx rfl (hb hby d2_113) rfl (tlt hc28).2.1 ?_
                                show Steps p.tables e below (s₁.setTop (mkF m 116 #[.val (.int vc)] [])) _
                                refine XS.iconst X0.here hx rfl (hb hby d2_116) ?_
                                show Steps p.tables e below (s₁.setTop (mkF m 117 #[.val (.int vc)] [(.int (0 : Int32))])) _
                                exact retN X0 hx (t := .boolean) Bd.returns (by simp) (hb hby d2_117) hr
                              · show Q_ex Z vc h0 n0 _ s₁.heap _
                                rw [e0]
                                exact ⟨by rw [own_isn, if_neg (by omega)], N0, rfl⟩
                            · have hz28 := own_nlt (K := 8204) hc28 (by decide)
                              have pre29 : ∀ t, Steps p.tables e below (s₁.setTop (mkF m 122 #[.val (.int vc)] [(.int (8205 : Int32)), (.int vc)])) t → Steps p.tables e below (s₁.setTop (entryFrame m #[(.int vc)] 1)) t := by
                                intro t k
                                refine pre27 t ?_
                                show Steps p.tables e below (s₁.setTop (mkF m 113 #[.val (.int vc)] [(.int (8204 : Int32)), (.int vc)])) _
                                refine XS.icmpYes X0.here hx rfl (pc0 := 113) (pc' := 118) rfl (hb hby d2_113) rfl (flt hc28).2.1 (by decide) (by decide) ?_
                                show Steps p.tables e below (s₁.setTop (mkF m 118 #[.val (.int vc)] [])) _
                                refine XS.iloadN X0.here hx rfl (hb hby d2_118) rfl ?_
                                show Steps p.tables e below (s₁.setTop (mkF m 119 #[.val (.int vc)] [(.int vc)])) _
                                refine XS.sipush X0.here hx rfl (hb hby d2_119) ?_
                                show Steps p.tables e below (s₁.setTop (mkF m 122 #[.val (.int vc)] [(.int (8205 : Int32)), (.int vc)])) _
                                exact k
                              by_cases hc30 : (8205 : Int32) < vc
                              · have hz30 := own_gt (K := 8205) hc30 (by decide)
                                have pre31 : ∀ t, Steps p.tables e below (s₁.setTop (mkF m 131 #[.val (.int vc)] [(.int (8304 : Int32)), (.int vc)])) t → Steps p.tables e below (s₁.setTop (entryFrame m #[(.int vc)] 1)) t := by
                                  intro t k
                                  refine pre29 t ?_
                                  show Steps p.tables e below (s₁.setTop (mkF m 122 #[.val (.int vc)] [(.int (8205 : Int32)), (.int vc)])) _
                                  refine XS.icmpYes X0.here hx rfl (pc0 := 122) (pc' := 127) rfl (hb hby d2_122) rfl (tlt hc30).2.2.1 (by decide) (by decide) ?_
                                  show Steps p.tables e below (s₁.setTop (mkF m 127 #[.val (.int vc)] [])) _
                                  refine XS.iloadN X0.here hx rfl (hb hby d2_127) rfl ?_
                                  show Steps p.tables e below (s₁.setTop (mkF m 128 #[.val (.int vc)] [(.int vc)])) _
                                  refine XS.sipush X0.here hx rfl (hb hby d2_128) ?_
                                  show Steps p.tables e below (s₁.setTop (mkF m 131 #[.val (.int vc)] [(.int (8304 : Int32)), (.int vc)])) _
                                  exact k
                                by_cases hc32 : vc < (8304 : Int32)
                                · have hz32 := own_lt (K := 8304) hc32 (by decide)
                                  obtain ⟨fs, hr, hrun, hended, hW, hsame⟩ := X0.leave (v := some (.int (0 : Int32))) (fun h => by rw [Bd.returns] at h; cases h)
                                  refine ⟨_, _, pre31 _ ?_, hrun, hended, _, _, rfl, ?_, ⟨_, rfl⟩, hW, hsame.mono (by decide) (by decide)⟩
                                  · show Steps p.tables e below (s₁.setTop (mkF m 131 #[.val (.int vc)] [(.int (8304 : Int32)), (.int vc)])) _
                                    refine XS.icmpNo X0.here hx rfl (hb hby d2_131) rfl (tlt hc32).2.1 ?_
                                    show Steps p.tables e below (s₁.setTop (mkF m 134 #[.val (.int vc)] [])) _
                                    refine XS.iconst X0.here hx rfl (hb hby d2_134) ?_
                                    show Steps p.tables e below (s₁.setTop (mkF m 135 #[.val (.int vc)] [(.int (0 : Int32))])) _
                                    exact retN X0 hx (t := .boolean) Bd.returns (by simp) (hb hby d2_135) hr
                                  · show Q_ex Z vc h0 n0 _ s₁.heap _
                                    rw [e0]
                                    exact ⟨by rw [own_isn, if_neg (by omega)], N0, rfl⟩
                                · have hz32 := own_nlt (K := 8304) hc32 (by decide)
                                  have pre33 : ∀ t, Steps p.tables e below (s₁.setTop (mkF m 140 #[.val (.int vc)] [(.int (8592 : Int32)), (.int vc)])) t → Steps p.tables e below (s₁.setTop (entryFrame m #[(.int vc)] 1)) t := by
                                    intro t k
                                    refine pre31 t ?_
                                    show Steps p.tables e below (s₁.setTop (mkF m 131 #[.val (.int vc)] [(.int (8304 : Int32)), (.int vc)])) _
                                    refine XS.icmpYes X0.here hx rfl (pc0 := 131) (pc' := 136) rfl (hb hby d2_131) rfl (flt hc32).2.1 (by decide) (by decide) ?_
                                    show Steps p.tables e below (s₁.setTop (mkF m 136 #[.val (.int vc)] [])) _
                                    refine XS.iloadN X0.here hx rfl (hb hby d2_136) rfl ?_
                                    show Steps p.tables e below (s₁.setTop (mkF m 137 #[.val (.int vc)] [(.int vc)])) _
                                    refine XS.sipush X0.here hx rfl (hb hby d2_137) ?_
                                    show Steps p.tables e below (s₁.setTop (mkF m 140 #[.val (.int vc)] [(.int (8592 : Int32)), (.int vc)])) _
                                    exact k
                                  by_cases hc34 : vc < (8592 : Int32)
                                  · have hz34 := own_lt (K := 8592) hc34 (by decide)
                                    obtain ⟨fs, hr, hrun, hended, hW, hsame⟩ := X0.leave (v := some (.int (1 : Int32))) (fun h => by rw [Bd.returns] at h; cases h)
                                    refine ⟨_, _, pre33 _ ?_, hrun, hended, _, _, rfl, ?_, ⟨_, rfl⟩, hW, hsame.mono (by decide) (by decide)⟩
                                    · show Steps p.tables e below (s₁.setTop (mkF m 140 #[.val (.int vc)] [(.int (8592 : Int32)), (.int vc)])) _
                                      refine XS.icmpNo X0.here hx rfl (hb hby d2_140) rfl (tlt hc34).2.1 ?_
                                      show Steps p.tables e below (s₁.setTop (mkF m 143 #[.val (.int vc)] [])) _
                                      refine XS.iconst X0.here hx rfl (hb hby d2_143) ?_
                                      show Steps p.tables e below (s₁.setTop (mkF m 144 #[.val (.int vc)] [(.int (1 : Int32))])) _
                                      exact retN X0 hx (t := .boolean) Bd.returns (by simp) (hb hby d2_144) hr
                                    · show Q_ex Z vc h0 n0 _ s₁.heap _
                                      rw [e0]
                                      exact ⟨by rw [own_isn, if_pos (Or.inr (Or.inr (Or.inr (Or.inr (Or.inr (Or.inr (Or.inr (Or.inr (Or.inr (Or.inl ⟨by omega, by omega⟩))))))))))], N0, rfl⟩
                                  · have hz34 := own_nlt (K := 8592) hc34 (by decide)
                                    have pre35 : ∀ t, Steps p.tables e below (s₁.setTop (mkF m 149 #[.val (.int vc)] [(.int (11264 : Int32)), (.int vc)])) t → Steps p.tables e below (s₁.setTop (entryFrame m #[(.int vc)] 1)) t := by
                                      intro t k
                                      refine pre33 t ?_
                                      show Steps p.tables e below (s₁.setTop (mkF m 140 #[.val (.int vc)] [(.int (8592 : Int32)), (.int vc)])) _
                                      refine XS.icmpYes X0.here hx rfl (pc0 := 140) (pc' := 145) rfl (hb hby d2_140) rfl (flt hc34).2.1 (by decide) (by decide) ?_
                                      show Steps p.tables e below (s₁.setTop (mkF m 145 #[.val (.int vc)] [])) _
                                      refine XS.iloadN X0.here hx rfl (hb hby d2_145) rfl ?_
                                      show Steps p.tables e below (s₁.setTop (mkF m 146 #[.val (.int vc)] [(.int vc)])) _
                                      refine XS.sipush X0.here hx rfl (hb hby d2_146) ?_
                                      show Steps p.tables e below (s₁.setTop (mkF m 149 #[.val (.int vc)] [(.int (11264 : Int32)), (.int vc)])) _
                                      exact k
                                    by_cases hc36 : vc < (11264 : Int32)
                                    · have hz36 := own_lt (K := 11264) hc36 (by decide)
                                      obtain ⟨fs, hr, hrun, hended, hW, hsame⟩ := X0.leave (v := some (.int (0 : Int32))) (fun h => by rw [Bd.returns] at h; cases h)
                                      refine ⟨_, _, pre35 _ ?_, hrun, hended, _, _, rfl, ?_, ⟨_, rfl⟩, hW, hsame.mono (by decide) (by decide)⟩
                                      · show Steps p.tables e below (s₁.setTop (mkF m 149 #[.val (.int vc)] [(.int (11264 : Int32)), (.int vc)])) _
                                        refine XS.icmpNo X0.here hx rfl (hb hby d2_149) rfl (tlt hc36).2.1 ?_
                                        show Steps p.tables e below (s₁.setTop (mkF m 152 #[.val (.int vc)] [])) _
                                        refine XS.iconst X0.here hx rfl (hb hby d2_152) ?_
                                        show Steps p.tables e below (s₁.setTop (mkF m 153 #[.val (.int vc)] [(.int (0 : Int32))])) _
                                        exact retN X0 hx (t := .boolean) Bd.returns (by simp) (hb hby d2_153) hr
                                      · show Q_ex Z vc h0 n0 _ s₁.heap _
                                        rw [e0]
                                        exact ⟨by rw [own_isn, if_neg (by omega)], N0, rfl⟩
                                    · have hz36 := own_nlt (K := 11264) hc36 (by decide)
                                      have pre37 : ∀ t, Steps p.tables e below (s₁.setTop (mkF m 158 #[.val (.int vc)] [(.int (12272 : Int32)), (.int vc)])) t → Steps p.tables e below (s₁.setTop (entryFrame m #[(.int vc)] 1)) t := by
                                        intro t k
                                        refine pre35 t ?_
                                        show Steps p.tables e below (s₁.setTop (mkF m 149 #[.val (.int vc)] [(.int (11264 : Int32)), (.int vc)])) _
                                        refine XS.icmpYes X0.here hx rfl (pc0 := 149) (pc' := 154) rfl (hb hby d2_149) rfl (flt hc36).2.1 (by decide) (by decide) ?_
                                        show Steps p.tables e below (s₁.setTop (mkF m 154 #[.val (.int vc)] [])) _
                                        refine XS.iloadN X0.here hx rfl (hb hby d2_154) rfl ?_
                                        show Steps p.tables e below (s₁.setTop (mkF m 155 #[.val (.int vc)] [(.int vc)])) _
                                        refine XS.sipush X0.here hx rfl (hb hby d2_155) ?_
                                        show Steps p.tables e below (s₁.setTop (mkF m 158 #[.val (.int vc)] [(.int (12272 : Int32)), (.int vc)])) _
                                        exact k
                                      by_cases hc38 : vc < (12272 : Int32)
                                      · have hz38 := own_lt (K := 12272) hc38 (by decide)
                                        obtain ⟨fs, hr, hrun, hended, hW, hsame⟩ := X0.leave (v := some (.int (1 : Int32))) (fun h => by rw [Bd.returns] at h; cases h)
                                        refine ⟨_, _, pre37 _ ?_, hrun, hended, _, _, rfl, ?_, ⟨_, rfl⟩, hW, hsame.mono (by decide) (by decide)⟩
                                        · show Steps p.tables e below (s₁.setTop (mkF m 158 #[.val (.int vc)] [(.int (12272 : Int32)), (.int vc)])) _
                                          refine XS.icmpNo X0.here hx rfl (hb hby d2_158) rfl (tlt hc38).2.1 ?_
                                          show Steps p.tables e below (s₁.setTop (mkF m 161 #[.val (.int vc)] [])) _
                                          refine XS.iconst X0.here hx rfl (hb hby d2_161) ?_
                                          show Steps p.tables e below (s₁.setTop (mkF m 162 #[.val (.int vc)] [(.int (1 : Int32))])) _
                                          exact retN X0 hx (t := .boolean) Bd.returns (by simp) (hb hby d2_162) hr
                                        · show Q_ex Z vc h0 n0 _ s₁.heap _
                                          rw [e0]
                                          exact ⟨by rw [own_isn, if_pos (Or.inr (Or.inr (Or.inr (Or.inr (Or.inr (Or.inr (Or.inr (Or.inr (Or.inr (Or.inr (Or.inl ⟨by omega, by omega⟩)))))))))))], N0, rfl⟩
                                      · have hz38 := own_nlt (K := 12272) hc38 (by decide)
                                        have pre39 : ∀ t, Steps p.tables e below (s₁.setTop (mkF m 167 #[.val (.int vc)] [(.int (12288 : Int32)), (.int vc)])) t → Steps p.tables e below (s₁.setTop (entryFrame m #[(.int vc)] 1)) t := by
                                          intro t k
                                          refine pre37 t ?_
                                          show Steps p.tables e below (s₁.setTop (mkF m 158 #[.val (.int vc)] [(.int (12272 : Int32)), (.int vc)])) _
                                          refine XS.icmpYes X0.here hx rfl (pc0 := 158) (pc' := 163) rfl (hb hby d2_158) rfl (flt hc38).2.1 (by decide) (by decide) ?_
                                          show Steps p.tables e below (s₁.setTop (mkF m 163 #[.val (.int vc)] [])) _
                                          refine XS.iloadN X0.here hx rfl (hb hby d2_163) rfl ?_
                                          show Steps p.tables e below (s₁.setTop (mkF m 164 #[.val (.int vc)] [(.int vc)])) _
                                          refine XS.sipush X0.here hx rfl (hb hby d2_164) ?_
                                          show Steps p.tables e below (s₁.setTop (mkF m 167 #[.val (.int vc)] [(.int (12288 : Int32)), (.int vc)])) _
                                          exact k
                                        by_cases hc40 : (12288 : Int32) < vc
                                        · have hz40 := own_gt (K := 12288) hc40 (by decide)
                                          have pre41 : ∀ t, Steps p.tables e below (s₁.setTop (mkF m 175 #[.val (.int vc)] [(.int (55296 : Int32)), (.int vc)])) t → Steps p.tables e below (s₁.setTop (entryFrame m #[(.int vc)] 1)) t := by
                                            intro t k
                                            refine pre39 t ?_
                                            show Steps p.tables e below (s₁.setTop (mkF m 167 #[.val (.int vc)] [(.int (12288 : Int32)), (.int vc)])) _
                                            refine XS.icmpYes X0.here hx rfl (pc0 := 167) (pc' := 172) rfl (hb hby d2_167) rfl (tlt hc40).2.2.1 (by decide) (by decide) ?_
                                            show Steps p.tables e below (s₁.setTop (mkF m 172 #[.val (.int vc)] [])) _
                                            refine XS.iloadN X0.here hx rfl (hb hby d2_172) rfl ?_
                                            show Steps p.tables e below (s₁.setTop (mkF m 173 #[.val (.int vc)] [(.int vc)])) _
                                            refine X0.ldcInt hx hown (mvT hZ (hw _ (List.mem_of_getElem? (i := 25) rfl))) (g := (mkF m 173 #[.val (.int vc)] [(.int vc)])) rfl (hb hby d2_173) _ ?_
                                            show Steps p.tables e below (s₁.setTop (mkF m 175 #[.val (.int vc)] [(.int (55296 : Int32)), (.int vc)])) _
                                            exact k
                                          by_cases hc42 : vc < (55296 : Int32)
                                          · have hz42 := own_lt (K := 55296) hc42 (by decide)
                                            obtain ⟨fs, hr, hrun, hended, hW, hsame⟩ := X0.leave (v := some (.int (1 : Int32))) (fun h => by rw [Bd.returns] at h; cases h)
                                            refine ⟨_, _, pre41 _ ?_, hrun, hended, _, _, rfl, ?_, ⟨_, rfl⟩, hW, hsame.mono (by decide) (by decide)⟩
                                            · show Steps p.tables e below (s₁.setTop (mkF m 175 #[.val (.int vc)] [(.int (55296 : Int32)), (.int vc)])) _
                                              refine XS.icmpNo X0.here hx rfl (hb hby d2_175) rfl (tlt hc42).2.1 ?_
                                              show Steps p.tables e below (s₁.setTop (mkF m 178 #[.val (.int vc)] [])) _
                                              refine XS.iconst X0.here hx rfl (hb hby d2_178) ?_
                                              show Steps p.tables e below (s₁.setTop (mkF m 179 #[.val (.int vc)] [(.int (1 : Int32))])) _
                                              exact retN X0 hx (t := .boolean) Bd.returns (by simp) (hb hby d2_179) hr
                                            · show Q_ex Z vc h0 n0 _ s₁.heap _
                                              rw [e0]
                                              exact ⟨by rw [own_isn, if_pos (Or.inr (Or.inr (Or.inr (Or.inr (Or.inr (Or.inr (Or.inr (Or.inr (Or.inr (Or.inr (Or.inr (Or.inl ⟨by omega, by omega⟩))))))))))))], N0, rfl⟩
                                          · have hz42 := own_nlt (K := 55296) hc42 (by decide)
                                            have pre43 : ∀ t, Steps p.tables e below (s₁.setTop (mkF m 183 #[.val (.int vc)] [(.int (63744 : Int32)), (.int vc)])) t → Steps p.tables e below (s₁.setTop (entryFrame m #[(.int vc)] 1)) t := by
                                              intro t k
                                              refine pre41 t ?_
                                              show Steps p.tables e below (s₁.setTop (mkF m 175 #[.val (.int vc)] [(.int (55296 : Int32)), (.int vc)])) _
                                              refine XS.icmpYes X0.here hx rfl (pc0 := 175) (pc' := 180) rfl (hb hby d2_175) rfl (flt hc42).2.1 (by decide) (by decide) ?_
                                              show Steps p.tables e below (s₁.setTop (mkF m 180 #[.val (.int vc)] [])) _
                                              refine XS.iloadN X0.here hx rfl (hb hby d2_180) rfl ?_
                                              show Steps p.tables e below (s₁.setTop (mkF m 181 #[.val (.int vc)] [(.int vc)])) _
                                              refine X0.ldcInt hx hown (mvT hZ (hw _ (List.mem_of_getElem? (i := 2) rfl))) (g := (mkF m 181 #[.val (.int vc)] [(.int vc)])) rfl (hb hby d2_181) _ ?_
                                              show Steps p.tables e below (s₁.setTop (mkF m 183 #[.val (.int vc)] [(.int (63744 : Int32)), (.int vc)])) _
                                              exact k
                                            by_cases hc44 : vc < (63744 : Int32)
                                            · have hz44 := own_lt (K := 63744) hc44 (by decide)
                                              obtain ⟨fs, hr, hrun, hended, hW, hsame⟩ := X0.leave (v := some (.int (0 : Int32))) (fun h => by rw [Bd.returns] at h; cases h)
                                              refine ⟨_, _, pre43 _ ?_, hrun, hended, _, _, rfl, ?_, ⟨_, rfl⟩, hW, hsame.mono (by decide) (by decide)⟩
                                              · show Steps p.tables e below (s₁.setTop (mkF m 183 #[.val (.int vc)] [(.int (63744 : Int32)), (.int vc)])) _
                                                refine XS.icmpNo X0.here hx rfl (hb hby d2_183) rfl (tlt hc44).2.1 ?_
                                                show Steps p.tables e below (s₁.setTop (mkF m 186 #[.val (.int vc)] [])) _
                                                refine XS.iconst X0.here hx rfl (hb hby d2_186) ?_
                                                show Steps p.tables e below (s₁.setTop (mkF m 187 #[.val (.int vc)] [(.int (0 : Int32))])) _
                                                exact retN X0 hx (t := .boolean) Bd.returns (by simp) (hb hby d2_187) hr
                                              · show Q_ex Z vc h0 n0 _ s₁.heap _
                                                rw [e0]
                                                exact ⟨by rw [own_isn, if_neg (by omega)], N0, rfl⟩
                                            · have hz44 := own_nlt (K := 63744) hc44 (by decide)
                                              have pre45 : ∀ t, Steps p.tables e below (s₁.setTop (mkF m 191 #[.val (.int vc)] [(.int (64976 : Int32)), (.int vc)])) t → Steps p.tables e below (s₁.setTop (entryFrame m #[(.int vc)] 1)) t := by
                                                intro t k
                                                refine pre43 t ?_
                                                show Steps p.tables e below (s₁.setTop (mkF m 183 #[.val (.int vc)] [(.int (63744 : Int32)), (.int vc)])) _
                                                refine XS.icmpYes X0.here hx rfl (pc0 := 183) (pc' := 188) rfl (hb hby d2_183) rfl (flt hc44).2.1 (by decide) (by decide) ?_
                                                show Steps p.tables e below (s₁.setTop (mkF m 188 #[.val (.int vc)] [])) _
                                                refine XS.iloadN X0.here hx rfl (hb hby d2_188) rfl ?_
                                                show Steps p.tables e below (s₁.setTop (mkF m 189 #[.val (.int vc)] [(.int vc)])) _
                                                refine X0.ldcInt hx hown (mvT hZ (hw _ (List.mem_of_getElem? (i := 26) rfl))) (g := (mkF m 189 #[.val (.int vc)] [(.int vc)])) rfl (hb hby d2_189) _ ?_
                                                show Steps p.tables e below (s₁.setTop (mkF m 191 #[.val (.int vc)] [(.int (64976 : Int32)), (.int vc)])) _
                                                exact k
                                              by_cases hc46 : vc < (64976 : Int32)
                                              · have hz46 := own_lt (K := 64976) hc46 (by decide)
                                                obtain ⟨fs, hr, hrun, hended, hW, hsame⟩ := X0.leave (v := some (.int (1 : Int32))) (fun h => by rw [Bd.returns] at h; cases h)
                                                refine ⟨_, _, pre45 _ ?_, hrun, hended, _, _, rfl, ?_, ⟨_, rfl⟩, hW, hsame.mono (by decide) (by decide)⟩
                                                · show Steps p.tables e below (s₁.setTop (mkF m 191 #[.val (.int vc)] [(.int (64976 : Int32)), (.int vc)])) _
                                                  refine XS.icmpNo X0.here hx rfl (hb hby d2_191) rfl (tlt hc46).2.1 ?_
                                                  show Steps p.tables e below (s₁.setTop (mkF m 194 #[.val (.int vc)] [])) _
                                                  refine XS.iconst X0.here hx rfl (hb hby d2_194) ?_
                                                  show Steps p.tables e below (s₁.setTop (mkF m 195 #[.val (.int vc)] [(.int (1 : Int32))])) _
                                                  exact retN X0 hx (t := .boolean) Bd.returns (by simp) (hb hby d2_195) hr
                                                · show Q_ex Z vc h0 n0 _ s₁.heap _
                                                  rw [e0]
                                                  exact ⟨by rw [own_isn, if_pos (Or.inr (Or.inr (Or.inr (Or.inr (Or.inr (Or.inr (Or.inr (Or.inr (Or.inr (Or.inr (Or.inr (Or.inr (Or.inl ⟨by omega, by omega⟩)))))))))))))], N0, rfl⟩
                                              · have hz46 := own_nlt (K := 64976) hc46 (by decide)
                                                have pre47 : ∀ t, Steps p.tables e below (s₁.setTop (mkF m 199 #[.val (.int vc)] [(.int (65008 : Int32)), (.int vc)])) t → Steps p.tables e below (s₁.setTop (entryFrame m #[(.int vc)] 1)) t := by
                                                  intro t k
                                                  refine pre45 t ?_
                                                  show Steps p.tables e below (s₁.setTop (mkF m 191 #[.val (.int vc)] [(.int (64976 : Int32)), (.int vc)])) _
                                                  refine XS.icmpYes X0.here hx rfl (pc0 := 191) (pc' := 196) rfl (hb hby d2_191) rfl (flt hc46).2.1 (by decide) (by decide) ?_
                                                  show Steps p.tables e below (s₁.setTop (mkF m 196 #[.val (.int vc)] [])) _
                                                  refine XS.iloadN X0.here hx rfl (hb hby d2_196) rfl ?_
                                                  show Steps p.tables e below (s₁.setTop (mkF m 197 #[.val (.int vc)] [(.int vc)])) _
                                                  refine X0.ldcInt hx hown (mvT hZ (hw _ (List.mem_of_getElem? (i := 4) rfl))) (g := (mkF m 197 #[.val (.int vc)] [(.int vc)])) rfl (hb hby d2_197) _ ?_
                                                  show Steps p.tables e below (s₁.setTop (mkF m 199 #[.val (.int vc)] [(.int (65008 : Int32)), (.int vc)])) _
                                                  exact k
                                                by_cases hc48 : vc < (65008 : Int32)
                                                · have hz48 := own_lt (K := 65008) hc48 (by decide)
                                                  obtain ⟨fs, hr, hrun, hended, hW, hsame⟩ := X0.leave (v := some (.int (0 : Int32))) (fun h => by rw [Bd.returns] at h; cases h)
                                                  refine ⟨_, _, pre47 _ ?_, hrun, hended, _, _, rfl, ?_, ⟨_, rfl⟩, hW, hsame.mono (by decide) (by decide)⟩
                                                  · show Steps p.tables e below (s₁.setTop (mkF m 199 #[.val (.int vc)] [(.int (65008 : Int32)), (.int vc)])) _
                                                    refine XS.icmpNo X0.here hx rfl (hb hby d2_199) rfl (tlt hc48).2.1 ?_
                                                    show Steps p.tables e below (s₁.setTop (mkF m 202 #[.val (.int vc)] [])) _
                                                    refine XS.iconst X0.here hx rfl (hb hby d2_202) ?_
                                                    show Steps p.tables e below (s₁.setTop (mkF m 203 #[.val (.int vc)] [(.int (0 : Int32))])) _
                                                    exact retN X0 hx (t := .boolean) Bd.returns (by simp) (hb hby d2_203) hr
                                                  · show Q_ex Z vc h0 n0 _ s₁.heap _
                                                    rw [e0]
                                                    exact ⟨by rw [own_isn, if_neg (by omega)], N0, rfl⟩
                                                · have hz48 := own_nlt (K := 65008) hc48 (by decide)
                                                  have pre49 : ∀ t, Steps p.tables e below (s₁.setTop (mkF m 207 #[.val (.int vc)] [(.int (65534 : Int32)), (.int vc)])) t → Steps p.tables e below (s₁.setTop (entryFrame m #[(.int vc)] 1)) t := by
                                                    intro t k
                                                    refine pre47 t ?_
                                                    show Steps p.tables e below (s₁.setTop (mkF m 199 #[.val (.int vc)] [(.int (65008 : Int32)), (.int vc)])) _
                                                    refine XS.icmpYes X0.here hx rfl (pc0 := 199) (pc' := 204) rfl (hb hby d2_199) rfl (flt hc48).2.1 (by decide) (by decide) ?_
                                                    show Steps p.tables e below (s₁.setTop (mkF m 204 #[.val (.int vc)] [])) _
                                                    refine XS.iloadN X0.here hx rfl (hb hby d2_204) rfl ?_
                                                    show Steps p.tables e below (s₁.setTop (mkF m 205 #[.val (.int vc)] [(.int vc)])) _
                                                    refine X0.ldcInt hx hown (mvT hZ (hw _ (List.mem_of_getElem? (i := 27) rfl))) (g := (mkF m 205 #[.val (.int vc)] [(.int vc)])) rfl (hb hby d2_205) _ ?_
                                                    show Steps p.tables e below (s₁.setTop (mkF m 207 #[.val (.int vc)] [(.int (65534 : Int32)), (.int vc)])) _
                                                    exact k
                                                  by_cases hc50 : vc < (65534 : Int32)
                                                  · have hz50 := own_lt (K := 65534) hc50 (by decide)
                                                    obtain ⟨fs, hr, hrun, hended, hW, hsame⟩ := X0.leave (v := some (.int (1 : Int32))) (fun h => by rw [Bd.returns] at h; cases h)
                                                    refine ⟨_, _, pre49 _ ?_, hrun, hended, _, _, rfl, ?_, ⟨_, rfl⟩, hW, hsame.mono (by decide) (by decide)⟩
                                                    · show Steps p.tables e below (s₁.setTop (mkF m 207 #[.val (.int vc)] [(.int (65534 : Int32)), (.int vc)])) _
                                                      refine XS.icmpNo X0.here hx rfl (hb hby d2_207) rfl (tlt hc50).2.1 ?_
                                                      show Steps p.tables e below (s₁.setTop (mkF m 210 #[.val (.int vc)] [])) _
                                                      refine XS.iconst X0.here hx rfl (hb hby d2_210) ?_
                                                      show Steps p.tables e below (s₁.setTop (mkF m 211 #[.val (.int vc)] [(.int (1 : Int32))])) _
                                                      exact retN X0 hx (t := .boolean) Bd.returns (by simp) (hb hby d2_211) hr
                                                    · show Q_ex Z vc h0 n0 _ s₁.heap _
                                                      rw [e0]
                                                      exact ⟨by rw [own_isn, if_pos (Or.inr (Or.inr (Or.inr (Or.inr (Or.inr (Or.inr (Or.inr (Or.inr (Or.inr (Or.inr (Or.inr (Or.inr (Or.inr (Or.inl ⟨by omega, by omega⟩))))))))))))))], N0, rfl⟩
                                                  · have hz50 := own_nlt (K := 65534) hc50 (by decide)
                                                    have pre51 : ∀ t, Steps p.tables e below (s₁.setTop (mkF m 215 #[.val (.int vc)] [(.int (65536 : Int32)), (.int vc)])) t → Steps p.tables e below (s₁.setTop (entryFrame m #[(.int vc)] 1)) t := by
                                                      intro t k
                                                      refine pre49 t ?_
                                                      show Steps p.tables e below (s₁.setTop (mkF m 207 #[.val (.int vc)] [(.int (65534 : Int32)), (.int vc)])) _
                                                      refine XS.icmpYes X0.here hx rfl (pc0 := 207) (pc' := 212) rfl (hb hby d2_207) rfl (flt hc50).2.1 (by decide) (by decide) ?_
                                                      show Steps p.tables e below (s₁.setTop (mkF m 212 #[.val (.int vc)] [])) _
                                                      refine XS.iloadN X0.here hx rfl (hb hby d2_212) rfl ?_
                                                      show Steps p.tables e below (s₁.setTop (mkF m 213 #[.val (.int vc)] [(.int vc)])) _
                                                      refine X0.ldcInt hx hown (mvT hZ (hw _ (List.mem_of_getElem? (i := 6) rfl))) (g := (mkF m 213 #[.val (.int vc)] [(.int vc)])) rfl (hb hby d2_213) _ ?_
                                                      show Steps p.tables e below (s₁.setTop (mkF m 215 #[.val (.int vc)] [(.int (65536 : Int32)), (.int vc)])) _
                                                      exact k
                                                    by_cases hc52 : vc < (65536 : Int32)
                                                    · have hz52 := own_lt (K := 65536) hc52 (by decide)
                                                      obtain ⟨fs, hr, hrun, hended, hW, hsame⟩ := X0.leave (v := some (.int (0 : Int32))) (fun h => by rw [Bd.returns] at h; cases h)
                                                      refine ⟨_, _, pre51 _ ?_, hrun, hended, _, _, rfl, ?_, ⟨_, rfl⟩, hW, hsame.mono (by decide) (by decide)⟩
                                                      · show Steps p.tables e below (s₁.setTop (mkF m 215 #[.val (.int vc)] [(.int (65536 : Int32)), (.int vc)])) _
                                                        refine XS.icmpNo X0.here hx rfl (hb hby d2_215) rfl (tlt hc52).2.1 ?_
                                                        show Steps p.tables e below (s₁.setTop (mkF m 218 #[.val (.int vc)] [])) _
                                                        refine XS.iconst X0.here hx rfl (hb hby d2_218) ?_
                                                        show Steps p.tables e below (s₁.setTop (mkF m 219 #[.val (.int vc)] [(.int (0 : Int32))])) _
                                                        exact retN X0 hx (t := .boolean) Bd.returns (by simp) (hb hby d2_219) hr
                                                      · show Q_ex Z vc h0 n0 _ s₁.heap _
                                                        rw [e0]
                                                        exact ⟨by rw [own_isn, if_neg (by omega)], N0, rfl⟩
                                                    · have hz52 := own_nlt (K := 65536) hc52 (by decide)
                                                      have pre53 : ∀ t, Steps p.tables e below (s₁.setTop (mkF m 223 #[.val (.int vc)] [(.int (983040 : Int32)), (.int vc)])) t → Steps p.tables e below (s₁.setTop (entryFrame m #[(.int vc)] 1)) t := by
                                                        intro t k
                                                        refine pre51 t ?_
                                                        show Steps p.tables e below (s₁.setTop (mkF m 215 #[.val (.int vc)] [(.int (65536 : Int32)), (.int vc)])) _
                                                        refine XS.icmpYes X0.here hx rfl (pc0 := 215) (pc' := 220) rfl (hb hby d2_215) rfl (flt hc52).2.1 (by decide) (by decide) ?_
                                                        show Steps p.tables e below (s₁.setTop (mkF m 220 #[.val (.int vc)] [])) _
                                                        refine XS.iloadN X0.here hx rfl (hb hby d2_220) rfl ?_
                                                        show Steps p.tables e below (s₁.setTop (mkF m 221 #[.val (.int vc)] [(.int vc)])) _
                                                        refine X0.ldcInt hx hown (mvT hZ (hw _ (List.mem_of_getElem? (i := 28) rfl))) (g := (mkF m 221 #[.val (.int vc)] [(.int vc)])) rfl (hb hby d2_221) _ ?_
                                                        show Steps p.tables e below (s₁.setTop (mkF m 223 #[.val (.int vc)] [(.int (983040 : Int32)), (.int vc)])) _
                                                        exact k
                                                      by_cases hc54 : vc < (983040 : Int32)
                                                      · have hz54 := own_lt (K := 983040) hc54 (by decide)
                                                        obtain ⟨fs, hr, hrun, hended, hW, hsame⟩ := X0.leave (v := some (.int (1 : Int32))) (fun h => by rw [Bd.returns] at h; cases h)
                                                        refine ⟨_, _, pre53 _ ?_, hrun, hended, _, _, rfl, ?_, ⟨_, rfl⟩, hW, hsame.mono (by decide) (by decide)⟩
                                                        · show Steps p.tables e below (s₁.setTop (mkF m 223 #[.val (.int vc)] [(.int (983040 : Int32)), (.int vc)])) _
                                                          refine XS.icmpNo X0.here hx rfl (hb hby d2_223) rfl (tlt hc54).2.1 ?_
                                                          show Steps p.tables e below (s₁.setTop (mkF m 226 #[.val (.int vc)] [])) _
                                                          refine XS.iconst X0.here hx rfl (hb hby d2_226) ?_
                                                          show Steps p.tables e below (s₁.setTop (mkF m 227 #[.val (.int vc)] [(.int (1 : Int32))])) _
                                                          refine XS.goto X0.here hx rfl (pc0 := 227) (pc' := 231) rfl (hb hby d2_227) (by decide) (by decide) ?_
                                                          show Steps p.tables e below (s₁.setTop (mkF m 231 #[.val (.int vc)] [(.int (1 : Int32))])) _
                                                          exact retN X0 hx (t := .boolean) Bd.returns (by simp) (hb hby d2_231) hr
                                                        · show Q_ex Z vc h0 n0 _ s₁.heap _
                                                          rw [e0]
                                                          exact ⟨by rw [own_isn, if_pos (Or.inr (Or.inr (Or.inr (Or.inr (Or.inr (Or.inr (Or.inr (Or.inr (Or.inr (Or.inr (Or.inr (Or.inr (Or.inr (Or.inr ⟨by omega, by omega⟩))))))))))))))], N0, rfl⟩
                                                      · have hz54 := own_nlt (K := 983040) hc54 (by decide)
                                                        obtain ⟨fs, hr, hrun, hended, hW, hsame⟩ := X0.leave (v := some (.int (0 : Int32))) (fun h => by rw [Bd.returns] at h; cases h)
                                                        refine ⟨_, _, pre53 _ ?_, hrun, hended, _, _, rfl, ?_, ⟨_, rfl⟩, hW, hsame.mono (by decide) (by decide)⟩
                                                        · show Steps p.tables e below (s₁.setTop (mkF m 223 #[.val (.int vc)] [(.int (983040 : Int32)), (.int vc)])) _
                                                          refine XS.icmpYes X0.here hx rfl (pc0 := 223) (pc' := 230) rfl (hb hby d2_223) rfl (flt hc54).2.1 (by decide) (by decide) ?_
                                                          show Steps p.tables e below (s₁.setTop (mkF m 230 #[.val (.int vc)] [])) _
                                                          refine XS.iconst X0.here hx rfl (hb hby d2_230) ?_
                                                          show Steps p.tables e below (s₁.setTop (mkF m 231 #[.val (.int vc)] [(.int (0 : Int32))])) _
                                                          exact retN X0 hx (t := .boolean) Bd.returns (by simp) (hb hby d2_231) hr
                                                        · show Q_ex Z vc h0 n0 _ s₁.heap _
                                                          rw [e0]
                                                          exact ⟨by rw [own_isn, if_neg (by omega)], N0, rfl⟩
                                        · have hz40 := own_ngt (K := 12288) hc40 (by decide)
                                          obtain ⟨fs, hr, hrun, hended, hW, hsame⟩ := X0.leave (v := some (.int (0 : Int32))) (fun h => by rw [Bd.returns] at h; cases h)
                                          refine ⟨_, _, pre39 _ ?_, hrun, hended, _, _, rfl, ?_, ⟨_, rfl⟩, hW, hsame.mono (by decide) (by decide)⟩
                                          · show Steps p.tables e below (s₁.setTop (mkF m 167 #[.val (.int vc)] [(.int (12288 : Int32)), (.int vc)])) _
                                            refine XS.icmpNo X0.here hx rfl (hb hby d2_167) rfl (flt hc40).2.2.1 ?_
                                            show Steps p.tables e below (s₁.setTop (mkF m 170 #[.val (.int vc)] [])) _
                                            refine XS.iconst X0.here hx rfl (hb hby d2_170) ?_
                                            show Steps p.tables e below (s₁.setTop (mkF m 171 #[.val (.int vc)] [(.int (0 : Int32))])) _
                                            exact retN X0 hx (t := .boolean) Bd.returns (by simp) (hb hby d2_171) hr
                                          · show Q_ex Z vc h0 n0 _ s₁.heap _
                                            rw [e0]
                                            exact ⟨by rw [own_isn, if_neg (by omega)], N0, rfl⟩
                              · have hz30 := own_ngt (K := 8205) hc30 (by decide)
                                obtain ⟨fs, hr, hrun, hended, hW, hsame⟩ := X0.leave (v := some (.int (1 : Int32))) (fun h => by rw [Bd.returns] at h; cases h)
                                refine ⟨_, _, pre29 _ ?_, hrun, hended, _, _, rfl, ?_, ⟨_, rfl⟩, hW, hsame.mono (by decide) (by decide)⟩
                                · show Steps p.tables e below (s₁.setTop (mkF m 122 #[.val (.int vc)] [(.int (8205 : Int32)), (.int vc)])) _
                                  refine XS.icmpNo X0.here hx rfl (hb hby d2_122) rfl (flt hc30).2.2.1 ?_
                                  show Steps p.tables e below (s₁.setTop (mkF m 125 #[.val (.int vc)] [])) _
                                  refine XS.iconst X0.here hx rfl (hb hby d2_125) ?_
                                  show Steps p.tables e below (s₁.setTop (mkF m 126 #[.val (.int vc)] [(.int (1 : Int32))])) _
                                  exact retN X0 hx (t := .boolean) Bd.returns (by simp) (hb hby d2_126) hr
                                · show Q_ex Z vc h0 n0 _ s₁.heap _
                                  rw [e0]
                                  exact ⟨by rw [own_isn, if_pos (Or.inr (Or.inr (Or.inr (Or.inr (Or.inr (Or.inr (Or.inr (Or.inr (Or.inl ⟨by omega, by omega⟩)))))))))], N0, rfl⟩
            · have hz12 := own_ngt (K := 122) hc12 (by decide)
              obtain ⟨fs, hr, hrun, hended, hW, hsame⟩ := X0.leave (v := some (.int (1 : Int32))) (fun h => by rw [Bd.returns] at h; cases h)
              refine ⟨_, _, pre11 _ ?_, hrun, hended, _, _, rfl, ?_, ⟨_, rfl⟩, hW, hsame.mono (by decide) (by decide)⟩
              · show Steps p.tables e below (s₁.setTop (mkF m 43 #[.val (.int vc)] [(.int (122 : Int32)), (.int vc)])) _
                refine XS.icmpNo X0.here hx rfl (hb hby d2_43) rfl (flt hc12).2.2.1 ?_
                show Steps p.tables e below (s₁.setTop (mkF m 46 #[.val (.int vc)] [])) _
                refine XS.iconst X0.here hx rfl (hb hby d2_46) ?_
                show Steps p.tables e below (s₁.setTop (mkF m 47 #[.val (.int vc)] [(.int (1 : Int32))])) _
                exact retN X0 hx (t := .boolean) Bd.returns (by simp) (hb hby d2_47) hr
              · show Q_ex Z vc h0 n0 _ s₁.heap _
                rw [e0]
                exact ⟨by rw [own_isn, if_pos (Or.inr (Or.inr (Or.inl ⟨by omega, by omega⟩)))], N0, rfl⟩
    · have hz4 := own_ngt (K := 90) hc4 (by decide)
      obtain ⟨fs, hr, hrun, hended, hW, hsame⟩ := X0.leave (v := some (.int (1 : Int32))) (fun h => by rw [Bd.returns] at h; cases h)
      refine ⟨_, _, pre3 _ ?_, hrun, hended, _, _, rfl, ?_, ⟨_, rfl⟩, hW, hsame.mono (by decide) (by decide)⟩
      · show Steps p.tables e below (s₁.setTop (mkF m 11 #[.val (.int vc)] [(.int (90 : Int32)), (.int vc)])) _
        refine XS.icmpNo X0.here hx rfl (hb hby d2_11) rfl (flt hc4).2.2.1 ?_
        show Steps p.tables e below (s₁.setTop (mkF m 14 #[.val (.int vc)] [])) _
        refine XS.iconst X0.here hx rfl (hb hby d2_14) ?_
        show Steps p.tables e below (s₁.setTop (mkF m 15 #[.val (.int vc)] [(.int (1 : Int32))])) _
        exact retN X0 hx (t := .boolean) Bd.returns (by simp) (hb hby d2_15) hr
      · show Q_ex Z vc h0 n0 _ s₁.heap _
        rw [e0]
        exact ⟨by rw [own_isn, if_pos (Or.inl ⟨by omega, by omega⟩)], N0, rfl⟩
theorem pn_rm0 : plainName "com/example/nano_xpath/nanoxpath/XmlNamesIsNameStartCharacterPinLaw" = true := by first | (simp [plainName, overriddenIn]; done) | decide +kernel
theorem ef_rm0 (m : MethodId) (va : Int32) (vp : Int32) (vo : Int32) : entryFrame m #[(.int va), (.int vp), (.int vo)] maxLocals = mkF m 0 #[.val (.int va), .val (.int vp), .val (.int vo), .unset, .unset] [] := by first | (simp [entryFrame, mkF, argsToLocals, Value.category, maxLocals]; done) | rfl
def Q0 (Z : State) (va : Int32) (vp : Int32) (vo : Int32) (h0 : Heap) (n0 : Nat) (v : Option Value) (h : Heap) (L : List Loc) : Prop := v = some (.int 1) ∧ Fr n0 L
set_option maxRecDepth 65536 in
set_option maxHeartbeats 40000000 in
theorem rm0 (l : Launch) (Z : State) (a0 : Array Value) (hw : ∀ d ∈ tables_1, d.before a0 Z = true) (ws : List Jvm.Cond) (va : Int32) (vp : Int32) (vo : Int32) (h0 : Heap) (n0 : Nat) (Z0 : n0 ≤ h0.size) :
    MetFree l x (head1 (Jvm.Cond.code x code maxLocals ret :: ws) room_1) (fun a U => a = #[(.int va), (.int vp), (.int vo)] ∧ Z.Warmed39 U.vm ∧ U.heap = h0) (fun _ _ _ _ _ => True) (fun _ U o U' => ∃ v L, o = .returned v ∧ Q0 Z va vp vo h0 n0 v U'.heap L ∧ FrameEnd U o U' L room_1.cells room_1.slots) := by
  refine MetFree.of_bodySF (plainFor_of_name pn_rm0) hisR ?_
  intro p e s m args below meth c s₁ Bd hml0 hP hK
  obtain ⟨rfl, hZ, hh⟩ := hP
  have hx := Bd.exec
  have hby := Bd.bytes
  have hml : c.maxLocals = 5 := hml0
  have hown : s.vm.findClass "com/example/nano_xpath/nanoxpath/XmlNamesIsNameStartCharacterPinLaw" = some m.cls := findClass_of_methodNamed Bd.named
  have hnm := (name_of_methodNamed Bd.named Bd.method).1
  have X0 : Stand p l e room_1 s m #[(.int va), (.int vp), (.int vo)] below meth c s₁ [] 0 0 := Stand.of_body Bd
  have e0 : s₁.heap = h0 := by rw [← hh, Bd.state]; rfl
  have N0 := Fr.nil n0
  have pre0 : ∀ t, Steps p.tables e below (s₁.setTop (mkF m 0 #[.val (.int va), .val (.int vp), .val (.int vo), .unset, .unset] [])) t → Steps p.tables e below (s₁.setTop (entryFrame m #[(.int va), (.int vp), (.int vo)] maxLocals)) t := fun t k => castTop (ef_rm0 m va vp vo) k
  obtain ⟨T1, h1, k1, X1, e1, E1, A1, st1⟩ := newP X0 hx hZ (hw _ (List.mem_of_getElem? (i := 0) rfl)) e0 (g := (mkF m 2 #[.val (.int va), .val (.int vp), .val (.int vo), .unset, .unset] [(.int (36 : Int32))])) rfl (hb hby at_2) rfl (by decide) (cap := 36) (by decide) (by decide) (by decide) (by decide)
  obtain ⟨b1, g1⟩ : ∃ z, z = h0.size := ⟨_, rfl⟩
  rw [← g1] at A1 st1
  have g_b1 : n0 ≤ b1 := Nat.le_trans Z0 (Nat.le_of_eq g1.symm)
  have Zp2 : n0 ≤ h1.size := Nat.le_trans Z0 E1.1
  have V1 : Arv Z h1 b1 k1 .int (36 : Int32) [(.int (0 : Int32)), (.int (0 : Int32)), (.int (0 : Int32)), (.int (0 : Int32)), (.int (0 : Int32)), (.int (0 : Int32)), (.int (0 : Int32)), (.int (0 : Int32)), (.int (0 : Int32)), (.int (0 : Int32)), (.int (0 : Int32)), (.int (0 : Int32)), (.int (0 : Int32)), (.int (0 : Int32)), (.int (0 : Int32)), (.int (0 : Int32)), (.int (0 : Int32)), (.int (0 : Int32)), (.int (0 : Int32)), (.int (0 : Int32)), (.int (0 : Int32)), (.int (0 : Int32)), (.int (0 : Int32)), (.int (0 : Int32)), (.int (0 : Int32)), (.int (0 : Int32)), (.int (0 : Int32)), (.int (0 : Int32)), (.int (0 : Int32)), (.int (0 : Int32)), (.int (0 : Int32)), (.int (0 : Int32)), (.int (0 : Int32)), (.int (0 : Int32)), (.int (0 : Int32)), (.int (0 : Int32))] (.int (0 : Int32)) := (Arv.new A1 (by decide)).pad (pad_rep [] (.int (0 : Int32)) 36)
  obtain ⟨cl3, Ar3, q3, S3, M3, H3, G3⟩ := id V1
  have hin3 : ¬ ((0 : Int32) < 0 ∨ cl3.slots.size ≤ ((0 : Int32)).toNatClampNeg) := inb_of S3 ⟨by decide, by decide⟩
  obtain ⟨T4, h4, X4, e4, W4, st4⟩ := stI X1 hx hZ e1 Ar3 (j := (0 : Int32)) hin3 (g := (mkF m 8 #[.val (.int va), .val (.int vp), .val (.int vo), .unset, .unset] [(.int (65 : Int32)), (.int (0 : Int32)), (.ref b1), (.ref b1)])) rfl rfl (hb hby at_8)
  have N4 := Fr.snoc X4 N0 g_b1
  have V4 : Arv Z h4 b1 k1 .int (36 : Int32) [(.int (65 : Int32)), (.int (0 : Int32)), (.int (0 : Int32)), (.int (0 : Int32)), (.int (0 : Int32)), (.int (0 : Int32)), (.int (0 : Int32)), (.int (0 : Int32)), (.int (0 : Int32)), (.int (0 : Int32)), (.int (0 : Int32)), (.int (0 : Int32)), (.int (0 : Int32)), (.int (0 : Int32)), (.int (0 : Int32)), (.int (0 : Int32)), (.int (0 : Int32)), (.int (0 : Int32)), (.int (0 : Int32)), (.int (0 : Int32)), (.int (0 : Int32)), (.int (0 : Int32)), (.int (0 : Int32)), (.int (0 : Int32)), (.int (0 : Int32)), (.int (0 : Int32)), (.int (0 : Int32)), (.int (0 : Int32)), (.int (0 : Int32)), (.int (0 : Int32)), (.int (0 : Int32)), (.int (0 : Int32)), (.int (0 : Int32)), (.int (0 : Int32)), (.int (0 : Int32)), (.int (0 : Int32))] (.int (0 : Int32)) := Arv.set Ar3 q3 S3 M3 H3 G3 rfl W4 0 rfl (Nat.le_of_ble_eq_true rfl)
  have Zp5 : n0 ≤ h4.size := Nat.le_trans Zp2 (Nat.le_of_eq (Wr.size W4).symm)
  obtain ⟨cl6, Ar6, q6, S6, M6, H6, G6⟩ := id V4
  have hin6 : ¬ ((1 : Int32) < 0 ∨ cl6.slots.size ≤ ((1 : Int32)).toNatClampNeg) := inb_of S6 ⟨by decide, by decide⟩
  obtain ⟨T7, h7, X7, e7, W7, st7⟩ := stI X4 hx hZ e4 Ar6 (j := (1 : Int32)) hin6 (g := (mkF m 13 #[.val (.int va), .val (.int vp), .val (.int vo), .unset, .unset] [(.int (90 : Int32)), (.int (1 : Int32)), (.ref b1), (.ref b1)])) rfl rfl (hb hby at_13)
  have N7 := Fr.snoc X7 N4 g_b1
  have V7 : Arv Z h7 b1 k1 .int (36 : Int32) [(.int (65 : Int32)), (.int (90 : Int32)), (.int (0 : Int32)), (.int (0 : Int32)), (.int (0 : Int32)), (.int (0 : Int32)), (.int (0 : Int32)), (.int (0 : Int32)), (.int (0 : Int32)), (.int (0 : Int32)), (.int (0 : Int32)), (.int (0 : Int32)), (.int (0 : Int32)), (.int (0 : Int32)), (.int (0 : Int32)), (.int (0 : Int32)), (.int (0 : Int32)), (.int (0 : Int32)), (.int (0 : Int32)), (.int (0 : Int32)), (.int (0 : Int32)), (.int (0 : Int32)), (.int (0 : Int32)), (.int (0 : Int32)), (.int (0 : Int32)), (.int (0 : Int32)), (.int (0 : Int32)), (.int (0 : Int32)), (.int (0 : Int32)), (.int (0 : Int32)), (.int (0 : Int32)), (.int (0 : Int32)), (.int (0 : Int32)), (.int (0 : Int32)), (.int (0 : Int32)), (.int (0 : Int32))] (.int (0 : Int32)) := Arv.set Ar6 q6 S6 M6 H6 G6 rfl W7 1 rfl (Nat.le_of_ble_eq_true rfl)
  have Zp8 : n0 ≤ h7.size := Nat.le_trans Zp5 (Nat.le_of_eq (Wr.size W7).symm)
  obtain ⟨cl9, Ar9, q9, S9, M9, H9, G9⟩ := id V7
  have hin9 : ¬ ((2 : Int32) < 0 ∨ cl9.slots.size ≤ ((2 : Int32)).toNatClampNeg) := inb_of S9 ⟨by decide, by decide⟩
  obtain ⟨T10, h10, X10, e10, W10, st10⟩ := stI X7 hx hZ e7 Ar9 (j := (2 : Int32)) hin9 (g := (mkF m 18 #[.val (.int va), .val (.int vp), .val (.int vo), .unset, .unset] [(.int (95 : Int32)), (.int (2 : Int32)), (.ref b1), (.ref b1)])) rfl rfl (hb hby at_18)
  have N10 := Fr.snoc X10 N7 g_b1
  have V10 : Arv Z h10 b1 k1 .int (36 : Int32) [(.int (65 : Int32)), (.int (90 : Int32)), (.int (95 : Int32)), (.int (0 : Int32)), (.int (0 : Int32)), (.int (0 : Int32)), (.int (0 : Int32)), (.int (0 : Int32)), (.int (0 : Int32)), (.int (0 : Int32)), (.int (0 : Int32)), (.int (0 : Int32)), (.int (0 : Int32)), (.int (0 : Int32)), (.int (0 : Int32)), (.int (0 : Int32)), (.int (0 : Int32)), (.int (0 : Int32)), (.int (0 : Int32)), (.int (0 : Int32)), (.int (0 : Int32)), (.int (0 : Int32)), (.int (0 : Int32)), (.int (0 : Int32)), (.int (0 : Int32)), (.int (0 : Int32)), (.int (0 : Int32)), (.int (0 : Int32)), (.int (0 : Int32)), (.int (0 : Int32)), (.int (0 : Int32)), (.int (0 : Int32)), (.int (0 : Int32)), (.int (0 : Int32)), (.int (0 : Int32)), (.int (0 : Int32))] (.int (0 : Int32)) := Arv.set Ar9 q9 S9 M9 H9 G9 rfl W10 2 rfl (Nat.le_of_ble_eq_true rfl)
  have Zp11 : n0 ≤ h10.size := Nat.le_trans Zp8 (Nat.le_of_eq (Wr.size W10).symm)
  obtain ⟨cl12, Ar12, q12, S12, M12, H12, G12⟩ := id V10
  have hin12 : ¬ ((3 : Int32) < 0 ∨ cl12.slots.size ≤ ((3 : Int32)).toNatClampNeg) := inb_of S12 ⟨by decide, by decide⟩
  obtain ⟨T13, h13, X13, e13, W13, st13⟩ := stI X10 hx hZ e10 Ar12 (j := (3 : Int32)) hin12 (g := (mkF m 23 #[.val (.int va), .val (.int vp), .val (.int vo), .unset, .unset] [(.int (97 : Int32)), (.int (3 : Int32)), (.ref b1), (.ref b1)])) rfl rfl (hb hby at_23)
  have N13 := Fr.snoc X13 N10 g_b1
  have V13 : Arv Z h13 b1 k1 .int (36 : Int32) [(.int (65 : Int32)), (.int (90 : Int32)), (.int (95 : Int32)), (.int (97 : Int32)), (.int (0 : Int32)), (.int (0 : Int32)), (.int (0 : Int32)), (.int (0 : Int32)), (.int (0 : Int32)), (.int (0 : Int32)), (.int (0 : Int32)), (.int (0 : Int32)), (.int (0 : Int32)), (.int (0 : Int32)), (.int (0 : Int32)), (.int (0 : Int32)), (.int (0 : Int32)), (.int (0 : Int32)), (.int (0 : Int32)), (.int (0 : Int32)), (.int (0 : Int32)), (.int (0 : Int32)), (.int (0 : Int32)), (.int (0 : Int32)), (.int (0 : Int32)), (.int (0 : Int32)), (.int (0 : Int32)), (.int (0 : Int32)), (.int (0 : Int32)), (.int (0 : Int32)), (.int (0 : Int32)), (.int (0 : Int32)), (.int (0 : Int32)), (.int (0 : Int32)), (.int (0 : Int32)), (.int (0 : Int32))] (.int (0 : Int32)) := Arv.set Ar12 q12 S12 M12 H12 G12 rfl W13 3 rfl (Nat.le_of_ble_eq_true rfl)
  have Zp14 : n0 ≤ h13.size := Nat.le_trans Zp11 (Nat.le_of_eq (Wr.size W13).symm)
  obtain ⟨cl15, Ar15, q15, S15, M15, H15, G15⟩ := id V13
  have hin15 : ¬ ((4 : Int32) < 0 ∨ cl15.slots.size ≤ ((4 : Int32)).toNatClampNeg) := inb_of S15 ⟨by decide, by decide⟩
  obtain ⟨T16, h16, X16, e16, W16, st16⟩ := stI X13 hx hZ e13 Ar15 (j := (4 : Int32)) hin15 (g := (mkF m 28 #[.val (.int va), .val (.int vp), .val (.int vo), .unset, .unset] [(.int (122 : Int32)), (.int (4 : Int32)), (.ref b1), (.ref b1)])) rfl rfl (hb hby at_28)
  have N16 := Fr.snoc X16 N13 g_b1
  have V16 : Arv Z h16 b1 k1 .int (36 : Int32) [(.int (65 : Int32)), (.int (90 : Int32)), (.int (95 : Int32)), (.int (97 : Int32)), (.int (122 : Int32)), (.int (0 : Int32)), (.int (0 : Int32)), (.int (0 : Int32)), (.int (0 : Int32)), (.int (0 : Int32)), (.int (0 : Int32)), (.int (0 : Int32)), (.int (0 : Int32)), (.int (0 : Int32)), (.int (0 : Int32)), (.int (0 : Int32)), (.int (0 : Int32)), (.int (0 : Int32)), (.int (0 : Int32)), (.int (0 : Int32)), (.int (0 : Int32)), (.int (0 : Int32)), (.int (0 : Int32)), (.int (0 : Int32)), (.int (0 : Int32)), (.int (0 : Int32)), (.int (0 : Int32)), (.int (0 : Int32)), (.int (0 : Int32)), (.int (0 : Int32)), (.int (0 : Int32)), (.int (0 : Int32)), (.int (0 : Int32)), (.int (0 : Int32)), (.int (0 : Int32)), (.int (0 : Int32))] (.int (0 : Int32)) := Arv.set Ar15 q15 S15 M15 H15 G15 rfl W16 4 rfl (Nat.le_of_ble_eq_true rfl)
  have Zp17 : n0 ≤ h16.size := Nat.le_trans Zp14 (Nat.le_of_eq (Wr.size W16).symm)
  obtain ⟨cl18, Ar18, q18, S18, M18, H18, G18⟩ := id V16
  have hin18 : ¬ ((5 : Int32) < 0 ∨ cl18.slots.size ≤ ((5 : Int32)).toNatClampNeg) := inb_of S18 ⟨by decide, by decide⟩
  obtain ⟨T19, h19, X19, e19, W19, st19⟩ := stI X16 hx hZ e16 Ar18 (j := (5 : Int32)) hin18 (g := (mkF m 34 #[.val (.int va), .val (.int vp), .val (.int vo), .unset, .unset] [(.int (192 : Int32)), (.int (5 : Int32)), (.ref b1), (.ref b1)])) rfl rfl (hb hby at_34)
  have N19 := Fr.snoc X19 N16 g_b1
  have V19 : Arv Z h19 b1 k1 .int (36 : Int32) [(.int (65 : Int32)), (.int (90 : Int32)), (.int (95 : Int32)), (.int (97 : Int32)), (.int (122 : Int32)), (.int (192 : Int32)), (.int (0 : Int32)), (.int (0 : Int32)), (.int (0 : Int32)), (.int (0 : Int32)), (.int (0 : Int32)), (.int (0 : Int32)), (.int (0 : Int32)), (.int (0 : Int32)), (.int (0 : Int32)), (.int (0 : Int32)), (.int (0 : Int32)), (.int (0 : Int32)), (.int (0 : Int32)), (.int (0 : Int32)), (.int (0 : Int32)), (.int (0 : Int32)), (.int (0 : Int32)), (.int (0 : Int32)), (.int (0 : Int32)), (.int (0 : Int32)), (.int (0 : Int32)), (.int (0 : Int32)), (.int (0 : Int32)), (.int (0 : Int32)), (.int (0 : Int32)), (.int (0 : Int32)), (.int (0 : Int32)), (.int (0 : Int32)), (.int (0 : Int32)), (.int (0 : Int32))] (.int (0 : Int32)) := Arv.set Ar18 q18 S18 M18 H18 G18 rfl W19 5 rfl (Nat.le_of_ble_eq_true rfl)
  have Zp20 : n0 ≤ h19.size := Nat.le_trans Zp17 (Nat.le_of_eq (Wr.size W19).symm)
  obtain ⟨cl21, Ar21, q21, S21, M21, H21, G21⟩ := id V19
  have hin21 : ¬ ((6 : Int32) < 0 ∨ cl21.slots.size ≤ ((6 : Int32)).toNatClampNeg) := inb_of S21 ⟨by decide, by decide⟩
  obtain ⟨T22, h22, X22, e22, W22, st22⟩ := stI X19 hx hZ e19 Ar21 (j := (6 : Int32)) hin21 (g := (mkF m 41 #[.val (.int va), .val (.int vp), .val (.int vo), .unset, .unset] [(.int (214 : Int32)), (.int (6 : Int32)), (.ref b1), (.ref b1)])) rfl rfl (hb hby at_41)
  have N22 := Fr.snoc X22 N19 g_b1
  have V22 : Arv Z h22 b1 k1 .int (36 : Int32) [(.int (65 : Int32)), (.int (90 : Int32)), (.int (95 : Int32)), (.int (97 : Int32)), (.int (122 : Int32)), (.int (192 : Int32)), (.int (214 : Int32)), (.int (0 : Int32)), (.int (0 : Int32)), (.int (0 : Int32)), (.int (0 : Int32)), (.int (0 : Int32)), (.int (0 : Int32)), (.int (0 : Int32)), (.int (0 : Int32)), (.int (0 : Int32)), (.int (0 : Int32)), (.int (0 : Int32)), (.int (0 : Int32)), (.int (0 : Int32)), (.int (0 : Int32)), (.int (0 : Int32)), (.int (0 : Int32)), (.int (0 : Int32)), (.int (0 : Int32)), (.int (0 : Int32)), (.int (0 : Int32)), (.int (0 : Int32)), (.int (0 : Int32)), (.int (0 : Int32)), (.int (0 : Int32)), (.int (0 : Int32)), (.int (0 : Int32)), (.int (0 : Int32)), (.int (0 : Int32)), (.int (0 : Int32))] (.int (0 : Int32)) := Arv.set Ar21 q21 S21 M21 H21 G21 rfl W22 6 rfl (Nat.le_of_ble_eq_true rfl)
  have Zp23 : n0 ≤ h22.size := Nat.le_trans Zp20 (Nat.le_of_eq (Wr.size W22).symm)
  obtain ⟨cl24, Ar24, q24, S24, M24, H24, G24⟩ := id V22
  have hin24 : ¬ ((7 : Int32) < 0 ∨ cl24.slots.size ≤ ((7 : Int32)).toNatClampNeg) := inb_of S24 ⟨by decide, by decide⟩
  obtain ⟨T25, h25, X25, e25, W25, st25⟩ := stI X22 hx hZ e22 Ar24 (j := (7 : Int32)) hin24 (g := (mkF m 48 #[.val (.int va), .val (.int vp), .val (.int vo), .unset, .unset] [(.int (216 : Int32)), (.int (7 : Int32)), (.ref b1), (.ref b1)])) rfl rfl (hb hby at_48)
  have N25 := Fr.snoc X25 N22 g_b1
  have V25 : Arv Z h25 b1 k1 .int (36 : Int32) [(.int (65 : Int32)), (.int (90 : Int32)), (.int (95 : Int32)), (.int (97 : Int32)), (.int (122 : Int32)), (.int (192 : Int32)), (.int (214 : Int32)), (.int (216 : Int32)), (.int (0 : Int32)), (.int (0 : Int32)), (.int (0 : Int32)), (.int (0 : Int32)), (.int (0 : Int32)), (.int (0 : Int32)), (.int (0 : Int32)), (.int (0 : Int32)), (.int (0 : Int32)), (.int (0 : Int32)), (.int (0 : Int32)), (.int (0 : Int32)), (.int (0 : Int32)), (.int (0 : Int32)), (.int (0 : Int32)), (.int (0 : Int32)), (.int (0 : Int32)), (.int (0 : Int32)), (.int (0 : Int32)), (.int (0 : Int32)), (.int (0 : Int32)), (.int (0 : Int32)), (.int (0 : Int32)), (.int (0 : Int32)), (.int (0 : Int32)), (.int (0 : Int32)), (.int (0 : Int32)), (.int (0 : Int32))] (.int (0 : Int32)) := Arv.set Ar24 q24 S24 M24 H24 G24 rfl W25 7 rfl (Nat.le_of_ble_eq_true rfl)
  have Zp26 : n0 ≤ h25.size := Nat.le_trans Zp23 (Nat.le_of_eq (Wr.size W25).symm)
  obtain ⟨cl27, Ar27, q27, S27, M27, H27, G27⟩ := id V25
  have hin27 : ¬ ((8 : Int32) < 0 ∨ cl27.slots.size ≤ ((8 : Int32)).toNatClampNeg) := inb_of S27 ⟨by decide, by decide⟩
  obtain ⟨T28, h28, X28, e28, W28, st28⟩ := stI X25 hx hZ e25 Ar27 (j := (8 : Int32)) hin27 (g := (mkF m 55 #[.val (.int va), .val (.int vp), .val (.int vo), .unset, .unset] [(.int (246 : Int32)), (.int (8 : Int32)), (.ref b1), (.ref b1)])) rfl rfl (hb hby at_55)
  have N28 := Fr.snoc X28 N25 g_b1
  have V28 : Arv Z h28 b1 k1 .int (36 : Int32) [(.int (65 : Int32)), (.int (90 : Int32)), (.int (95 : Int32)), (.int (97 : Int32)), (.int (122 : Int32)), (.int (192 : Int32)), (.int (214 : Int32)), (.int (216 : Int32)), (.int (246 : Int32)), (.int (0 : Int32)), (.int (0 : Int32)), (.int (0 : Int32)), (.int (0 : Int32)), (.int (0 : Int32)), (.int (0 : Int32)), (.int (0 : Int32)), (.int (0 : Int32)), (.int (0 : Int32)), (.int (0 : Int32)), (.int (0 : Int32)), (.int (0 : Int32)), (.int (0 : Int32)), (.int (0 : Int32)), (.int (0 : Int32)), (.int (0 : Int32)), (.int (0 : Int32)), (.int (0 : Int32)), (.int (0 : Int32)), (.int (0 : Int32)), (.int (0 : Int32)), (.int (0 : Int32)), (.int (0 : Int32)), (.int (0 : Int32)), (.int (0 : Int32)), (.int (0 : Int32)), (.int (0 : Int32))] (.int (0 : Int32)) := Arv.set Ar27 q27 S27 M27 H27 G27 rfl W28 8 rfl (Nat.le_of_ble_eq_true rfl)
  have Zp29 : n0 ≤ h28.size := Nat.le_trans Zp26 (Nat.le_of_eq (Wr.size W28).symm)
  obtain ⟨cl30, Ar30, q30, S30, M30, H30, G30⟩ := id V28
  have hin30 : ¬ ((9 : Int32) < 0 ∨ cl30.slots.size ≤ ((9 : Int32)).toNatClampNeg) := inb_of S30 ⟨by decide, by decide⟩
  obtain ⟨T31, h31, X31, e31, W31, st31⟩ := stI X28 hx hZ e28 Ar30 (j := (9 : Int32)) hin30 (g := (mkF m 62 #[.val (.int va), .val (.int vp), .val (.int vo), .unset, .unset] [(.int (248 : Int32)), (.int (9 : Int32)), (.ref b1), (.ref b1)])) rfl rfl (hb hby at_62)
  have N31 := Fr.snoc X31 N28 g_b1
  have V31 : Arv Z h31 b1 k1 .int (36 : Int32) [(.int (65 : Int32)), (.int (90 : Int32)), (.int (95 : Int32)), (.int (97 : Int32)), (.int (122 : Int32)), (.int (192 : Int32)), (.int (214 : Int32)), (.int (216 : Int32)), (.int (246 : Int32)), (.int (248 : Int32)), (.int (0 : Int32)), (.int (0 : Int32)), (.int (0 : Int32)), (.int (0 : Int32)), (.int (0 : Int32)), (.int (0 : Int32)), (.int (0 : Int32)), (.int (0 : Int32)), (.int (0 : Int32)), (.int (0 : Int32)), (.int (0 : Int32)), (.int (0 : Int32)), (.int (0 : Int32)), (.int (0 : Int32)), (.int (0 : Int32)), (.int (0 : Int32)), (.int (0 : Int32)), (.int (0 : Int32)), (.int (0 : Int32)), (.int (0 : Int32)), (.int (0 : Int32)), (.int (0 : Int32)), (.int (0 : Int32)), (.int (0 : Int32)), (.int (0 : Int32)), (.int (0 : Int32))] (.int (0 : Int32)) := Arv.set Ar30 q30 S30 M30 H30 G30 rfl W31 9 rfl (Nat.le_of_ble_eq_true rfl)
  have Zp32 : n0 ≤ h31.size := Nat.le_trans Zp29 (Nat.le_of_eq (Wr.size W31).symm)
  obtain ⟨cl33, Ar33, q33, S33, M33, H33, G33⟩ := id V31
  have hin33 : ¬ ((10 : Int32) < 0 ∨ cl33.slots.size ≤ ((10 : Int32)).toNatClampNeg) := inb_of S33 ⟨by decide, by decide⟩
  obtain ⟨T34, h34, X34, e34, W34, st34⟩ := stI X31 hx hZ e31 Ar33 (j := (10 : Int32)) hin33 (g := (mkF m 69 #[.val (.int va), .val (.int vp), .val (.int vo), .unset, .unset] [(.int (767 : Int32)), (.int (10 : Int32)), (.ref b1), (.ref b1)])) rfl rfl (hb hby at_69)
  have N34 := Fr.snoc X34 N31 g_b1
  have V34 : Arv Z h34 b1 k1 .int (36 : Int32) [(.int (65 : Int32)), (.int (90 : Int32)), (.int (95 : Int32)), (.int (97 : Int32)), (.int (122 : Int32)), (.int (192 : Int32)), (.int (214 : Int32)), (.int (216 : Int32)), (.int (246 : Int32)), (.int (248 : Int32)), (.int (767 : Int32)), (.int (0 : Int32)), (.int (0 : Int32)), (.int (0 : Int32)), (.int (0 : Int32)), (.int (0 : Int32)), (.int (0 : Int32)), (.int (0 : Int32)), (.int (0 : Int32)), (.int (0 : Int32)), (.int (0 : Int32)), (.int (0 : Int32)), (.int (0 : Int32)), (.int (0 : Int32)), (.int (0 : Int32)), (.int (0 : Int32)), (.int (0 : Int32)), (.int (0 : Int32)), (.int (0 : Int32)), (.int (0 : Int32)), (.int (0 : Int32)), (.int (0 : Int32)), (.int (0 : Int32)), (.int (0 : Int32)), (.int (0 : Int32)), (.int (0 : Int32))] (.int (0 : Int32)) := Arv.set Ar33 q33 S33 M33 H33 G33 rfl W34 10 rfl (Nat.le_of_ble_eq_true rfl)
  have Zp35 : n0 ≤ h34.size := Nat.le_trans Zp32 (Nat.le_of_eq (Wr.size W34).symm)
  obtain ⟨cl36, Ar36, q36, S36, M36, H36, G36⟩ := id V34
  have hin36 : ¬ ((11 : Int32) < 0 ∨ cl36.slots.size ≤ ((11 : Int32)).toNatClampNeg) := inb_of S36 ⟨by decide, by decide⟩
  obtain ⟨T37, h37, X37, e37, W37, st37⟩ := stI X34 hx hZ e34 Ar36 (j := (11 : Int32)) hin36 (g := (mkF m 76 #[.val (.int va), .val (.int vp), .val (.int vo), .unset, .unset] [(.int (880 : Int32)), (.int (11 : Int32)), (.ref b1), (.ref b1)])) rfl rfl (hb hby at_76)
  have N37 := Fr.snoc X37 N34 g_b1
  have V37 : Arv Z h37 b1 k1 .int (36 : Int32) [(.int (65 : Int32)), (.int (90 : Int32)), (.int (95 : Int32)), (.int (97 : Int32)), (.int (122 : Int32)), (.int (192 : Int32)), (.int (214 : Int32)), (.int (216 : Int32)), (.int (246 : Int32)), (.int (248 : Int32)), (.int (767 : Int32)), (.int (880 : Int32)), (.int (0 : Int32)), (.int (0 : Int32)), (.int (0 : Int32)), (.int (0 : Int32)), (.int (0 : Int32)), (.int (0 : Int32)), (.int (0 : Int32)), (.int (0 : Int32)), (.int (0 : Int32)), (.int (0 : Int32)), (.int (0 : Int32)), (.int (0 : Int32)), (.int (0 : Int32)), (.int (0 : Int32)), (.int (0 : Int32)), (.int (0 : Int32)), (.int (0 : Int32)), (.int (0 : Int32)), (.int (0 : Int32)), (.int (0 : Int32)), (.int (0 : Int32)), (.int (0 : Int32)), (.int (0 : Int32)), (.int (0 : Int32))] (.int (0 : Int32)) := Arv.set Ar36 q36 S36 M36 H36 G36 rfl W37 11 rfl (Nat.le_of_ble_eq_true rfl)
  have Zp38 : n0 ≤ h37.size := Nat.le_trans Zp35 (Nat.le_of_eq (Wr.size W37).symm)
  obtain ⟨cl39, Ar39, q39, S39, M39, H39, G39⟩ := id V37
  have hin39 : ¬ ((12 : Int32) < 0 ∨ cl39.slots.size ≤ ((12 : Int32)).toNatClampNeg) := inb_of S39 ⟨by decide, by decide⟩
  obtain ⟨T40, h40, X40, e40, W40, st40⟩ := stI X37 hx hZ e37 Ar39 (j := (12 : Int32)) hin39 (g := (mkF m 83 #[.val (.int va), .val (.int vp), .val (.int vo), .unset, .unset] [(.int (893 : Int32)), (.int (12 : Int32)), (.ref b1), (.ref b1)])) rfl rfl (hb hby at_83)
  have N40 := Fr.snoc X40 N37 g_b1
  have V40 : Arv Z h40 b1 k1 .int (36 : Int32) [(.int (65 : Int32)), (.int (90 : Int32)), (.int (95 : Int32)), (.int (97 : Int32)), (.int (122 : Int32)), (.int (192 : Int32)), (.int (214 : Int32)), (.int (216 : Int32)), (.int (246 : Int32)), (.int (248 : Int32)), (.int (767 : Int32)), (.int (880 : Int32)), (.int (893 : Int32)), (.int (0 : Int32)), (.int (0 : Int32)), (.int (0 : Int32)), (.int (0 : Int32)), (.int (0 : Int32)), (.int (0 : Int32)), (.int (0 : Int32)), (.int (0 : Int32)), (.int (0 : Int32)), (.int (0 : Int32)), (.int (0 : Int32)), (.int (0 : Int32)), (.int (0 : Int32)), (.int (0 : Int32)), (.int (0 : Int32)), (.int (0 : Int32)), (.int (0 : Int32)), (.int (0 : Int32)), (.int (0 : Int32)), (.int (0 : Int32)), (.int (0 : Int32)), (.int (0 : Int32)), (.int (0 : Int32))] (.int (0 : Int32)) := Arv.set Ar39 q39 S39 M39 H39 G39 rfl W40 12 rfl (Nat.le_of_ble_eq_true rfl)
  have Zp41 : n0 ≤ h40.size := Nat.le_trans Zp38 (Nat.le_of_eq (Wr.size W40).symm)
  obtain ⟨cl42, Ar42, q42, S42, M42, H42, G42⟩ := id V40
  have hin42 : ¬ ((13 : Int32) < 0 ∨ cl42.slots.size ≤ ((13 : Int32)).toNatClampNeg) := inb_of S42 ⟨by decide, by decide⟩
  obtain ⟨T43, h43, X43, e43, W43, st43⟩ := stI X40 hx hZ e40 Ar42 (j := (13 : Int32)) hin42 (g := (mkF m 90 #[.val (.int va), .val (.int vp), .val (.int vo), .unset, .unset] [(.int (895 : Int32)), (.int (13 : Int32)), (.ref b1), (.ref b1)])) rfl rfl (hb hby at_90)
  have N43 := Fr.snoc X43 N40 g_b1
  have V43 : Arv Z h43 b1 k1 .int (36 : Int32) [(.int (65 : Int32)), (.int (90 : Int32)), (.int (95 : Int32)), (.int (97 : Int32)), (.int (122 : Int32)), (.int (192 : Int32)), (.int (214 : Int32)), (.int (216 : Int32)), (.int (246 : Int32)), (.int (248 : Int32)), (.int (767 : Int32)), (.int (880 : Int32)), (.int (893 : Int32)), (.int (895 : Int32)), (.int (0 : Int32)), (.int (0 : Int32)), (.int (0 : Int32)), (.int (0 : Int32)), (.int (0 : Int32)), (.int (0 : Int32)), (.int (0 : Int32)), (.int (0 : Int32)), (.int (0 : Int32)), (.int (0 : Int32)), (.int (0 : Int32)), (.int (0 : Int32)), (.int (0 : Int32)), (.int (0 : Int32)), (.int (0 : Int32)), (.int (0 : Int32)), (.int (0 : Int32)), (.int (0 : Int32)), (.int (0 : Int32)), (.int (0 : Int32)), (.int (0 : Int32)), (.int (0 : Int32))] (.int (0 : Int32)) := Arv.set Ar42 q42 S42 M42 H42 G42 rfl W43 13 rfl (Nat.le_of_ble_eq_true rfl)
  have Zp44 : n0 ≤ h43.size := Nat.le_trans Zp41 (Nat.le_of_eq (Wr.size W43).symm)
  obtain ⟨cl45, Ar45, q45, S45, M45, H45, G45⟩ := id V43
  have hin45 : ¬ ((14 : Int32) < 0 ∨ cl45.slots.size ≤ ((14 : Int32)).toNatClampNeg) := inb_of S45 ⟨by decide, by decide⟩
  obtain ⟨T46, h46, X46, e46, W46, st46⟩ := stI X43 hx hZ e43 Ar45 (j := (14 : Int32)) hin45 (g := (mkF m 97 #[.val (.int va), .val (.int vp), .val (.int vo), .unset, .unset] [(.int (8191 : Int32)), (.int (14 : Int32)), (.ref b1), (.ref b1)])) rfl rfl (hb hby at_97)
  have N46 := Fr.snoc X46 N43 g_b1
  have V46 : Arv Z h46 b1 k1 .int (36 : Int32) [(.int (65 : Int32)), (.int (90 : Int32)), (.int (95 : Int32)), (.int (97 : Int32)), (.int (122 : Int32)), (.int (192 : Int32)), (.int (214 : Int32)), (.int (216 : Int32)), (.int (246 : Int32)), (.int (248 : Int32)), (.int (767 : Int32)), (.int (880 : Int32)), (.int (893 : Int32)), (.int (895 : Int32)), (.int (8191 : Int32)), (.int (0 : Int32)), (.int (0 : Int32)), (.int (0 : Int32)), (.int (0 : Int32)), (.int (0 : Int32)), (.int (0 : Int32)), (.int (0 : Int32)), (.int (0 : Int32)), (.int (0 : Int32)), (.int (0 : Int32)), (.int (0 : Int32)), (.int (0 : Int32)), (.int (0 : Int32)), (.int (0 : Int32)), (.int (0 : Int32)), (.int (0 : Int32)), (.int (0 : Int32)), (.int (0 : Int32)), (.int (0 : Int32)), (.int (0 : Int32)), (.int (0 : Int32))] (.int (0 : Int32)) := Arv.set Ar45 q45 S45 M45 H45 G45 rfl W46 14 rfl (Nat.le_of_ble_eq_true rfl)
  have Zp47 : n0 ≤ h46.size := Nat.le_trans Zp44 (Nat.le_of_eq (Wr.size W46).symm)
  obtain ⟨cl48, Ar48, q48, S48, M48, H48, G48⟩ := id V46
  have hin48 : ¬ ((15 : Int32) < 0 ∨ cl48.slots.size ≤ ((15 : Int32)).toNatClampNeg) := inb_of S48 ⟨by decide, by decide⟩
  obtain ⟨T49, h49, X49, e49, W49, st49⟩ := stI X46 hx hZ e46 Ar48 (j := (15 : Int32)) hin48 (g := (mkF m 104 #[.val (.int va), .val (.int vp), .val (.int vo), .unset, .unset] [(.int (8204 : Int32)), (.int (15 : Int32)), (.ref b1), (.ref b1)])) rfl rfl (hb hby at_104)
  have N49 := Fr.snoc X49 N46 g_b1
  have V49 : Arv Z h49 b1 k1 .int (36 : Int32) [(.int (65 : Int32)), (.int (90 : Int32)), (.int (95 : Int32)), (.int (97 : Int32)), (.int (122 : Int32)), (.int (192 : Int32)), (.int (214 : Int32)), (.int (216 : Int32)), (.int (246 : Int32)), (.int (248 : Int32)), (.int (767 : Int32)), (.int (880 : Int32)), (.int (893 : Int32)), (.int (895 : Int32)), (.int (8191 : Int32)), (.int (8204 : Int32)), (.int (0 : Int32)), (.int (0 : Int32)), (.int (0 : Int32)), (.int (0 : Int32)), (.int (0 : Int32)), (.int (0 : Int32)), (.int (0 : Int32)), (.int (0 : Int32)), (.int (0 : Int32)), (.int (0 : Int32)), (.int (0 : Int32)), (.int (0 : Int32)), (.int (0 : Int32)), (.int (0 : Int32)), (.int (0 : Int32)), (.int (0 : Int32)), (.int (0 : Int32)), (.int (0 : Int32)), (.int (0 : Int32)), (.int (0 : Int32))] (.int (0 : Int32)) := Arv.set Ar48 q48 S48 M48 H48 G48 rfl W49 15 rfl (Nat.le_of_ble_eq_true rfl)
  have Zp50 : n0 ≤ h49.size := Nat.le_trans Zp47 (Nat.le_of_eq (Wr.size W49).symm)
  obtain ⟨cl51, Ar51, q51, S51, M51, H51, G51⟩ := id V49
  have hin51 : ¬ ((16 : Int32) < 0 ∨ cl51.slots.size ≤ ((16 : Int32)).toNatClampNeg) := inb_of S51 ⟨by decide, by decide⟩
  obtain ⟨T52, h52, X52, e52, W52, st52⟩ := stI X49 hx hZ e49 Ar51 (j := (16 : Int32)) hin51 (g := (mkF m 111 #[.val (.int va), .val (.int vp), .val (.int vo), .unset, .unset] [(.int (8205 : Int32)), (.int (16 : Int32)), (.ref b1), (.ref b1)])) rfl rfl (hb hby at_111)
  have N52 := Fr.snoc X52 N49 g_b1
  have V52 : Arv Z h52 b1 k1 .int (36 : Int32) [(.int (65 : Int32)), (.int (90 : Int32)), (.int (95 : Int32)), (.int (97 : Int32)), (.int (122 : Int32)), (.int (192 : Int32)), (.int (214 : Int32)), (.int (216 : Int32)), (.int (246 : Int32)), (.int (248 : Int32)), (.int (767 : Int32)), (.int (880 : Int32)), (.int (893 : Int32)), (.int (895 : Int32)), (.int (8191 : Int32)), (.int (8204 : Int32)), (.int (8205 : Int32)), (.int (0 : Int32)), (.int (0 : Int32)), (.int (0 : Int32)), (.int (0 : Int32)), (.int (0 : Int32)), (.int (0 : Int32)), (.int (0 : Int32)), (.int (0 : Int32)), (.int (0 : Int32)), (.int (0 : Int32)), (.int (0 : Int32)), (.int (0 : Int32)), (.int (0 : Int32)), (.int (0 : Int32)), (.int (0 : Int32)), (.int (0 : Int32)), (.int (0 : Int32)), (.int (0 : Int32)), (.int (0 : Int32))] (.int (0 : Int32)) := Arv.set Ar51 q51 S51 M51 H51 G51 rfl W52 16 rfl (Nat.le_of_ble_eq_true rfl)
  have Zp53 : n0 ≤ h52.size := Nat.le_trans Zp50 (Nat.le_of_eq (Wr.size W52).symm)
  obtain ⟨cl54, Ar54, q54, S54, M54, H54, G54⟩ := id V52
  have hin54 : ¬ ((17 : Int32) < 0 ∨ cl54.slots.size ≤ ((17 : Int32)).toNatClampNeg) := inb_of S54 ⟨by decide, by decide⟩
  obtain ⟨T55, h55, X55, e55, W55, st55⟩ := stI X52 hx hZ e52 Ar54 (j := (17 : Int32)) hin54 (g := (mkF m 118 #[.val (.int va), .val (.int vp), .val (.int vo), .unset, .unset] [(.int (8304 : Int32)), (.int (17 : Int32)), (.ref b1), (.ref b1)])) rfl rfl (hb hby at_118)
  have N55 := Fr.snoc X55 N52 g_b1
  have V55 : Arv Z h55 b1 k1 .int (36 : Int32) [(.int (65 : Int32)), (.int (90 : Int32)), (.int (95 : Int32)), (.int (97 : Int32)), (.int (122 : Int32)), (.int (192 : Int32)), (.int (214 : Int32)), (.int (216 : Int32)), (.int (246 : Int32)), (.int (248 : Int32)), (.int (767 : Int32)), (.int (880 : Int32)), (.int (893 : Int32)), (.int (895 : Int32)), (.int (8191 : Int32)), (.int (8204 : Int32)), (.int (8205 : Int32)), (.int (8304 : Int32)), (.int (0 : Int32)), (.int (0 : Int32)), (.int (0 : Int32)), (.int (0 : Int32)), (.int (0 : Int32)), (.int (0 : Int32)), (.int (0 : Int32)), (.int (0 : Int32)), (.int (0 : Int32)), (.int (0 : Int32)), (.int (0 : Int32)), (.int (0 : Int32)), (.int (0 : Int32)), (.int (0 : Int32)), (.int (0 : Int32)), (.int (0 : Int32)), (.int (0 : Int32)), (.int (0 : Int32))] (.int (0 : Int32)) := Arv.set Ar54 q54 S54 M54 H54 G54 rfl W55 17 rfl (Nat.le_of_ble_eq_true rfl)
  have Zp56 : n0 ≤ h55.size := Nat.le_trans Zp53 (Nat.le_of_eq (Wr.size W55).symm)
  obtain ⟨cl57, Ar57, q57, S57, M57, H57, G57⟩ := id V55
  have hin57 : ¬ ((18 : Int32) < 0 ∨ cl57.slots.size ≤ ((18 : Int32)).toNatClampNeg) := inb_of S57 ⟨by decide, by decide⟩
  obtain ⟨T58, h58, X58, e58, W58, st58⟩ := stI X55 hx hZ e55 Ar57 (j := (18 : Int32)) hin57 (g := (mkF m 125 #[.val (.int va), .val (.int vp), .val (.int vo), .unset, .unset] [(.int (8591 : Int32)), (.int (18 : Int32)), (.ref b1), (.ref b1)])) rfl rfl (hb hby at_125)
  have N58 := Fr.snoc X58 N55 g_b1
  have V58 : Arv Z h58 b1 k1 .int (36 : Int32) [(.int (65 : Int32)), (.int (90 : Int32)), (.int (95 : Int32)), (.int (97 : Int32)), (.int (122 : Int32)), (.int (192 : Int32)), (.int (214 : Int32)), (.int (216 : Int32)), (.int (246 : Int32)), (.int (248 : Int32)), (.int (767 : Int32)), (.int (880 : Int32)), (.int (893 : Int32)), (.int (895 : Int32)), (.int (8191 : Int32)), (.int (8204 : Int32)), (.int (8205 : Int32)), (.int (8304 : Int32)), (.int (8591 : Int32)), (.int (0 : Int32)), (.int (0 : Int32)), (.int (0 : Int32)), (.int (0 : Int32)), (.int (0 : Int32)), (.int (0 : Int32)), (.int (0 : Int32)), (.int (0 : Int32)), (.int (0 : Int32)), (.int (0 : Int32)), (.int (0 : Int32)), (.int (0 : Int32)), (.int (0 : Int32)), (.int (0 : Int32)), (.int (0 : Int32)), (.int (0 : Int32)), (.int (0 : Int32))] (.int (0 : Int32)) := Arv.set Ar57 q57 S57 M57 H57 G57 rfl W58 18 rfl (Nat.le_of_ble_eq_true rfl)
  have Zp59 : n0 ≤ h58.size := Nat.le_trans Zp56 (Nat.le_of_eq (Wr.size W58).symm)
  obtain ⟨cl60, Ar60, q60, S60, M60, H60, G60⟩ := id V58
  have hin60 : ¬ ((19 : Int32) < 0 ∨ cl60.slots.size ≤ ((19 : Int32)).toNatClampNeg) := inb_of S60 ⟨by decide, by decide⟩
  obtain ⟨T61, h61, X61, e61, W61, st61⟩ := stI X58 hx hZ e58 Ar60 (j := (19 : Int32)) hin60 (g := (mkF m 132 #[.val (.int va), .val (.int vp), .val (.int vo), .unset, .unset] [(.int (11264 : Int32)), (.int (19 : Int32)), (.ref b1), (.ref b1)])) rfl rfl (hb hby at_132)
  have N61 := Fr.snoc X61 N58 g_b1
  have V61 : Arv Z h61 b1 k1 .int (36 : Int32) [(.int (65 : Int32)), (.int (90 : Int32)), (.int (95 : Int32)), (.int (97 : Int32)), (.int (122 : Int32)), (.int (192 : Int32)), (.int (214 : Int32)), (.int (216 : Int32)), (.int (246 : Int32)), (.int (248 : Int32)), (.int (767 : Int32)), (.int (880 : Int32)), (.int (893 : Int32)), (.int (895 : Int32)), (.int (8191 : Int32)), (.int (8204 : Int32)), (.int (8205 : Int32)), (.int (8304 : Int32)), (.int (8591 : Int32)), (.int (11264 : Int32)), (.int (0 : Int32)), (.int (0 : Int32)), (.int (0 : Int32)), (.int (0 : Int32)), (.int (0 : Int32)), (.int (0 : Int32)), (.int (0 : Int32)), (.int (0 : Int32)), (.int (0 : Int32)), (.int (0 : Int32)), (.int (0 : Int32)), (.int (0 : Int32)), (.int (0 : Int32)), (.int (0 : Int32)), (.int (0 : Int32)), (.int (0 : Int32))] (.int (0 : Int32)) := Arv.set Ar60 q60 S60 M60 H60 G60 rfl W61 19 rfl (Nat.le_of_ble_eq_true rfl)
  have Zp62 : n0 ≤ h61.size := Nat.le_trans Zp59 (Nat.le_of_eq (Wr.size W61).symm)
  obtain ⟨cl63, Ar63, q63, S63, M63, H63, G63⟩ := id V61
  have hin63 : ¬ ((20 : Int32) < 0 ∨ cl63.slots.size ≤ ((20 : Int32)).toNatClampNeg) := inb_of S63 ⟨by decide, by decide⟩
  obtain ⟨T64, h64, X64, e64, W64, st64⟩ := stI X61 hx hZ e61 Ar63 (j := (20 : Int32)) hin63 (g := (mkF m 139 #[.val (.int va), .val (.int vp), .val (.int vo), .unset, .unset] [(.int (12271 : Int32)), (.int (20 : Int32)), (.ref b1), (.ref b1)])) rfl rfl (hb hby at_139)
  have N64 := Fr.snoc X64 N61 g_b1
  have V64 : Arv Z h64 b1 k1 .int (36 : Int32) [(.int (65 : Int32)), (.int (90 : Int32)), (.int (95 : Int32)), (.int (97 : Int32)), (.int (122 : Int32)), (.int (192 : Int32)), (.int (214 : Int32)), (.int (216 : Int32)), (.int (246 : Int32)), (.int (248 : Int32)), (.int (767 : Int32)), (.int (880 : Int32)), (.int (893 : Int32)), (.int (895 : Int32)), (.int (8191 : Int32)), (.int (8204 : Int32)), (.int (8205 : Int32)), (.int (8304 : Int32)), (.int (8591 : Int32)), (.int (11264 : Int32)), (.int (12271 : Int32)), (.int (0 : Int32)), (.int (0 : Int32)), (.int (0 : Int32)), (.int (0 : Int32)), (.int (0 : Int32)), (.int (0 : Int32)), (.int (0 : Int32)), (.int (0 : Int32)), (.int (0 : Int32)), (.int (0 : Int32)), (.int (0 : Int32)), (.int (0 : Int32)), (.int (0 : Int32)), (.int (0 : Int32)), (.int (0 : Int32))] (.int (0 : Int32)) := Arv.set Ar63 q63 S63 M63 H63 G63 rfl W64 20 rfl (Nat.le_of_ble_eq_true rfl)
  have Zp65 : n0 ≤ h64.size := Nat.le_trans Zp62 (Nat.le_of_eq (Wr.size W64).symm)
  obtain ⟨cl66, Ar66, q66, S66, M66, H66, G66⟩ := id V64
  have hin66 : ¬ ((21 : Int32) < 0 ∨ cl66.slots.size ≤ ((21 : Int32)).toNatClampNeg) := inb_of S66 ⟨by decide, by decide⟩
  obtain ⟨T67, h67, X67, e67, W67, st67⟩ := stI X64 hx hZ e64 Ar66 (j := (21 : Int32)) hin66 (g := (mkF m 146 #[.val (.int va), .val (.int vp), .val (.int vo), .unset, .unset] [(.int (12289 : Int32)), (.int (21 : Int32)), (.ref b1), (.ref b1)])) rfl rfl (hb hby at_146)
  have N67 := Fr.snoc X67 N64 g_b1
  have V67 : Arv Z h67 b1 k1 .int (36 : Int32) [(.int (65 : Int32)), (.int (90 : Int32)), (.int (95 : Int32)), (.int (97 : Int32)), (.int (122 : Int32)), (.int (192 : Int32)), (.int (214 : Int32)), (.int (216 : Int32)), (.int (246 : Int32)), (.int (248 : Int32)), (.int (767 : Int32)), (.int (880 : Int32)), (.int (893 : Int32)), (.int (895 : Int32)), (.int (8191 : Int32)), (.int (8204 : Int32)), (.int (8205 : Int32)), (.int (8304 : Int32)), (.int (8591 : Int32)), (.int (11264 : Int32)), (.int (12271 : Int32)), (.int (12289 : Int32)), (.int (0 : Int32)), (.int (0 : Int32)), (.int (0 : Int32)), (.int (0 : Int32)), (.int (0 : Int32)), (.int (0 : Int32)), (.int (0 : Int32)), (.int (0 : Int32)), (.int (0 : Int32)), (.int (0 : Int32)), (.int (0 : Int32)), (.int (0 : Int32)), (.int (0 : Int32)), (.int (0 : Int32))] (.int (0 : Int32)) := Arv.set Ar66 q66 S66 M66 H66 G66 rfl W67 21 rfl (Nat.le_of_ble_eq_true rfl)
  have Zp68 : n0 ≤ h67.size := Nat.le_trans Zp65 (Nat.le_of_eq (Wr.size W67).symm)
  obtain ⟨cl69, Ar69, q69, S69, M69, H69, G69⟩ := id V67
  have hin69 : ¬ ((22 : Int32) < 0 ∨ cl69.slots.size ≤ ((22 : Int32)).toNatClampNeg) := inb_of S69 ⟨by decide, by decide⟩
  obtain ⟨T70, h70, X70, e70, W70, st70⟩ := stI X67 hx hZ e67 Ar69 (j := (22 : Int32)) hin69 (g := (mkF m 152 #[.val (.int va), .val (.int vp), .val (.int vo), .unset, .unset] [(.int (55295 : Int32)), (.int (22 : Int32)), (.ref b1), (.ref b1)])) rfl rfl (hb hby at_152)
  have N70 := Fr.snoc X70 N67 g_b1
  have V70 : Arv Z h70 b1 k1 .int (36 : Int32) [(.int (65 : Int32)), (.int (90 : Int32)), (.int (95 : Int32)), (.int (97 : Int32)), (.int (122 : Int32)), (.int (192 : Int32)), (.int (214 : Int32)), (.int (216 : Int32)), (.int (246 : Int32)), (.int (248 : Int32)), (.int (767 : Int32)), (.int (880 : Int32)), (.int (893 : Int32)), (.int (895 : Int32)), (.int (8191 : Int32)), (.int (8204 : Int32)), (.int (8205 : Int32)), (.int (8304 : Int32)), (.int (8591 : Int32)), (.int (11264 : Int32)), (.int (12271 : Int32)), (.int (12289 : Int32)), (.int (55295 : Int32)), (.int (0 : Int32)), (.int (0 : Int32)), (.int (0 : Int32)), (.int (0 : Int32)), (.int (0 : Int32)), (.int (0 : Int32)), (.int (0 : Int32)), (.int (0 : Int32)), (.int (0 : Int32)), (.int (0 : Int32)), (.int (0 : Int32)), (.int (0 : Int32)), (.int (0 : Int32))] (.int (0 : Int32)) := Arv.set Ar69 q69 S69 M69 H69 G69 rfl W70 22 rfl (Nat.le_of_ble_eq_true rfl)
  have Zp71 : n0 ≤ h70.size := Nat.le_trans Zp68 (Nat.le_of_eq (Wr.size W70).symm)
  obtain ⟨cl72, Ar72, q72, S72, M72, H72, G72⟩ := id V70
  have hin72 : ¬ ((23 : Int32) < 0 ∨ cl72.slots.size ≤ ((23 : Int32)).toNatClampNeg) := inb_of S72 ⟨by decide, by decide⟩
  obtain ⟨T73, h73, X73, e73, W73, st73⟩ := stI X70 hx hZ e70 Ar72 (j := (23 : Int32)) hin72 (g := (mkF m 158 #[.val (.int va), .val (.int vp), .val (.int vo), .unset, .unset] [(.int (63744 : Int32)), (.int (23 : Int32)), (.ref b1), (.ref b1)])) rfl rfl (hb hby at_158)
  have N73 := Fr.snoc X73 N70 g_b1
  have V73 : Arv Z h73 b1 k1 .int (36 : Int32) [(.int (65 : Int32)), (.int (90 : Int32)), (.int (95 : Int32)), (.int (97 : Int32)), (.int (122 : Int32)), (.int (192 : Int32)), (.int (214 : Int32)), (.int (216 : Int32)), (.int (246 : Int32)), (.int (248 : Int32)), (.int (767 : Int32)), (.int (880 : Int32)), (.int (893 : Int32)), (.int (895 : Int32)), (.int (8191 : Int32)), (.int (8204 : Int32)), (.int (8205 : Int32)), (.int (8304 : Int32)), (.int (8591 : Int32)), (.int (11264 : Int32)), (.int (12271 : Int32)), (.int (12289 : Int32)), (.int (55295 : Int32)), (.int (63744 : Int32)), (.int (0 : Int32)), (.int (0 : Int32)), (.int (0 : Int32)), (.int (0 : Int32)), (.int (0 : Int32)), (.int (0 : Int32)), (.int (0 : Int32)), (.int (0 : Int32)), (.int (0 : Int32)), (.int (0 : Int32)), (.int (0 : Int32)), (.int (0 : Int32))] (.int (0 : Int32)) := Arv.set Ar72 q72 S72 M72 H72 G72 rfl W73 23 rfl (Nat.le_of_ble_eq_true rfl)
  have Zp74 : n0 ≤ h73.size := Nat.le_trans Zp71 (Nat.le_of_eq (Wr.size W73).symm)
  obtain ⟨cl75, Ar75, q75, S75, M75, H75, G75⟩ := id V73
  have hin75 : ¬ ((24 : Int32) < 0 ∨ cl75.slots.size ≤ ((24 : Int32)).toNatClampNeg) := inb_of S75 ⟨by decide, by decide⟩
  obtain ⟨T76, h76, X76, e76, W76, st76⟩ := stI X73 hx hZ e73 Ar75 (j := (24 : Int32)) hin75 (g := (mkF m 164 #[.val (.int va), .val (.int vp), .val (.int vo), .unset, .unset] [(.int (64975 : Int32)), (.int (24 : Int32)), (.ref b1), (.ref b1)])) rfl rfl (hb hby at_164)
  have N76 := Fr.snoc X76 N73 g_b1
  have V76 : Arv Z h76 b1 k1 .int (36 : Int32) [(.int (65 : Int32)), (.int (90 : Int32)), (.int (95 : Int32)), (.int (97 : Int32)), (.int (122 : Int32)), (.int (192 : Int32)), (.int (214 : Int32)), (.int (216 : Int32)), (.int (246 : Int32)), (.int (248 : Int32)), (.int (767 : Int32)), (.int (880 : Int32)), (.int (893 : Int32)), (.int (895 : Int32)), (.int (8191 : Int32)), (.int (8204 : Int32)), (.int (8205 : Int32)), (.int (8304 : Int32)), (.int (8591 : Int32)), (.int (11264 : Int32)), (.int (12271 : Int32)), (.int (12289 : Int32)), (.int (55295 : Int32)), (.int (63744 : Int32)), (.int (64975 : Int32)), (.int (0 : Int32)), (.int (0 : Int32)), (.int (0 : Int32)), (.int (0 : Int32)), (.int (0 : Int32)), (.int (0 : Int32)), (.int (0 : Int32)), (.int (0 : Int32)), (.int (0 : Int32)), (.int (0 : Int32)), (.int (0 : Int32))] (.int (0 : Int32)) := Arv.set Ar75 q75 S75 M75 H75 G75 rfl W76 24 rfl (Nat.le_of_ble_eq_true rfl)
  have Zp77 : n0 ≤ h76.size := Nat.le_trans Zp74 (Nat.le_of_eq (Wr.size W76).symm)
  obtain ⟨cl78, Ar78, q78, S78, M78, H78, G78⟩ := id V76
  have hin78 : ¬ ((25 : Int32) < 0 ∨ cl78.slots.size ≤ ((25 : Int32)).toNatClampNeg) := inb_of S78 ⟨by decide, by decide⟩
  obtain ⟨T79, h79, X79, e79, W79, st79⟩ := stI X76 hx hZ e76 Ar78 (j := (25 : Int32)) hin78 (g := (mkF m 170 #[.val (.int va), .val (.int vp), .val (.int vo), .unset, .unset] [(.int (65008 : Int32)), (.int (25 : Int32)), (.ref b1), (.ref b1)])) rfl rfl (hb hby at_170)
  have N79 := Fr.snoc X79 N76 g_b1
  have V79 : Arv Z h79 b1 k1 .int (36 : Int32) [(.int (65 : Int32)), (.int (90 : Int32)), (.int (95 : Int32)), (.int (97 : Int32)), (.int (122 : Int32)), (.int (192 : Int32)), (.int (214 : Int32)), (.int (216 : Int32)), (.int (246 : Int32)), (.int (248 : Int32)), (.int (767 : Int32)), (.int (880 : Int32)), (.int (893 : Int32)), (.int (895 : Int32)), (.int (8191 : Int32)), (.int (8204 : Int32)), (.int (8205 : Int32)), (.int (8304 : Int32)), (.int (8591 : Int32)), (.int (11264 : Int32)), (.int (12271 : Int32)), (.int (12289 : Int32)), (.int (55295 : Int32)), (.int (63744 : Int32)), (.int (64975 : Int32)), (.int (65008 : Int32)), (.int (0 : Int32)), (.int (0 : Int32)), (.int (0 : Int32)), (.int (0 : Int32)), (.int (0 : Int32)), (.int (0 : Int32)), (.int (0 : Int32)), (.int (0 : Int32)), (.int (0 : Int32)), (.int (0 : Int32))] (.int (0 : Int32)) := Arv.set Ar78 q78 S78 M78 H78 G78 rfl W79 25 rfl (Nat.le_of_ble_eq_true rfl)
  have Zp80 : n0 ≤ h79.size := Nat.le_trans Zp77 (Nat.le_of_eq (Wr.size W79).symm)
  obtain ⟨cl81, Ar81, q81, S81, M81, H81, G81⟩ := id V79
  have hin81 : ¬ ((26 : Int32) < 0 ∨ cl81.slots.size ≤ ((26 : Int32)).toNatClampNeg) := inb_of S81 ⟨by decide, by decide⟩
  obtain ⟨T82, h82, X82, e82, W82, st82⟩ := stI X79 hx hZ e79 Ar81 (j := (26 : Int32)) hin81 (g := (mkF m 176 #[.val (.int va), .val (.int vp), .val (.int vo), .unset, .unset] [(.int (65533 : Int32)), (.int (26 : Int32)), (.ref b1), (.ref b1)])) rfl rfl (hb hby at_176)
  have N82 := Fr.snoc X82 N79 g_b1
  have V82 : Arv Z h82 b1 k1 .int (36 : Int32) [(.int (65 : Int32)), (.int (90 : Int32)), (.int (95 : Int32)), (.int (97 : Int32)), (.int (122 : Int32)), (.int (192 : Int32)), (.int (214 : Int32)), (.int (216 : Int32)), (.int (246 : Int32)), (.int (248 : Int32)), (.int (767 : Int32)), (.int (880 : Int32)), (.int (893 : Int32)), (.int (895 : Int32)), (.int (8191 : Int32)), (.int (8204 : Int32)), (.int (8205 : Int32)), (.int (8304 : Int32)), (.int (8591 : Int32)), (.int (11264 : Int32)), (.int (12271 : Int32)), (.int (12289 : Int32)), (.int (55295 : Int32)), (.int (63744 : Int32)), (.int (64975 : Int32)), (.int (65008 : Int32)), (.int (65533 : Int32)), (.int (0 : Int32)), (.int (0 : Int32)), (.int (0 : Int32)), (.int (0 : Int32)), (.int (0 : Int32)), (.int (0 : Int32)), (.int (0 : Int32)), (.int (0 : Int32)), (.int (0 : Int32))] (.int (0 : Int32)) := Arv.set Ar81 q81 S81 M81 H81 G81 rfl W82 26 rfl (Nat.le_of_ble_eq_true rfl)
  have Zp83 : n0 ≤ h82.size := Nat.le_trans Zp80 (Nat.le_of_eq (Wr.size W82).symm)
  obtain ⟨cl84, Ar84, q84, S84, M84, H84, G84⟩ := id V82
  have hin84 : ¬ ((27 : Int32) < 0 ∨ cl84.slots.size ≤ ((27 : Int32)).toNatClampNeg) := inb_of S84 ⟨by decide, by decide⟩
  obtain ⟨T85, h85, X85, e85, W85, st85⟩ := stI X82 hx hZ e82 Ar84 (j := (27 : Int32)) hin84 (g := (mkF m 182 #[.val (.int va), .val (.int vp), .val (.int vo), .unset, .unset] [(.int (65536 : Int32)), (.int (27 : Int32)), (.ref b1), (.ref b1)])) rfl rfl (hb hby at_182)
  have N85 := Fr.snoc X85 N82 g_b1
  have V85 : Arv Z h85 b1 k1 .int (36 : Int32) [(.int (65 : Int32)), (.int (90 : Int32)), (.int (95 : Int32)), (.int (97 : Int32)), (.int (122 : Int32)), (.int (192 : Int32)), (.int (214 : Int32)), (.int (216 : Int32)), (.int (246 : Int32)), (.int (248 : Int32)), (.int (767 : Int32)), (.int (880 : Int32)), (.int (893 : Int32)), (.int (895 : Int32)), (.int (8191 : Int32)), (.int (8204 : Int32)), (.int (8205 : Int32)), (.int (8304 : Int32)), (.int (8591 : Int32)), (.int (11264 : Int32)), (.int (12271 : Int32)), (.int (12289 : Int32)), (.int (55295 : Int32)), (.int (63744 : Int32)), (.int (64975 : Int32)), (.int (65008 : Int32)), (.int (65533 : Int32)), (.int (65536 : Int32)), (.int (0 : Int32)), (.int (0 : Int32)), (.int (0 : Int32)), (.int (0 : Int32)), (.int (0 : Int32)), (.int (0 : Int32)), (.int (0 : Int32)), (.int (0 : Int32))] (.int (0 : Int32)) := Arv.set Ar84 q84 S84 M84 H84 G84 rfl W85 27 rfl (Nat.le_of_ble_eq_true rfl)
  have Zp86 : n0 ≤ h85.size := Nat.le_trans Zp83 (Nat.le_of_eq (Wr.size W85).symm)
  obtain ⟨cl87, Ar87, q87, S87, M87, H87, G87⟩ := id V85
  have hin87 : ¬ ((28 : Int32) < 0 ∨ cl87.slots.size ≤ ((28 : Int32)).toNatClampNeg) := inb_of S87 ⟨by decide, by decide⟩
  obtain ⟨T88, h88, X88, e88, W88, st88⟩ := stI X85 hx hZ e85 Ar87 (j := (28 : Int32)) hin87 (g := (mkF m 188 #[.val (.int va), .val (.int vp), .val (.int vo), .unset, .unset] [(.int (983039 : Int32)), (.int (28 : Int32)), (.ref b1), (.ref b1)])) rfl rfl (hb hby at_188)
  have N88 := Fr.snoc X88 N85 g_b1
  have V88 : Arv Z h88 b1 k1 .int (36 : Int32) [(.int (65 : Int32)), (.int (90 : Int32)), (.int (95 : Int32)), (.int (97 : Int32)), (.int (122 : Int32)), (.int (192 : Int32)), (.int (214 : Int32)), (.int (216 : Int32)), (.int (246 : Int32)), (.int (248 : Int32)), (.int (767 : Int32)), (.int (880 : Int32)), (.int (893 : Int32)), (.int (895 : Int32)), (.int (8191 : Int32)), (.int (8204 : Int32)), (.int (8205 : Int32)), (.int (8304 : Int32)), (.int (8591 : Int32)), (.int (11264 : Int32)), (.int (12271 : Int32)), (.int (12289 : Int32)), (.int (55295 : Int32)), (.int (63744 : Int32)), (.int (64975 : Int32)), (.int (65008 : Int32)), (.int (65533 : Int32)), (.int (65536 : Int32)), (.int (983039 : Int32)), (.int (0 : Int32)), (.int (0 : Int32)), (.int (0 : Int32)), (.int (0 : Int32)), (.int (0 : Int32)), (.int (0 : Int32)), (.int (0 : Int32))] (.int (0 : Int32)) := Arv.set Ar87 q87 S87 M87 H87 G87 rfl W88 28 rfl (Nat.le_of_ble_eq_true rfl)
  have Zp89 : n0 ≤ h88.size := Nat.le_trans Zp86 (Nat.le_of_eq (Wr.size W88).symm)
  obtain ⟨cl90, Ar90, q90, S90, M90, H90, G90⟩ := id V88
  have hin90 : ¬ ((29 : Int32) < 0 ∨ cl90.slots.size ≤ ((29 : Int32)).toNatClampNeg) := inb_of S90 ⟨by decide, by decide⟩
  obtain ⟨T91, h91, X91, e91, W91, st91⟩ := stI X88 hx hZ e88 Ar90 (j := (29 : Int32)) hin90 (g := (mkF m 194 #[.val (.int va), .val (.int vp), .val (.int vo), .unset, .unset] [(.int (58 : Int32)), (.int (29 : Int32)), (.ref b1), (.ref b1)])) rfl rfl (hb hby at_194)
  have N91 := Fr.snoc X91 N88 g_b1
  have V91 : Arv Z h91 b1 k1 .int (36 : Int32) [(.int (65 : Int32)), (.int (90 : Int32)), (.int (95 : Int32)), (.int (97 : Int32)), (.int (122 : Int32)), (.int (192 : Int32)), (.int (214 : Int32)), (.int (216 : Int32)), (.int (246 : Int32)), (.int (248 : Int32)), (.int (767 : Int32)), (.int (880 : Int32)), (.int (893 : Int32)), (.int (895 : Int32)), (.int (8191 : Int32)), (.int (8204 : Int32)), (.int (8205 : Int32)), (.int (8304 : Int32)), (.int (8591 : Int32)), (.int (11264 : Int32)), (.int (12271 : Int32)), (.int (12289 : Int32)), (.int (55295 : Int32)), (.int (63744 : Int32)), (.int (64975 : Int32)), (.int (65008 : Int32)), (.int (65533 : Int32)), (.int (65536 : Int32)), (.int (983039 : Int32)), (.int (58 : Int32)), (.int (0 : Int32)), (.int (0 : Int32)), (.int (0 : Int32)), (.int (0 : Int32)), (.int (0 : Int32)), (.int (0 : Int32))] (.int (0 : Int32)) := Arv.set Ar90 q90 S90 M90 H90 G90 rfl W91 29 rfl (Nat.le_of_ble_eq_true rfl)
  have Zp92 : n0 ≤ h91.size := Nat.le_trans Zp89 (Nat.le_of_eq (Wr.size W91).symm)
  obtain ⟨cl93, Ar93, q93, S93, M93, H93, G93⟩ := id V91
  have hin93 : ¬ ((30 : Int32) < 0 ∨ cl93.slots.size ≤ ((30 : Int32)).toNatClampNeg) := inb_of S93 ⟨by decide, by decide⟩
  obtain ⟨T94, h94, X94, e94, W94, st94⟩ := stI X91 hx hZ e91 Ar93 (j := (30 : Int32)) hin93 (g := (mkF m 199 #[.val (.int va), .val (.int vp), .val (.int vo), .unset, .unset] [(.int (0 : Int32)), (.int (30 : Int32)), (.ref b1), (.ref b1)])) rfl rfl (hb hby at_199)
  have N94 := Fr.snoc X94 N91 g_b1
  have V94 : Arv Z h94 b1 k1 .int (36 : Int32) [(.int (65 : Int32)), (.int (90 : Int32)), (.int (95 : Int32)), (.int (97 : Int32)), (.int (122 : Int32)), (.int (192 : Int32)), (.int (214 : Int32)), (.int (216 : Int32)), (.int (246 : Int32)), (.int (248 : Int32)), (.int (767 : Int32)), (.int (880 : Int32)), (.int (893 : Int32)), (.int (895 : Int32)), (.int (8191 : Int32)), (.int (8204 : Int32)), (.int (8205 : Int32)), (.int (8304 : Int32)), (.int (8591 : Int32)), (.int (11264 : Int32)), (.int (12271 : Int32)), (.int (12289 : Int32)), (.int (55295 : Int32)), (.int (63744 : Int32)), (.int (64975 : Int32)), (.int (65008 : Int32)), (.int (65533 : Int32)), (.int (65536 : Int32)), (.int (983039 : Int32)), (.int (58 : Int32)), (.int (0 : Int32)), (.int (0 : Int32)), (.int (0 : Int32)), (.int (0 : Int32)), (.int (0 : Int32)), (.int (0 : Int32))] (.int (0 : Int32)) := Arv.set Ar93 q93 S93 M93 H93 G93 rfl W94 30 rfl (Nat.le_of_ble_eq_true rfl)
  have Zp95 : n0 ≤ h94.size := Nat.le_trans Zp92 (Nat.le_of_eq (Wr.size W94).symm)
  obtain ⟨cl96, Ar96, q96, S96, M96, H96, G96⟩ := id V94
  have hin96 : ¬ ((31 : Int32) < 0 ∨ cl96.slots.size ≤ ((31 : Int32)).toNatClampNeg) := inb_of S96 ⟨by decide, by decide⟩
  obtain ⟨T97, h97, X97, e97, W97, st97⟩ := stI X94 hx hZ e94 Ar96 (j := (31 : Int32)) hin96 (g := (mkF m 206 #[.val (.int va), .val (.int vp), .val (.int vo), .unset, .unset] [(.int (183 : Int32)), (.int (31 : Int32)), (.ref b1), (.ref b1)])) rfl rfl (hb hby at_206)
  have N97 := Fr.snoc X97 N94 g_b1
  have V97 : Arv Z h97 b1 k1 .int (36 : Int32) [(.int (65 : Int32)), (.int (90 : Int32)), (.int (95 : Int32)), (.int (97 : Int32)), (.int (122 : Int32)), (.int (192 : Int32)), (.int (214 : Int32)), (.int (216 : Int32)), (.int (246 : Int32)), (.int (248 : Int32)), (.int (767 : Int32)), (.int (880 : Int32)), (.int (893 : Int32)), (.int (895 : Int32)), (.int (8191 : Int32)), (.int (8204 : Int32)), (.int (8205 : Int32)), (.int (8304 : Int32)), (.int (8591 : Int32)), (.int (11264 : Int32)), (.int (12271 : Int32)), (.int (12289 : Int32)), (.int (55295 : Int32)), (.int (63744 : Int32)), (.int (64975 : Int32)), (.int (65008 : Int32)), (.int (65533 : Int32)), (.int (65536 : Int32)), (.int (983039 : Int32)), (.int (58 : Int32)), (.int (0 : Int32)), (.int (183 : Int32)), (.int (0 : Int32)), (.int (0 : Int32)), (.int (0 : Int32)), (.int (0 : Int32))] (.int (0 : Int32)) := Arv.set Ar96 q96 S96 M96 H96 G96 rfl W97 31 rfl (Nat.le_of_ble_eq_true rfl)
  have Zp98 : n0 ≤ h97.size := Nat.le_trans Zp95 (Nat.le_of_eq (Wr.size W97).symm)
  obtain ⟨cl99, Ar99, q99, S99, M99, H99, G99⟩ := id V97
  have hin99 : ¬ ((32 : Int32) < 0 ∨ cl99.slots.size ≤ ((32 : Int32)).toNatClampNeg) := inb_of S99 ⟨by decide, by decide⟩
  obtain ⟨T100, h100, X100, e100, W100, st100⟩ := stI X97 hx hZ e97 Ar99 (j := (32 : Int32)) hin99 (g := (mkF m 213 #[.val (.int va), .val (.int vp), .val (.int vo), .unset, .unset] [(.int (768 : Int32)), (.int (32 : Int32)), (.ref b1), (.ref b1)])) rfl rfl (hb hby at_213)
  have N100 := Fr.snoc X100 N97 g_b1
  have V100 : Arv Z h100 b1 k1 .int (36 : Int32) [(.int (65 : Int32)), (.int (90 : Int32)), (.int (95 : Int32)), (.int (97 : Int32)), (.int (122 : Int32)), (.int (192 : Int32)), (.int (214 : Int32)), (.int (216 : Int32)), (.int (246 : Int32)), (.int (248 : Int32)), (.int (767 : Int32)), (.int (880 : Int32)), (.int (893 : Int32)), (.int (895 : Int32)), (.int (8191 : Int32)), (.int (8204 : Int32)), (.int (8205 : Int32)), (.int (8304 : Int32)), (.int (8591 : Int32)), (.int (11264 : Int32)), (.int (12271 : Int32)), (.int (12289 : Int32)), (.int (55295 : Int32)), (.int (63744 : Int32)), (.int (64975 : Int32)), (.int (65008 : Int32)), (.int (65533 : Int32)), (.int (65536 : Int32)), (.int (983039 : Int32)), (.int (58 : Int32)), (.int (0 : Int32)), (.int (183 : Int32)), (.int (768 : Int32)), (.int (0 : Int32)), (.int (0 : Int32)), (.int (0 : Int32))] (.int (0 : Int32)) := Arv.set Ar99 q99 S99 M99 H99 G99 rfl W100 32 rfl (Nat.le_of_ble_eq_true rfl)
  have Zp101 : n0 ≤ h100.size := Nat.le_trans Zp98 (Nat.le_of_eq (Wr.size W100).symm)
  obtain ⟨cl102, Ar102, q102, S102, M102, H102, G102⟩ := id V100
  have hin102 : ¬ ((33 : Int32) < 0 ∨ cl102.slots.size ≤ ((33 : Int32)).toNatClampNeg) := inb_of S102 ⟨by decide, by decide⟩
  obtain ⟨T103, h103, X103, e103, W103, st103⟩ := stI X100 hx hZ e100 Ar102 (j := (33 : Int32)) hin102 (g := (mkF m 220 #[.val (.int va), .val (.int vp), .val (.int vo), .unset, .unset] [(.int (8256 : Int32)), (.int (33 : Int32)), (.ref b1), (.ref b1)])) rfl rfl (hb hby at_220)
  have N103 := Fr.snoc X103 N100 g_b1
  have V103 : Arv Z h103 b1 k1 .int (36 : Int32) [(.int (65 : Int32)), (.int (90 : Int32)), (.int (95 : Int32)), (.int (97 : Int32)), (.int (122 : Int32)), (.int (192 : Int32)), (.int (214 : Int32)), (.int (216 : Int32)), (.int (246 : Int32)), (.int (248 : Int32)), (.int (767 : Int32)), (.int (880 : Int32)), (.int (893 : Int32)), (.int (895 : Int32)), (.int (8191 : Int32)), (.int (8204 : Int32)), (.int (8205 : Int32)), (.int (8304 : Int32)), (.int (8591 : Int32)), (.int (11264 : Int32)), (.int (12271 : Int32)), (.int (12289 : Int32)), (.int (55295 : Int32)), (.int (63744 : Int32)), (.int (64975 : Int32)), (.int (65008 : Int32)), (.int (65533 : Int32)), (.int (65536 : Int32)), (.int (983039 : Int32)), (.int (58 : Int32)), (.int (0 : Int32)), (.int (183 : Int32)), (.int (768 : Int32)), (.int (8256 : Int32)), (.int (0 : Int32)), (.int (0 : Int32))] (.int (0 : Int32)) := Arv.set Ar102 q102 S102 M102 H102 G102 rfl W103 33 rfl (Nat.le_of_ble_eq_true rfl)
  have Zp104 : n0 ≤ h103.size := Nat.le_trans Zp101 (Nat.le_of_eq (Wr.size W103).symm)
  obtain ⟨cl105, Ar105, q105, S105, M105, H105, G105⟩ := id V103
  have hin105 : ¬ ((34 : Int32) < 0 ∨ cl105.slots.size ≤ ((34 : Int32)).toNatClampNeg) := inb_of S105 ⟨by decide, by decide⟩
  obtain ⟨T106, h106, X106, e106, W106, st106⟩ := stI X103 hx hZ e103 Ar105 (j := (34 : Int32)) hin105 (g := (mkF m 226 #[.val (.int va), .val (.int vp), .val (.int vo), .unset, .unset] [(.int (-2147483648 : Int32)), (.int (34 : Int32)), (.ref b1), (.ref b1)])) rfl rfl (hb hby at_226)
  have N106 := Fr.snoc X106 N103 g_b1
  have V106 : Arv Z h106 b1 k1 .int (36 : Int32) [(.int (65 : Int32)), (.int (90 : Int32)), (.int (95 : Int32)), (.int (97 : Int32)), (.int (122 : Int32)), (.int (192 : Int32)), (.int (214 : Int32)), (.int (216 : Int32)), (.int (246 : Int32)), (.int (248 : Int32)), (.int (767 : Int32)), (.int (880 : Int32)), (.int (893 : Int32)), (.int (895 : Int32)), (.int (8191 : Int32)), (.int (8204 : Int32)), (.int (8205 : Int32)), (.int (8304 : Int32)), (.int (8591 : Int32)), (.int (11264 : Int32)), (.int (12271 : Int32)), (.int (12289 : Int32)), (.int (55295 : Int32)), (.int (63744 : Int32)), (.int (64975 : Int32)), (.int (65008 : Int32)), (.int (65533 : Int32)), (.int (65536 : Int32)), (.int (983039 : Int32)), (.int (58 : Int32)), (.int (0 : Int32)), (.int (183 : Int32)), (.int (768 : Int32)), (.int (8256 : Int32)), (.int (-2147483648 : Int32)), (.int (0 : Int32))] (.int (0 : Int32)) := Arv.set Ar105 q105 S105 M105 H105 G105 rfl W106 34 rfl (Nat.le_of_ble_eq_true rfl)
  have Zp107 : n0 ≤ h106.size := Nat.le_trans Zp104 (Nat.le_of_eq (Wr.size W106).symm)
  obtain ⟨cl108, Ar108, q108, S108, M108, H108, G108⟩ := id V106
  have hin108 : ¬ ((35 : Int32) < 0 ∨ cl108.slots.size ≤ ((35 : Int32)).toNatClampNeg) := inb_of S108 ⟨by decide, by decide⟩
  obtain ⟨T109, h109, X109, e109, W109, st109⟩ := stI X106 hx hZ e106 Ar108 (j := (35 : Int32)) hin108 (g := (mkF m 232 #[.val (.int va), .val (.int vp), .val (.int vo), .unset, .unset] [(.int (2147483647 : Int32)), (.int (35 : Int32)), (.ref b1), (.ref b1)])) rfl rfl (hb hby at_232)
  have N109 := Fr.snoc X109 N106 g_b1
  have V109 : Arv Z h109 b1 k1 .int (36 : Int32) [(.int (65 : Int32)), (.int (90 : Int32)), (.int (95 : Int32)), (.int (97 : Int32)), (.int (122 : Int32)), (.int (192 : Int32)), (.int (214 : Int32)), (.int (216 : Int32)), (.int (246 : Int32)), (.int (248 : Int32)), (.int (767 : Int32)), (.int (880 : Int32)), (.int (893 : Int32)), (.int (895 : Int32)), (.int (8191 : Int32)), (.int (8204 : Int32)), (.int (8205 : Int32)), (.int (8304 : Int32)), (.int (8591 : Int32)), (.int (11264 : Int32)), (.int (12271 : Int32)), (.int (12289 : Int32)), (.int (55295 : Int32)), (.int (63744 : Int32)), (.int (64975 : Int32)), (.int (65008 : Int32)), (.int (65533 : Int32)), (.int (65536 : Int32)), (.int (983039 : Int32)), (.int (58 : Int32)), (.int (0 : Int32)), (.int (183 : Int32)), (.int (768 : Int32)), (.int (8256 : Int32)), (.int (-2147483648 : Int32)), (.int (2147483647 : Int32))] (.int (0 : Int32)) := Arv.set Ar108 q108 S108 M108 H108 G108 rfl W109 35 rfl (Nat.le_of_ble_eq_true rfl)
  have Zp110 : n0 ≤ h109.size := Nat.le_trans Zp107 (Nat.le_of_eq (Wr.size W109).symm)
  have pre111 : ∀ t, Steps p.tables e below (T109.setTop (mkF m 237 #[.val (.int va), .val (.int vp), .val (.int vo), .val (.ref b1), .unset] [(.int (vp &&& (1 : Int32)))])) t → Steps p.tables e below (s₁.setTop (entryFrame m #[(.int va), (.int vp), (.int vo)] maxLocals)) t := by
    intro t k
    refine pre0 t ?_
    show Steps p.tables e below (s₁.setTop (mkF m 0 #[.val (.int va), .val (.int vp), .val (.int vo), .unset, .unset] [])) _
    refine XS.bipush X0.here hx rfl (hb hby at_0) ?_
    show Steps p.tables e below (s₁.setTop (mkF m 2 #[.val (.int va), .val (.int vp), .val (.int vo), .unset, .unset] [(.int (36 : Int32))])) _
    refine st1 _ ?_
    show Steps p.tables e below (T1.setTop (mkF m 4 #[.val (.int va), .val (.int vp), .val (.int vo), .unset, .unset] [(.ref b1)])) _
    refine XS.dup X1.here hx rfl (hb hby at_4) rfl rfl ?_
    show Steps p.tables e below (T1.setTop (mkF m 5 #[.val (.int va), .val (.int vp), .val (.int vo), .unset, .unset] [(.ref b1), (.ref b1)])) _
    refine XS.iconst X1.here hx rfl (hb hby at_5) ?_
    show Steps p.tables e below (T1.setTop (mkF m 6 #[.val (.int va), .val (.int vp), .val (.int vo), .unset, .unset] [(.int (0 : Int32)), (.ref b1), (.ref b1)])) _
    refine XS.bipush X1.here hx rfl (hb hby at_6) ?_
    show Steps p.tables e below (T1.setTop (mkF m 8 #[.val (.int va), .val (.int vp), .val (.int vo), .unset, .unset] [(.int (65 : Int32)), (.int (0 : Int32)), (.ref b1), (.ref b1)])) _
    refine st4 _ ?_
    show Steps p.tables e below (T4.setTop (mkF m 9 #[.val (.int va), .val (.int vp), .val (.int vo), .unset, .unset] [(.ref b1)])) _
    refine XS.dup X4.here hx rfl (hb hby at_9) rfl rfl ?_
    show Steps p.tables e below (T4.setTop (mkF m 10 #[.val (.int va), .val (.int vp), .val (.int vo), .unset, .unset] [(.ref b1), (.ref b1)])) _
    refine XS.iconst X4.here hx rfl (hb hby at_10) ?_
    show Steps p.tables e below (T4.setTop (mkF m 11 #[.val (.int va), .val (.int vp), .val (.int vo), .unset, .unset] [(.int (1 : Int32)), (.ref b1), (.ref b1)])) _
    refine XS.bipush X4.here hx rfl (hb hby at_11) ?_
    show Steps p.tables e below (T4.setTop (mkF m 13 #[.val (.int va), .val (.int vp), .val (.int vo), .unset, .unset] [(.int (90 : Int32)), (.int (1 : Int32)), (.ref b1), (.ref b1)])) _
    refine st7 _ ?_
    show Steps p.tables e below (T7.setTop (mkF m 14 #[.val (.int va), .val (.int vp), .val (.int vo), .unset, .unset] [(.ref b1)])) _
    refine XS.dup X7.here hx rfl (hb hby at_14) rfl rfl ?_
    show Steps p.tables e below (T7.setTop (mkF m 15 #[.val (.int va), .val (.int vp), .val (.int vo), .unset, .unset] [(.ref b1), (.ref b1)])) _
    refine XS.iconst X7.here hx rfl (hb hby at_15) ?_
    show Steps p.tables e below (T7.setTop (mkF m 16 #[.val (.int va), .val (.int vp), .val (.int vo), .unset, .unset] [(.int (2 : Int32)), (.ref b1), (.ref b1)])) _
    refine XS.bipush X7.here hx rfl (hb hby at_16) ?_
    show Steps p.tables e below (T7.setTop (mkF m 18 #[.val (.int va), .val (.int vp), .val (.int vo), .unset, .unset] [(.int (95 : Int32)), (.int (2 : Int32)), (.ref b1), (.ref b1)])) _
    refine st10 _ ?_
    show Steps p.tables e below (T10.setTop (mkF m 19 #[.val (.int va), .val (.int vp), .val (.int vo), .unset, .unset] [(.ref b1)])) _
    refine XS.dup X10.here hx rfl (hb hby at_19) rfl rfl ?_
    show Steps p.tables e below (T10.setTop (mkF m 20 #[.val (.int va), .val (.int vp), .val (.int vo), .unset, .unset] [(.ref b1), (.ref b1)])) _
    refine XS.iconst X10.here hx rfl (hb hby at_20) ?_
    show Steps p.tables e below (T10.setTop (mkF m 21 #[.val (.int va), .val (.int vp), .val (.int vo), .unset, .unset] [(.int (3 : Int32)), (.ref b1), (.ref b1)])) _
    refine XS.bipush X10.here hx rfl (hb hby at_21) ?_
    show Steps p.tables e below (T10.setTop (mkF m 23 #[.val (.int va), .val (.int vp), .val (.int vo), .unset, .unset] [(.int (97 : Int32)), (.int (3 : Int32)), (.ref b1), (.ref b1)])) _
    refine st13 _ ?_
    show Steps p.tables e below (T13.setTop (mkF m 24 #[.val (.int va), .val (.int vp), .val (.int vo), .unset, .unset] [(.ref b1)])) _
    refine XS.dup X13.here hx rfl (hb hby at_24) rfl rfl ?_
    show Steps p.tables e below (T13.setTop (mkF m 25 #[.val (.int va), .val (.int vp), .val (.int vo), .unset, .unset] [(.ref b1), (.ref b1)])) _
    refine XS.iconst X13.here hx rfl (hb hby at_25) ?_
    show Steps p.tables e below (T13.setTop (mkF m 26 #[.val (.int va), .val (.int vp), .val (.int vo), .unset, .unset] [(.int (4 : Int32)), (.ref b1), (.ref b1)])) _
    refine XS.bipush X13.here hx rfl (hb hby at_26) ?_
    show Steps p.tables e below (T13.setTop (mkF m 28 #[.val (.int va), .val (.int vp), .val (.int vo), .unset, .unset] [(.int (122 : Int32)), (.int (4 : Int32)), (.ref b1), (.ref b1)])) _
    refine st16 _ ?_
    show Steps p.tables e below (T16.setTop (mkF m 29 #[.val (.int va), .val (.int vp), .val (.int vo), .unset, .unset] [(.ref b1)])) _
    refine XS.dup X16.here hx rfl (hb hby at_29) rfl rfl ?_
    show Steps p.tables e below (T16.setTop (mkF m 30 #[.val (.int va), .val (.int vp), .val (.int vo), .unset, .unset] [(.ref b1), (.ref b1)])) _
    refine XS.iconst X16.here hx rfl (hb hby at_30) ?_
    show Steps p.tables e below (T16.setTop (mkF m 31 #[.val (.int va), .val (.int vp), .val (.int vo), .unset, .unset] [(.int (5 : Int32)), (.ref b1), (.ref b1)])) _
    refine XS.sipush X16.here hx rfl (hb hby at_31) ?_
    show Steps p.tables e below (T16.setTop (mkF m 34 #[.val (.int va), .val (.int vp), .val (.int vo), .unset, .unset] [(.int (192 : Int32)), (.int (5 : Int32)), (.ref b1), (.ref b1)])) _
    refine st19 _ ?_
    show Steps p.tables e below (T19.setTop (mkF m 35 #[.val (.int va), .val (.int vp), .val (.int vo), .unset, .unset] [(.ref b1)])) _
    refine XS.dup X19.here hx rfl (hb hby at_35) rfl rfl ?_
    show Steps p.tables e below (T19.setTop (mkF m 36 #[.val (.int va), .val (.int vp), .val (.int vo), .unset, .unset] [(.ref b1), (.ref b1)])) _
    refine XS.bipush X19.here hx rfl (hb hby at_36) ?_
    show Steps p.tables e below (T19.setTop (mkF m 38 #[.val (.int va), .val (.int vp), .val (.int vo), .unset, .unset] [(.int (6 : Int32)), (.ref b1), (.ref b1)])) _
    refine XS.sipush X19.here hx rfl (hb hby at_38) ?_
    show Steps p.tables e below (T19.setTop (mkF m 41 #[.val (.int va), .val (.int vp), .val (.int vo), .unset, .unset] [(.int (214 : Int32)), (.int (6 : Int32)), (.ref b1), (.ref b1)])) _
    refine st22 _ ?_
    show Steps p.tables e below (T22.setTop (mkF m 42 #[.val (.int va), .val (.int vp), .val (.int vo), .unset, .unset] [(.ref b1)])) _
    refine XS.dup X22.here hx rfl (hb hby at_42) rfl rfl ?_
    show Steps p.tables e below (T22.setTop (mkF m 43 #[.val (.int va), .val (.int vp), .val (.int vo), .unset, .unset] [(.ref b1), (.ref b1)])) _
    refine XS.bipush X22.here hx rfl (hb hby at_43) ?_
    show Steps p.tables e below (T22.setTop (mkF m 45 #[.val (.int va), .val (.int vp), .val (.int vo), .unset, .unset] [(.int (7 : Int32)), (.ref b1), (.ref b1)])) _
    refine XS.sipush X22.here hx rfl (hb hby at_45) ?_
    show Steps p.tables e below (T22.setTop (mkF m 48 #[.val (.int va), .val (.int vp), .val (.int vo), .unset, .unset] [(.int (216 : Int32)), (.int (7 : Int32)), (.ref b1), (.ref b1)])) _
    refine st25 _ ?_
    show Steps p.tables e below (T25.setTop (mkF m 49 #[.val (.int va), .val (.int vp), .val (.int vo), .unset, .unset] [(.ref b1)])) _
    refine XS.dup X25.here hx rfl (hb hby at_49) rfl rfl ?_
    show Steps p.tables e below (T25.setTop (mkF m 50 #[.val (.int va), .val (.int vp), .val (.int vo), .unset, .unset] [(.ref b1), (.ref b1)])) _
    refine XS.bipush X25.here hx rfl (hb hby at_50) ?_
    show Steps p.tables e below (T25.setTop (mkF m 52 #[.val (.int va), .val (.int vp), .val (.int vo), .unset, .unset] [(.int (8 : Int32)), (.ref b1), (.ref b1)])) _
    refine XS.sipush X25.here hx rfl (hb hby at_52) ?_
    show Steps p.tables e below (T25.setTop (mkF m 55 #[.val (.int va), .val (.int vp), .val (.int vo), .unset, .unset] [(.int (246 : Int32)), (.int (8 : Int32)), (.ref b1), (.ref b1)])) _
    refine st28 _ ?_
    show Steps p.tables e below (T28.setTop (mkF m 56 #[.val (.int va), .val (.int vp), .val (.int vo), .unset, .unset] [(.ref b1)])) _
    refine XS.dup X28.here hx rfl (hb hby at_56) rfl rfl ?_
    show Steps p.tables e below (T28.setTop (mkF m 57 #[.val (.int va), .val (.int vp), .val (.int vo), .unset, .unset] [(.ref b1), (.ref b1)])) _
    refine XS.bipush X28.here hx rfl (hb hby at_57) ?_
    show Steps p.tables e below (T28.setTop (mkF m 59 #[.val (.int va), .val (.int vp), .val (.int vo), .unset, .unset] [(.int (9 : Int32)), (.ref b1), (.ref b1)])) _
    refine XS.sipush X28.here hx rfl (hb hby at_59) ?_
    show Steps p.tables e below (T28.setTop (mkF m 62 #[.val (.int va), .val (.int vp), .val (.int vo), .unset, .unset] [(.int (248 : Int32)), (.int (9 : Int32)), (.ref b1), (.ref b1)])) _
    refine st31 _ ?_
    show Steps p.tables e below (T31.setTop (mkF m 63 #[.val (.int va), .val (.int vp), .val (.int vo), .unset, .unset] [(.ref b1)])) _
    refine XS.dup X31.here hx rfl (hb hby at_63) rfl rfl ?_
    show Steps p.tables e below (T31.setTop (mkF m 64 #[.val (.int va), .val (.int vp), .val (.int vo), .unset, .unset] [(.ref b1), (.ref b1)])) _
    refine XS.bipush X31.here hx rfl (hb hby at_64) ?_
    show Steps p.tables e below (T31.setTop (mkF m 66 #[.val (.int va), .val (.int vp), .val (.int vo), .unset, .unset] [(.int (10 : Int32)), (.ref b1), (.ref b1)])) _
    refine XS.sipush X31.here hx rfl (hb hby at_66) ?_
    show Steps p.tables e below (T31.setTop (mkF m 69 #[.val (.int va), .val (.int vp), .val (.int vo), .unset, .unset] [(.int (767 : Int32)), (.int (10 : Int32)), (.ref b1), (.ref b1)])) _
    refine st34 _ ?_
    show Steps p.tables e below (T34.setTop (mkF m 70 #[.val (.int va), .val (.int vp), .val (.int vo), .unset, .unset] [(.ref b1)])) _
    refine XS.dup X34.here hx rfl (hb hby at_70) rfl rfl ?_
    show Steps p.tables e below (T34.setTop (mkF m 71 #[.val (.int va), .val (.int vp), .val (.int vo), .unset, .unset] [(.ref b1), (.ref b1)])) _
    refine XS.bipush X34.here hx rfl (hb hby at_71) ?_
    show Steps p.tables e below (T34.setTop (mkF m 73 #[.val (.int va), .val (.int vp), .val (.int vo), .unset, .unset] [(.int (11 : Int32)), (.ref b1), (.ref b1)])) _
    refine XS.sipush X34.here hx rfl (hb hby at_73) ?_
    show Steps p.tables e below (T34.setTop (mkF m 76 #[.val (.int va), .val (.int vp), .val (.int vo), .unset, .unset] [(.int (880 : Int32)), (.int (11 : Int32)), (.ref b1), (.ref b1)])) _
    refine st37 _ ?_
    show Steps p.tables e below (T37.setTop (mkF m 77 #[.val (.int va), .val (.int vp), .val (.int vo), .unset, .unset] [(.ref b1)])) _
    refine XS.dup X37.here hx rfl (hb hby at_77) rfl rfl ?_
    show Steps p.tables e below (T37.setTop (mkF m 78 #[.val (.int va), .val (.int vp), .val (.int vo), .unset, .unset] [(.ref b1), (.ref b1)])) _
    refine XS.bipush X37.here hx rfl (hb hby at_78) ?_
    show Steps p.tables e below (T37.setTop (mkF m 80 #[.val (.int va), .val (.int vp), .val (.int vo), .unset, .unset] [(.int (12 : Int32)), (.ref b1), (.ref b1)])) _
    refine XS.sipush X37.here hx rfl (hb hby at_80) ?_
    show Steps p.tables e below (T37.setTop (mkF m 83 #[.val (.int va), .val (.int vp), .val (.int vo), .unset, .unset] [(.int (893 : Int32)), (.int (12 : Int32)), (.ref b1), (.ref b1)])) _
    refine st40 _ ?_
    show Steps p.tables e below (T40.setTop (mkF m 84 #[.val (.int va), .val (.int vp), .val (.int vo), .unset, .unset] [(.ref b1)])) _
    refine XS.dup X40.here hx rfl (hb hby at_84) rfl rfl ?_
    show Steps p.tables e below (T40.setTop (mkF m 85 #[.val (.int va), .val (.int vp), .val (.int vo), .unset, .unset] [(.ref b1), (.ref b1)])) _
    refine XS.bipush X40.here hx rfl (hb hby at_85) ?_
    show Steps p.tables e below (T40.setTop (mkF m 87 #[.val (.int va), .val (.int vp), .val (.int vo), .unset, .unset] [(.int (13 : Int32)), (.ref b1), (.ref b1)])) _
    refine XS.sipush X40.here hx rfl (hb hby at_87) ?_
    show Steps p.tables e below (T40.setTop (mkF m 90 #[.val (.int va), .val (.int vp), .val (.int vo), .unset, .unset] [(.int (895 : Int32)), (.int (13 : Int32)), (.ref b1), (.ref b1)])) _
    refine st43 _ ?_
    show Steps p.tables e below (T43.setTop (mkF m 91 #[.val (.int va), .val (.int vp), .val (.int vo), .unset, .unset] [(.ref b1)])) _
    refine XS.dup X43.here hx rfl (hb hby at_91) rfl rfl ?_
    show Steps p.tables e below (T43.setTop (mkF m 92 #[.val (.int va), .val (.int vp), .val (.int vo), .unset, .unset] [(.ref b1), (.ref b1)])) _
    refine XS.bipush X43.here hx rfl (hb hby at_92) ?_
    show Steps p.tables e below (T43.setTop (mkF m 94 #[.val (.int va), .val (.int vp), .val (.int vo), .unset, .unset] [(.int (14 : Int32)), (.ref b1), (.ref b1)])) _
    refine XS.sipush X43.here hx rfl (hb hby at_94) ?_
    show Steps p.tables e below (T43.setTop (mkF m 97 #[.val (.int va), .val (.int vp), .val (.int vo), .unset, .unset] [(.int (8191 : Int32)), (.int (14 : Int32)), (.ref b1), (.ref b1)])) _
    refine st46 _ ?_
    show Steps p.tables e below (T46.setTop (mkF m 98 #[.val (.int va), .val (.int vp), .val (.int vo), .unset, .unset] [(.ref b1)])) _
    refine XS.dup X46.here hx rfl (hb hby at_98) rfl rfl ?_
    show Steps p.tables e below (T46.setTop (mkF m 99 #[.val (.int va), .val (.int vp), .val (.int vo), .unset, .unset] [(.ref b1), (.ref b1)])) _
    refine XS.bipush X46.here hx rfl (hb hby at_99) ?_
    show Steps p.tables e below (T46.setTop (mkF m 101 #[.val (.int va), .val (.int vp), .val (.int vo), .unset, .unset] [(.int (15 : Int32)), (.ref b1), (.ref b1)])) _
    refine XS.sipush X46.here hx rfl (hb hby at_101) ?_
    show Steps p.tables e below (T46.setTop (mkF m 104 #[.val (.int va), .val (.int vp), .val (.int vo), .unset, .unset] [(.int (8204 : Int32)), (.int (15 : Int32)), (.ref b1), (.ref b1)])) _
    refine st49 _ ?_
    show Steps p.tables e below (T49.setTop (mkF m 105 #[.val (.int va), .val (.int vp), .val (.int vo), .unset, .unset] [(.ref b1)])) _
    refine XS.dup X49.here hx rfl (hb hby at_105) rfl rfl ?_
    show Steps p.tables e below (T49.setTop (mkF m 106 #[.val (.int va), .val (.int vp), .val (.int vo), .unset, .unset] [(.ref b1), (.ref b1)])) _
    refine XS.bipush X49.here hx rfl (hb hby at_106) ?_
    show Steps p.tables e below (T49.setTop (mkF m 108 #[.val (.int va), .val (.int vp), .val (.int vo), .unset, .unset] [(.int (16 : Int32)), (.ref b1), (.ref b1)])) _
    refine XS.sipush X49.here hx rfl (hb hby at_108) ?_
    show Steps p.tables e below (T49.setTop (mkF m 111 #[.val (.int va), .val (.int vp), .val (.int vo), .unset, .unset] [(.int (8205 : Int32)), (.int (16 : Int32)), (.ref b1), (.ref b1)])) _
    refine st52 _ ?_
    show Steps p.tables e below (T52.setTop (mkF m 112 #[.val (.int va), .val (.int vp), .val (.int vo), .unset, .unset] [(.ref b1)])) _
    refine XS.dup X52.here hx rfl (hb hby at_112) rfl rfl ?_
    show Steps p.tables e below (T52.setTop (mkF m 113 #[.val (.int va), .val (.int vp), .val (.int vo), .unset, .unset] [(.ref b1), (.ref b1)])) _
    refine XS.bipush X52.here hx rfl (hb hby at_113) ?_
    show Steps p.tables e below (T52.setTop (mkF m 115 #[.val (.int va), .val (.int vp), .val (.int vo), .unset, .unset] [(.int (17 : Int32)), (.ref b1), (.ref b1)])) _
    refine XS.sipush X52.here hx rfl (hb hby at_115) ?_
    show Steps p.tables e below (T52.setTop (mkF m 118 #[.val (.int va), .val (.int vp), .val (.int vo), .unset, .unset] [(.int (8304 : Int32)), (.int (17 : Int32)), (.ref b1), (.ref b1)])) _
    refine st55 _ ?_
    show Steps p.tables e below (T55.setTop (mkF m 119 #[.val (.int va), .val (.int vp), .val (.int vo), .unset, .unset] [(.ref b1)])) _
    refine XS.dup X55.here hx rfl (hb hby at_119) rfl rfl ?_
    show Steps p.tables e below (T55.setTop (mkF m 120 #[.val (.int va), .val (.int vp), .val (.int vo), .unset, .unset] [(.ref b1), (.ref b1)])) _
    refine XS.bipush X55.here hx rfl (hb hby at_120) ?_
    show Steps p.tables e below (T55.setTop (mkF m 122 #[.val (.int va), .val (.int vp), .val (.int vo), .unset, .unset] [(.int (18 : Int32)), (.ref b1), (.ref b1)])) _
    refine XS.sipush X55.here hx rfl (hb hby at_122) ?_
    show Steps p.tables e below (T55.setTop (mkF m 125 #[.val (.int va), .val (.int vp), .val (.int vo), .unset, .unset] [(.int (8591 : Int32)), (.int (18 : Int32)), (.ref b1), (.ref b1)])) _
    refine st58 _ ?_
    show Steps p.tables e below (T58.setTop (mkF m 126 #[.val (.int va), .val (.int vp), .val (.int vo), .unset, .unset] [(.ref b1)])) _
    refine XS.dup X58.here hx rfl (hb hby at_126) rfl rfl ?_
    show Steps p.tables e below (T58.setTop (mkF m 127 #[.val (.int va), .val (.int vp), .val (.int vo), .unset, .unset] [(.ref b1), (.ref b1)])) _
    refine XS.bipush X58.here hx rfl (hb hby at_127) ?_
    show Steps p.tables e below (T58.setTop (mkF m 129 #[.val (.int va), .val (.int vp), .val (.int vo), .unset, .unset] [(.int (19 : Int32)), (.ref b1), (.ref b1)])) _
    refine XS.sipush X58.here hx rfl (hb hby at_129) ?_
    show Steps p.tables e below (T58.setTop (mkF m 132 #[.val (.int va), .val (.int vp), .val (.int vo), .unset, .unset] [(.int (11264 : Int32)), (.int (19 : Int32)), (.ref b1), (.ref b1)])) _
    refine st61 _ ?_
    show Steps p.tables e below (T61.setTop (mkF m 133 #[.val (.int va), .val (.int vp), .val (.int vo), .unset, .unset] [(.ref b1)])) _
    refine XS.dup X61.here hx rfl (hb hby at_133) rfl rfl ?_
    show Steps p.tables e below (T61.setTop (mkF m 134 #[.val (.int va), .val (.int vp), .val (.int vo), .unset, .unset] [(.ref b1), (.ref b1)])) _
    refine XS.bipush X61.here hx rfl (hb hby at_134) ?_
    show Steps p.tables e below (T61.setTop (mkF m 136 #[.val (.int va), .val (.int vp), .val (.int vo), .unset, .unset] [(.int (20 : Int32)), (.ref b1), (.ref b1)])) _
    refine XS.sipush X61.here hx rfl (hb hby at_136) ?_
    show Steps p.tables e below (T61.setTop (mkF m 139 #[.val (.int va), .val (.int vp), .val (.int vo), .unset, .unset] [(.int (12271 : Int32)), (.int (20 : Int32)), (.ref b1), (.ref b1)])) _
    refine st64 _ ?_
    show Steps p.tables e below (T64.setTop (mkF m 140 #[.val (.int va), .val (.int vp), .val (.int vo), .unset, .unset] [(.ref b1)])) _
    refine XS.dup X64.here hx rfl (hb hby at_140) rfl rfl ?_
    show Steps p.tables e below (T64.setTop (mkF m 141 #[.val (.int va), .val (.int vp), .val (.int vo), .unset, .unset] [(.ref b1), (.ref b1)])) _
    refine XS.bipush X64.here hx rfl (hb hby at_141) ?_
    show Steps p.tables e below (T64.setTop (mkF m 143 #[.val (.int va), .val (.int vp), .val (.int vo), .unset, .unset] [(.int (21 : Int32)), (.ref b1), (.ref b1)])) _
    refine XS.sipush X64.here hx rfl (hb hby at_143) ?_
    show Steps p.tables e below (T64.setTop (mkF m 146 #[.val (.int va), .val (.int vp), .val (.int vo), .unset, .unset] [(.int (12289 : Int32)), (.int (21 : Int32)), (.ref b1), (.ref b1)])) _
    refine st67 _ ?_
    show Steps p.tables e below (T67.setTop (mkF m 147 #[.val (.int va), .val (.int vp), .val (.int vo), .unset, .unset] [(.ref b1)])) _
    refine XS.dup X67.here hx rfl (hb hby at_147) rfl rfl ?_
    show Steps p.tables e below (T67.setTop (mkF m 148 #[.val (.int va), .val (.int vp), .val (.int vo), .unset, .unset] [(.ref b1), (.ref b1)])) _
    refine XS.bipush X67.here hx rfl (hb hby at_148) ?_
    show Steps p.tables e below (T67.setTop (mkF m 150 #[.val (.int va), .val (.int vp), .val (.int vo), .unset, .unset] [(.int (22 : Int32)), (.ref b1), (.ref b1)])) _
    refine X67.ldcInt hx hown (mvT hZ (hw _ (List.mem_of_getElem? (i := 1) rfl))) (g := (mkF m 150 #[.val (.int va), .val (.int vp), .val (.int vo), .unset, .unset] [(.int (22 : Int32)), (.ref b1), (.ref b1)])) rfl (hb hby at_150) _ ?_
    show Steps p.tables e below (T67.setTop (mkF m 152 #[.val (.int va), .val (.int vp), .val (.int vo), .unset, .unset] [(.int (55295 : Int32)), (.int (22 : Int32)), (.ref b1), (.ref b1)])) _
    refine st70 _ ?_
    show Steps p.tables e below (T70.setTop (mkF m 153 #[.val (.int va), .val (.int vp), .val (.int vo), .unset, .unset] [(.ref b1)])) _
    refine XS.dup X70.here hx rfl (hb hby at_153) rfl rfl ?_
    show Steps p.tables e below (T70.setTop (mkF m 154 #[.val (.int va), .val (.int vp), .val (.int vo), .unset, .unset] [(.ref b1), (.ref b1)])) _
    refine XS.bipush X70.here hx rfl (hb hby at_154) ?_
    show Steps p.tables e below (T70.setTop (mkF m 156 #[.val (.int va), .val (.int vp), .val (.int vo), .unset, .unset] [(.int (23 : Int32)), (.ref b1), (.ref b1)])) _
    refine X70.ldcInt hx hown (mvT hZ (hw _ (List.mem_of_getElem? (i := 2) rfl))) (g := (mkF m 156 #[.val (.int va), .val (.int vp), .val (.int vo), .unset, .unset] [(.int (23 : Int32)), (.ref b1), (.ref b1)])) rfl (hb hby at_156) _ ?_
    show Steps p.tables e below (T70.setTop (mkF m 158 #[.val (.int va), .val (.int vp), .val (.int vo), .unset, .unset] [(.int (63744 : Int32)), (.int (23 : Int32)), (.ref b1), (.ref b1)])) _
    refine st73 _ ?_
    show Steps p.tables e below (T73.setTop (mkF m 159 #[.val (.int va), .val (.int vp), .val (.int vo), .unset, .unset] [(.ref b1)])) _
    refine XS.dup X73.here hx rfl (hb hby at_159) rfl rfl ?_
    show Steps p.tables e below (T73.setTop (mkF m 160 #[.val (.int va), .val (.int vp), .val (.int vo), .unset, .unset] [(.ref b1), (.ref b1)])) _
    refine XS.bipush X73.here hx rfl (hb hby at_160) ?_
    show Steps p.tables e below (T73.setTop (mkF m 162 #[.val (.int va), .val (.int vp), .val (.int vo), .unset, .unset] [(.int (24 : Int32)), (.ref b1), (.ref b1)])) _
    refine X73.ldcInt hx hown (mvT hZ (hw _ (List.mem_of_getElem? (i := 3) rfl))) (g := (mkF m 162 #[.val (.int va), .val (.int vp), .val (.int vo), .unset, .unset] [(.int (24 : Int32)), (.ref b1), (.ref b1)])) rfl (hb hby at_162) _ ?_
    show Steps p.tables e below (T73.setTop (mkF m 164 #[.val (.int va), .val (.int vp), .val (.int vo), .unset, .unset] [(.int (64975 : Int32)), (.int (24 : Int32)), (.ref b1), (.ref b1)])) _
    refine st76 _ ?_
    show Steps p.tables e below (T76.setTop (mkF m 165 #[.val (.int va), .val (.int vp), .val (.int vo), .unset, .unset] [(.ref b1)])) _
    refine XS.dup X76.here hx rfl (hb hby at_165) rfl rfl ?_
    show Steps p.tables e below (T76.setTop (mkF m 166 #[.val (.int va), .val (.int vp), .val (.int vo), .unset, .unset] [(.ref b1), (.ref b1)])) _
    refine XS.bipush X76.here hx rfl (hb hby at_166) ?_
    show Steps p.tables e below (T76.setTop (mkF m 168 #[.val (.int va), .val (.int vp), .val (.int vo), .unset, .unset] [(.int (25 : Int32)), (.ref b1), (.ref b1)])) _
    refine X76.ldcInt hx hown (mvT hZ (hw _ (List.mem_of_getElem? (i := 4) rfl))) (g := (mkF m 168 #[.val (.int va), .val (.int vp), .val (.int vo), .unset, .unset] [(.int (25 : Int32)), (.ref b1), (.ref b1)])) rfl (hb hby at_168) _ ?_
    show Steps p.tables e below (T76.setTop (mkF m 170 #[.val (.int va), .val (.int vp), .val (.int vo), .unset, .unset] [(.int (65008 : Int32)), (.int (25 : Int32)), (.ref b1), (.ref b1)])) _
    refine st79 _ ?_
    show Steps p.tables e below (T79.setTop (mkF m 171 #[.val (.int va), .val (.int vp), .val (.int vo), .unset, .unset] [(.ref b1)])) _
    refine XS.dup X79.here hx rfl (hb hby at_171) rfl rfl ?_
    show Steps p.tables e below (T79.setTop (mkF m 172 #[.val (.int va), .val (.int vp), .val (.int vo), .unset, .unset] [(.ref b1), (.ref b1)])) _
    refine XS.bipush X79.here hx rfl (hb hby at_172) ?_
    show Steps p.tables e below (T79.setTop (mkF m 174 #[.val (.int va), .val (.int vp), .val (.int vo), .unset, .unset] [(.int (26 : Int32)), (.ref b1), (.ref b1)])) _
    refine X79.ldcInt hx hown (mvT hZ (hw _ (List.mem_of_getElem? (i := 5) rfl))) (g := (mkF m 174 #[.val (.int va), .val (.int vp), .val (.int vo), .unset, .unset] [(.int (26 : Int32)), (.ref b1), (.ref b1)])) rfl (hb hby at_174) _ ?_
    show Steps p.tables e below (T79.setTop (mkF m 176 #[.val (.int va), .val (.int vp), .val (.int vo), .unset, .unset] [(.int (65533 : Int32)), (.int (26 : Int32)), (.ref b1), (.ref b1)])) _
    refine st82 _ ?_
    show Steps p.tables e below (T82.setTop (mkF m 177 #[.val (.int va), .val (.int vp), .val (.int vo), .unset, .unset] [(.ref b1)])) _
    refine XS.dup X82.here hx rfl (hb hby at_177) rfl rfl ?_
    show Steps p.tables e below (T82.setTop (mkF m 178 #[.val (.int va), .val (.int vp), .val (.int vo), .unset, .unset] [(.ref b1), (.ref b1)])) _
    refine XS.bipush X82.here hx rfl (hb hby at_178) ?_
    show Steps p.tables e below (T82.setTop (mkF m 180 #[.val (.int va), .val (.int vp), .val (.int vo), .unset, .unset] [(.int (27 : Int32)), (.ref b1), (.ref b1)])) _
    refine X82.ldcInt hx hown (mvT hZ (hw _ (List.mem_of_getElem? (i := 6) rfl))) (g := (mkF m 180 #[.val (.int va), .val (.int vp), .val (.int vo), .unset, .unset] [(.int (27 : Int32)), (.ref b1), (.ref b1)])) rfl (hb hby at_180) _ ?_
    show Steps p.tables e below (T82.setTop (mkF m 182 #[.val (.int va), .val (.int vp), .val (.int vo), .unset, .unset] [(.int (65536 : Int32)), (.int (27 : Int32)), (.ref b1), (.ref b1)])) _
    refine st85 _ ?_
    show Steps p.tables e below (T85.setTop (mkF m 183 #[.val (.int va), .val (.int vp), .val (.int vo), .unset, .unset] [(.ref b1)])) _
    refine XS.dup X85.here hx rfl (hb hby at_183) rfl rfl ?_
    show Steps p.tables e below (T85.setTop (mkF m 184 #[.val (.int va), .val (.int vp), .val (.int vo), .unset, .unset] [(.ref b1), (.ref b1)])) _
    refine XS.bipush X85.here hx rfl (hb hby at_184) ?_
    show Steps p.tables e below (T85.setTop (mkF m 186 #[.val (.int va), .val (.int vp), .val (.int vo), .unset, .unset] [(.int (28 : Int32)), (.ref b1), (.ref b1)])) _
    refine X85.ldcInt hx hown (mvT hZ (hw _ (List.mem_of_getElem? (i := 7) rfl))) (g := (mkF m 186 #[.val (.int va), .val (.int vp), .val (.int vo), .unset, .unset] [(.int (28 : Int32)), (.ref b1), (.ref b1)])) rfl (hb hby at_186) _ ?_
    show Steps p.tables e below (T85.setTop (mkF m 188 #[.val (.int va), .val (.int vp), .val (.int vo), .unset, .unset] [(.int (983039 : Int32)), (.int (28 : Int32)), (.ref b1), (.ref b1)])) _
    refine st88 _ ?_
    show Steps p.tables e below (T88.setTop (mkF m 189 #[.val (.int va), .val (.int vp), .val (.int vo), .unset, .unset] [(.ref b1)])) _
    refine XS.dup X88.here hx rfl (hb hby at_189) rfl rfl ?_
    show Steps p.tables e below (T88.setTop (mkF m 190 #[.val (.int va), .val (.int vp), .val (.int vo), .unset, .unset] [(.ref b1), (.ref b1)])) _
    refine XS.bipush X88.here hx rfl (hb hby at_190) ?_
    show Steps p.tables e below (T88.setTop (mkF m 192 #[.val (.int va), .val (.int vp), .val (.int vo), .unset, .unset] [(.int (29 : Int32)), (.ref b1), (.ref b1)])) _
    refine XS.bipush X88.here hx rfl (hb hby at_192) ?_
    show Steps p.tables e below (T88.setTop (mkF m 194 #[.val (.int va), .val (.int vp), .val (.int vo), .unset, .unset] [(.int (58 : Int32)), (.int (29 : Int32)), (.ref b1), (.ref b1)])) _
    refine st91 _ ?_
    show Steps p.tables e below (T91.setTop (mkF m 195 #[.val (.int va), .val (.int vp), .val (.int vo), .unset, .unset] [(.ref b1)])) _
    refine XS.dup X91.here hx rfl (hb hby at_195) rfl rfl ?_
    show Steps p.tables e below (T91.setTop (mkF m 196 #[.val (.int va), .val (.int vp), .val (.int vo), .unset, .unset] [(.ref b1), (.ref b1)])) _
    refine XS.bipush X91.here hx rfl (hb hby at_196) ?_
    show Steps p.tables e below (T91.setTop (mkF m 198 #[.val (.int va), .val (.int vp), .val (.int vo), .unset, .unset] [(.int (30 : Int32)), (.ref b1), (.ref b1)])) _
    refine XS.iconst X91.here hx rfl (hb hby at_198) ?_
    show Steps p.tables e below (T91.setTop (mkF m 199 #[.val (.int va), .val (.int vp), .val (.int vo), .unset, .unset] [(.int (0 : Int32)), (.int (30 : Int32)), (.ref b1), (.ref b1)])) _
    refine st94 _ ?_
    show Steps p.tables e below (T94.setTop (mkF m 200 #[.val (.int va), .val (.int vp), .val (.int vo), .unset, .unset] [(.ref b1)])) _
    refine XS.dup X94.here hx rfl (hb hby at_200) rfl rfl ?_
    show Steps p.tables e below (T94.setTop (mkF m 201 #[.val (.int va), .val (.int vp), .val (.int vo), .unset, .unset] [(.ref b1), (.ref b1)])) _
    refine XS.bipush X94.here hx rfl (hb hby at_201) ?_
    show Steps p.tables e below (T94.setTop (mkF m 203 #[.val (.int va), .val (.int vp), .val (.int vo), .unset, .unset] [(.int (31 : Int32)), (.ref b1), (.ref b1)])) _
    refine XS.sipush X94.here hx rfl (hb hby at_203) ?_
    show Steps p.tables e below (T94.setTop (mkF m 206 #[.val (.int va), .val (.int vp), .val (.int vo), .unset, .unset] [(.int (183 : Int32)), (.int (31 : Int32)), (.ref b1), (.ref b1)])) _
    refine st97 _ ?_
    show Steps p.tables e below (T97.setTop (mkF m 207 #[.val (.int va), .val (.int vp), .val (.int vo), .unset, .unset] [(.ref b1)])) _
    refine XS.dup X97.here hx rfl (hb hby at_207) rfl rfl ?_
    show Steps p.tables e below (T97.setTop (mkF m 208 #[.val (.int va), .val (.int vp), .val (.int vo), .unset, .unset] [(.ref b1), (.ref b1)])) _
    refine XS.bipush X97.here hx rfl (hb hby at_208) ?_
    show Steps p.tables e below (T97.setTop (mkF m 210 #[.val (.int va), .val (.int vp), .val (.int vo), .unset, .unset] [(.int (32 : Int32)), (.ref b1), (.ref b1)])) _
    refine XS.sipush X97.here hx rfl (hb hby at_210) ?_
    show Steps p.tables e below (T97.setTop (mkF m 213 #[.val (.int va), .val (.int vp), .val (.int vo), .unset, .unset] [(.int (768 : Int32)), (.int (32 : Int32)), (.ref b1), (.ref b1)])) _
    refine st100 _ ?_
    show Steps p.tables e below (T100.setTop (mkF m 214 #[.val (.int va), .val (.int vp), .val (.int vo), .unset, .unset] [(.ref b1)])) _
    refine XS.dup X100.here hx rfl (hb hby at_214) rfl rfl ?_
    show Steps p.tables e below (T100.setTop (mkF m 215 #[.val (.int va), .val (.int vp), .val (.int vo), .unset, .unset] [(.ref b1), (.ref b1)])) _
    refine XS.bipush X100.here hx rfl (hb hby at_215) ?_
    show Steps p.tables e below (T100.setTop (mkF m 217 #[.val (.int va), .val (.int vp), .val (.int vo), .unset, .unset] [(.int (33 : Int32)), (.ref b1), (.ref b1)])) _
    refine XS.sipush X100.here hx rfl (hb hby at_217) ?_
    show Steps p.tables e below (T100.setTop (mkF m 220 #[.val (.int va), .val (.int vp), .val (.int vo), .unset, .unset] [(.int (8256 : Int32)), (.int (33 : Int32)), (.ref b1), (.ref b1)])) _
    refine st103 _ ?_
    show Steps p.tables e below (T103.setTop (mkF m 221 #[.val (.int va), .val (.int vp), .val (.int vo), .unset, .unset] [(.ref b1)])) _
    refine XS.dup X103.here hx rfl (hb hby at_221) rfl rfl ?_
    show Steps p.tables e below (T103.setTop (mkF m 222 #[.val (.int va), .val (.int vp), .val (.int vo), .unset, .unset] [(.ref b1), (.ref b1)])) _
    refine XS.bipush X103.here hx rfl (hb hby at_222) ?_
    show Steps p.tables e below (T103.setTop (mkF m 224 #[.val (.int va), .val (.int vp), .val (.int vo), .unset, .unset] [(.int (34 : Int32)), (.ref b1), (.ref b1)])) _
    refine X103.ldcInt hx hown (mvT hZ (hw _ (List.mem_of_getElem? (i := 8) rfl))) (g := (mkF m 224 #[.val (.int va), .val (.int vp), .val (.int vo), .unset, .unset] [(.int (34 : Int32)), (.ref b1), (.ref b1)])) rfl (hb hby at_224) _ ?_
    show Steps p.tables e below (T103.setTop (mkF m 226 #[.val (.int va), .val (.int vp), .val (.int vo), .unset, .unset] [(.int (-2147483648 : Int32)), (.int (34 : Int32)), (.ref b1), (.ref b1)])) _
    refine st106 _ ?_
    show Steps p.tables e below (T106.setTop (mkF m 227 #[.val (.int va), .val (.int vp), .val (.int vo), .unset, .unset] [(.ref b1)])) _
    refine XS.dup X106.here hx rfl (hb hby at_227) rfl rfl ?_
    show Steps p.tables e below (T106.setTop (mkF m 228 #[.val (.int va), .val (.int vp), .val (.int vo), .unset, .unset] [(.ref b1), (.ref b1)])) _
    refine XS.bipush X106.here hx rfl (hb hby at_228) ?_
    show Steps p.tables e below (T106.setTop (mkF m 230 #[.val (.int va), .val (.int vp), .val (.int vo), .unset, .unset] [(.int (35 : Int32)), (.ref b1), (.ref b1)])) _
    refine X106.ldcInt hx hown (mvT hZ (hw _ (List.mem_of_getElem? (i := 9) rfl))) (g := (mkF m 230 #[.val (.int va), .val (.int vp), .val (.int vo), .unset, .unset] [(.int (35 : Int32)), (.ref b1), (.ref b1)])) rfl (hb hby at_230) _ ?_
    show Steps p.tables e below (T106.setTop (mkF m 232 #[.val (.int va), .val (.int vp), .val (.int vo), .unset, .unset] [(.int (2147483647 : Int32)), (.int (35 : Int32)), (.ref b1), (.ref b1)])) _
    refine st109 _ ?_
    show Steps p.tables e below (T109.setTop (mkF m 233 #[.val (.int va), .val (.int vp), .val (.int vo), .unset, .unset] [(.ref b1)])) _
    refine XS.astoreN X109.here hx rfl (hb hby at_233) rfl rfl (l' := #[.val (.int va), .val (.int vp), .val (.int vo), .val (.ref b1), .unset]) rfl ?_
    show Steps p.tables e below (T109.setTop (mkF m 234 #[.val (.int va), .val (.int vp), .val (.int vo), .val (.ref b1), .unset] [])) _
    refine XS.iloadN X109.here hx rfl (hb hby at_234) rfl ?_
    show Steps p.tables e below (T109.setTop (mkF m 235 #[.val (.int va), .val (.int vp), .val (.int vo), .val (.ref b1), .unset] [(.int vp)])) _
    refine XS.iconst X109.here hx rfl (hb hby at_235) ?_
    show Steps p.tables e below (T109.setTop (mkF m 236 #[.val (.int va), .val (.int vp), .val (.int vo), .val (.ref b1), .unset] [(.int (1 : Int32)), (.int vp)])) _
    refine XS.iand X109.here hx rfl (hb hby at_236) rfl ?_
    show Steps p.tables e below (T109.setTop (mkF m 237 #[.val (.int va), .val (.int vp), .val (.int vo), .val (.ref b1), .unset] [(.int (vp &&& (1 : Int32)))])) _
    exact k
  by_cases hc112 : (vp &&& (1 : Int32)) = (0 : Int32)
  · obtain ⟨cl113, Ar113, -, S113, M113, -, -⟩ := id V109
    have pre114 : ∀ t, Steps p.tables e below (T109.setTop (mkF m 253 #[.val (.int va), .val (.int vp), .val (.int vo), .val (.ref b1), .unset] [(.int (((vp.toUInt32 >>> ((1 : Int32) &&& 31).toUInt32).toInt32) % (36 : Int32))), (.ref b1)])) t → Steps p.tables e below (s₁.setTop (entryFrame m #[(.int va), (.int vp), (.int vo)] maxLocals)) t := by
      intro t k
      refine pre111 t ?_
      show Steps p.tables e below (T109.setTop (mkF m 237 #[.val (.int va), .val (.int vp), .val (.int vo), .val (.ref b1), .unset] [(.int (vp &&& (1 : Int32)))])) _
      refine XS.ifYes X109.here hx rfl (pc0 := 237) (pc' := 246) rfl (hb hby at_237) rfl ((if0 _ _).trans (teq hc112).1) (by decide) (by decide) ?_
      show Steps p.tables e below (T109.setTop (mkF m 246 #[.val (.int va), .val (.int vp), .val (.int vo), .val (.ref b1), .unset] [])) _
      refine XS.aloadN X109.here hx rfl (hb hby at_246) rfl rfl ?_
      show Steps p.tables e below (T109.setTop (mkF m 247 #[.val (.int va), .val (.int vp), .val (.int vo), .val (.ref b1), .unset] [(.ref b1)])) _
      refine XS.iloadN X109.here hx rfl (hb hby at_247) rfl ?_
      show Steps p.tables e below (T109.setTop (mkF m 248 #[.val (.int va), .val (.int vp), .val (.int vo), .val (.ref b1), .unset] [(.int vp), (.ref b1)])) _
      refine XS.iconst X109.here hx rfl (hb hby at_248) ?_
      show Steps p.tables e below (T109.setTop (mkF m 249 #[.val (.int va), .val (.int vp), .val (.int vo), .val (.ref b1), .unset] [(.int (1 : Int32)), (.int vp), (.ref b1)])) _
      refine XS.iushr X109.here hx rfl (hb hby at_249) rfl ?_
      show Steps p.tables e below (T109.setTop (mkF m 250 #[.val (.int va), .val (.int vp), .val (.int vo), .val (.ref b1), .unset] [(.int ((vp.toUInt32 >>> ((1 : Int32) &&& 31).toUInt32).toInt32)), (.ref b1)])) _
      refine XS.aloadN X109.here hx rfl (hb hby at_250) rfl rfl ?_
      show Steps p.tables e below (T109.setTop (mkF m 251 #[.val (.int va), .val (.int vp), .val (.int vo), .val (.ref b1), .unset] [(.ref b1), (.int ((vp.toUInt32 >>> ((1 : Int32) &&& 31).toUInt32).toInt32)), (.ref b1)])) _
      refine X109.arraylength hx (by rw [e109]; exact Ar113.1) (State.isArrayOf_alike hZ.alike Ar113.2.1) (g := (mkF m 251 #[.val (.int va), .val (.int vp), .val (.int vo), .val (.ref b1), .unset] [(.ref b1), (.int ((vp.toUInt32 >>> ((1 : Int32) &&& 31).toUInt32).toInt32)), (.ref b1)])) rfl rfl (hb hby at_251) _ ?_
      rw [len_of S113 M113]
      show Steps p.tables e below (T109.setTop (mkF m 252 #[.val (.int va), .val (.int vp), .val (.int vo), .val (.ref b1), .unset] [(.int (36 : Int32)), (.int ((vp.toUInt32 >>> ((1 : Int32) &&& 31).toUInt32).toInt32)), (.ref b1)])) _
      refine iremM (g := (mkF m 252 #[.val (.int va), .val (.int vp), .val (.int vo), .val (.ref b1), .unset] [(.int (36 : Int32)), (.int ((vp.toUInt32 >>> ((1 : Int32) &&& 31).toUInt32).toInt32)), (.ref b1)])) X109 hx rfl (hb hby at_252) rfl (by decide) ?_
      show Steps p.tables e below (T109.setTop (mkF m 253 #[.val (.int va), .val (.int vp), .val (.int vo), .val (.ref b1), .unset] [(.int (((vp.toUInt32 >>> ((1 : Int32) &&& 31).toUInt32).toInt32) % (36 : Int32))), (.ref b1)])) _
      exact k
    obtain ⟨vj, h_vj⟩ : ∃ z : Int32, z = (((vp.toUInt32 >>> ((1 : Int32) &&& 31).toUInt32).toInt32) % (36 : Int32)) := ⟨_, rfl⟩
    have pre115 : ∀ t, Steps p.tables e below (T109.setTop (mkF m 253 #[.val (.int va), .val (.int vp), .val (.int vo), .val (.ref b1), .unset] [(.int vj), (.ref b1)])) t → Steps p.tables e below (s₁.setTop (entryFrame m #[(.int va), (.int vp), (.int vo)] maxLocals)) t := by
      subst h_vj
      exact pre114
    obtain ⟨cl116, Ar116, q116, S116, M116, H116, G116⟩ := id V109
    have hin116 : ¬ (vj < 0 ∨ cl116.slots.size ≤ (vj).toNatClampNeg) := inb_of S116 (by rw [h_vj]; exact own_idx _)
    have hat116 : cl116.slots[(vj).toNatClampNeg]? = some (.int (([65, 90, 95, 97, 122, 192, 214, 216, 246, 248, 767, 880, 893, 895, 8191, 8204, 8205, 8304, 8591, 11264, 12271, 12289, 55295, 63744, 64975, 65008, 65533, 65536, 983039, 58, 0, 183, 768, 8256, (-2147483648), 2147483647] : List Int32).getD (vj).toNatClampNeg 0)) := H116.at hin116 (own_getD [65, 90, 95, 97, 122, 192, 214, 216, 246, 248, 767, 880, 893, 895, 8191, 8204, 8205, 8304, 8591, 11264, 12271, 12289, 55295, 63744, 64975, 65008, 65533, 65536, 983039, 58, 0, 183, 768, 8256, (-2147483648), 2147483647] _ _)
    have pre117 : ∀ t, Steps p.tables e below (T109.setTop (mkF m 254 #[.val (.int va), .val (.int vp), .val (.int vo), .val (.ref b1), .unset] [(.int (([65, 90, 95, 97, 122, 192, 214, 216, 246, 248, 767, 880, 893, 895, 8191, 8204, 8205, 8304, 8591, 11264, 12271, 12289, 55295, 63744, 64975, 65008, 65533, 65536, 983039, 58, 0, 183, 768, 8256, (-2147483648), 2147483647] : List Int32).getD (vj).toNatClampNeg 0))])) t → Steps p.tables e below (s₁.setTop (entryFrame m #[(.int va), (.int vp), (.int vo)] maxLocals)) t := by
      intro t k
      refine pre115 t ?_
      show Steps p.tables e below (T109.setTop (mkF m 253 #[.val (.int va), .val (.int vp), .val (.int vo), .val (.ref b1), .unset] [(.int vj), (.ref b1)])) _
      refine X109.iaload hx (j := vj) (v := (.int (([65, 90, 95, 97, 122, 192, 214, 216, 246, 248, 767, 880, 893, 895, 8191, 8204, 8205, 8304, 8591, 11264, 12271, 12289, 55295, 63744, 64975, 65008, 65533, 65536, 983039, 58, 0, 183, 768, 8256, (-2147483648), 2147483647] : List Int32).getD (vj).toNatClampNeg 0))) (by rw [e109]; exact Ar116.1) (State.isArrayOf_alike hZ.alike Ar116.2.1) Ar116.2.2 hin116 hat116 (g := (mkF m 253 #[.val (.int va), .val (.int vp), .val (.int vo), .val (.ref b1), .unset] [(.int vj), (.ref b1)])) rfl rfl (hb hby at_253) _ ?_
      show Steps p.tables e below (T109.setTop (mkF m 254 #[.val (.int va), .val (.int vp), .val (.int vo), .val (.ref b1), .unset] [(.int (([65, 90, 95, 97, 122, 192, 214, 216, 246, 248, 767, 880, 893, 895, 8191, 8204, 8205, 8304, 8591, 11264, 12271, 12289, 55295, 63744, 64975, 65008, 65533, 65536, 983039, 58, 0, 183, 768, 8256, (-2147483648), 2147483647] : List Int32).getD (vj).toNatClampNeg 0))])) _
      exact k
    obtain ⟨vw, h_vw⟩ : ∃ z : Int32, z = (([65, 90, 95, 97, 122, 192, 214, 216, 246, 248, 767, 880, 893, 895, 8191, 8204, 8205, 8304, 8591, 11264, 12271, 12289, 55295, 63744, 64975, 65008, 65533, 65536, 983039, 58, 0, 183, 768, 8256, (-2147483648), 2147483647] : List Int32).getD (vj).toNatClampNeg 0) := ⟨_, rfl⟩
    have pre118 : ∀ t, Steps p.tables e below (T109.setTop (mkF m 254 #[.val (.int va), .val (.int vp), .val (.int vo), .val (.ref b1), .unset] [(.int vw)])) t → Steps p.tables e below (s₁.setTop (entryFrame m #[(.int va), (.int vp), (.int vo)] maxLocals)) t := by
      subst h_vw
      exact pre117
    have pre119 : ∀ t, Steps p.tables e below (T109.setTop (mkF m 260 #[.val (.int va), .val (.int vp), .val (.int vo), .val (.ref b1), .val (.int (vw + (vo % (3 : Int32))))] [])) t → Steps p.tables e below (s₁.setTop (entryFrame m #[(.int va), (.int vp), (.int vo)] maxLocals)) t := by
      intro t k
      refine pre118 t ?_
      show Steps p.tables e below (T109.setTop (mkF m 254 #[.val (.int va), .val (.int vp), .val (.int vo), .val (.ref b1), .unset] [(.int vw)])) _
      refine XS.iloadN X109.here hx rfl (hb hby at_254) rfl ?_
      show Steps p.tables e below (T109.setTop (mkF m 255 #[.val (.int va), .val (.int vp), .val (.int vo), .val (.ref b1), .unset] [(.int vo), (.int vw)])) _
      refine XS.iconst X109.here hx rfl (hb hby at_255) ?_
      show Steps p.tables e below (T109.setTop (mkF m 256 #[.val (.int va), .val (.int vp), .val (.int vo), .val (.ref b1), .unset] [(.int (3 : Int32)), (.int vo), (.int vw)])) _
      refine iremM (g := (mkF m 256 #[.val (.int va), .val (.int vp), .val (.int vo), .val (.ref b1), .unset] [(.int (3 : Int32)), (.int vo), (.int vw)])) X109 hx rfl (hb hby at_256) rfl (by decide) ?_
      show Steps p.tables e below (T109.setTop (mkF m 257 #[.val (.int va), .val (.int vp), .val (.int vo), .val (.ref b1), .unset] [(.int (vo % (3 : Int32))), (.int vw)])) _
      refine XS.iadd X109.here hx rfl (hb hby at_257) rfl ?_
      show Steps p.tables e below (T109.setTop (mkF m 258 #[.val (.int va), .val (.int vp), .val (.int vo), .val (.ref b1), .unset] [(.int (vw + (vo % (3 : Int32))))])) _
      refine XS.istore X109.here hx rfl (hb hby at_258) rfl (l' := #[.val (.int va), .val (.int vp), .val (.int vo), .val (.ref b1), .val (.int (vw + (vo % (3 : Int32))))]) rfl ?_
      show Steps p.tables e below (T109.setTop (mkF m 260 #[.val (.int va), .val (.int vp), .val (.int vo), .val (.ref b1), .val (.int (vw + (vo % (3 : Int32))))] [])) _
      exact k
    obtain ⟨vy, h_vy⟩ : ∃ z : Int32, z = (vw + (vo % (3 : Int32))) := ⟨_, rfl⟩
    have pre120 : ∀ t, Steps p.tables e below (T109.setTop (mkF m 260 #[.val (.int va), .val (.int vp), .val (.int vo), .val (.ref b1), .val (.int vy)] [])) t → Steps p.tables e below (s₁.setTop (entryFrame m #[(.int va), (.int vp), (.int vo)] maxLocals)) t := by
      subst h_vy
      exact pre119
    obtain ⟨_, _, ⟨T121, L121, k121, n121⟩, -, X121, ⟨Lc121, hQ121, l121, y121, z121⟩, st121⟩ := Jvm.LawKit.callS X109 hx (y := (⟨"com/example/nano_xpath/nanoxpath/XmlNames", "isNameStartCharacter", "(I)Z"⟩ : MethodName)) hown (mvT hZ (hw _ (List.mem_of_getElem? (i := 10) rfl))) (mvT hZ (hw _ (List.mem_of_getElem? (i := 11) rfl))) (mvT hZ (hw _ (List.mem_of_getElem? (i := 12) rfl))) (mvT hZ (hw _ (List.mem_of_getElem? (i := 13) rfl))) (by decide) (backOf (W := 0) (rm_isn l Z a0 hw [] vy h109 n0 Zp110 ) hZ (hw _ (List.mem_of_getElem? (i := 13) rfl)) (hw _ (List.mem_of_getElem? (i := 12) rfl)) (by decide) (by decide)) (g := (mkF m 262 #[.val (.int va), .val (.int vp), .val (.int vo), .val (.ref b1), .val (.int vy)] [(.int vy)])) rfl (by rw [hml]; rfl) (argsL := [(.int vy)]) (rest := []) (lenOf own_pd0 rfl) rfl (by show 2 * 0 + _ ≤ _; exact Nat.le_of_eq rfl) (hb hby at_262) (fun _ _ => ⟨rfl, e109, (by decide : 1 + 0 ≤ _), (by decide : 36 + 0 ≤ _)⟩)
    dsimp only [Pt.U, Pt.locs, Pt.cells, Pt.slots] at X121 l121 y121 z121 st121 hQ121
    rw [l121] at X121
    subst y121 z121
    obtain ⟨rfl, Nq121, hh121⟩ := hQ121
    have Nf121 := Fr.app N109 Nq121
    have pre122 : ∀ t, Steps p.tables e below (T121.setTop (mkF m 265 #[.val (.int va), .val (.int vp), .val (.int vo), .val (.ref b1), .val (.int vy)] [(.int (own_isn vy))])) t → Steps p.tables e below (s₁.setTop (entryFrame m #[(.int va), (.int vp), (.int vo)] maxLocals)) t := by
      intro t k
      refine pre120 t ?_
      show Steps p.tables e below (T109.setTop (mkF m 260 #[.val (.int va), .val (.int vp), .val (.int vo), .val (.ref b1), .val (.int vy)] [])) _
      refine XS.iload X109.here hx rfl (hb hby at_260) rfl ?_
      show Steps p.tables e below (T109.setTop (mkF m 262 #[.val (.int va), .val (.int vp), .val (.int vo), .val (.ref b1), .val (.int vy)] [(.int vy)])) _
      refine st121 _ ?_
      show Steps p.tables e below (T121.setTop (mkF m 265 #[.val (.int va), .val (.int vp), .val (.int vo), .val (.ref b1), .val (.int vy)] [(.int (own_isn vy))])) _
      exact k
    obtain ⟨vr, h_vr⟩ : ∃ z : Int32, z = (own_isn vy) := ⟨_, rfl⟩
    have pre123 : ∀ t, Steps p.tables e below (T121.setTop (mkF m 265 #[.val (.int va), .val (.int vp), .val (.int vo), .val (.ref b1), .val (.int vy)] [(.int vr)])) t → Steps p.tables e below (s₁.setTop (entryFrame m #[(.int va), (.int vp), (.int vo)] maxLocals)) t := by
      subst h_vr
      exact pre122
    obtain ⟨_, _, ⟨T124, L124, k124, n124⟩, -, X124, ⟨Lc124, hQ124, l124, y124, z124⟩, st124⟩ := Jvm.LawKit.callS X121 hx (y := (⟨"com/example/nano_xpath/nanoxpath/XmlNamesIsNameStartCharacterPinLaw", "expected", "(I)Z"⟩ : MethodName)) hown (mvT hZ (hw _ (List.mem_of_getElem? (i := 17) rfl))) (mvT hZ (hw _ (List.mem_of_getElem? (i := 18) rfl))) (mvT hZ (hw _ (List.mem_of_getElem? (i := 19) rfl))) (mvT hZ (hw _ (List.mem_of_getElem? (i := 20) rfl))) (by decide) (backOf (W := 1) (rm_ex l Z a0 hw [] vy h109 n0 Zp110 ) hZ (hw _ (List.mem_of_getElem? (i := 20) rfl)) (hw _ (List.mem_of_getElem? (i := 19) rfl)) (by decide) (by decide)) (g := (mkF m 267 #[.val (.int va), .val (.int vp), .val (.int vo), .val (.ref b1), .val (.int vy)] [(.int vy), (.int vr)])) rfl (by rw [hml]; rfl) (argsL := [(.int vy)]) (rest := [(.int vr)]) (lenOf own_pd0 rfl) rfl (by show 2 * 0 + _ ≤ _; exact Nat.le_of_eq rfl) (hb hby at_267) (fun _ _ => ⟨rfl, hh121, (by decide : 1 + 0 ≤ _), (by decide : 36 + 0 ≤ _)⟩)
    dsimp only [Pt.U, Pt.locs, Pt.cells, Pt.slots] at X124 l124 y124 z124 st124 hQ124
    rw [l124] at X124
    subst y124 z124
    obtain ⟨rfl, Nq124, hh124⟩ := hQ124
    have Nf124 := Fr.app Nf121 Nq124
    have pre125 : ∀ t, Steps p.tables e below (T124.setTop (mkF m 270 #[.val (.int va), .val (.int vp), .val (.int vo), .val (.ref b1), .val (.int vy)] [(.int (own_isn vy)), (.int vr)])) t → Steps p.tables e below (s₁.setTop (entryFrame m #[(.int va), (.int vp), (.int vo)] maxLocals)) t := by
      intro t k
      refine pre123 t ?_
      show Steps p.tables e below (T121.setTop (mkF m 265 #[.val (.int va), .val (.int vp), .val (.int vo), .val (.ref b1), .val (.int vy)] [(.int vr)])) _
      refine XS.iload X121.here hx rfl (hb hby at_265) rfl ?_
      show Steps p.tables e below (T121.setTop (mkF m 267 #[.val (.int va), .val (.int vp), .val (.int vo), .val (.ref b1), .val (.int vy)] [(.int vy), (.int vr)])) _
      refine st124 _ ?_
      show Steps p.tables e below (T124.setTop (mkF m 270 #[.val (.int va), .val (.int vp), .val (.int vo), .val (.ref b1), .val (.int vy)] [(.int (own_isn vy)), (.int vr)])) _
      exact k
    have hd126 : vr = (own_isn vy) := h_vr
    obtain ⟨fs, hr, hrun, hended, hW, hsame⟩ := X124.leave (v := some (.int (1 : Int32))) (fun h => by rw [Bd.returns] at h; cases h)
    refine ⟨_, _, pre125 _ ?_, hrun, hended, _, _, rfl, ?_, ⟨_, rfl⟩, hW, hsame.mono (by decide) (by decide)⟩
    · show Steps p.tables e below (T124.setTop (mkF m 270 #[.val (.int va), .val (.int vp), .val (.int vo), .val (.ref b1), .val (.int vy)] [(.int (own_isn vy)), (.int vr)])) _
      refine XS.icmpNo X124.here hx rfl (hb hby at_270) rfl (teq hd126).2 ?_
      show Steps p.tables e below (T124.setTop (mkF m 273 #[.val (.int va), .val (.int vp), .val (.int vo), .val (.ref b1), .val (.int vy)] [])) _
      refine XS.iconst X124.here hx rfl (hb hby at_273) ?_
      show Steps p.tables e below (T124.setTop (mkF m 274 #[.val (.int va), .val (.int vp), .val (.int vo), .val (.ref b1), .val (.int vy)] [(.int (1 : Int32))])) _
      refine XS.goto X124.here hx rfl (pc0 := 274) (pc' := 278) rfl (hb hby at_274) (by decide) (by decide) ?_
      show Steps p.tables e below (T124.setTop (mkF m 278 #[.val (.int va), .val (.int vp), .val (.int vo), .val (.ref b1), .val (.int vy)] [(.int (1 : Int32))])) _
      exact retN X124 hx (t := .boolean) Bd.returns (by simp) (hb hby at_278) hr
    · show Q0 Z va vp vo h0 n0 _ T124.heap _
      rw [hh124]
      exact ⟨rfl, Nf124⟩
  · obtain ⟨_, _, ⟨T127, L127, k127, n127⟩, -, X127, ⟨Lc127, hQ127, l127, y127, z127⟩, st127⟩ := Jvm.LawKit.callS X109 hx (y := (⟨"com/example/nano_xpath/nanoxpath/XmlNames", "isNameStartCharacter", "(I)Z"⟩ : MethodName)) hown (mvT hZ (hw _ (List.mem_of_getElem? (i := 10) rfl))) (mvT hZ (hw _ (List.mem_of_getElem? (i := 11) rfl))) (mvT hZ (hw _ (List.mem_of_getElem? (i := 12) rfl))) (mvT hZ (hw _ (List.mem_of_getElem? (i := 13) rfl))) (by decide) (backOf (W := 0) (rm_isn l Z a0 hw [] va h109 n0 Zp110 ) hZ (hw _ (List.mem_of_getElem? (i := 13) rfl)) (hw _ (List.mem_of_getElem? (i := 12) rfl)) (by decide) (by decide)) (g := (mkF m 262 #[.val (.int va), .val (.int vp), .val (.int vo), .val (.ref b1), .val (.int va)] [(.int va)])) rfl (by rw [hml]; rfl) (argsL := [(.int va)]) (rest := []) (lenOf own_pd0 rfl) rfl (by show 2 * 0 + _ ≤ _; exact Nat.le_of_eq rfl) (hb hby at_262) (fun _ _ => ⟨rfl, e109, (by decide : 1 + 0 ≤ _), (by decide : 36 + 0 ≤ _)⟩)
    dsimp only [Pt.U, Pt.locs, Pt.cells, Pt.slots] at X127 l127 y127 z127 st127 hQ127
    rw [l127] at X127
    subst y127 z127
    obtain ⟨rfl, Nq127, hh127⟩ := hQ127
    have Nf127 := Fr.app N109 Nq127
    have pre128 : ∀ t, Steps p.tables e below (T127.setTop (mkF m 265 #[.val (.int va), .val (.int vp), .val (.int vo), .val (.ref b1), .val (.int va)] [(.int (own_isn va))])) t → Steps p.tables e below (s₁.setTop (entryFrame m #[(.int va), (.int vp), (.int vo)] maxLocals)) t := by
      intro t k
      refine pre111 t ?_
      show Steps p.tables e below (T109.setTop (mkF m 237 #[.val (.int va), .val (.int vp), .val (.int vo), .val (.ref b1), .unset] [(.int (vp &&& (1 : Int32)))])) _
      refine XS.ifNo X109.here hx rfl (hb hby at_237) rfl ((if0 _ _).trans (feq hc112).1) ?_
      show Steps p.tables e below (T109.setTop (mkF m 240 #[.val (.int va), .val (.int vp), .val (.int vo), .val (.ref b1), .unset] [])) _
      refine XS.iloadN X109.here hx rfl (hb hby at_240) rfl ?_
      show Steps p.tables e below (T109.setTop (mkF m 241 #[.val (.int va), .val (.int vp), .val (.int vo), .val (.ref b1), .unset] [(.int va)])) _
      refine XS.istore X109.here hx rfl (hb hby at_241) rfl (l' := #[.val (.int va), .val (.int vp), .val (.int vo), .val (.ref b1), .val (.int va)]) rfl ?_
      show Steps p.tables e below (T109.setTop (mkF m 243 #[.val (.int va), .val (.int vp), .val (.int vo), .val (.ref b1), .val (.int va)] [])) _
      refine XS.goto X109.here hx rfl (pc0 := 243) (pc' := 260) rfl (hb hby at_243) (by decide) (by decide) ?_
      show Steps p.tables e below (T109.setTop (mkF m 260 #[.val (.int va), .val (.int vp), .val (.int vo), .val (.ref b1), .val (.int va)] [])) _
      refine XS.iload X109.here hx rfl (hb hby at_260) rfl ?_
      show Steps p.tables e below (T109.setTop (mkF m 262 #[.val (.int va), .val (.int vp), .val (.int vo), .val (.ref b1), .val (.int va)] [(.int va)])) _
      refine st127 _ ?_
      show Steps p.tables e below (T127.setTop (mkF m 265 #[.val (.int va), .val (.int vp), .val (.int vo), .val (.ref b1), .val (.int va)] [(.int (own_isn va))])) _
      exact k
    obtain ⟨vr, h_vr⟩ : ∃ z : Int32, z = (own_isn va) := ⟨_, rfl⟩
    have pre129 : ∀ t, Steps p.tables e below (T127.setTop (mkF m 265 #[.val (.int va), .val (.int vp), .val (.int vo), .val (.ref b1), .val (.int va)] [(.int vr)])) t → Steps p.tables e below (s₁.setTop (entryFrame m #[(.int va), (.int vp), (.int vo)] maxLocals)) t := by
      subst h_vr
      exact pre128
    obtain ⟨_, _, ⟨T130, L130, k130, n130⟩, -, X130, ⟨Lc130, hQ130, l130, y130, z130⟩, st130⟩ := Jvm.LawKit.callS X127 hx (y := (⟨"com/example/nano_xpath/nanoxpath/XmlNamesIsNameStartCharacterPinLaw", "expected", "(I)Z"⟩ : MethodName)) hown (mvT hZ (hw _ (List.mem_of_getElem? (i := 17) rfl))) (mvT hZ (hw _ (List.mem_of_getElem? (i := 18) rfl))) (mvT hZ (hw _ (List.mem_of_getElem? (i := 19) rfl))) (mvT hZ (hw _ (List.mem_of_getElem? (i := 20) rfl))) (by decide) (backOf (W := 1) (rm_ex l Z a0 hw [] va h109 n0 Zp110 ) hZ (hw _ (List.mem_of_getElem? (i := 20) rfl)) (hw _ (List.mem_of_getElem? (i := 19) rfl)) (by decide) (by decide)) (g := (mkF m 267 #[.val (.int va), .val (.int vp), .val (.int vo), .val (.ref b1), .val (.int va)] [(.int va), (.int vr)])) rfl (by rw [hml]; rfl) (argsL := [(.int va)]) (rest := [(.int vr)]) (lenOf own_pd0 rfl) rfl (by show 2 * 0 + _ ≤ _; exact Nat.le_of_eq rfl) (hb hby at_267) (fun _ _ => ⟨rfl, hh127, (by decide : 1 + 0 ≤ _), (by decide : 36 + 0 ≤ _)⟩)
    dsimp only [Pt.U, Pt.locs, Pt.cells, Pt.slots] at X130 l130 y130 z130 st130 hQ130
    rw [l130] at X130
    subst y130 z130
    obtain ⟨rfl, Nq130, hh130⟩ := hQ130
    have Nf130 := Fr.app Nf127 Nq130
    have pre131 : ∀ t, Steps p.tables e below (T130.setTop (mkF m 270 #[.val (.int va), .val (.int vp), .val (.int vo), .val (.ref b1), .val (.int va)] [(.int (own_isn va)), (.int vr)])) t → Steps p.tables e below (s₁.setTop (entryFrame m #[(.int va), (.int vp), (.int vo)] maxLocals)) t := by
      intro t k
      refine pre129 t ?_
      show Steps p.tables e below (T127.setTop (mkF m 265 #[.val (.int va), .val (.int vp), .val (.int vo), .val (.ref b1), .val (.int va)] [(.int vr)])) _
      refine XS.iload X127.here hx rfl (hb hby at_265) rfl ?_
      show Steps p.tables e below (T127.setTop (mkF m 267 #[.val (.int va), .val (.int vp), .val (.int vo), .val (.ref b1), .val (.int va)] [(.int va), (.int vr)])) _
      refine st130 _ ?_
      show Steps p.tables e below (T130.setTop (mkF m 270 #[.val (.int va), .val (.int vp), .val (.int vo), .val (.ref b1), .val (.int va)] [(.int (own_isn va)), (.int vr)])) _
      exact k
    have hd132 : vr = (own_isn va) := h_vr
    obtain ⟨fs, hr, hrun, hended, hW, hsame⟩ := X130.leave (v := some (.int (1 : Int32))) (fun h => by rw [Bd.returns] at h; cases h)
    refine ⟨_, _, pre131 _ ?_, hrun, hended, _, _, rfl, ?_, ⟨_, rfl⟩, hW, hsame.mono (by decide) (by decide)⟩
    · show Steps p.tables e below (T130.setTop (mkF m 270 #[.val (.int va), .val (.int vp), .val (.int vo), .val (.ref b1), .val (.int va)] [(.int (own_isn va)), (.int vr)])) _
      refine XS.icmpNo X130.here hx rfl (hb hby at_270) rfl (teq hd132).2 ?_
      show Steps p.tables e below (T130.setTop (mkF m 273 #[.val (.int va), .val (.int vp), .val (.int vo), .val (.ref b1), .val (.int va)] [])) _
      refine XS.iconst X130.here hx rfl (hb hby at_273) ?_
      show Steps p.tables e below (T130.setTop (mkF m 274 #[.val (.int va), .val (.int vp), .val (.int vo), .val (.ref b1), .val (.int va)] [(.int (1 : Int32))])) _
      refine XS.goto X130.here hx rfl (pc0 := 274) (pc' := 278) rfl (hb hby at_274) (by decide) (by decide) ?_
      show Steps p.tables e below (T130.setTop (mkF m 278 #[.val (.int va), .val (.int vp), .val (.int vo), .val (.ref b1), .val (.int va)] [(.int (1 : Int32))])) _
      exact retN X130 hx (t := .boolean) Bd.returns (by simp) (hb hby at_278) hr
    · show Q0 Z va vp vo h0 n0 _ T130.heap _
      rw [hh130]
      exact ⟨rfl, Nf130⟩
set_option maxRecDepth 65536 in
set_option maxHeartbeats 40000000 in
theorem comes_1 {Post : Tables → Env → Array Value → State → Outcome → State → Prop} (hpost : ∀ tb e args s v u, (limb_1_1.after args s (.returned v) u = true ∧ limb_1_2.after args s (.returned v) u = true ∧ True) → FrameEnd s (.returned v) u (Jvm.fieldLocs frame_1_writes args s ++ Jvm.arrayLocs frame_1_arrays args s ++ Jvm.staticLocs frame_1_statics s) 16 192 → Post tb e args s (.returned v) u) :
    ArmFor flags0 classFile x code maxLocals ret World_1 tables_1 room_1 Calls_1 rest_1 Pre_1 Post := by
  intro l hfl _ _ p e ha hc hk s m args below hf hA hF happ hP
  obtain ⟨hcalls, hrest, hpre⟩ := hP
  obtain ⟨-, -, -, hnamed, -, -, -, hat⟩ := (Spec.applies_iff hf).mp happ
  obtain ⟨hg, hn⟩ := and_e (Cond.before_iff.mp (show (Jvm.Cond.and given_1 narrow_1).before args s = true from hpre))
  obtain ⟨ga1, gb1⟩ := and_e hg
  obtain ⟨ga2, gb2⟩ := and_e gb1
  obtain ⟨ga3, gb3⟩ := and_e gb2
  obtain ⟨w0, w1, w2, rfl⟩ : ∃ w0 w1 w2 : Value, args = #[w0, w1, w2] := by
    have hs : args.size = 3 := by simpa [Cond.value, given_1] using ga1
    obtain ⟨L⟩ := args
    match L, hs with
    | [w0, w1, w2], _ => exact ⟨w0, w1, w2, rfl⟩
  have hw := fun d (hd : d ∈ tables_1) => atoms_spec (ws := Jvm.Cond.code x code maxLocals ret :: tables_1) hat d (List.mem_cons_of_mem _ hd)
  have hfit : Fit s := fun {y c} hc i hi => by
    obtain ⟨ha, rfl⟩ := Array.getElem?_eq_some_iff.mp hc
    have q := List.all_eq_true.mp ((Array.all_eq_true_iff_forall_mem.mp hF) _ (Array.getElem_mem ha)) i (List.mem_range.mpr hi)
    simpa [Array.getElem?_eq_getElem hi] using q
  obtain ⟨i0, ei0⟩ := is_v ga2
  obtain rfl : w0 = (.int i0) := Option.some.inj ei0
  obtain ⟨i1, ei1⟩ := is_v ga3
  obtain rfl : w1 = (.int i1) := Option.some.inj ei1
  obtain ⟨i2, ei2⟩ := is_v gb3
  obtain rfl : w2 = (.int i2) := Option.some.inj ei2
  obtain ⟨n, o, h1, h2, h3, _, L, rfl, ⟨rfl, N⟩, hq⟩ := rm0 l s _ hw tables_1 i0 i1 i2 s.heap s.heap.size (Nat.le_refl _)  p e ha hc hk s m _ below hf ((Spec.applies_iff_loose hf).mp happ).1 ⟨rfl, State.Warmed39.refl s, rfl⟩ trivial
  refine ⟨n, _, h1, h2, h3, hpost _ _ _ _ _ _ ⟨Cond.after_iff.mpr rfl, Cond.after_iff.mpr (eq_i res_at (Term.int_eval (1)) rfl), trivial⟩ ⟨hq.1, hq.2.1, (hq.2.2.sift fun y hy => Or.inr (N y hy)).mono (by decide) (by decide)⟩⟩
theorem main_1_1 : Claimed_1_1 := comes_1 fun _ _ _ _ _ _ h hF => ⟨h.1, hF⟩
theorem main_1_2 : Claimed_1_2 := comes_1 fun _ _ _ _ _ _ h hF => ⟨h.2.1, hF⟩
end Jvm.Pilot.@@N@@
namespace Jvm.Pilot.@@N@@
open Jvm Jvm.ClassFile Sem Op Lib Jvm.Free Jvm.Stand Jvm.Pilot.@@N@@.Jvm.D
/-! MADE BY PROGRAM (witnessworld.py) out of the Statement's table words and the real class files: 9 classes; the members and pool entries that the words name. The judged class is class 1, her method 1. -/
namespace start1
open Jvm.ClassFile
def u (s : String) : CpInfo := .utf8 (stringToUtf16 s)
/-- a pool by its gaps: so many unusable entries, then the entry; so many at the end -/
def gap : Nat → List CpInfo → List CpInfo
  | 0, r => r
  | n + 1, r => .unusable :: gap n r
def poolList (es : List (Nat × CpInfo)) (last : Nat) : List CpInfo := es.foldr (fun e r => gap e.1 (e.2 :: r)) (gap last [])
def pool (es : List (Nat × CpInfo)) (last : Nat) : Array CpInfo := ⟨poolList es last⟩
def fileOf (pool : Array CpInfo) (this : Nat) (attrs : Array Attribute := #[]) (ms : Array MethodInfo := #[]) (fl : Nat := 33) (sup : Nat := 0) (ifs : Array Nat := #[]) (fds : Array FieldInfo := #[]) : ClassFile where
  minorVersion := 0
  majorVersion := 65
  constantPool := pool
  accessFlags := fl
  thisClass := this
  superClass := sup
  interfaces := ifs
  fields := fds
  methods := ms
  attributes := attrs
def plain (name : String) (sup : Option ClassId) : Class where
  name := name
  kind := .ordinary
  loader := none
  accessFlags := 33
  super := sup
  interfaces := #[]
  cf := none
  fields := #[]
  methods := #[]
  instanceTypes := #[]
  staticTypes := #[]
  resolved := #[]
  callSites := []
  init := .initialized
  statics := none
  mirror := none

def pool0 : Array CpInfo := pool [(5, u "<init>"), (0, u "()V"), (1, .class_ 10), (1, u "java/lang/Object")] 113

def k0m0 : Method := { name := "<init>", desc := "()V", sig := { parameters := [], returnType := none }, accessFlags := 1, code := none }
/-- java/lang/Object -/
def k0 : Class := { plain "java/lang/Object" none with
  accessFlags := 33
  interfaces := #[]
  cf := some (fileOf pool0 8 #[] #[{ accessFlags := 1, nameIndex := 5, descriptorIndex := 6, attributes := #[] }] 33 0 #[] #[])
  fields := #[]
  methods := #[k0m0]
  instanceTypes := #[]
  staticTypes := #[]
  resolved := Array.replicate 124 none
  statics := none }

def pool1 : Array CpInfo := pool [(2, .class_ 4), (1, u "java/lang/Object"), (0, u "<init>"), (0, u "()V"), (0, .integer 55295), (0, .integer 63744), (0, .integer 64975), (0, .integer 65008), (0, .integer 65533), (0, .integer 65536), (0, .integer 983039), (2, .integer 2147483648), (0, .integer 2147483647), (0, .methodref 19 20), (0, .class_ 21), (0, .nameAndType 22 23), (0, u "com/example/nano_xpath/nanoxpath/XmlNames"), (0, u "isNameStartCharacter"), (0, u "(I)Z"), (0, .methodref 25 26), (0, .class_ 27), (0, .nameAndType 28 23), (0, u "com/example/nano_xpath/nanoxpath/XmlNamesIsNameStartCharacterPinLaw"), (0, u "expected"), (0, .integer 55296), (0, .integer 64976), (0, .integer 65534), (0, .integer 983040), (2, u "law"), (0, u "(III)Z")] 5

def k1m0 : Method := { name := "<init>", desc := "()V", sig := { parameters := [], returnType := none }, accessFlags := 2, code := none }
def k1c1 : Code := { maxStack := 4, maxLocals := 5, code := code, exceptionTable := #[], attributes := #[] }
def k1m1 : Method := { name := "law", desc := "(III)Z", sig := { parameters := [.int, .int, .int], returnType := some .boolean }, accessFlags := 9, code := some k1c1 }
def k1c2 : Code := { maxStack := 2, maxLocals := 1, code := method_3_code, exceptionTable := #[], attributes := #[] }
def k1m2 : Method := { name := "expected", desc := "(I)Z", sig := { parameters := [.int], returnType := some .boolean }, accessFlags := 10, code := some k1c2 }
/-- com/example/nano_xpath/nanoxpath/XmlNamesIsNameStartCharacterPinLaw -/
def k1 : Class := { plain "com/example/nano_xpath/nanoxpath/XmlNamesIsNameStartCharacterPinLaw" (some 0) with
  accessFlags := 49
  interfaces := #[]
  cf := some (fileOf pool1 25 #[] #[{ accessFlags := 2, nameIndex := 5, descriptorIndex := 6, attributes := #[] }, { accessFlags := 9, nameIndex := 35, descriptorIndex := 36, attributes := #[] }, { accessFlags := 10, nameIndex := 28, descriptorIndex := 23, attributes := #[] }] 49 2 #[] #[])
  fields := #[]
  methods := #[k1m0, k1m1, k1m2]
  instanceTypes := #[]
  staticTypes := #[]
  resolved := Array.replicate 42 none
  statics := none }

def pool2 : Array CpInfo := pool [(2, .class_ 4), (1, u "java/lang/Object"), (0, u "<init>"), (0, u "()V"), (1, .class_ 10), (1, u "com/example/nano_xpath/nanoxpath/XmlNames"), (33, u "(I)Z"), (7, u "isNameStartCharacter"), (4, .integer 55295), (0, .integer 63744), (0, .integer 64975), (0, .integer 65008), (0, .integer 65533), (0, .integer 65536), (0, .integer 983039)] 8

def k2m0 : Method := { name := "<init>", desc := "()V", sig := { parameters := [], returnType := none }, accessFlags := 2, code := none }
def k2c1 : Code := { maxStack := 2, maxLocals := 1, code := prog_198_method_7_code, exceptionTable := #[], attributes := #[] }
def k2m1 : Method := { name := "isNameStartCharacter", desc := "(I)Z", sig := { parameters := [.int], returnType := some .boolean }, accessFlags := 8, code := some k2c1 }
/-- com/example/nano_xpath/nanoxpath/XmlNames -/
def k2 : Class := { plain "com/example/nano_xpath/nanoxpath/XmlNames" (some 0) with
  accessFlags := 48
  interfaces := #[]
  cf := some (fileOf pool2 8 #[] #[{ accessFlags := 2, nameIndex := 5, descriptorIndex := 6, attributes := #[] }, { accessFlags := 8, nameIndex := 52, descriptorIndex := 44, attributes := #[] }] 48 2 #[] #[])
  fields := #[]
  methods := #[k2m0, k2m1]
  instanceTypes := #[]
  staticTypes := #[]
  resolved := Array.replicate 72 none
  statics := none }

def pool3 : Array CpInfo := pool [(1, u "java/lang/Cloneable"), (0, .class_ 1), (0, u "java/lang/Object"), (0, .class_ 3)] 3

/-- java/lang/Cloneable -/
def k3 : Class := { plain "java/lang/Cloneable" (some 0) with
  accessFlags := 1537
  interfaces := #[]
  cf := some (fileOf pool3 2 #[] #[] 1537 4 #[] #[])
  fields := #[]
  methods := #[]
  instanceTypes := #[]
  staticTypes := #[]
  resolved := Array.replicate 8 none
  statics := none }

def pool4 : Array CpInfo := pool [(1, u "java/io/Serializable"), (0, .class_ 1), (0, u "java/lang/Object"), (0, .class_ 3)] 3

/-- java/io/Serializable -/
def k4 : Class := { plain "java/io/Serializable" (some 0) with
  accessFlags := 1537
  interfaces := #[]
  cf := some (fileOf pool4 2 #[] #[] 1537 4 #[] #[])
  fields := #[]
  methods := #[]
  instanceTypes := #[]
  staticTypes := #[]
  resolved := Array.replicate 8 none
  statics := none }

/-- the primitive byte -/
def k5 : Class := { plain "byte" none with kind := .primitive 'B', accessFlags := 0x411 }
/-- [B -/
def k6 : Class := { plain "[B" (some 0) with kind := .array 5 .byte, interfaces := #[3, 4], accessFlags := 1041 }

/-- the primitive int -/
def k7 : Class := { plain "int" none with kind := .primitive 'I', accessFlags := 0x411 }
/-- [I -/
def k8 : Class := { plain "[I" (some 0) with kind := .array 7 .int, interfaces := #[3, 4], accessFlags := 1041 }

def heap : Heap := #[]
def classes : Array Class := #[k0, k1, k2, k3, k4, k5, k6, k7, k8]
def interned : List (Array UInt16 × Addr) := []
def slotsUsed : Nat := 0
def theMethod : MethodId := ⟨1, 1⟩
def args0 : Array Value := #[.int 5, .int 7, .int 9]
def aboutOver (below : List Frame) : State where
  vm := { classes := classes, interned := interned.toArray }
  heap := heap
  slotsUsed := slotsUsed
  threads := #[{ frames := .invoking theMethod args0 :: below }]
def below0 : List Frame := [.native { method := ⟨0, 0⟩, args := #[] }]
def about1 : State := aboutOver below0
def p0 : Program := .bare "" "" ""
def e0 : Env := launch0.env 0 0 0
theorem w_frames : about1.frames = Frame.invoking theMethod args0 :: below0 := rfl
set_option maxRecDepth 65536 in
theorem w_args : argsFit about1.vm theMethod args0 = true := by decide +kernel
set_option maxRecDepth 65536 in
theorem w_heap : heapFits about1 = true := by decide +kernel
set_option maxRecDepth 65536 in
theorem w_runnable : about1.curStatus? = some .runnable := by decide +kernel
set_option maxRecDepth 65536 in
theorem w_alone : about1.alone = true := by decide +kernel
set_option maxRecDepth 65536 in
theorem w_named : about1.methodNamed? x = some theMethod := by decide +kernel
set_option maxRecDepth 65536 in
theorem w_hears : about1.hears theMethod below0 = true := by decide +kernel
set_option maxRecDepth 65536 in
theorem w_ripe : about1.ripe theMethod args0 below0 = true := by decide +kernel
theorem w_running : about1.status = .running := rfl
set_option maxRecDepth 65536 in
theorem w_room : about1.hasRoom e0.platform room_1 = true :=
  launch0.hasRoom_least _ room_1 (by decide +kernel) (by decide +kernel) (by decide +kernel) (by decide +kernel) (by decide +kernel) (by decide +kernel)
theorem allAtoms_all (ts : List Jvm.Cond) (a : Array Jvm.Value) (st : Jvm.State) : (allAtoms ts).before a st = ts.all (fun c => c.before a st) := by
  induction ts with
  | nil => rfl
  | cons c t ih =>
    show (Jvm.Cond.and c (allAtoms t)).before a st = _
    rw [Jvm.Cond.before_and, ih, List.all_cons]
def words1 : List Jvm.Cond := Jvm.Cond.code x code maxLocals ret :: tables_1
/-- a 'code' word, met by the world's own term for the bytes: nothing is compared byte by byte -/
theorem code_word {y : MethodName} {bytes : ByteArray} {mx : Nat} {rt : Option FieldType} {a : Array Value} {s : State} {m : MethodId} {meth : Method} {c : Code} (h1 : s.methodNamed? y = some m) (h2 : s.vm.method? m = some meth) (h3 : meth.code = some c) (h4 : c.code = bytes)
    (h5 : (c.maxLocals == mx && c.exceptionTable.isEmpty && decide (c.maxStack ≤ mostOperands) && decide (meth.sig.returnType = rt) && !meth.locks && decide (parseMethodDescriptor y.desc = some meth.sig)) = true) : (Jvm.Cond.code y bytes mx rt).before a s = true := by
  simp only [Bool.and_eq_true, beq_iff_eq, Bool.not_eq_true', decide_eq_true_eq] at h5
  obtain ⟨⟨⟨⟨⟨g1, g2⟩, g3⟩, g4⟩, g5⟩, g6⟩ := h5
  simp [Cond.before, Cond.holds, Cond.value, h1, h2, h3, h4, g1, g2, g3, g4, g5, g6]
def isCode : Jvm.Cond → Bool
  | .code _ _ _ _ => true
  | _ => false
theorem all_split {L : List Jvm.Cond} {P : Jvm.Cond → Bool} (h1 : L.all (fun c => isCode c || P c) = true) (h2 : ∀ c ∈ L.filter isCode, P c = true) : L.all P = true := by
  refine List.all_eq_true.mpr fun c hc => ?_
  have h := List.all_eq_true.mp h1 c hc
  rcases Bool.eq_false_or_eq_true (isCode c) with hi | hi
  · exact h2 c (List.mem_filter.mpr ⟨hc, hi⟩)
  · simpa [hi] using h
set_option maxRecDepth 65536 in
theorem w_c0 : (Jvm.Cond.code x code maxLocals ret).before args0 about1 = true := code_word (m := ⟨1, 1⟩) (meth := k1m1) (c := k1c1) (by decide +kernel) rfl rfl rfl (by decide +kernel)
set_option maxRecDepth 65536 in
theorem w_c1 : (Jvm.Cond.code ({ cls := "com/example/nano_xpath/nanoxpath/XmlNames", name := "isNameStartCharacter", desc := "(I)Z" } : Jvm.MethodName) prog_198_method_7_code (1 : Nat) (Option.some Jvm.ClassFile.FieldType.boolean)).before args0 about1 = true := code_word (m := ⟨2, 1⟩) (meth := k2m1) (c := k2c1) (by decide +kernel) rfl rfl rfl (by decide +kernel)
set_option maxRecDepth 65536 in
theorem w_c2 : (Jvm.Cond.code ({ cls := "com/example/nano_xpath/nanoxpath/XmlNamesIsNameStartCharacterPinLaw", name := "expected", desc := "(I)Z" } : Jvm.MethodName) method_3_code (1 : Nat) (Option.some Jvm.ClassFile.FieldType.boolean)).before args0 about1 = true := code_word (m := ⟨1, 2⟩) (meth := k1m2) (c := k1c2) (by decide +kernel) rfl rfl rfl (by decide +kernel)
def codes1 : List Jvm.Cond := [Jvm.Cond.code x code maxLocals ret, Jvm.Cond.code ({ cls := "com/example/nano_xpath/nanoxpath/XmlNames", name := "isNameStartCharacter", desc := "(I)Z" } : Jvm.MethodName) prog_198_method_7_code (1 : Nat) (Option.some Jvm.ClassFile.FieldType.boolean), Jvm.Cond.code ({ cls := "com/example/nano_xpath/nanoxpath/XmlNamesIsNameStartCharacterPinLaw", name := "expected", desc := "(I)Z" } : Jvm.MethodName) method_3_code (1 : Nat) (Option.some Jvm.ClassFile.FieldType.boolean)]
set_option maxRecDepth 65536 in
theorem codes_eq : words1.filter isCode = codes1 := rfl
theorem w_codes : ∀ c ∈ words1.filter isCode, c.before args0 about1 = true := by
  rw [codes_eq]
  intro c hc
  simp only [codes1, List.mem_cons, List.not_mem_nil, or_false] at hc
  rcases hc with rfl | rfl | rfl
  · exact w_c0
  · exact w_c1
  · exact w_c2
set_option maxRecDepth 65536 in
theorem w_t1 : (words1.take 24).all (fun c => isCode c || c.before args0 about1) = true := by decide +kernel
set_option maxRecDepth 65536 in
theorem w_t2 : (words1.drop 24).all (fun c => isCode c || c.before args0 about1) = true := by decide +kernel
theorem w_tables : (allAtoms (Jvm.Cond.code x code maxLocals ret :: tables_1)).before args0 about1 = true := by
  rw [allAtoms_all]
  show words1.all (fun c => c.before args0 about1) = true
  refine all_split ?_ w_codes
  rw [← List.take_append_drop 24 words1, List.all_append, w_t1, w_t2]
  rfl
set_option maxRecDepth 65536 in
theorem w_case : (Jvm.Cond.and given_1 narrow_1).before args0 about1 = true := by decide +kernel
theorem w_applies : (headSpec (Jvm.Cond.code x code maxLocals ret :: tables_1) room_1).applies x e0.platform about1 = true :=
  (Spec.applies_iff w_frames).mpr ⟨w_running, w_runnable, w_alone, w_named, w_hears, w_ripe, w_room, w_tables⟩
theorem atStart : AtStart classFile x code maxLocals ret World_1 tables_1 room_1 Calls_1 rest_1 Pre_1 launch0 p0 e0 about1 theMethod args0 below0 :=
  ⟨lists_1, trivial, launch0.admits_env _ _ _, launch0.least_env, fairChoices_fair.cas, fairChoices_fair.clock, w_frames, w_args, w_heap, w_applies, trivial, trivial, w_case⟩
end start1
theorem witness_1 : WitnessClaimed_1 := ⟨start1.p0, start1.e0, start1.about1, start1.theMethod, start1.args0, start1.below0, start1.atStart⟩
end Jvm.Pilot.@@N@@
