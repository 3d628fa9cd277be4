import JvmDerived
import JvmDerived.Pilot.@@N@@Statement
import JvmDerived.Pilot.@@N@@Code
set_option linter.unusedVariables false
set_option linter.unusedSimpArgs false
namespace Jvm.RoadKit
open Sem ClassFile Op Lib Jvm.Stand Jvm.Free Jvm.LawKit
section New
variable {p : Program} {l : Launch} {e : Env} {R : Room} {s : State} {m : MethodId} {args : Array Value} {below : List Frame} {meth : Method} {c : Code} {T : State} {locs : List Loc} {cells slots : Nat}
theorem retI (X : Stand p l e R s m args below meth c T locs cells slots) (hx : p.tables.exec = Jvm.exec) {pc : Nat} {Ls : Array Slot} {z : Int32} {rest : List Value} (hret : meth.sig.returnType = some .int) (hd : decode c.code pc = .ok (.ireturn, 1)) {fs : List Frame}
    (hl : ∀ (f : JFrame) (acts : List Action), f.method = m → f.locked = none → f.entered = [] → (doReturn e (T.setTop f) acts (some (.int z))).1 = T.setFrames fs) : Steps p.tables e below (T.setTop (mkF m pc Ls (.int z :: rest))) (T.setFrames fs) := by
  have hm' : T.vm.method? m = some meth := X.method'
  have hn : narrow .int (.int z) = .int z := rfl
  show Steps p.tables e below (T.setTop { method := m, pc := pc, locals := Ls, stack := _ :: rest, locked := none }) _
  jvm_step X.here [X.here.top, hx, hd, hm', hret, hn]
  first | (intro acts; rw [hl _ acts rfl rfl rfl]) | rw [hl _ _ rfl rfl rfl]
  exact Steps.refl _
end New
end Jvm.RoadKit
namespace Jvm.Pilot.@@N@@
open Jvm Jvm.ClassFile Sem Op Lib Jvm.Free Jvm.Stand Jvm.LawKit Jvm.RoadKit Bundle Jvm.Pilot.@@N@@.Jvm.D
theorem own_ord {args : Array Value} {s : State} {t : Term} {a : Addr} {C n d : String} {k : Int32} (ev : t.eval args s none [] s = some (.ref a)) (h : (Jvm.Cond.eq (Term.field t C n d) (Term.int k)).value args s none s [] = some true) : s.fieldOf? a C n d = some (.int k) := by
  obtain ⟨x, y, hx, hy, -, k2⟩ := cmp_v (Or.inl h)
  have hy' : y = .int k := (Option.some.inj hy).symm
  subst hy'
  obtain ⟨z, rfl⟩ := k2
  have hz : z = k := gotT (Cond.eq_ints hx hy) h
  subst hz
  rw [← fld_at ev]; exact hx
def own_pick (vk : Int32) (ad_WAITING ad_ADMITTED ad_CANCELLED ad_ENDED ad_SESSION_EXPIRED ad_EXPIRED ad_SOLD_OUT ad_CLOSED : Addr) : Addr := if vk = 0 then ad_WAITING else if vk = 1 then ad_ADMITTED else if vk = 2 then ad_CANCELLED else if vk = 3 then ad_ENDED else if vk = 4 then ad_SESSION_EXPIRED else if vk = 5 then ad_EXPIRED else if vk = 6 then ad_SOLD_OUT else ad_CLOSED
theorem own_pick_all {P : Addr → Prop} {vk : Int32} {ad_WAITING ad_ADMITTED ad_CANCELLED ad_ENDED ad_SESSION_EXPIRED ad_EXPIRED ad_SOLD_OUT ad_CLOSED : Addr} (h0 : P ad_WAITING) (h1 : P ad_ADMITTED) (h2 : P ad_CANCELLED) (h3 : P ad_ENDED) (h4 : P ad_SESSION_EXPIRED) (h5 : P ad_EXPIRED) (h6 : P ad_SOLD_OUT) (h7 : P ad_CLOSED) : P (own_pick vk ad_WAITING ad_ADMITTED ad_CANCELLED ad_ENDED ad_SESSION_EXPIRED ad_EXPIRED ad_SOLD_OUT ad_CLOSED) := by
  unfold own_pick
  repeat' split
  all_goals assumption
theorem own_act {vk : Int32} {ad_WAITING ad_ADMITTED ad_CANCELLED ad_ENDED ad_SESSION_EXPIRED ad_EXPIRED ad_SOLD_OUT ad_CLOSED : Addr} (n2 : ad_CANCELLED ≠ ad_WAITING) (n3 : ad_ENDED ≠ ad_WAITING) (n4 : ad_SESSION_EXPIRED ≠ ad_WAITING) (n5 : ad_EXPIRED ≠ ad_WAITING) (n6 : ad_SOLD_OUT ≠ ad_WAITING) (n7 : ad_CLOSED ≠ ad_WAITING) (m2 : ad_CANCELLED ≠ ad_ADMITTED) (m3 : ad_ENDED ≠ ad_ADMITTED) (m4 : ad_SESSION_EXPIRED ≠ ad_ADMITTED) (m5 : ad_EXPIRED ≠ ad_ADMITTED) (m6 : ad_SOLD_OUT ≠ ad_ADMITTED) (m7 : ad_CLOSED ≠ ad_ADMITTED) : (if own_pick vk ad_WAITING ad_ADMITTED ad_CANCELLED ad_ENDED ad_SESSION_EXPIRED ad_EXPIRED ad_SOLD_OUT ad_CLOSED = ad_WAITING ∨ own_pick vk ad_WAITING ad_ADMITTED ad_CANCELLED ad_ENDED ad_SESSION_EXPIRED ad_EXPIRED ad_SOLD_OUT ad_CLOSED = ad_ADMITTED then (1 : Int32) else 0) = if vk = 0 ∨ vk = 1 then 1 else 0 := by
  by_cases h0 : vk = 0
  · rw [if_pos (Or.inl h0), if_pos (Or.inl (by rw [own_pick, if_pos h0]))]
  · by_cases h1 : vk = 1
    · rw [if_pos (Or.inr h1), if_pos (Or.inr (by rw [own_pick, if_neg h0, if_pos h1]))]
    · have q : own_pick vk ad_WAITING ad_ADMITTED ad_CANCELLED ad_ENDED ad_SESSION_EXPIRED ad_EXPIRED ad_SOLD_OUT ad_CLOSED ≠ ad_WAITING ∧ own_pick vk ad_WAITING ad_ADMITTED ad_CANCELLED ad_ENDED ad_SESSION_EXPIRED ad_EXPIRED ad_SOLD_OUT ad_CLOSED ≠ ad_ADMITTED := by
        unfold own_pick
        rw [if_neg h0, if_neg h1]
        repeat' split
        all_goals constructor <;> assumption
      rw [if_neg (fun x => x.elim q.1 q.2), if_neg (fun x => x.elim h0 h1)]
theorem own_pd0 : parseMethodDescriptor "(I)Lcom/example/turnstyle/turnstyle/domain/TicketState;" = some ⟨[.int], some (.object "com/example/turnstyle/turnstyle/domain/TicketState")⟩ := by decide +kernel
theorem own_pd1 : parseMethodDescriptor "()Z" = some ⟨[], some .boolean⟩ := by decide +kernel
theorem d1_0 : decode method_3_code 0 = .ok (.iload_n 0, 1) := by decide +kernel
theorem d1_1 : decode method_3_code 1 = .ok (.ifCond .ne 7, 3) := by decide +kernel
theorem d1_4 : decode method_3_code 4 = .ok (.getstatic 19, 3) := by decide +kernel
theorem d1_7 : decode method_3_code 7 = .ok (.areturn, 1) := by decide +kernel
theorem d1_8 : decode method_3_code 8 = .ok (.iload_n 0, 1) := by decide +kernel
theorem d1_9 : decode method_3_code 9 = .ok (.iconst 1, 1) := by decide +kernel
theorem d1_10 : decode method_3_code 10 = .ok (.if_icmp .ne 7, 3) := by decide +kernel
theorem d1_13 : decode method_3_code 13 = .ok (.getstatic 23, 3) := by decide +kernel
theorem d1_16 : decode method_3_code 16 = .ok (.areturn, 1) := by decide +kernel
theorem d1_17 : decode method_3_code 17 = .ok (.iload_n 0, 1) := by decide +kernel
theorem d1_18 : decode method_3_code 18 = .ok (.iconst 2, 1) := by decide +kernel
theorem d1_19 : decode method_3_code 19 = .ok (.if_icmp .ne 7, 3) := by decide +kernel
theorem d1_22 : decode method_3_code 22 = .ok (.getstatic 26, 3) := by decide +kernel
theorem d1_25 : decode method_3_code 25 = .ok (.areturn, 1) := by decide +kernel
theorem d1_26 : decode method_3_code 26 = .ok (.iload_n 0, 1) := by decide +kernel
theorem d1_27 : decode method_3_code 27 = .ok (.iconst 3, 1) := by decide +kernel
theorem d1_28 : decode method_3_code 28 = .ok (.if_icmp .ne 7, 3) := by decide +kernel
theorem d1_31 : decode method_3_code 31 = .ok (.getstatic 29, 3) := by decide +kernel
theorem d1_34 : decode method_3_code 34 = .ok (.areturn, 1) := by decide +kernel
theorem d1_35 : decode method_3_code 35 = .ok (.iload_n 0, 1) := by decide +kernel
theorem d1_36 : decode method_3_code 36 = .ok (.iconst 4, 1) := by decide +kernel
theorem d1_37 : decode method_3_code 37 = .ok (.if_icmp .ne 7, 3) := by decide +kernel
theorem d1_40 : decode method_3_code 40 = .ok (.getstatic 32, 3) := by decide +kernel
theorem d1_43 : decode method_3_code 43 = .ok (.areturn, 1) := by decide +kernel
theorem d1_44 : decode method_3_code 44 = .ok (.iload_n 0, 1) := by decide +kernel
theorem d1_45 : decode method_3_code 45 = .ok (.iconst 5, 1) := by decide +kernel
theorem d1_46 : decode method_3_code 46 = .ok (.if_icmp .ne 7, 3) := by decide +kernel
theorem d1_49 : decode method_3_code 49 = .ok (.getstatic 35, 3) := by decide +kernel
theorem d1_52 : decode method_3_code 52 = .ok (.areturn, 1) := by decide +kernel
theorem d1_53 : decode method_3_code 53 = .ok (.iload_n 0, 1) := by decide +kernel
theorem d1_54 : decode method_3_code 54 = .ok (.bipush 6, 2) := by decide +kernel
theorem d1_56 : decode method_3_code 56 = .ok (.if_icmp .ne 7, 3) := by decide +kernel
theorem d1_59 : decode method_3_code 59 = .ok (.getstatic 38, 3) := by decide +kernel
theorem d1_62 : decode method_3_code 62 = .ok (.areturn, 1) := by decide +kernel
theorem d1_63 : decode method_3_code 63 = .ok (.getstatic 41, 3) := by decide +kernel
theorem d1_66 : decode method_3_code 66 = .ok (.areturn, 1) := by decide +kernel
theorem pn_rm_pick : plainName "com/example/turnstyle/turnstyle/domain/TicketStateIsActivePinLaw" = true := by first | (simp [plainName, overriddenIn]; done) | decide +kernel
theorem ef_rm_pick (m : MethodId) (vk : Int32) : entryFrame m #[(.int vk)] 1 = mkF m 0 #[.val (.int vk)] [] := by first | (simp [entryFrame, mkF, argsToLocals, Value.category]; done) | rfl
def Q_pick (Z : State) (vk : Int32) (ad_WAITING : Addr) (ad_ADMITTED : Addr) (ad_CANCELLED : Addr) (ad_ENDED : Addr) (ad_SESSION_EXPIRED : Addr) (ad_EXPIRED : Addr) (ad_SOLD_OUT : Addr) (ad_CLOSED : Addr) (h0 : Heap) (n0 : Nat) (v : Option Value) (h : Heap) (L : List Loc) : Prop := v = some (.ref (own_pick vk ad_WAITING ad_ADMITTED ad_CANCELLED ad_ENDED ad_SESSION_EXPIRED ad_EXPIRED ad_SOLD_OUT ad_CLOSED)) ∧ Fr n0 L ∧ h = h0
set_option maxRecDepth 65536 in
set_option maxHeartbeats 40000000 in
theorem rm_pick (l : Launch) (Z : State) (a0 : Array Value) (hw : ∀ d ∈ tables_1, d.before a0 Z = true) (ws : List Jvm.Cond) (vk : Int32) (ad_WAITING : Addr) (ad_ADMITTED : Addr) (ad_CANCELLED : Addr) (ad_ENDED : Addr) (ad_SESSION_EXPIRED : Addr) (ad_EXPIRED : Addr) (ad_SOLD_OUT : Addr) (ad_CLOSED : Addr) (h0 : Heap) (n0 : Nat) (Z0 : n0 ≤ h0.size) (S_WAITING : Sta Z h0 "com/example/turnstyle/turnstyle/domain/TicketState" "WAITING" "Lcom/example/turnstyle/turnstyle/domain/TicketState;" (.ref ad_WAITING)) (S_ADMITTED : Sta Z h0 "com/example/turnstyle/turnstyle/domain/TicketState" "ADMITTED" "Lcom/example/turnstyle/turnstyle/domain/TicketState;" (.ref ad_ADMITTED)) (S_CANCELLED : Sta Z h0 "com/example/turnstyle/turnstyle/domain/TicketState" "CANCELLED" "Lcom/example/turnstyle/turnstyle/domain/TicketState;" (.ref ad_CANCELLED)) (S_ENDED : Sta Z h0 "com/example/turnstyle/turnstyle/domain/TicketState" "ENDED" "Lcom/example/turnstyle/turnstyle/domain/TicketState;" (.ref ad_ENDED)) (S_SESSION_EXPIRED : Sta Z h0 "com/example/turnstyle/turnstyle/domain/TicketState" "SESSION_EXPIRED" "Lcom/example/turnstyle/turnstyle/domain/TicketState;" (.ref ad_SESSION_EXPIRED)) (S_EXPIRED : Sta Z h0 "com/example/turnstyle/turnstyle/domain/TicketState" "EXPIRED" "Lcom/example/turnstyle/turnstyle/domain/TicketState;" (.ref ad_EXPIRED)) (S_SOLD_OUT : Sta Z h0 "com/example/turnstyle/turnstyle/domain/TicketState" "SOLD_OUT" "Lcom/example/turnstyle/turnstyle/domain/TicketState;" (.ref ad_SOLD_OUT)) (S_CLOSED : Sta Z h0 "com/example/turnstyle/turnstyle/domain/TicketState" "CLOSED" "Lcom/example/turnstyle/turnstyle/domain/TicketState;" (.ref ad_CLOSED)) :
    MetFree l (⟨"com/example/turnstyle/turnstyle/domain/TicketStateIsActivePinLaw", "pick", "(I)Lcom/example/turnstyle/turnstyle/domain/TicketState;"⟩ : MethodName) (head1 (Jvm.Cond.code (⟨"com/example/turnstyle/turnstyle/domain/TicketStateIsActivePinLaw", "pick", "(I)Lcom/example/turnstyle/turnstyle/domain/TicketState;"⟩ : MethodName) method_3_code 1 (some (.object "com/example/turnstyle/turnstyle/domain/TicketState")) :: ws) ({ frames := 0, cells := 0, slots := 0, locals := 0 } : Room)) (fun a U => a = #[(.int vk)] ∧ Z.Warmed39 U.vm ∧ U.heap = h0) (fun _ _ _ _ _ => True) (fun _ U o U' => ∃ v L, o = .returned v ∧ Q_pick Z vk ad_WAITING ad_ADMITTED ad_CANCELLED ad_ENDED ad_SESSION_EXPIRED ad_EXPIRED ad_SOLD_OUT ad_CLOSED h0 n0 v U'.heap L ∧ FrameEnd U o U' L ({ frames := 0, cells := 0, slots := 0, locals := 0 } : Room).cells ({ frames := 0, cells := 0, slots := 0, locals := 0 } : Room).slots) := by
  refine MetFree.of_bodySF (plainFor_of_name pn_rm_pick) hisR ?_
  intro p e s m args below meth c s₁ Bd hml0 hP hK
  obtain ⟨rfl, hZ, hh⟩ := hP
  have hx := Bd.exec
  have hby := Bd.bytes
  have hml : c.maxLocals = 1 := hml0
  have hown : s.vm.findClass "com/example/turnstyle/turnstyle/domain/TicketStateIsActivePinLaw" = some m.cls := findClass_of_methodNamed Bd.named
  have hnm := (name_of_methodNamed Bd.named Bd.method).1
  have X0 : Stand p l e ({ frames := 0, cells := 0, slots := 0, locals := 0 } : Room) s m #[(.int vk)] below meth c s₁ [] 0 0 := Stand.of_body Bd
  have e0 : s₁.heap = h0 := by rw [← hh, Bd.state]; rfl
  have N0 := Fr.nil n0
  have pre0 : ∀ t, Steps p.tables e below (s₁.setTop (mkF m 0 #[.val (.int vk)] [])) t → Steps p.tables e below (s₁.setTop (entryFrame m #[(.int vk)] 1)) t := fun t k => castTop (ef_rm_pick m vk) k
  have pre1 : ∀ t, Steps p.tables e below (s₁.setTop (mkF m 1 #[.val (.int vk)] [(.int vk)])) t → Steps p.tables e below (s₁.setTop (entryFrame m #[(.int vk)] 1)) t := by
    intro t k
    refine pre0 t ?_
    show Steps p.tables e below (s₁.setTop (mkF m 0 #[.val (.int vk)] [])) _
    refine XS.iloadN X0.here hx rfl (hb hby d1_0) rfl ?_
    show Steps p.tables e below (s₁.setTop (mkF m 1 #[.val (.int vk)] [(.int vk)])) _
    exact k
  by_cases hc2 : vk = (0 : Int32)
  · obtain ⟨T3, X3, e3, st3⟩ := getS2 X0 hx hZ hown (host := "") (Or.inl (hw _ (List.mem_of_getElem? (i := 4) rfl))) Via.refl e0 S_WAITING (g := (mkF m 4 #[.val (.int vk)] [])) rfl (hb hby d1_4)
    obtain ⟨fs, hr, hrun, hended, hW, hsame⟩ := X3.leave (v := some (.ref ad_WAITING)) (fun h => by rw [Bd.returns] at h; cases h)
    refine ⟨_, _, pre1 _ ?_, hrun, hended, _, _, rfl, ?_, ⟨_, rfl⟩, hW, hsame.mono (by decide) (by decide)⟩
    · show Steps p.tables e below (s₁.setTop (mkF m 1 #[.val (.int vk)] [(.int vk)])) _
      refine XS.ifNo X0.here hx rfl (hb hby d1_1) rfl ((if0 _ _).trans (teq hc2).2) ?_
      show Steps p.tables e below (s₁.setTop (mkF m 4 #[.val (.int vk)] [])) _
      refine st3 _ ?_
      show Steps p.tables e below (T3.setTop (mkF m 7 #[.val (.int vk)] [(.ref ad_WAITING)])) _
      jvm_step X3.here [X3.here.top, hx, (hb hby d1_7), X3.method', Bd.returns, Value.isRef, FieldType.isReference]
      first | (intro acts; rw [hr _ acts rfl rfl rfl]) | rw [hr _ _ rfl rfl rfl]
      exact Steps.refl _
    · show Q_pick Z vk ad_WAITING ad_ADMITTED ad_CANCELLED ad_ENDED ad_SESSION_EXPIRED ad_EXPIRED ad_SOLD_OUT ad_CLOSED h0 n0 _ T3.heap _
      rw [e3]
      exact ⟨by simp [own_pick, hc2], N0, rfl⟩
  · have pre4 : ∀ t, Steps p.tables e below (s₁.setTop (mkF m 10 #[.val (.int vk)] [(.int (1 : Int32)), (.int vk)])) t → Steps p.tables e below (s₁.setTop (entryFrame m #[(.int vk)] 1)) t := by
      intro t k
      refine pre1 t ?_
      show Steps p.tables e below (s₁.setTop (mkF m 1 #[.val (.int vk)] [(.int vk)])) _
      refine XS.ifYes X0.here hx rfl (pc0 := 1) (pc' := 8) rfl (hb hby d1_1) rfl ((if0 _ _).trans (feq hc2).2) (by decide) (by decide) ?_
      show Steps p.tables e below (s₁.setTop (mkF m 8 #[.val (.int vk)] [])) _
      refine XS.iloadN X0.here hx rfl (hb hby d1_8) rfl ?_
      show Steps p.tables e below (s₁.setTop (mkF m 9 #[.val (.int vk)] [(.int vk)])) _
      refine XS.iconst X0.here hx rfl (hb hby d1_9) ?_
      show Steps p.tables e below (s₁.setTop (mkF m 10 #[.val (.int vk)] [(.int (1 : Int32)), (.int vk)])) _
      exact k
    by_cases hc5 : vk = (1 : Int32)
    · obtain ⟨T6, X6, e6, st6⟩ := getS2 X0 hx hZ hown (host := "") (Or.inl (hw _ (List.mem_of_getElem? (i := 23) rfl))) Via.refl e0 S_ADMITTED (g := (mkF m 13 #[.val (.int vk)] [])) rfl (hb hby d1_13)
      obtain ⟨fs, hr, hrun, hended, hW, hsame⟩ := X6.leave (v := some (.ref ad_ADMITTED)) (fun h => by rw [Bd.returns] at h; cases h)
      refine ⟨_, _, pre4 _ ?_, hrun, hended, _, _, rfl, ?_, ⟨_, rfl⟩, hW, hsame.mono (by decide) (by decide)⟩
      · show Steps p.tables e below (s₁.setTop (mkF m 10 #[.val (.int vk)] [(.int (1 : Int32)), (.int vk)])) _
        refine XS.icmpNo X0.here hx rfl (hb hby d1_10) rfl (teq hc5).2 ?_
        show Steps p.tables e below (s₁.setTop (mkF m 13 #[.val (.int vk)] [])) _
        refine st6 _ ?_
        show Steps p.tables e below (T6.setTop (mkF m 16 #[.val (.int vk)] [(.ref ad_ADMITTED)])) _
        jvm_step X6.here [X6.here.top, hx, (hb hby d1_16), X6.method', Bd.returns, Value.isRef, FieldType.isReference]
        first | (intro acts; rw [hr _ acts rfl rfl rfl]) | rw [hr _ _ rfl rfl rfl]
        exact Steps.refl _
      · show Q_pick Z vk ad_WAITING ad_ADMITTED ad_CANCELLED ad_ENDED ad_SESSION_EXPIRED ad_EXPIRED ad_SOLD_OUT ad_CLOSED h0 n0 _ T6.heap _
        rw [e6]
        exact ⟨by simp [own_pick, hc2, hc5], N0, rfl⟩
    · have pre7 : ∀ t, Steps p.tables e below (s₁.setTop (mkF m 19 #[.val (.int vk)] [(.int (2 : Int32)), (.int vk)])) t → Steps p.tables e below (s₁.setTop (entryFrame m #[(.int vk)] 1)) t := by
        intro t k
        refine pre4 t ?_
        show Steps p.tables e below (s₁.setTop (mkF m 10 #[.val (.int vk)] [(.int (1 : Int32)), (.int vk)])) _
        refine XS.icmpYes X0.here hx rfl (pc0 := 10) (pc' := 17) rfl (hb hby d1_10) rfl (feq hc5).2 (by decide) (by decide) ?_
        show Steps p.tables e below (s₁.setTop (mkF m 17 #[.val (.int vk)] [])) _
        refine XS.iloadN X0.here hx rfl (hb hby d1_17) rfl ?_
        show Steps p.tables e below (s₁.setTop (mkF m 18 #[.val (.int vk)] [(.int vk)])) _
        refine XS.iconst X0.here hx rfl (hb hby d1_18) ?_
        show Steps p.tables e below (s₁.setTop (mkF m 19 #[.val (.int vk)] [(.int (2 : Int32)), (.int vk)])) _
        exact k
      by_cases hc8 : vk = (2 : Int32)
      · obtain ⟨T9, X9, e9, st9⟩ := getS2 X0 hx hZ hown (host := "") (Or.inl (hw _ (List.mem_of_getElem? (i := 21) rfl))) Via.refl e0 S_CANCELLED (g := (mkF m 22 #[.val (.int vk)] [])) rfl (hb hby d1_22)
        obtain ⟨fs, hr, hrun, hended, hW, hsame⟩ := X9.leave (v := some (.ref ad_CANCELLED)) (fun h => by rw [Bd.returns] at h; cases h)
        refine ⟨_, _, pre7 _ ?_, hrun, hended, _, _, rfl, ?_, ⟨_, rfl⟩, hW, hsame.mono (by decide) (by decide)⟩
        · show Steps p.tables e below (s₁.setTop (mkF m 19 #[.val (.int vk)] [(.int (2 : Int32)), (.int vk)])) _
          refine XS.icmpNo X0.here hx rfl (hb hby d1_19) rfl (teq hc8).2 ?_
          show Steps p.tables e below (s₁.setTop (mkF m 22 #[.val (.int vk)] [])) _
          refine st9 _ ?_
          show Steps p.tables e below (T9.setTop (mkF m 25 #[.val (.int vk)] [(.ref ad_CANCELLED)])) _
          jvm_step X9.here [X9.here.top, hx, (hb hby d1_25), X9.method', Bd.returns, Value.isRef, FieldType.isReference]
          first | (intro acts; rw [hr _ acts rfl rfl rfl]) | rw [hr _ _ rfl rfl rfl]
          exact Steps.refl _
        · show Q_pick Z vk ad_WAITING ad_ADMITTED ad_CANCELLED ad_ENDED ad_SESSION_EXPIRED ad_EXPIRED ad_SOLD_OUT ad_CLOSED h0 n0 _ T9.heap _
          rw [e9]
          exact ⟨by simp [own_pick, hc2, hc5, hc8], N0, rfl⟩
      · have pre10 : ∀ t, Steps p.tables e below (s₁.setTop (mkF m 28 #[.val (.int vk)] [(.int (3 : Int32)), (.int vk)])) t → Steps p.tables e below (s₁.setTop (entryFrame m #[(.int vk)] 1)) t := by
          intro t k
          refine pre7 t ?_
          show Steps p.tables e below (s₁.setTop (mkF m 19 #[.val (.int vk)] [(.int (2 : Int32)), (.int vk)])) _
          refine XS.icmpYes X0.here hx rfl (pc0 := 19) (pc' := 26) rfl (hb hby d1_19) rfl (feq hc8).2 (by decide) (by decide) ?_
          show Steps p.tables e below (s₁.setTop (mkF m 26 #[.val (.int vk)] [])) _
          refine XS.iloadN X0.here hx rfl (hb hby d1_26) rfl ?_
          show Steps p.tables e below (s₁.setTop (mkF m 27 #[.val (.int vk)] [(.int vk)])) _
          refine XS.iconst X0.here hx rfl (hb hby d1_27) ?_
          show Steps p.tables e below (s₁.setTop (mkF m 28 #[.val (.int vk)] [(.int (3 : Int32)), (.int vk)])) _
          exact k
        by_cases hc11 : vk = (3 : Int32)
        · obtain ⟨T12, X12, e12, st12⟩ := getS2 X0 hx hZ hown (host := "") (Or.inl (hw _ (List.mem_of_getElem? (i := 13) rfl))) Via.refl e0 S_ENDED (g := (mkF m 31 #[.val (.int vk)] [])) rfl (hb hby d1_31)
          obtain ⟨fs, hr, hrun, hended, hW, hsame⟩ := X12.leave (v := some (.ref ad_ENDED)) (fun h => by rw [Bd.returns] at h; cases h)
          refine ⟨_, _, pre10 _ ?_, hrun, hended, _, _, rfl, ?_, ⟨_, rfl⟩, hW, hsame.mono (by decide) (by decide)⟩
          · show Steps p.tables e below (s₁.setTop (mkF m 28 #[.val (.int vk)] [(.int (3 : Int32)), (.int vk)])) _
            refine XS.icmpNo X0.here hx rfl (hb hby d1_28) rfl (teq hc11).2 ?_
            show Steps p.tables e below (s₁.setTop (mkF m 31 #[.val (.int vk)] [])) _
            refine st12 _ ?_
            show Steps p.tables e below (T12.setTop (mkF m 34 #[.val (.int vk)] [(.ref ad_ENDED)])) _
            jvm_step X12.here [X12.here.top, hx, (hb hby d1_34), X12.method', Bd.returns, Value.isRef, FieldType.isReference]
            first | (intro acts; rw [hr _ acts rfl rfl rfl]) | rw [hr _ _ rfl rfl rfl]
            exact Steps.refl _
          · show Q_pick Z vk ad_WAITING ad_ADMITTED ad_CANCELLED ad_ENDED ad_SESSION_EXPIRED ad_EXPIRED ad_SOLD_OUT ad_CLOSED h0 n0 _ T12.heap _
            rw [e12]
            exact ⟨by simp [own_pick, hc2, hc5, hc8, hc11], N0, rfl⟩
        · have pre13 : ∀ t, Steps p.tables e below (s₁.setTop (mkF m 37 #[.val (.int vk)] [(.int (4 : Int32)), (.int vk)])) t → Steps p.tables e below (s₁.setTop (entryFrame m #[(.int vk)] 1)) t := by
            intro t k
            refine pre10 t ?_
            show Steps p.tables e below (s₁.setTop (mkF m 28 #[.val (.int vk)] [(.int (3 : Int32)), (.int vk)])) _
            refine XS.icmpYes X0.here hx rfl (pc0 := 28) (pc' := 35) rfl (hb hby d1_28) rfl (feq hc11).2 (by decide) (by decide) ?_
            show Steps p.tables e below (s₁.setTop (mkF m 35 #[.val (.int vk)] [])) _
            refine XS.iloadN X0.here hx rfl (hb hby d1_35) rfl ?_
            show Steps p.tables e below (s₁.setTop (mkF m 36 #[.val (.int vk)] [(.int vk)])) _
            refine XS.iconst X0.here hx rfl (hb hby d1_36) ?_
            show Steps p.tables e below (s₁.setTop (mkF m 37 #[.val (.int vk)] [(.int (4 : Int32)), (.int vk)])) _
            exact k
          by_cases hc14 : vk = (4 : Int32)
          · obtain ⟨T15, X15, e15, st15⟩ := getS2 X0 hx hZ hown (host := "") (Or.inl (hw _ (List.mem_of_getElem? (i := 24) rfl))) Via.refl e0 S_SESSION_EXPIRED (g := (mkF m 40 #[.val (.int vk)] [])) rfl (hb hby d1_40)
            obtain ⟨fs, hr, hrun, hended, hW, hsame⟩ := X15.leave (v := some (.ref ad_SESSION_EXPIRED)) (fun h => by rw [Bd.returns] at h; cases h)
            refine ⟨_, _, pre13 _ ?_, hrun, hended, _, _, rfl, ?_, ⟨_, rfl⟩, hW, hsame.mono (by decide) (by decide)⟩
            · show Steps p.tables e below (s₁.setTop (mkF m 37 #[.val (.int vk)] [(.int (4 : Int32)), (.int vk)])) _
              refine XS.icmpNo X0.here hx rfl (hb hby d1_37) rfl (teq hc14).2 ?_
              show Steps p.tables e below (s₁.setTop (mkF m 40 #[.val (.int vk)] [])) _
              refine st15 _ ?_
              show Steps p.tables e below (T15.setTop (mkF m 43 #[.val (.int vk)] [(.ref ad_SESSION_EXPIRED)])) _
              jvm_step X15.here [X15.here.top, hx, (hb hby d1_43), X15.method', Bd.returns, Value.isRef, FieldType.isReference]
              first | (intro acts; rw [hr _ acts rfl rfl rfl]) | rw [hr _ _ rfl rfl rfl]
              exact Steps.refl _
            · show Q_pick Z vk ad_WAITING ad_ADMITTED ad_CANCELLED ad_ENDED ad_SESSION_EXPIRED ad_EXPIRED ad_SOLD_OUT ad_CLOSED h0 n0 _ T15.heap _
              rw [e15]
              exact ⟨by simp [own_pick, hc2, hc5, hc8, hc11, hc14], N0, rfl⟩
          · have pre16 : ∀ t, Steps p.tables e below (s₁.setTop (mkF m 46 #[.val (.int vk)] [(.int (5 : Int32)), (.int vk)])) t → Steps p.tables e below (s₁.setTop (entryFrame m #[(.int vk)] 1)) t := by
              intro t k
              refine pre13 t ?_
              show Steps p.tables e below (s₁.setTop (mkF m 37 #[.val (.int vk)] [(.int (4 : Int32)), (.int vk)])) _
              refine XS.icmpYes X0.here hx rfl (pc0 := 37) (pc' := 44) rfl (hb hby d1_37) rfl (feq hc14).2 (by decide) (by decide) ?_
              show Steps p.tables e below (s₁.setTop (mkF m 44 #[.val (.int vk)] [])) _
              refine XS.iloadN X0.here hx rfl (hb hby d1_44) rfl ?_
              show Steps p.tables e below (s₁.setTop (mkF m 45 #[.val (.int vk)] [(.int vk)])) _
              refine XS.iconst X0.here hx rfl (hb hby d1_45) ?_
              show Steps p.tables e below (s₁.setTop (mkF m 46 #[.val (.int vk)] [(.int (5 : Int32)), (.int vk)])) _
              exact k
            by_cases hc17 : vk = (5 : Int32)
            · obtain ⟨T18, X18, e18, st18⟩ := getS2 X0 hx hZ hown (host := "") (Or.inl (hw _ (List.mem_of_getElem? (i := 26) rfl))) Via.refl e0 S_EXPIRED (g := (mkF m 49 #[.val (.int vk)] [])) rfl (hb hby d1_49)
              obtain ⟨fs, hr, hrun, hended, hW, hsame⟩ := X18.leave (v := some (.ref ad_EXPIRED)) (fun h => by rw [Bd.returns] at h; cases h)
              refine ⟨_, _, pre16 _ ?_, hrun, hended, _, _, rfl, ?_, ⟨_, rfl⟩, hW, hsame.mono (by decide) (by decide)⟩
              · show Steps p.tables e below (s₁.setTop (mkF m 46 #[.val (.int vk)] [(.int (5 : Int32)), (.int vk)])) _
                refine XS.icmpNo X0.here hx rfl (hb hby d1_46) rfl (teq hc17).2 ?_
                show Steps p.tables e below (s₁.setTop (mkF m 49 #[.val (.int vk)] [])) _
                refine st18 _ ?_
                show Steps p.tables e below (T18.setTop (mkF m 52 #[.val (.int vk)] [(.ref ad_EXPIRED)])) _
                jvm_step X18.here [X18.here.top, hx, (hb hby d1_52), X18.method', Bd.returns, Value.isRef, FieldType.isReference]
                first | (intro acts; rw [hr _ acts rfl rfl rfl]) | rw [hr _ _ rfl rfl rfl]
                exact Steps.refl _
              · show Q_pick Z vk ad_WAITING ad_ADMITTED ad_CANCELLED ad_ENDED ad_SESSION_EXPIRED ad_EXPIRED ad_SOLD_OUT ad_CLOSED h0 n0 _ T18.heap _
                rw [e18]
                exact ⟨by simp [own_pick, hc2, hc5, hc8, hc11, hc14, hc17], N0, rfl⟩
            · have pre19 : ∀ t, Steps p.tables e below (s₁.setTop (mkF m 56 #[.val (.int vk)] [(.int (6 : Int32)), (.int vk)])) t → Steps p.tables e below (s₁.setTop (entryFrame m #[(.int vk)] 1)) t := by
                intro t k
                refine pre16 t ?_
                show Steps p.tables e below (s₁.setTop (mkF m 46 #[.val (.int vk)] [(.int (5 : Int32)), (.int vk)])) _
                refine XS.icmpYes X0.here hx rfl (pc0 := 46) (pc' := 53) rfl (hb hby d1_46) rfl (feq hc17).2 (by decide) (by decide) ?_
                show Steps p.tables e below (s₁.setTop (mkF m 53 #[.val (.int vk)] [])) _
                refine XS.iloadN X0.here hx rfl (hb hby d1_53) rfl ?_
                show Steps p.tables e below (s₁.setTop (mkF m 54 #[.val (.int vk)] [(.int vk)])) _
                refine XS.bipush X0.here hx rfl (hb hby d1_54) ?_
                show Steps p.tables e below (s₁.setTop (mkF m 56 #[.val (.int vk)] [(.int (6 : Int32)), (.int vk)])) _
                exact k
              by_cases hc20 : vk = (6 : Int32)
              · obtain ⟨T21, X21, e21, st21⟩ := getS2 X0 hx hZ hown (host := "") (Or.inl (hw _ (List.mem_of_getElem? (i := 17) rfl))) Via.refl e0 S_SOLD_OUT (g := (mkF m 59 #[.val (.int vk)] [])) rfl (hb hby d1_59)
                obtain ⟨fs, hr, hrun, hended, hW, hsame⟩ := X21.leave (v := some (.ref ad_SOLD_OUT)) (fun h => by rw [Bd.returns] at h; cases h)
                refine ⟨_, _, pre19 _ ?_, hrun, hended, _, _, rfl, ?_, ⟨_, rfl⟩, hW, hsame.mono (by decide) (by decide)⟩
                · show Steps p.tables e below (s₁.setTop (mkF m 56 #[.val (.int vk)] [(.int (6 : Int32)), (.int vk)])) _
                  refine XS.icmpNo X0.here hx rfl (hb hby d1_56) rfl (teq hc20).2 ?_
                  show Steps p.tables e below (s₁.setTop (mkF m 59 #[.val (.int vk)] [])) _
                  refine st21 _ ?_
                  show Steps p.tables e below (T21.setTop (mkF m 62 #[.val (.int vk)] [(.ref ad_SOLD_OUT)])) _
                  jvm_step X21.here [X21.here.top, hx, (hb hby d1_62), X21.method', Bd.returns, Value.isRef, FieldType.isReference]
                  first | (intro acts; rw [hr _ acts rfl rfl rfl]) | rw [hr _ _ rfl rfl rfl]
                  exact Steps.refl _
                · show Q_pick Z vk ad_WAITING ad_ADMITTED ad_CANCELLED ad_ENDED ad_SESSION_EXPIRED ad_EXPIRED ad_SOLD_OUT ad_CLOSED h0 n0 _ T21.heap _
                  rw [e21]
                  exact ⟨by simp [own_pick, hc2, hc5, hc8, hc11, hc14, hc17, hc20], N0, rfl⟩
              · obtain ⟨T22, X22, e22, st22⟩ := getS2 X0 hx hZ hown (host := "") (Or.inl (hw _ (List.mem_of_getElem? (i := 19) rfl))) Via.refl e0 S_CLOSED (g := (mkF m 63 #[.val (.int vk)] [])) rfl (hb hby d1_63)
                obtain ⟨fs, hr, hrun, hended, hW, hsame⟩ := X22.leave (v := some (.ref ad_CLOSED)) (fun h => by rw [Bd.returns] at h; cases h)
                refine ⟨_, _, pre19 _ ?_, hrun, hended, _, _, rfl, ?_, ⟨_, rfl⟩, hW, hsame.mono (by decide) (by decide)⟩
                · show Steps p.tables e below (s₁.setTop (mkF m 56 #[.val (.int vk)] [(.int (6 : Int32)), (.int vk)])) _
                  refine XS.icmpYes X0.here hx rfl (pc0 := 56) (pc' := 63) rfl (hb hby d1_56) rfl (feq hc20).2 (by decide) (by decide) ?_
                  show Steps p.tables e below (s₁.setTop (mkF m 63 #[.val (.int vk)] [])) _
                  refine st22 _ ?_
                  show Steps p.tables e below (T22.setTop (mkF m 66 #[.val (.int vk)] [(.ref ad_CLOSED)])) _
                  jvm_step X22.here [X22.here.top, hx, (hb hby d1_66), X22.method', Bd.returns, Value.isRef, FieldType.isReference]
                  first | (intro acts; rw [hr _ acts rfl rfl rfl]) | rw [hr _ _ rfl rfl rfl]
                  exact Steps.refl _
                · show Q_pick Z vk ad_WAITING ad_ADMITTED ad_CANCELLED ad_ENDED ad_SESSION_EXPIRED ad_EXPIRED ad_SOLD_OUT ad_CLOSED h0 n0 _ T22.heap _
                  rw [e22]
                  exact ⟨by simp [own_pick, hc2, hc5, hc8, hc11, hc14, hc17, hc20], N0, rfl⟩
theorem d2_0 : decode prog_14_method_4_code 0 = .ok (.aload_n 0, 1) := by decide +kernel
theorem d2_1 : decode prog_14_method_4_code 1 = .ok (.getstatic 3, 3) := by decide +kernel
theorem d2_4 : decode prog_14_method_4_code 4 = .ok (.if_acmp .eq 10, 3) := by decide +kernel
theorem d2_7 : decode prog_14_method_4_code 7 = .ok (.aload_n 0, 1) := by decide +kernel
theorem d2_8 : decode prog_14_method_4_code 8 = .ok (.getstatic 7, 3) := by decide +kernel
theorem d2_11 : decode prog_14_method_4_code 11 = .ok (.if_acmp .ne 7, 3) := by decide +kernel
theorem d2_14 : decode prog_14_method_4_code 14 = .ok (.iconst 1, 1) := by decide +kernel
theorem d2_15 : decode prog_14_method_4_code 15 = .ok (.goto 4, 3) := by decide +kernel
theorem d2_18 : decode prog_14_method_4_code 18 = .ok (.iconst 0, 1) := by decide +kernel
theorem d2_19 : decode prog_14_method_4_code 19 = .ok (.ireturn, 1) := by decide +kernel
theorem pn_rm_act : plainName "com/example/turnstyle/turnstyle/domain/TicketState" = true := by first | (simp [plainName, overriddenIn]; done) | decide +kernel
theorem ef_rm_act (m : MethodId) (va : Addr) : entryFrame m #[(.ref va)] 1 = mkF m 0 #[.val (.ref va)] [] := by first | (simp [entryFrame, mkF, argsToLocals, Value.category]; done) | rfl
def Q_act (Z : State) (va : Addr) (ad_WAITING : Addr) (ad_ADMITTED : Addr) (ad_CANCELLED : Addr) (ad_ENDED : Addr) (ad_SESSION_EXPIRED : Addr) (ad_EXPIRED : Addr) (ad_SOLD_OUT : Addr) (ad_CLOSED : Addr) (h0 : Heap) (n0 : Nat) (v : Option Value) (h : Heap) (L : List Loc) : Prop := v = some (.int (if va = ad_WAITING ∨ va = ad_ADMITTED then 1 else 0)) ∧ Fr n0 L ∧ h = h0
set_option maxRecDepth 65536 in
set_option maxHeartbeats 40000000 in
theorem rm_act (l : Launch) (Z : State) (a0 : Array Value) (hw : ∀ d ∈ tables_1, d.before a0 Z = true) (ws : List Jvm.Cond) (va : Addr) (ad_WAITING : Addr) (ad_ADMITTED : Addr) (ad_CANCELLED : Addr) (ad_ENDED : Addr) (ad_SESSION_EXPIRED : Addr) (ad_EXPIRED : Addr) (ad_SOLD_OUT : Addr) (ad_CLOSED : Addr) (h0 : Heap) (n0 : Nat) (Z0 : n0 ≤ h0.size) (S_WAITING : Sta Z h0 "com/example/turnstyle/turnstyle/domain/TicketState" "WAITING" "Lcom/example/turnstyle/turnstyle/domain/TicketState;" (.ref ad_WAITING)) (S_ADMITTED : Sta Z h0 "com/example/turnstyle/turnstyle/domain/TicketState" "ADMITTED" "Lcom/example/turnstyle/turnstyle/domain/TicketState;" (.ref ad_ADMITTED)) (S_CANCELLED : Sta Z h0 "com/example/turnstyle/turnstyle/domain/TicketState" "CANCELLED" "Lcom/example/turnstyle/turnstyle/domain/TicketState;" (.ref ad_CANCELLED)) (S_ENDED : Sta Z h0 "com/example/turnstyle/turnstyle/domain/TicketState" "ENDED" "Lcom/example/turnstyle/turnstyle/domain/TicketState;" (.ref ad_ENDED)) (S_SESSION_EXPIRED : Sta Z h0 "com/example/turnstyle/turnstyle/domain/TicketState" "SESSION_EXPIRED" "Lcom/example/turnstyle/turnstyle/domain/TicketState;" (.ref ad_SESSION_EXPIRED)) (S_EXPIRED : Sta Z h0 "com/example/turnstyle/turnstyle/domain/TicketState" "EXPIRED" "Lcom/example/turnstyle/turnstyle/domain/TicketState;" (.ref ad_EXPIRED)) (S_SOLD_OUT : Sta Z h0 "com/example/turnstyle/turnstyle/domain/TicketState" "SOLD_OUT" "Lcom/example/turnstyle/turnstyle/domain/TicketState;" (.ref ad_SOLD_OUT)) (S_CLOSED : Sta Z h0 "com/example/turnstyle/turnstyle/domain/TicketState" "CLOSED" "Lcom/example/turnstyle/turnstyle/domain/TicketState;" (.ref ad_CLOSED)) :
    MetFree l (⟨"com/example/turnstyle/turnstyle/domain/TicketState", "isActive", "()Z"⟩ : MethodName) (head1 (Jvm.Cond.code (⟨"com/example/turnstyle/turnstyle/domain/TicketState", "isActive", "()Z"⟩ : MethodName) prog_14_method_4_code 1 (some .boolean) :: ws) ({ frames := 0, cells := 0, slots := 0, locals := 0 } : Room)) (fun a U => a = #[(.ref va)] ∧ Z.Warmed39 U.vm ∧ U.heap = h0) (fun _ _ _ _ _ => True) (fun _ U o U' => ∃ v L, o = .returned v ∧ Q_act Z va ad_WAITING ad_ADMITTED ad_CANCELLED ad_ENDED ad_SESSION_EXPIRED ad_EXPIRED ad_SOLD_OUT ad_CLOSED h0 n0 v U'.heap L ∧ FrameEnd U o U' L ({ frames := 0, cells := 0, slots := 0, locals := 0 } : Room).cells ({ frames := 0, cells := 0, slots := 0, locals := 0 } : Room).slots) := by
  refine MetFree.of_bodySF (plainFor_of_name pn_rm_act) hisR ?_
  intro p e s m args below meth c s₁ Bd hml0 hP hK
  obtain ⟨rfl, hZ, hh⟩ := hP
  have hx := Bd.exec
  have hby := Bd.bytes
  have hml : c.maxLocals = 1 := hml0
  have hown : s.vm.findClass "com/example/turnstyle/turnstyle/domain/TicketState" = some m.cls := findClass_of_methodNamed Bd.named
  have hnm := (name_of_methodNamed Bd.named Bd.method).1
  have X0 : Stand p l e ({ frames := 0, cells := 0, slots := 0, locals := 0 } : Room) s m #[(.ref va)] below meth c s₁ [] 0 0 := Stand.of_body Bd
  have e0 : s₁.heap = h0 := by rw [← hh, Bd.state]; rfl
  have N0 := Fr.nil n0
  have pre0 : ∀ t, Steps p.tables e below (s₁.setTop (mkF m 0 #[.val (.ref va)] [])) t → Steps p.tables e below (s₁.setTop (entryFrame m #[(.ref va)] 1)) t := fun t k => castTop (ef_rm_act m va) k
  obtain ⟨T1, X1, e1, st1⟩ := getS2 X0 hx hZ hown (host := "") (Or.inl (hw _ (List.mem_of_getElem? (i := 12) rfl))) Via.refl e0 S_WAITING (g := (mkF m 1 #[.val (.ref va)] [(.ref va)])) rfl (hb hby d2_1)
  have pre2 : ∀ t, Steps p.tables e below (T1.setTop (mkF m 4 #[.val (.ref va)] [(.ref ad_WAITING), (.ref va)])) t → Steps p.tables e below (s₁.setTop (entryFrame m #[(.ref va)] 1)) t := by
    intro t k
    refine pre0 t ?_
    show Steps p.tables e below (s₁.setTop (mkF m 0 #[.val (.ref va)] [])) _
    refine XS.aloadN X0.here hx rfl (hb hby d2_0) rfl rfl ?_
    show Steps p.tables e below (s₁.setTop (mkF m 1 #[.val (.ref va)] [(.ref va)])) _
    refine st1 _ ?_
    show Steps p.tables e below (T1.setTop (mkF m 4 #[.val (.ref va)] [(.ref ad_WAITING), (.ref va)])) _
    exact k
  by_cases hc3 : va = ad_WAITING
  · obtain ⟨fs, hr, hrun, hended, hW, hsame⟩ := X1.leave (v := some (.int (1 : Int32))) (fun h => by rw [Bd.returns] at h; cases h)
    refine ⟨_, _, pre2 _ ?_, hrun, hended, _, _, rfl, ?_, ⟨_, rfl⟩, hW, hsame.mono (by decide) (by decide)⟩
    · show Steps p.tables e below (T1.setTop (mkF m 4 #[.val (.ref va)] [(.ref ad_WAITING), (.ref va)])) _
      refine Jvm.RoadKit.acmp (g := (mkF m 4 #[.val (.ref va)] [(.ref ad_WAITING), (.ref va)])) X1 hx rfl rfl rfl (pc0 := 4) (pc' := 14) (same := true) rfl (hb hby d2_4) rfl (decide_eq_true (congrArg Value.ref hc3)) (by decide) (by decide) ?_
      show Steps p.tables e below (T1.setTop (mkF m 14 #[.val (.ref va)] [])) _
      refine XS.iconst X1.here hx rfl (hb hby d2_14) ?_
      show Steps p.tables e below (T1.setTop (mkF m 15 #[.val (.ref va)] [(.int (1 : Int32))])) _
      refine XS.goto X1.here hx rfl (pc0 := 15) (pc' := 19) rfl (hb hby d2_15) (by decide) (by decide) ?_
      show Steps p.tables e below (T1.setTop (mkF m 19 #[.val (.ref va)] [(.int (1 : Int32))])) _
      exact retN X1 hx (t := .boolean) Bd.returns (by simp) (hb hby d2_19) hr
    · show Q_act Z va ad_WAITING ad_ADMITTED ad_CANCELLED ad_ENDED ad_SESSION_EXPIRED ad_EXPIRED ad_SOLD_OUT ad_CLOSED h0 n0 _ T1.heap _
      rw [e1]
      exact ⟨by simp [hc3], N0, rfl⟩
  · obtain ⟨T4, X4, e4, st4⟩ := getS2 X1 hx hZ hown (host := "") (Or.inl (hw _ (List.mem_of_getElem? (i := 15) rfl))) Via.refl e1 S_ADMITTED (g := (mkF m 8 #[.val (.ref va)] [(.ref va)])) rfl (hb hby d2_8)
    have pre5 : ∀ t, Steps p.tables e below (T4.setTop (mkF m 11 #[.val (.ref va)] [(.ref ad_ADMITTED), (.ref va)])) t → Steps p.tables e below (s₁.setTop (entryFrame m #[(.ref va)] 1)) t := by
      intro t k
      refine pre2 t ?_
      show Steps p.tables e below (T1.setTop (mkF m 4 #[.val (.ref va)] [(.ref ad_WAITING), (.ref va)])) _
      refine Jvm.RoadKit.acmp (g := (mkF m 4 #[.val (.ref va)] [(.ref ad_WAITING), (.ref va)])) X1 hx rfl rfl rfl (pc0 := 4) (pc' := 7) (same := false) rfl (hb hby d2_4) rfl (decide_eq_false fun q => hc3 (Value.ref.inj q)) (by decide) (by decide) ?_
      show Steps p.tables e below (T1.setTop (mkF m 7 #[.val (.ref va)] [])) _
      refine XS.aloadN X1.here hx rfl (hb hby d2_7) rfl rfl ?_
      show Steps p.tables e below (T1.setTop (mkF m 8 #[.val (.ref va)] [(.ref va)])) _
      refine st4 _ ?_
      show Steps p.tables e below (T4.setTop (mkF m 11 #[.val (.ref va)] [(.ref ad_ADMITTED), (.ref va)])) _
      exact k
    by_cases hc6 : va = ad_ADMITTED
    · obtain ⟨fs, hr, hrun, hended, hW, hsame⟩ := X4.leave (v := some (.int (1 : Int32))) (fun h => by rw [Bd.returns] at h; cases h)
      refine ⟨_, _, pre5 _ ?_, hrun, hended, _, _, rfl, ?_, ⟨_, rfl⟩, hW, hsame.mono (by decide) (by decide)⟩
      · show Steps p.tables e below (T4.setTop (mkF m 11 #[.val (.ref va)] [(.ref ad_ADMITTED), (.ref va)])) _
        refine Jvm.RoadKit.acmp (g := (mkF m 11 #[.val (.ref va)] [(.ref ad_ADMITTED), (.ref va)])) X4 hx rfl rfl rfl (pc0 := 11) (pc' := 14) (same := true) rfl (hb hby d2_11) rfl (decide_eq_true (congrArg Value.ref hc6)) (by decide) (by decide) ?_
        show Steps p.tables e below (T4.setTop (mkF m 14 #[.val (.ref va)] [])) _
        refine XS.iconst X4.here hx rfl (hb hby d2_14) ?_
        show Steps p.tables e below (T4.setTop (mkF m 15 #[.val (.ref va)] [(.int (1 : Int32))])) _
        refine XS.goto X4.here hx rfl (pc0 := 15) (pc' := 19) rfl (hb hby d2_15) (by decide) (by decide) ?_
        show Steps p.tables e below (T4.setTop (mkF m 19 #[.val (.ref va)] [(.int (1 : Int32))])) _
        exact retN X4 hx (t := .boolean) Bd.returns (by simp) (hb hby d2_19) hr
      · show Q_act Z va ad_WAITING ad_ADMITTED ad_CANCELLED ad_ENDED ad_SESSION_EXPIRED ad_EXPIRED ad_SOLD_OUT ad_CLOSED h0 n0 _ T4.heap _
        rw [e4]
        exact ⟨by simp [hc3, hc6], N0, rfl⟩
    · obtain ⟨fs, hr, hrun, hended, hW, hsame⟩ := X4.leave (v := some (.int (0 : Int32))) (fun h => by rw [Bd.returns] at h; cases h)
      refine ⟨_, _, pre5 _ ?_, hrun, hended, _, _, rfl, ?_, ⟨_, rfl⟩, hW, hsame.mono (by decide) (by decide)⟩
      · show Steps p.tables e below (T4.setTop (mkF m 11 #[.val (.ref va)] [(.ref ad_ADMITTED), (.ref va)])) _
        refine Jvm.RoadKit.acmp (g := (mkF m 11 #[.val (.ref va)] [(.ref ad_ADMITTED), (.ref va)])) X4 hx rfl rfl rfl (pc0 := 11) (pc' := 18) (same := false) rfl (hb hby d2_11) rfl (decide_eq_false fun q => hc6 (Value.ref.inj q)) (by decide) (by decide) ?_
        show Steps p.tables e below (T4.setTop (mkF m 18 #[.val (.ref va)] [])) _
        refine XS.iconst X4.here hx rfl (hb hby d2_18) ?_
        show Steps p.tables e below (T4.setTop (mkF m 19 #[.val (.ref va)] [(.int (0 : Int32))])) _
        exact retN X4 hx (t := .boolean) Bd.returns (by simp) (hb hby d2_19) hr
      · show Q_act Z va ad_WAITING ad_ADMITTED ad_CANCELLED ad_ENDED ad_SESSION_EXPIRED ad_EXPIRED ad_SOLD_OUT ad_CLOSED h0 n0 _ T4.heap _
        rw [e4]
        exact ⟨by simp [hc3, hc6], N0, rfl⟩
theorem pn_rm0 : plainName "com/example/turnstyle/turnstyle/domain/TicketStateIsActivePinLaw" = true := by first | (simp [plainName, overriddenIn]; done) | decide +kernel
theorem ef_rm0 (m : MethodId) (vx : Int32) : entryFrame m #[(.int vx)] maxLocals = mkF m 0 #[.val (.int vx), .unset, .unset, .unset] [] := by first | (simp [entryFrame, mkF, argsToLocals, Value.category, maxLocals]; done) | rfl
def Q0 (Z : State) (vx : Int32) (ad_WAITING : Addr) (ad_ADMITTED : Addr) (ad_CANCELLED : Addr) (ad_ENDED : Addr) (ad_SESSION_EXPIRED : Addr) (ad_EXPIRED : Addr) (ad_SOLD_OUT : Addr) (ad_CLOSED : Addr) (h0 : Heap) (n0 : Nat) (v : Option Value) (h : Heap) (L : List Loc) : Prop := v = some (.int 1) ∧ Fr n0 L
set_option maxRecDepth 65536 in
set_option maxHeartbeats 40000000 in
theorem rm0 (l : Launch) (Z : State) (a0 : Array Value) (hw : ∀ d ∈ tables_1, d.before a0 Z = true) (ws : List Jvm.Cond) (vx : Int32) (ad_WAITING : Addr) (ad_ADMITTED : Addr) (ad_CANCELLED : Addr) (ad_ENDED : Addr) (ad_SESSION_EXPIRED : Addr) (ad_EXPIRED : Addr) (ad_SOLD_OUT : Addr) (ad_CLOSED : Addr) (h0 : Heap) (n0 : Nat) (Z0 : n0 ≤ h0.size) (S_WAITING : Sta Z h0 "com/example/turnstyle/turnstyle/domain/TicketState" "WAITING" "Lcom/example/turnstyle/turnstyle/domain/TicketState;" (.ref ad_WAITING)) (S_ADMITTED : Sta Z h0 "com/example/turnstyle/turnstyle/domain/TicketState" "ADMITTED" "Lcom/example/turnstyle/turnstyle/domain/TicketState;" (.ref ad_ADMITTED)) (S_CANCELLED : Sta Z h0 "com/example/turnstyle/turnstyle/domain/TicketState" "CANCELLED" "Lcom/example/turnstyle/turnstyle/domain/TicketState;" (.ref ad_CANCELLED)) (S_ENDED : Sta Z h0 "com/example/turnstyle/turnstyle/domain/TicketState" "ENDED" "Lcom/example/turnstyle/turnstyle/domain/TicketState;" (.ref ad_ENDED)) (S_SESSION_EXPIRED : Sta Z h0 "com/example/turnstyle/turnstyle/domain/TicketState" "SESSION_EXPIRED" "Lcom/example/turnstyle/turnstyle/domain/TicketState;" (.ref ad_SESSION_EXPIRED)) (S_EXPIRED : Sta Z h0 "com/example/turnstyle/turnstyle/domain/TicketState" "EXPIRED" "Lcom/example/turnstyle/turnstyle/domain/TicketState;" (.ref ad_EXPIRED)) (S_SOLD_OUT : Sta Z h0 "com/example/turnstyle/turnstyle/domain/TicketState" "SOLD_OUT" "Lcom/example/turnstyle/turnstyle/domain/TicketState;" (.ref ad_SOLD_OUT)) (S_CLOSED : Sta Z h0 "com/example/turnstyle/turnstyle/domain/TicketState" "CLOSED" "Lcom/example/turnstyle/turnstyle/domain/TicketState;" (.ref ad_CLOSED)) (E_WAITING : Exa Z h0 ad_WAITING "com/example/turnstyle/turnstyle/domain/TicketState") (E_ADMITTED : Exa Z h0 ad_ADMITTED "com/example/turnstyle/turnstyle/domain/TicketState") (E_CANCELLED : Exa Z h0 ad_CANCELLED "com/example/turnstyle/turnstyle/domain/TicketState") (E_ENDED : Exa Z h0 ad_ENDED "com/example/turnstyle/turnstyle/domain/TicketState") (E_SESSION_EXPIRED : Exa Z h0 ad_SESSION_EXPIRED "com/example/turnstyle/turnstyle/domain/TicketState") (E_EXPIRED : Exa Z h0 ad_EXPIRED "com/example/turnstyle/turnstyle/domain/TicketState") (E_SOLD_OUT : Exa Z h0 ad_SOLD_OUT "com/example/turnstyle/turnstyle/domain/TicketState") (E_CLOSED : Exa Z h0 ad_CLOSED "com/example/turnstyle/turnstyle/domain/TicketState") (n2 : ad_CANCELLED ≠ ad_WAITING) (n3 : ad_ENDED ≠ ad_WAITING) (n4 : ad_SESSION_EXPIRED ≠ ad_WAITING) (n5 : ad_EXPIRED ≠ ad_WAITING) (n6 : ad_SOLD_OUT ≠ ad_WAITING) (n7 : ad_CLOSED ≠ ad_WAITING) (m2 : ad_CANCELLED ≠ ad_ADMITTED) (m3 : ad_ENDED ≠ ad_ADMITTED) (m4 : ad_SESSION_EXPIRED ≠ ad_ADMITTED) (m5 : ad_EXPIRED ≠ ad_ADMITTED) (m6 : ad_SOLD_OUT ≠ ad_ADMITTED) (m7 : ad_CLOSED ≠ ad_ADMITTED) :
    MetFree l x (head1 (Jvm.Cond.code x code maxLocals ret :: ws) room_1) (fun a U => a = #[(.int vx)] ∧ Z.Warmed39 U.vm ∧ U.heap = h0) (fun _ _ _ _ _ => True) (fun _ U o U' => ∃ v L, o = .returned v ∧ Q0 Z vx ad_WAITING ad_ADMITTED ad_CANCELLED ad_ENDED ad_SESSION_EXPIRED ad_EXPIRED ad_SOLD_OUT ad_CLOSED h0 n0 v U'.heap L ∧ FrameEnd U o U' L room_1.cells room_1.slots) := by
  refine MetFree.of_bodySF (plainFor_of_name pn_rm0) hisR ?_
  intro p e s m args below meth c s₁ Bd hml0 hP hK
  obtain ⟨rfl, hZ, hh⟩ := hP
  have hx := Bd.exec
  have hby := Bd.bytes
  have hml : c.maxLocals = 4 := hml0
  have hown : s.vm.findClass "com/example/turnstyle/turnstyle/domain/TicketStateIsActivePinLaw" = some m.cls := findClass_of_methodNamed Bd.named
  have hnm := (name_of_methodNamed Bd.named Bd.method).1
  have X0 : Stand p l e room_1 s m #[(.int vx)] below meth c s₁ [] 0 0 := Stand.of_body Bd
  have e0 : s₁.heap = h0 := by rw [← hh, Bd.state]; rfl
  have N0 := Fr.nil n0
  have pre0 : ∀ t, Steps p.tables e below (s₁.setTop (mkF m 0 #[.val (.int vx), .unset, .unset, .unset] [])) t → Steps p.tables e below (s₁.setTop (entryFrame m #[(.int vx)] maxLocals)) t := fun t k => castTop (ef_rm0 m vx) k
  have pre1 : ∀ t, Steps p.tables e below (s₁.setTop (mkF m 5 #[.val (.int vx), .val (.int (vx &&& (7 : Int32))), .unset, .unset] [])) t → Steps p.tables e below (s₁.setTop (entryFrame m #[(.int vx)] maxLocals)) t := by
    intro t k
    refine pre0 t ?_
    show Steps p.tables e below (s₁.setTop (mkF m 0 #[.val (.int vx), .unset, .unset, .unset] [])) _
    refine XS.iloadN X0.here hx rfl (hb hby at_0) rfl ?_
    show Steps p.tables e below (s₁.setTop (mkF m 1 #[.val (.int vx), .unset, .unset, .unset] [(.int vx)])) _
    refine XS.bipush X0.here hx rfl (hb hby at_1) ?_
    show Steps p.tables e below (s₁.setTop (mkF m 3 #[.val (.int vx), .unset, .unset, .unset] [(.int (7 : Int32)), (.int vx)])) _
    refine XS.iand X0.here hx rfl (hb hby at_3) rfl ?_
    show Steps p.tables e below (s₁.setTop (mkF m 4 #[.val (.int vx), .unset, .unset, .unset] [(.int (vx &&& (7 : Int32)))])) _
    refine XS.istoreN X0.here hx rfl (hb hby at_4) rfl (l' := #[.val (.int vx), .val (.int (vx &&& (7 : Int32))), .unset, .unset]) rfl ?_
    show Steps p.tables e below (s₁.setTop (mkF m 5 #[.val (.int vx), .val (.int (vx &&& (7 : Int32))), .unset, .unset] [])) _
    exact k
  obtain ⟨vk, h_vk⟩ : ∃ z : Int32, z = (vx &&& (7 : Int32)) := ⟨_, rfl⟩
  have pre2 : ∀ t, Steps p.tables e below (s₁.setTop (mkF m 5 #[.val (.int vx), .val (.int vk), .unset, .unset] [])) t → Steps p.tables e below (s₁.setTop (entryFrame m #[(.int vx)] maxLocals)) t := by
    subst h_vk
    exact pre1
  obtain ⟨_, _, ⟨T3, L3, k3, n3⟩, -, X3, ⟨Lc3, hQ3, l3, y3, z3⟩, st3⟩ := Jvm.LawKit.callS X0 hx (y := (⟨"com/example/turnstyle/turnstyle/domain/TicketStateIsActivePinLaw", "pick", "(I)Lcom/example/turnstyle/turnstyle/domain/TicketState;"⟩ : MethodName)) hown (mvT hZ (hw _ (List.mem_of_getElem? (i := 0) rfl))) (mvT hZ (hw _ (List.mem_of_getElem? (i := 1) rfl))) (mvT hZ (hw _ (List.mem_of_getElem? (i := 2) rfl))) (mvT hZ (hw _ (List.mem_of_getElem? (i := 3) rfl))) (by decide) (backOf (W := 0) (rm_pick l Z a0 hw [] vk ad_WAITING ad_ADMITTED ad_CANCELLED ad_ENDED ad_SESSION_EXPIRED ad_EXPIRED ad_SOLD_OUT ad_CLOSED h0 n0 Z0 S_WAITING S_ADMITTED S_CANCELLED S_ENDED S_SESSION_EXPIRED S_EXPIRED S_SOLD_OUT S_CLOSED) hZ (hw _ (List.mem_of_getElem? (i := 3) rfl)) (hw _ (List.mem_of_getElem? (i := 2) rfl)) (by decide) (by decide)) (g := (mkF m 6 #[.val (.int vx), .val (.int vk), .unset, .unset] [(.int vk)])) rfl (by rw [hml]; rfl) (argsL := [(.int vk)]) (rest := []) (lenOf own_pd0 rfl) rfl (by show 2 * 0 + _ ≤ _; exact Nat.le_of_eq rfl) (hb hby at_6) (fun _ _ => ⟨rfl, e0, (by decide : 0 + 0 ≤ _), (by decide : 0 + 0 ≤ _)⟩)
  dsimp only [Pt.U, Pt.locs, Pt.cells, Pt.slots] at X3 l3 y3 z3 st3 hQ3
  subst l3 y3 z3
  obtain ⟨rfl, Nq3, hh3⟩ := hQ3
  have Nf3 := Fr.app N0 Nq3
  obtain ⟨vo, h_vo⟩ : ∃ z : Addr, z = (own_pick vk ad_WAITING ad_ADMITTED ad_CANCELLED ad_ENDED ad_SESSION_EXPIRED ad_EXPIRED ad_SOLD_OUT ad_CLOSED) := ⟨_, rfl⟩
  rw [← h_vo] at st3
  have Eo : Exa Z h0 vo "com/example/turnstyle/turnstyle/domain/TicketState" := by rw [h_vo]; exact own_pick_all (P := fun z => Exa Z h0 z "com/example/turnstyle/turnstyle/domain/TicketState") E_WAITING E_ADMITTED E_CANCELLED E_ENDED E_SESSION_EXPIRED E_EXPIRED E_SOLD_OUT E_CLOSED
  have pre4 : ∀ t, Steps p.tables e below (T3.setTop (mkF m 10 #[.val (.int vx), .val (.int vk), .val (.ref vo), .unset] [])) t → Steps p.tables e below (s₁.setTop (entryFrame m #[(.int vx)] maxLocals)) t := by
    intro t k
    refine pre2 t ?_
    show Steps p.tables e below (s₁.setTop (mkF m 5 #[.val (.int vx), .val (.int vk), .unset, .unset] [])) _
    refine XS.iloadN X0.here hx rfl (hb hby at_5) rfl ?_
    show Steps p.tables e below (s₁.setTop (mkF m 6 #[.val (.int vx), .val (.int vk), .unset, .unset] [(.int vk)])) _
    refine st3 _ ?_
    show Steps p.tables e below (T3.setTop (mkF m 9 #[.val (.int vx), .val (.int vk), .unset, .unset] [(.ref vo)])) _
    refine XS.astoreN X3.here hx rfl (hb hby at_9) rfl rfl (l' := #[.val (.int vx), .val (.int vk), .val (.ref vo), .unset]) rfl ?_
    show Steps p.tables e below (T3.setTop (mkF m 10 #[.val (.int vx), .val (.int vk), .val (.ref vo), .unset] [])) _
    exact k
  obtain ⟨ve, T5, lo5, X5, Nj5, ej5, hj5, pre5⟩ : ∃ (ve : Int32) (T' : State) (lo : List Loc), Stand p l e room_1 s m #[(.int vx)] below meth c T' lo 0 0 ∧ Fr n0 lo ∧ T'.heap = h0 ∧ (ve = if vk = 0 ∨ vk = 1 then 1 else 0) ∧ ∀ t, Steps p.tables e below (T'.setTop (mkF m 24 #[.val (.int vx), .val (.int vk), .val (.ref vo), .unset] [(.int ve)])) t → Steps p.tables e below (s₁.setTop (entryFrame m #[(.int vx)] maxLocals)) t := by
    have pre6 : ∀ t, Steps p.tables e below (T3.setTop (mkF m 11 #[.val (.int vx), .val (.int vk), .val (.ref vo), .unset] [(.int vk)])) t → Steps p.tables e below (s₁.setTop (entryFrame m #[(.int vx)] maxLocals)) t := by
      intro t k
      refine pre4 t ?_
      show Steps p.tables e below (T3.setTop (mkF m 10 #[.val (.int vx), .val (.int vk), .val (.ref vo), .unset] [])) _
      refine XS.iloadN X3.here hx rfl (hb hby at_10) rfl ?_
      show Steps p.tables e below (T3.setTop (mkF m 11 #[.val (.int vx), .val (.int vk), .val (.ref vo), .unset] [(.int vk)])) _
      exact k
    by_cases hc7 : vk = (0 : Int32)
    · refine ⟨(1 : Int32), T3, _, X3, Nf3, hh3, (by simp [hc7]), fun t k => ?_⟩
      refine pre6 t ?_
      show Steps p.tables e below (T3.setTop (mkF m 11 #[.val (.int vx), .val (.int vk), .val (.ref vo), .unset] [(.int vk)])) _
      refine XS.ifYes X3.here hx rfl (pc0 := 11) (pc' := 19) rfl (hb hby at_11) rfl ((if0 _ _).trans (teq hc7).1) (by decide) (by decide) ?_
      show Steps p.tables e below (T3.setTop (mkF m 19 #[.val (.int vx), .val (.int vk), .val (.ref vo), .unset] [])) _
      refine XS.iconst X3.here hx rfl (hb hby at_19) ?_
      show Steps p.tables e below (T3.setTop (mkF m 20 #[.val (.int vx), .val (.int vk), .val (.ref vo), .unset] [(.int (1 : Int32))])) _
      refine XS.goto X3.here hx rfl (pc0 := 20) (pc' := 24) rfl (hb hby at_20) (by decide) (by decide) ?_
      show Steps p.tables e below (T3.setTop (mkF m 24 #[.val (.int vx), .val (.int vk), .val (.ref vo), .unset] [(.int (1 : Int32))])) _
      exact k
    · have pre8 : ∀ t, Steps p.tables e below (T3.setTop (mkF m 16 #[.val (.int vx), .val (.int vk), .val (.ref vo), .unset] [(.int (1 : Int32)), (.int vk)])) t → Steps p.tables e below (s₁.setTop (entryFrame m #[(.int vx)] maxLocals)) t := by
        intro t k
        refine pre6 t ?_
        show Steps p.tables e below (T3.setTop (mkF m 11 #[.val (.int vx), .val (.int vk), .val (.ref vo), .unset] [(.int vk)])) _
        refine XS.ifNo X3.here hx rfl (hb hby at_11) rfl ((if0 _ _).trans (feq hc7).1) ?_
        show Steps p.tables e below (T3.setTop (mkF m 14 #[.val (.int vx), .val (.int vk), .val (.ref vo), .unset] [])) _
        refine XS.iloadN X3.here hx rfl (hb hby at_14) rfl ?_
        show Steps p.tables e below (T3.setTop (mkF m 15 #[.val (.int vx), .val (.int vk), .val (.ref vo), .unset] [(.int vk)])) _
        refine XS.iconst X3.here hx rfl (hb hby at_15) ?_
        show Steps p.tables e below (T3.setTop (mkF m 16 #[.val (.int vx), .val (.int vk), .val (.ref vo), .unset] [(.int (1 : Int32)), (.int vk)])) _
        exact k
      by_cases hc9 : vk = (1 : Int32)
      · refine ⟨(1 : Int32), T3, _, X3, Nf3, hh3, (by simp [hc7, hc9]), fun t k => ?_⟩
        refine pre8 t ?_
        show Steps p.tables e below (T3.setTop (mkF m 16 #[.val (.int vx), .val (.int vk), .val (.ref vo), .unset] [(.int (1 : Int32)), (.int vk)])) _
        refine XS.icmpNo X3.here hx rfl (hb hby at_16) rfl (teq hc9).2 ?_
        show Steps p.tables e below (T3.setTop (mkF m 19 #[.val (.int vx), .val (.int vk), .val (.ref vo), .unset] [])) _
        refine XS.iconst X3.here hx rfl (hb hby at_19) ?_
        show Steps p.tables e below (T3.setTop (mkF m 20 #[.val (.int vx), .val (.int vk), .val (.ref vo), .unset] [(.int (1 : Int32))])) _
        refine XS.goto X3.here hx rfl (pc0 := 20) (pc' := 24) rfl (hb hby at_20) (by decide) (by decide) ?_
        show Steps p.tables e below (T3.setTop (mkF m 24 #[.val (.int vx), .val (.int vk), .val (.ref vo), .unset] [(.int (1 : Int32))])) _
        exact k
      · refine ⟨(0 : Int32), T3, _, X3, Nf3, hh3, (by simp [hc7, hc9]), fun t k => ?_⟩
        refine pre8 t ?_
        show Steps p.tables e below (T3.setTop (mkF m 16 #[.val (.int vx), .val (.int vk), .val (.ref vo), .unset] [(.int (1 : Int32)), (.int vk)])) _
        refine XS.icmpYes X3.here hx rfl (pc0 := 16) (pc' := 23) rfl (hb hby at_16) rfl (feq hc9).2 (by decide) (by decide) ?_
        show Steps p.tables e below (T3.setTop (mkF m 23 #[.val (.int vx), .val (.int vk), .val (.ref vo), .unset] [])) _
        refine XS.iconst X3.here hx rfl (hb hby at_23) ?_
        show Steps p.tables e below (T3.setTop (mkF m 24 #[.val (.int vx), .val (.int vk), .val (.ref vo), .unset] [(.int (0 : Int32))])) _
        exact k
  obtain ⟨cq11, kq11, q11a, q11b, q11c⟩ := isOf hZ ej5 Eo
  obtain ⟨_, _, ⟨T10, L10, k10, n10⟩, -, X10, ⟨Lc10, hQ10, l10, y10, z10⟩, st10⟩ := X5.virtualBack hx (y := (⟨"com/example/turnstyle/turnstyle/domain/TicketState", "isActive", "()Z"⟩ : MethodName)) (z := (⟨"com/example/turnstyle/turnstyle/domain/TicketState", "isActive", "()Z"⟩ : MethodName)) hown (mvT hZ (hw _ (List.mem_of_getElem? (i := 7) rfl))) (mvT hZ (hw _ (List.mem_of_getElem? (i := 8) rfl))) (notFace_of_selects (args := #[]) (mvT hZ (hw _ (List.mem_of_getElem? (i := 10) rfl)))) (mvT hZ (hw _ (List.mem_of_getElem? (i := 10) rfl))) (mvT hZ (hw _ (List.mem_of_getElem? (i := 9) rfl))) (by decide) (backOf (W := 0) (rm_act l Z a0 hw [] vo ad_WAITING ad_ADMITTED ad_CANCELLED ad_ENDED ad_SESSION_EXPIRED ad_EXPIRED ad_SOLD_OUT ad_CLOSED h0 n0 Z0 S_WAITING S_ADMITTED S_CANCELLED S_ENDED S_SESSION_EXPIRED S_EXPIRED S_SOLD_OUT S_CLOSED) hZ (hw _ (List.mem_of_getElem? (i := 11) rfl)) (hw _ (List.mem_of_getElem? (i := 5) rfl)) (by decide) (by decide)) q11a q11c (g := (mkF m 26 #[.val (.int vx), .val (.int vk), .val (.ref vo), .val (.int ve)] [(.ref vo)])) rfl (by rw [hml]; rfl) (Steps.refl _) (argsL := []) (rest := []) (lenOf own_pd1 rfl) rfl (by show 2 * 0 + _ ≤ _; exact Nat.le_of_eq rfl) (hb hby at_26) (fun _ _ => ⟨rfl, ej5, (by decide : 0 + 0 ≤ _), (by decide : 0 + 0 ≤ _)⟩)
  dsimp only [Pt.U, Pt.locs, Pt.cells, Pt.slots] at X10 l10 y10 z10 st10 hQ10
  subst l10 y10 z10
  obtain ⟨rfl, Nq10, hh10⟩ := hQ10
  have Nf10 := Fr.app Nj5 Nq10
  have pre12 : ∀ t, Steps p.tables e below (T10.setTop (mkF m 30 #[.val (.int vx), .val (.int vk), .val (.ref vo), .val (.int ve)] [(.int ve), (.int (if vo = ad_WAITING ∨ vo = ad_ADMITTED then 1 else 0))])) t → Steps p.tables e below (s₁.setTop (entryFrame m #[(.int vx)] maxLocals)) t := by
    intro t k
    refine pre5 t ?_
    show Steps p.tables e below (T5.setTop (mkF m 24 #[.val (.int vx), .val (.int vk), .val (.ref vo), .unset] [(.int ve)])) _
    refine XS.istoreN X5.here hx rfl (hb hby at_24) rfl (l' := #[.val (.int vx), .val (.int vk), .val (.ref vo), .val (.int ve)]) rfl ?_
    show Steps p.tables e below (T5.setTop (mkF m 25 #[.val (.int vx), .val (.int vk), .val (.ref vo), .val (.int ve)] [])) _
    refine XS.aloadN X5.here hx rfl (hb hby at_25) rfl rfl ?_
    show Steps p.tables e below (T5.setTop (mkF m 26 #[.val (.int vx), .val (.int vk), .val (.ref vo), .val (.int ve)] [(.ref vo)])) _
    refine st10.trans ?_
    show Steps p.tables e below (T10.setTop (mkF m 29 #[.val (.int vx), .val (.int vk), .val (.ref vo), .val (.int ve)] [(.int (if vo = ad_WAITING ∨ vo = ad_ADMITTED then 1 else 0))])) _
    refine XS.iloadN X10.here hx rfl (hb hby at_29) rfl ?_
    show Steps p.tables e below (T10.setTop (mkF m 30 #[.val (.int vx), .val (.int vk), .val (.ref vo), .val (.int ve)] [(.int ve), (.int (if vo = ad_WAITING ∨ vo = ad_ADMITTED then 1 else 0))])) _
    exact k
  have hd13 : (if vo = ad_WAITING ∨ vo = ad_ADMITTED then 1 else 0) = ve := by rw [hj5, h_vo]; exact own_act n2 n3 n4 n5 n6 n7 m2 m3 m4 m5 m6 m7
  obtain ⟨fs, hr, hrun, hended, hW, hsame⟩ := X10.leave (v := some (.int (1 : Int32))) (fun h => by rw [Bd.returns] at h; cases h)
  refine ⟨_, _, pre12 _ ?_, hrun, hended, _, _, rfl, ?_, ⟨_, rfl⟩, hW, hsame.mono (by decide) (by decide)⟩
  · show Steps p.tables e below (T10.setTop (mkF m 30 #[.val (.int vx), .val (.int vk), .val (.ref vo), .val (.int ve)] [(.int ve), (.int (if vo = ad_WAITING ∨ vo = ad_ADMITTED then 1 else 0))])) _
    refine XS.icmpNo X10.here hx rfl (hb hby at_30) rfl (teq hd13).2 ?_
    show Steps p.tables e below (T10.setTop (mkF m 33 #[.val (.int vx), .val (.int vk), .val (.ref vo), .val (.int ve)] [])) _
    refine XS.iconst X10.here hx rfl (hb hby at_33) ?_
    show Steps p.tables e below (T10.setTop (mkF m 34 #[.val (.int vx), .val (.int vk), .val (.ref vo), .val (.int ve)] [(.int (1 : Int32))])) _
    refine XS.goto X10.here hx rfl (pc0 := 34) (pc' := 38) rfl (hb hby at_34) (by decide) (by decide) ?_
    show Steps p.tables e below (T10.setTop (mkF m 38 #[.val (.int vx), .val (.int vk), .val (.ref vo), .val (.int ve)] [(.int (1 : Int32))])) _
    exact retN X10 hx (t := .boolean) Bd.returns (by simp) (hb hby at_38) hr
  · show Q0 Z vx ad_WAITING ad_ADMITTED ad_CANCELLED ad_ENDED ad_SESSION_EXPIRED ad_EXPIRED ad_SOLD_OUT ad_CLOSED h0 n0 _ T10.heap _
    rw [hh10]
    exact ⟨rfl, Nf10⟩
set_option maxRecDepth 65536 in
set_option maxHeartbeats 40000000 in
theorem comes_1 {Post : Tables → Env → Array Value → State → Outcome → State → Prop} (hpost : ∀ tb e args s v u, (limb_1_1.after args s (.returned v) u = true ∧ limb_1_2.after args s (.returned v) u = true ∧ True) → FrameEnd s (.returned v) u (Jvm.fieldLocs frame_1_writes args s ++ Jvm.arrayLocs frame_1_arrays args s ++ Jvm.staticLocs frame_1_statics s) 0 0 → Post tb e args s (.returned v) u) :
    ArmFor flags0 classFile x code maxLocals ret World_1 tables_1 room_1 Calls_1 rest_1 Pre_1 Post := by
  intro l hfl _ _ p e ha hc hk s m args below hf hA hF happ hP
  obtain ⟨hcalls, hrest, hpre⟩ := hP
  obtain ⟨-, -, -, hnamed, -, -, -, hat⟩ := (Spec.applies_iff hf).mp happ
  obtain ⟨hg, hn⟩ := and_e (Cond.before_iff.mp (show (Jvm.Cond.and given_1 narrow_1).before args s = true from hpre))
  obtain ⟨ga1, gb1⟩ := and_e hg
  obtain ⟨w0, rfl⟩ : ∃ w0 : Value, args = #[w0] := by
    have hs : args.size = 1 := by simpa [Cond.value, given_1] using ga1
    obtain ⟨L⟩ := args
    match L, hs with
    | [w0], _ => exact ⟨w0, rfl⟩
  have hw := fun d (hd : d ∈ tables_1) => atoms_spec (ws := Jvm.Cond.code x code maxLocals ret :: tables_1) hat d (List.mem_cons_of_mem _ hd)
  have hfit : Fit s := fun {y c} hc i hi => by
    obtain ⟨ha, rfl⟩ := Array.getElem?_eq_some_iff.mp hc
    have q := List.all_eq_true.mp ((Array.all_eq_true_iff_forall_mem.mp hF) _ (Array.getElem_mem ha)) i (List.mem_range.mpr hi)
    simpa [Array.getElem?_eq_getElem hi] using q
  obtain ⟨i0, ei0⟩ := is_v gb1
  obtain rfl : w0 = (.int i0) := Option.some.inj ei0
  obtain ⟨na1, nb1⟩ := and_e hn
  obtain ⟨na2, nb2⟩ := and_e nb1
  obtain ⟨na3, nb3⟩ := and_e nb2
  obtain ⟨na4, nb4⟩ := and_e nb3
  obtain ⟨na5, nb5⟩ := and_e nb4
  obtain ⟨na6, nb6⟩ := and_e nb5
  obtain ⟨na7, nb7⟩ := and_e nb6
  obtain ⟨na8, nb8⟩ := and_e nb7
  obtain ⟨na9, nb9⟩ := and_e nb8
  obtain ⟨na10, nb10⟩ := and_e nb9
  obtain ⟨na11, nb11⟩ := and_e nb10
  obtain ⟨na12, nb12⟩ := and_e nb11
  obtain ⟨na13, nb13⟩ := and_e nb12
  obtain ⟨na14, nb14⟩ := and_e nb13
  obtain ⟨na15, nb15⟩ := and_e nb14
  obtain ⟨ad_WAITING, ev_WAITING⟩ := exa_v na1
  have E_WAITING := Exa.start ev_WAITING na1
  have S_WAITING := Sta.start ev_WAITING (Or.inr ⟨(hw _ (List.mem_of_getElem? (i := 5) rfl)), (hw _ (List.mem_of_getElem? (i := 6) rfl))⟩)
  have O_WAITING : Fld s s.heap ad_WAITING "java/lang/Enum" "ordinal" "I" (.int (0 : Int32)) := Fld.start (own_ord ev_WAITING na4)
  obtain ⟨ad_ENDED, ev_ENDED⟩ := exa_v na2
  have E_ENDED := Exa.start ev_ENDED na2
  have S_ENDED := Sta.start ev_ENDED (Or.inr ⟨(hw _ (List.mem_of_getElem? (i := 5) rfl)), (hw _ (List.mem_of_getElem? (i := 14) rfl))⟩)
  have O_ENDED : Fld s s.heap ad_ENDED "java/lang/Enum" "ordinal" "I" (.int (3 : Int32)) := Fld.start (own_ord ev_ENDED na3)
  obtain ⟨ad_ADMITTED, ev_ADMITTED⟩ := exa_v na5
  have E_ADMITTED := Exa.start ev_ADMITTED na5
  have S_ADMITTED := Sta.start ev_ADMITTED (Or.inr ⟨(hw _ (List.mem_of_getElem? (i := 5) rfl)), (hw _ (List.mem_of_getElem? (i := 16) rfl))⟩)
  have O_ADMITTED : Fld s s.heap ad_ADMITTED "java/lang/Enum" "ordinal" "I" (.int (1 : Int32)) := Fld.start (own_ord ev_ADMITTED na6)
  obtain ⟨ad_SOLD_OUT, ev_SOLD_OUT⟩ := exa_v na7
  have E_SOLD_OUT := Exa.start ev_SOLD_OUT na7
  have S_SOLD_OUT := Sta.start ev_SOLD_OUT (Or.inr ⟨(hw _ (List.mem_of_getElem? (i := 5) rfl)), (hw _ (List.mem_of_getElem? (i := 18) rfl))⟩)
  have O_SOLD_OUT : Fld s s.heap ad_SOLD_OUT "java/lang/Enum" "ordinal" "I" (.int (6 : Int32)) := Fld.start (own_ord ev_SOLD_OUT na8)
  obtain ⟨ad_CLOSED, ev_CLOSED⟩ := exa_v na9
  have E_CLOSED := Exa.start ev_CLOSED na9
  have S_CLOSED := Sta.start ev_CLOSED (Or.inr ⟨(hw _ (List.mem_of_getElem? (i := 5) rfl)), (hw _ (List.mem_of_getElem? (i := 20) rfl))⟩)
  have O_CLOSED : Fld s s.heap ad_CLOSED "java/lang/Enum" "ordinal" "I" (.int (7 : Int32)) := Fld.start (own_ord ev_CLOSED na10)
  obtain ⟨ad_CANCELLED, ev_CANCELLED⟩ := exa_v na11
  have E_CANCELLED := Exa.start ev_CANCELLED na11
  have S_CANCELLED := Sta.start ev_CANCELLED (Or.inr ⟨(hw _ (List.mem_of_getElem? (i := 5) rfl)), (hw _ (List.mem_of_getElem? (i := 22) rfl))⟩)
  have O_CANCELLED : Fld s s.heap ad_CANCELLED "java/lang/Enum" "ordinal" "I" (.int (2 : Int32)) := Fld.start (own_ord ev_CANCELLED na12)
  obtain ⟨ad_SESSION_EXPIRED, ev_SESSION_EXPIRED⟩ := exa_v na13
  have E_SESSION_EXPIRED := Exa.start ev_SESSION_EXPIRED na13
  have S_SESSION_EXPIRED := Sta.start ev_SESSION_EXPIRED (Or.inr ⟨(hw _ (List.mem_of_getElem? (i := 5) rfl)), (hw _ (List.mem_of_getElem? (i := 25) rfl))⟩)
  have O_SESSION_EXPIRED : Fld s s.heap ad_SESSION_EXPIRED "java/lang/Enum" "ordinal" "I" (.int (4 : Int32)) := Fld.start (own_ord ev_SESSION_EXPIRED na14)
  obtain ⟨ad_EXPIRED, ev_EXPIRED⟩ := exa_v na15
  have E_EXPIRED := Exa.start ev_EXPIRED na15
  have S_EXPIRED := Sta.start ev_EXPIRED (Or.inr ⟨(hw _ (List.mem_of_getElem? (i := 5) rfl)), (hw _ (List.mem_of_getElem? (i := 27) rfl))⟩)
  have O_EXPIRED : Fld s s.heap ad_EXPIRED "java/lang/Enum" "ordinal" "I" (.int (5 : Int32)) := Fld.start (own_ord ev_EXPIRED nb15)
  obtain ⟨n, o, h1, h2, h3, _, L, rfl, ⟨rfl, N⟩, hq⟩ := rm0 l s _ hw tables_1 i0 ad_WAITING ad_ADMITTED ad_CANCELLED ad_ENDED ad_SESSION_EXPIRED ad_EXPIRED ad_SOLD_OUT ad_CLOSED s.heap s.heap.size (Nat.le_refl _) S_WAITING S_ADMITTED S_CANCELLED S_ENDED S_SESSION_EXPIRED S_EXPIRED S_SOLD_OUT S_CLOSED E_WAITING E_ADMITTED E_CANCELLED E_ENDED E_SESSION_EXPIRED E_EXPIRED E_SOLD_OUT E_CLOSED (O_CANCELLED.ne O_WAITING (by decide)) (O_ENDED.ne O_WAITING (by decide)) (O_SESSION_EXPIRED.ne O_WAITING (by decide)) (O_EXPIRED.ne O_WAITING (by decide)) (O_SOLD_OUT.ne O_WAITING (by decide)) (O_CLOSED.ne O_WAITING (by decide)) (O_CANCELLED.ne O_ADMITTED (by decide)) (O_ENDED.ne O_ADMITTED (by decide)) (O_SESSION_EXPIRED.ne O_ADMITTED (by decide)) (O_EXPIRED.ne O_ADMITTED (by decide)) (O_SOLD_OUT.ne O_ADMITTED (by decide)) (O_CLOSED.ne O_ADMITTED (by decide)) p e ha hc hk s m _ below hf ((Spec.applies_iff_loose hf).mp happ).1 ⟨rfl, State.Warmed39.refl s, rfl⟩ trivial
  refine ⟨n, _, h1, h2, h3, hpost _ _ _ _ _ _ ⟨Cond.after_iff.mpr rfl, Cond.after_iff.mpr (eq_i res_at (Term.int_eval (1)) rfl), trivial⟩ ⟨hq.1, hq.2.1, (hq.2.2.sift fun y hy => Or.inr (N y hy)).mono (by decide) (by decide)⟩⟩
theorem main_1_1 : Claimed_1_1 := comes_1 fun _ _ _ _ _ _ h hF => ⟨h.1, hF⟩
theorem main_1_2 : Claimed_1_2 := comes_1 fun _ _ _ _ _ _ h hF => ⟨h.2.1, hF⟩
end Jvm.Pilot.@@N@@
namespace Jvm.Pilot.@@N@@
open Jvm Jvm.ClassFile Sem Op Lib Jvm.Free Jvm.Stand Jvm.Pilot.@@N@@.Jvm.D
/-! MADE BY PROGRAM (witnessworld.py) out of the Statement's table words and the real class files: 12 classes; the members and pool entries that the words name. The judged class is class 1, her method 1. -/
namespace start1
open Jvm.ClassFile
def u (s : String) : CpInfo := .utf8 (stringToUtf16 s)
/-- a pool by its gaps: so many unusable entries, then the entry; so many at the end -/
def gap : Nat → List CpInfo → List CpInfo
  | 0, r => r
  | n + 1, r => .unusable :: gap n r
def poolList (es : List (Nat × CpInfo)) (last : Nat) : List CpInfo := es.foldr (fun e r => gap e.1 (e.2 :: r)) (gap last [])
def pool (es : List (Nat × CpInfo)) (last : Nat) : Array CpInfo := ⟨poolList es last⟩
def fileOf (pool : Array CpInfo) (this : Nat) (attrs : Array Attribute := #[]) (ms : Array MethodInfo := #[]) (fl : Nat := 33) (sup : Nat := 0) (ifs : Array Nat := #[]) (fds : Array FieldInfo := #[]) : ClassFile where
  minorVersion := 0
  majorVersion := 65
  constantPool := pool
  accessFlags := fl
  thisClass := this
  superClass := sup
  interfaces := ifs
  fields := fds
  methods := ms
  attributes := attrs
def plain (name : String) (sup : Option ClassId) : Class where
  name := name
  kind := .ordinary
  loader := none
  accessFlags := 33
  super := sup
  interfaces := #[]
  cf := none
  fields := #[]
  methods := #[]
  instanceTypes := #[]
  staticTypes := #[]
  resolved := #[]
  callSites := []
  init := .initialized
  statics := none
  mirror := none

def pool0 : Array CpInfo := pool [(5, u "<init>"), (0, u "()V"), (1, .class_ 10), (1, u "java/lang/Object")] 113

def k0m0 : Method := { name := "<init>", desc := "()V", sig := { parameters := [], returnType := none }, accessFlags := 1, code := none }
/-- java/lang/Object -/
def k0 : Class := { plain "java/lang/Object" none with
  accessFlags := 33
  interfaces := #[]
  cf := some (fileOf pool0 8 #[] #[{ accessFlags := 1, nameIndex := 5, descriptorIndex := 6, attributes := #[] }] 33 0 #[] #[])
  fields := #[]
  methods := #[k0m0]
  instanceTypes := #[]
  staticTypes := #[]
  resolved := Array.replicate 124 none
  statics := none }

def pool1 : Array CpInfo := pool [(2, .class_ 4), (1, u "java/lang/Object"), (0, u "<init>"), (0, u "()V"), (0, .methodref 8 9), (0, .class_ 10), (0, .nameAndType 11 12), (0, u "com/example/turnstyle/turnstyle/domain/TicketStateIsActivePinLaw"), (0, u "pick"), (0, u "(I)Lcom/example/turnstyle/turnstyle/domain/TicketState;"), (0, .methodref 14 15), (0, .class_ 16), (0, .nameAndType 17 18), (0, u "com/example/turnstyle/turnstyle/domain/TicketState"), (0, u "isActive"), (0, u "()Z"), (0, .fieldref 14 20), (0, .nameAndType 21 22), (0, u "WAITING"), (0, u "Lcom/example/turnstyle/turnstyle/domain/TicketState;"), (0, .fieldref 14 24), (0, .nameAndType 25 22), (0, u "ADMITTED"), (0, .fieldref 14 27), (0, .nameAndType 28 22), (0, u "CANCELLED"), (0, .fieldref 14 30), (0, .nameAndType 31 22), (0, u "ENDED"), (0, .fieldref 14 33), (0, .nameAndType 34 22), (0, u "SESSION_EXPIRED"), (0, .fieldref 14 36), (0, .nameAndType 37 22), (0, u "EXPIRED"), (0, .fieldref 14 39), (0, .nameAndType 40 22), (0, u "SOLD_OUT"), (0, .fieldref 14 42), (0, .nameAndType 43 22), (0, u "CLOSED"), (2, u "law"), (0, u "(I)Z")] 3

def k1m0 : Method := { name := "<init>", desc := "()V", sig := { parameters := [], returnType := none }, accessFlags := 2, code := none }
def k1c1 : Code := { maxStack := 2, maxLocals := 4, code := code, exceptionTable := #[], attributes := #[] }
def k1m1 : Method := { name := "law", desc := "(I)Z", sig := { parameters := [.int], returnType := some .boolean }, accessFlags := 9, code := some k1c1 }
def k1c2 : Code := { maxStack := 2, maxLocals := 1, code := method_3_code, exceptionTable := #[], attributes := #[] }
def k1m2 : Method := { name := "pick", desc := "(I)Lcom/example/turnstyle/turnstyle/domain/TicketState;", sig := { parameters := [.int], returnType := some (.object "com/example/turnstyle/turnstyle/domain/TicketState") }, accessFlags := 10, code := some k1c2 }
/-- com/example/turnstyle/turnstyle/domain/TicketStateIsActivePinLaw -/
def k1 : Class := { plain "com/example/turnstyle/turnstyle/domain/TicketStateIsActivePinLaw" (some 0) with
  accessFlags := 49
  interfaces := #[]
  cf := some (fileOf pool1 8 #[] #[{ accessFlags := 2, nameIndex := 5, descriptorIndex := 6, attributes := #[] }, { accessFlags := 9, nameIndex := 46, descriptorIndex := 47, attributes := #[] }, { accessFlags := 10, nameIndex := 11, descriptorIndex := 12, attributes := #[] }] 49 2 #[] #[])
  fields := #[]
  methods := #[k1m0, k1m1, k1m2]
  instanceTypes := #[]
  staticTypes := #[]
  resolved := Array.replicate 51 none
  statics := none }

def pool2 : Array CpInfo := pool [(1, .class_ 2), (0, u "java/lang/constant/Constable"), (0, .class_ 4), (0, u "java/lang/Object")] 6

/-- java/lang/constant/Constable -/
def k2 : Class := { plain "java/lang/constant/Constable" (some 0) with
  accessFlags := 1537
  interfaces := #[]
  cf := some (fileOf pool2 1 #[] #[] 1537 3 #[] #[])
  fields := #[]
  methods := #[]
  instanceTypes := #[]
  staticTypes := #[]
  resolved := Array.replicate 11 none
  statics := none }

def pool3 : Array CpInfo := pool [(1, .class_ 2), (0, u "java/lang/Comparable"), (0, .class_ 4), (0, u "java/lang/Object")] 7

/-- java/lang/Comparable -/
def k3 : Class := { plain "java/lang/Comparable" (some 0) with
  accessFlags := 1537
  interfaces := #[]
  cf := some (fileOf pool3 1 #[] #[] 1537 3 #[] #[])
  fields := #[]
  methods := #[]
  instanceTypes := #[]
  staticTypes := #[]
  resolved := Array.replicate 12 none
  statics := none }

def pool4 : Array CpInfo := pool [(1, .class_ 2), (0, u "java/io/Serializable"), (0, .class_ 4), (0, u "java/lang/Object")] 2

/-- java/io/Serializable -/
def k4 : Class := { plain "java/io/Serializable" (some 0) with
  accessFlags := 1537
  interfaces := #[]
  cf := some (fileOf pool4 1 #[] #[] 1537 3 #[] #[])
  fields := #[]
  methods := #[]
  instanceTypes := #[]
  staticTypes := #[]
  resolved := Array.replicate 7 none
  statics := none }

def pool5 : Array CpInfo := pool [(2, .class_ 4), (1, u "java/lang/Enum"), (0, u "name"), (0, u "Ljava/lang/String;"), (2, u "ordinal"), (0, u "I"), (1, .class_ 14), (1, u "java/lang/Object"), (4, u "hash"), (86, .class_ 108), (1, u "java/lang/Enum$EnumDesc"), (2, .class_ 112), (0, u "java/lang/constant/Constable"), (0, .class_ 114), (0, u "java/lang/Comparable"), (0, .class_ 116), (0, u "java/io/Serializable")] 87

/-- java/lang/Enum -/
def k5 : Class := { plain "java/lang/Enum" (some 0) with
  accessFlags := 1057
  interfaces := #[2, 3, 4]
  cf := some (fileOf pool5 2 #[.nestMembers #[106]] #[] 1057 12 #[111, 113, 115] #[{ accessFlags := 18, nameIndex := 5, descriptorIndex := 6, attributes := #[] }, { accessFlags := 18, nameIndex := 9, descriptorIndex := 10, attributes := #[] }, { accessFlags := 2, nameIndex := 19, descriptorIndex := 10, attributes := #[] }])
  fields := #[{ name := "name", type := (.object "java/lang/String"), accessFlags := 18, slot := 0, constantValue := 0 }, { name := "ordinal", type := .int, accessFlags := 18, slot := 1, constantValue := 0 }, { name := "hash", type := .int, accessFlags := 2, slot := 2, constantValue := 0 }]
  methods := #[]
  instanceTypes := #[(.object "java/lang/String"), .int, .int]
  staticTypes := #[]
  resolved := Array.replicate 204 none
  statics := none }

def pool6 : Array CpInfo := pool [(1, .class_ 2), (0, u "com/example/turnstyle/turnstyle/domain/TicketState"), (0, .fieldref 1 4), (0, .nameAndType 5 6), (0, u "WAITING"), (0, u "Lcom/example/turnstyle/turnstyle/domain/TicketState;"), (0, .fieldref 1 8), (0, .nameAndType 9 6), (0, u "ADMITTED"), (2, u "CANCELLED"), (2, u "ENDED"), (2, u "SESSION_EXPIRED"), (2, u "EXPIRED"), (2, u "SOLD_OUT"), (2, u "CLOSED"), (2, u "$VALUES"), (0, u "[Lcom/example/turnstyle/turnstyle/domain/TicketState;"), (6, .class_ 40), (1, u "java/lang/Enum"), (8, u "isActive"), (0, u "()Z")] 63

def k6c0 : Code := { maxStack := 2, maxLocals := 1, code := prog_14_method_4_code, exceptionTable := #[], attributes := #[] }
def k6m0 : Method := { name := "isActive", desc := "()Z", sig := { parameters := [], returnType := some .boolean }, accessFlags := 1, code := some k6c0 }
/-- com/example/turnstyle/turnstyle/domain/TicketState -/
def k6 : Class := { plain "com/example/turnstyle/turnstyle/domain/TicketState" (some 5) with
  accessFlags := 16433
  interfaces := #[]
  cf := some (fileOf pool6 1 #[] #[{ accessFlags := 1, nameIndex := 49, descriptorIndex := 50, attributes := #[] }] 16433 38 #[] #[{ accessFlags := 16409, nameIndex := 5, descriptorIndex := 6, attributes := #[] }, { accessFlags := 16409, nameIndex := 9, descriptorIndex := 6, attributes := #[] }, { accessFlags := 16409, nameIndex := 12, descriptorIndex := 6, attributes := #[] }, { accessFlags := 16409, nameIndex := 15, descriptorIndex := 6, attributes := #[] }, { accessFlags := 16409, nameIndex := 18, descriptorIndex := 6, attributes := #[] }, { accessFlags := 16409, nameIndex := 21, descriptorIndex := 6, attributes := #[] }, { accessFlags := 16409, nameIndex := 24, descriptorIndex := 6, attributes := #[] }, { accessFlags := 16409, nameIndex := 27, descriptorIndex := 6, attributes := #[] }, { accessFlags := 4122, nameIndex := 30, descriptorIndex := 31, attributes := #[] }])
  fields := #[{ name := "WAITING", type := (.object "com/example/turnstyle/turnstyle/domain/TicketState"), accessFlags := 16409, slot := 0, constantValue := 0 }, { name := "ADMITTED", type := (.object "com/example/turnstyle/turnstyle/domain/TicketState"), accessFlags := 16409, slot := 1, constantValue := 0 }, { name := "CANCELLED", type := (.object "com/example/turnstyle/turnstyle/domain/TicketState"), accessFlags := 16409, slot := 2, constantValue := 0 }, { name := "ENDED", type := (.object "com/example/turnstyle/turnstyle/domain/TicketState"), accessFlags := 16409, slot := 3, constantValue := 0 }, { name := "SESSION_EXPIRED", type := (.object "com/example/turnstyle/turnstyle/domain/TicketState"), accessFlags := 16409, slot := 4, constantValue := 0 }, { name := "EXPIRED", type := (.object "com/example/turnstyle/turnstyle/domain/TicketState"), accessFlags := 16409, slot := 5, constantValue := 0 }, { name := "SOLD_OUT", type := (.object "com/example/turnstyle/turnstyle/domain/TicketState"), accessFlags := 16409, slot := 6, constantValue := 0 }, { name := "CLOSED", type := (.object "com/example/turnstyle/turnstyle/domain/TicketState"), accessFlags := 16409, slot := 7, constantValue := 0 }, { name := "$VALUES", type := (.array (.object "com/example/turnstyle/turnstyle/domain/TicketState")), accessFlags := 4122, slot := 8, constantValue := 0 }]
  methods := #[k6m0]
  instanceTypes := #[(.object "java/lang/String"), .int, .int]
  staticTypes := #[(.object "com/example/turnstyle/turnstyle/domain/TicketState"), (.object "com/example/turnstyle/turnstyle/domain/TicketState"), (.object "com/example/turnstyle/turnstyle/domain/TicketState"), (.object "com/example/turnstyle/turnstyle/domain/TicketState"), (.object "com/example/turnstyle/turnstyle/domain/TicketState"), (.object "com/example/turnstyle/turnstyle/domain/TicketState"), (.object "com/example/turnstyle/turnstyle/domain/TicketState"), (.object "com/example/turnstyle/turnstyle/domain/TicketState"), (.array (.object "com/example/turnstyle/turnstyle/domain/TicketState"))]
  resolved := Array.replicate 114 none
  statics := some 0 }

def pool7 : Array CpInfo := pool [(1, u "java/lang/Cloneable"), (0, .class_ 1), (0, u "java/lang/Object"), (0, .class_ 3)] 3

/-- java/lang/Cloneable -/
def k7 : Class := { plain "java/lang/Cloneable" (some 0) with
  accessFlags := 1537
  interfaces := #[]
  cf := some (fileOf pool7 2 #[] #[] 1537 4 #[] #[])
  fields := #[]
  methods := #[]
  instanceTypes := #[]
  staticTypes := #[]
  resolved := Array.replicate 8 none
  statics := none }

/-- the primitive byte -/
def k8 : Class := { plain "byte" none with kind := .primitive 'B', accessFlags := 0x411 }
/-- [B -/
def k9 : Class := { plain "[B" (some 0) with kind := .array 8 .byte, interfaces := #[7, 4], accessFlags := 1041 }

/-- the primitive int -/
def k10 : Class := { plain "int" none with kind := .primitive 'I', accessFlags := 0x411 }
/-- [I -/
def k11 : Class := { plain "[I" (some 0) with kind := .array 10 .int, interfaces := #[7, 4], accessFlags := 1041 }

def heap : Heap := #[{ cls := 6, slots := #[.ref 1, .ref 2, .ref 3, .ref 4, .ref 5, .ref 6, .ref 7, .ref 8, .null], vm := .statics 6 },
  { cls := 6, slots := #[.null, .int 0, .int 0], vm := .none },
  { cls := 6, slots := #[.null, .int 1, .int 0], vm := .none },
  { cls := 6, slots := #[.null, .int 2, .int 0], vm := .none },
  { cls := 6, slots := #[.null, .int 3, .int 0], vm := .none },
  { cls := 6, slots := #[.null, .int 4, .int 0], vm := .none },
  { cls := 6, slots := #[.null, .int 5, .int 0], vm := .none },
  { cls := 6, slots := #[.null, .int 6, .int 0], vm := .none },
  { cls := 6, slots := #[.null, .int 7, .int 0], vm := .none }]
def classes : Array Class := #[k0, k1, k2, k3, k4, k5, k6, k7, k8, k9, k10, k11]
def interned : List (Array UInt16 × Addr) := []
def slotsUsed : Nat := 33
def theMethod : MethodId := ⟨1, 1⟩
def args0 : Array Value := #[.int 5]
def aboutOver (below : List Frame) : State where
  vm := { classes := classes, interned := interned.toArray }
  heap := heap
  slotsUsed := slotsUsed
  threads := #[{ frames := .invoking theMethod args0 :: below }]
def below0 : List Frame := [.native { method := ⟨0, 0⟩, args := #[] }]
def about1 : State := aboutOver below0
def p0 : Program := .bare "" "" ""
def e0 : Env := launch0.env 0 0 0
theorem w_frames : about1.frames = Frame.invoking theMethod args0 :: below0 := rfl
set_option maxRecDepth 65536 in
theorem w_args : argsFit about1.vm theMethod args0 = true := by decide +kernel
set_option maxRecDepth 65536 in
theorem w_heap : heapFits about1 = true := by decide +kernel
set_option maxRecDepth 65536 in
theorem w_runnable : about1.curStatus? = some .runnable := by decide +kernel
set_option maxRecDepth 65536 in
theorem w_alone : about1.alone = true := by decide +kernel
set_option maxRecDepth 65536 in
theorem w_named : about1.methodNamed? x = some theMethod := by decide +kernel
set_option maxRecDepth 65536 in
theorem w_hears : about1.hears theMethod below0 = true := by decide +kernel
set_option maxRecDepth 65536 in
theorem w_ripe : about1.ripe theMethod args0 below0 = true := by decide +kernel
theorem w_running : about1.status = .running := rfl
set_option maxRecDepth 65536 in
theorem w_room : about1.hasRoom e0.platform room_1 = true :=
  launch0.hasRoom_least _ room_1 (by decide +kernel) (by decide +kernel) (by decide +kernel) (by decide +kernel) (by decide +kernel) (by decide +kernel)
theorem allAtoms_all (ts : List Jvm.Cond) (a : Array Jvm.Value) (st : Jvm.State) : (allAtoms ts).before a st = ts.all (fun c => c.before a st) := by
  induction ts with
  | nil => rfl
  | cons c t ih =>
    show (Jvm.Cond.and c (allAtoms t)).before a st = _
    rw [Jvm.Cond.before_and, ih, List.all_cons]
def words1 : List Jvm.Cond := Jvm.Cond.code x code maxLocals ret :: tables_1
/-- a 'code' word, met by the world's own term for the bytes: nothing is compared byte by byte -/
theorem code_word {y : MethodName} {bytes : ByteArray} {mx : Nat} {rt : Option FieldType} {a : Array Value} {s : State} {m : MethodId} {meth : Method} {c : Code} (h1 : s.methodNamed? y = some m) (h2 : s.vm.method? m = some meth) (h3 : meth.code = some c) (h4 : c.code = bytes)
    (h5 : (c.maxLocals == mx && c.exceptionTable.isEmpty && decide (c.maxStack ≤ mostOperands) && decide (meth.sig.returnType = rt) && !meth.locks && decide (parseMethodDescriptor y.desc = some meth.sig)) = true) : (Jvm.Cond.code y bytes mx rt).before a s = true := by
  simp only [Bool.and_eq_true, beq_iff_eq, Bool.not_eq_true', decide_eq_true_eq] at h5
  obtain ⟨⟨⟨⟨⟨g1, g2⟩, g3⟩, g4⟩, g5⟩, g6⟩ := h5
  simp [Cond.before, Cond.holds, Cond.value, h1, h2, h3, h4, g1, g2, g3, g4, g5, g6]
def isCode : Jvm.Cond → Bool
  | .code _ _ _ _ => true
  | _ => false
theorem all_split {L : List Jvm.Cond} {P : Jvm.Cond → Bool} (h1 : L.all (fun c => isCode c || P c) = true) (h2 : ∀ c ∈ L.filter isCode, P c = true) : L.all P = true := by
  refine List.all_eq_true.mpr fun c hc => ?_
  have h := List.all_eq_true.mp h1 c hc
  rcases Bool.eq_false_or_eq_true (isCode c) with hi | hi
  · exact h2 c (List.mem_filter.mpr ⟨hc, hi⟩)
  · simpa [hi] using h
set_option maxRecDepth 65536 in
theorem w_c0 : (Jvm.Cond.code x code maxLocals ret).before args0 about1 = true := code_word (m := ⟨1, 1⟩) (meth := k1m1) (c := k1c1) (by decide +kernel) rfl rfl rfl (by decide +kernel)
set_option maxRecDepth 65536 in
theorem w_c1 : (Jvm.Cond.code ({ cls := "com/example/turnstyle/turnstyle/domain/TicketStateIsActivePinLaw", name := "pick", desc := "(I)Lcom/example/turnstyle/turnstyle/domain/TicketState;" } : Jvm.MethodName) method_3_code (1 : Nat) (Option.some (Jvm.ClassFile.FieldType.object "com/example/turnstyle/turnstyle/domain/TicketState"))).before args0 about1 = true := code_word (m := ⟨1, 2⟩) (meth := k1m2) (c := k1c2) (by decide +kernel) rfl rfl rfl (by decide +kernel)
set_option maxRecDepth 65536 in
theorem w_c2 : (Jvm.Cond.code ({ cls := "com/example/turnstyle/turnstyle/domain/TicketState", name := "isActive", desc := "()Z" } : Jvm.MethodName) prog_14_method_4_code (1 : Nat) (Option.some Jvm.ClassFile.FieldType.boolean)).before args0 about1 = true := code_word (m := ⟨6, 0⟩) (meth := k6m0) (c := k6c0) (by decide +kernel) rfl rfl rfl (by decide +kernel)
def codes1 : List Jvm.Cond := [Jvm.Cond.code x code maxLocals ret, Jvm.Cond.code ({ cls := "com/example/turnstyle/turnstyle/domain/TicketStateIsActivePinLaw", name := "pick", desc := "(I)Lcom/example/turnstyle/turnstyle/domain/TicketState;" } : Jvm.MethodName) method_3_code (1 : Nat) (Option.some (Jvm.ClassFile.FieldType.object "com/example/turnstyle/turnstyle/domain/TicketState")), Jvm.Cond.code ({ cls := "com/example/turnstyle/turnstyle/domain/TicketState", name := "isActive", desc := "()Z" } : Jvm.MethodName) prog_14_method_4_code (1 : Nat) (Option.some Jvm.ClassFile.FieldType.boolean)]
set_option maxRecDepth 65536 in
theorem codes_eq : words1.filter isCode = codes1 := rfl
theorem w_codes : ∀ c ∈ words1.filter isCode, c.before args0 about1 = true := by
  rw [codes_eq]
  intro c hc
  simp only [codes1, List.mem_cons, List.not_mem_nil, or_false] at hc
  rcases hc with rfl | rfl | rfl
  · exact w_c0
  · exact w_c1
  · exact w_c2
set_option maxRecDepth 65536 in
theorem w_t1 : (words1.take 24).all (fun c => isCode c || c.before args0 about1) = true := by decide +kernel
set_option maxRecDepth 65536 in
theorem w_t2 : (words1.drop 24).all (fun c => isCode c || c.before args0 about1) = true := by decide +kernel
theorem w_tables : (allAtoms (Jvm.Cond.code x code maxLocals ret :: tables_1)).before args0 about1 = true := by
  rw [allAtoms_all]
  show words1.all (fun c => c.before args0 about1) = true
  refine all_split ?_ w_codes
  rw [← List.take_append_drop 24 words1, List.all_append, w_t1, w_t2]
  rfl
set_option maxRecDepth 65536 in
theorem w_case : (Jvm.Cond.and given_1 narrow_1).before args0 about1 = true := by decide +kernel
theorem w_applies : (headSpec (Jvm.Cond.code x code maxLocals ret :: tables_1) room_1).applies x e0.platform about1 = true :=
  (Spec.applies_iff w_frames).mpr ⟨w_running, w_runnable, w_alone, w_named, w_hears, w_ripe, w_room, w_tables⟩
theorem atStart : AtStart classFile x code maxLocals ret World_1 tables_1 room_1 Calls_1 rest_1 Pre_1 launch0 p0 e0 about1 theMethod args0 below0 :=
  ⟨lists_1, trivial, launch0.admits_env _ _ _, launch0.least_env, fairChoices_fair.cas, fairChoices_fair.clock, w_frames, w_args, w_heap, w_applies, trivial, trivial, w_case⟩
end start1
theorem witness_1 : WitnessClaimed_1 := ⟨start1.p0, start1.e0, start1.about1, start1.theMethod, start1.args0, start1.below0, start1.atStart⟩
end Jvm.Pilot.@@N@@
