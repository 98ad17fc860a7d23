import JvmDerived
import JvmDerived.Pilot.@@N@@Statement
import JvmDerived.Pilot.@@N@@Code
set_option linter.unusedVariables false
set_option linter.unusedSimpArgs false
namespace Jvm.RoadKit
open Sem ClassFile Op Lib Jvm.Stand Jvm.Free Jvm.LawKit
section New
variable {p : Program} {l : Launch} {e : Env} {R : Room} {s : State} {m : MethodId} {args : Array Value} {below : List Frame} {meth : Method} {c : Code} {T : State} {locs : List Loc} {cells slots : Nat}
theorem retI (X : Stand p l e R s m args below meth c T locs cells slots) (hx : p.tables.exec = Jvm.exec) {pc : Nat} {Ls : Array Slot} {z : Int32} {rest : List Value} (hret : meth.sig.returnType = some .int) (hd : decode c.code pc = .ok (.ireturn, 1)) {fs : List Frame}
    (hl : ∀ (f : JFrame) (acts : List Action), f.method = m → f.locked = none → f.entered = [] → (doReturn e (T.setTop f) acts (some (.int z))).1 = T.setFrames fs) : Steps p.tables e below (T.setTop (mkF m pc Ls (.int z :: rest))) (T.setFrames fs) := by
  have hm' : T.vm.method? m = some meth := X.method'
  have hn : narrow .int (.int z) = .int z := rfl
  show Steps p.tables e below (T.setTop { method := m, pc := pc, locals := Ls, stack := _ :: rest, locked := none }) _
  jvm_step X.here [X.here.top, hx, hd, hm', hret, hn]
  first | (intro acts; rw [hl _ acts rfl rfl rfl]) | rw [hl _ _ rfl rfl rfl]
  exact Steps.refl _
end New
end Jvm.RoadKit
namespace Jvm.Pilot.@@N@@
open Jvm Jvm.ClassFile Sem Op Lib Jvm.Free Jvm.Stand Jvm.LawKit Jvm.RoadKit Bundle Jvm.Pilot.@@N@@.Jvm.D
/-- the run comes from A to the state U with the frame g on top -/
def own_To (tb : Tables) (e : Env) (below : List Frame) (A U : State) (g : JFrame) : Prop := ∀ t, Steps tb e below (U.setTop g) t → Steps tb e below A t
/-- what a body that writes nothing leaves -/
def own_Q (r : Option Value) (h0 : Heap) (n0 : Nat) (v : Option Value) (h : Heap) (L : List Loc) : Prop := v = r ∧ Fr n0 L ∧ h = h0
theorem own_fldint {args : Array Value} {Z : State} {t : Term} {x : Addr} {C n d : String} {k : Int32} (ht : t.eval args Z none [] Z = some (.ref x)) (h : (Jvm.Cond.eq (.field t C n d) (.int k)).value args Z none Z [] = some true) : Fld Z Z.heap x C n d (.int k) := by
  apply Fld.start
  obtain ⟨u, v, h1, h2, k1, -⟩ := cmp_v (Or.inl h)
  have e2 : v = .int k := (Option.some.inj (h2.symm.trans (Term.int_eval k)))
  subst e2
  cases u with
  | int z => rw [← fld_at ht, h1]; have := gotT (Cond.eq_ints h1 h2) h; rw [this]
  | long z => obtain ⟨_, q⟩ := k1; cases q
  | float z => obtain ⟨_, q⟩ := k1; cases q
  | double z => obtain ⟨_, q⟩ := k1; cases q
  | ref z => exact absurd k1.2 (by simp [Value.isRef])
  | null => exact absurd k1.2 (by simp [Value.isRef])
  | retAddr z => exact absurd k1.2 (by simp [Value.isRef])
theorem own_rem3 (x : Int32) (h0 : ¬ (((x &&& (2147483647 : Int32)) % (3 : Int32)) = (0 : Int32))) (h1 : ¬ (((x &&& (2147483647 : Int32)) % (3 : Int32)) = (1 : Int32))) : ((x &&& (2147483647 : Int32)) % (3 : Int32)) = (2 : Int32) := by
  have e : (x &&& (2147483647 : Int32)).toInt = x.toInt % (2 ^ 31 : Nat) := c_mask x 2147483647 31 (by decide) (by decide)
  have h1 : ((2 ^ 31 : Nat) : Int) = 2147483648 := rfl
  rw [h1] at e
  have r := (c_irem (x &&& (2147483647 : Int32)) (3 : Int32) 3 (by decide)).1 (by omega)
  skip
  simp only [← Int32.toInt_inj] at *
  have c0 : (0 : Int32).toInt = 0 := by decide
  have c1 : (1 : Int32).toInt = 1 := by decide
  have c2 : (2 : Int32).toInt = 2 := by decide
  omega
theorem own_d1_0 : decode method_2_code 0 = .ok (.iload_n 0, 1) := by decide +kernel
theorem own_d1_1 : decode method_2_code 1 = .ok (.ifCond .ne 7, 3) := by decide +kernel
theorem own_d1_4 : decode method_2_code 4 = .ok (.getstatic 7, 3) := by decide +kernel
theorem own_d1_7 : decode method_2_code 7 = .ok (.areturn, 1) := by decide +kernel
theorem own_d1_8 : decode method_2_code 8 = .ok (.iload_n 0, 1) := by decide +kernel
theorem own_d1_9 : decode method_2_code 9 = .ok (.iconst 1, 1) := by decide +kernel
theorem own_d1_10 : decode method_2_code 10 = .ok (.if_icmp .ne 7, 3) := by decide +kernel
theorem own_d1_13 : decode method_2_code 13 = .ok (.getstatic 13, 3) := by decide +kernel
theorem own_d1_16 : decode method_2_code 16 = .ok (.areturn, 1) := by decide +kernel
theorem own_d1_17 : decode method_2_code 17 = .ok (.iload_n 0, 1) := by decide +kernel
theorem own_d1_18 : decode method_2_code 18 = .ok (.iconst 2, 1) := by decide +kernel
theorem own_d1_19 : decode method_2_code 19 = .ok (.if_icmp .ne 7, 3) := by decide +kernel
theorem own_d1_22 : decode method_2_code 22 = .ok (.getstatic 16, 3) := by decide +kernel
theorem own_d1_25 : decode method_2_code 25 = .ok (.areturn, 1) := by decide +kernel
theorem own_d1_26 : decode method_2_code 26 = .ok (.getstatic 19, 3) := by decide +kernel
theorem own_d1_29 : decode method_2_code 29 = .ok (.areturn, 1) := by decide +kernel
theorem own_ef1 (m : MethodId) (x0 : Int32) : entryFrame m #[(.int x0)] 1 = mkF m 0 #[.val (.int x0)] [] := by first | (simp [entryFrame, mkF, argsToLocals, Value.category]; done) | rfl
theorem own_pn1 : plainName "com/example/grace_period/graceperiod/core/StateIsOpenPinLaw" = true := by first | (simp [plainName, overriddenIn]; done) | decide +kernel
def own_f1 (p1 : Int32) (w_WAITING : Addr) (w_ON_HOLD_SHELF : Addr) (w_FULFILLED : Addr) (w_CANCELLED : Addr) : Addr := (if p1 = (0 : Int32) then w_WAITING else (if p1 = (1 : Int32) then w_ON_HOLD_SHELF else (if p1 = (2 : Int32) then w_FULFILLED else w_CANCELLED)))
set_option maxRecDepth 65536 in
set_option maxHeartbeats 40000000 in
theorem own_m1 (l : Launch) (Z : State) (a0 : Array Value) (hw : ∀ d ∈ tables_1, d.before a0 Z = true) (ws : List Jvm.Cond) (p1 : Int32) (w_WAITING : Addr) (w_ON_HOLD_SHELF : Addr) (w_FULFILLED : Addr) (w_CANCELLED : Addr) (h0 : Heap) (n0 : Nat) (Z0 : n0 ≤ h0.size) (S_WAITING : Sta Z h0 "com/example/grace_period/graceperiod/core/Hold$State" "WAITING" "Lcom/example/grace_period/graceperiod/core/Hold$State;" (.ref w_WAITING)) (S_ON_HOLD_SHELF : Sta Z h0 "com/example/grace_period/graceperiod/core/Hold$State" "ON_HOLD_SHELF" "Lcom/example/grace_period/graceperiod/core/Hold$State;" (.ref w_ON_HOLD_SHELF)) (S_FULFILLED : Sta Z h0 "com/example/grace_period/graceperiod/core/Hold$State" "FULFILLED" "Lcom/example/grace_period/graceperiod/core/Hold$State;" (.ref w_FULFILLED)) (S_CANCELLED : Sta Z h0 "com/example/grace_period/graceperiod/core/Hold$State" "CANCELLED" "Lcom/example/grace_period/graceperiod/core/Hold$State;" (.ref w_CANCELLED)) :
    MetFree l (⟨"com/example/grace_period/graceperiod/core/StateIsOpenPinLaw", "pick", "(I)Lcom/example/grace_period/graceperiod/core/Hold$State;"⟩ : MethodName) (head1 (Jvm.Cond.code (⟨"com/example/grace_period/graceperiod/core/StateIsOpenPinLaw", "pick", "(I)Lcom/example/grace_period/graceperiod/core/Hold$State;"⟩ : MethodName) method_2_code 1 (some (.object "com/example/grace_period/graceperiod/core/Hold$State")) :: ws) ({ frames := 0, cells := 0, slots := 0, locals := 0 } : Room)) (fun a U => a = #[(.int p1)] ∧ Z.Warmed39 U.vm ∧ U.heap = h0) (fun _ _ _ _ _ => True) (fun _ U o U' => ∃ v L, o = .returned v ∧ own_Q (some (.ref (own_f1 p1 w_WAITING w_ON_HOLD_SHELF w_FULFILLED w_CANCELLED))) h0 n0 v U'.heap L ∧ FrameEnd U o U' L ({ frames := 0, cells := 0, slots := 0, locals := 0 } : Room).cells ({ frames := 0, cells := 0, slots := 0, locals := 0 } : Room).slots) := by
  refine MetFree.of_bodySF (plainFor_of_name own_pn1) hisR ?_
  intro p e s m args below meth c s₁ Bd hml0 hP hK
  obtain ⟨rfl, hZ, hh⟩ := hP
  have hx := Bd.exec
  have hby := Bd.bytes
  have hml : c.maxLocals = 1 := hml0
  have hown : s.vm.findClass "com/example/grace_period/graceperiod/core/StateIsOpenPinLaw" = some m.cls := findClass_of_methodNamed Bd.named
  have hnm := (name_of_methodNamed Bd.named Bd.method).1
  have X0 : Stand p l e ({ frames := 0, cells := 0, slots := 0, locals := 0 } : Room) s m #[(.int p1)] below meth c s₁ [] 0 0 := Stand.of_body Bd
  have e0 : s₁.heap = h0 := by rw [← hh, Bd.state]; rfl
  have N0 := Fr.nil n0
  have k0 : own_To p.tables e below (s₁.setTop (entryFrame m #[(.int p1)] 1)) s₁ (mkF m 0 #[.val (.int p1)] []) := fun t k => castTop (own_ef1 m p1) k
  have k1 : own_To p.tables e below (s₁.setTop (entryFrame m #[(.int p1)] 1)) s₁ (mkF m 1 #[.val (.int p1)] [(.int p1)]) := fun t k => k0 t (XS.iloadN X0.here hx rfl (hb hby own_d1_0) rfl k)
  by_cases hc2 : p1 = (0 : Int32)
  · have k3 : own_To p.tables e below (s₁.setTop (entryFrame m #[(.int p1)] 1)) s₁ (mkF m 4 #[.val (.int p1)] []) := fun t k => k1 t (XS.ifNo X0.here hx rfl (hb hby own_d1_1) rfl ((if0 _ _).trans (teq (show p1 = (0 : Int32) from hc2)).2) k)
    obtain ⟨T4, X4, e4, st4⟩ := getS2 X0 hx hZ hown (host := "") (Or.inl (hw _ (List.mem_of_getElem? (i := 4) rfl))) Via.refl e0 S_WAITING (g := (mkF m 4 #[.val (.int p1)] [])) rfl (hb hby own_d1_4)
    have k5 : own_To p.tables e below (s₁.setTop (entryFrame m #[(.int p1)] 1)) T4 (mkF m 7 #[.val (.int p1)] [(.ref w_WAITING)]) := fun t k => k3 t (st4 t k)
    obtain ⟨fs, hr, hrun, hended, hW, hsame⟩ := X4.leave (v := some (.ref w_WAITING)) (fun h => by rw [Bd.returns] at h; cases h)
    refine ⟨_, _, k5 _ ?_, hrun, hended, _, _, rfl, ?_, ⟨_, rfl⟩, hW, hsame.mono (by decide) (by decide)⟩
    · jvm_step X4.here [X4.here.top, hx, (hb hby own_d1_7), X4.method', Bd.returns, Value.isRef, FieldType.isReference]
      first | (intro acts; rw [hr _ acts rfl rfl rfl]) | rw [hr _ _ rfl rfl rfl]
      exact Steps.refl _
    · refine ⟨?_, N0, e4⟩
      rw [show (own_f1 p1 w_WAITING w_ON_HOLD_SHELF w_FULFILLED w_CANCELLED) = w_WAITING from by unfold own_f1; rw [if_pos hc2]]
  · have k6 : own_To p.tables e below (s₁.setTop (entryFrame m #[(.int p1)] 1)) s₁ (mkF m 8 #[.val (.int p1)] []) := fun t k => k1 t (XS.ifYes X0.here hx rfl (pc0 := 1) (pc' := 8) rfl (hb hby own_d1_1) rfl ((if0 _ _).trans (feq (show ¬ (p1 = (0 : Int32)) from hc2)).2) (by decide) (by decide) k)
    have k7 : own_To p.tables e below (s₁.setTop (entryFrame m #[(.int p1)] 1)) s₁ (mkF m 9 #[.val (.int p1)] [(.int p1)]) := fun t k => k6 t (XS.iloadN X0.here hx rfl (hb hby own_d1_8) rfl k)
    have k8 : own_To p.tables e below (s₁.setTop (entryFrame m #[(.int p1)] 1)) s₁ (mkF m 10 #[.val (.int p1)] [(.int (1 : Int32)), (.int p1)]) := fun t k => k7 t (XS.iconst X0.here hx rfl (hb hby own_d1_9) k)
    by_cases hc9 : p1 = (1 : Int32)
    · have k10 : own_To p.tables e below (s₁.setTop (entryFrame m #[(.int p1)] 1)) s₁ (mkF m 13 #[.val (.int p1)] []) := fun t k => k8 t (XS.icmpNo X0.here hx rfl (hb hby own_d1_10) rfl (teq (show p1 = (1 : Int32) from hc9)).2 k)
      obtain ⟨T11, X11, e11, st11⟩ := getS2 X0 hx hZ hown (host := "") (Or.inl (hw _ (List.mem_of_getElem? (i := 19) rfl))) Via.refl e0 S_ON_HOLD_SHELF (g := (mkF m 13 #[.val (.int p1)] [])) rfl (hb hby own_d1_13)
      have k12 : own_To p.tables e below (s₁.setTop (entryFrame m #[(.int p1)] 1)) T11 (mkF m 16 #[.val (.int p1)] [(.ref w_ON_HOLD_SHELF)]) := fun t k => k10 t (st11 t k)
      obtain ⟨fs, hr, hrun, hended, hW, hsame⟩ := X11.leave (v := some (.ref w_ON_HOLD_SHELF)) (fun h => by rw [Bd.returns] at h; cases h)
      refine ⟨_, _, k12 _ ?_, hrun, hended, _, _, rfl, ?_, ⟨_, rfl⟩, hW, hsame.mono (by decide) (by decide)⟩
      · jvm_step X11.here [X11.here.top, hx, (hb hby own_d1_16), X11.method', Bd.returns, Value.isRef, FieldType.isReference]
        first | (intro acts; rw [hr _ acts rfl rfl rfl]) | rw [hr _ _ rfl rfl rfl]
        exact Steps.refl _
      · refine ⟨?_, N0, e11⟩
        rw [show (own_f1 p1 w_WAITING w_ON_HOLD_SHELF w_FULFILLED w_CANCELLED) = w_ON_HOLD_SHELF from by unfold own_f1; rw [if_neg hc2, if_pos hc9]]
    · have k13 : own_To p.tables e below (s₁.setTop (entryFrame m #[(.int p1)] 1)) s₁ (mkF m 17 #[.val (.int p1)] []) := fun t k => k8 t (XS.icmpYes X0.here hx rfl (pc0 := 10) (pc' := 17) rfl (hb hby own_d1_10) rfl (feq (show ¬ (p1 = (1 : Int32)) from hc9)).2 (by decide) (by decide) k)
      have k14 : own_To p.tables e below (s₁.setTop (entryFrame m #[(.int p1)] 1)) s₁ (mkF m 18 #[.val (.int p1)] [(.int p1)]) := fun t k => k13 t (XS.iloadN X0.here hx rfl (hb hby own_d1_17) rfl k)
      have k15 : own_To p.tables e below (s₁.setTop (entryFrame m #[(.int p1)] 1)) s₁ (mkF m 19 #[.val (.int p1)] [(.int (2 : Int32)), (.int p1)]) := fun t k => k14 t (XS.iconst X0.here hx rfl (hb hby own_d1_18) k)
      by_cases hc16 : p1 = (2 : Int32)
      · have k17 : own_To p.tables e below (s₁.setTop (entryFrame m #[(.int p1)] 1)) s₁ (mkF m 22 #[.val (.int p1)] []) := fun t k => k15 t (XS.icmpNo X0.here hx rfl (hb hby own_d1_19) rfl (teq (show p1 = (2 : Int32) from hc16)).2 k)
        obtain ⟨T18, X18, e18, st18⟩ := getS2 X0 hx hZ hown (host := "") (Or.inl (hw _ (List.mem_of_getElem? (i := 17) rfl))) Via.refl e0 S_FULFILLED (g := (mkF m 22 #[.val (.int p1)] [])) rfl (hb hby own_d1_22)
        have k19 : own_To p.tables e below (s₁.setTop (entryFrame m #[(.int p1)] 1)) T18 (mkF m 25 #[.val (.int p1)] [(.ref w_FULFILLED)]) := fun t k => k17 t (st18 t k)
        obtain ⟨fs, hr, hrun, hended, hW, hsame⟩ := X18.leave (v := some (.ref w_FULFILLED)) (fun h => by rw [Bd.returns] at h; cases h)
        refine ⟨_, _, k19 _ ?_, hrun, hended, _, _, rfl, ?_, ⟨_, rfl⟩, hW, hsame.mono (by decide) (by decide)⟩
        · jvm_step X18.here [X18.here.top, hx, (hb hby own_d1_25), X18.method', Bd.returns, Value.isRef, FieldType.isReference]
          first | (intro acts; rw [hr _ acts rfl rfl rfl]) | rw [hr _ _ rfl rfl rfl]
          exact Steps.refl _
        · refine ⟨?_, N0, e18⟩
          rw [show (own_f1 p1 w_WAITING w_ON_HOLD_SHELF w_FULFILLED w_CANCELLED) = w_FULFILLED from by unfold own_f1; rw [if_neg hc2, if_neg hc9, if_pos hc16]]
      · have k20 : own_To p.tables e below (s₁.setTop (entryFrame m #[(.int p1)] 1)) s₁ (mkF m 26 #[.val (.int p1)] []) := fun t k => k15 t (XS.icmpYes X0.here hx rfl (pc0 := 19) (pc' := 26) rfl (hb hby own_d1_19) rfl (feq (show ¬ (p1 = (2 : Int32)) from hc16)).2 (by decide) (by decide) k)
        obtain ⟨T21, X21, e21, st21⟩ := getS2 X0 hx hZ hown (host := "") (Or.inl (hw _ (List.mem_of_getElem? (i := 13) rfl))) Via.refl e0 S_CANCELLED (g := (mkF m 26 #[.val (.int p1)] [])) rfl (hb hby own_d1_26)
        have k22 : own_To p.tables e below (s₁.setTop (entryFrame m #[(.int p1)] 1)) T21 (mkF m 29 #[.val (.int p1)] [(.ref w_CANCELLED)]) := fun t k => k20 t (st21 t k)
        obtain ⟨fs, hr, hrun, hended, hW, hsame⟩ := X21.leave (v := some (.ref w_CANCELLED)) (fun h => by rw [Bd.returns] at h; cases h)
        refine ⟨_, _, k22 _ ?_, hrun, hended, _, _, rfl, ?_, ⟨_, rfl⟩, hW, hsame.mono (by decide) (by decide)⟩
        · jvm_step X21.here [X21.here.top, hx, (hb hby own_d1_29), X21.method', Bd.returns, Value.isRef, FieldType.isReference]
          first | (intro acts; rw [hr _ acts rfl rfl rfl]) | rw [hr _ _ rfl rfl rfl]
          exact Steps.refl _
        · refine ⟨?_, N0, e21⟩
          rw [show (own_f1 p1 w_WAITING w_ON_HOLD_SHELF w_FULFILLED w_CANCELLED) = w_CANCELLED from by unfold own_f1; rw [if_neg hc2, if_neg hc9, if_neg hc16]]
theorem own_d2_0 : decode prog_15_method_4_code 0 = .ok (.aload_n 0, 1) := by decide +kernel
theorem own_d2_1 : decode prog_15_method_4_code 1 = .ok (.getstatic 3, 3) := by decide +kernel
theorem own_d2_4 : decode prog_15_method_4_code 4 = .ok (.if_acmp .eq 10, 3) := by decide +kernel
theorem own_d2_14 : decode prog_15_method_4_code 14 = .ok (.iconst 1, 1) := by decide +kernel
theorem own_d2_15 : decode prog_15_method_4_code 15 = .ok (.goto 4, 3) := by decide +kernel
theorem own_d2_19 : decode prog_15_method_4_code 19 = .ok (.ireturn, 1) := by decide +kernel
theorem own_d2_7 : decode prog_15_method_4_code 7 = .ok (.aload_n 0, 1) := by decide +kernel
theorem own_d2_8 : decode prog_15_method_4_code 8 = .ok (.getstatic 7, 3) := by decide +kernel
theorem own_d2_11 : decode prog_15_method_4_code 11 = .ok (.if_acmp .ne 7, 3) := by decide +kernel
theorem own_d2_18 : decode prog_15_method_4_code 18 = .ok (.iconst 0, 1) := by decide +kernel
theorem own_ef2 (m : MethodId) (x0 : Addr) : entryFrame m #[(.ref x0)] 1 = mkF m 0 #[.val (.ref x0)] [] := by first | (simp [entryFrame, mkF, argsToLocals, Value.category]; done) | rfl
theorem own_pn2 : plainName "com/example/grace_period/graceperiod/core/Hold$State" = true := by first | (simp [plainName, overriddenIn]; done) | decide +kernel
def own_f2 (a1 : Addr) (w_WAITING : Addr) (w_ON_HOLD_SHELF : Addr) : Int32 := (if a1 = w_WAITING then (1 : Int32) else (if a1 = w_ON_HOLD_SHELF then (1 : Int32) else (0 : Int32)))
set_option maxRecDepth 65536 in
set_option maxHeartbeats 40000000 in
theorem own_m2 (l : Launch) (Z : State) (a0 : Array Value) (hw : ∀ d ∈ tables_1, d.before a0 Z = true) (ws : List Jvm.Cond) (a1 : Addr) (w_WAITING : Addr) (w_ON_HOLD_SHELF : Addr) (h0 : Heap) (n0 : Nat) (Z0 : n0 ≤ h0.size) (S_WAITING : Sta Z h0 "com/example/grace_period/graceperiod/core/Hold$State" "WAITING" "Lcom/example/grace_period/graceperiod/core/Hold$State;" (.ref w_WAITING)) (S_ON_HOLD_SHELF : Sta Z h0 "com/example/grace_period/graceperiod/core/Hold$State" "ON_HOLD_SHELF" "Lcom/example/grace_period/graceperiod/core/Hold$State;" (.ref w_ON_HOLD_SHELF)) :
    MetFree l (⟨"com/example/grace_period/graceperiod/core/Hold$State", "isOpen", "()Z"⟩ : MethodName) (head1 (Jvm.Cond.code (⟨"com/example/grace_period/graceperiod/core/Hold$State", "isOpen", "()Z"⟩ : MethodName) prog_15_method_4_code 1 (some .boolean) :: ws) ({ frames := 0, cells := 0, slots := 0, locals := 0 } : Room)) (fun a U => a = #[(.ref a1)] ∧ Z.Warmed39 U.vm ∧ U.heap = h0) (fun _ _ _ _ _ => True) (fun _ U o U' => ∃ v L, o = .returned v ∧ own_Q (some (.int (own_f2 a1 w_WAITING w_ON_HOLD_SHELF))) h0 n0 v U'.heap L ∧ FrameEnd U o U' L ({ frames := 0, cells := 0, slots := 0, locals := 0 } : Room).cells ({ frames := 0, cells := 0, slots := 0, locals := 0 } : Room).slots) := by
  refine MetFree.of_bodySF (plainFor_of_name own_pn2) hisR ?_
  intro p e s m args below meth c s₁ Bd hml0 hP hK
  obtain ⟨rfl, hZ, hh⟩ := hP
  have hx := Bd.exec
  have hby := Bd.bytes
  have hml : c.maxLocals = 1 := hml0
  have hown : s.vm.findClass "com/example/grace_period/graceperiod/core/Hold$State" = some m.cls := findClass_of_methodNamed Bd.named
  have hnm := (name_of_methodNamed Bd.named Bd.method).1
  have X0 : Stand p l e ({ frames := 0, cells := 0, slots := 0, locals := 0 } : Room) s m #[(.ref a1)] below meth c s₁ [] 0 0 := Stand.of_body Bd
  have e0 : s₁.heap = h0 := by rw [← hh, Bd.state]; rfl
  have N0 := Fr.nil n0
  have k0 : own_To p.tables e below (s₁.setTop (entryFrame m #[(.ref a1)] 1)) s₁ (mkF m 0 #[.val (.ref a1)] []) := fun t k => castTop (own_ef2 m a1) k
  have k1 : own_To p.tables e below (s₁.setTop (entryFrame m #[(.ref a1)] 1)) s₁ (mkF m 1 #[.val (.ref a1)] [(.ref a1)]) := fun t k => k0 t (XS.aloadN X0.here hx rfl (hb hby own_d2_0) rfl rfl k)
  obtain ⟨T2, X2, e2, st2⟩ := getS2 X0 hx hZ hown (host := "") (Or.inl (hw _ (List.mem_of_getElem? (i := 12) rfl))) Via.refl e0 S_WAITING (g := (mkF m 1 #[.val (.ref a1)] [(.ref a1)])) rfl (hb hby own_d2_1)
  have k3 : own_To p.tables e below (s₁.setTop (entryFrame m #[(.ref a1)] 1)) T2 (mkF m 4 #[.val (.ref a1)] [(.ref w_WAITING), (.ref a1)]) := fun t k => k1 t (st2 t k)
  by_cases hc4 : a1 = w_WAITING
  · have k5 : own_To p.tables e below (s₁.setTop (entryFrame m #[(.ref a1)] 1)) T2 (mkF m 14 #[.val (.ref a1)] []) := fun t k => k3 t (Jvm.RoadKit.acmp (g := (mkF m 4 #[.val (.ref a1)] [(.ref w_WAITING), (.ref a1)])) X2 hx rfl rfl rfl (pc0 := 4) (pc' := 14) (same := true) rfl (hb hby own_d2_4) rfl (decide_eq_true (congrArg Value.ref hc4)) (by decide) (by decide) k)
    have k6 : own_To p.tables e below (s₁.setTop (entryFrame m #[(.ref a1)] 1)) T2 (mkF m 15 #[.val (.ref a1)] [(.int (1 : Int32))]) := fun t k => k5 t (XS.iconst X2.here hx rfl (hb hby own_d2_14) k)
    have k7 : own_To p.tables e below (s₁.setTop (entryFrame m #[(.ref a1)] 1)) T2 (mkF m 19 #[.val (.ref a1)] [(.int (1 : Int32))]) := fun t k => k6 t (XS.goto X2.here hx rfl (pc0 := 15) (pc' := 19) rfl (hb hby own_d2_15) (by decide) (by decide) k)
    obtain ⟨fs, hr, hrun, hended, hW, hsame⟩ := X2.leave (v := some (.int (1 : Int32))) (fun h => by rw [Bd.returns] at h; cases h)
    refine ⟨_, _, k7 _ ?_, hrun, hended, _, _, rfl, ?_, ⟨_, rfl⟩, hW, hsame.mono (by decide) (by decide)⟩
    · exact retN X2 hx (t := .boolean) Bd.returns (by simp) (hb hby own_d2_19) hr
    · refine ⟨?_, N0, e2⟩
      rw [show (own_f2 a1 w_WAITING w_ON_HOLD_SHELF) = (1 : Int32) from by unfold own_f2; rw [if_pos hc4]]
  · have k8 : own_To p.tables e below (s₁.setTop (entryFrame m #[(.ref a1)] 1)) T2 (mkF m 7 #[.val (.ref a1)] []) := fun t k => k3 t (Jvm.RoadKit.acmp (g := (mkF m 4 #[.val (.ref a1)] [(.ref w_WAITING), (.ref a1)])) X2 hx rfl rfl rfl (pc0 := 4) (pc' := 7) (same := false) rfl (hb hby own_d2_4) rfl (decide_eq_false fun q => hc4 (Value.ref.inj q)) (by decide) (by decide) k)
    have k9 : own_To p.tables e below (s₁.setTop (entryFrame m #[(.ref a1)] 1)) T2 (mkF m 8 #[.val (.ref a1)] [(.ref a1)]) := fun t k => k8 t (XS.aloadN X2.here hx rfl (hb hby own_d2_7) rfl rfl k)
    obtain ⟨T10, X10, e10, st10⟩ := getS2 X2 hx hZ hown (host := "") (Or.inl (hw _ (List.mem_of_getElem? (i := 15) rfl))) Via.refl e2 S_ON_HOLD_SHELF (g := (mkF m 8 #[.val (.ref a1)] [(.ref a1)])) rfl (hb hby own_d2_8)
    have k11 : own_To p.tables e below (s₁.setTop (entryFrame m #[(.ref a1)] 1)) T10 (mkF m 11 #[.val (.ref a1)] [(.ref w_ON_HOLD_SHELF), (.ref a1)]) := fun t k => k9 t (st10 t k)
    by_cases hc12 : a1 = w_ON_HOLD_SHELF
    · have k13 : own_To p.tables e below (s₁.setTop (entryFrame m #[(.ref a1)] 1)) T10 (mkF m 14 #[.val (.ref a1)] []) := fun t k => k11 t (Jvm.RoadKit.acmp (g := (mkF m 11 #[.val (.ref a1)] [(.ref w_ON_HOLD_SHELF), (.ref a1)])) X10 hx rfl rfl rfl (pc0 := 11) (pc' := 14) (same := true) rfl (hb hby own_d2_11) rfl (decide_eq_true (congrArg Value.ref hc12)) (by decide) (by decide) k)
      have k14 : own_To p.tables e below (s₁.setTop (entryFrame m #[(.ref a1)] 1)) T10 (mkF m 15 #[.val (.ref a1)] [(.int (1 : Int32))]) := fun t k => k13 t (XS.iconst X10.here hx rfl (hb hby own_d2_14) k)
      have k15 : own_To p.tables e below (s₁.setTop (entryFrame m #[(.ref a1)] 1)) T10 (mkF m 19 #[.val (.ref a1)] [(.int (1 : Int32))]) := fun t k => k14 t (XS.goto X10.here hx rfl (pc0 := 15) (pc' := 19) rfl (hb hby own_d2_15) (by decide) (by decide) k)
      obtain ⟨fs, hr, hrun, hended, hW, hsame⟩ := X10.leave (v := some (.int (1 : Int32))) (fun h => by rw [Bd.returns] at h; cases h)
      refine ⟨_, _, k15 _ ?_, hrun, hended, _, _, rfl, ?_, ⟨_, rfl⟩, hW, hsame.mono (by decide) (by decide)⟩
      · exact retN X10 hx (t := .boolean) Bd.returns (by simp) (hb hby own_d2_19) hr
      · refine ⟨?_, N0, e10⟩
        rw [show (own_f2 a1 w_WAITING w_ON_HOLD_SHELF) = (1 : Int32) from by unfold own_f2; rw [if_neg hc4, if_pos hc12]]
    · have k16 : own_To p.tables e below (s₁.setTop (entryFrame m #[(.ref a1)] 1)) T10 (mkF m 18 #[.val (.ref a1)] []) := fun t k => k11 t (Jvm.RoadKit.acmp (g := (mkF m 11 #[.val (.ref a1)] [(.ref w_ON_HOLD_SHELF), (.ref a1)])) X10 hx rfl rfl rfl (pc0 := 11) (pc' := 18) (same := false) rfl (hb hby own_d2_11) rfl (decide_eq_false fun q => hc12 (Value.ref.inj q)) (by decide) (by decide) k)
      have k17 : own_To p.tables e below (s₁.setTop (entryFrame m #[(.ref a1)] 1)) T10 (mkF m 19 #[.val (.ref a1)] [(.int (0 : Int32))]) := fun t k => k16 t (XS.iconst X10.here hx rfl (hb hby own_d2_18) k)
      obtain ⟨fs, hr, hrun, hended, hW, hsame⟩ := X10.leave (v := some (.int (0 : Int32))) (fun h => by rw [Bd.returns] at h; cases h)
      refine ⟨_, _, k17 _ ?_, hrun, hended, _, _, rfl, ?_, ⟨_, rfl⟩, hW, hsame.mono (by decide) (by decide)⟩
      · exact retN X10 hx (t := .boolean) Bd.returns (by simp) (hb hby own_d2_19) hr
      · refine ⟨?_, N0, e10⟩
        rw [show (own_f2 a1 w_WAITING w_ON_HOLD_SHELF) = (0 : Int32) from by unfold own_f2; rw [if_neg hc4, if_neg hc12]]
theorem own_pd0 : parseMethodDescriptor "(I)Lcom/example/grace_period/graceperiod/core/Hold$State;" = some ⟨[.int], some (.object "com/example/grace_period/graceperiod/core/Hold$State")⟩ := by decide +kernel
theorem own_pd1 : parseMethodDescriptor "()Z" = some ⟨[], some .boolean⟩ := by decide +kernel
theorem own_ef0 (m : MethodId) (x0 : Int32) : entryFrame m #[(.int x0)] maxLocals = mkF m 0 #[.val (.int x0), .unset, .unset, .unset, .unset, .unset] [] := by first | (simp [entryFrame, mkF, argsToLocals, Value.category, maxLocals]; done) | rfl
theorem own_pn0 : plainName "com/example/grace_period/graceperiod/core/StateIsOpenPinLaw" = true := by first | (simp [plainName, overriddenIn]; done) | decide +kernel
def own_Q0 (n0 : Nat) (v : Option Value) (L : List Loc) : Prop := v = some (.int (1 : Int32)) ∧ Fr n0 L
set_option maxRecDepth 65536 in
set_option maxHeartbeats 40000000 in
theorem own_m0 (l : Launch) (Z : State) (a0 : Array Value) (hw : ∀ d ∈ tables_1, d.before a0 Z = true) (ws : List Jvm.Cond) (p1 : Int32) (w_WAITING : Addr) (w_ON_HOLD_SHELF : Addr) (w_FULFILLED : Addr) (w_CANCELLED : Addr) (h0 : Heap) (n0 : Nat) (Z0 : n0 ≤ h0.size) (S_WAITING : Sta Z h0 "com/example/grace_period/graceperiod/core/Hold$State" "WAITING" "Lcom/example/grace_period/graceperiod/core/Hold$State;" (.ref w_WAITING)) (S_ON_HOLD_SHELF : Sta Z h0 "com/example/grace_period/graceperiod/core/Hold$State" "ON_HOLD_SHELF" "Lcom/example/grace_period/graceperiod/core/Hold$State;" (.ref w_ON_HOLD_SHELF)) (S_FULFILLED : Sta Z h0 "com/example/grace_period/graceperiod/core/Hold$State" "FULFILLED" "Lcom/example/grace_period/graceperiod/core/Hold$State;" (.ref w_FULFILLED)) (S_CANCELLED : Sta Z h0 "com/example/grace_period/graceperiod/core/Hold$State" "CANCELLED" "Lcom/example/grace_period/graceperiod/core/Hold$State;" (.ref w_CANCELLED)) (E_w_WAITING : Exa Z h0 w_WAITING "com/example/grace_period/graceperiod/core/Hold$State") (E_w_ON_HOLD_SHELF : Exa Z h0 w_ON_HOLD_SHELF "com/example/grace_period/graceperiod/core/Hold$State") (E_w_FULFILLED : Exa Z h0 w_FULFILLED "com/example/grace_period/graceperiod/core/Hold$State") (E_w_CANCELLED : Exa Z h0 w_CANCELLED "com/example/grace_period/graceperiod/core/Hold$State") (ne_WAITING_ON_HOLD_SHELF : ¬ (w_WAITING = w_ON_HOLD_SHELF)) (ne_WAITING_FULFILLED : ¬ (w_WAITING = w_FULFILLED)) (ne_WAITING_CANCELLED : ¬ (w_WAITING = w_CANCELLED)) (ne_ON_HOLD_SHELF_FULFILLED : ¬ (w_ON_HOLD_SHELF = w_FULFILLED)) (ne_ON_HOLD_SHELF_CANCELLED : ¬ (w_ON_HOLD_SHELF = w_CANCELLED)) (ne_FULFILLED_CANCELLED : ¬ (w_FULFILLED = w_CANCELLED)) :
    MetFree l x (head1 (Jvm.Cond.code x code maxLocals ret :: ws) room_1) (fun a U => a = #[(.int p1)] ∧ Z.Warmed39 U.vm ∧ U.heap = h0) (fun _ _ _ _ _ => True) (fun _ U o U' => ∃ v L, o = .returned v ∧ own_Q0 n0 v L ∧ FrameEnd U o U' L room_1.cells room_1.slots) := by
  refine MetFree.of_bodySF (plainFor_of_name own_pn0) hisR ?_
  intro p e s m args below meth c s₁ Bd hml0 hP hK
  obtain ⟨rfl, hZ, hh⟩ := hP
  have hx := Bd.exec
  have hby := Bd.bytes
  have hml : c.maxLocals = 6 := hml0
  have hown : s.vm.findClass "com/example/grace_period/graceperiod/core/StateIsOpenPinLaw" = some m.cls := findClass_of_methodNamed Bd.named
  have hnm := (name_of_methodNamed Bd.named Bd.method).1
  have X0 : Stand p l e room_1 s m #[(.int p1)] below meth c s₁ [] 0 0 := Stand.of_body Bd
  have e0 : s₁.heap = h0 := by rw [← hh, Bd.state]; rfl
  have N0 := Fr.nil n0
  have k0 : own_To p.tables e below (s₁.setTop (entryFrame m #[(.int p1)] maxLocals)) s₁ (mkF m 0 #[.val (.int p1), .unset, .unset, .unset, .unset, .unset] []) := fun t k => castTop (own_ef0 m p1) k
  have k1 : own_To p.tables e below (s₁.setTop (entryFrame m #[(.int p1)] maxLocals)) s₁ (mkF m 1 #[.val (.int p1), .unset, .unset, .unset, .unset, .unset] [(.int p1)]) := fun t k => k0 t (XS.iloadN X0.here hx rfl (hb hby at_0) rfl k)
  have k2 : own_To p.tables e below (s₁.setTop (entryFrame m #[(.int p1)] maxLocals)) s₁ (mkF m 2 #[.val (.int p1), .unset, .unset, .unset, .unset, .unset] [(.int (3 : Int32)), (.int p1)]) := fun t k => k1 t (XS.iconst X0.here hx rfl (hb hby at_1) k)
  have k3 : own_To p.tables e below (s₁.setTop (entryFrame m #[(.int p1)] maxLocals)) s₁ (mkF m 3 #[.val (.int p1), .unset, .unset, .unset, .unset, .unset] [(.int (p1 &&& (3 : Int32)))]) := fun t k => k2 t (XS.iand X0.here hx rfl (hb hby at_2) rfl k)
  have k4 : own_To p.tables e below (s₁.setTop (entryFrame m #[(.int p1)] maxLocals)) s₁ (mkF m 4 #[.val (.int p1), .val (.int (p1 &&& (3 : Int32))), .unset, .unset, .unset, .unset] []) := fun t k => k3 t (XS.istoreN X0.here hx rfl (hb hby at_3) rfl (l' := #[.val (.int p1), .val (.int (p1 &&& (3 : Int32))), .unset, .unset, .unset, .unset]) rfl k)
  have k5 : own_To p.tables e below (s₁.setTop (entryFrame m #[(.int p1)] maxLocals)) s₁ (mkF m 5 #[.val (.int p1), .val (.int (p1 &&& (3 : Int32))), .unset, .unset, .unset, .unset] [(.int (p1 &&& (3 : Int32)))]) := fun t k => k4 t (XS.iloadN X0.here hx rfl (hb hby at_4) rfl k)
  by_cases hc6 : (p1 &&& (3 : Int32)) = (0 : Int32)
  · obtain ⟨_, _, ⟨T7, L7, k7, n7⟩, -, X7, ⟨Lc7, hQ7, l7, y7, z7⟩, st7⟩ := Jvm.LawKit.callS X0 hx (y := (⟨"com/example/grace_period/graceperiod/core/StateIsOpenPinLaw", "pick", "(I)Lcom/example/grace_period/graceperiod/core/Hold$State;"⟩ : MethodName)) hown (mvT hZ (hw _ (List.mem_of_getElem? (i := 0) rfl))) (mvT hZ (hw _ (List.mem_of_getElem? (i := 1) rfl))) (mvT hZ (hw _ (List.mem_of_getElem? (i := 2) rfl))) (mvT hZ (hw _ (List.mem_of_getElem? (i := 3) rfl))) (by decide) (backOf (W := 0) (own_m1 l Z a0 hw [] (p1 &&& (3 : Int32)) w_WAITING w_ON_HOLD_SHELF w_FULFILLED w_CANCELLED h0 n0 Z0 S_WAITING S_ON_HOLD_SHELF S_FULFILLED S_CANCELLED) hZ (hw _ (List.mem_of_getElem? (i := 3) rfl)) (hw _ (List.mem_of_getElem? (i := 2) rfl)) (by decide) (by decide)) (g := (mkF m 5 #[.val (.int p1), .val (.int (p1 &&& (3 : Int32))), .unset, .unset, .unset, .unset] [(.int (p1 &&& (3 : Int32)))])) rfl (by rw [hml]; rfl) (argsL := [(.int (p1 &&& (3 : Int32)))]) (rest := []) (lenOf own_pd0 rfl) rfl (by show 2 * 0 + _ ≤ _; exact Nat.le_of_eq rfl) (hb hby at_5) (fun _ _ => ⟨rfl, e0, (by decide : 0 + 0 ≤ _), (by decide : 0 + 0 ≤ _)⟩)
    dsimp only [Pt.U, Pt.locs, Pt.cells, Pt.slots] at X7 l7 y7 z7 st7 hQ7
    subst l7 y7 z7
    rw [show own_f1 (p1 &&& (3 : Int32)) w_WAITING w_ON_HOLD_SHELF w_FULFILLED w_CANCELLED = w_WAITING from by unfold own_f1; rw [if_pos (show (p1 &&& (3 : Int32)) = (0 : Int32) from hc6)]] at hQ7
    obtain ⟨rfl, N7q, e7⟩ := hQ7
    have N7 := Fr.app N0 N7q
    have k8 : own_To p.tables e below (s₁.setTop (entryFrame m #[(.int p1)] maxLocals)) T7 (mkF m 8 #[.val (.int p1), .val (.int (p1 &&& (3 : Int32))), .unset, .unset, .unset, .unset] [(.ref w_WAITING)]) := fun t k => k5 t (st7 t k)
    have k9 : own_To p.tables e below (s₁.setTop (entryFrame m #[(.int p1)] maxLocals)) T7 (mkF m 9 #[.val (.int p1), .val (.int (p1 &&& (3 : Int32))), .val (.ref w_WAITING), .unset, .unset, .unset] []) := fun t k => k8 t (XS.astoreN X7.here hx rfl (hb hby at_8) rfl rfl (l' := #[.val (.int p1), .val (.int (p1 &&& (3 : Int32))), .val (.ref w_WAITING), .unset, .unset, .unset]) rfl k)
    have k10 : own_To p.tables e below (s₁.setTop (entryFrame m #[(.int p1)] maxLocals)) T7 (mkF m 10 #[.val (.int p1), .val (.int (p1 &&& (3 : Int32))), .val (.ref w_WAITING), .unset, .unset, .unset] [(.int (p1 &&& (3 : Int32)))]) := fun t k => k9 t (XS.iloadN X7.here hx rfl (hb hby at_9) rfl k)
    have k11 : own_To p.tables e below (s₁.setTop (entryFrame m #[(.int p1)] maxLocals)) T7 (mkF m 13 #[.val (.int p1), .val (.int (p1 &&& (3 : Int32))), .val (.ref w_WAITING), .unset, .unset, .unset] []) := fun t k => k10 t (XS.ifNo X7.here hx rfl (hb hby at_10) rfl ((if0 _ _).trans (teq (show (p1 &&& (3 : Int32)) = (0 : Int32) from hc6)).2) k)
    have k12 : own_To p.tables e below (s₁.setTop (entryFrame m #[(.int p1)] maxLocals)) T7 (mkF m 14 #[.val (.int p1), .val (.int (p1 &&& (3 : Int32))), .val (.ref w_WAITING), .unset, .unset, .unset] [(.int (1 : Int32))]) := fun t k => k11 t (XS.iconst X7.here hx rfl (hb hby at_13) k)
    have k13 : own_To p.tables e below (s₁.setTop (entryFrame m #[(.int p1)] maxLocals)) T7 (mkF m 18 #[.val (.int p1), .val (.int (p1 &&& (3 : Int32))), .val (.ref w_WAITING), .unset, .unset, .unset] [(.int (1 : Int32))]) := fun t k => k12 t (XS.goto X7.here hx rfl (pc0 := 14) (pc' := 18) rfl (hb hby at_14) (by decide) (by decide) k)
    have k14 : own_To p.tables e below (s₁.setTop (entryFrame m #[(.int p1)] maxLocals)) T7 (mkF m 19 #[.val (.int p1), .val (.int (p1 &&& (3 : Int32))), .val (.ref w_WAITING), .val (.int (1 : Int32)), .unset, .unset] []) := fun t k => k13 t (XS.istoreN X7.here hx rfl (hb hby at_18) rfl (l' := #[.val (.int p1), .val (.int (p1 &&& (3 : Int32))), .val (.ref w_WAITING), .val (.int (1 : Int32)), .unset, .unset]) rfl k)
    have k15 : own_To p.tables e below (s₁.setTop (entryFrame m #[(.int p1)] maxLocals)) T7 (mkF m 20 #[.val (.int p1), .val (.int (p1 &&& (3 : Int32))), .val (.ref w_WAITING), .val (.int (1 : Int32)), .unset, .unset] [(.int (p1 &&& (3 : Int32)))]) := fun t k => k14 t (XS.iloadN X7.here hx rfl (hb hby at_19) rfl k)
    have k16 : own_To p.tables e below (s₁.setTop (entryFrame m #[(.int p1)] maxLocals)) T7 (mkF m 21 #[.val (.int p1), .val (.int (p1 &&& (3 : Int32))), .val (.ref w_WAITING), .val (.int (1 : Int32)), .unset, .unset] [(.int (1 : Int32)), (.int (p1 &&& (3 : Int32)))]) := fun t k => k15 t (XS.iconst X7.here hx rfl (hb hby at_20) k)
    have k17 : own_To p.tables e below (s₁.setTop (entryFrame m #[(.int p1)] maxLocals)) T7 (mkF m 28 #[.val (.int p1), .val (.int (p1 &&& (3 : Int32))), .val (.ref w_WAITING), .val (.int (1 : Int32)), .unset, .unset] []) := fun t k => k16 t (XS.icmpYes X7.here hx rfl (pc0 := 21) (pc' := 28) rfl (hb hby at_21) rfl (feq (show ¬ ((p1 &&& (3 : Int32)) = (1 : Int32)) from (by rw [hc6]; decide))).2 (by decide) (by decide) k)
    have k18 : own_To p.tables e below (s₁.setTop (entryFrame m #[(.int p1)] maxLocals)) T7 (mkF m 29 #[.val (.int p1), .val (.int (p1 &&& (3 : Int32))), .val (.ref w_WAITING), .val (.int (1 : Int32)), .unset, .unset] [(.int (0 : Int32))]) := fun t k => k17 t (XS.iconst X7.here hx rfl (hb hby at_28) k)
    have k19 : own_To p.tables e below (s₁.setTop (entryFrame m #[(.int p1)] maxLocals)) T7 (mkF m 31 #[.val (.int p1), .val (.int (p1 &&& (3 : Int32))), .val (.ref w_WAITING), .val (.int (1 : Int32)), .val (.int (0 : Int32)), .unset] []) := fun t k => k18 t (XS.istore X7.here hx rfl (hb hby at_29) rfl (l' := #[.val (.int p1), .val (.int (p1 &&& (3 : Int32))), .val (.ref w_WAITING), .val (.int (1 : Int32)), .val (.int (0 : Int32)), .unset]) rfl k)
    have k20 : own_To p.tables e below (s₁.setTop (entryFrame m #[(.int p1)] maxLocals)) T7 (mkF m 32 #[.val (.int p1), .val (.int (p1 &&& (3 : Int32))), .val (.ref w_WAITING), .val (.int (1 : Int32)), .val (.int (0 : Int32)), .unset] [(.int (1 : Int32))]) := fun t k => k19 t (XS.iloadN X7.here hx rfl (hb hby at_31) rfl k)
    have k21 : own_To p.tables e below (s₁.setTop (entryFrame m #[(.int p1)] maxLocals)) T7 (mkF m 40 #[.val (.int p1), .val (.int (p1 &&& (3 : Int32))), .val (.ref w_WAITING), .val (.int (1 : Int32)), .val (.int (0 : Int32)), .unset] []) := fun t k => k20 t (XS.ifYes X7.here hx rfl (pc0 := 32) (pc' := 40) rfl (hb hby at_32) rfl ((if0 _ _).trans (feq (show ¬ ((1 : Int32) = (0 : Int32)) from (by decide))).2) (by decide) (by decide) k)
    have k22 : own_To p.tables e below (s₁.setTop (entryFrame m #[(.int p1)] maxLocals)) T7 (mkF m 41 #[.val (.int p1), .val (.int (p1 &&& (3 : Int32))), .val (.ref w_WAITING), .val (.int (1 : Int32)), .val (.int (0 : Int32)), .unset] [(.int (1 : Int32))]) := fun t k => k21 t (XS.iconst X7.here hx rfl (hb hby at_40) k)
    have k23 : own_To p.tables e below (s₁.setTop (entryFrame m #[(.int p1)] maxLocals)) T7 (mkF m 45 #[.val (.int p1), .val (.int (p1 &&& (3 : Int32))), .val (.ref w_WAITING), .val (.int (1 : Int32)), .val (.int (0 : Int32)), .unset] [(.int (1 : Int32))]) := fun t k => k22 t (XS.goto X7.here hx rfl (pc0 := 41) (pc' := 45) rfl (hb hby at_41) (by decide) (by decide) k)
    have k24 : own_To p.tables e below (s₁.setTop (entryFrame m #[(.int p1)] maxLocals)) T7 (mkF m 47 #[.val (.int p1), .val (.int (p1 &&& (3 : Int32))), .val (.ref w_WAITING), .val (.int (1 : Int32)), .val (.int (0 : Int32)), .val (.int (1 : Int32))] []) := fun t k => k23 t (XS.istore X7.here hx rfl (hb hby at_45) rfl (l' := #[.val (.int p1), .val (.int (p1 &&& (3 : Int32))), .val (.ref w_WAITING), .val (.int (1 : Int32)), .val (.int (0 : Int32)), .val (.int (1 : Int32))]) rfl k)
    have k25 : own_To p.tables e below (s₁.setTop (entryFrame m #[(.int p1)] maxLocals)) T7 (mkF m 48 #[.val (.int p1), .val (.int (p1 &&& (3 : Int32))), .val (.ref w_WAITING), .val (.int (1 : Int32)), .val (.int (0 : Int32)), .val (.int (1 : Int32))] [(.ref w_WAITING)]) := fun t k => k24 t (XS.aloadN X7.here hx rfl (hb hby at_47) rfl rfl k)
    obtain ⟨cq26, kq26, q26a, q26b, q26c⟩ := isOf hZ e7 E_w_WAITING
    obtain ⟨_, _, ⟨T26, L26, k26, n26⟩, -, X26, ⟨Lc26, hQ26, l26, y26, z26⟩, st26⟩ := X7.virtualBack hx (y := (⟨"com/example/grace_period/graceperiod/core/Hold$State", "isOpen", "()Z"⟩ : MethodName)) (z := (⟨"com/example/grace_period/graceperiod/core/Hold$State", "isOpen", "()Z"⟩ : MethodName)) hown (mvT hZ (hw _ (List.mem_of_getElem? (i := 7) rfl))) (mvT hZ (hw _ (List.mem_of_getElem? (i := 8) rfl))) (notFace_of_selects (args := #[]) (mvT hZ (hw _ (List.mem_of_getElem? (i := 10) rfl)))) (mvT hZ (hw _ (List.mem_of_getElem? (i := 10) rfl))) (mvT hZ (hw _ (List.mem_of_getElem? (i := 9) rfl))) (by decide) (backOf (W := 0) (own_m2 l Z a0 hw [] w_WAITING w_WAITING w_ON_HOLD_SHELF h0 n0 Z0 S_WAITING S_ON_HOLD_SHELF) hZ (hw _ (List.mem_of_getElem? (i := 11) rfl)) (hw _ (List.mem_of_getElem? (i := 5) rfl)) (by decide) (by decide)) q26a q26c (g := (mkF m 48 #[.val (.int p1), .val (.int (p1 &&& (3 : Int32))), .val (.ref w_WAITING), .val (.int (1 : Int32)), .val (.int (0 : Int32)), .val (.int (1 : Int32))] [(.ref w_WAITING)])) rfl (by rw [hml]; rfl) (Steps.refl _) (argsL := []) (rest := []) (lenOf own_pd1 rfl) rfl (by show 2 * 0 + _ ≤ _; exact Nat.le_of_eq rfl) (hb hby at_48) (fun _ _ => ⟨rfl, e7, (by decide : 0 + 0 ≤ _), (by decide : 0 + 0 ≤ _)⟩)
    dsimp only [Pt.U, Pt.locs, Pt.cells, Pt.slots] at X26 l26 y26 z26 st26 hQ26
    subst l26 y26 z26
    rw [show own_f2 w_WAITING w_WAITING w_ON_HOLD_SHELF = (1 : Int32) from by unfold own_f2; rw [if_pos (show w_WAITING = w_WAITING from rfl)]] at hQ26
    obtain ⟨rfl, N26q, e26⟩ := hQ26
    have N26 := Fr.app N7 N26q
    have k27 : own_To p.tables e below (s₁.setTop (entryFrame m #[(.int p1)] maxLocals)) T26 (mkF m 51 #[.val (.int p1), .val (.int (p1 &&& (3 : Int32))), .val (.ref w_WAITING), .val (.int (1 : Int32)), .val (.int (0 : Int32)), .val (.int (1 : Int32))] [(.int (1 : Int32))]) := fun t k => k25 t (st26.trans k)
    have k28 : own_To p.tables e below (s₁.setTop (entryFrame m #[(.int p1)] maxLocals)) T26 (mkF m 53 #[.val (.int p1), .val (.int (p1 &&& (3 : Int32))), .val (.ref w_WAITING), .val (.int (1 : Int32)), .val (.int (0 : Int32)), .val (.int (1 : Int32))] [(.int (1 : Int32)), (.int (1 : Int32))]) := fun t k => k27 t (XS.iload X26.here hx rfl (hb hby at_51) rfl k)
    have k29 : own_To p.tables e below (s₁.setTop (entryFrame m #[(.int p1)] maxLocals)) T26 (mkF m 56 #[.val (.int p1), .val (.int (p1 &&& (3 : Int32))), .val (.ref w_WAITING), .val (.int (1 : Int32)), .val (.int (0 : Int32)), .val (.int (1 : Int32))] []) := fun t k => k28 t (XS.icmpNo X26.here hx rfl (hb hby at_53) rfl (teq (show (1 : Int32) = (1 : Int32) from (by decide))).2 k)
    have k30 : own_To p.tables e below (s₁.setTop (entryFrame m #[(.int p1)] maxLocals)) T26 (mkF m 57 #[.val (.int p1), .val (.int (p1 &&& (3 : Int32))), .val (.ref w_WAITING), .val (.int (1 : Int32)), .val (.int (0 : Int32)), .val (.int (1 : Int32))] [(.int (1 : Int32))]) := fun t k => k29 t (XS.iconst X26.here hx rfl (hb hby at_56) k)
    have k31 : own_To p.tables e below (s₁.setTop (entryFrame m #[(.int p1)] maxLocals)) T26 (mkF m 61 #[.val (.int p1), .val (.int (p1 &&& (3 : Int32))), .val (.ref w_WAITING), .val (.int (1 : Int32)), .val (.int (0 : Int32)), .val (.int (1 : Int32))] [(.int (1 : Int32))]) := fun t k => k30 t (XS.goto X26.here hx rfl (pc0 := 57) (pc' := 61) rfl (hb hby at_57) (by decide) (by decide) k)
    obtain ⟨fs, hr, hrun, hended, hW, hsame⟩ := X26.leave (v := some (.int (1 : Int32))) (fun h => by rw [Bd.returns] at h; cases h)
    refine ⟨_, _, k31 _ ?_, hrun, hended, _, _, rfl, ?_, ⟨_, rfl⟩, hW, hsame.mono (by decide) (by decide)⟩
    · exact retN X26 hx (t := .boolean) Bd.returns (by simp) (hb hby at_61) hr
    · exact ⟨rfl, N26⟩
  · by_cases hc32 : (p1 &&& (3 : Int32)) = (1 : Int32)
    · obtain ⟨_, _, ⟨T33, L33, k33, n33⟩, -, X33, ⟨Lc33, hQ33, l33, y33, z33⟩, st33⟩ := Jvm.LawKit.callS X0 hx (y := (⟨"com/example/grace_period/graceperiod/core/StateIsOpenPinLaw", "pick", "(I)Lcom/example/grace_period/graceperiod/core/Hold$State;"⟩ : MethodName)) hown (mvT hZ (hw _ (List.mem_of_getElem? (i := 0) rfl))) (mvT hZ (hw _ (List.mem_of_getElem? (i := 1) rfl))) (mvT hZ (hw _ (List.mem_of_getElem? (i := 2) rfl))) (mvT hZ (hw _ (List.mem_of_getElem? (i := 3) rfl))) (by decide) (backOf (W := 0) (own_m1 l Z a0 hw [] (p1 &&& (3 : Int32)) w_WAITING w_ON_HOLD_SHELF w_FULFILLED w_CANCELLED h0 n0 Z0 S_WAITING S_ON_HOLD_SHELF S_FULFILLED S_CANCELLED) hZ (hw _ (List.mem_of_getElem? (i := 3) rfl)) (hw _ (List.mem_of_getElem? (i := 2) rfl)) (by decide) (by decide)) (g := (mkF m 5 #[.val (.int p1), .val (.int (p1 &&& (3 : Int32))), .unset, .unset, .unset, .unset] [(.int (p1 &&& (3 : Int32)))])) rfl (by rw [hml]; rfl) (argsL := [(.int (p1 &&& (3 : Int32)))]) (rest := []) (lenOf own_pd0 rfl) rfl (by show 2 * 0 + _ ≤ _; exact Nat.le_of_eq rfl) (hb hby at_5) (fun _ _ => ⟨rfl, e0, (by decide : 0 + 0 ≤ _), (by decide : 0 + 0 ≤ _)⟩)
      dsimp only [Pt.U, Pt.locs, Pt.cells, Pt.slots] at X33 l33 y33 z33 st33 hQ33
      subst l33 y33 z33
      rw [show own_f1 (p1 &&& (3 : Int32)) w_WAITING w_ON_HOLD_SHELF w_FULFILLED w_CANCELLED = w_ON_HOLD_SHELF from by unfold own_f1; rw [if_neg (show ¬ ((p1 &&& (3 : Int32)) = (0 : Int32)) from hc6), if_pos (show (p1 &&& (3 : Int32)) = (1 : Int32) from hc32)]] at hQ33
      obtain ⟨rfl, N33q, e33⟩ := hQ33
      have N33 := Fr.app N0 N33q
      have k34 : own_To p.tables e below (s₁.setTop (entryFrame m #[(.int p1)] maxLocals)) T33 (mkF m 8 #[.val (.int p1), .val (.int (p1 &&& (3 : Int32))), .unset, .unset, .unset, .unset] [(.ref w_ON_HOLD_SHELF)]) := fun t k => k5 t (st33 t k)
      have k35 : own_To p.tables e below (s₁.setTop (entryFrame m #[(.int p1)] maxLocals)) T33 (mkF m 9 #[.val (.int p1), .val (.int (p1 &&& (3 : Int32))), .val (.ref w_ON_HOLD_SHELF), .unset, .unset, .unset] []) := fun t k => k34 t (XS.astoreN X33.here hx rfl (hb hby at_8) rfl rfl (l' := #[.val (.int p1), .val (.int (p1 &&& (3 : Int32))), .val (.ref w_ON_HOLD_SHELF), .unset, .unset, .unset]) rfl k)
      have k36 : own_To p.tables e below (s₁.setTop (entryFrame m #[(.int p1)] maxLocals)) T33 (mkF m 10 #[.val (.int p1), .val (.int (p1 &&& (3 : Int32))), .val (.ref w_ON_HOLD_SHELF), .unset, .unset, .unset] [(.int (p1 &&& (3 : Int32)))]) := fun t k => k35 t (XS.iloadN X33.here hx rfl (hb hby at_9) rfl k)
      have k37 : own_To p.tables e below (s₁.setTop (entryFrame m #[(.int p1)] maxLocals)) T33 (mkF m 17 #[.val (.int p1), .val (.int (p1 &&& (3 : Int32))), .val (.ref w_ON_HOLD_SHELF), .unset, .unset, .unset] []) := fun t k => k36 t (XS.ifYes X33.here hx rfl (pc0 := 10) (pc' := 17) rfl (hb hby at_10) rfl ((if0 _ _).trans (feq (show ¬ ((p1 &&& (3 : Int32)) = (0 : Int32)) from hc6)).2) (by decide) (by decide) k)
      have k38 : own_To p.tables e below (s₁.setTop (entryFrame m #[(.int p1)] maxLocals)) T33 (mkF m 18 #[.val (.int p1), .val (.int (p1 &&& (3 : Int32))), .val (.ref w_ON_HOLD_SHELF), .unset, .unset, .unset] [(.int (0 : Int32))]) := fun t k => k37 t (XS.iconst X33.here hx rfl (hb hby at_17) k)
      have k39 : own_To p.tables e below (s₁.setTop (entryFrame m #[(.int p1)] maxLocals)) T33 (mkF m 19 #[.val (.int p1), .val (.int (p1 &&& (3 : Int32))), .val (.ref w_ON_HOLD_SHELF), .val (.int (0 : Int32)), .unset, .unset] []) := fun t k => k38 t (XS.istoreN X33.here hx rfl (hb hby at_18) rfl (l' := #[.val (.int p1), .val (.int (p1 &&& (3 : Int32))), .val (.ref w_ON_HOLD_SHELF), .val (.int (0 : Int32)), .unset, .unset]) rfl k)
      have k40 : own_To p.tables e below (s₁.setTop (entryFrame m #[(.int p1)] maxLocals)) T33 (mkF m 20 #[.val (.int p1), .val (.int (p1 &&& (3 : Int32))), .val (.ref w_ON_HOLD_SHELF), .val (.int (0 : Int32)), .unset, .unset] [(.int (p1 &&& (3 : Int32)))]) := fun t k => k39 t (XS.iloadN X33.here hx rfl (hb hby at_19) rfl k)
      have k41 : own_To p.tables e below (s₁.setTop (entryFrame m #[(.int p1)] maxLocals)) T33 (mkF m 21 #[.val (.int p1), .val (.int (p1 &&& (3 : Int32))), .val (.ref w_ON_HOLD_SHELF), .val (.int (0 : Int32)), .unset, .unset] [(.int (1 : Int32)), (.int (p1 &&& (3 : Int32)))]) := fun t k => k40 t (XS.iconst X33.here hx rfl (hb hby at_20) k)
      have k42 : own_To p.tables e below (s₁.setTop (entryFrame m #[(.int p1)] maxLocals)) T33 (mkF m 24 #[.val (.int p1), .val (.int (p1 &&& (3 : Int32))), .val (.ref w_ON_HOLD_SHELF), .val (.int (0 : Int32)), .unset, .unset] []) := fun t k => k41 t (XS.icmpNo X33.here hx rfl (hb hby at_21) rfl (teq (show (p1 &&& (3 : Int32)) = (1 : Int32) from hc32)).2 k)
      have k43 : own_To p.tables e below (s₁.setTop (entryFrame m #[(.int p1)] maxLocals)) T33 (mkF m 25 #[.val (.int p1), .val (.int (p1 &&& (3 : Int32))), .val (.ref w_ON_HOLD_SHELF), .val (.int (0 : Int32)), .unset, .unset] [(.int (1 : Int32))]) := fun t k => k42 t (XS.iconst X33.here hx rfl (hb hby at_24) k)
      have k44 : own_To p.tables e below (s₁.setTop (entryFrame m #[(.int p1)] maxLocals)) T33 (mkF m 29 #[.val (.int p1), .val (.int (p1 &&& (3 : Int32))), .val (.ref w_ON_HOLD_SHELF), .val (.int (0 : Int32)), .unset, .unset] [(.int (1 : Int32))]) := fun t k => k43 t (XS.goto X33.here hx rfl (pc0 := 25) (pc' := 29) rfl (hb hby at_25) (by decide) (by decide) k)
      have k45 : own_To p.tables e below (s₁.setTop (entryFrame m #[(.int p1)] maxLocals)) T33 (mkF m 31 #[.val (.int p1), .val (.int (p1 &&& (3 : Int32))), .val (.ref w_ON_HOLD_SHELF), .val (.int (0 : Int32)), .val (.int (1 : Int32)), .unset] []) := fun t k => k44 t (XS.istore X33.here hx rfl (hb hby at_29) rfl (l' := #[.val (.int p1), .val (.int (p1 &&& (3 : Int32))), .val (.ref w_ON_HOLD_SHELF), .val (.int (0 : Int32)), .val (.int (1 : Int32)), .unset]) rfl k)
      have k46 : own_To p.tables e below (s₁.setTop (entryFrame m #[(.int p1)] maxLocals)) T33 (mkF m 32 #[.val (.int p1), .val (.int (p1 &&& (3 : Int32))), .val (.ref w_ON_HOLD_SHELF), .val (.int (0 : Int32)), .val (.int (1 : Int32)), .unset] [(.int (0 : Int32))]) := fun t k => k45 t (XS.iloadN X33.here hx rfl (hb hby at_31) rfl k)
      have k47 : own_To p.tables e below (s₁.setTop (entryFrame m #[(.int p1)] maxLocals)) T33 (mkF m 35 #[.val (.int p1), .val (.int (p1 &&& (3 : Int32))), .val (.ref w_ON_HOLD_SHELF), .val (.int (0 : Int32)), .val (.int (1 : Int32)), .unset] []) := fun t k => k46 t (XS.ifNo X33.here hx rfl (hb hby at_32) rfl ((if0 _ _).trans (teq (show (0 : Int32) = (0 : Int32) from (by decide))).2) k)
      have k48 : own_To p.tables e below (s₁.setTop (entryFrame m #[(.int p1)] maxLocals)) T33 (mkF m 37 #[.val (.int p1), .val (.int (p1 &&& (3 : Int32))), .val (.ref w_ON_HOLD_SHELF), .val (.int (0 : Int32)), .val (.int (1 : Int32)), .unset] [(.int (1 : Int32))]) := fun t k => k47 t (XS.iload X33.here hx rfl (hb hby at_35) rfl k)
      have k49 : own_To p.tables e below (s₁.setTop (entryFrame m #[(.int p1)] maxLocals)) T33 (mkF m 40 #[.val (.int p1), .val (.int (p1 &&& (3 : Int32))), .val (.ref w_ON_HOLD_SHELF), .val (.int (0 : Int32)), .val (.int (1 : Int32)), .unset] []) := fun t k => k48 t (XS.ifNo X33.here hx rfl (hb hby at_37) rfl ((if0 _ _).trans (feq (show ¬ ((1 : Int32) = (0 : Int32)) from (by decide))).1) k)
      have k50 : own_To p.tables e below (s₁.setTop (entryFrame m #[(.int p1)] maxLocals)) T33 (mkF m 41 #[.val (.int p1), .val (.int (p1 &&& (3 : Int32))), .val (.ref w_ON_HOLD_SHELF), .val (.int (0 : Int32)), .val (.int (1 : Int32)), .unset] [(.int (1 : Int32))]) := fun t k => k49 t (XS.iconst X33.here hx rfl (hb hby at_40) k)
      have k51 : own_To p.tables e below (s₁.setTop (entryFrame m #[(.int p1)] maxLocals)) T33 (mkF m 45 #[.val (.int p1), .val (.int (p1 &&& (3 : Int32))), .val (.ref w_ON_HOLD_SHELF), .val (.int (0 : Int32)), .val (.int (1 : Int32)), .unset] [(.int (1 : Int32))]) := fun t k => k50 t (XS.goto X33.here hx rfl (pc0 := 41) (pc' := 45) rfl (hb hby at_41) (by decide) (by decide) k)
      have k52 : own_To p.tables e below (s₁.setTop (entryFrame m #[(.int p1)] maxLocals)) T33 (mkF m 47 #[.val (.int p1), .val (.int (p1 &&& (3 : Int32))), .val (.ref w_ON_HOLD_SHELF), .val (.int (0 : Int32)), .val (.int (1 : Int32)), .val (.int (1 : Int32))] []) := fun t k => k51 t (XS.istore X33.here hx rfl (hb hby at_45) rfl (l' := #[.val (.int p1), .val (.int (p1 &&& (3 : Int32))), .val (.ref w_ON_HOLD_SHELF), .val (.int (0 : Int32)), .val (.int (1 : Int32)), .val (.int (1 : Int32))]) rfl k)
      have k53 : own_To p.tables e below (s₁.setTop (entryFrame m #[(.int p1)] maxLocals)) T33 (mkF m 48 #[.val (.int p1), .val (.int (p1 &&& (3 : Int32))), .val (.ref w_ON_HOLD_SHELF), .val (.int (0 : Int32)), .val (.int (1 : Int32)), .val (.int (1 : Int32))] [(.ref w_ON_HOLD_SHELF)]) := fun t k => k52 t (XS.aloadN X33.here hx rfl (hb hby at_47) rfl rfl k)
      obtain ⟨cq54, kq54, q54a, q54b, q54c⟩ := isOf hZ e33 E_w_ON_HOLD_SHELF
      obtain ⟨_, _, ⟨T54, L54, k54, n54⟩, -, X54, ⟨Lc54, hQ54, l54, y54, z54⟩, st54⟩ := X33.virtualBack hx (y := (⟨"com/example/grace_period/graceperiod/core/Hold$State", "isOpen", "()Z"⟩ : MethodName)) (z := (⟨"com/example/grace_period/graceperiod/core/Hold$State", "isOpen", "()Z"⟩ : MethodName)) hown (mvT hZ (hw _ (List.mem_of_getElem? (i := 7) rfl))) (mvT hZ (hw _ (List.mem_of_getElem? (i := 8) rfl))) (notFace_of_selects (args := #[]) (mvT hZ (hw _ (List.mem_of_getElem? (i := 10) rfl)))) (mvT hZ (hw _ (List.mem_of_getElem? (i := 10) rfl))) (mvT hZ (hw _ (List.mem_of_getElem? (i := 9) rfl))) (by decide) (backOf (W := 0) (own_m2 l Z a0 hw [] w_ON_HOLD_SHELF w_WAITING w_ON_HOLD_SHELF h0 n0 Z0 S_WAITING S_ON_HOLD_SHELF) hZ (hw _ (List.mem_of_getElem? (i := 11) rfl)) (hw _ (List.mem_of_getElem? (i := 5) rfl)) (by decide) (by decide)) q54a q54c (g := (mkF m 48 #[.val (.int p1), .val (.int (p1 &&& (3 : Int32))), .val (.ref w_ON_HOLD_SHELF), .val (.int (0 : Int32)), .val (.int (1 : Int32)), .val (.int (1 : Int32))] [(.ref w_ON_HOLD_SHELF)])) rfl (by rw [hml]; rfl) (Steps.refl _) (argsL := []) (rest := []) (lenOf own_pd1 rfl) rfl (by show 2 * 0 + _ ≤ _; exact Nat.le_of_eq rfl) (hb hby at_48) (fun _ _ => ⟨rfl, e33, (by decide : 0 + 0 ≤ _), (by decide : 0 + 0 ≤ _)⟩)
      dsimp only [Pt.U, Pt.locs, Pt.cells, Pt.slots] at X54 l54 y54 z54 st54 hQ54
      subst l54 y54 z54
      rw [show own_f2 w_ON_HOLD_SHELF w_WAITING w_ON_HOLD_SHELF = (1 : Int32) from by unfold own_f2; rw [if_neg (show ¬ (w_ON_HOLD_SHELF = w_WAITING) from (fun q => ne_WAITING_ON_HOLD_SHELF (Eq.symm q))), if_pos (show w_ON_HOLD_SHELF = w_ON_HOLD_SHELF from rfl)]] at hQ54
      obtain ⟨rfl, N54q, e54⟩ := hQ54
      have N54 := Fr.app N33 N54q
      have k55 : own_To p.tables e below (s₁.setTop (entryFrame m #[(.int p1)] maxLocals)) T54 (mkF m 51 #[.val (.int p1), .val (.int (p1 &&& (3 : Int32))), .val (.ref w_ON_HOLD_SHELF), .val (.int (0 : Int32)), .val (.int (1 : Int32)), .val (.int (1 : Int32))] [(.int (1 : Int32))]) := fun t k => k53 t (st54.trans k)
      have k56 : own_To p.tables e below (s₁.setTop (entryFrame m #[(.int p1)] maxLocals)) T54 (mkF m 53 #[.val (.int p1), .val (.int (p1 &&& (3 : Int32))), .val (.ref w_ON_HOLD_SHELF), .val (.int (0 : Int32)), .val (.int (1 : Int32)), .val (.int (1 : Int32))] [(.int (1 : Int32)), (.int (1 : Int32))]) := fun t k => k55 t (XS.iload X54.here hx rfl (hb hby at_51) rfl k)
      have k57 : own_To p.tables e below (s₁.setTop (entryFrame m #[(.int p1)] maxLocals)) T54 (mkF m 56 #[.val (.int p1), .val (.int (p1 &&& (3 : Int32))), .val (.ref w_ON_HOLD_SHELF), .val (.int (0 : Int32)), .val (.int (1 : Int32)), .val (.int (1 : Int32))] []) := fun t k => k56 t (XS.icmpNo X54.here hx rfl (hb hby at_53) rfl (teq (show (1 : Int32) = (1 : Int32) from (by decide))).2 k)
      have k58 : own_To p.tables e below (s₁.setTop (entryFrame m #[(.int p1)] maxLocals)) T54 (mkF m 57 #[.val (.int p1), .val (.int (p1 &&& (3 : Int32))), .val (.ref w_ON_HOLD_SHELF), .val (.int (0 : Int32)), .val (.int (1 : Int32)), .val (.int (1 : Int32))] [(.int (1 : Int32))]) := fun t k => k57 t (XS.iconst X54.here hx rfl (hb hby at_56) k)
      have k59 : own_To p.tables e below (s₁.setTop (entryFrame m #[(.int p1)] maxLocals)) T54 (mkF m 61 #[.val (.int p1), .val (.int (p1 &&& (3 : Int32))), .val (.ref w_ON_HOLD_SHELF), .val (.int (0 : Int32)), .val (.int (1 : Int32)), .val (.int (1 : Int32))] [(.int (1 : Int32))]) := fun t k => k58 t (XS.goto X54.here hx rfl (pc0 := 57) (pc' := 61) rfl (hb hby at_57) (by decide) (by decide) k)
      obtain ⟨fs, hr, hrun, hended, hW, hsame⟩ := X54.leave (v := some (.int (1 : Int32))) (fun h => by rw [Bd.returns] at h; cases h)
      refine ⟨_, _, k59 _ ?_, hrun, hended, _, _, rfl, ?_, ⟨_, rfl⟩, hW, hsame.mono (by decide) (by decide)⟩
      · exact retN X54 hx (t := .boolean) Bd.returns (by simp) (hb hby at_61) hr
      · exact ⟨rfl, N54⟩
    · by_cases hc60 : (p1 &&& (3 : Int32)) = (2 : Int32)
      · obtain ⟨_, _, ⟨T61, L61, k61, n61⟩, -, X61, ⟨Lc61, hQ61, l61, y61, z61⟩, st61⟩ := Jvm.LawKit.callS X0 hx (y := (⟨"com/example/grace_period/graceperiod/core/StateIsOpenPinLaw", "pick", "(I)Lcom/example/grace_period/graceperiod/core/Hold$State;"⟩ : MethodName)) hown (mvT hZ (hw _ (List.mem_of_getElem? (i := 0) rfl))) (mvT hZ (hw _ (List.mem_of_getElem? (i := 1) rfl))) (mvT hZ (hw _ (List.mem_of_getElem? (i := 2) rfl))) (mvT hZ (hw _ (List.mem_of_getElem? (i := 3) rfl))) (by decide) (backOf (W := 0) (own_m1 l Z a0 hw [] (p1 &&& (3 : Int32)) w_WAITING w_ON_HOLD_SHELF w_FULFILLED w_CANCELLED h0 n0 Z0 S_WAITING S_ON_HOLD_SHELF S_FULFILLED S_CANCELLED) hZ (hw _ (List.mem_of_getElem? (i := 3) rfl)) (hw _ (List.mem_of_getElem? (i := 2) rfl)) (by decide) (by decide)) (g := (mkF m 5 #[.val (.int p1), .val (.int (p1 &&& (3 : Int32))), .unset, .unset, .unset, .unset] [(.int (p1 &&& (3 : Int32)))])) rfl (by rw [hml]; rfl) (argsL := [(.int (p1 &&& (3 : Int32)))]) (rest := []) (lenOf own_pd0 rfl) rfl (by show 2 * 0 + _ ≤ _; exact Nat.le_of_eq rfl) (hb hby at_5) (fun _ _ => ⟨rfl, e0, (by decide : 0 + 0 ≤ _), (by decide : 0 + 0 ≤ _)⟩)
        dsimp only [Pt.U, Pt.locs, Pt.cells, Pt.slots] at X61 l61 y61 z61 st61 hQ61
        subst l61 y61 z61
        rw [show own_f1 (p1 &&& (3 : Int32)) w_WAITING w_ON_HOLD_SHELF w_FULFILLED w_CANCELLED = w_FULFILLED from by unfold own_f1; rw [if_neg (show ¬ ((p1 &&& (3 : Int32)) = (0 : Int32)) from hc6), if_neg (show ¬ ((p1 &&& (3 : Int32)) = (1 : Int32)) from hc32), if_pos (show (p1 &&& (3 : Int32)) = (2 : Int32) from hc60)]] at hQ61
        obtain ⟨rfl, N61q, e61⟩ := hQ61
        have N61 := Fr.app N0 N61q
        have k62 : own_To p.tables e below (s₁.setTop (entryFrame m #[(.int p1)] maxLocals)) T61 (mkF m 8 #[.val (.int p1), .val (.int (p1 &&& (3 : Int32))), .unset, .unset, .unset, .unset] [(.ref w_FULFILLED)]) := fun t k => k5 t (st61 t k)
        have k63 : own_To p.tables e below (s₁.setTop (entryFrame m #[(.int p1)] maxLocals)) T61 (mkF m 9 #[.val (.int p1), .val (.int (p1 &&& (3 : Int32))), .val (.ref w_FULFILLED), .unset, .unset, .unset] []) := fun t k => k62 t (XS.astoreN X61.here hx rfl (hb hby at_8) rfl rfl (l' := #[.val (.int p1), .val (.int (p1 &&& (3 : Int32))), .val (.ref w_FULFILLED), .unset, .unset, .unset]) rfl k)
        have k64 : own_To p.tables e below (s₁.setTop (entryFrame m #[(.int p1)] maxLocals)) T61 (mkF m 10 #[.val (.int p1), .val (.int (p1 &&& (3 : Int32))), .val (.ref w_FULFILLED), .unset, .unset, .unset] [(.int (p1 &&& (3 : Int32)))]) := fun t k => k63 t (XS.iloadN X61.here hx rfl (hb hby at_9) rfl k)
        have k65 : own_To p.tables e below (s₁.setTop (entryFrame m #[(.int p1)] maxLocals)) T61 (mkF m 17 #[.val (.int p1), .val (.int (p1 &&& (3 : Int32))), .val (.ref w_FULFILLED), .unset, .unset, .unset] []) := fun t k => k64 t (XS.ifYes X61.here hx rfl (pc0 := 10) (pc' := 17) rfl (hb hby at_10) rfl ((if0 _ _).trans (feq (show ¬ ((p1 &&& (3 : Int32)) = (0 : Int32)) from hc6)).2) (by decide) (by decide) k)
        have k66 : own_To p.tables e below (s₁.setTop (entryFrame m #[(.int p1)] maxLocals)) T61 (mkF m 18 #[.val (.int p1), .val (.int (p1 &&& (3 : Int32))), .val (.ref w_FULFILLED), .unset, .unset, .unset] [(.int (0 : Int32))]) := fun t k => k65 t (XS.iconst X61.here hx rfl (hb hby at_17) k)
        have k67 : own_To p.tables e below (s₁.setTop (entryFrame m #[(.int p1)] maxLocals)) T61 (mkF m 19 #[.val (.int p1), .val (.int (p1 &&& (3 : Int32))), .val (.ref w_FULFILLED), .val (.int (0 : Int32)), .unset, .unset] []) := fun t k => k66 t (XS.istoreN X61.here hx rfl (hb hby at_18) rfl (l' := #[.val (.int p1), .val (.int (p1 &&& (3 : Int32))), .val (.ref w_FULFILLED), .val (.int (0 : Int32)), .unset, .unset]) rfl k)
        have k68 : own_To p.tables e below (s₁.setTop (entryFrame m #[(.int p1)] maxLocals)) T61 (mkF m 20 #[.val (.int p1), .val (.int (p1 &&& (3 : Int32))), .val (.ref w_FULFILLED), .val (.int (0 : Int32)), .unset, .unset] [(.int (p1 &&& (3 : Int32)))]) := fun t k => k67 t (XS.iloadN X61.here hx rfl (hb hby at_19) rfl k)
        have k69 : own_To p.tables e below (s₁.setTop (entryFrame m #[(.int p1)] maxLocals)) T61 (mkF m 21 #[.val (.int p1), .val (.int (p1 &&& (3 : Int32))), .val (.ref w_FULFILLED), .val (.int (0 : Int32)), .unset, .unset] [(.int (1 : Int32)), (.int (p1 &&& (3 : Int32)))]) := fun t k => k68 t (XS.iconst X61.here hx rfl (hb hby at_20) k)
        have k70 : own_To p.tables e below (s₁.setTop (entryFrame m #[(.int p1)] maxLocals)) T61 (mkF m 28 #[.val (.int p1), .val (.int (p1 &&& (3 : Int32))), .val (.ref w_FULFILLED), .val (.int (0 : Int32)), .unset, .unset] []) := fun t k => k69 t (XS.icmpYes X61.here hx rfl (pc0 := 21) (pc' := 28) rfl (hb hby at_21) rfl (feq (show ¬ ((p1 &&& (3 : Int32)) = (1 : Int32)) from hc32)).2 (by decide) (by decide) k)
        have k71 : own_To p.tables e below (s₁.setTop (entryFrame m #[(.int p1)] maxLocals)) T61 (mkF m 29 #[.val (.int p1), .val (.int (p1 &&& (3 : Int32))), .val (.ref w_FULFILLED), .val (.int (0 : Int32)), .unset, .unset] [(.int (0 : Int32))]) := fun t k => k70 t (XS.iconst X61.here hx rfl (hb hby at_28) k)
        have k72 : own_To p.tables e below (s₁.setTop (entryFrame m #[(.int p1)] maxLocals)) T61 (mkF m 31 #[.val (.int p1), .val (.int (p1 &&& (3 : Int32))), .val (.ref w_FULFILLED), .val (.int (0 : Int32)), .val (.int (0 : Int32)), .unset] []) := fun t k => k71 t (XS.istore X61.here hx rfl (hb hby at_29) rfl (l' := #[.val (.int p1), .val (.int (p1 &&& (3 : Int32))), .val (.ref w_FULFILLED), .val (.int (0 : Int32)), .val (.int (0 : Int32)), .unset]) rfl k)
        have k73 : own_To p.tables e below (s₁.setTop (entryFrame m #[(.int p1)] maxLocals)) T61 (mkF m 32 #[.val (.int p1), .val (.int (p1 &&& (3 : Int32))), .val (.ref w_FULFILLED), .val (.int (0 : Int32)), .val (.int (0 : Int32)), .unset] [(.int (0 : Int32))]) := fun t k => k72 t (XS.iloadN X61.here hx rfl (hb hby at_31) rfl k)
        have k74 : own_To p.tables e below (s₁.setTop (entryFrame m #[(.int p1)] maxLocals)) T61 (mkF m 35 #[.val (.int p1), .val (.int (p1 &&& (3 : Int32))), .val (.ref w_FULFILLED), .val (.int (0 : Int32)), .val (.int (0 : Int32)), .unset] []) := fun t k => k73 t (XS.ifNo X61.here hx rfl (hb hby at_32) rfl ((if0 _ _).trans (teq (show (0 : Int32) = (0 : Int32) from (by decide))).2) k)
        have k75 : own_To p.tables e below (s₁.setTop (entryFrame m #[(.int p1)] maxLocals)) T61 (mkF m 37 #[.val (.int p1), .val (.int (p1 &&& (3 : Int32))), .val (.ref w_FULFILLED), .val (.int (0 : Int32)), .val (.int (0 : Int32)), .unset] [(.int (0 : Int32))]) := fun t k => k74 t (XS.iload X61.here hx rfl (hb hby at_35) rfl k)
        have k76 : own_To p.tables e below (s₁.setTop (entryFrame m #[(.int p1)] maxLocals)) T61 (mkF m 44 #[.val (.int p1), .val (.int (p1 &&& (3 : Int32))), .val (.ref w_FULFILLED), .val (.int (0 : Int32)), .val (.int (0 : Int32)), .unset] []) := fun t k => k75 t (XS.ifYes X61.here hx rfl (pc0 := 37) (pc' := 44) rfl (hb hby at_37) rfl ((if0 _ _).trans (teq (show (0 : Int32) = (0 : Int32) from (by decide))).1) (by decide) (by decide) k)
        have k77 : own_To p.tables e below (s₁.setTop (entryFrame m #[(.int p1)] maxLocals)) T61 (mkF m 45 #[.val (.int p1), .val (.int (p1 &&& (3 : Int32))), .val (.ref w_FULFILLED), .val (.int (0 : Int32)), .val (.int (0 : Int32)), .unset] [(.int (0 : Int32))]) := fun t k => k76 t (XS.iconst X61.here hx rfl (hb hby at_44) k)
        have k78 : own_To p.tables e below (s₁.setTop (entryFrame m #[(.int p1)] maxLocals)) T61 (mkF m 47 #[.val (.int p1), .val (.int (p1 &&& (3 : Int32))), .val (.ref w_FULFILLED), .val (.int (0 : Int32)), .val (.int (0 : Int32)), .val (.int (0 : Int32))] []) := fun t k => k77 t (XS.istore X61.here hx rfl (hb hby at_45) rfl (l' := #[.val (.int p1), .val (.int (p1 &&& (3 : Int32))), .val (.ref w_FULFILLED), .val (.int (0 : Int32)), .val (.int (0 : Int32)), .val (.int (0 : Int32))]) rfl k)
        have k79 : own_To p.tables e below (s₁.setTop (entryFrame m #[(.int p1)] maxLocals)) T61 (mkF m 48 #[.val (.int p1), .val (.int (p1 &&& (3 : Int32))), .val (.ref w_FULFILLED), .val (.int (0 : Int32)), .val (.int (0 : Int32)), .val (.int (0 : Int32))] [(.ref w_FULFILLED)]) := fun t k => k78 t (XS.aloadN X61.here hx rfl (hb hby at_47) rfl rfl k)
        obtain ⟨cq80, kq80, q80a, q80b, q80c⟩ := isOf hZ e61 E_w_FULFILLED
        obtain ⟨_, _, ⟨T80, L80, k80, n80⟩, -, X80, ⟨Lc80, hQ80, l80, y80, z80⟩, st80⟩ := X61.virtualBack hx (y := (⟨"com/example/grace_period/graceperiod/core/Hold$State", "isOpen", "()Z"⟩ : MethodName)) (z := (⟨"com/example/grace_period/graceperiod/core/Hold$State", "isOpen", "()Z"⟩ : MethodName)) hown (mvT hZ (hw _ (List.mem_of_getElem? (i := 7) rfl))) (mvT hZ (hw _ (List.mem_of_getElem? (i := 8) rfl))) (notFace_of_selects (args := #[]) (mvT hZ (hw _ (List.mem_of_getElem? (i := 10) rfl)))) (mvT hZ (hw _ (List.mem_of_getElem? (i := 10) rfl))) (mvT hZ (hw _ (List.mem_of_getElem? (i := 9) rfl))) (by decide) (backOf (W := 0) (own_m2 l Z a0 hw [] w_FULFILLED w_WAITING w_ON_HOLD_SHELF h0 n0 Z0 S_WAITING S_ON_HOLD_SHELF) hZ (hw _ (List.mem_of_getElem? (i := 11) rfl)) (hw _ (List.mem_of_getElem? (i := 5) rfl)) (by decide) (by decide)) q80a q80c (g := (mkF m 48 #[.val (.int p1), .val (.int (p1 &&& (3 : Int32))), .val (.ref w_FULFILLED), .val (.int (0 : Int32)), .val (.int (0 : Int32)), .val (.int (0 : Int32))] [(.ref w_FULFILLED)])) rfl (by rw [hml]; rfl) (Steps.refl _) (argsL := []) (rest := []) (lenOf own_pd1 rfl) rfl (by show 2 * 0 + _ ≤ _; exact Nat.le_of_eq rfl) (hb hby at_48) (fun _ _ => ⟨rfl, e61, (by decide : 0 + 0 ≤ _), (by decide : 0 + 0 ≤ _)⟩)
        dsimp only [Pt.U, Pt.locs, Pt.cells, Pt.slots] at X80 l80 y80 z80 st80 hQ80
        subst l80 y80 z80
        rw [show own_f2 w_FULFILLED w_WAITING w_ON_HOLD_SHELF = (0 : Int32) from by unfold own_f2; rw [if_neg (show ¬ (w_FULFILLED = w_WAITING) from (fun q => ne_WAITING_FULFILLED (Eq.symm q))), if_neg (show ¬ (w_FULFILLED = w_ON_HOLD_SHELF) from (fun q => ne_ON_HOLD_SHELF_FULFILLED (Eq.symm q)))]] at hQ80
        obtain ⟨rfl, N80q, e80⟩ := hQ80
        have N80 := Fr.app N61 N80q
        have k81 : own_To p.tables e below (s₁.setTop (entryFrame m #[(.int p1)] maxLocals)) T80 (mkF m 51 #[.val (.int p1), .val (.int (p1 &&& (3 : Int32))), .val (.ref w_FULFILLED), .val (.int (0 : Int32)), .val (.int (0 : Int32)), .val (.int (0 : Int32))] [(.int (0 : Int32))]) := fun t k => k79 t (st80.trans k)
        have k82 : own_To p.tables e below (s₁.setTop (entryFrame m #[(.int p1)] maxLocals)) T80 (mkF m 53 #[.val (.int p1), .val (.int (p1 &&& (3 : Int32))), .val (.ref w_FULFILLED), .val (.int (0 : Int32)), .val (.int (0 : Int32)), .val (.int (0 : Int32))] [(.int (0 : Int32)), (.int (0 : Int32))]) := fun t k => k81 t (XS.iload X80.here hx rfl (hb hby at_51) rfl k)
        have k83 : own_To p.tables e below (s₁.setTop (entryFrame m #[(.int p1)] maxLocals)) T80 (mkF m 56 #[.val (.int p1), .val (.int (p1 &&& (3 : Int32))), .val (.ref w_FULFILLED), .val (.int (0 : Int32)), .val (.int (0 : Int32)), .val (.int (0 : Int32))] []) := fun t k => k82 t (XS.icmpNo X80.here hx rfl (hb hby at_53) rfl (teq (show (0 : Int32) = (0 : Int32) from (by decide))).2 k)
        have k84 : own_To p.tables e below (s₁.setTop (entryFrame m #[(.int p1)] maxLocals)) T80 (mkF m 57 #[.val (.int p1), .val (.int (p1 &&& (3 : Int32))), .val (.ref w_FULFILLED), .val (.int (0 : Int32)), .val (.int (0 : Int32)), .val (.int (0 : Int32))] [(.int (1 : Int32))]) := fun t k => k83 t (XS.iconst X80.here hx rfl (hb hby at_56) k)
        have k85 : own_To p.tables e below (s₁.setTop (entryFrame m #[(.int p1)] maxLocals)) T80 (mkF m 61 #[.val (.int p1), .val (.int (p1 &&& (3 : Int32))), .val (.ref w_FULFILLED), .val (.int (0 : Int32)), .val (.int (0 : Int32)), .val (.int (0 : Int32))] [(.int (1 : Int32))]) := fun t k => k84 t (XS.goto X80.here hx rfl (pc0 := 57) (pc' := 61) rfl (hb hby at_57) (by decide) (by decide) k)
        obtain ⟨fs, hr, hrun, hended, hW, hsame⟩ := X80.leave (v := some (.int (1 : Int32))) (fun h => by rw [Bd.returns] at h; cases h)
        refine ⟨_, _, k85 _ ?_, hrun, hended, _, _, rfl, ?_, ⟨_, rfl⟩, hW, hsame.mono (by decide) (by decide)⟩
        · exact retN X80 hx (t := .boolean) Bd.returns (by simp) (hb hby at_61) hr
        · exact ⟨rfl, N80⟩
      · obtain ⟨_, _, ⟨T86, L86, k86, n86⟩, -, X86, ⟨Lc86, hQ86, l86, y86, z86⟩, st86⟩ := Jvm.LawKit.callS X0 hx (y := (⟨"com/example/grace_period/graceperiod/core/StateIsOpenPinLaw", "pick", "(I)Lcom/example/grace_period/graceperiod/core/Hold$State;"⟩ : MethodName)) hown (mvT hZ (hw _ (List.mem_of_getElem? (i := 0) rfl))) (mvT hZ (hw _ (List.mem_of_getElem? (i := 1) rfl))) (mvT hZ (hw _ (List.mem_of_getElem? (i := 2) rfl))) (mvT hZ (hw _ (List.mem_of_getElem? (i := 3) rfl))) (by decide) (backOf (W := 0) (own_m1 l Z a0 hw [] (p1 &&& (3 : Int32)) w_WAITING w_ON_HOLD_SHELF w_FULFILLED w_CANCELLED h0 n0 Z0 S_WAITING S_ON_HOLD_SHELF S_FULFILLED S_CANCELLED) hZ (hw _ (List.mem_of_getElem? (i := 3) rfl)) (hw _ (List.mem_of_getElem? (i := 2) rfl)) (by decide) (by decide)) (g := (mkF m 5 #[.val (.int p1), .val (.int (p1 &&& (3 : Int32))), .unset, .unset, .unset, .unset] [(.int (p1 &&& (3 : Int32)))])) rfl (by rw [hml]; rfl) (argsL := [(.int (p1 &&& (3 : Int32)))]) (rest := []) (lenOf own_pd0 rfl) rfl (by show 2 * 0 + _ ≤ _; exact Nat.le_of_eq rfl) (hb hby at_5) (fun _ _ => ⟨rfl, e0, (by decide : 0 + 0 ≤ _), (by decide : 0 + 0 ≤ _)⟩)
        dsimp only [Pt.U, Pt.locs, Pt.cells, Pt.slots] at X86 l86 y86 z86 st86 hQ86
        subst l86 y86 z86
        rw [show own_f1 (p1 &&& (3 : Int32)) w_WAITING w_ON_HOLD_SHELF w_FULFILLED w_CANCELLED = w_CANCELLED from by unfold own_f1; rw [if_neg (show ¬ ((p1 &&& (3 : Int32)) = (0 : Int32)) from hc6), if_neg (show ¬ ((p1 &&& (3 : Int32)) = (1 : Int32)) from hc32), if_neg (show ¬ ((p1 &&& (3 : Int32)) = (2 : Int32)) from hc60)]] at hQ86
        obtain ⟨rfl, N86q, e86⟩ := hQ86
        have N86 := Fr.app N0 N86q
        have k87 : own_To p.tables e below (s₁.setTop (entryFrame m #[(.int p1)] maxLocals)) T86 (mkF m 8 #[.val (.int p1), .val (.int (p1 &&& (3 : Int32))), .unset, .unset, .unset, .unset] [(.ref w_CANCELLED)]) := fun t k => k5 t (st86 t k)
        have k88 : own_To p.tables e below (s₁.setTop (entryFrame m #[(.int p1)] maxLocals)) T86 (mkF m 9 #[.val (.int p1), .val (.int (p1 &&& (3 : Int32))), .val (.ref w_CANCELLED), .unset, .unset, .unset] []) := fun t k => k87 t (XS.astoreN X86.here hx rfl (hb hby at_8) rfl rfl (l' := #[.val (.int p1), .val (.int (p1 &&& (3 : Int32))), .val (.ref w_CANCELLED), .unset, .unset, .unset]) rfl k)
        have k89 : own_To p.tables e below (s₁.setTop (entryFrame m #[(.int p1)] maxLocals)) T86 (mkF m 10 #[.val (.int p1), .val (.int (p1 &&& (3 : Int32))), .val (.ref w_CANCELLED), .unset, .unset, .unset] [(.int (p1 &&& (3 : Int32)))]) := fun t k => k88 t (XS.iloadN X86.here hx rfl (hb hby at_9) rfl k)
        have k90 : own_To p.tables e below (s₁.setTop (entryFrame m #[(.int p1)] maxLocals)) T86 (mkF m 17 #[.val (.int p1), .val (.int (p1 &&& (3 : Int32))), .val (.ref w_CANCELLED), .unset, .unset, .unset] []) := fun t k => k89 t (XS.ifYes X86.here hx rfl (pc0 := 10) (pc' := 17) rfl (hb hby at_10) rfl ((if0 _ _).trans (feq (show ¬ ((p1 &&& (3 : Int32)) = (0 : Int32)) from hc6)).2) (by decide) (by decide) k)
        have k91 : own_To p.tables e below (s₁.setTop (entryFrame m #[(.int p1)] maxLocals)) T86 (mkF m 18 #[.val (.int p1), .val (.int (p1 &&& (3 : Int32))), .val (.ref w_CANCELLED), .unset, .unset, .unset] [(.int (0 : Int32))]) := fun t k => k90 t (XS.iconst X86.here hx rfl (hb hby at_17) k)
        have k92 : own_To p.tables e below (s₁.setTop (entryFrame m #[(.int p1)] maxLocals)) T86 (mkF m 19 #[.val (.int p1), .val (.int (p1 &&& (3 : Int32))), .val (.ref w_CANCELLED), .val (.int (0 : Int32)), .unset, .unset] []) := fun t k => k91 t (XS.istoreN X86.here hx rfl (hb hby at_18) rfl (l' := #[.val (.int p1), .val (.int (p1 &&& (3 : Int32))), .val (.ref w_CANCELLED), .val (.int (0 : Int32)), .unset, .unset]) rfl k)
        have k93 : own_To p.tables e below (s₁.setTop (entryFrame m #[(.int p1)] maxLocals)) T86 (mkF m 20 #[.val (.int p1), .val (.int (p1 &&& (3 : Int32))), .val (.ref w_CANCELLED), .val (.int (0 : Int32)), .unset, .unset] [(.int (p1 &&& (3 : Int32)))]) := fun t k => k92 t (XS.iloadN X86.here hx rfl (hb hby at_19) rfl k)
        have k94 : own_To p.tables e below (s₁.setTop (entryFrame m #[(.int p1)] maxLocals)) T86 (mkF m 21 #[.val (.int p1), .val (.int (p1 &&& (3 : Int32))), .val (.ref w_CANCELLED), .val (.int (0 : Int32)), .unset, .unset] [(.int (1 : Int32)), (.int (p1 &&& (3 : Int32)))]) := fun t k => k93 t (XS.iconst X86.here hx rfl (hb hby at_20) k)
        have k95 : own_To p.tables e below (s₁.setTop (entryFrame m #[(.int p1)] maxLocals)) T86 (mkF m 28 #[.val (.int p1), .val (.int (p1 &&& (3 : Int32))), .val (.ref w_CANCELLED), .val (.int (0 : Int32)), .unset, .unset] []) := fun t k => k94 t (XS.icmpYes X86.here hx rfl (pc0 := 21) (pc' := 28) rfl (hb hby at_21) rfl (feq (show ¬ ((p1 &&& (3 : Int32)) = (1 : Int32)) from hc32)).2 (by decide) (by decide) k)
        have k96 : own_To p.tables e below (s₁.setTop (entryFrame m #[(.int p1)] maxLocals)) T86 (mkF m 29 #[.val (.int p1), .val (.int (p1 &&& (3 : Int32))), .val (.ref w_CANCELLED), .val (.int (0 : Int32)), .unset, .unset] [(.int (0 : Int32))]) := fun t k => k95 t (XS.iconst X86.here hx rfl (hb hby at_28) k)
        have k97 : own_To p.tables e below (s₁.setTop (entryFrame m #[(.int p1)] maxLocals)) T86 (mkF m 31 #[.val (.int p1), .val (.int (p1 &&& (3 : Int32))), .val (.ref w_CANCELLED), .val (.int (0 : Int32)), .val (.int (0 : Int32)), .unset] []) := fun t k => k96 t (XS.istore X86.here hx rfl (hb hby at_29) rfl (l' := #[.val (.int p1), .val (.int (p1 &&& (3 : Int32))), .val (.ref w_CANCELLED), .val (.int (0 : Int32)), .val (.int (0 : Int32)), .unset]) rfl k)
        have k98 : own_To p.tables e below (s₁.setTop (entryFrame m #[(.int p1)] maxLocals)) T86 (mkF m 32 #[.val (.int p1), .val (.int (p1 &&& (3 : Int32))), .val (.ref w_CANCELLED), .val (.int (0 : Int32)), .val (.int (0 : Int32)), .unset] [(.int (0 : Int32))]) := fun t k => k97 t (XS.iloadN X86.here hx rfl (hb hby at_31) rfl k)
        have k99 : own_To p.tables e below (s₁.setTop (entryFrame m #[(.int p1)] maxLocals)) T86 (mkF m 35 #[.val (.int p1), .val (.int (p1 &&& (3 : Int32))), .val (.ref w_CANCELLED), .val (.int (0 : Int32)), .val (.int (0 : Int32)), .unset] []) := fun t k => k98 t (XS.ifNo X86.here hx rfl (hb hby at_32) rfl ((if0 _ _).trans (teq (show (0 : Int32) = (0 : Int32) from (by decide))).2) k)
        have k100 : own_To p.tables e below (s₁.setTop (entryFrame m #[(.int p1)] maxLocals)) T86 (mkF m 37 #[.val (.int p1), .val (.int (p1 &&& (3 : Int32))), .val (.ref w_CANCELLED), .val (.int (0 : Int32)), .val (.int (0 : Int32)), .unset] [(.int (0 : Int32))]) := fun t k => k99 t (XS.iload X86.here hx rfl (hb hby at_35) rfl k)
        have k101 : own_To p.tables e below (s₁.setTop (entryFrame m #[(.int p1)] maxLocals)) T86 (mkF m 44 #[.val (.int p1), .val (.int (p1 &&& (3 : Int32))), .val (.ref w_CANCELLED), .val (.int (0 : Int32)), .val (.int (0 : Int32)), .unset] []) := fun t k => k100 t (XS.ifYes X86.here hx rfl (pc0 := 37) (pc' := 44) rfl (hb hby at_37) rfl ((if0 _ _).trans (teq (show (0 : Int32) = (0 : Int32) from (by decide))).1) (by decide) (by decide) k)
        have k102 : own_To p.tables e below (s₁.setTop (entryFrame m #[(.int p1)] maxLocals)) T86 (mkF m 45 #[.val (.int p1), .val (.int (p1 &&& (3 : Int32))), .val (.ref w_CANCELLED), .val (.int (0 : Int32)), .val (.int (0 : Int32)), .unset] [(.int (0 : Int32))]) := fun t k => k101 t (XS.iconst X86.here hx rfl (hb hby at_44) k)
        have k103 : own_To p.tables e below (s₁.setTop (entryFrame m #[(.int p1)] maxLocals)) T86 (mkF m 47 #[.val (.int p1), .val (.int (p1 &&& (3 : Int32))), .val (.ref w_CANCELLED), .val (.int (0 : Int32)), .val (.int (0 : Int32)), .val (.int (0 : Int32))] []) := fun t k => k102 t (XS.istore X86.here hx rfl (hb hby at_45) rfl (l' := #[.val (.int p1), .val (.int (p1 &&& (3 : Int32))), .val (.ref w_CANCELLED), .val (.int (0 : Int32)), .val (.int (0 : Int32)), .val (.int (0 : Int32))]) rfl k)
        have k104 : own_To p.tables e below (s₁.setTop (entryFrame m #[(.int p1)] maxLocals)) T86 (mkF m 48 #[.val (.int p1), .val (.int (p1 &&& (3 : Int32))), .val (.ref w_CANCELLED), .val (.int (0 : Int32)), .val (.int (0 : Int32)), .val (.int (0 : Int32))] [(.ref w_CANCELLED)]) := fun t k => k103 t (XS.aloadN X86.here hx rfl (hb hby at_47) rfl rfl k)
        obtain ⟨cq105, kq105, q105a, q105b, q105c⟩ := isOf hZ e86 E_w_CANCELLED
        obtain ⟨_, _, ⟨T105, L105, k105, n105⟩, -, X105, ⟨Lc105, hQ105, l105, y105, z105⟩, st105⟩ := X86.virtualBack hx (y := (⟨"com/example/grace_period/graceperiod/core/Hold$State", "isOpen", "()Z"⟩ : MethodName)) (z := (⟨"com/example/grace_period/graceperiod/core/Hold$State", "isOpen", "()Z"⟩ : MethodName)) hown (mvT hZ (hw _ (List.mem_of_getElem? (i := 7) rfl))) (mvT hZ (hw _ (List.mem_of_getElem? (i := 8) rfl))) (notFace_of_selects (args := #[]) (mvT hZ (hw _ (List.mem_of_getElem? (i := 10) rfl)))) (mvT hZ (hw _ (List.mem_of_getElem? (i := 10) rfl))) (mvT hZ (hw _ (List.mem_of_getElem? (i := 9) rfl))) (by decide) (backOf (W := 0) (own_m2 l Z a0 hw [] w_CANCELLED w_WAITING w_ON_HOLD_SHELF h0 n0 Z0 S_WAITING S_ON_HOLD_SHELF) hZ (hw _ (List.mem_of_getElem? (i := 11) rfl)) (hw _ (List.mem_of_getElem? (i := 5) rfl)) (by decide) (by decide)) q105a q105c (g := (mkF m 48 #[.val (.int p1), .val (.int (p1 &&& (3 : Int32))), .val (.ref w_CANCELLED), .val (.int (0 : Int32)), .val (.int (0 : Int32)), .val (.int (0 : Int32))] [(.ref w_CANCELLED)])) rfl (by rw [hml]; rfl) (Steps.refl _) (argsL := []) (rest := []) (lenOf own_pd1 rfl) rfl (by show 2 * 0 + _ ≤ _; exact Nat.le_of_eq rfl) (hb hby at_48) (fun _ _ => ⟨rfl, e86, (by decide : 0 + 0 ≤ _), (by decide : 0 + 0 ≤ _)⟩)
        dsimp only [Pt.U, Pt.locs, Pt.cells, Pt.slots] at X105 l105 y105 z105 st105 hQ105
        subst l105 y105 z105
        rw [show own_f2 w_CANCELLED w_WAITING w_ON_HOLD_SHELF = (0 : Int32) from by unfold own_f2; rw [if_neg (show ¬ (w_CANCELLED = w_WAITING) from (fun q => ne_WAITING_CANCELLED (Eq.symm q))), if_neg (show ¬ (w_CANCELLED = w_ON_HOLD_SHELF) from (fun q => ne_ON_HOLD_SHELF_CANCELLED (Eq.symm q)))]] at hQ105
        obtain ⟨rfl, N105q, e105⟩ := hQ105
        have N105 := Fr.app N86 N105q
        have k106 : own_To p.tables e below (s₁.setTop (entryFrame m #[(.int p1)] maxLocals)) T105 (mkF m 51 #[.val (.int p1), .val (.int (p1 &&& (3 : Int32))), .val (.ref w_CANCELLED), .val (.int (0 : Int32)), .val (.int (0 : Int32)), .val (.int (0 : Int32))] [(.int (0 : Int32))]) := fun t k => k104 t (st105.trans k)
        have k107 : own_To p.tables e below (s₁.setTop (entryFrame m #[(.int p1)] maxLocals)) T105 (mkF m 53 #[.val (.int p1), .val (.int (p1 &&& (3 : Int32))), .val (.ref w_CANCELLED), .val (.int (0 : Int32)), .val (.int (0 : Int32)), .val (.int (0 : Int32))] [(.int (0 : Int32)), (.int (0 : Int32))]) := fun t k => k106 t (XS.iload X105.here hx rfl (hb hby at_51) rfl k)
        have k108 : own_To p.tables e below (s₁.setTop (entryFrame m #[(.int p1)] maxLocals)) T105 (mkF m 56 #[.val (.int p1), .val (.int (p1 &&& (3 : Int32))), .val (.ref w_CANCELLED), .val (.int (0 : Int32)), .val (.int (0 : Int32)), .val (.int (0 : Int32))] []) := fun t k => k107 t (XS.icmpNo X105.here hx rfl (hb hby at_53) rfl (teq (show (0 : Int32) = (0 : Int32) from (by decide))).2 k)
        have k109 : own_To p.tables e below (s₁.setTop (entryFrame m #[(.int p1)] maxLocals)) T105 (mkF m 57 #[.val (.int p1), .val (.int (p1 &&& (3 : Int32))), .val (.ref w_CANCELLED), .val (.int (0 : Int32)), .val (.int (0 : Int32)), .val (.int (0 : Int32))] [(.int (1 : Int32))]) := fun t k => k108 t (XS.iconst X105.here hx rfl (hb hby at_56) k)
        have k110 : own_To p.tables e below (s₁.setTop (entryFrame m #[(.int p1)] maxLocals)) T105 (mkF m 61 #[.val (.int p1), .val (.int (p1 &&& (3 : Int32))), .val (.ref w_CANCELLED), .val (.int (0 : Int32)), .val (.int (0 : Int32)), .val (.int (0 : Int32))] [(.int (1 : Int32))]) := fun t k => k109 t (XS.goto X105.here hx rfl (pc0 := 57) (pc' := 61) rfl (hb hby at_57) (by decide) (by decide) k)
        obtain ⟨fs, hr, hrun, hended, hW, hsame⟩ := X105.leave (v := some (.int (1 : Int32))) (fun h => by rw [Bd.returns] at h; cases h)
        refine ⟨_, _, k110 _ ?_, hrun, hended, _, _, rfl, ?_, ⟨_, rfl⟩, hW, hsame.mono (by decide) (by decide)⟩
        · exact retN X105 hx (t := .boolean) Bd.returns (by simp) (hb hby at_61) hr
        · exact ⟨rfl, N105⟩
set_option maxRecDepth 65536 in
set_option maxHeartbeats 40000000 in
theorem comes_1 {Post : Tables → Env → Array Value → State → Outcome → State → Prop} (hpost : ∀ tb e args s v u, (limb_1_1.after args s (.returned v) u = true ∧ limb_1_2.after args s (.returned v) u = true ∧ True) → FrameEnd s (.returned v) u (Jvm.fieldLocs frame_1_writes args s ++ Jvm.arrayLocs frame_1_arrays args s ++ Jvm.staticLocs frame_1_statics s) 0 0 → Post tb e args s (.returned v) u) :
    ArmFor flags0 classFile x code maxLocals ret World_1 tables_1 room_1 Calls_1 rest_1 Pre_1 Post := by
  intro l hfl _ _ p e ha hc hk s m args below hf hA hF happ hP
  obtain ⟨hcalls, hrest, hpre⟩ := hP
  obtain ⟨-, -, -, hnamed, -, -, -, hat⟩ := (Spec.applies_iff hf).mp happ
  obtain ⟨hg, hn⟩ := and_e (Cond.before_iff.mp (show (Jvm.Cond.and given_1 narrow_1).before args s = true from hpre))
  obtain ⟨hg1, hg2⟩ := and_e hg
  obtain ⟨w0, rfl⟩ : ∃ w0 : Value, args = #[w0] := by
    have hs : args.size = 1 := by simpa [Cond.value, given_1] using hg1
    obtain ⟨L⟩ := args
    match L, hs with
    | [w0], _ => exact ⟨w0, rfl⟩
  have hw := fun d (hd : d ∈ tables_1) => atoms_spec (ws := Jvm.Cond.code x code maxLocals ret :: tables_1) hat d (List.mem_cons_of_mem _ hd)
  have hfit : Fit s := fun {y c} hc i hi => by
    obtain ⟨ha, rfl⟩ := Array.getElem?_eq_some_iff.mp hc
    have q := List.all_eq_true.mp ((Array.all_eq_true_iff_forall_mem.mp hF) _ (Array.getElem_mem ha)) i (List.mem_range.mpr hi)
    simpa [Array.getElem?_eq_getElem hi] using q
  obtain ⟨i0, ei0⟩ := is_v hg2
  obtain rfl : w0 = (.int i0) := Option.some.inj ei0
  obtain ⟨hn1, hn2⟩ := and_e hn
  obtain ⟨hn3, hn4⟩ := and_e hn2
  obtain ⟨hn5, hn6⟩ := and_e hn4
  obtain ⟨hn7, hn8⟩ := and_e hn6
  obtain ⟨hn9, hn10⟩ := and_e hn8
  obtain ⟨hn11, hn12⟩ := and_e hn10
  obtain ⟨hn13, hn14⟩ := and_e hn12
  obtain ⟨x_WAITING, ev_WAITING⟩ := exa_v hn1
  have E_WAITING := Exa.start ev_WAITING hn1
  have S_WAITING := Sta.start ev_WAITING (Or.inr ⟨(hw _ (List.mem_of_getElem? (i := 5) rfl)), (hw _ (List.mem_of_getElem? (i := 6) rfl))⟩)
  obtain ⟨x_CANCELLED, ev_CANCELLED⟩ := exa_v hn3
  have E_CANCELLED := Exa.start ev_CANCELLED hn3
  have S_CANCELLED := Sta.start ev_CANCELLED (Or.inr ⟨(hw _ (List.mem_of_getElem? (i := 5) rfl)), (hw _ (List.mem_of_getElem? (i := 14) rfl))⟩)
  obtain ⟨x_ON_HOLD_SHELF, ev_ON_HOLD_SHELF⟩ := exa_v hn9
  have E_ON_HOLD_SHELF := Exa.start ev_ON_HOLD_SHELF hn9
  have S_ON_HOLD_SHELF := Sta.start ev_ON_HOLD_SHELF (Or.inr ⟨(hw _ (List.mem_of_getElem? (i := 5) rfl)), (hw _ (List.mem_of_getElem? (i := 16) rfl))⟩)
  obtain ⟨x_FULFILLED, ev_FULFILLED⟩ := exa_v hn13
  have E_FULFILLED := Exa.start ev_FULFILLED hn13
  have S_FULFILLED := Sta.start ev_FULFILLED (Or.inr ⟨(hw _ (List.mem_of_getElem? (i := 5) rfl)), (hw _ (List.mem_of_getElem? (i := 18) rfl))⟩)
  have F_CANCELLED := own_fldint ev_CANCELLED hn5
  have F_WAITING := own_fldint ev_WAITING hn7
  have F_ON_HOLD_SHELF := own_fldint ev_ON_HOLD_SHELF hn11
  have F_FULFILLED := own_fldint ev_FULFILLED hn14
  obtain ⟨n, o, h1, h2, h3, _, L, rfl, ⟨rfl, N⟩, hq⟩ := own_m0 l s _ hw tables_1 i0 x_WAITING x_ON_HOLD_SHELF x_FULFILLED x_CANCELLED s.heap s.heap.size (Nat.le_refl _) S_WAITING S_ON_HOLD_SHELF S_FULFILLED S_CANCELLED E_WAITING E_ON_HOLD_SHELF E_FULFILLED E_CANCELLED (Fld.ne F_WAITING F_ON_HOLD_SHELF (fun q => absurd (Value.int.inj q) (by decide))) (Fld.ne F_WAITING F_FULFILLED (fun q => absurd (Value.int.inj q) (by decide))) (Fld.ne F_WAITING F_CANCELLED (fun q => absurd (Value.int.inj q) (by decide))) (Fld.ne F_ON_HOLD_SHELF F_FULFILLED (fun q => absurd (Value.int.inj q) (by decide))) (Fld.ne F_ON_HOLD_SHELF F_CANCELLED (fun q => absurd (Value.int.inj q) (by decide))) (Fld.ne F_FULFILLED F_CANCELLED (fun q => absurd (Value.int.inj q) (by decide))) p e ha hc hk s m _ below hf ((Spec.applies_iff_loose hf).mp happ).1 ⟨rfl, State.Warmed39.refl s, rfl⟩ trivial
  refine ⟨n, _, h1, h2, h3, hpost _ _ _ _ _ _ ⟨Cond.after_iff.mpr rfl, Cond.after_iff.mpr (eq_i res_at (Term.int_eval (1)) rfl), trivial⟩ ⟨hq.1, hq.2.1, (hq.2.2.sift fun y hy => Or.inr (N y hy)).mono (by decide) (by decide)⟩⟩
theorem main_1_1 : Claimed_1_1 := comes_1 fun _ _ _ _ _ _ h hF => ⟨h.1, hF⟩
theorem main_1_2 : Claimed_1_2 := comes_1 fun _ _ _ _ _ _ h hF => ⟨h.2.1, hF⟩
end Jvm.Pilot.@@N@@
namespace Jvm.Pilot.@@N@@
open Jvm Jvm.ClassFile Sem Op Lib Jvm.Free Jvm.Stand Jvm.Pilot.@@N@@.Jvm.D
/-! MADE BY PROGRAM (witnessworld.py) out of the Statement's table words and the real class files: 10 classes; the members and pool entries that the words name. The judged class is class 1, her method 2. -/
namespace start1
open Jvm.ClassFile
def u (s : String) : CpInfo := .utf8 (stringToUtf16 s)
/-- a pool by its gaps: so many unusable entries, then the entry; so many at the end -/
def gap : Nat → List CpInfo → List CpInfo
  | 0, r => r
  | n + 1, r => .unusable :: gap n r
def poolList (es : List (Nat × CpInfo)) (last : Nat) : List CpInfo := es.foldr (fun e r => gap e.1 (e.2 :: r)) (gap last [])
def pool (es : List (Nat × CpInfo)) (last : Nat) : Array CpInfo := ⟨poolList es last⟩
def fileOf (pool : Array CpInfo) (this : Nat) (attrs : Array Attribute := #[]) (ms : Array MethodInfo := #[]) (fl : Nat := 33) (sup : Nat := 0) (ifs : Array Nat := #[]) (fds : Array FieldInfo := #[]) : ClassFile where
  minorVersion := 0
  majorVersion := 65
  constantPool := pool
  accessFlags := fl
  thisClass := this
  superClass := sup
  interfaces := ifs
  fields := fds
  methods := ms
  attributes := attrs
def plain (name : String) (sup : Option ClassId) : Class where
  name := name
  kind := .ordinary
  loader := none
  accessFlags := 33
  super := sup
  interfaces := #[]
  cf := none
  fields := #[]
  methods := #[]
  instanceTypes := #[]
  staticTypes := #[]
  resolved := #[]
  callSites := []
  init := .initialized
  statics := none
  mirror := none

def pool0 : Array CpInfo := pool [(5, u "<init>"), (0, u "()V"), (1, .class_ 10), (1, u "java/lang/Object")] 113

def k0m0 : Method := { name := "<init>", desc := "()V", sig := { parameters := [], returnType := none }, accessFlags := 1, code := none }
/-- java/lang/Object -/
def k0 : Class := { plain "java/lang/Object" none with
  accessFlags := 33
  interfaces := #[]
  cf := some (fileOf pool0 8 #[] #[{ accessFlags := 1, nameIndex := 5, descriptorIndex := 6, attributes := #[] }] 33 0 #[] #[])
  fields := #[]
  methods := #[k0m0]
  instanceTypes := #[]
  staticTypes := #[]
  resolved := Array.replicate 124 none
  statics := none }

def pool1 : Array CpInfo := pool [(2, .class_ 4), (1, u "java/lang/Object"), (0, u "<init>"), (0, u "()V"), (0, .fieldref 8 9), (0, .class_ 10), (0, .nameAndType 11 12), (0, u "com/example/grace_period/graceperiod/core/Hold$State"), (0, u "WAITING"), (0, u "Lcom/example/grace_period/graceperiod/core/Hold$State;"), (0, .fieldref 8 14), (0, .nameAndType 15 12), (0, u "ON_HOLD_SHELF"), (0, .fieldref 8 17), (0, .nameAndType 18 12), (0, u "FULFILLED"), (0, .fieldref 8 20), (0, .nameAndType 21 12), (0, u "CANCELLED"), (0, .methodref 23 24), (0, .class_ 25), (0, .nameAndType 26 27), (0, u "com/example/grace_period/graceperiod/core/StateIsOpenPinLaw"), (0, u "pick"), (0, u "(I)Lcom/example/grace_period/graceperiod/core/Hold$State;"), (0, .methodref 8 29), (0, .nameAndType 30 31), (0, u "isOpen"), (0, u "()Z"), (3, u "law"), (0, u "(I)Z")] 6

def k1m0 : Method := { name := "<init>", desc := "()V", sig := { parameters := [], returnType := none }, accessFlags := 2, code := none }
def k1c1 : Code := { maxStack := 2, maxLocals := 1, code := method_2_code, exceptionTable := #[], attributes := #[] }
def k1m1 : Method := { name := "pick", desc := "(I)Lcom/example/grace_period/graceperiod/core/Hold$State;", sig := { parameters := [.int], returnType := some (.object "com/example/grace_period/graceperiod/core/Hold$State") }, accessFlags := 10, code := some k1c1 }
def k1c2 : Code := { maxStack := 2, maxLocals := 6, code := code, exceptionTable := #[], attributes := #[] }
def k1m2 : Method := { name := "law", desc := "(I)Z", sig := { parameters := [.int], returnType := some .boolean }, accessFlags := 9, code := some k1c2 }
/-- com/example/grace_period/graceperiod/core/StateIsOpenPinLaw -/
def k1 : Class := { plain "com/example/grace_period/graceperiod/core/StateIsOpenPinLaw" (some 0) with
  accessFlags := 49
  interfaces := #[]
  cf := some (fileOf pool1 23 #[] #[{ accessFlags := 2, nameIndex := 5, descriptorIndex := 6, attributes := #[] }, { accessFlags := 10, nameIndex := 26, descriptorIndex := 27, attributes := #[] }, { accessFlags := 9, nameIndex := 35, descriptorIndex := 36, attributes := #[] }] 49 2 #[] #[])
  fields := #[]
  methods := #[k1m0, k1m1, k1m2]
  instanceTypes := #[]
  staticTypes := #[]
  resolved := Array.replicate 43 none
  statics := none }

def pool2 : Array CpInfo := pool [(1, .class_ 2), (0, u "java/lang/constant/Constable"), (0, .class_ 4), (0, u "java/lang/Object")] 6

/-- java/lang/constant/Constable -/
def k2 : Class := { plain "java/lang/constant/Constable" (some 0) with
  accessFlags := 1537
  interfaces := #[]
  cf := some (fileOf pool2 1 #[] #[] 1537 3 #[] #[])
  fields := #[]
  methods := #[]
  instanceTypes := #[]
  staticTypes := #[]
  resolved := Array.replicate 11 none
  statics := none }

def pool3 : Array CpInfo := pool [(1, .class_ 2), (0, u "java/lang/Comparable"), (0, .class_ 4), (0, u "java/lang/Object")] 7

/-- java/lang/Comparable -/
def k3 : Class := { plain "java/lang/Comparable" (some 0) with
  accessFlags := 1537
  interfaces := #[]
  cf := some (fileOf pool3 1 #[] #[] 1537 3 #[] #[])
  fields := #[]
  methods := #[]
  instanceTypes := #[]
  staticTypes := #[]
  resolved := Array.replicate 12 none
  statics := none }

def pool4 : Array CpInfo := pool [(1, .class_ 2), (0, u "java/io/Serializable"), (0, .class_ 4), (0, u "java/lang/Object")] 2

/-- java/io/Serializable -/
def k4 : Class := { plain "java/io/Serializable" (some 0) with
  accessFlags := 1537
  interfaces := #[]
  cf := some (fileOf pool4 1 #[] #[] 1537 3 #[] #[])
  fields := #[]
  methods := #[]
  instanceTypes := #[]
  staticTypes := #[]
  resolved := Array.replicate 7 none
  statics := none }

def pool5 : Array CpInfo := pool [(2, .class_ 4), (1, u "java/lang/Enum"), (0, u "name"), (0, u "Ljava/lang/String;"), (2, u "ordinal"), (0, u "I"), (1, .class_ 14), (1, u "java/lang/Object"), (4, u "hash"), (86, .class_ 108), (1, u "java/lang/Enum$EnumDesc"), (2, .class_ 112), (0, u "java/lang/constant/Constable"), (0, .class_ 114), (0, u "java/lang/Comparable"), (0, .class_ 116), (0, u "java/io/Serializable")] 87

/-- java/lang/Enum -/
def k5 : Class := { plain "java/lang/Enum" (some 0) with
  accessFlags := 1057
  interfaces := #[2, 3, 4]
  cf := some (fileOf pool5 2 #[.nestMembers #[106]] #[] 1057 12 #[111, 113, 115] #[{ accessFlags := 18, nameIndex := 5, descriptorIndex := 6, attributes := #[] }, { accessFlags := 18, nameIndex := 9, descriptorIndex := 10, attributes := #[] }, { accessFlags := 2, nameIndex := 19, descriptorIndex := 10, attributes := #[] }])
  fields := #[{ name := "name", type := (.object "java/lang/String"), accessFlags := 18, slot := 0, constantValue := 0 }, { name := "ordinal", type := .int, accessFlags := 18, slot := 1, constantValue := 0 }, { name := "hash", type := .int, accessFlags := 2, slot := 2, constantValue := 0 }]
  methods := #[]
  instanceTypes := #[(.object "java/lang/String"), .int, .int]
  staticTypes := #[]
  resolved := Array.replicate 204 none
  statics := none }

def pool6 : Array CpInfo := pool [(1, .class_ 2), (0, u "com/example/grace_period/graceperiod/core/Hold$State"), (0, .fieldref 1 4), (0, .nameAndType 5 6), (0, u "WAITING"), (0, u "Lcom/example/grace_period/graceperiod/core/Hold$State;"), (0, .fieldref 1 8), (0, .nameAndType 9 6), (0, u "ON_HOLD_SHELF"), (2, u "FULFILLED"), (2, u "CANCELLED"), (2, u "$VALUES"), (0, u "[Lcom/example/grace_period/graceperiod/core/Hold$State;"), (6, .class_ 28), (1, u "java/lang/Enum"), (22, u "isOpen"), (0, u "()Z"), (6, .class_ 60), (0, u "com/example/grace_period/graceperiod/core/Hold")] 2

def k6c0 : Code := { maxStack := 2, maxLocals := 1, code := prog_15_method_4_code, exceptionTable := #[], attributes := #[] }
def k6m0 : Method := { name := "isOpen", desc := "()Z", sig := { parameters := [], returnType := some .boolean }, accessFlags := 1, code := some k6c0 }
/-- com/example/grace_period/graceperiod/core/Hold$State -/
def k6 : Class := { plain "com/example/grace_period/graceperiod/core/Hold$State" (some 5) with
  accessFlags := 16433
  interfaces := #[]
  cf := some (fileOf pool6 1 #[.nestHost 59] #[{ accessFlags := 1, nameIndex := 51, descriptorIndex := 52, attributes := #[] }] 16433 26 #[] #[{ accessFlags := 16409, nameIndex := 5, descriptorIndex := 6, attributes := #[] }, { accessFlags := 16409, nameIndex := 9, descriptorIndex := 6, attributes := #[] }, { accessFlags := 16409, nameIndex := 12, descriptorIndex := 6, attributes := #[] }, { accessFlags := 16409, nameIndex := 15, descriptorIndex := 6, attributes := #[] }, { accessFlags := 4122, nameIndex := 18, descriptorIndex := 19, attributes := #[] }])
  fields := #[{ name := "WAITING", type := (.object "com/example/grace_period/graceperiod/core/Hold$State"), accessFlags := 16409, slot := 0, constantValue := 0 }, { name := "ON_HOLD_SHELF", type := (.object "com/example/grace_period/graceperiod/core/Hold$State"), accessFlags := 16409, slot := 1, constantValue := 0 }, { name := "FULFILLED", type := (.object "com/example/grace_period/graceperiod/core/Hold$State"), accessFlags := 16409, slot := 2, constantValue := 0 }, { name := "CANCELLED", type := (.object "com/example/grace_period/graceperiod/core/Hold$State"), accessFlags := 16409, slot := 3, constantValue := 0 }, { name := "$VALUES", type := (.array (.object "com/example/grace_period/graceperiod/core/Hold$State")), accessFlags := 4122, slot := 4, constantValue := 0 }]
  methods := #[k6m0]
  instanceTypes := #[(.object "java/lang/String"), .int, .int]
  staticTypes := #[(.object "com/example/grace_period/graceperiod/core/Hold$State"), (.object "com/example/grace_period/graceperiod/core/Hold$State"), (.object "com/example/grace_period/graceperiod/core/Hold$State"), (.object "com/example/grace_period/graceperiod/core/Hold$State"), (.array (.object "com/example/grace_period/graceperiod/core/Hold$State"))]
  resolved := Array.replicate 63 none
  statics := some 0 }

def pool7 : Array CpInfo := pool [(1, u "java/lang/Cloneable"), (0, .class_ 1), (0, u "java/lang/Object"), (0, .class_ 3)] 3

/-- java/lang/Cloneable -/
def k7 : Class := { plain "java/lang/Cloneable" (some 0) with
  accessFlags := 1537
  interfaces := #[]
  cf := some (fileOf pool7 2 #[] #[] 1537 4 #[] #[])
  fields := #[]
  methods := #[]
  instanceTypes := #[]
  staticTypes := #[]
  resolved := Array.replicate 8 none
  statics := none }

/-- the primitive byte -/
def k8 : Class := { plain "byte" none with kind := .primitive 'B', accessFlags := 0x411 }
/-- [B -/
def k9 : Class := { plain "[B" (some 0) with kind := .array 8 .byte, interfaces := #[7, 4], accessFlags := 1041 }

def heap : Heap := #[{ cls := 6, slots := #[.ref 1, .ref 3, .ref 4, .ref 2, .null], vm := .statics 6 },
  { cls := 6, slots := #[.null, .int 0, .int 0], vm := .none },
  { cls := 6, slots := #[.null, .int 3, .int 0], vm := .none },
  { cls := 6, slots := #[.null, .int 1, .int 0], vm := .none },
  { cls := 6, slots := #[.null, .int 2, .int 0], vm := .none }]
def classes : Array Class := #[k0, k1, k2, k3, k4, k5, k6, k7, k8, k9]
def interned : List (Array UInt16 × Addr) := []
def slotsUsed : Nat := 17
def theMethod : MethodId := ⟨1, 2⟩
def args0 : Array Value := #[.int 5]
def aboutOver (below : List Frame) : State where
  vm := { classes := classes, interned := interned.toArray }
  heap := heap
  slotsUsed := slotsUsed
  threads := #[{ frames := .invoking theMethod args0 :: below }]
def below0 : List Frame := [.native { method := ⟨0, 0⟩, args := #[] }]
def about1 : State := aboutOver below0
def p0 : Program := .bare "" "" ""
def e0 : Env := launch0.env 0 0 0
theorem w_frames : about1.frames = Frame.invoking theMethod args0 :: below0 := rfl
set_option maxRecDepth 65536 in
theorem w_args : argsFit about1.vm theMethod args0 = true := by decide +kernel
set_option maxRecDepth 65536 in
theorem w_heap : heapFits about1 = true := by decide +kernel
set_option maxRecDepth 65536 in
theorem w_runnable : about1.curStatus? = some .runnable := by decide +kernel
set_option maxRecDepth 65536 in
theorem w_alone : about1.alone = true := by decide +kernel
set_option maxRecDepth 65536 in
theorem w_named : about1.methodNamed? x = some theMethod := by decide +kernel
set_option maxRecDepth 65536 in
theorem w_hears : about1.hears theMethod below0 = true := by decide +kernel
set_option maxRecDepth 65536 in
theorem w_ripe : about1.ripe theMethod args0 below0 = true := by decide +kernel
theorem w_running : about1.status = .running := rfl
set_option maxRecDepth 65536 in
theorem w_room : about1.hasRoom e0.platform room_1 = true :=
  launch0.hasRoom_least _ room_1 (by decide +kernel) (by decide +kernel) (by decide +kernel) (by decide +kernel) (by decide +kernel) (by decide +kernel)
theorem allAtoms_all (ts : List Jvm.Cond) (a : Array Jvm.Value) (st : Jvm.State) : (allAtoms ts).before a st = ts.all (fun c => c.before a st) := by
  induction ts with
  | nil => rfl
  | cons c t ih =>
    show (Jvm.Cond.and c (allAtoms t)).before a st = _
    rw [Jvm.Cond.before_and, ih, List.all_cons]
def words1 : List Jvm.Cond := Jvm.Cond.code x code maxLocals ret :: tables_1
/-- a 'code' word, met by the world's own term for the bytes: nothing is compared byte by byte -/
theorem code_word {y : MethodName} {bytes : ByteArray} {mx : Nat} {rt : Option FieldType} {a : Array Value} {s : State} {m : MethodId} {meth : Method} {c : Code} (h1 : s.methodNamed? y = some m) (h2 : s.vm.method? m = some meth) (h3 : meth.code = some c) (h4 : c.code = bytes)
    (h5 : (c.maxLocals == mx && c.exceptionTable.isEmpty && decide (c.maxStack ≤ mostOperands) && decide (meth.sig.returnType = rt) && !meth.locks && decide (parseMethodDescriptor y.desc = some meth.sig)) = true) : (Jvm.Cond.code y bytes mx rt).before a s = true := by
  simp only [Bool.and_eq_true, beq_iff_eq, Bool.not_eq_true', decide_eq_true_eq] at h5
  obtain ⟨⟨⟨⟨⟨g1, g2⟩, g3⟩, g4⟩, g5⟩, g6⟩ := h5
  simp [Cond.before, Cond.holds, Cond.value, h1, h2, h3, h4, g1, g2, g3, g4, g5, g6]
def isCode : Jvm.Cond → Bool
  | .code _ _ _ _ => true
  | _ => false
theorem all_split {L : List Jvm.Cond} {P : Jvm.Cond → Bool} (h1 : L.all (fun c => isCode c || P c) = true) (h2 : ∀ c ∈ L.filter isCode, P c = true) : L.all P = true := by
  refine List.all_eq_true.mpr fun c hc => ?_
  have h := List.all_eq_true.mp h1 c hc
  rcases Bool.eq_false_or_eq_true (isCode c) with hi | hi
  · exact h2 c (List.mem_filter.mpr ⟨hc, hi⟩)
  · simpa [hi] using h
set_option maxRecDepth 65536 in
theorem w_c0 : (Jvm.Cond.code x code maxLocals ret).before args0 about1 = true := code_word (m := ⟨1, 2⟩) (meth := k1m2) (c := k1c2) (by decide +kernel) rfl rfl rfl (by decide +kernel)
set_option maxRecDepth 65536 in
theorem w_c1 : (Jvm.Cond.code ({ cls := "com/example/grace_period/graceperiod/core/StateIsOpenPinLaw", name := "pick", desc := "(I)Lcom/example/grace_period/graceperiod/core/Hold$State;" } : Jvm.MethodName) method_2_code (1 : Nat) (Option.some (Jvm.ClassFile.FieldType.object "com/example/grace_period/graceperiod/core/Hold$State"))).before args0 about1 = true := code_word (m := ⟨1, 1⟩) (meth := k1m1) (c := k1c1) (by decide +kernel) rfl rfl rfl (by decide +kernel)
set_option maxRecDepth 65536 in
theorem w_c2 : (Jvm.Cond.code ({ cls := "com/example/grace_period/graceperiod/core/Hold$State", name := "isOpen", desc := "()Z" } : Jvm.MethodName) prog_15_method_4_code (1 : Nat) (Option.some Jvm.ClassFile.FieldType.boolean)).before args0 about1 = true := code_word (m := ⟨6, 0⟩) (meth := k6m0) (c := k6c0) (by decide +kernel) rfl rfl rfl (by decide +kernel)
def codes1 : List Jvm.Cond := [Jvm.Cond.code x code maxLocals ret, Jvm.Cond.code ({ cls := "com/example/grace_period/graceperiod/core/StateIsOpenPinLaw", name := "pick", desc := "(I)Lcom/example/grace_period/graceperiod/core/Hold$State;" } : Jvm.MethodName) method_2_code (1 : Nat) (Option.some (Jvm.ClassFile.FieldType.object "com/example/grace_period/graceperiod/core/Hold$State")), Jvm.Cond.code ({ cls := "com/example/grace_period/graceperiod/core/Hold$State", name := "isOpen", desc := "()Z" } : Jvm.MethodName) prog_15_method_4_code (1 : Nat) (Option.some Jvm.ClassFile.FieldType.boolean)]
set_option maxRecDepth 65536 in
theorem codes_eq : words1.filter isCode = codes1 := rfl
theorem w_codes : ∀ c ∈ words1.filter isCode, c.before args0 about1 = true := by
  rw [codes_eq]
  intro c hc
  simp only [codes1, List.mem_cons, List.not_mem_nil, or_false] at hc
  rcases hc with rfl | rfl | rfl
  · exact w_c0
  · exact w_c1
  · exact w_c2
set_option maxRecDepth 65536 in
theorem w_t1 : words1.all (fun c => isCode c || c.before args0 about1) = true := by decide +kernel
theorem w_tables : (allAtoms (Jvm.Cond.code x code maxLocals ret :: tables_1)).before args0 about1 = true := by
  rw [allAtoms_all]
  show words1.all (fun c => c.before args0 about1) = true
  refine all_split ?_ w_codes
  rw [w_t1]
set_option maxRecDepth 65536 in
theorem w_case : (Jvm.Cond.and given_1 narrow_1).before args0 about1 = true := by decide +kernel
theorem w_applies : (headSpec (Jvm.Cond.code x code maxLocals ret :: tables_1) room_1).applies x e0.platform about1 = true :=
  (Spec.applies_iff w_frames).mpr ⟨w_running, w_runnable, w_alone, w_named, w_hears, w_ripe, w_room, w_tables⟩
theorem atStart : AtStart classFile x code maxLocals ret World_1 tables_1 room_1 Calls_1 rest_1 Pre_1 launch0 p0 e0 about1 theMethod args0 below0 :=
  ⟨lists_1, trivial, launch0.admits_env _ _ _, launch0.least_env, fairChoices_fair.cas, fairChoices_fair.clock, w_frames, w_args, w_heap, w_applies, trivial, trivial, w_case⟩
end start1
theorem witness_1 : WitnessClaimed_1 := ⟨start1.p0, start1.e0, start1.about1, start1.theMethod, start1.args0, start1.below0, start1.atStart⟩
end Jvm.Pilot.@@N@@
