import JvmDerived
import JvmDerived.Pilot.@@N@@Statement
import JvmDerived.Pilot.@@N@@Code
set_option linter.unusedVariables false
set_option linter.unusedSimpArgs false
namespace Jvm.RoadKit
open Sem ClassFile Op Lib Jvm.Stand Jvm.Free Jvm.LawKit
section New
variable {p : Program} {l : Launch} {e : Env} {R : Room} {s : State} {m : MethodId} {args : Array Value} {below : List Frame} {meth : Method} {c : Code} {T : State} {locs : List Loc} {cells slots : Nat}
theorem retI (X : Stand p l e R s m args below meth c T locs cells slots) (hx : p.tables.exec = Jvm.exec) {pc : Nat} {Ls : Array Slot} {z : Int32} {rest : List Value} (hret : meth.sig.returnType = some .int) (hd : decode c.code pc = .ok (.ireturn, 1)) {fs : List Frame}
    (hl : ∀ (f : JFrame) (acts : List Action), f.method = m → f.locked = none → f.entered = [] → (doReturn e (T.setTop f) acts (some (.int z))).1 = T.setFrames fs) : Steps p.tables e below (T.setTop (mkF m pc Ls (.int z :: rest))) (T.setFrames fs) := by
  have hm' : T.vm.method? m = some meth := X.method'
  have hn : narrow .int (.int z) = .int z := rfl
  show Steps p.tables e below (T.setTop { method := m, pc := pc, locals := Ls, stack := _ :: rest, locked := none }) _
  jvm_step X.here [X.here.top, hx, hd, hm', hret, hn]
  first | (intro acts; rw [hl _ acts rfl rfl rfl]) | rw [hl _ _ rfl rfl rfl]
  exact Steps.refl _
end New
end Jvm.RoadKit
namespace Jvm.Pilot.@@N@@
open Jvm Jvm.ClassFile Sem Op Lib Jvm.Free Jvm.Stand Jvm.LawKit Jvm.RoadKit Bundle Jvm.Pilot.@@N@@.Jvm.D
/-- the run comes from A to the state U with the frame g on top -/
def own_To (tb : Tables) (e : Env) (below : List Frame) (A U : State) (g : JFrame) : Prop := ∀ t, Steps tb e below (U.setTop g) t → Steps tb e below A t
/-- what a body that writes nothing leaves -/
def own_Q (r : Option Value) (h0 : Heap) (n0 : Nat) (v : Option Value) (h : Heap) (L : List Loc) : Prop := v = r ∧ Fr n0 L ∧ h = h0
theorem own_fldint {args : Array Value} {Z : State} {t : Term} {x : Addr} {C n d : String} {k : Int32} (ht : t.eval args Z none [] Z = some (.ref x)) (h : (Jvm.Cond.eq (.field t C n d) (.int k)).value args Z none Z [] = some true) : Fld Z Z.heap x C n d (.int k) := by
  apply Fld.start
  obtain ⟨u, v, h1, h2, k1, -⟩ := cmp_v (Or.inl h)
  have e2 : v = .int k := (Option.some.inj (h2.symm.trans (Term.int_eval k)))
  subst e2
  cases u with
  | int z => rw [← fld_at ht, h1]; have := gotT (Cond.eq_ints h1 h2) h; rw [this]
  | long z => obtain ⟨_, q⟩ := k1; cases q
  | float z => obtain ⟨_, q⟩ := k1; cases q
  | double z => obtain ⟨_, q⟩ := k1; cases q
  | ref z => exact absurd k1.2 (by simp [Value.isRef])
  | null => exact absurd k1.2 (by simp [Value.isRef])
  | retAddr z => exact absurd k1.2 (by simp [Value.isRef])
theorem own_rem3 (x : Int32) (h0 : ¬ (((x &&& (2147483647 : Int32)) % (3 : Int32)) = (0 : Int32))) (h1 : ¬ (((x &&& (2147483647 : Int32)) % (3 : Int32)) = (1 : Int32))) : ((x &&& (2147483647 : Int32)) % (3 : Int32)) = (2 : Int32) := by
  have e : (x &&& (2147483647 : Int32)).toInt = x.toInt % (2 ^ 31 : Nat) := c_mask x 2147483647 31 (by decide) (by decide)
  have h1 : ((2 ^ 31 : Nat) : Int) = 2147483648 := rfl
  rw [h1] at e
  have r := (c_irem (x &&& (2147483647 : Int32)) (3 : Int32) 3 (by decide)).1 (by omega)
  skip
  simp only [← Int32.toInt_inj] at *
  have c0 : (0 : Int32).toInt = 0 := by decide
  have c1 : (1 : Int32).toInt = 1 := by decide
  have c2 : (2 : Int32).toInt = 2 := by decide
  omega
theorem own_d1_0 : decode method_2_code 0 = .ok (.iload_n 0, 1) := by decide +kernel
theorem own_d1_1 : decode method_2_code 1 = .ok (.ifCond .ne 7, 3) := by decide +kernel
theorem own_d1_4 : decode method_2_code 4 = .ok (.getstatic 7, 3) := by decide +kernel
theorem own_d1_7 : decode method_2_code 7 = .ok (.areturn, 1) := by decide +kernel
theorem own_d1_8 : decode method_2_code 8 = .ok (.iload_n 0, 1) := by decide +kernel
theorem own_d1_9 : decode method_2_code 9 = .ok (.iconst 1, 1) := by decide +kernel
theorem own_d1_10 : decode method_2_code 10 = .ok (.if_icmp .ne 7, 3) := by decide +kernel
theorem own_d1_13 : decode method_2_code 13 = .ok (.getstatic 13, 3) := by decide +kernel
theorem own_d1_16 : decode method_2_code 16 = .ok (.areturn, 1) := by decide +kernel
theorem own_d1_17 : decode method_2_code 17 = .ok (.iload_n 0, 1) := by decide +kernel
theorem own_d1_18 : decode method_2_code 18 = .ok (.iconst 2, 1) := by decide +kernel
theorem own_d1_19 : decode method_2_code 19 = .ok (.if_icmp .ne 7, 3) := by decide +kernel
theorem own_d1_22 : decode method_2_code 22 = .ok (.getstatic 16, 3) := by decide +kernel
theorem own_d1_25 : decode method_2_code 25 = .ok (.areturn, 1) := by decide +kernel
theorem own_d1_26 : decode method_2_code 26 = .ok (.iload_n 0, 1) := by decide +kernel
theorem own_d1_27 : decode method_2_code 27 = .ok (.iconst 3, 1) := by decide +kernel
theorem own_d1_28 : decode method_2_code 28 = .ok (.if_icmp .ne 7, 3) := by decide +kernel
theorem own_d1_31 : decode method_2_code 31 = .ok (.getstatic 19, 3) := by decide +kernel
theorem own_d1_34 : decode method_2_code 34 = .ok (.areturn, 1) := by decide +kernel
theorem own_d1_35 : decode method_2_code 35 = .ok (.iload_n 0, 1) := by decide +kernel
theorem own_d1_36 : decode method_2_code 36 = .ok (.iconst 4, 1) := by decide +kernel
theorem own_d1_37 : decode method_2_code 37 = .ok (.if_icmp .ne 7, 3) := by decide +kernel
theorem own_d1_40 : decode method_2_code 40 = .ok (.getstatic 22, 3) := by decide +kernel
theorem own_d1_43 : decode method_2_code 43 = .ok (.areturn, 1) := by decide +kernel
theorem own_d1_44 : decode method_2_code 44 = .ok (.iload_n 0, 1) := by decide +kernel
theorem own_d1_45 : decode method_2_code 45 = .ok (.iconst 5, 1) := by decide +kernel
theorem own_d1_46 : decode method_2_code 46 = .ok (.if_icmp .ne 7, 3) := by decide +kernel
theorem own_d1_49 : decode method_2_code 49 = .ok (.getstatic 25, 3) := by decide +kernel
theorem own_d1_52 : decode method_2_code 52 = .ok (.areturn, 1) := by decide +kernel
theorem own_d1_53 : decode method_2_code 53 = .ok (.iload_n 0, 1) := by decide +kernel
theorem own_d1_54 : decode method_2_code 54 = .ok (.bipush 6, 2) := by decide +kernel
theorem own_d1_56 : decode method_2_code 56 = .ok (.if_icmp .ne 7, 3) := by decide +kernel
theorem own_d1_59 : decode method_2_code 59 = .ok (.getstatic 28, 3) := by decide +kernel
theorem own_d1_62 : decode method_2_code 62 = .ok (.areturn, 1) := by decide +kernel
theorem own_d1_63 : decode method_2_code 63 = .ok (.getstatic 31, 3) := by decide +kernel
theorem own_d1_66 : decode method_2_code 66 = .ok (.areturn, 1) := by decide +kernel
theorem own_ef1 (m : MethodId) (x0 : Int32) : entryFrame m #[(.int x0)] 1 = mkF m 0 #[.val (.int x0)] [] := by first | (simp [entryFrame, mkF, argsToLocals, Value.category]; done) | rfl
theorem own_pn1 : plainName "com/example/grace_period/graceperiod/core/LoanFieldIsOptionalPinLaw" = true := by first | (simp [plainName, overriddenIn]; done) | decide +kernel
def own_f1 (p1 : Int32) (w_ID : Addr) (w_PATRON_ID : Addr) (w_ITEM_ID : Addr) (w_START_DATE : Addr) (w_DUE_DATE : Addr) (w_END_DATE : Addr) (w_RENEWAL_COUNT : Addr) (w_HOLD_SHELVED_FOR : Addr) : Addr := (if p1 = (0 : Int32) then w_ID else (if p1 = (1 : Int32) then w_PATRON_ID else (if p1 = (2 : Int32) then w_ITEM_ID else (if p1 = (3 : Int32) then w_START_DATE else (if p1 = (4 : Int32) then w_DUE_DATE else (if p1 = (5 : Int32) then w_END_DATE else (if p1 = (6 : Int32) then w_RENEWAL_COUNT else w_HOLD_SHELVED_FOR)))))))
set_option maxRecDepth 65536 in
set_option maxHeartbeats 40000000 in
theorem own_m1 (l : Launch) (Z : State) (a0 : Array Value) (hw : ∀ d ∈ tables_1, d.before a0 Z = true) (ws : List Jvm.Cond) (p1 : Int32) (w_ID : Addr) (w_PATRON_ID : Addr) (w_ITEM_ID : Addr) (w_START_DATE : Addr) (w_DUE_DATE : Addr) (w_END_DATE : Addr) (w_RENEWAL_COUNT : Addr) (w_HOLD_SHELVED_FOR : Addr) (h0 : Heap) (n0 : Nat) (Z0 : n0 ≤ h0.size) (S_ID : Sta Z h0 "com/example/grace_period/graceperiod/core/LoanField" "ID" "Lcom/example/grace_period/graceperiod/core/LoanField;" (.ref w_ID)) (S_PATRON_ID : Sta Z h0 "com/example/grace_period/graceperiod/core/LoanField" "PATRON_ID" "Lcom/example/grace_period/graceperiod/core/LoanField;" (.ref w_PATRON_ID)) (S_ITEM_ID : Sta Z h0 "com/example/grace_period/graceperiod/core/LoanField" "ITEM_ID" "Lcom/example/grace_period/graceperiod/core/LoanField;" (.ref w_ITEM_ID)) (S_START_DATE : Sta Z h0 "com/example/grace_period/graceperiod/core/LoanField" "START_DATE" "Lcom/example/grace_period/graceperiod/core/LoanField;" (.ref w_START_DATE)) (S_DUE_DATE : Sta Z h0 "com/example/grace_period/graceperiod/core/LoanField" "DUE_DATE" "Lcom/example/grace_period/graceperiod/core/LoanField;" (.ref w_DUE_DATE)) (S_END_DATE : Sta Z h0 "com/example/grace_period/graceperiod/core/LoanField" "END_DATE" "Lcom/example/grace_period/graceperiod/core/LoanField;" (.ref w_END_DATE)) (S_RENEWAL_COUNT : Sta Z h0 "com/example/grace_period/graceperiod/core/LoanField" "RENEWAL_COUNT" "Lcom/example/grace_period/graceperiod/core/LoanField;" (.ref w_RENEWAL_COUNT)) (S_HOLD_SHELVED_FOR : Sta Z h0 "com/example/grace_period/graceperiod/core/LoanField" "HOLD_SHELVED_FOR" "Lcom/example/grace_period/graceperiod/core/LoanField;" (.ref w_HOLD_SHELVED_FOR)) :
    MetFree l (⟨"com/example/grace_period/graceperiod/core/LoanFieldIsOptionalPinLaw", "pick", "(I)Lcom/example/grace_period/graceperiod/core/LoanField;"⟩ : MethodName) (head1 (Jvm.Cond.code (⟨"com/example/grace_period/graceperiod/core/LoanFieldIsOptionalPinLaw", "pick", "(I)Lcom/example/grace_period/graceperiod/core/LoanField;"⟩ : MethodName) method_2_code 1 (some (.object "com/example/grace_period/graceperiod/core/LoanField")) :: ws) ({ frames := 0, cells := 0, slots := 0, locals := 0 } : Room)) (fun a U => a = #[(.int p1)] ∧ Z.Warmed39 U.vm ∧ U.heap = h0) (fun _ _ _ _ _ => True) (fun _ U o U' => ∃ v L, o = .returned v ∧ own_Q (some (.ref (own_f1 p1 w_ID w_PATRON_ID w_ITEM_ID w_START_DATE w_DUE_DATE w_END_DATE w_RENEWAL_COUNT w_HOLD_SHELVED_FOR))) h0 n0 v U'.heap L ∧ FrameEnd U o U' L ({ frames := 0, cells := 0, slots := 0, locals := 0 } : Room).cells ({ frames := 0, cells := 0, slots := 0, locals := 0 } : Room).slots) := by
  refine MetFree.of_bodySF (plainFor_of_name own_pn1) hisR ?_
  intro p e s m args below meth c s₁ Bd hml0 hP hK
  obtain ⟨rfl, hZ, hh⟩ := hP
  have hx := Bd.exec
  have hby := Bd.bytes
  have hml : c.maxLocals = 1 := hml0
  have hown : s.vm.findClass "com/example/grace_period/graceperiod/core/LoanFieldIsOptionalPinLaw" = some m.cls := findClass_of_methodNamed Bd.named
  have hnm := (name_of_methodNamed Bd.named Bd.method).1
  have X0 : Stand p l e ({ frames := 0, cells := 0, slots := 0, locals := 0 } : Room) s m #[(.int p1)] below meth c s₁ [] 0 0 := Stand.of_body Bd
  have e0 : s₁.heap = h0 := by rw [← hh, Bd.state]; rfl
  have N0 := Fr.nil n0
  have k0 : own_To p.tables e below (s₁.setTop (entryFrame m #[(.int p1)] 1)) s₁ (mkF m 0 #[.val (.int p1)] []) := fun t k => castTop (own_ef1 m p1) k
  have k1 : own_To p.tables e below (s₁.setTop (entryFrame m #[(.int p1)] 1)) s₁ (mkF m 1 #[.val (.int p1)] [(.int p1)]) := fun t k => k0 t (XS.iloadN X0.here hx rfl (hb hby own_d1_0) rfl k)
  by_cases hc2 : p1 = (0 : Int32)
  · have k3 : own_To p.tables e below (s₁.setTop (entryFrame m #[(.int p1)] 1)) s₁ (mkF m 4 #[.val (.int p1)] []) := fun t k => k1 t (XS.ifNo X0.here hx rfl (hb hby own_d1_1) rfl ((if0 _ _).trans (teq (show p1 = (0 : Int32) from hc2)).2) k)
    obtain ⟨T4, X4, e4, st4⟩ := getS2 X0 hx hZ hown (host := "") (Or.inl (hw _ (List.mem_of_getElem? (i := 4) rfl))) Via.refl e0 S_ID (g := (mkF m 4 #[.val (.int p1)] [])) rfl (hb hby own_d1_4)
    have k5 : own_To p.tables e below (s₁.setTop (entryFrame m #[(.int p1)] 1)) T4 (mkF m 7 #[.val (.int p1)] [(.ref w_ID)]) := fun t k => k3 t (st4 t k)
    obtain ⟨fs, hr, hrun, hended, hW, hsame⟩ := X4.leave (v := some (.ref w_ID)) (fun h => by rw [Bd.returns] at h; cases h)
    refine ⟨_, _, k5 _ ?_, hrun, hended, _, _, rfl, ?_, ⟨_, rfl⟩, hW, hsame.mono (by decide) (by decide)⟩
    · jvm_step X4.here [X4.here.top, hx, (hb hby own_d1_7), X4.method', Bd.returns, Value.isRef, FieldType.isReference]
      first | (intro acts; rw [hr _ acts rfl rfl rfl]) | rw [hr _ _ rfl rfl rfl]
      exact Steps.refl _
    · refine ⟨?_, N0, e4⟩
      rw [show (own_f1 p1 w_ID w_PATRON_ID w_ITEM_ID w_START_DATE w_DUE_DATE w_END_DATE w_RENEWAL_COUNT w_HOLD_SHELVED_FOR) = w_ID from by unfold own_f1; rw [if_pos hc2]]
  · have k6 : own_To p.tables e below (s₁.setTop (entryFrame m #[(.int p1)] 1)) s₁ (mkF m 8 #[.val (.int p1)] []) := fun t k => k1 t (XS.ifYes X0.here hx rfl (pc0 := 1) (pc' := 8) rfl (hb hby own_d1_1) rfl ((if0 _ _).trans (feq (show ¬ (p1 = (0 : Int32)) from hc2)).2) (by decide) (by decide) k)
    have k7 : own_To p.tables e below (s₁.setTop (entryFrame m #[(.int p1)] 1)) s₁ (mkF m 9 #[.val (.int p1)] [(.int p1)]) := fun t k => k6 t (XS.iloadN X0.here hx rfl (hb hby own_d1_8) rfl k)
    have k8 : own_To p.tables e below (s₁.setTop (entryFrame m #[(.int p1)] 1)) s₁ (mkF m 10 #[.val (.int p1)] [(.int (1 : Int32)), (.int p1)]) := fun t k => k7 t (XS.iconst X0.here hx rfl (hb hby own_d1_9) k)
    by_cases hc9 : p1 = (1 : Int32)
    · have k10 : own_To p.tables e below (s₁.setTop (entryFrame m #[(.int p1)] 1)) s₁ (mkF m 13 #[.val (.int p1)] []) := fun t k => k8 t (XS.icmpNo X0.here hx rfl (hb hby own_d1_10) rfl (teq (show p1 = (1 : Int32) from hc9)).2 k)
      obtain ⟨T11, X11, e11, st11⟩ := getS2 X0 hx hZ hown (host := "") (Or.inl (hw _ (List.mem_of_getElem? (i := 26) rfl))) Via.refl e0 S_PATRON_ID (g := (mkF m 13 #[.val (.int p1)] [])) rfl (hb hby own_d1_13)
      have k12 : own_To p.tables e below (s₁.setTop (entryFrame m #[(.int p1)] 1)) T11 (mkF m 16 #[.val (.int p1)] [(.ref w_PATRON_ID)]) := fun t k => k10 t (st11 t k)
      obtain ⟨fs, hr, hrun, hended, hW, hsame⟩ := X11.leave (v := some (.ref w_PATRON_ID)) (fun h => by rw [Bd.returns] at h; cases h)
      refine ⟨_, _, k12 _ ?_, hrun, hended, _, _, rfl, ?_, ⟨_, rfl⟩, hW, hsame.mono (by decide) (by decide)⟩
      · jvm_step X11.here [X11.here.top, hx, (hb hby own_d1_16), X11.method', Bd.returns, Value.isRef, FieldType.isReference]
        first | (intro acts; rw [hr _ acts rfl rfl rfl]) | rw [hr _ _ rfl rfl rfl]
        exact Steps.refl _
      · refine ⟨?_, N0, e11⟩
        rw [show (own_f1 p1 w_ID w_PATRON_ID w_ITEM_ID w_START_DATE w_DUE_DATE w_END_DATE w_RENEWAL_COUNT w_HOLD_SHELVED_FOR) = w_PATRON_ID from by unfold own_f1; rw [if_neg hc2, if_pos hc9]]
    · have k13 : own_To p.tables e below (s₁.setTop (entryFrame m #[(.int p1)] 1)) s₁ (mkF m 17 #[.val (.int p1)] []) := fun t k => k8 t (XS.icmpYes X0.here hx rfl (pc0 := 10) (pc' := 17) rfl (hb hby own_d1_10) rfl (feq (show ¬ (p1 = (1 : Int32)) from hc9)).2 (by decide) (by decide) k)
      have k14 : own_To p.tables e below (s₁.setTop (entryFrame m #[(.int p1)] 1)) s₁ (mkF m 18 #[.val (.int p1)] [(.int p1)]) := fun t k => k13 t (XS.iloadN X0.here hx rfl (hb hby own_d1_17) rfl k)
      have k15 : own_To p.tables e below (s₁.setTop (entryFrame m #[(.int p1)] 1)) s₁ (mkF m 19 #[.val (.int p1)] [(.int (2 : Int32)), (.int p1)]) := fun t k => k14 t (XS.iconst X0.here hx rfl (hb hby own_d1_18) k)
      by_cases hc16 : p1 = (2 : Int32)
      · have k17 : own_To p.tables e below (s₁.setTop (entryFrame m #[(.int p1)] 1)) s₁ (mkF m 22 #[.val (.int p1)] []) := fun t k => k15 t (XS.icmpNo X0.here hx rfl (hb hby own_d1_19) rfl (teq (show p1 = (2 : Int32) from hc16)).2 k)
        obtain ⟨T18, X18, e18, st18⟩ := getS2 X0 hx hZ hown (host := "") (Or.inl (hw _ (List.mem_of_getElem? (i := 24) rfl))) Via.refl e0 S_ITEM_ID (g := (mkF m 22 #[.val (.int p1)] [])) rfl (hb hby own_d1_22)
        have k19 : own_To p.tables e below (s₁.setTop (entryFrame m #[(.int p1)] 1)) T18 (mkF m 25 #[.val (.int p1)] [(.ref w_ITEM_ID)]) := fun t k => k17 t (st18 t k)
        obtain ⟨fs, hr, hrun, hended, hW, hsame⟩ := X18.leave (v := some (.ref w_ITEM_ID)) (fun h => by rw [Bd.returns] at h; cases h)
        refine ⟨_, _, k19 _ ?_, hrun, hended, _, _, rfl, ?_, ⟨_, rfl⟩, hW, hsame.mono (by decide) (by decide)⟩
        · jvm_step X18.here [X18.here.top, hx, (hb hby own_d1_25), X18.method', Bd.returns, Value.isRef, FieldType.isReference]
          first | (intro acts; rw [hr _ acts rfl rfl rfl]) | rw [hr _ _ rfl rfl rfl]
          exact Steps.refl _
        · refine ⟨?_, N0, e18⟩
          rw [show (own_f1 p1 w_ID w_PATRON_ID w_ITEM_ID w_START_DATE w_DUE_DATE w_END_DATE w_RENEWAL_COUNT w_HOLD_SHELVED_FOR) = w_ITEM_ID from by unfold own_f1; rw [if_neg hc2, if_neg hc9, if_pos hc16]]
      · have k20 : own_To p.tables e below (s₁.setTop (entryFrame m #[(.int p1)] 1)) s₁ (mkF m 26 #[.val (.int p1)] []) := fun t k => k15 t (XS.icmpYes X0.here hx rfl (pc0 := 19) (pc' := 26) rfl (hb hby own_d1_19) rfl (feq (show ¬ (p1 = (2 : Int32)) from hc16)).2 (by decide) (by decide) k)
        have k21 : own_To p.tables e below (s₁.setTop (entryFrame m #[(.int p1)] 1)) s₁ (mkF m 27 #[.val (.int p1)] [(.int p1)]) := fun t k => k20 t (XS.iloadN X0.here hx rfl (hb hby own_d1_26) rfl k)
        have k22 : own_To p.tables e below (s₁.setTop (entryFrame m #[(.int p1)] 1)) s₁ (mkF m 28 #[.val (.int p1)] [(.int (3 : Int32)), (.int p1)]) := fun t k => k21 t (XS.iconst X0.here hx rfl (hb hby own_d1_27) k)
        by_cases hc23 : p1 = (3 : Int32)
        · have k24 : own_To p.tables e below (s₁.setTop (entryFrame m #[(.int p1)] 1)) s₁ (mkF m 31 #[.val (.int p1)] []) := fun t k => k22 t (XS.icmpNo X0.here hx rfl (hb hby own_d1_28) rfl (teq (show p1 = (3 : Int32) from hc23)).2 k)
          obtain ⟨T25, X25, e25, st25⟩ := getS2 X0 hx hZ hown (host := "") (Or.inl (hw _ (List.mem_of_getElem? (i := 19) rfl))) Via.refl e0 S_START_DATE (g := (mkF m 31 #[.val (.int p1)] [])) rfl (hb hby own_d1_31)
          have k26 : own_To p.tables e below (s₁.setTop (entryFrame m #[(.int p1)] 1)) T25 (mkF m 34 #[.val (.int p1)] [(.ref w_START_DATE)]) := fun t k => k24 t (st25 t k)
          obtain ⟨fs, hr, hrun, hended, hW, hsame⟩ := X25.leave (v := some (.ref w_START_DATE)) (fun h => by rw [Bd.returns] at h; cases h)
          refine ⟨_, _, k26 _ ?_, hrun, hended, _, _, rfl, ?_, ⟨_, rfl⟩, hW, hsame.mono (by decide) (by decide)⟩
          · jvm_step X25.here [X25.here.top, hx, (hb hby own_d1_34), X25.method', Bd.returns, Value.isRef, FieldType.isReference]
            first | (intro acts; rw [hr _ acts rfl rfl rfl]) | rw [hr _ _ rfl rfl rfl]
            exact Steps.refl _
          · refine ⟨?_, N0, e25⟩
            rw [show (own_f1 p1 w_ID w_PATRON_ID w_ITEM_ID w_START_DATE w_DUE_DATE w_END_DATE w_RENEWAL_COUNT w_HOLD_SHELVED_FOR) = w_START_DATE from by unfold own_f1; rw [if_neg hc2, if_neg hc9, if_neg hc16, if_pos hc23]]
        · have k27 : own_To p.tables e below (s₁.setTop (entryFrame m #[(.int p1)] 1)) s₁ (mkF m 35 #[.val (.int p1)] []) := fun t k => k22 t (XS.icmpYes X0.here hx rfl (pc0 := 28) (pc' := 35) rfl (hb hby own_d1_28) rfl (feq (show ¬ (p1 = (3 : Int32)) from hc23)).2 (by decide) (by decide) k)
          have k28 : own_To p.tables e below (s₁.setTop (entryFrame m #[(.int p1)] 1)) s₁ (mkF m 36 #[.val (.int p1)] [(.int p1)]) := fun t k => k27 t (XS.iloadN X0.here hx rfl (hb hby own_d1_35) rfl k)
          have k29 : own_To p.tables e below (s₁.setTop (entryFrame m #[(.int p1)] 1)) s₁ (mkF m 37 #[.val (.int p1)] [(.int (4 : Int32)), (.int p1)]) := fun t k => k28 t (XS.iconst X0.here hx rfl (hb hby own_d1_36) k)
          by_cases hc30 : p1 = (4 : Int32)
          · have k31 : own_To p.tables e below (s₁.setTop (entryFrame m #[(.int p1)] 1)) s₁ (mkF m 40 #[.val (.int p1)] []) := fun t k => k29 t (XS.icmpNo X0.here hx rfl (hb hby own_d1_37) rfl (teq (show p1 = (4 : Int32) from hc30)).2 k)
            obtain ⟨T32, X32, e32, st32⟩ := getS2 X0 hx hZ hown (host := "") (Or.inl (hw _ (List.mem_of_getElem? (i := 28) rfl))) Via.refl e0 S_DUE_DATE (g := (mkF m 40 #[.val (.int p1)] [])) rfl (hb hby own_d1_40)
            have k33 : own_To p.tables e below (s₁.setTop (entryFrame m #[(.int p1)] 1)) T32 (mkF m 43 #[.val (.int p1)] [(.ref w_DUE_DATE)]) := fun t k => k31 t (st32 t k)
            obtain ⟨fs, hr, hrun, hended, hW, hsame⟩ := X32.leave (v := some (.ref w_DUE_DATE)) (fun h => by rw [Bd.returns] at h; cases h)
            refine ⟨_, _, k33 _ ?_, hrun, hended, _, _, rfl, ?_, ⟨_, rfl⟩, hW, hsame.mono (by decide) (by decide)⟩
            · jvm_step X32.here [X32.here.top, hx, (hb hby own_d1_43), X32.method', Bd.returns, Value.isRef, FieldType.isReference]
              first | (intro acts; rw [hr _ acts rfl rfl rfl]) | rw [hr _ _ rfl rfl rfl]
              exact Steps.refl _
            · refine ⟨?_, N0, e32⟩
              rw [show (own_f1 p1 w_ID w_PATRON_ID w_ITEM_ID w_START_DATE w_DUE_DATE w_END_DATE w_RENEWAL_COUNT w_HOLD_SHELVED_FOR) = w_DUE_DATE from by unfold own_f1; rw [if_neg hc2, if_neg hc9, if_neg hc16, if_neg hc23, if_pos hc30]]
          · have k34 : own_To p.tables e below (s₁.setTop (entryFrame m #[(.int p1)] 1)) s₁ (mkF m 44 #[.val (.int p1)] []) := fun t k => k29 t (XS.icmpYes X0.here hx rfl (pc0 := 37) (pc' := 44) rfl (hb hby own_d1_37) rfl (feq (show ¬ (p1 = (4 : Int32)) from hc30)).2 (by decide) (by decide) k)
            have k35 : own_To p.tables e below (s₁.setTop (entryFrame m #[(.int p1)] 1)) s₁ (mkF m 45 #[.val (.int p1)] [(.int p1)]) := fun t k => k34 t (XS.iloadN X0.here hx rfl (hb hby own_d1_44) rfl k)
            have k36 : own_To p.tables e below (s₁.setTop (entryFrame m #[(.int p1)] 1)) s₁ (mkF m 46 #[.val (.int p1)] [(.int (5 : Int32)), (.int p1)]) := fun t k => k35 t (XS.iconst X0.here hx rfl (hb hby own_d1_45) k)
            by_cases hc37 : p1 = (5 : Int32)
            · have k38 : own_To p.tables e below (s₁.setTop (entryFrame m #[(.int p1)] 1)) s₁ (mkF m 49 #[.val (.int p1)] []) := fun t k => k36 t (XS.icmpNo X0.here hx rfl (hb hby own_d1_46) rfl (teq (show p1 = (5 : Int32) from hc37)).2 k)
              obtain ⟨T39, X39, e39, st39⟩ := getS2 X0 hx hZ hown (host := "") (Or.inl (hw _ (List.mem_of_getElem? (i := 30) rfl))) Via.refl e0 S_END_DATE (g := (mkF m 49 #[.val (.int p1)] [])) rfl (hb hby own_d1_49)
              have k40 : own_To p.tables e below (s₁.setTop (entryFrame m #[(.int p1)] 1)) T39 (mkF m 52 #[.val (.int p1)] [(.ref w_END_DATE)]) := fun t k => k38 t (st39 t k)
              obtain ⟨fs, hr, hrun, hended, hW, hsame⟩ := X39.leave (v := some (.ref w_END_DATE)) (fun h => by rw [Bd.returns] at h; cases h)
              refine ⟨_, _, k40 _ ?_, hrun, hended, _, _, rfl, ?_, ⟨_, rfl⟩, hW, hsame.mono (by decide) (by decide)⟩
              · jvm_step X39.here [X39.here.top, hx, (hb hby own_d1_52), X39.method', Bd.returns, Value.isRef, FieldType.isReference]
                first | (intro acts; rw [hr _ acts rfl rfl rfl]) | rw [hr _ _ rfl rfl rfl]
                exact Steps.refl _
              · refine ⟨?_, N0, e39⟩
                rw [show (own_f1 p1 w_ID w_PATRON_ID w_ITEM_ID w_START_DATE w_DUE_DATE w_END_DATE w_RENEWAL_COUNT w_HOLD_SHELVED_FOR) = w_END_DATE from by unfold own_f1; rw [if_neg hc2, if_neg hc9, if_neg hc16, if_neg hc23, if_neg hc30, if_pos hc37]]
            · have k41 : own_To p.tables e below (s₁.setTop (entryFrame m #[(.int p1)] 1)) s₁ (mkF m 53 #[.val (.int p1)] []) := fun t k => k36 t (XS.icmpYes X0.here hx rfl (pc0 := 46) (pc' := 53) rfl (hb hby own_d1_46) rfl (feq (show ¬ (p1 = (5 : Int32)) from hc37)).2 (by decide) (by decide) k)
              have k42 : own_To p.tables e below (s₁.setTop (entryFrame m #[(.int p1)] 1)) s₁ (mkF m 54 #[.val (.int p1)] [(.int p1)]) := fun t k => k41 t (XS.iloadN X0.here hx rfl (hb hby own_d1_53) rfl k)
              have k43 : own_To p.tables e below (s₁.setTop (entryFrame m #[(.int p1)] 1)) s₁ (mkF m 56 #[.val (.int p1)] [(.int (6 : Int32)), (.int p1)]) := fun t k => k42 t (XS.bipush X0.here hx rfl (hb hby own_d1_54) k)
              by_cases hc44 : p1 = (6 : Int32)
              · have k45 : own_To p.tables e below (s₁.setTop (entryFrame m #[(.int p1)] 1)) s₁ (mkF m 59 #[.val (.int p1)] []) := fun t k => k43 t (XS.icmpNo X0.here hx rfl (hb hby own_d1_56) rfl (teq (show p1 = (6 : Int32) from hc44)).2 k)
                obtain ⟨T46, X46, e46, st46⟩ := getS2 X0 hx hZ hown (host := "") (Or.inl (hw _ (List.mem_of_getElem? (i := 21) rfl))) Via.refl e0 S_RENEWAL_COUNT (g := (mkF m 59 #[.val (.int p1)] [])) rfl (hb hby own_d1_59)
                have k47 : own_To p.tables e below (s₁.setTop (entryFrame m #[(.int p1)] 1)) T46 (mkF m 62 #[.val (.int p1)] [(.ref w_RENEWAL_COUNT)]) := fun t k => k45 t (st46 t k)
                obtain ⟨fs, hr, hrun, hended, hW, hsame⟩ := X46.leave (v := some (.ref w_RENEWAL_COUNT)) (fun h => by rw [Bd.returns] at h; cases h)
                refine ⟨_, _, k47 _ ?_, hrun, hended, _, _, rfl, ?_, ⟨_, rfl⟩, hW, hsame.mono (by decide) (by decide)⟩
                · jvm_step X46.here [X46.here.top, hx, (hb hby own_d1_62), X46.method', Bd.returns, Value.isRef, FieldType.isReference]
                  first | (intro acts; rw [hr _ acts rfl rfl rfl]) | rw [hr _ _ rfl rfl rfl]
                  exact Steps.refl _
                · refine ⟨?_, N0, e46⟩
                  rw [show (own_f1 p1 w_ID w_PATRON_ID w_ITEM_ID w_START_DATE w_DUE_DATE w_END_DATE w_RENEWAL_COUNT w_HOLD_SHELVED_FOR) = w_RENEWAL_COUNT from by unfold own_f1; rw [if_neg hc2, if_neg hc9, if_neg hc16, if_neg hc23, if_neg hc30, if_neg hc37, if_pos hc44]]
              · have k48 : own_To p.tables e below (s₁.setTop (entryFrame m #[(.int p1)] 1)) s₁ (mkF m 63 #[.val (.int p1)] []) := fun t k => k43 t (XS.icmpYes X0.here hx rfl (pc0 := 56) (pc' := 63) rfl (hb hby own_d1_56) rfl (feq (show ¬ (p1 = (6 : Int32)) from hc44)).2 (by decide) (by decide) k)
                obtain ⟨T49, X49, e49, st49⟩ := getS2 X0 hx hZ hown (host := "") (Or.inl (hw _ (List.mem_of_getElem? (i := 23) rfl))) Via.refl e0 S_HOLD_SHELVED_FOR (g := (mkF m 63 #[.val (.int p1)] [])) rfl (hb hby own_d1_63)
                have k50 : own_To p.tables e below (s₁.setTop (entryFrame m #[(.int p1)] 1)) T49 (mkF m 66 #[.val (.int p1)] [(.ref w_HOLD_SHELVED_FOR)]) := fun t k => k48 t (st49 t k)
                obtain ⟨fs, hr, hrun, hended, hW, hsame⟩ := X49.leave (v := some (.ref w_HOLD_SHELVED_FOR)) (fun h => by rw [Bd.returns] at h; cases h)
                refine ⟨_, _, k50 _ ?_, hrun, hended, _, _, rfl, ?_, ⟨_, rfl⟩, hW, hsame.mono (by decide) (by decide)⟩
                · jvm_step X49.here [X49.here.top, hx, (hb hby own_d1_66), X49.method', Bd.returns, Value.isRef, FieldType.isReference]
                  first | (intro acts; rw [hr _ acts rfl rfl rfl]) | rw [hr _ _ rfl rfl rfl]
                  exact Steps.refl _
                · refine ⟨?_, N0, e49⟩
                  rw [show (own_f1 p1 w_ID w_PATRON_ID w_ITEM_ID w_START_DATE w_DUE_DATE w_END_DATE w_RENEWAL_COUNT w_HOLD_SHELVED_FOR) = w_HOLD_SHELVED_FOR from by unfold own_f1; rw [if_neg hc2, if_neg hc9, if_neg hc16, if_neg hc23, if_neg hc30, if_neg hc37, if_neg hc44]]
theorem own_d2_0 : decode prog_33_method_6_code 0 = .ok (.aload_n 0, 1) := by decide +kernel
theorem own_d2_1 : decode prog_33_method_6_code 1 = .ok (.getstatic 19, 3) := by decide +kernel
theorem own_d2_4 : decode prog_33_method_6_code 4 = .ok (.if_acmp .eq 10, 3) := by decide +kernel
theorem own_d2_14 : decode prog_33_method_6_code 14 = .ok (.iconst 1, 1) := by decide +kernel
theorem own_d2_15 : decode prog_33_method_6_code 15 = .ok (.goto 4, 3) := by decide +kernel
theorem own_d2_19 : decode prog_33_method_6_code 19 = .ok (.ireturn, 1) := by decide +kernel
theorem own_d2_7 : decode prog_33_method_6_code 7 = .ok (.aload_n 0, 1) := by decide +kernel
theorem own_d2_8 : decode prog_33_method_6_code 8 = .ok (.getstatic 25, 3) := by decide +kernel
theorem own_d2_11 : decode prog_33_method_6_code 11 = .ok (.if_acmp .ne 7, 3) := by decide +kernel
theorem own_d2_18 : decode prog_33_method_6_code 18 = .ok (.iconst 0, 1) := by decide +kernel
theorem own_ef2 (m : MethodId) (x0 : Addr) : entryFrame m #[(.ref x0)] 1 = mkF m 0 #[.val (.ref x0)] [] := by first | (simp [entryFrame, mkF, argsToLocals, Value.category]; done) | rfl
theorem own_pn2 : plainName "com/example/grace_period/graceperiod/core/LoanField" = true := by first | (simp [plainName, overriddenIn]; done) | decide +kernel
def own_f2 (a1 : Addr) (w_END_DATE : Addr) (w_HOLD_SHELVED_FOR : Addr) : Int32 := (if a1 = w_END_DATE then (1 : Int32) else (if a1 = w_HOLD_SHELVED_FOR then (1 : Int32) else (0 : Int32)))
set_option maxRecDepth 65536 in
set_option maxHeartbeats 40000000 in
theorem own_m2 (l : Launch) (Z : State) (a0 : Array Value) (hw : ∀ d ∈ tables_1, d.before a0 Z = true) (ws : List Jvm.Cond) (a1 : Addr) (w_END_DATE : Addr) (w_HOLD_SHELVED_FOR : Addr) (h0 : Heap) (n0 : Nat) (Z0 : n0 ≤ h0.size) (S_END_DATE : Sta Z h0 "com/example/grace_period/graceperiod/core/LoanField" "END_DATE" "Lcom/example/grace_period/graceperiod/core/LoanField;" (.ref w_END_DATE)) (S_HOLD_SHELVED_FOR : Sta Z h0 "com/example/grace_period/graceperiod/core/LoanField" "HOLD_SHELVED_FOR" "Lcom/example/grace_period/graceperiod/core/LoanField;" (.ref w_HOLD_SHELVED_FOR)) :
    MetFree l (⟨"com/example/grace_period/graceperiod/core/LoanField", "isOptional", "()Z"⟩ : MethodName) (head1 (Jvm.Cond.code (⟨"com/example/grace_period/graceperiod/core/LoanField", "isOptional", "()Z"⟩ : MethodName) prog_33_method_6_code 1 (some .boolean) :: ws) ({ frames := 0, cells := 0, slots := 0, locals := 0 } : Room)) (fun a U => a = #[(.ref a1)] ∧ Z.Warmed39 U.vm ∧ U.heap = h0) (fun _ _ _ _ _ => True) (fun _ U o U' => ∃ v L, o = .returned v ∧ own_Q (some (.int (own_f2 a1 w_END_DATE w_HOLD_SHELVED_FOR))) h0 n0 v U'.heap L ∧ FrameEnd U o U' L ({ frames := 0, cells := 0, slots := 0, locals := 0 } : Room).cells ({ frames := 0, cells := 0, slots := 0, locals := 0 } : Room).slots) := by
  refine MetFree.of_bodySF (plainFor_of_name own_pn2) hisR ?_
  intro p e s m args below meth c s₁ Bd hml0 hP hK
  obtain ⟨rfl, hZ, hh⟩ := hP
  have hx := Bd.exec
  have hby := Bd.bytes
  have hml : c.maxLocals = 1 := hml0
  have hown : s.vm.findClass "com/example/grace_period/graceperiod/core/LoanField" = some m.cls := findClass_of_methodNamed Bd.named
  have hnm := (name_of_methodNamed Bd.named Bd.method).1
  have X0 : Stand p l e ({ frames := 0, cells := 0, slots := 0, locals := 0 } : Room) s m #[(.ref a1)] below meth c s₁ [] 0 0 := Stand.of_body Bd
  have e0 : s₁.heap = h0 := by rw [← hh, Bd.state]; rfl
  have N0 := Fr.nil n0
  have k0 : own_To p.tables e below (s₁.setTop (entryFrame m #[(.ref a1)] 1)) s₁ (mkF m 0 #[.val (.ref a1)] []) := fun t k => castTop (own_ef2 m a1) k
  have k1 : own_To p.tables e below (s₁.setTop (entryFrame m #[(.ref a1)] 1)) s₁ (mkF m 1 #[.val (.ref a1)] [(.ref a1)]) := fun t k => k0 t (XS.aloadN X0.here hx rfl (hb hby own_d2_0) rfl rfl k)
  obtain ⟨T2, X2, e2, st2⟩ := getS2 X0 hx hZ hown (host := "") (Or.inl (hw _ (List.mem_of_getElem? (i := 12) rfl))) Via.refl e0 S_END_DATE (g := (mkF m 1 #[.val (.ref a1)] [(.ref a1)])) rfl (hb hby own_d2_1)
  have k3 : own_To p.tables e below (s₁.setTop (entryFrame m #[(.ref a1)] 1)) T2 (mkF m 4 #[.val (.ref a1)] [(.ref w_END_DATE), (.ref a1)]) := fun t k => k1 t (st2 t k)
  by_cases hc4 : a1 = w_END_DATE
  · have k5 : own_To p.tables e below (s₁.setTop (entryFrame m #[(.ref a1)] 1)) T2 (mkF m 14 #[.val (.ref a1)] []) := fun t k => k3 t (Jvm.RoadKit.acmp (g := (mkF m 4 #[.val (.ref a1)] [(.ref w_END_DATE), (.ref a1)])) X2 hx rfl rfl rfl (pc0 := 4) (pc' := 14) (same := true) rfl (hb hby own_d2_4) rfl (decide_eq_true (congrArg Value.ref hc4)) (by decide) (by decide) k)
    have k6 : own_To p.tables e below (s₁.setTop (entryFrame m #[(.ref a1)] 1)) T2 (mkF m 15 #[.val (.ref a1)] [(.int (1 : Int32))]) := fun t k => k5 t (XS.iconst X2.here hx rfl (hb hby own_d2_14) k)
    have k7 : own_To p.tables e below (s₁.setTop (entryFrame m #[(.ref a1)] 1)) T2 (mkF m 19 #[.val (.ref a1)] [(.int (1 : Int32))]) := fun t k => k6 t (XS.goto X2.here hx rfl (pc0 := 15) (pc' := 19) rfl (hb hby own_d2_15) (by decide) (by decide) k)
    obtain ⟨fs, hr, hrun, hended, hW, hsame⟩ := X2.leave (v := some (.int (1 : Int32))) (fun h => by rw [Bd.returns] at h; cases h)
    refine ⟨_, _, k7 _ ?_, hrun, hended, _, _, rfl, ?_, ⟨_, rfl⟩, hW, hsame.mono (by decide) (by decide)⟩
    · exact retN X2 hx (t := .boolean) Bd.returns (by simp) (hb hby own_d2_19) hr
    · refine ⟨?_, N0, e2⟩
      rw [show (own_f2 a1 w_END_DATE w_HOLD_SHELVED_FOR) = (1 : Int32) from by unfold own_f2; rw [if_pos hc4]]
  · have k8 : own_To p.tables e below (s₁.setTop (entryFrame m #[(.ref a1)] 1)) T2 (mkF m 7 #[.val (.ref a1)] []) := fun t k => k3 t (Jvm.RoadKit.acmp (g := (mkF m 4 #[.val (.ref a1)] [(.ref w_END_DATE), (.ref a1)])) X2 hx rfl rfl rfl (pc0 := 4) (pc' := 7) (same := false) rfl (hb hby own_d2_4) rfl (decide_eq_false fun q => hc4 (Value.ref.inj q)) (by decide) (by decide) k)
    have k9 : own_To p.tables e below (s₁.setTop (entryFrame m #[(.ref a1)] 1)) T2 (mkF m 8 #[.val (.ref a1)] [(.ref a1)]) := fun t k => k8 t (XS.aloadN X2.here hx rfl (hb hby own_d2_7) rfl rfl k)
    obtain ⟨T10, X10, e10, st10⟩ := getS2 X2 hx hZ hown (host := "") (Or.inl (hw _ (List.mem_of_getElem? (i := 14) rfl))) Via.refl e2 S_HOLD_SHELVED_FOR (g := (mkF m 8 #[.val (.ref a1)] [(.ref a1)])) rfl (hb hby own_d2_8)
    have k11 : own_To p.tables e below (s₁.setTop (entryFrame m #[(.ref a1)] 1)) T10 (mkF m 11 #[.val (.ref a1)] [(.ref w_HOLD_SHELVED_FOR), (.ref a1)]) := fun t k => k9 t (st10 t k)
    by_cases hc12 : a1 = w_HOLD_SHELVED_FOR
    · have k13 : own_To p.tables e below (s₁.setTop (entryFrame m #[(.ref a1)] 1)) T10 (mkF m 14 #[.val (.ref a1)] []) := fun t k => k11 t (Jvm.RoadKit.acmp (g := (mkF m 11 #[.val (.ref a1)] [(.ref w_HOLD_SHELVED_FOR), (.ref a1)])) X10 hx rfl rfl rfl (pc0 := 11) (pc' := 14) (same := true) rfl (hb hby own_d2_11) rfl (decide_eq_true (congrArg Value.ref hc12)) (by decide) (by decide) k)
      have k14 : own_To p.tables e below (s₁.setTop (entryFrame m #[(.ref a1)] 1)) T10 (mkF m 15 #[.val (.ref a1)] [(.int (1 : Int32))]) := fun t k => k13 t (XS.iconst X10.here hx rfl (hb hby own_d2_14) k)
      have k15 : own_To p.tables e below (s₁.setTop (entryFrame m #[(.ref a1)] 1)) T10 (mkF m 19 #[.val (.ref a1)] [(.int (1 : Int32))]) := fun t k => k14 t (XS.goto X10.here hx rfl (pc0 := 15) (pc' := 19) rfl (hb hby own_d2_15) (by decide) (by decide) k)
      obtain ⟨fs, hr, hrun, hended, hW, hsame⟩ := X10.leave (v := some (.int (1 : Int32))) (fun h => by rw [Bd.returns] at h; cases h)
      refine ⟨_, _, k15 _ ?_, hrun, hended, _, _, rfl, ?_, ⟨_, rfl⟩, hW, hsame.mono (by decide) (by decide)⟩
      · exact retN X10 hx (t := .boolean) Bd.returns (by simp) (hb hby own_d2_19) hr
      · refine ⟨?_, N0, e10⟩
        rw [show (own_f2 a1 w_END_DATE w_HOLD_SHELVED_FOR) = (1 : Int32) from by unfold own_f2; rw [if_neg hc4, if_pos hc12]]
    · have k16 : own_To p.tables e below (s₁.setTop (entryFrame m #[(.ref a1)] 1)) T10 (mkF m 18 #[.val (.ref a1)] []) := fun t k => k11 t (Jvm.RoadKit.acmp (g := (mkF m 11 #[.val (.ref a1)] [(.ref w_HOLD_SHELVED_FOR), (.ref a1)])) X10 hx rfl rfl rfl (pc0 := 11) (pc' := 18) (same := false) rfl (hb hby own_d2_11) rfl (decide_eq_false fun q => hc12 (Value.ref.inj q)) (by decide) (by decide) k)
      have k17 : own_To p.tables e below (s₁.setTop (entryFrame m #[(.ref a1)] 1)) T10 (mkF m 19 #[.val (.ref a1)] [(.int (0 : Int32))]) := fun t k => k16 t (XS.iconst X10.here hx rfl (hb hby own_d2_18) k)
      obtain ⟨fs, hr, hrun, hended, hW, hsame⟩ := X10.leave (v := some (.int (0 : Int32))) (fun h => by rw [Bd.returns] at h; cases h)
      refine ⟨_, _, k17 _ ?_, hrun, hended, _, _, rfl, ?_, ⟨_, rfl⟩, hW, hsame.mono (by decide) (by decide)⟩
      · exact retN X10 hx (t := .boolean) Bd.returns (by simp) (hb hby own_d2_19) hr
      · refine ⟨?_, N0, e10⟩
        rw [show (own_f2 a1 w_END_DATE w_HOLD_SHELVED_FOR) = (0 : Int32) from by unfold own_f2; rw [if_neg hc4, if_neg hc12]]
theorem own_d3_0 : decode method_3_code 0 = .ok (.iload_n 0, 1) := by decide +kernel
theorem own_d3_1 : decode method_3_code 1 = .ok (.ifCond .ne 5, 3) := by decide +kernel
theorem own_d3_4 : decode method_3_code 4 = .ok (.iconst 0, 1) := by decide +kernel
theorem own_d3_5 : decode method_3_code 5 = .ok (.ireturn, 1) := by decide +kernel
theorem own_d3_6 : decode method_3_code 6 = .ok (.iload_n 0, 1) := by decide +kernel
theorem own_d3_7 : decode method_3_code 7 = .ok (.iconst 1, 1) := by decide +kernel
theorem own_d3_8 : decode method_3_code 8 = .ok (.if_icmp .ne 5, 3) := by decide +kernel
theorem own_d3_11 : decode method_3_code 11 = .ok (.iconst 0, 1) := by decide +kernel
theorem own_d3_12 : decode method_3_code 12 = .ok (.ireturn, 1) := by decide +kernel
theorem own_d3_13 : decode method_3_code 13 = .ok (.iload_n 0, 1) := by decide +kernel
theorem own_d3_14 : decode method_3_code 14 = .ok (.iconst 2, 1) := by decide +kernel
theorem own_d3_15 : decode method_3_code 15 = .ok (.if_icmp .ne 5, 3) := by decide +kernel
theorem own_d3_18 : decode method_3_code 18 = .ok (.iconst 0, 1) := by decide +kernel
theorem own_d3_19 : decode method_3_code 19 = .ok (.ireturn, 1) := by decide +kernel
theorem own_d3_20 : decode method_3_code 20 = .ok (.iload_n 0, 1) := by decide +kernel
theorem own_d3_21 : decode method_3_code 21 = .ok (.iconst 3, 1) := by decide +kernel
theorem own_d3_22 : decode method_3_code 22 = .ok (.if_icmp .ne 5, 3) := by decide +kernel
theorem own_d3_25 : decode method_3_code 25 = .ok (.iconst 0, 1) := by decide +kernel
theorem own_d3_26 : decode method_3_code 26 = .ok (.ireturn, 1) := by decide +kernel
theorem own_d3_27 : decode method_3_code 27 = .ok (.iload_n 0, 1) := by decide +kernel
theorem own_d3_28 : decode method_3_code 28 = .ok (.iconst 4, 1) := by decide +kernel
theorem own_d3_29 : decode method_3_code 29 = .ok (.if_icmp .ne 5, 3) := by decide +kernel
theorem own_d3_32 : decode method_3_code 32 = .ok (.iconst 0, 1) := by decide +kernel
theorem own_d3_33 : decode method_3_code 33 = .ok (.ireturn, 1) := by decide +kernel
theorem own_d3_34 : decode method_3_code 34 = .ok (.iload_n 0, 1) := by decide +kernel
theorem own_d3_35 : decode method_3_code 35 = .ok (.iconst 5, 1) := by decide +kernel
theorem own_d3_36 : decode method_3_code 36 = .ok (.if_icmp .ne 5, 3) := by decide +kernel
theorem own_d3_39 : decode method_3_code 39 = .ok (.iconst 1, 1) := by decide +kernel
theorem own_d3_40 : decode method_3_code 40 = .ok (.ireturn, 1) := by decide +kernel
theorem own_d3_41 : decode method_3_code 41 = .ok (.iload_n 0, 1) := by decide +kernel
theorem own_d3_42 : decode method_3_code 42 = .ok (.bipush 6, 2) := by decide +kernel
theorem own_d3_44 : decode method_3_code 44 = .ok (.if_icmp .ne 5, 3) := by decide +kernel
theorem own_d3_47 : decode method_3_code 47 = .ok (.iconst 0, 1) := by decide +kernel
theorem own_d3_48 : decode method_3_code 48 = .ok (.ireturn, 1) := by decide +kernel
theorem own_d3_49 : decode method_3_code 49 = .ok (.iconst 1, 1) := by decide +kernel
theorem own_d3_50 : decode method_3_code 50 = .ok (.ireturn, 1) := by decide +kernel
theorem own_ef3 (m : MethodId) (x0 : Int32) : entryFrame m #[(.int x0)] 1 = mkF m 0 #[.val (.int x0)] [] := by first | (simp [entryFrame, mkF, argsToLocals, Value.category]; done) | rfl
theorem own_pn3 : plainName "com/example/grace_period/graceperiod/core/LoanFieldIsOptionalPinLaw" = true := by first | (simp [plainName, overriddenIn]; done) | decide +kernel
def own_f3 (p1 : Int32) : Int32 := (if p1 = (0 : Int32) then (0 : Int32) else (if p1 = (1 : Int32) then (0 : Int32) else (if p1 = (2 : Int32) then (0 : Int32) else (if p1 = (3 : Int32) then (0 : Int32) else (if p1 = (4 : Int32) then (0 : Int32) else (if p1 = (5 : Int32) then (1 : Int32) else (if p1 = (6 : Int32) then (0 : Int32) else (1 : Int32))))))))
set_option maxRecDepth 65536 in
set_option maxHeartbeats 40000000 in
theorem own_m3 (l : Launch) (Z : State) (a0 : Array Value) (hw : ∀ d ∈ tables_1, d.before a0 Z = true) (ws : List Jvm.Cond) (p1 : Int32) (h0 : Heap) (n0 : Nat) (Z0 : n0 ≤ h0.size) :
    MetFree l (⟨"com/example/grace_period/graceperiod/core/LoanFieldIsOptionalPinLaw", "expectedOptional", "(I)Z"⟩ : MethodName) (head1 (Jvm.Cond.code (⟨"com/example/grace_period/graceperiod/core/LoanFieldIsOptionalPinLaw", "expectedOptional", "(I)Z"⟩ : MethodName) method_3_code 1 (some .boolean) :: ws) ({ frames := 0, cells := 0, slots := 0, locals := 0 } : Room)) (fun a U => a = #[(.int p1)] ∧ Z.Warmed39 U.vm ∧ U.heap = h0) (fun _ _ _ _ _ => True) (fun _ U o U' => ∃ v L, o = .returned v ∧ own_Q (some (.int (own_f3 p1))) h0 n0 v U'.heap L ∧ FrameEnd U o U' L ({ frames := 0, cells := 0, slots := 0, locals := 0 } : Room).cells ({ frames := 0, cells := 0, slots := 0, locals := 0 } : Room).slots) := by
  refine MetFree.of_bodySF (plainFor_of_name own_pn3) hisR ?_
  intro p e s m args below meth c s₁ Bd hml0 hP hK
  obtain ⟨rfl, hZ, hh⟩ := hP
  have hx := Bd.exec
  have hby := Bd.bytes
  have hml : c.maxLocals = 1 := hml0
  have hown : s.vm.findClass "com/example/grace_period/graceperiod/core/LoanFieldIsOptionalPinLaw" = some m.cls := findClass_of_methodNamed Bd.named
  have hnm := (name_of_methodNamed Bd.named Bd.method).1
  have X0 : Stand p l e ({ frames := 0, cells := 0, slots := 0, locals := 0 } : Room) s m #[(.int p1)] below meth c s₁ [] 0 0 := Stand.of_body Bd
  have e0 : s₁.heap = h0 := by rw [← hh, Bd.state]; rfl
  have N0 := Fr.nil n0
  have k0 : own_To p.tables e below (s₁.setTop (entryFrame m #[(.int p1)] 1)) s₁ (mkF m 0 #[.val (.int p1)] []) := fun t k => castTop (own_ef3 m p1) k
  have k1 : own_To p.tables e below (s₁.setTop (entryFrame m #[(.int p1)] 1)) s₁ (mkF m 1 #[.val (.int p1)] [(.int p1)]) := fun t k => k0 t (XS.iloadN X0.here hx rfl (hb hby own_d3_0) rfl k)
  by_cases hc2 : p1 = (0 : Int32)
  · have k3 : own_To p.tables e below (s₁.setTop (entryFrame m #[(.int p1)] 1)) s₁ (mkF m 4 #[.val (.int p1)] []) := fun t k => k1 t (XS.ifNo X0.here hx rfl (hb hby own_d3_1) rfl ((if0 _ _).trans (teq (show p1 = (0 : Int32) from hc2)).2) k)
    have k4 : own_To p.tables e below (s₁.setTop (entryFrame m #[(.int p1)] 1)) s₁ (mkF m 5 #[.val (.int p1)] [(.int (0 : Int32))]) := fun t k => k3 t (XS.iconst X0.here hx rfl (hb hby own_d3_4) k)
    obtain ⟨fs, hr, hrun, hended, hW, hsame⟩ := X0.leave (v := some (.int (0 : Int32))) (fun h => by rw [Bd.returns] at h; cases h)
    refine ⟨_, _, k4 _ ?_, hrun, hended, _, _, rfl, ?_, ⟨_, rfl⟩, hW, hsame.mono (by decide) (by decide)⟩
    · exact retN X0 hx (t := .boolean) Bd.returns (by simp) (hb hby own_d3_5) hr
    · refine ⟨?_, N0, e0⟩
      rw [show (own_f3 p1) = (0 : Int32) from by unfold own_f3; rw [if_pos hc2]]
  · have k5 : own_To p.tables e below (s₁.setTop (entryFrame m #[(.int p1)] 1)) s₁ (mkF m 6 #[.val (.int p1)] []) := fun t k => k1 t (XS.ifYes X0.here hx rfl (pc0 := 1) (pc' := 6) rfl (hb hby own_d3_1) rfl ((if0 _ _).trans (feq (show ¬ (p1 = (0 : Int32)) from hc2)).2) (by decide) (by decide) k)
    have k6 : own_To p.tables e below (s₁.setTop (entryFrame m #[(.int p1)] 1)) s₁ (mkF m 7 #[.val (.int p1)] [(.int p1)]) := fun t k => k5 t (XS.iloadN X0.here hx rfl (hb hby own_d3_6) rfl k)
    have k7 : own_To p.tables e below (s₁.setTop (entryFrame m #[(.int p1)] 1)) s₁ (mkF m 8 #[.val (.int p1)] [(.int (1 : Int32)), (.int p1)]) := fun t k => k6 t (XS.iconst X0.here hx rfl (hb hby own_d3_7) k)
    by_cases hc8 : p1 = (1 : Int32)
    · have k9 : own_To p.tables e below (s₁.setTop (entryFrame m #[(.int p1)] 1)) s₁ (mkF m 11 #[.val (.int p1)] []) := fun t k => k7 t (XS.icmpNo X0.here hx rfl (hb hby own_d3_8) rfl (teq (show p1 = (1 : Int32) from hc8)).2 k)
      have k10 : own_To p.tables e below (s₁.setTop (entryFrame m #[(.int p1)] 1)) s₁ (mkF m 12 #[.val (.int p1)] [(.int (0 : Int32))]) := fun t k => k9 t (XS.iconst X0.here hx rfl (hb hby own_d3_11) k)
      obtain ⟨fs, hr, hrun, hended, hW, hsame⟩ := X0.leave (v := some (.int (0 : Int32))) (fun h => by rw [Bd.returns] at h; cases h)
      refine ⟨_, _, k10 _ ?_, hrun, hended, _, _, rfl, ?_, ⟨_, rfl⟩, hW, hsame.mono (by decide) (by decide)⟩
      · exact retN X0 hx (t := .boolean) Bd.returns (by simp) (hb hby own_d3_12) hr
      · refine ⟨?_, N0, e0⟩
        rw [show (own_f3 p1) = (0 : Int32) from by unfold own_f3; rw [if_neg hc2, if_pos hc8]]
    · have k11 : own_To p.tables e below (s₁.setTop (entryFrame m #[(.int p1)] 1)) s₁ (mkF m 13 #[.val (.int p1)] []) := fun t k => k7 t (XS.icmpYes X0.here hx rfl (pc0 := 8) (pc' := 13) rfl (hb hby own_d3_8) rfl (feq (show ¬ (p1 = (1 : Int32)) from hc8)).2 (by decide) (by decide) k)
      have k12 : own_To p.tables e below (s₁.setTop (entryFrame m #[(.int p1)] 1)) s₁ (mkF m 14 #[.val (.int p1)] [(.int p1)]) := fun t k => k11 t (XS.iloadN X0.here hx rfl (hb hby own_d3_13) rfl k)
      have k13 : own_To p.tables e below (s₁.setTop (entryFrame m #[(.int p1)] 1)) s₁ (mkF m 15 #[.val (.int p1)] [(.int (2 : Int32)), (.int p1)]) := fun t k => k12 t (XS.iconst X0.here hx rfl (hb hby own_d3_14) k)
      by_cases hc14 : p1 = (2 : Int32)
      · have k15 : own_To p.tables e below (s₁.setTop (entryFrame m #[(.int p1)] 1)) s₁ (mkF m 18 #[.val (.int p1)] []) := fun t k => k13 t (XS.icmpNo X0.here hx rfl (hb hby own_d3_15) rfl (teq (show p1 = (2 : Int32) from hc14)).2 k)
        have k16 : own_To p.tables e below (s₁.setTop (entryFrame m #[(.int p1)] 1)) s₁ (mkF m 19 #[.val (.int p1)] [(.int (0 : Int32))]) := fun t k => k15 t (XS.iconst X0.here hx rfl (hb hby own_d3_18) k)
        obtain ⟨fs, hr, hrun, hended, hW, hsame⟩ := X0.leave (v := some (.int (0 : Int32))) (fun h => by rw [Bd.returns] at h; cases h)
        refine ⟨_, _, k16 _ ?_, hrun, hended, _, _, rfl, ?_, ⟨_, rfl⟩, hW, hsame.mono (by decide) (by decide)⟩
        · exact retN X0 hx (t := .boolean) Bd.returns (by simp) (hb hby own_d3_19) hr
        · refine ⟨?_, N0, e0⟩
          rw [show (own_f3 p1) = (0 : Int32) from by unfold own_f3; rw [if_neg hc2, if_neg hc8, if_pos hc14]]
      · have k17 : own_To p.tables e below (s₁.setTop (entryFrame m #[(.int p1)] 1)) s₁ (mkF m 20 #[.val (.int p1)] []) := fun t k => k13 t (XS.icmpYes X0.here hx rfl (pc0 := 15) (pc' := 20) rfl (hb hby own_d3_15) rfl (feq (show ¬ (p1 = (2 : Int32)) from hc14)).2 (by decide) (by decide) k)
        have k18 : own_To p.tables e below (s₁.setTop (entryFrame m #[(.int p1)] 1)) s₁ (mkF m 21 #[.val (.int p1)] [(.int p1)]) := fun t k => k17 t (XS.iloadN X0.here hx rfl (hb hby own_d3_20) rfl k)
        have k19 : own_To p.tables e below (s₁.setTop (entryFrame m #[(.int p1)] 1)) s₁ (mkF m 22 #[.val (.int p1)] [(.int (3 : Int32)), (.int p1)]) := fun t k => k18 t (XS.iconst X0.here hx rfl (hb hby own_d3_21) k)
        by_cases hc20 : p1 = (3 : Int32)
        · have k21 : own_To p.tables e below (s₁.setTop (entryFrame m #[(.int p1)] 1)) s₁ (mkF m 25 #[.val (.int p1)] []) := fun t k => k19 t (XS.icmpNo X0.here hx rfl (hb hby own_d3_22) rfl (teq (show p1 = (3 : Int32) from hc20)).2 k)
          have k22 : own_To p.tables e below (s₁.setTop (entryFrame m #[(.int p1)] 1)) s₁ (mkF m 26 #[.val (.int p1)] [(.int (0 : Int32))]) := fun t k => k21 t (XS.iconst X0.here hx rfl (hb hby own_d3_25) k)
          obtain ⟨fs, hr, hrun, hended, hW, hsame⟩ := X0.leave (v := some (.int (0 : Int32))) (fun h => by rw [Bd.returns] at h; cases h)
          refine ⟨_, _, k22 _ ?_, hrun, hended, _, _, rfl, ?_, ⟨_, rfl⟩, hW, hsame.mono (by decide) (by decide)⟩
          · exact retN X0 hx (t := .boolean) Bd.returns (by simp) (hb hby own_d3_26) hr
          · refine ⟨?_, N0, e0⟩
            rw [show (own_f3 p1) = (0 : Int32) from by unfold own_f3; rw [if_neg hc2, if_neg hc8, if_neg hc14, if_pos hc20]]
        · have k23 : own_To p.tables e below (s₁.setTop (entryFrame m #[(.int p1)] 1)) s₁ (mkF m 27 #[.val (.int p1)] []) := fun t k => k19 t (XS.icmpYes X0.here hx rfl (pc0 := 22) (pc' := 27) rfl (hb hby own_d3_22) rfl (feq (show ¬ (p1 = (3 : Int32)) from hc20)).2 (by decide) (by decide) k)
          have k24 : own_To p.tables e below (s₁.setTop (entryFrame m #[(.int p1)] 1)) s₁ (mkF m 28 #[.val (.int p1)] [(.int p1)]) := fun t k => k23 t (XS.iloadN X0.here hx rfl (hb hby own_d3_27) rfl k)
          have k25 : own_To p.tables e below (s₁.setTop (entryFrame m #[(.int p1)] 1)) s₁ (mkF m 29 #[.val (.int p1)] [(.int (4 : Int32)), (.int p1)]) := fun t k => k24 t (XS.iconst X0.here hx rfl (hb hby own_d3_28) k)
          by_cases hc26 : p1 = (4 : Int32)
          · have k27 : own_To p.tables e below (s₁.setTop (entryFrame m #[(.int p1)] 1)) s₁ (mkF m 32 #[.val (.int p1)] []) := fun t k => k25 t (XS.icmpNo X0.here hx rfl (hb hby own_d3_29) rfl (teq (show p1 = (4 : Int32) from hc26)).2 k)
            have k28 : own_To p.tables e below (s₁.setTop (entryFrame m #[(.int p1)] 1)) s₁ (mkF m 33 #[.val (.int p1)] [(.int (0 : Int32))]) := fun t k => k27 t (XS.iconst X0.here hx rfl (hb hby own_d3_32) k)
            obtain ⟨fs, hr, hrun, hended, hW, hsame⟩ := X0.leave (v := some (.int (0 : Int32))) (fun h => by rw [Bd.returns] at h; cases h)
            refine ⟨_, _, k28 _ ?_, hrun, hended, _, _, rfl, ?_, ⟨_, rfl⟩, hW, hsame.mono (by decide) (by decide)⟩
            · exact retN X0 hx (t := .boolean) Bd.returns (by simp) (hb hby own_d3_33) hr
            · refine ⟨?_, N0, e0⟩
              rw [show (own_f3 p1) = (0 : Int32) from by unfold own_f3; rw [if_neg hc2, if_neg hc8, if_neg hc14, if_neg hc20, if_pos hc26]]
          · have k29 : own_To p.tables e below (s₁.setTop (entryFrame m #[(.int p1)] 1)) s₁ (mkF m 34 #[.val (.int p1)] []) := fun t k => k25 t (XS.icmpYes X0.here hx rfl (pc0 := 29) (pc' := 34) rfl (hb hby own_d3_29) rfl (feq (show ¬ (p1 = (4 : Int32)) from hc26)).2 (by decide) (by decide) k)
            have k30 : own_To p.tables e below (s₁.setTop (entryFrame m #[(.int p1)] 1)) s₁ (mkF m 35 #[.val (.int p1)] [(.int p1)]) := fun t k => k29 t (XS.iloadN X0.here hx rfl (hb hby own_d3_34) rfl k)
            have k31 : own_To p.tables e below (s₁.setTop (entryFrame m #[(.int p1)] 1)) s₁ (mkF m 36 #[.val (.int p1)] [(.int (5 : Int32)), (.int p1)]) := fun t k => k30 t (XS.iconst X0.here hx rfl (hb hby own_d3_35) k)
            by_cases hc32 : p1 = (5 : Int32)
            · have k33 : own_To p.tables e below (s₁.setTop (entryFrame m #[(.int p1)] 1)) s₁ (mkF m 39 #[.val (.int p1)] []) := fun t k => k31 t (XS.icmpNo X0.here hx rfl (hb hby own_d3_36) rfl (teq (show p1 = (5 : Int32) from hc32)).2 k)
              have k34 : own_To p.tables e below (s₁.setTop (entryFrame m #[(.int p1)] 1)) s₁ (mkF m 40 #[.val (.int p1)] [(.int (1 : Int32))]) := fun t k => k33 t (XS.iconst X0.here hx rfl (hb hby own_d3_39) k)
              obtain ⟨fs, hr, hrun, hended, hW, hsame⟩ := X0.leave (v := some (.int (1 : Int32))) (fun h => by rw [Bd.returns] at h; cases h)
              refine ⟨_, _, k34 _ ?_, hrun, hended, _, _, rfl, ?_, ⟨_, rfl⟩, hW, hsame.mono (by decide) (by decide)⟩
              · exact retN X0 hx (t := .boolean) Bd.returns (by simp) (hb hby own_d3_40) hr
              · refine ⟨?_, N0, e0⟩
                rw [show (own_f3 p1) = (1 : Int32) from by unfold own_f3; rw [if_neg hc2, if_neg hc8, if_neg hc14, if_neg hc20, if_neg hc26, if_pos hc32]]
            · have k35 : own_To p.tables e below (s₁.setTop (entryFrame m #[(.int p1)] 1)) s₁ (mkF m 41 #[.val (.int p1)] []) := fun t k => k31 t (XS.icmpYes X0.here hx rfl (pc0 := 36) (pc' := 41) rfl (hb hby own_d3_36) rfl (feq (show ¬ (p1 = (5 : Int32)) from hc32)).2 (by decide) (by decide) k)
              have k36 : own_To p.tables e below (s₁.setTop (entryFrame m #[(.int p1)] 1)) s₁ (mkF m 42 #[.val (.int p1)] [(.int p1)]) := fun t k => k35 t (XS.iloadN X0.here hx rfl (hb hby own_d3_41) rfl k)
              have k37 : own_To p.tables e below (s₁.setTop (entryFrame m #[(.int p1)] 1)) s₁ (mkF m 44 #[.val (.int p1)] [(.int (6 : Int32)), (.int p1)]) := fun t k => k36 t (XS.bipush X0.here hx rfl (hb hby own_d3_42) k)
              by_cases hc38 : p1 = (6 : Int32)
              · have k39 : own_To p.tables e below (s₁.setTop (entryFrame m #[(.int p1)] 1)) s₁ (mkF m 47 #[.val (.int p1)] []) := fun t k => k37 t (XS.icmpNo X0.here hx rfl (hb hby own_d3_44) rfl (teq (show p1 = (6 : Int32) from hc38)).2 k)
                have k40 : own_To p.tables e below (s₁.setTop (entryFrame m #[(.int p1)] 1)) s₁ (mkF m 48 #[.val (.int p1)] [(.int (0 : Int32))]) := fun t k => k39 t (XS.iconst X0.here hx rfl (hb hby own_d3_47) k)
                obtain ⟨fs, hr, hrun, hended, hW, hsame⟩ := X0.leave (v := some (.int (0 : Int32))) (fun h => by rw [Bd.returns] at h; cases h)
                refine ⟨_, _, k40 _ ?_, hrun, hended, _, _, rfl, ?_, ⟨_, rfl⟩, hW, hsame.mono (by decide) (by decide)⟩
                · exact retN X0 hx (t := .boolean) Bd.returns (by simp) (hb hby own_d3_48) hr
                · refine ⟨?_, N0, e0⟩
                  rw [show (own_f3 p1) = (0 : Int32) from by unfold own_f3; rw [if_neg hc2, if_neg hc8, if_neg hc14, if_neg hc20, if_neg hc26, if_neg hc32, if_pos hc38]]
              · have k41 : own_To p.tables e below (s₁.setTop (entryFrame m #[(.int p1)] 1)) s₁ (mkF m 49 #[.val (.int p1)] []) := fun t k => k37 t (XS.icmpYes X0.here hx rfl (pc0 := 44) (pc' := 49) rfl (hb hby own_d3_44) rfl (feq (show ¬ (p1 = (6 : Int32)) from hc38)).2 (by decide) (by decide) k)
                have k42 : own_To p.tables e below (s₁.setTop (entryFrame m #[(.int p1)] 1)) s₁ (mkF m 50 #[.val (.int p1)] [(.int (1 : Int32))]) := fun t k => k41 t (XS.iconst X0.here hx rfl (hb hby own_d3_49) k)
                obtain ⟨fs, hr, hrun, hended, hW, hsame⟩ := X0.leave (v := some (.int (1 : Int32))) (fun h => by rw [Bd.returns] at h; cases h)
                refine ⟨_, _, k42 _ ?_, hrun, hended, _, _, rfl, ?_, ⟨_, rfl⟩, hW, hsame.mono (by decide) (by decide)⟩
                · exact retN X0 hx (t := .boolean) Bd.returns (by simp) (hb hby own_d3_50) hr
                · refine ⟨?_, N0, e0⟩
                  rw [show (own_f3 p1) = (1 : Int32) from by unfold own_f3; rw [if_neg hc2, if_neg hc8, if_neg hc14, if_neg hc20, if_neg hc26, if_neg hc32, if_neg hc38]]
theorem own_pd0 : parseMethodDescriptor "(I)Lcom/example/grace_period/graceperiod/core/LoanField;" = some ⟨[.int], some (.object "com/example/grace_period/graceperiod/core/LoanField")⟩ := by decide +kernel
theorem own_pd1 : parseMethodDescriptor "()Z" = some ⟨[], some .boolean⟩ := by decide +kernel
theorem own_pd2 : parseMethodDescriptor "(I)Z" = some ⟨[.int], some .boolean⟩ := by decide +kernel
theorem own_ef0 (m : MethodId) (x0 : Int32) : entryFrame m #[(.int x0)] maxLocals = mkF m 0 #[.val (.int x0), .unset, .unset] [] := by first | (simp [entryFrame, mkF, argsToLocals, Value.category, maxLocals]; done) | rfl
theorem own_pn0 : plainName "com/example/grace_period/graceperiod/core/LoanFieldIsOptionalPinLaw" = true := by first | (simp [plainName, overriddenIn]; done) | decide +kernel
def own_Q0 (n0 : Nat) (v : Option Value) (L : List Loc) : Prop := v = some (.int (1 : Int32)) ∧ Fr n0 L
set_option maxRecDepth 65536 in
set_option maxHeartbeats 40000000 in
theorem own_m0 (l : Launch) (Z : State) (a0 : Array Value) (hw : ∀ d ∈ tables_1, d.before a0 Z = true) (ws : List Jvm.Cond) (p1 : Int32) (w_ID : Addr) (w_PATRON_ID : Addr) (w_ITEM_ID : Addr) (w_START_DATE : Addr) (w_DUE_DATE : Addr) (w_END_DATE : Addr) (w_RENEWAL_COUNT : Addr) (w_HOLD_SHELVED_FOR : Addr) (h0 : Heap) (n0 : Nat) (Z0 : n0 ≤ h0.size) (S_ID : Sta Z h0 "com/example/grace_period/graceperiod/core/LoanField" "ID" "Lcom/example/grace_period/graceperiod/core/LoanField;" (.ref w_ID)) (S_PATRON_ID : Sta Z h0 "com/example/grace_period/graceperiod/core/LoanField" "PATRON_ID" "Lcom/example/grace_period/graceperiod/core/LoanField;" (.ref w_PATRON_ID)) (S_ITEM_ID : Sta Z h0 "com/example/grace_period/graceperiod/core/LoanField" "ITEM_ID" "Lcom/example/grace_period/graceperiod/core/LoanField;" (.ref w_ITEM_ID)) (S_START_DATE : Sta Z h0 "com/example/grace_period/graceperiod/core/LoanField" "START_DATE" "Lcom/example/grace_period/graceperiod/core/LoanField;" (.ref w_START_DATE)) (S_DUE_DATE : Sta Z h0 "com/example/grace_period/graceperiod/core/LoanField" "DUE_DATE" "Lcom/example/grace_period/graceperiod/core/LoanField;" (.ref w_DUE_DATE)) (S_END_DATE : Sta Z h0 "com/example/grace_period/graceperiod/core/LoanField" "END_DATE" "Lcom/example/grace_period/graceperiod/core/LoanField;" (.ref w_END_DATE)) (S_RENEWAL_COUNT : Sta Z h0 "com/example/grace_period/graceperiod/core/LoanField" "RENEWAL_COUNT" "Lcom/example/grace_period/graceperiod/core/LoanField;" (.ref w_RENEWAL_COUNT)) (S_HOLD_SHELVED_FOR : Sta Z h0 "com/example/grace_period/graceperiod/core/LoanField" "HOLD_SHELVED_FOR" "Lcom/example/grace_period/graceperiod/core/LoanField;" (.ref w_HOLD_SHELVED_FOR)) (E_w_ID : Exa Z h0 w_ID "com/example/grace_period/graceperiod/core/LoanField") (E_w_PATRON_ID : Exa Z h0 w_PATRON_ID "com/example/grace_period/graceperiod/core/LoanField") (E_w_ITEM_ID : Exa Z h0 w_ITEM_ID "com/example/grace_period/graceperiod/core/LoanField") (E_w_START_DATE : Exa Z h0 w_START_DATE "com/example/grace_period/graceperiod/core/LoanField") (E_w_DUE_DATE : Exa Z h0 w_DUE_DATE "com/example/grace_period/graceperiod/core/LoanField") (E_w_END_DATE : Exa Z h0 w_END_DATE "com/example/grace_period/graceperiod/core/LoanField") (E_w_RENEWAL_COUNT : Exa Z h0 w_RENEWAL_COUNT "com/example/grace_period/graceperiod/core/LoanField") (E_w_HOLD_SHELVED_FOR : Exa Z h0 w_HOLD_SHELVED_FOR "com/example/grace_period/graceperiod/core/LoanField") (ne_ID_PATRON_ID : ¬ (w_ID = w_PATRON_ID)) (ne_ID_ITEM_ID : ¬ (w_ID = w_ITEM_ID)) (ne_ID_START_DATE : ¬ (w_ID = w_START_DATE)) (ne_ID_DUE_DATE : ¬ (w_ID = w_DUE_DATE)) (ne_ID_END_DATE : ¬ (w_ID = w_END_DATE)) (ne_ID_RENEWAL_COUNT : ¬ (w_ID = w_RENEWAL_COUNT)) (ne_ID_HOLD_SHELVED_FOR : ¬ (w_ID = w_HOLD_SHELVED_FOR)) (ne_PATRON_ID_ITEM_ID : ¬ (w_PATRON_ID = w_ITEM_ID)) (ne_PATRON_ID_START_DATE : ¬ (w_PATRON_ID = w_START_DATE)) (ne_PATRON_ID_DUE_DATE : ¬ (w_PATRON_ID = w_DUE_DATE)) (ne_PATRON_ID_END_DATE : ¬ (w_PATRON_ID = w_END_DATE)) (ne_PATRON_ID_RENEWAL_COUNT : ¬ (w_PATRON_ID = w_RENEWAL_COUNT)) (ne_PATRON_ID_HOLD_SHELVED_FOR : ¬ (w_PATRON_ID = w_HOLD_SHELVED_FOR)) (ne_ITEM_ID_START_DATE : ¬ (w_ITEM_ID = w_START_DATE)) (ne_ITEM_ID_DUE_DATE : ¬ (w_ITEM_ID = w_DUE_DATE)) (ne_ITEM_ID_END_DATE : ¬ (w_ITEM_ID = w_END_DATE)) (ne_ITEM_ID_RENEWAL_COUNT : ¬ (w_ITEM_ID = w_RENEWAL_COUNT)) (ne_ITEM_ID_HOLD_SHELVED_FOR : ¬ (w_ITEM_ID = w_HOLD_SHELVED_FOR)) (ne_START_DATE_DUE_DATE : ¬ (w_START_DATE = w_DUE_DATE)) (ne_START_DATE_END_DATE : ¬ (w_START_DATE = w_END_DATE)) (ne_START_DATE_RENEWAL_COUNT : ¬ (w_START_DATE = w_RENEWAL_COUNT)) (ne_START_DATE_HOLD_SHELVED_FOR : ¬ (w_START_DATE = w_HOLD_SHELVED_FOR)) (ne_DUE_DATE_END_DATE : ¬ (w_DUE_DATE = w_END_DATE)) (ne_DUE_DATE_RENEWAL_COUNT : ¬ (w_DUE_DATE = w_RENEWAL_COUNT)) (ne_DUE_DATE_HOLD_SHELVED_FOR : ¬ (w_DUE_DATE = w_HOLD_SHELVED_FOR)) (ne_END_DATE_RENEWAL_COUNT : ¬ (w_END_DATE = w_RENEWAL_COUNT)) (ne_END_DATE_HOLD_SHELVED_FOR : ¬ (w_END_DATE = w_HOLD_SHELVED_FOR)) (ne_RENEWAL_COUNT_HOLD_SHELVED_FOR : ¬ (w_RENEWAL_COUNT = w_HOLD_SHELVED_FOR)) :
    MetFree l x (head1 (Jvm.Cond.code x code maxLocals ret :: ws) room_1) (fun a U => a = #[(.int p1)] ∧ Z.Warmed39 U.vm ∧ U.heap = h0) (fun _ _ _ _ _ => True) (fun _ U o U' => ∃ v L, o = .returned v ∧ own_Q0 n0 v L ∧ FrameEnd U o U' L room_1.cells room_1.slots) := by
  refine MetFree.of_bodySF (plainFor_of_name own_pn0) hisR ?_
  intro p e s m args below meth c s₁ Bd hml0 hP hK
  obtain ⟨rfl, hZ, hh⟩ := hP
  have hx := Bd.exec
  have hby := Bd.bytes
  have hml : c.maxLocals = 3 := hml0
  have hown : s.vm.findClass "com/example/grace_period/graceperiod/core/LoanFieldIsOptionalPinLaw" = some m.cls := findClass_of_methodNamed Bd.named
  have hnm := (name_of_methodNamed Bd.named Bd.method).1
  have X0 : Stand p l e room_1 s m #[(.int p1)] below meth c s₁ [] 0 0 := Stand.of_body Bd
  have e0 : s₁.heap = h0 := by rw [← hh, Bd.state]; rfl
  have N0 := Fr.nil n0
  have k0 : own_To p.tables e below (s₁.setTop (entryFrame m #[(.int p1)] maxLocals)) s₁ (mkF m 0 #[.val (.int p1), .unset, .unset] []) := fun t k => castTop (own_ef0 m p1) k
  have k1 : own_To p.tables e below (s₁.setTop (entryFrame m #[(.int p1)] maxLocals)) s₁ (mkF m 1 #[.val (.int p1), .unset, .unset] [(.int p1)]) := fun t k => k0 t (XS.iloadN X0.here hx rfl (hb hby at_0) rfl k)
  have k2 : own_To p.tables e below (s₁.setTop (entryFrame m #[(.int p1)] maxLocals)) s₁ (mkF m 3 #[.val (.int p1), .unset, .unset] [(.int (7 : Int32)), (.int p1)]) := fun t k => k1 t (XS.bipush X0.here hx rfl (hb hby at_1) k)
  have k3 : own_To p.tables e below (s₁.setTop (entryFrame m #[(.int p1)] maxLocals)) s₁ (mkF m 4 #[.val (.int p1), .unset, .unset] [(.int (p1 &&& (7 : Int32)))]) := fun t k => k2 t (XS.iand X0.here hx rfl (hb hby at_3) rfl k)
  have k4 : own_To p.tables e below (s₁.setTop (entryFrame m #[(.int p1)] maxLocals)) s₁ (mkF m 5 #[.val (.int p1), .val (.int (p1 &&& (7 : Int32))), .unset] []) := fun t k => k3 t (XS.istoreN X0.here hx rfl (hb hby at_4) rfl (l' := #[.val (.int p1), .val (.int (p1 &&& (7 : Int32))), .unset]) rfl k)
  have k5 : own_To p.tables e below (s₁.setTop (entryFrame m #[(.int p1)] maxLocals)) s₁ (mkF m 6 #[.val (.int p1), .val (.int (p1 &&& (7 : Int32))), .unset] [(.int (p1 &&& (7 : Int32)))]) := fun t k => k4 t (XS.iloadN X0.here hx rfl (hb hby at_5) rfl k)
  by_cases hc6 : (p1 &&& (7 : Int32)) = (0 : Int32)
  · obtain ⟨_, _, ⟨T7, L7, k7, n7⟩, -, X7, ⟨Lc7, hQ7, l7, y7, z7⟩, st7⟩ := Jvm.LawKit.callS X0 hx (y := (⟨"com/example/grace_period/graceperiod/core/LoanFieldIsOptionalPinLaw", "pick", "(I)Lcom/example/grace_period/graceperiod/core/LoanField;"⟩ : MethodName)) hown (mvT hZ (hw _ (List.mem_of_getElem? (i := 0) rfl))) (mvT hZ (hw _ (List.mem_of_getElem? (i := 1) rfl))) (mvT hZ (hw _ (List.mem_of_getElem? (i := 2) rfl))) (mvT hZ (hw _ (List.mem_of_getElem? (i := 3) rfl))) (by decide) (backOf (W := 0) (own_m1 l Z a0 hw [] (p1 &&& (7 : Int32)) w_ID w_PATRON_ID w_ITEM_ID w_START_DATE w_DUE_DATE w_END_DATE w_RENEWAL_COUNT w_HOLD_SHELVED_FOR h0 n0 Z0 S_ID S_PATRON_ID S_ITEM_ID S_START_DATE S_DUE_DATE S_END_DATE S_RENEWAL_COUNT S_HOLD_SHELVED_FOR) hZ (hw _ (List.mem_of_getElem? (i := 3) rfl)) (hw _ (List.mem_of_getElem? (i := 2) rfl)) (by decide) (by decide)) (g := (mkF m 6 #[.val (.int p1), .val (.int (p1 &&& (7 : Int32))), .unset] [(.int (p1 &&& (7 : Int32)))])) rfl (by rw [hml]; rfl) (argsL := [(.int (p1 &&& (7 : Int32)))]) (rest := []) (lenOf own_pd0 rfl) rfl (by show 2 * 0 + _ ≤ _; exact Nat.le_of_eq rfl) (hb hby at_6) (fun _ _ => ⟨rfl, e0, (by decide : 0 + 0 ≤ _), (by decide : 0 + 0 ≤ _)⟩)
    dsimp only [Pt.U, Pt.locs, Pt.cells, Pt.slots] at X7 l7 y7 z7 st7 hQ7
    subst l7 y7 z7
    rw [show own_f1 (p1 &&& (7 : Int32)) w_ID w_PATRON_ID w_ITEM_ID w_START_DATE w_DUE_DATE w_END_DATE w_RENEWAL_COUNT w_HOLD_SHELVED_FOR = w_ID from by unfold own_f1; rw [if_pos (show (p1 &&& (7 : Int32)) = (0 : Int32) from hc6)]] at hQ7
    obtain ⟨rfl, N7q, e7⟩ := hQ7
    have N7 := Fr.app N0 N7q
    have k8 : own_To p.tables e below (s₁.setTop (entryFrame m #[(.int p1)] maxLocals)) T7 (mkF m 9 #[.val (.int p1), .val (.int (p1 &&& (7 : Int32))), .unset] [(.ref w_ID)]) := fun t k => k5 t (st7 t k)
    have k9 : own_To p.tables e below (s₁.setTop (entryFrame m #[(.int p1)] maxLocals)) T7 (mkF m 10 #[.val (.int p1), .val (.int (p1 &&& (7 : Int32))), .val (.ref w_ID)] []) := fun t k => k8 t (XS.astoreN X7.here hx rfl (hb hby at_9) rfl rfl (l' := #[.val (.int p1), .val (.int (p1 &&& (7 : Int32))), .val (.ref w_ID)]) rfl k)
    have k10 : own_To p.tables e below (s₁.setTop (entryFrame m #[(.int p1)] maxLocals)) T7 (mkF m 11 #[.val (.int p1), .val (.int (p1 &&& (7 : Int32))), .val (.ref w_ID)] [(.ref w_ID)]) := fun t k => k9 t (XS.aloadN X7.here hx rfl (hb hby at_10) rfl rfl k)
    obtain ⟨cq11, kq11, q11a, q11b, q11c⟩ := isOf hZ e7 E_w_ID
    obtain ⟨_, _, ⟨T11, L11, k11, n11⟩, -, X11, ⟨Lc11, hQ11, l11, y11, z11⟩, st11⟩ := X7.virtualBack hx (y := (⟨"com/example/grace_period/graceperiod/core/LoanField", "isOptional", "()Z"⟩ : MethodName)) (z := (⟨"com/example/grace_period/graceperiod/core/LoanField", "isOptional", "()Z"⟩ : MethodName)) hown (mvT hZ (hw _ (List.mem_of_getElem? (i := 7) rfl))) (mvT hZ (hw _ (List.mem_of_getElem? (i := 8) rfl))) (notFace_of_selects (args := #[]) (mvT hZ (hw _ (List.mem_of_getElem? (i := 10) rfl)))) (mvT hZ (hw _ (List.mem_of_getElem? (i := 10) rfl))) (mvT hZ (hw _ (List.mem_of_getElem? (i := 9) rfl))) (by decide) (backOf (W := 0) (own_m2 l Z a0 hw [] w_ID w_END_DATE w_HOLD_SHELVED_FOR h0 n0 Z0 S_END_DATE S_HOLD_SHELVED_FOR) hZ (hw _ (List.mem_of_getElem? (i := 11) rfl)) (hw _ (List.mem_of_getElem? (i := 5) rfl)) (by decide) (by decide)) q11a q11c (g := (mkF m 11 #[.val (.int p1), .val (.int (p1 &&& (7 : Int32))), .val (.ref w_ID)] [(.ref w_ID)])) rfl (by rw [hml]; rfl) (Steps.refl _) (argsL := []) (rest := []) (lenOf own_pd1 rfl) rfl (by show 2 * 0 + _ ≤ _; exact Nat.le_of_eq rfl) (hb hby at_11) (fun _ _ => ⟨rfl, e7, (by decide : 0 + 0 ≤ _), (by decide : 0 + 0 ≤ _)⟩)
    dsimp only [Pt.U, Pt.locs, Pt.cells, Pt.slots] at X11 l11 y11 z11 st11 hQ11
    subst l11 y11 z11
    rw [show own_f2 w_ID w_END_DATE w_HOLD_SHELVED_FOR = (0 : Int32) from by unfold own_f2; rw [if_neg (show ¬ (w_ID = w_END_DATE) from ne_ID_END_DATE), if_neg (show ¬ (w_ID = w_HOLD_SHELVED_FOR) from ne_ID_HOLD_SHELVED_FOR)]] at hQ11
    obtain ⟨rfl, N11q, e11⟩ := hQ11
    have N11 := Fr.app N7 N11q
    have k12 : own_To p.tables e below (s₁.setTop (entryFrame m #[(.int p1)] maxLocals)) T11 (mkF m 14 #[.val (.int p1), .val (.int (p1 &&& (7 : Int32))), .val (.ref w_ID)] [(.int (0 : Int32))]) := fun t k => k10 t (st11.trans k)
    have k13 : own_To p.tables e below (s₁.setTop (entryFrame m #[(.int p1)] maxLocals)) T11 (mkF m 15 #[.val (.int p1), .val (.int (p1 &&& (7 : Int32))), .val (.ref w_ID)] [(.int (p1 &&& (7 : Int32))), (.int (0 : Int32))]) := fun t k => k12 t (XS.iloadN X11.here hx rfl (hb hby at_14) rfl k)
    obtain ⟨_, _, ⟨T14, L14, k14, n14⟩, -, X14, ⟨Lc14, hQ14, l14, y14, z14⟩, st14⟩ := Jvm.LawKit.callS X11 hx (y := (⟨"com/example/grace_period/graceperiod/core/LoanFieldIsOptionalPinLaw", "expectedOptional", "(I)Z"⟩ : MethodName)) hown (mvT hZ (hw _ (List.mem_of_getElem? (i := 16) rfl))) (mvT hZ (hw _ (List.mem_of_getElem? (i := 17) rfl))) (mvT hZ (hw _ (List.mem_of_getElem? (i := 2) rfl))) (mvT hZ (hw _ (List.mem_of_getElem? (i := 18) rfl))) (by decide) (backOf (W := 1) (own_m3 l Z a0 hw [] (p1 &&& (7 : Int32)) h0 n0 Z0 ) hZ (hw _ (List.mem_of_getElem? (i := 18) rfl)) (hw _ (List.mem_of_getElem? (i := 2) rfl)) (by decide) (by decide)) (g := (mkF m 15 #[.val (.int p1), .val (.int (p1 &&& (7 : Int32))), .val (.ref w_ID)] [(.int (p1 &&& (7 : Int32))), (.int (0 : Int32))])) rfl (by rw [hml]; rfl) (argsL := [(.int (p1 &&& (7 : Int32)))]) (rest := [(.int (0 : Int32))]) (lenOf own_pd2 rfl) rfl (by show 2 * 0 + _ ≤ _; exact Nat.le_of_eq rfl) (hb hby at_15) (fun _ _ => ⟨rfl, e11, (by decide : 0 + 0 ≤ _), (by decide : 0 + 0 ≤ _)⟩)
    dsimp only [Pt.U, Pt.locs, Pt.cells, Pt.slots] at X14 l14 y14 z14 st14 hQ14
    subst l14 y14 z14
    rw [show own_f3 (p1 &&& (7 : Int32)) = (0 : Int32) from by unfold own_f3; rw [if_pos (show (p1 &&& (7 : Int32)) = (0 : Int32) from hc6)]] at hQ14
    obtain ⟨rfl, N14q, e14⟩ := hQ14
    have N14 := Fr.app N11 N14q
    have k15 : own_To p.tables e below (s₁.setTop (entryFrame m #[(.int p1)] maxLocals)) T14 (mkF m 18 #[.val (.int p1), .val (.int (p1 &&& (7 : Int32))), .val (.ref w_ID)] [(.int (0 : Int32)), (.int (0 : Int32))]) := fun t k => k13 t (st14 t k)
    have k16 : own_To p.tables e below (s₁.setTop (entryFrame m #[(.int p1)] maxLocals)) T14 (mkF m 21 #[.val (.int p1), .val (.int (p1 &&& (7 : Int32))), .val (.ref w_ID)] []) := fun t k => k15 t (XS.icmpNo X14.here hx rfl (hb hby at_18) rfl (teq (show (0 : Int32) = (0 : Int32) from (by decide))).2 k)
    have k17 : own_To p.tables e below (s₁.setTop (entryFrame m #[(.int p1)] maxLocals)) T14 (mkF m 22 #[.val (.int p1), .val (.int (p1 &&& (7 : Int32))), .val (.ref w_ID)] [(.int (1 : Int32))]) := fun t k => k16 t (XS.iconst X14.here hx rfl (hb hby at_21) k)
    have k18 : own_To p.tables e below (s₁.setTop (entryFrame m #[(.int p1)] maxLocals)) T14 (mkF m 26 #[.val (.int p1), .val (.int (p1 &&& (7 : Int32))), .val (.ref w_ID)] [(.int (1 : Int32))]) := fun t k => k17 t (XS.goto X14.here hx rfl (pc0 := 22) (pc' := 26) rfl (hb hby at_22) (by decide) (by decide) k)
    obtain ⟨fs, hr, hrun, hended, hW, hsame⟩ := X14.leave (v := some (.int (1 : Int32))) (fun h => by rw [Bd.returns] at h; cases h)
    refine ⟨_, _, k18 _ ?_, hrun, hended, _, _, rfl, ?_, ⟨_, rfl⟩, hW, hsame.mono (by decide) (by decide)⟩
    · exact retN X14 hx (t := .boolean) Bd.returns (by simp) (hb hby at_26) hr
    · exact ⟨rfl, N14⟩
  · by_cases hc19 : (p1 &&& (7 : Int32)) = (1 : Int32)
    · obtain ⟨_, _, ⟨T20, L20, k20, n20⟩, -, X20, ⟨Lc20, hQ20, l20, y20, z20⟩, st20⟩ := Jvm.LawKit.callS X0 hx (y := (⟨"com/example/grace_period/graceperiod/core/LoanFieldIsOptionalPinLaw", "pick", "(I)Lcom/example/grace_period/graceperiod/core/LoanField;"⟩ : MethodName)) hown (mvT hZ (hw _ (List.mem_of_getElem? (i := 0) rfl))) (mvT hZ (hw _ (List.mem_of_getElem? (i := 1) rfl))) (mvT hZ (hw _ (List.mem_of_getElem? (i := 2) rfl))) (mvT hZ (hw _ (List.mem_of_getElem? (i := 3) rfl))) (by decide) (backOf (W := 0) (own_m1 l Z a0 hw [] (p1 &&& (7 : Int32)) w_ID w_PATRON_ID w_ITEM_ID w_START_DATE w_DUE_DATE w_END_DATE w_RENEWAL_COUNT w_HOLD_SHELVED_FOR h0 n0 Z0 S_ID S_PATRON_ID S_ITEM_ID S_START_DATE S_DUE_DATE S_END_DATE S_RENEWAL_COUNT S_HOLD_SHELVED_FOR) hZ (hw _ (List.mem_of_getElem? (i := 3) rfl)) (hw _ (List.mem_of_getElem? (i := 2) rfl)) (by decide) (by decide)) (g := (mkF m 6 #[.val (.int p1), .val (.int (p1 &&& (7 : Int32))), .unset] [(.int (p1 &&& (7 : Int32)))])) rfl (by rw [hml]; rfl) (argsL := [(.int (p1 &&& (7 : Int32)))]) (rest := []) (lenOf own_pd0 rfl) rfl (by show 2 * 0 + _ ≤ _; exact Nat.le_of_eq rfl) (hb hby at_6) (fun _ _ => ⟨rfl, e0, (by decide : 0 + 0 ≤ _), (by decide : 0 + 0 ≤ _)⟩)
      dsimp only [Pt.U, Pt.locs, Pt.cells, Pt.slots] at X20 l20 y20 z20 st20 hQ20
      subst l20 y20 z20
      rw [show own_f1 (p1 &&& (7 : Int32)) w_ID w_PATRON_ID w_ITEM_ID w_START_DATE w_DUE_DATE w_END_DATE w_RENEWAL_COUNT w_HOLD_SHELVED_FOR = w_PATRON_ID from by unfold own_f1; rw [if_neg (show ¬ ((p1 &&& (7 : Int32)) = (0 : Int32)) from hc6), if_pos (show (p1 &&& (7 : Int32)) = (1 : Int32) from hc19)]] at hQ20
      obtain ⟨rfl, N20q, e20⟩ := hQ20
      have N20 := Fr.app N0 N20q
      have k21 : own_To p.tables e below (s₁.setTop (entryFrame m #[(.int p1)] maxLocals)) T20 (mkF m 9 #[.val (.int p1), .val (.int (p1 &&& (7 : Int32))), .unset] [(.ref w_PATRON_ID)]) := fun t k => k5 t (st20 t k)
      have k22 : own_To p.tables e below (s₁.setTop (entryFrame m #[(.int p1)] maxLocals)) T20 (mkF m 10 #[.val (.int p1), .val (.int (p1 &&& (7 : Int32))), .val (.ref w_PATRON_ID)] []) := fun t k => k21 t (XS.astoreN X20.here hx rfl (hb hby at_9) rfl rfl (l' := #[.val (.int p1), .val (.int (p1 &&& (7 : Int32))), .val (.ref w_PATRON_ID)]) rfl k)
      have k23 : own_To p.tables e below (s₁.setTop (entryFrame m #[(.int p1)] maxLocals)) T20 (mkF m 11 #[.val (.int p1), .val (.int (p1 &&& (7 : Int32))), .val (.ref w_PATRON_ID)] [(.ref w_PATRON_ID)]) := fun t k => k22 t (XS.aloadN X20.here hx rfl (hb hby at_10) rfl rfl k)
      obtain ⟨cq24, kq24, q24a, q24b, q24c⟩ := isOf hZ e20 E_w_PATRON_ID
      obtain ⟨_, _, ⟨T24, L24, k24, n24⟩, -, X24, ⟨Lc24, hQ24, l24, y24, z24⟩, st24⟩ := X20.virtualBack hx (y := (⟨"com/example/grace_period/graceperiod/core/LoanField", "isOptional", "()Z"⟩ : MethodName)) (z := (⟨"com/example/grace_period/graceperiod/core/LoanField", "isOptional", "()Z"⟩ : MethodName)) hown (mvT hZ (hw _ (List.mem_of_getElem? (i := 7) rfl))) (mvT hZ (hw _ (List.mem_of_getElem? (i := 8) rfl))) (notFace_of_selects (args := #[]) (mvT hZ (hw _ (List.mem_of_getElem? (i := 10) rfl)))) (mvT hZ (hw _ (List.mem_of_getElem? (i := 10) rfl))) (mvT hZ (hw _ (List.mem_of_getElem? (i := 9) rfl))) (by decide) (backOf (W := 0) (own_m2 l Z a0 hw [] w_PATRON_ID w_END_DATE w_HOLD_SHELVED_FOR h0 n0 Z0 S_END_DATE S_HOLD_SHELVED_FOR) hZ (hw _ (List.mem_of_getElem? (i := 11) rfl)) (hw _ (List.mem_of_getElem? (i := 5) rfl)) (by decide) (by decide)) q24a q24c (g := (mkF m 11 #[.val (.int p1), .val (.int (p1 &&& (7 : Int32))), .val (.ref w_PATRON_ID)] [(.ref w_PATRON_ID)])) rfl (by rw [hml]; rfl) (Steps.refl _) (argsL := []) (rest := []) (lenOf own_pd1 rfl) rfl (by show 2 * 0 + _ ≤ _; exact Nat.le_of_eq rfl) (hb hby at_11) (fun _ _ => ⟨rfl, e20, (by decide : 0 + 0 ≤ _), (by decide : 0 + 0 ≤ _)⟩)
      dsimp only [Pt.U, Pt.locs, Pt.cells, Pt.slots] at X24 l24 y24 z24 st24 hQ24
      subst l24 y24 z24
      rw [show own_f2 w_PATRON_ID w_END_DATE w_HOLD_SHELVED_FOR = (0 : Int32) from by unfold own_f2; rw [if_neg (show ¬ (w_PATRON_ID = w_END_DATE) from ne_PATRON_ID_END_DATE), if_neg (show ¬ (w_PATRON_ID = w_HOLD_SHELVED_FOR) from ne_PATRON_ID_HOLD_SHELVED_FOR)]] at hQ24
      obtain ⟨rfl, N24q, e24⟩ := hQ24
      have N24 := Fr.app N20 N24q
      have k25 : own_To p.tables e below (s₁.setTop (entryFrame m #[(.int p1)] maxLocals)) T24 (mkF m 14 #[.val (.int p1), .val (.int (p1 &&& (7 : Int32))), .val (.ref w_PATRON_ID)] [(.int (0 : Int32))]) := fun t k => k23 t (st24.trans k)
      have k26 : own_To p.tables e below (s₁.setTop (entryFrame m #[(.int p1)] maxLocals)) T24 (mkF m 15 #[.val (.int p1), .val (.int (p1 &&& (7 : Int32))), .val (.ref w_PATRON_ID)] [(.int (p1 &&& (7 : Int32))), (.int (0 : Int32))]) := fun t k => k25 t (XS.iloadN X24.here hx rfl (hb hby at_14) rfl k)
      obtain ⟨_, _, ⟨T27, L27, k27, n27⟩, -, X27, ⟨Lc27, hQ27, l27, y27, z27⟩, st27⟩ := Jvm.LawKit.callS X24 hx (y := (⟨"com/example/grace_period/graceperiod/core/LoanFieldIsOptionalPinLaw", "expectedOptional", "(I)Z"⟩ : MethodName)) hown (mvT hZ (hw _ (List.mem_of_getElem? (i := 16) rfl))) (mvT hZ (hw _ (List.mem_of_getElem? (i := 17) rfl))) (mvT hZ (hw _ (List.mem_of_getElem? (i := 2) rfl))) (mvT hZ (hw _ (List.mem_of_getElem? (i := 18) rfl))) (by decide) (backOf (W := 1) (own_m3 l Z a0 hw [] (p1 &&& (7 : Int32)) h0 n0 Z0 ) hZ (hw _ (List.mem_of_getElem? (i := 18) rfl)) (hw _ (List.mem_of_getElem? (i := 2) rfl)) (by decide) (by decide)) (g := (mkF m 15 #[.val (.int p1), .val (.int (p1 &&& (7 : Int32))), .val (.ref w_PATRON_ID)] [(.int (p1 &&& (7 : Int32))), (.int (0 : Int32))])) rfl (by rw [hml]; rfl) (argsL := [(.int (p1 &&& (7 : Int32)))]) (rest := [(.int (0 : Int32))]) (lenOf own_pd2 rfl) rfl (by show 2 * 0 + _ ≤ _; exact Nat.le_of_eq rfl) (hb hby at_15) (fun _ _ => ⟨rfl, e24, (by decide : 0 + 0 ≤ _), (by decide : 0 + 0 ≤ _)⟩)
      dsimp only [Pt.U, Pt.locs, Pt.cells, Pt.slots] at X27 l27 y27 z27 st27 hQ27
      subst l27 y27 z27
      rw [show own_f3 (p1 &&& (7 : Int32)) = (0 : Int32) from by unfold own_f3; rw [if_neg (show ¬ ((p1 &&& (7 : Int32)) = (0 : Int32)) from hc6), if_pos (show (p1 &&& (7 : Int32)) = (1 : Int32) from hc19)]] at hQ27
      obtain ⟨rfl, N27q, e27⟩ := hQ27
      have N27 := Fr.app N24 N27q
      have k28 : own_To p.tables e below (s₁.setTop (entryFrame m #[(.int p1)] maxLocals)) T27 (mkF m 18 #[.val (.int p1), .val (.int (p1 &&& (7 : Int32))), .val (.ref w_PATRON_ID)] [(.int (0 : Int32)), (.int (0 : Int32))]) := fun t k => k26 t (st27 t k)
      have k29 : own_To p.tables e below (s₁.setTop (entryFrame m #[(.int p1)] maxLocals)) T27 (mkF m 21 #[.val (.int p1), .val (.int (p1 &&& (7 : Int32))), .val (.ref w_PATRON_ID)] []) := fun t k => k28 t (XS.icmpNo X27.here hx rfl (hb hby at_18) rfl (teq (show (0 : Int32) = (0 : Int32) from (by decide))).2 k)
      have k30 : own_To p.tables e below (s₁.setTop (entryFrame m #[(.int p1)] maxLocals)) T27 (mkF m 22 #[.val (.int p1), .val (.int (p1 &&& (7 : Int32))), .val (.ref w_PATRON_ID)] [(.int (1 : Int32))]) := fun t k => k29 t (XS.iconst X27.here hx rfl (hb hby at_21) k)
      have k31 : own_To p.tables e below (s₁.setTop (entryFrame m #[(.int p1)] maxLocals)) T27 (mkF m 26 #[.val (.int p1), .val (.int (p1 &&& (7 : Int32))), .val (.ref w_PATRON_ID)] [(.int (1 : Int32))]) := fun t k => k30 t (XS.goto X27.here hx rfl (pc0 := 22) (pc' := 26) rfl (hb hby at_22) (by decide) (by decide) k)
      obtain ⟨fs, hr, hrun, hended, hW, hsame⟩ := X27.leave (v := some (.int (1 : Int32))) (fun h => by rw [Bd.returns] at h; cases h)
      refine ⟨_, _, k31 _ ?_, hrun, hended, _, _, rfl, ?_, ⟨_, rfl⟩, hW, hsame.mono (by decide) (by decide)⟩
      · exact retN X27 hx (t := .boolean) Bd.returns (by simp) (hb hby at_26) hr
      · exact ⟨rfl, N27⟩
    · by_cases hc32 : (p1 &&& (7 : Int32)) = (2 : Int32)
      · obtain ⟨_, _, ⟨T33, L33, k33, n33⟩, -, X33, ⟨Lc33, hQ33, l33, y33, z33⟩, st33⟩ := Jvm.LawKit.callS X0 hx (y := (⟨"com/example/grace_period/graceperiod/core/LoanFieldIsOptionalPinLaw", "pick", "(I)Lcom/example/grace_period/graceperiod/core/LoanField;"⟩ : MethodName)) hown (mvT hZ (hw _ (List.mem_of_getElem? (i := 0) rfl))) (mvT hZ (hw _ (List.mem_of_getElem? (i := 1) rfl))) (mvT hZ (hw _ (List.mem_of_getElem? (i := 2) rfl))) (mvT hZ (hw _ (List.mem_of_getElem? (i := 3) rfl))) (by decide) (backOf (W := 0) (own_m1 l Z a0 hw [] (p1 &&& (7 : Int32)) w_ID w_PATRON_ID w_ITEM_ID w_START_DATE w_DUE_DATE w_END_DATE w_RENEWAL_COUNT w_HOLD_SHELVED_FOR h0 n0 Z0 S_ID S_PATRON_ID S_ITEM_ID S_START_DATE S_DUE_DATE S_END_DATE S_RENEWAL_COUNT S_HOLD_SHELVED_FOR) hZ (hw _ (List.mem_of_getElem? (i := 3) rfl)) (hw _ (List.mem_of_getElem? (i := 2) rfl)) (by decide) (by decide)) (g := (mkF m 6 #[.val (.int p1), .val (.int (p1 &&& (7 : Int32))), .unset] [(.int (p1 &&& (7 : Int32)))])) rfl (by rw [hml]; rfl) (argsL := [(.int (p1 &&& (7 : Int32)))]) (rest := []) (lenOf own_pd0 rfl) rfl (by show 2 * 0 + _ ≤ _; exact Nat.le_of_eq rfl) (hb hby at_6) (fun _ _ => ⟨rfl, e0, (by decide : 0 + 0 ≤ _), (by decide : 0 + 0 ≤ _)⟩)
        dsimp only [Pt.U, Pt.locs, Pt.cells, Pt.slots] at X33 l33 y33 z33 st33 hQ33
        subst l33 y33 z33
        rw [show own_f1 (p1 &&& (7 : Int32)) w_ID w_PATRON_ID w_ITEM_ID w_START_DATE w_DUE_DATE w_END_DATE w_RENEWAL_COUNT w_HOLD_SHELVED_FOR = w_ITEM_ID from by unfold own_f1; rw [if_neg (show ¬ ((p1 &&& (7 : Int32)) = (0 : Int32)) from hc6), if_neg (show ¬ ((p1 &&& (7 : Int32)) = (1 : Int32)) from hc19), if_pos (show (p1 &&& (7 : Int32)) = (2 : Int32) from hc32)]] at hQ33
        obtain ⟨rfl, N33q, e33⟩ := hQ33
        have N33 := Fr.app N0 N33q
        have k34 : own_To p.tables e below (s₁.setTop (entryFrame m #[(.int p1)] maxLocals)) T33 (mkF m 9 #[.val (.int p1), .val (.int (p1 &&& (7 : Int32))), .unset] [(.ref w_ITEM_ID)]) := fun t k => k5 t (st33 t k)
        have k35 : own_To p.tables e below (s₁.setTop (entryFrame m #[(.int p1)] maxLocals)) T33 (mkF m 10 #[.val (.int p1), .val (.int (p1 &&& (7 : Int32))), .val (.ref w_ITEM_ID)] []) := fun t k => k34 t (XS.astoreN X33.here hx rfl (hb hby at_9) rfl rfl (l' := #[.val (.int p1), .val (.int (p1 &&& (7 : Int32))), .val (.ref w_ITEM_ID)]) rfl k)
        have k36 : own_To p.tables e below (s₁.setTop (entryFrame m #[(.int p1)] maxLocals)) T33 (mkF m 11 #[.val (.int p1), .val (.int (p1 &&& (7 : Int32))), .val (.ref w_ITEM_ID)] [(.ref w_ITEM_ID)]) := fun t k => k35 t (XS.aloadN X33.here hx rfl (hb hby at_10) rfl rfl k)
        obtain ⟨cq37, kq37, q37a, q37b, q37c⟩ := isOf hZ e33 E_w_ITEM_ID
        obtain ⟨_, _, ⟨T37, L37, k37, n37⟩, -, X37, ⟨Lc37, hQ37, l37, y37, z37⟩, st37⟩ := X33.virtualBack hx (y := (⟨"com/example/grace_period/graceperiod/core/LoanField", "isOptional", "()Z"⟩ : MethodName)) (z := (⟨"com/example/grace_period/graceperiod/core/LoanField", "isOptional", "()Z"⟩ : MethodName)) hown (mvT hZ (hw _ (List.mem_of_getElem? (i := 7) rfl))) (mvT hZ (hw _ (List.mem_of_getElem? (i := 8) rfl))) (notFace_of_selects (args := #[]) (mvT hZ (hw _ (List.mem_of_getElem? (i := 10) rfl)))) (mvT hZ (hw _ (List.mem_of_getElem? (i := 10) rfl))) (mvT hZ (hw _ (List.mem_of_getElem? (i := 9) rfl))) (by decide) (backOf (W := 0) (own_m2 l Z a0 hw [] w_ITEM_ID w_END_DATE w_HOLD_SHELVED_FOR h0 n0 Z0 S_END_DATE S_HOLD_SHELVED_FOR) hZ (hw _ (List.mem_of_getElem? (i := 11) rfl)) (hw _ (List.mem_of_getElem? (i := 5) rfl)) (by decide) (by decide)) q37a q37c (g := (mkF m 11 #[.val (.int p1), .val (.int (p1 &&& (7 : Int32))), .val (.ref w_ITEM_ID)] [(.ref w_ITEM_ID)])) rfl (by rw [hml]; rfl) (Steps.refl _) (argsL := []) (rest := []) (lenOf own_pd1 rfl) rfl (by show 2 * 0 + _ ≤ _; exact Nat.le_of_eq rfl) (hb hby at_11) (fun _ _ => ⟨rfl, e33, (by decide : 0 + 0 ≤ _), (by decide : 0 + 0 ≤ _)⟩)
        dsimp only [Pt.U, Pt.locs, Pt.cells, Pt.slots] at X37 l37 y37 z37 st37 hQ37
        subst l37 y37 z37
        rw [show own_f2 w_ITEM_ID w_END_DATE w_HOLD_SHELVED_FOR = (0 : Int32) from by unfold own_f2; rw [if_neg (show ¬ (w_ITEM_ID = w_END_DATE) from ne_ITEM_ID_END_DATE), if_neg (show ¬ (w_ITEM_ID = w_HOLD_SHELVED_FOR) from ne_ITEM_ID_HOLD_SHELVED_FOR)]] at hQ37
        obtain ⟨rfl, N37q, e37⟩ := hQ37
        have N37 := Fr.app N33 N37q
        have k38 : own_To p.tables e below (s₁.setTop (entryFrame m #[(.int p1)] maxLocals)) T37 (mkF m 14 #[.val (.int p1), .val (.int (p1 &&& (7 : Int32))), .val (.ref w_ITEM_ID)] [(.int (0 : Int32))]) := fun t k => k36 t (st37.trans k)
        have k39 : own_To p.tables e below (s₁.setTop (entryFrame m #[(.int p1)] maxLocals)) T37 (mkF m 15 #[.val (.int p1), .val (.int (p1 &&& (7 : Int32))), .val (.ref w_ITEM_ID)] [(.int (p1 &&& (7 : Int32))), (.int (0 : Int32))]) := fun t k => k38 t (XS.iloadN X37.here hx rfl (hb hby at_14) rfl k)
        obtain ⟨_, _, ⟨T40, L40, k40, n40⟩, -, X40, ⟨Lc40, hQ40, l40, y40, z40⟩, st40⟩ := Jvm.LawKit.callS X37 hx (y := (⟨"com/example/grace_period/graceperiod/core/LoanFieldIsOptionalPinLaw", "expectedOptional", "(I)Z"⟩ : MethodName)) hown (mvT hZ (hw _ (List.mem_of_getElem? (i := 16) rfl))) (mvT hZ (hw _ (List.mem_of_getElem? (i := 17) rfl))) (mvT hZ (hw _ (List.mem_of_getElem? (i := 2) rfl))) (mvT hZ (hw _ (List.mem_of_getElem? (i := 18) rfl))) (by decide) (backOf (W := 1) (own_m3 l Z a0 hw [] (p1 &&& (7 : Int32)) h0 n0 Z0 ) hZ (hw _ (List.mem_of_getElem? (i := 18) rfl)) (hw _ (List.mem_of_getElem? (i := 2) rfl)) (by decide) (by decide)) (g := (mkF m 15 #[.val (.int p1), .val (.int (p1 &&& (7 : Int32))), .val (.ref w_ITEM_ID)] [(.int (p1 &&& (7 : Int32))), (.int (0 : Int32))])) rfl (by rw [hml]; rfl) (argsL := [(.int (p1 &&& (7 : Int32)))]) (rest := [(.int (0 : Int32))]) (lenOf own_pd2 rfl) rfl (by show 2 * 0 + _ ≤ _; exact Nat.le_of_eq rfl) (hb hby at_15) (fun _ _ => ⟨rfl, e37, (by decide : 0 + 0 ≤ _), (by decide : 0 + 0 ≤ _)⟩)
        dsimp only [Pt.U, Pt.locs, Pt.cells, Pt.slots] at X40 l40 y40 z40 st40 hQ40
        subst l40 y40 z40
        rw [show own_f3 (p1 &&& (7 : Int32)) = (0 : Int32) from by unfold own_f3; rw [if_neg (show ¬ ((p1 &&& (7 : Int32)) = (0 : Int32)) from hc6), if_neg (show ¬ ((p1 &&& (7 : Int32)) = (1 : Int32)) from hc19), if_pos (show (p1 &&& (7 : Int32)) = (2 : Int32) from hc32)]] at hQ40
        obtain ⟨rfl, N40q, e40⟩ := hQ40
        have N40 := Fr.app N37 N40q
        have k41 : own_To p.tables e below (s₁.setTop (entryFrame m #[(.int p1)] maxLocals)) T40 (mkF m 18 #[.val (.int p1), .val (.int (p1 &&& (7 : Int32))), .val (.ref w_ITEM_ID)] [(.int (0 : Int32)), (.int (0 : Int32))]) := fun t k => k39 t (st40 t k)
        have k42 : own_To p.tables e below (s₁.setTop (entryFrame m #[(.int p1)] maxLocals)) T40 (mkF m 21 #[.val (.int p1), .val (.int (p1 &&& (7 : Int32))), .val (.ref w_ITEM_ID)] []) := fun t k => k41 t (XS.icmpNo X40.here hx rfl (hb hby at_18) rfl (teq (show (0 : Int32) = (0 : Int32) from (by decide))).2 k)
        have k43 : own_To p.tables e below (s₁.setTop (entryFrame m #[(.int p1)] maxLocals)) T40 (mkF m 22 #[.val (.int p1), .val (.int (p1 &&& (7 : Int32))), .val (.ref w_ITEM_ID)] [(.int (1 : Int32))]) := fun t k => k42 t (XS.iconst X40.here hx rfl (hb hby at_21) k)
        have k44 : own_To p.tables e below (s₁.setTop (entryFrame m #[(.int p1)] maxLocals)) T40 (mkF m 26 #[.val (.int p1), .val (.int (p1 &&& (7 : Int32))), .val (.ref w_ITEM_ID)] [(.int (1 : Int32))]) := fun t k => k43 t (XS.goto X40.here hx rfl (pc0 := 22) (pc' := 26) rfl (hb hby at_22) (by decide) (by decide) k)
        obtain ⟨fs, hr, hrun, hended, hW, hsame⟩ := X40.leave (v := some (.int (1 : Int32))) (fun h => by rw [Bd.returns] at h; cases h)
        refine ⟨_, _, k44 _ ?_, hrun, hended, _, _, rfl, ?_, ⟨_, rfl⟩, hW, hsame.mono (by decide) (by decide)⟩
        · exact retN X40 hx (t := .boolean) Bd.returns (by simp) (hb hby at_26) hr
        · exact ⟨rfl, N40⟩
      · by_cases hc45 : (p1 &&& (7 : Int32)) = (3 : Int32)
        · obtain ⟨_, _, ⟨T46, L46, k46, n46⟩, -, X46, ⟨Lc46, hQ46, l46, y46, z46⟩, st46⟩ := Jvm.LawKit.callS X0 hx (y := (⟨"com/example/grace_period/graceperiod/core/LoanFieldIsOptionalPinLaw", "pick", "(I)Lcom/example/grace_period/graceperiod/core/LoanField;"⟩ : MethodName)) hown (mvT hZ (hw _ (List.mem_of_getElem? (i := 0) rfl))) (mvT hZ (hw _ (List.mem_of_getElem? (i := 1) rfl))) (mvT hZ (hw _ (List.mem_of_getElem? (i := 2) rfl))) (mvT hZ (hw _ (List.mem_of_getElem? (i := 3) rfl))) (by decide) (backOf (W := 0) (own_m1 l Z a0 hw [] (p1 &&& (7 : Int32)) w_ID w_PATRON_ID w_ITEM_ID w_START_DATE w_DUE_DATE w_END_DATE w_RENEWAL_COUNT w_HOLD_SHELVED_FOR h0 n0 Z0 S_ID S_PATRON_ID S_ITEM_ID S_START_DATE S_DUE_DATE S_END_DATE S_RENEWAL_COUNT S_HOLD_SHELVED_FOR) hZ (hw _ (List.mem_of_getElem? (i := 3) rfl)) (hw _ (List.mem_of_getElem? (i := 2) rfl)) (by decide) (by decide)) (g := (mkF m 6 #[.val (.int p1), .val (.int (p1 &&& (7 : Int32))), .unset] [(.int (p1 &&& (7 : Int32)))])) rfl (by rw [hml]; rfl) (argsL := [(.int (p1 &&& (7 : Int32)))]) (rest := []) (lenOf own_pd0 rfl) rfl (by show 2 * 0 + _ ≤ _; exact Nat.le_of_eq rfl) (hb hby at_6) (fun _ _ => ⟨rfl, e0, (by decide : 0 + 0 ≤ _), (by decide : 0 + 0 ≤ _)⟩)
          dsimp only [Pt.U, Pt.locs, Pt.cells, Pt.slots] at X46 l46 y46 z46 st46 hQ46
          subst l46 y46 z46
          rw [show own_f1 (p1 &&& (7 : Int32)) w_ID w_PATRON_ID w_ITEM_ID w_START_DATE w_DUE_DATE w_END_DATE w_RENEWAL_COUNT w_HOLD_SHELVED_FOR = w_START_DATE from by unfold own_f1; rw [if_neg (show ¬ ((p1 &&& (7 : Int32)) = (0 : Int32)) from hc6), if_neg (show ¬ ((p1 &&& (7 : Int32)) = (1 : Int32)) from hc19), if_neg (show ¬ ((p1 &&& (7 : Int32)) = (2 : Int32)) from hc32), if_pos (show (p1 &&& (7 : Int32)) = (3 : Int32) from hc45)]] at hQ46
          obtain ⟨rfl, N46q, e46⟩ := hQ46
          have N46 := Fr.app N0 N46q
          have k47 : own_To p.tables e below (s₁.setTop (entryFrame m #[(.int p1)] maxLocals)) T46 (mkF m 9 #[.val (.int p1), .val (.int (p1 &&& (7 : Int32))), .unset] [(.ref w_START_DATE)]) := fun t k => k5 t (st46 t k)
          have k48 : own_To p.tables e below (s₁.setTop (entryFrame m #[(.int p1)] maxLocals)) T46 (mkF m 10 #[.val (.int p1), .val (.int (p1 &&& (7 : Int32))), .val (.ref w_START_DATE)] []) := fun t k => k47 t (XS.astoreN X46.here hx rfl (hb hby at_9) rfl rfl (l' := #[.val (.int p1), .val (.int (p1 &&& (7 : Int32))), .val (.ref w_START_DATE)]) rfl k)
          have k49 : own_To p.tables e below (s₁.setTop (entryFrame m #[(.int p1)] maxLocals)) T46 (mkF m 11 #[.val (.int p1), .val (.int (p1 &&& (7 : Int32))), .val (.ref w_START_DATE)] [(.ref w_START_DATE)]) := fun t k => k48 t (XS.aloadN X46.here hx rfl (hb hby at_10) rfl rfl k)
          obtain ⟨cq50, kq50, q50a, q50b, q50c⟩ := isOf hZ e46 E_w_START_DATE
          obtain ⟨_, _, ⟨T50, L50, k50, n50⟩, -, X50, ⟨Lc50, hQ50, l50, y50, z50⟩, st50⟩ := X46.virtualBack hx (y := (⟨"com/example/grace_period/graceperiod/core/LoanField", "isOptional", "()Z"⟩ : MethodName)) (z := (⟨"com/example/grace_period/graceperiod/core/LoanField", "isOptional", "()Z"⟩ : MethodName)) hown (mvT hZ (hw _ (List.mem_of_getElem? (i := 7) rfl))) (mvT hZ (hw _ (List.mem_of_getElem? (i := 8) rfl))) (notFace_of_selects (args := #[]) (mvT hZ (hw _ (List.mem_of_getElem? (i := 10) rfl)))) (mvT hZ (hw _ (List.mem_of_getElem? (i := 10) rfl))) (mvT hZ (hw _ (List.mem_of_getElem? (i := 9) rfl))) (by decide) (backOf (W := 0) (own_m2 l Z a0 hw [] w_START_DATE w_END_DATE w_HOLD_SHELVED_FOR h0 n0 Z0 S_END_DATE S_HOLD_SHELVED_FOR) hZ (hw _ (List.mem_of_getElem? (i := 11) rfl)) (hw _ (List.mem_of_getElem? (i := 5) rfl)) (by decide) (by decide)) q50a q50c (g := (mkF m 11 #[.val (.int p1), .val (.int (p1 &&& (7 : Int32))), .val (.ref w_START_DATE)] [(.ref w_START_DATE)])) rfl (by rw [hml]; rfl) (Steps.refl _) (argsL := []) (rest := []) (lenOf own_pd1 rfl) rfl (by show 2 * 0 + _ ≤ _; exact Nat.le_of_eq rfl) (hb hby at_11) (fun _ _ => ⟨rfl, e46, (by decide : 0 + 0 ≤ _), (by decide : 0 + 0 ≤ _)⟩)
          dsimp only [Pt.U, Pt.locs, Pt.cells, Pt.slots] at X50 l50 y50 z50 st50 hQ50
          subst l50 y50 z50
          rw [show own_f2 w_START_DATE w_END_DATE w_HOLD_SHELVED_FOR = (0 : Int32) from by unfold own_f2; rw [if_neg (show ¬ (w_START_DATE = w_END_DATE) from ne_START_DATE_END_DATE), if_neg (show ¬ (w_START_DATE = w_HOLD_SHELVED_FOR) from ne_START_DATE_HOLD_SHELVED_FOR)]] at hQ50
          obtain ⟨rfl, N50q, e50⟩ := hQ50
          have N50 := Fr.app N46 N50q
          have k51 : own_To p.tables e below (s₁.setTop (entryFrame m #[(.int p1)] maxLocals)) T50 (mkF m 14 #[.val (.int p1), .val (.int (p1 &&& (7 : Int32))), .val (.ref w_START_DATE)] [(.int (0 : Int32))]) := fun t k => k49 t (st50.trans k)
          have k52 : own_To p.tables e below (s₁.setTop (entryFrame m #[(.int p1)] maxLocals)) T50 (mkF m 15 #[.val (.int p1), .val (.int (p1 &&& (7 : Int32))), .val (.ref w_START_DATE)] [(.int (p1 &&& (7 : Int32))), (.int (0 : Int32))]) := fun t k => k51 t (XS.iloadN X50.here hx rfl (hb hby at_14) rfl k)
          obtain ⟨_, _, ⟨T53, L53, k53, n53⟩, -, X53, ⟨Lc53, hQ53, l53, y53, z53⟩, st53⟩ := Jvm.LawKit.callS X50 hx (y := (⟨"com/example/grace_period/graceperiod/core/LoanFieldIsOptionalPinLaw", "expectedOptional", "(I)Z"⟩ : MethodName)) hown (mvT hZ (hw _ (List.mem_of_getElem? (i := 16) rfl))) (mvT hZ (hw _ (List.mem_of_getElem? (i := 17) rfl))) (mvT hZ (hw _ (List.mem_of_getElem? (i := 2) rfl))) (mvT hZ (hw _ (List.mem_of_getElem? (i := 18) rfl))) (by decide) (backOf (W := 1) (own_m3 l Z a0 hw [] (p1 &&& (7 : Int32)) h0 n0 Z0 ) hZ (hw _ (List.mem_of_getElem? (i := 18) rfl)) (hw _ (List.mem_of_getElem? (i := 2) rfl)) (by decide) (by decide)) (g := (mkF m 15 #[.val (.int p1), .val (.int (p1 &&& (7 : Int32))), .val (.ref w_START_DATE)] [(.int (p1 &&& (7 : Int32))), (.int (0 : Int32))])) rfl (by rw [hml]; rfl) (argsL := [(.int (p1 &&& (7 : Int32)))]) (rest := [(.int (0 : Int32))]) (lenOf own_pd2 rfl) rfl (by show 2 * 0 + _ ≤ _; exact Nat.le_of_eq rfl) (hb hby at_15) (fun _ _ => ⟨rfl, e50, (by decide : 0 + 0 ≤ _), (by decide : 0 + 0 ≤ _)⟩)
          dsimp only [Pt.U, Pt.locs, Pt.cells, Pt.slots] at X53 l53 y53 z53 st53 hQ53
          subst l53 y53 z53
          rw [show own_f3 (p1 &&& (7 : Int32)) = (0 : Int32) from by unfold own_f3; rw [if_neg (show ¬ ((p1 &&& (7 : Int32)) = (0 : Int32)) from hc6), if_neg (show ¬ ((p1 &&& (7 : Int32)) = (1 : Int32)) from hc19), if_neg (show ¬ ((p1 &&& (7 : Int32)) = (2 : Int32)) from hc32), if_pos (show (p1 &&& (7 : Int32)) = (3 : Int32) from hc45)]] at hQ53
          obtain ⟨rfl, N53q, e53⟩ := hQ53
          have N53 := Fr.app N50 N53q
          have k54 : own_To p.tables e below (s₁.setTop (entryFrame m #[(.int p1)] maxLocals)) T53 (mkF m 18 #[.val (.int p1), .val (.int (p1 &&& (7 : Int32))), .val (.ref w_START_DATE)] [(.int (0 : Int32)), (.int (0 : Int32))]) := fun t k => k52 t (st53 t k)
          have k55 : own_To p.tables e below (s₁.setTop (entryFrame m #[(.int p1)] maxLocals)) T53 (mkF m 21 #[.val (.int p1), .val (.int (p1 &&& (7 : Int32))), .val (.ref w_START_DATE)] []) := fun t k => k54 t (XS.icmpNo X53.here hx rfl (hb hby at_18) rfl (teq (show (0 : Int32) = (0 : Int32) from (by decide))).2 k)
          have k56 : own_To p.tables e below (s₁.setTop (entryFrame m #[(.int p1)] maxLocals)) T53 (mkF m 22 #[.val (.int p1), .val (.int (p1 &&& (7 : Int32))), .val (.ref w_START_DATE)] [(.int (1 : Int32))]) := fun t k => k55 t (XS.iconst X53.here hx rfl (hb hby at_21) k)
          have k57 : own_To p.tables e below (s₁.setTop (entryFrame m #[(.int p1)] maxLocals)) T53 (mkF m 26 #[.val (.int p1), .val (.int (p1 &&& (7 : Int32))), .val (.ref w_START_DATE)] [(.int (1 : Int32))]) := fun t k => k56 t (XS.goto X53.here hx rfl (pc0 := 22) (pc' := 26) rfl (hb hby at_22) (by decide) (by decide) k)
          obtain ⟨fs, hr, hrun, hended, hW, hsame⟩ := X53.leave (v := some (.int (1 : Int32))) (fun h => by rw [Bd.returns] at h; cases h)
          refine ⟨_, _, k57 _ ?_, hrun, hended, _, _, rfl, ?_, ⟨_, rfl⟩, hW, hsame.mono (by decide) (by decide)⟩
          · exact retN X53 hx (t := .boolean) Bd.returns (by simp) (hb hby at_26) hr
          · exact ⟨rfl, N53⟩
        · by_cases hc58 : (p1 &&& (7 : Int32)) = (4 : Int32)
          · obtain ⟨_, _, ⟨T59, L59, k59, n59⟩, -, X59, ⟨Lc59, hQ59, l59, y59, z59⟩, st59⟩ := Jvm.LawKit.callS X0 hx (y := (⟨"com/example/grace_period/graceperiod/core/LoanFieldIsOptionalPinLaw", "pick", "(I)Lcom/example/grace_period/graceperiod/core/LoanField;"⟩ : MethodName)) hown (mvT hZ (hw _ (List.mem_of_getElem? (i := 0) rfl))) (mvT hZ (hw _ (List.mem_of_getElem? (i := 1) rfl))) (mvT hZ (hw _ (List.mem_of_getElem? (i := 2) rfl))) (mvT hZ (hw _ (List.mem_of_getElem? (i := 3) rfl))) (by decide) (backOf (W := 0) (own_m1 l Z a0 hw [] (p1 &&& (7 : Int32)) w_ID w_PATRON_ID w_ITEM_ID w_START_DATE w_DUE_DATE w_END_DATE w_RENEWAL_COUNT w_HOLD_SHELVED_FOR h0 n0 Z0 S_ID S_PATRON_ID S_ITEM_ID S_START_DATE S_DUE_DATE S_END_DATE S_RENEWAL_COUNT S_HOLD_SHELVED_FOR) hZ (hw _ (List.mem_of_getElem? (i := 3) rfl)) (hw _ (List.mem_of_getElem? (i := 2) rfl)) (by decide) (by decide)) (g := (mkF m 6 #[.val (.int p1), .val (.int (p1 &&& (7 : Int32))), .unset] [(.int (p1 &&& (7 : Int32)))])) rfl (by rw [hml]; rfl) (argsL := [(.int (p1 &&& (7 : Int32)))]) (rest := []) (lenOf own_pd0 rfl) rfl (by show 2 * 0 + _ ≤ _; exact Nat.le_of_eq rfl) (hb hby at_6) (fun _ _ => ⟨rfl, e0, (by decide : 0 + 0 ≤ _), (by decide : 0 + 0 ≤ _)⟩)
            dsimp only [Pt.U, Pt.locs, Pt.cells, Pt.slots] at X59 l59 y59 z59 st59 hQ59
            subst l59 y59 z59
            rw [show own_f1 (p1 &&& (7 : Int32)) w_ID w_PATRON_ID w_ITEM_ID w_START_DATE w_DUE_DATE w_END_DATE w_RENEWAL_COUNT w_HOLD_SHELVED_FOR = w_DUE_DATE from by unfold own_f1; rw [if_neg (show ¬ ((p1 &&& (7 : Int32)) = (0 : Int32)) from hc6), if_neg (show ¬ ((p1 &&& (7 : Int32)) = (1 : Int32)) from hc19), if_neg (show ¬ ((p1 &&& (7 : Int32)) = (2 : Int32)) from hc32), if_neg (show ¬ ((p1 &&& (7 : Int32)) = (3 : Int32)) from hc45), if_pos (show (p1 &&& (7 : Int32)) = (4 : Int32) from hc58)]] at hQ59
            obtain ⟨rfl, N59q, e59⟩ := hQ59
            have N59 := Fr.app N0 N59q
            have k60 : own_To p.tables e below (s₁.setTop (entryFrame m #[(.int p1)] maxLocals)) T59 (mkF m 9 #[.val (.int p1), .val (.int (p1 &&& (7 : Int32))), .unset] [(.ref w_DUE_DATE)]) := fun t k => k5 t (st59 t k)
            have k61 : own_To p.tables e below (s₁.setTop (entryFrame m #[(.int p1)] maxLocals)) T59 (mkF m 10 #[.val (.int p1), .val (.int (p1 &&& (7 : Int32))), .val (.ref w_DUE_DATE)] []) := fun t k => k60 t (XS.astoreN X59.here hx rfl (hb hby at_9) rfl rfl (l' := #[.val (.int p1), .val (.int (p1 &&& (7 : Int32))), .val (.ref w_DUE_DATE)]) rfl k)
            have k62 : own_To p.tables e below (s₁.setTop (entryFrame m #[(.int p1)] maxLocals)) T59 (mkF m 11 #[.val (.int p1), .val (.int (p1 &&& (7 : Int32))), .val (.ref w_DUE_DATE)] [(.ref w_DUE_DATE)]) := fun t k => k61 t (XS.aloadN X59.here hx rfl (hb hby at_10) rfl rfl k)
            obtain ⟨cq63, kq63, q63a, q63b, q63c⟩ := isOf hZ e59 E_w_DUE_DATE
            obtain ⟨_, _, ⟨T63, L63, k63, n63⟩, -, X63, ⟨Lc63, hQ63, l63, y63, z63⟩, st63⟩ := X59.virtualBack hx (y := (⟨"com/example/grace_period/graceperiod/core/LoanField", "isOptional", "()Z"⟩ : MethodName)) (z := (⟨"com/example/grace_period/graceperiod/core/LoanField", "isOptional", "()Z"⟩ : MethodName)) hown (mvT hZ (hw _ (List.mem_of_getElem? (i := 7) rfl))) (mvT hZ (hw _ (List.mem_of_getElem? (i := 8) rfl))) (notFace_of_selects (args := #[]) (mvT hZ (hw _ (List.mem_of_getElem? (i := 10) rfl)))) (mvT hZ (hw _ (List.mem_of_getElem? (i := 10) rfl))) (mvT hZ (hw _ (List.mem_of_getElem? (i := 9) rfl))) (by decide) (backOf (W := 0) (own_m2 l Z a0 hw [] w_DUE_DATE w_END_DATE w_HOLD_SHELVED_FOR h0 n0 Z0 S_END_DATE S_HOLD_SHELVED_FOR) hZ (hw _ (List.mem_of_getElem? (i := 11) rfl)) (hw _ (List.mem_of_getElem? (i := 5) rfl)) (by decide) (by decide)) q63a q63c (g := (mkF m 11 #[.val (.int p1), .val (.int (p1 &&& (7 : Int32))), .val (.ref w_DUE_DATE)] [(.ref w_DUE_DATE)])) rfl (by rw [hml]; rfl) (Steps.refl _) (argsL := []) (rest := []) (lenOf own_pd1 rfl) rfl (by show 2 * 0 + _ ≤ _; exact Nat.le_of_eq rfl) (hb hby at_11) (fun _ _ => ⟨rfl, e59, (by decide : 0 + 0 ≤ _), (by decide : 0 + 0 ≤ _)⟩)
            dsimp only [Pt.U, Pt.locs, Pt.cells, Pt.slots] at X63 l63 y63 z63 st63 hQ63
            subst l63 y63 z63
            rw [show own_f2 w_DUE_DATE w_END_DATE w_HOLD_SHELVED_FOR = (0 : Int32) from by unfold own_f2; rw [if_neg (show ¬ (w_DUE_DATE = w_END_DATE) from ne_DUE_DATE_END_DATE), if_neg (show ¬ (w_DUE_DATE = w_HOLD_SHELVED_FOR) from ne_DUE_DATE_HOLD_SHELVED_FOR)]] at hQ63
            obtain ⟨rfl, N63q, e63⟩ := hQ63
            have N63 := Fr.app N59 N63q
            have k64 : own_To p.tables e below (s₁.setTop (entryFrame m #[(.int p1)] maxLocals)) T63 (mkF m 14 #[.val (.int p1), .val (.int (p1 &&& (7 : Int32))), .val (.ref w_DUE_DATE)] [(.int (0 : Int32))]) := fun t k => k62 t (st63.trans k)
            have k65 : own_To p.tables e below (s₁.setTop (entryFrame m #[(.int p1)] maxLocals)) T63 (mkF m 15 #[.val (.int p1), .val (.int (p1 &&& (7 : Int32))), .val (.ref w_DUE_DATE)] [(.int (p1 &&& (7 : Int32))), (.int (0 : Int32))]) := fun t k => k64 t (XS.iloadN X63.here hx rfl (hb hby at_14) rfl k)
            obtain ⟨_, _, ⟨T66, L66, k66, n66⟩, -, X66, ⟨Lc66, hQ66, l66, y66, z66⟩, st66⟩ := Jvm.LawKit.callS X63 hx (y := (⟨"com/example/grace_period/graceperiod/core/LoanFieldIsOptionalPinLaw", "expectedOptional", "(I)Z"⟩ : MethodName)) hown (mvT hZ (hw _ (List.mem_of_getElem? (i := 16) rfl))) (mvT hZ (hw _ (List.mem_of_getElem? (i := 17) rfl))) (mvT hZ (hw _ (List.mem_of_getElem? (i := 2) rfl))) (mvT hZ (hw _ (List.mem_of_getElem? (i := 18) rfl))) (by decide) (backOf (W := 1) (own_m3 l Z a0 hw [] (p1 &&& (7 : Int32)) h0 n0 Z0 ) hZ (hw _ (List.mem_of_getElem? (i := 18) rfl)) (hw _ (List.mem_of_getElem? (i := 2) rfl)) (by decide) (by decide)) (g := (mkF m 15 #[.val (.int p1), .val (.int (p1 &&& (7 : Int32))), .val (.ref w_DUE_DATE)] [(.int (p1 &&& (7 : Int32))), (.int (0 : Int32))])) rfl (by rw [hml]; rfl) (argsL := [(.int (p1 &&& (7 : Int32)))]) (rest := [(.int (0 : Int32))]) (lenOf own_pd2 rfl) rfl (by show 2 * 0 + _ ≤ _; exact Nat.le_of_eq rfl) (hb hby at_15) (fun _ _ => ⟨rfl, e63, (by decide : 0 + 0 ≤ _), (by decide : 0 + 0 ≤ _)⟩)
            dsimp only [Pt.U, Pt.locs, Pt.cells, Pt.slots] at X66 l66 y66 z66 st66 hQ66
            subst l66 y66 z66
            rw [show own_f3 (p1 &&& (7 : Int32)) = (0 : Int32) from by unfold own_f3; rw [if_neg (show ¬ ((p1 &&& (7 : Int32)) = (0 : Int32)) from hc6), if_neg (show ¬ ((p1 &&& (7 : Int32)) = (1 : Int32)) from hc19), if_neg (show ¬ ((p1 &&& (7 : Int32)) = (2 : Int32)) from hc32), if_neg (show ¬ ((p1 &&& (7 : Int32)) = (3 : Int32)) from hc45), if_pos (show (p1 &&& (7 : Int32)) = (4 : Int32) from hc58)]] at hQ66
            obtain ⟨rfl, N66q, e66⟩ := hQ66
            have N66 := Fr.app N63 N66q
            have k67 : own_To p.tables e below (s₁.setTop (entryFrame m #[(.int p1)] maxLocals)) T66 (mkF m 18 #[.val (.int p1), .val (.int (p1 &&& (7 : Int32))), .val (.ref w_DUE_DATE)] [(.int (0 : Int32)), (.int (0 : Int32))]) := fun t k => k65 t (st66 t k)
            have k68 : own_To p.tables e below (s₁.setTop (entryFrame m #[(.int p1)] maxLocals)) T66 (mkF m 21 #[.val (.int p1), .val (.int (p1 &&& (7 : Int32))), .val (.ref w_DUE_DATE)] []) := fun t k => k67 t (XS.icmpNo X66.here hx rfl (hb hby at_18) rfl (teq (show (0 : Int32) = (0 : Int32) from (by decide))).2 k)
            have k69 : own_To p.tables e below (s₁.setTop (entryFrame m #[(.int p1)] maxLocals)) T66 (mkF m 22 #[.val (.int p1), .val (.int (p1 &&& (7 : Int32))), .val (.ref w_DUE_DATE)] [(.int (1 : Int32))]) := fun t k => k68 t (XS.iconst X66.here hx rfl (hb hby at_21) k)
            have k70 : own_To p.tables e below (s₁.setTop (entryFrame m #[(.int p1)] maxLocals)) T66 (mkF m 26 #[.val (.int p1), .val (.int (p1 &&& (7 : Int32))), .val (.ref w_DUE_DATE)] [(.int (1 : Int32))]) := fun t k => k69 t (XS.goto X66.here hx rfl (pc0 := 22) (pc' := 26) rfl (hb hby at_22) (by decide) (by decide) k)
            obtain ⟨fs, hr, hrun, hended, hW, hsame⟩ := X66.leave (v := some (.int (1 : Int32))) (fun h => by rw [Bd.returns] at h; cases h)
            refine ⟨_, _, k70 _ ?_, hrun, hended, _, _, rfl, ?_, ⟨_, rfl⟩, hW, hsame.mono (by decide) (by decide)⟩
            · exact retN X66 hx (t := .boolean) Bd.returns (by simp) (hb hby at_26) hr
            · exact ⟨rfl, N66⟩
          · by_cases hc71 : (p1 &&& (7 : Int32)) = (5 : Int32)
            · obtain ⟨_, _, ⟨T72, L72, k72, n72⟩, -, X72, ⟨Lc72, hQ72, l72, y72, z72⟩, st72⟩ := Jvm.LawKit.callS X0 hx (y := (⟨"com/example/grace_period/graceperiod/core/LoanFieldIsOptionalPinLaw", "pick", "(I)Lcom/example/grace_period/graceperiod/core/LoanField;"⟩ : MethodName)) hown (mvT hZ (hw _ (List.mem_of_getElem? (i := 0) rfl))) (mvT hZ (hw _ (List.mem_of_getElem? (i := 1) rfl))) (mvT hZ (hw _ (List.mem_of_getElem? (i := 2) rfl))) (mvT hZ (hw _ (List.mem_of_getElem? (i := 3) rfl))) (by decide) (backOf (W := 0) (own_m1 l Z a0 hw [] (p1 &&& (7 : Int32)) w_ID w_PATRON_ID w_ITEM_ID w_START_DATE w_DUE_DATE w_END_DATE w_RENEWAL_COUNT w_HOLD_SHELVED_FOR h0 n0 Z0 S_ID S_PATRON_ID S_ITEM_ID S_START_DATE S_DUE_DATE S_END_DATE S_RENEWAL_COUNT S_HOLD_SHELVED_FOR) hZ (hw _ (List.mem_of_getElem? (i := 3) rfl)) (hw _ (List.mem_of_getElem? (i := 2) rfl)) (by decide) (by decide)) (g := (mkF m 6 #[.val (.int p1), .val (.int (p1 &&& (7 : Int32))), .unset] [(.int (p1 &&& (7 : Int32)))])) rfl (by rw [hml]; rfl) (argsL := [(.int (p1 &&& (7 : Int32)))]) (rest := []) (lenOf own_pd0 rfl) rfl (by show 2 * 0 + _ ≤ _; exact Nat.le_of_eq rfl) (hb hby at_6) (fun _ _ => ⟨rfl, e0, (by decide : 0 + 0 ≤ _), (by decide : 0 + 0 ≤ _)⟩)
              dsimp only [Pt.U, Pt.locs, Pt.cells, Pt.slots] at X72 l72 y72 z72 st72 hQ72
              subst l72 y72 z72
              rw [show own_f1 (p1 &&& (7 : Int32)) w_ID w_PATRON_ID w_ITEM_ID w_START_DATE w_DUE_DATE w_END_DATE w_RENEWAL_COUNT w_HOLD_SHELVED_FOR = w_END_DATE from by unfold own_f1; rw [if_neg (show ¬ ((p1 &&& (7 : Int32)) = (0 : Int32)) from hc6), if_neg (show ¬ ((p1 &&& (7 : Int32)) = (1 : Int32)) from hc19), if_neg (show ¬ ((p1 &&& (7 : Int32)) = (2 : Int32)) from hc32), if_neg (show ¬ ((p1 &&& (7 : Int32)) = (3 : Int32)) from hc45), if_neg (show ¬ ((p1 &&& (7 : Int32)) = (4 : Int32)) from hc58), if_pos (show (p1 &&& (7 : Int32)) = (5 : Int32) from hc71)]] at hQ72
              obtain ⟨rfl, N72q, e72⟩ := hQ72
              have N72 := Fr.app N0 N72q
              have k73 : own_To p.tables e below (s₁.setTop (entryFrame m #[(.int p1)] maxLocals)) T72 (mkF m 9 #[.val (.int p1), .val (.int (p1 &&& (7 : Int32))), .unset] [(.ref w_END_DATE)]) := fun t k => k5 t (st72 t k)
              have k74 : own_To p.tables e below (s₁.setTop (entryFrame m #[(.int p1)] maxLocals)) T72 (mkF m 10 #[.val (.int p1), .val (.int (p1 &&& (7 : Int32))), .val (.ref w_END_DATE)] []) := fun t k => k73 t (XS.astoreN X72.here hx rfl (hb hby at_9) rfl rfl (l' := #[.val (.int p1), .val (.int (p1 &&& (7 : Int32))), .val (.ref w_END_DATE)]) rfl k)
              have k75 : own_To p.tables e below (s₁.setTop (entryFrame m #[(.int p1)] maxLocals)) T72 (mkF m 11 #[.val (.int p1), .val (.int (p1 &&& (7 : Int32))), .val (.ref w_END_DATE)] [(.ref w_END_DATE)]) := fun t k => k74 t (XS.aloadN X72.here hx rfl (hb hby at_10) rfl rfl k)
              obtain ⟨cq76, kq76, q76a, q76b, q76c⟩ := isOf hZ e72 E_w_END_DATE
              obtain ⟨_, _, ⟨T76, L76, k76, n76⟩, -, X76, ⟨Lc76, hQ76, l76, y76, z76⟩, st76⟩ := X72.virtualBack hx (y := (⟨"com/example/grace_period/graceperiod/core/LoanField", "isOptional", "()Z"⟩ : MethodName)) (z := (⟨"com/example/grace_period/graceperiod/core/LoanField", "isOptional", "()Z"⟩ : MethodName)) hown (mvT hZ (hw _ (List.mem_of_getElem? (i := 7) rfl))) (mvT hZ (hw _ (List.mem_of_getElem? (i := 8) rfl))) (notFace_of_selects (args := #[]) (mvT hZ (hw _ (List.mem_of_getElem? (i := 10) rfl)))) (mvT hZ (hw _ (List.mem_of_getElem? (i := 10) rfl))) (mvT hZ (hw _ (List.mem_of_getElem? (i := 9) rfl))) (by decide) (backOf (W := 0) (own_m2 l Z a0 hw [] w_END_DATE w_END_DATE w_HOLD_SHELVED_FOR h0 n0 Z0 S_END_DATE S_HOLD_SHELVED_FOR) hZ (hw _ (List.mem_of_getElem? (i := 11) rfl)) (hw _ (List.mem_of_getElem? (i := 5) rfl)) (by decide) (by decide)) q76a q76c (g := (mkF m 11 #[.val (.int p1), .val (.int (p1 &&& (7 : Int32))), .val (.ref w_END_DATE)] [(.ref w_END_DATE)])) rfl (by rw [hml]; rfl) (Steps.refl _) (argsL := []) (rest := []) (lenOf own_pd1 rfl) rfl (by show 2 * 0 + _ ≤ _; exact Nat.le_of_eq rfl) (hb hby at_11) (fun _ _ => ⟨rfl, e72, (by decide : 0 + 0 ≤ _), (by decide : 0 + 0 ≤ _)⟩)
              dsimp only [Pt.U, Pt.locs, Pt.cells, Pt.slots] at X76 l76 y76 z76 st76 hQ76
              subst l76 y76 z76
              rw [show own_f2 w_END_DATE w_END_DATE w_HOLD_SHELVED_FOR = (1 : Int32) from by unfold own_f2; rw [if_pos (show w_END_DATE = w_END_DATE from rfl)]] at hQ76
              obtain ⟨rfl, N76q, e76⟩ := hQ76
              have N76 := Fr.app N72 N76q
              have k77 : own_To p.tables e below (s₁.setTop (entryFrame m #[(.int p1)] maxLocals)) T76 (mkF m 14 #[.val (.int p1), .val (.int (p1 &&& (7 : Int32))), .val (.ref w_END_DATE)] [(.int (1 : Int32))]) := fun t k => k75 t (st76.trans k)
              have k78 : own_To p.tables e below (s₁.setTop (entryFrame m #[(.int p1)] maxLocals)) T76 (mkF m 15 #[.val (.int p1), .val (.int (p1 &&& (7 : Int32))), .val (.ref w_END_DATE)] [(.int (p1 &&& (7 : Int32))), (.int (1 : Int32))]) := fun t k => k77 t (XS.iloadN X76.here hx rfl (hb hby at_14) rfl k)
              obtain ⟨_, _, ⟨T79, L79, k79, n79⟩, -, X79, ⟨Lc79, hQ79, l79, y79, z79⟩, st79⟩ := Jvm.LawKit.callS X76 hx (y := (⟨"com/example/grace_period/graceperiod/core/LoanFieldIsOptionalPinLaw", "expectedOptional", "(I)Z"⟩ : MethodName)) hown (mvT hZ (hw _ (List.mem_of_getElem? (i := 16) rfl))) (mvT hZ (hw _ (List.mem_of_getElem? (i := 17) rfl))) (mvT hZ (hw _ (List.mem_of_getElem? (i := 2) rfl))) (mvT hZ (hw _ (List.mem_of_getElem? (i := 18) rfl))) (by decide) (backOf (W := 1) (own_m3 l Z a0 hw [] (p1 &&& (7 : Int32)) h0 n0 Z0 ) hZ (hw _ (List.mem_of_getElem? (i := 18) rfl)) (hw _ (List.mem_of_getElem? (i := 2) rfl)) (by decide) (by decide)) (g := (mkF m 15 #[.val (.int p1), .val (.int (p1 &&& (7 : Int32))), .val (.ref w_END_DATE)] [(.int (p1 &&& (7 : Int32))), (.int (1 : Int32))])) rfl (by rw [hml]; rfl) (argsL := [(.int (p1 &&& (7 : Int32)))]) (rest := [(.int (1 : Int32))]) (lenOf own_pd2 rfl) rfl (by show 2 * 0 + _ ≤ _; exact Nat.le_of_eq rfl) (hb hby at_15) (fun _ _ => ⟨rfl, e76, (by decide : 0 + 0 ≤ _), (by decide : 0 + 0 ≤ _)⟩)
              dsimp only [Pt.U, Pt.locs, Pt.cells, Pt.slots] at X79 l79 y79 z79 st79 hQ79
              subst l79 y79 z79
              rw [show own_f3 (p1 &&& (7 : Int32)) = (1 : Int32) from by unfold own_f3; rw [if_neg (show ¬ ((p1 &&& (7 : Int32)) = (0 : Int32)) from hc6), if_neg (show ¬ ((p1 &&& (7 : Int32)) = (1 : Int32)) from hc19), if_neg (show ¬ ((p1 &&& (7 : Int32)) = (2 : Int32)) from hc32), if_neg (show ¬ ((p1 &&& (7 : Int32)) = (3 : Int32)) from hc45), if_neg (show ¬ ((p1 &&& (7 : Int32)) = (4 : Int32)) from hc58), if_pos (show (p1 &&& (7 : Int32)) = (5 : Int32) from hc71)]] at hQ79
              obtain ⟨rfl, N79q, e79⟩ := hQ79
              have N79 := Fr.app N76 N79q
              have k80 : own_To p.tables e below (s₁.setTop (entryFrame m #[(.int p1)] maxLocals)) T79 (mkF m 18 #[.val (.int p1), .val (.int (p1 &&& (7 : Int32))), .val (.ref w_END_DATE)] [(.int (1 : Int32)), (.int (1 : Int32))]) := fun t k => k78 t (st79 t k)
              have k81 : own_To p.tables e below (s₁.setTop (entryFrame m #[(.int p1)] maxLocals)) T79 (mkF m 21 #[.val (.int p1), .val (.int (p1 &&& (7 : Int32))), .val (.ref w_END_DATE)] []) := fun t k => k80 t (XS.icmpNo X79.here hx rfl (hb hby at_18) rfl (teq (show (1 : Int32) = (1 : Int32) from (by decide))).2 k)
              have k82 : own_To p.tables e below (s₁.setTop (entryFrame m #[(.int p1)] maxLocals)) T79 (mkF m 22 #[.val (.int p1), .val (.int (p1 &&& (7 : Int32))), .val (.ref w_END_DATE)] [(.int (1 : Int32))]) := fun t k => k81 t (XS.iconst X79.here hx rfl (hb hby at_21) k)
              have k83 : own_To p.tables e below (s₁.setTop (entryFrame m #[(.int p1)] maxLocals)) T79 (mkF m 26 #[.val (.int p1), .val (.int (p1 &&& (7 : Int32))), .val (.ref w_END_DATE)] [(.int (1 : Int32))]) := fun t k => k82 t (XS.goto X79.here hx rfl (pc0 := 22) (pc' := 26) rfl (hb hby at_22) (by decide) (by decide) k)
              obtain ⟨fs, hr, hrun, hended, hW, hsame⟩ := X79.leave (v := some (.int (1 : Int32))) (fun h => by rw [Bd.returns] at h; cases h)
              refine ⟨_, _, k83 _ ?_, hrun, hended, _, _, rfl, ?_, ⟨_, rfl⟩, hW, hsame.mono (by decide) (by decide)⟩
              · exact retN X79 hx (t := .boolean) Bd.returns (by simp) (hb hby at_26) hr
              · exact ⟨rfl, N79⟩
            · by_cases hc84 : (p1 &&& (7 : Int32)) = (6 : Int32)
              · obtain ⟨_, _, ⟨T85, L85, k85, n85⟩, -, X85, ⟨Lc85, hQ85, l85, y85, z85⟩, st85⟩ := Jvm.LawKit.callS X0 hx (y := (⟨"com/example/grace_period/graceperiod/core/LoanFieldIsOptionalPinLaw", "pick", "(I)Lcom/example/grace_period/graceperiod/core/LoanField;"⟩ : MethodName)) hown (mvT hZ (hw _ (List.mem_of_getElem? (i := 0) rfl))) (mvT hZ (hw _ (List.mem_of_getElem? (i := 1) rfl))) (mvT hZ (hw _ (List.mem_of_getElem? (i := 2) rfl))) (mvT hZ (hw _ (List.mem_of_getElem? (i := 3) rfl))) (by decide) (backOf (W := 0) (own_m1 l Z a0 hw [] (p1 &&& (7 : Int32)) w_ID w_PATRON_ID w_ITEM_ID w_START_DATE w_DUE_DATE w_END_DATE w_RENEWAL_COUNT w_HOLD_SHELVED_FOR h0 n0 Z0 S_ID S_PATRON_ID S_ITEM_ID S_START_DATE S_DUE_DATE S_END_DATE S_RENEWAL_COUNT S_HOLD_SHELVED_FOR) hZ (hw _ (List.mem_of_getElem? (i := 3) rfl)) (hw _ (List.mem_of_getElem? (i := 2) rfl)) (by decide) (by decide)) (g := (mkF m 6 #[.val (.int p1), .val (.int (p1 &&& (7 : Int32))), .unset] [(.int (p1 &&& (7 : Int32)))])) rfl (by rw [hml]; rfl) (argsL := [(.int (p1 &&& (7 : Int32)))]) (rest := []) (lenOf own_pd0 rfl) rfl (by show 2 * 0 + _ ≤ _; exact Nat.le_of_eq rfl) (hb hby at_6) (fun _ _ => ⟨rfl, e0, (by decide : 0 + 0 ≤ _), (by decide : 0 + 0 ≤ _)⟩)
                dsimp only [Pt.U, Pt.locs, Pt.cells, Pt.slots] at X85 l85 y85 z85 st85 hQ85
                subst l85 y85 z85
                rw [show own_f1 (p1 &&& (7 : Int32)) w_ID w_PATRON_ID w_ITEM_ID w_START_DATE w_DUE_DATE w_END_DATE w_RENEWAL_COUNT w_HOLD_SHELVED_FOR = w_RENEWAL_COUNT from by unfold own_f1; rw [if_neg (show ¬ ((p1 &&& (7 : Int32)) = (0 : Int32)) from hc6), if_neg (show ¬ ((p1 &&& (7 : Int32)) = (1 : Int32)) from hc19), if_neg (show ¬ ((p1 &&& (7 : Int32)) = (2 : Int32)) from hc32), if_neg (show ¬ ((p1 &&& (7 : Int32)) = (3 : Int32)) from hc45), if_neg (show ¬ ((p1 &&& (7 : Int32)) = (4 : Int32)) from hc58), if_neg (show ¬ ((p1 &&& (7 : Int32)) = (5 : Int32)) from hc71), if_pos (show (p1 &&& (7 : Int32)) = (6 : Int32) from hc84)]] at hQ85
                obtain ⟨rfl, N85q, e85⟩ := hQ85
                have N85 := Fr.app N0 N85q
                have k86 : own_To p.tables e below (s₁.setTop (entryFrame m #[(.int p1)] maxLocals)) T85 (mkF m 9 #[.val (.int p1), .val (.int (p1 &&& (7 : Int32))), .unset] [(.ref w_RENEWAL_COUNT)]) := fun t k => k5 t (st85 t k)
                have k87 : own_To p.tables e below (s₁.setTop (entryFrame m #[(.int p1)] maxLocals)) T85 (mkF m 10 #[.val (.int p1), .val (.int (p1 &&& (7 : Int32))), .val (.ref w_RENEWAL_COUNT)] []) := fun t k => k86 t (XS.astoreN X85.here hx rfl (hb hby at_9) rfl rfl (l' := #[.val (.int p1), .val (.int (p1 &&& (7 : Int32))), .val (.ref w_RENEWAL_COUNT)]) rfl k)
                have k88 : own_To p.tables e below (s₁.setTop (entryFrame m #[(.int p1)] maxLocals)) T85 (mkF m 11 #[.val (.int p1), .val (.int (p1 &&& (7 : Int32))), .val (.ref w_RENEWAL_COUNT)] [(.ref w_RENEWAL_COUNT)]) := fun t k => k87 t (XS.aloadN X85.here hx rfl (hb hby at_10) rfl rfl k)
                obtain ⟨cq89, kq89, q89a, q89b, q89c⟩ := isOf hZ e85 E_w_RENEWAL_COUNT
                obtain ⟨_, _, ⟨T89, L89, k89, n89⟩, -, X89, ⟨Lc89, hQ89, l89, y89, z89⟩, st89⟩ := X85.virtualBack hx (y := (⟨"com/example/grace_period/graceperiod/core/LoanField", "isOptional", "()Z"⟩ : MethodName)) (z := (⟨"com/example/grace_period/graceperiod/core/LoanField", "isOptional", "()Z"⟩ : MethodName)) hown (mvT hZ (hw _ (List.mem_of_getElem? (i := 7) rfl))) (mvT hZ (hw _ (List.mem_of_getElem? (i := 8) rfl))) (notFace_of_selects (args := #[]) (mvT hZ (hw _ (List.mem_of_getElem? (i := 10) rfl)))) (mvT hZ (hw _ (List.mem_of_getElem? (i := 10) rfl))) (mvT hZ (hw _ (List.mem_of_getElem? (i := 9) rfl))) (by decide) (backOf (W := 0) (own_m2 l Z a0 hw [] w_RENEWAL_COUNT w_END_DATE w_HOLD_SHELVED_FOR h0 n0 Z0 S_END_DATE S_HOLD_SHELVED_FOR) hZ (hw _ (List.mem_of_getElem? (i := 11) rfl)) (hw _ (List.mem_of_getElem? (i := 5) rfl)) (by decide) (by decide)) q89a q89c (g := (mkF m 11 #[.val (.int p1), .val (.int (p1 &&& (7 : Int32))), .val (.ref w_RENEWAL_COUNT)] [(.ref w_RENEWAL_COUNT)])) rfl (by rw [hml]; rfl) (Steps.refl _) (argsL := []) (rest := []) (lenOf own_pd1 rfl) rfl (by show 2 * 0 + _ ≤ _; exact Nat.le_of_eq rfl) (hb hby at_11) (fun _ _ => ⟨rfl, e85, (by decide : 0 + 0 ≤ _), (by decide : 0 + 0 ≤ _)⟩)
                dsimp only [Pt.U, Pt.locs, Pt.cells, Pt.slots] at X89 l89 y89 z89 st89 hQ89
                subst l89 y89 z89
                rw [show own_f2 w_RENEWAL_COUNT w_END_DATE w_HOLD_SHELVED_FOR = (0 : Int32) from by unfold own_f2; rw [if_neg (show ¬ (w_RENEWAL_COUNT = w_END_DATE) from (fun q => ne_END_DATE_RENEWAL_COUNT (Eq.symm q))), if_neg (show ¬ (w_RENEWAL_COUNT = w_HOLD_SHELVED_FOR) from ne_RENEWAL_COUNT_HOLD_SHELVED_FOR)]] at hQ89
                obtain ⟨rfl, N89q, e89⟩ := hQ89
                have N89 := Fr.app N85 N89q
                have k90 : own_To p.tables e below (s₁.setTop (entryFrame m #[(.int p1)] maxLocals)) T89 (mkF m 14 #[.val (.int p1), .val (.int (p1 &&& (7 : Int32))), .val (.ref w_RENEWAL_COUNT)] [(.int (0 : Int32))]) := fun t k => k88 t (st89.trans k)
                have k91 : own_To p.tables e below (s₁.setTop (entryFrame m #[(.int p1)] maxLocals)) T89 (mkF m 15 #[.val (.int p1), .val (.int (p1 &&& (7 : Int32))), .val (.ref w_RENEWAL_COUNT)] [(.int (p1 &&& (7 : Int32))), (.int (0 : Int32))]) := fun t k => k90 t (XS.iloadN X89.here hx rfl (hb hby at_14) rfl k)
                obtain ⟨_, _, ⟨T92, L92, k92, n92⟩, -, X92, ⟨Lc92, hQ92, l92, y92, z92⟩, st92⟩ := Jvm.LawKit.callS X89 hx (y := (⟨"com/example/grace_period/graceperiod/core/LoanFieldIsOptionalPinLaw", "expectedOptional", "(I)Z"⟩ : MethodName)) hown (mvT hZ (hw _ (List.mem_of_getElem? (i := 16) rfl))) (mvT hZ (hw _ (List.mem_of_getElem? (i := 17) rfl))) (mvT hZ (hw _ (List.mem_of_getElem? (i := 2) rfl))) (mvT hZ (hw _ (List.mem_of_getElem? (i := 18) rfl))) (by decide) (backOf (W := 1) (own_m3 l Z a0 hw [] (p1 &&& (7 : Int32)) h0 n0 Z0 ) hZ (hw _ (List.mem_of_getElem? (i := 18) rfl)) (hw _ (List.mem_of_getElem? (i := 2) rfl)) (by decide) (by decide)) (g := (mkF m 15 #[.val (.int p1), .val (.int (p1 &&& (7 : Int32))), .val (.ref w_RENEWAL_COUNT)] [(.int (p1 &&& (7 : Int32))), (.int (0 : Int32))])) rfl (by rw [hml]; rfl) (argsL := [(.int (p1 &&& (7 : Int32)))]) (rest := [(.int (0 : Int32))]) (lenOf own_pd2 rfl) rfl (by show 2 * 0 + _ ≤ _; exact Nat.le_of_eq rfl) (hb hby at_15) (fun _ _ => ⟨rfl, e89, (by decide : 0 + 0 ≤ _), (by decide : 0 + 0 ≤ _)⟩)
                dsimp only [Pt.U, Pt.locs, Pt.cells, Pt.slots] at X92 l92 y92 z92 st92 hQ92
                subst l92 y92 z92
                rw [show own_f3 (p1 &&& (7 : Int32)) = (0 : Int32) from by unfold own_f3; rw [if_neg (show ¬ ((p1 &&& (7 : Int32)) = (0 : Int32)) from hc6), if_neg (show ¬ ((p1 &&& (7 : Int32)) = (1 : Int32)) from hc19), if_neg (show ¬ ((p1 &&& (7 : Int32)) = (2 : Int32)) from hc32), if_neg (show ¬ ((p1 &&& (7 : Int32)) = (3 : Int32)) from hc45), if_neg (show ¬ ((p1 &&& (7 : Int32)) = (4 : Int32)) from hc58), if_neg (show ¬ ((p1 &&& (7 : Int32)) = (5 : Int32)) from hc71), if_pos (show (p1 &&& (7 : Int32)) = (6 : Int32) from hc84)]] at hQ92
                obtain ⟨rfl, N92q, e92⟩ := hQ92
                have N92 := Fr.app N89 N92q
                have k93 : own_To p.tables e below (s₁.setTop (entryFrame m #[(.int p1)] maxLocals)) T92 (mkF m 18 #[.val (.int p1), .val (.int (p1 &&& (7 : Int32))), .val (.ref w_RENEWAL_COUNT)] [(.int (0 : Int32)), (.int (0 : Int32))]) := fun t k => k91 t (st92 t k)
                have k94 : own_To p.tables e below (s₁.setTop (entryFrame m #[(.int p1)] maxLocals)) T92 (mkF m 21 #[.val (.int p1), .val (.int (p1 &&& (7 : Int32))), .val (.ref w_RENEWAL_COUNT)] []) := fun t k => k93 t (XS.icmpNo X92.here hx rfl (hb hby at_18) rfl (teq (show (0 : Int32) = (0 : Int32) from (by decide))).2 k)
                have k95 : own_To p.tables e below (s₁.setTop (entryFrame m #[(.int p1)] maxLocals)) T92 (mkF m 22 #[.val (.int p1), .val (.int (p1 &&& (7 : Int32))), .val (.ref w_RENEWAL_COUNT)] [(.int (1 : Int32))]) := fun t k => k94 t (XS.iconst X92.here hx rfl (hb hby at_21) k)
                have k96 : own_To p.tables e below (s₁.setTop (entryFrame m #[(.int p1)] maxLocals)) T92 (mkF m 26 #[.val (.int p1), .val (.int (p1 &&& (7 : Int32))), .val (.ref w_RENEWAL_COUNT)] [(.int (1 : Int32))]) := fun t k => k95 t (XS.goto X92.here hx rfl (pc0 := 22) (pc' := 26) rfl (hb hby at_22) (by decide) (by decide) k)
                obtain ⟨fs, hr, hrun, hended, hW, hsame⟩ := X92.leave (v := some (.int (1 : Int32))) (fun h => by rw [Bd.returns] at h; cases h)
                refine ⟨_, _, k96 _ ?_, hrun, hended, _, _, rfl, ?_, ⟨_, rfl⟩, hW, hsame.mono (by decide) (by decide)⟩
                · exact retN X92 hx (t := .boolean) Bd.returns (by simp) (hb hby at_26) hr
                · exact ⟨rfl, N92⟩
              · obtain ⟨_, _, ⟨T97, L97, k97, n97⟩, -, X97, ⟨Lc97, hQ97, l97, y97, z97⟩, st97⟩ := Jvm.LawKit.callS X0 hx (y := (⟨"com/example/grace_period/graceperiod/core/LoanFieldIsOptionalPinLaw", "pick", "(I)Lcom/example/grace_period/graceperiod/core/LoanField;"⟩ : MethodName)) hown (mvT hZ (hw _ (List.mem_of_getElem? (i := 0) rfl))) (mvT hZ (hw _ (List.mem_of_getElem? (i := 1) rfl))) (mvT hZ (hw _ (List.mem_of_getElem? (i := 2) rfl))) (mvT hZ (hw _ (List.mem_of_getElem? (i := 3) rfl))) (by decide) (backOf (W := 0) (own_m1 l Z a0 hw [] (p1 &&& (7 : Int32)) w_ID w_PATRON_ID w_ITEM_ID w_START_DATE w_DUE_DATE w_END_DATE w_RENEWAL_COUNT w_HOLD_SHELVED_FOR h0 n0 Z0 S_ID S_PATRON_ID S_ITEM_ID S_START_DATE S_DUE_DATE S_END_DATE S_RENEWAL_COUNT S_HOLD_SHELVED_FOR) hZ (hw _ (List.mem_of_getElem? (i := 3) rfl)) (hw _ (List.mem_of_getElem? (i := 2) rfl)) (by decide) (by decide)) (g := (mkF m 6 #[.val (.int p1), .val (.int (p1 &&& (7 : Int32))), .unset] [(.int (p1 &&& (7 : Int32)))])) rfl (by rw [hml]; rfl) (argsL := [(.int (p1 &&& (7 : Int32)))]) (rest := []) (lenOf own_pd0 rfl) rfl (by show 2 * 0 + _ ≤ _; exact Nat.le_of_eq rfl) (hb hby at_6) (fun _ _ => ⟨rfl, e0, (by decide : 0 + 0 ≤ _), (by decide : 0 + 0 ≤ _)⟩)
                dsimp only [Pt.U, Pt.locs, Pt.cells, Pt.slots] at X97 l97 y97 z97 st97 hQ97
                subst l97 y97 z97
                rw [show own_f1 (p1 &&& (7 : Int32)) w_ID w_PATRON_ID w_ITEM_ID w_START_DATE w_DUE_DATE w_END_DATE w_RENEWAL_COUNT w_HOLD_SHELVED_FOR = w_HOLD_SHELVED_FOR from by unfold own_f1; rw [if_neg (show ¬ ((p1 &&& (7 : Int32)) = (0 : Int32)) from hc6), if_neg (show ¬ ((p1 &&& (7 : Int32)) = (1 : Int32)) from hc19), if_neg (show ¬ ((p1 &&& (7 : Int32)) = (2 : Int32)) from hc32), if_neg (show ¬ ((p1 &&& (7 : Int32)) = (3 : Int32)) from hc45), if_neg (show ¬ ((p1 &&& (7 : Int32)) = (4 : Int32)) from hc58), if_neg (show ¬ ((p1 &&& (7 : Int32)) = (5 : Int32)) from hc71), if_neg (show ¬ ((p1 &&& (7 : Int32)) = (6 : Int32)) from hc84)]] at hQ97
                obtain ⟨rfl, N97q, e97⟩ := hQ97
                have N97 := Fr.app N0 N97q
                have k98 : own_To p.tables e below (s₁.setTop (entryFrame m #[(.int p1)] maxLocals)) T97 (mkF m 9 #[.val (.int p1), .val (.int (p1 &&& (7 : Int32))), .unset] [(.ref w_HOLD_SHELVED_FOR)]) := fun t k => k5 t (st97 t k)
                have k99 : own_To p.tables e below (s₁.setTop (entryFrame m #[(.int p1)] maxLocals)) T97 (mkF m 10 #[.val (.int p1), .val (.int (p1 &&& (7 : Int32))), .val (.ref w_HOLD_SHELVED_FOR)] []) := fun t k => k98 t (XS.astoreN X97.here hx rfl (hb hby at_9) rfl rfl (l' := #[.val (.int p1), .val (.int (p1 &&& (7 : Int32))), .val (.ref w_HOLD_SHELVED_FOR)]) rfl k)
                have k100 : own_To p.tables e below (s₁.setTop (entryFrame m #[(.int p1)] maxLocals)) T97 (mkF m 11 #[.val (.int p1), .val (.int (p1 &&& (7 : Int32))), .val (.ref w_HOLD_SHELVED_FOR)] [(.ref w_HOLD_SHELVED_FOR)]) := fun t k => k99 t (XS.aloadN X97.here hx rfl (hb hby at_10) rfl rfl k)
                obtain ⟨cq101, kq101, q101a, q101b, q101c⟩ := isOf hZ e97 E_w_HOLD_SHELVED_FOR
                obtain ⟨_, _, ⟨T101, L101, k101, n101⟩, -, X101, ⟨Lc101, hQ101, l101, y101, z101⟩, st101⟩ := X97.virtualBack hx (y := (⟨"com/example/grace_period/graceperiod/core/LoanField", "isOptional", "()Z"⟩ : MethodName)) (z := (⟨"com/example/grace_period/graceperiod/core/LoanField", "isOptional", "()Z"⟩ : MethodName)) hown (mvT hZ (hw _ (List.mem_of_getElem? (i := 7) rfl))) (mvT hZ (hw _ (List.mem_of_getElem? (i := 8) rfl))) (notFace_of_selects (args := #[]) (mvT hZ (hw _ (List.mem_of_getElem? (i := 10) rfl)))) (mvT hZ (hw _ (List.mem_of_getElem? (i := 10) rfl))) (mvT hZ (hw _ (List.mem_of_getElem? (i := 9) rfl))) (by decide) (backOf (W := 0) (own_m2 l Z a0 hw [] w_HOLD_SHELVED_FOR w_END_DATE w_HOLD_SHELVED_FOR h0 n0 Z0 S_END_DATE S_HOLD_SHELVED_FOR) hZ (hw _ (List.mem_of_getElem? (i := 11) rfl)) (hw _ (List.mem_of_getElem? (i := 5) rfl)) (by decide) (by decide)) q101a q101c (g := (mkF m 11 #[.val (.int p1), .val (.int (p1 &&& (7 : Int32))), .val (.ref w_HOLD_SHELVED_FOR)] [(.ref w_HOLD_SHELVED_FOR)])) rfl (by rw [hml]; rfl) (Steps.refl _) (argsL := []) (rest := []) (lenOf own_pd1 rfl) rfl (by show 2 * 0 + _ ≤ _; exact Nat.le_of_eq rfl) (hb hby at_11) (fun _ _ => ⟨rfl, e97, (by decide : 0 + 0 ≤ _), (by decide : 0 + 0 ≤ _)⟩)
                dsimp only [Pt.U, Pt.locs, Pt.cells, Pt.slots] at X101 l101 y101 z101 st101 hQ101
                subst l101 y101 z101
                rw [show own_f2 w_HOLD_SHELVED_FOR w_END_DATE w_HOLD_SHELVED_FOR = (1 : Int32) from by unfold own_f2; rw [if_neg (show ¬ (w_HOLD_SHELVED_FOR = w_END_DATE) from (fun q => ne_END_DATE_HOLD_SHELVED_FOR (Eq.symm q))), if_pos (show w_HOLD_SHELVED_FOR = w_HOLD_SHELVED_FOR from rfl)]] at hQ101
                obtain ⟨rfl, N101q, e101⟩ := hQ101
                have N101 := Fr.app N97 N101q
                have k102 : own_To p.tables e below (s₁.setTop (entryFrame m #[(.int p1)] maxLocals)) T101 (mkF m 14 #[.val (.int p1), .val (.int (p1 &&& (7 : Int32))), .val (.ref w_HOLD_SHELVED_FOR)] [(.int (1 : Int32))]) := fun t k => k100 t (st101.trans k)
                have k103 : own_To p.tables e below (s₁.setTop (entryFrame m #[(.int p1)] maxLocals)) T101 (mkF m 15 #[.val (.int p1), .val (.int (p1 &&& (7 : Int32))), .val (.ref w_HOLD_SHELVED_FOR)] [(.int (p1 &&& (7 : Int32))), (.int (1 : Int32))]) := fun t k => k102 t (XS.iloadN X101.here hx rfl (hb hby at_14) rfl k)
                obtain ⟨_, _, ⟨T104, L104, k104, n104⟩, -, X104, ⟨Lc104, hQ104, l104, y104, z104⟩, st104⟩ := Jvm.LawKit.callS X101 hx (y := (⟨"com/example/grace_period/graceperiod/core/LoanFieldIsOptionalPinLaw", "expectedOptional", "(I)Z"⟩ : MethodName)) hown (mvT hZ (hw _ (List.mem_of_getElem? (i := 16) rfl))) (mvT hZ (hw _ (List.mem_of_getElem? (i := 17) rfl))) (mvT hZ (hw _ (List.mem_of_getElem? (i := 2) rfl))) (mvT hZ (hw _ (List.mem_of_getElem? (i := 18) rfl))) (by decide) (backOf (W := 1) (own_m3 l Z a0 hw [] (p1 &&& (7 : Int32)) h0 n0 Z0 ) hZ (hw _ (List.mem_of_getElem? (i := 18) rfl)) (hw _ (List.mem_of_getElem? (i := 2) rfl)) (by decide) (by decide)) (g := (mkF m 15 #[.val (.int p1), .val (.int (p1 &&& (7 : Int32))), .val (.ref w_HOLD_SHELVED_FOR)] [(.int (p1 &&& (7 : Int32))), (.int (1 : Int32))])) rfl (by rw [hml]; rfl) (argsL := [(.int (p1 &&& (7 : Int32)))]) (rest := [(.int (1 : Int32))]) (lenOf own_pd2 rfl) rfl (by show 2 * 0 + _ ≤ _; exact Nat.le_of_eq rfl) (hb hby at_15) (fun _ _ => ⟨rfl, e101, (by decide : 0 + 0 ≤ _), (by decide : 0 + 0 ≤ _)⟩)
                dsimp only [Pt.U, Pt.locs, Pt.cells, Pt.slots] at X104 l104 y104 z104 st104 hQ104
                subst l104 y104 z104
                rw [show own_f3 (p1 &&& (7 : Int32)) = (1 : Int32) from by unfold own_f3; rw [if_neg (show ¬ ((p1 &&& (7 : Int32)) = (0 : Int32)) from hc6), if_neg (show ¬ ((p1 &&& (7 : Int32)) = (1 : Int32)) from hc19), if_neg (show ¬ ((p1 &&& (7 : Int32)) = (2 : Int32)) from hc32), if_neg (show ¬ ((p1 &&& (7 : Int32)) = (3 : Int32)) from hc45), if_neg (show ¬ ((p1 &&& (7 : Int32)) = (4 : Int32)) from hc58), if_neg (show ¬ ((p1 &&& (7 : Int32)) = (5 : Int32)) from hc71), if_neg (show ¬ ((p1 &&& (7 : Int32)) = (6 : Int32)) from hc84)]] at hQ104
                obtain ⟨rfl, N104q, e104⟩ := hQ104
                have N104 := Fr.app N101 N104q
                have k105 : own_To p.tables e below (s₁.setTop (entryFrame m #[(.int p1)] maxLocals)) T104 (mkF m 18 #[.val (.int p1), .val (.int (p1 &&& (7 : Int32))), .val (.ref w_HOLD_SHELVED_FOR)] [(.int (1 : Int32)), (.int (1 : Int32))]) := fun t k => k103 t (st104 t k)
                have k106 : own_To p.tables e below (s₁.setTop (entryFrame m #[(.int p1)] maxLocals)) T104 (mkF m 21 #[.val (.int p1), .val (.int (p1 &&& (7 : Int32))), .val (.ref w_HOLD_SHELVED_FOR)] []) := fun t k => k105 t (XS.icmpNo X104.here hx rfl (hb hby at_18) rfl (teq (show (1 : Int32) = (1 : Int32) from (by decide))).2 k)
                have k107 : own_To p.tables e below (s₁.setTop (entryFrame m #[(.int p1)] maxLocals)) T104 (mkF m 22 #[.val (.int p1), .val (.int (p1 &&& (7 : Int32))), .val (.ref w_HOLD_SHELVED_FOR)] [(.int (1 : Int32))]) := fun t k => k106 t (XS.iconst X104.here hx rfl (hb hby at_21) k)
                have k108 : own_To p.tables e below (s₁.setTop (entryFrame m #[(.int p1)] maxLocals)) T104 (mkF m 26 #[.val (.int p1), .val (.int (p1 &&& (7 : Int32))), .val (.ref w_HOLD_SHELVED_FOR)] [(.int (1 : Int32))]) := fun t k => k107 t (XS.goto X104.here hx rfl (pc0 := 22) (pc' := 26) rfl (hb hby at_22) (by decide) (by decide) k)
                obtain ⟨fs, hr, hrun, hended, hW, hsame⟩ := X104.leave (v := some (.int (1 : Int32))) (fun h => by rw [Bd.returns] at h; cases h)
                refine ⟨_, _, k108 _ ?_, hrun, hended, _, _, rfl, ?_, ⟨_, rfl⟩, hW, hsame.mono (by decide) (by decide)⟩
                · exact retN X104 hx (t := .boolean) Bd.returns (by simp) (hb hby at_26) hr
                · exact ⟨rfl, N104⟩
set_option maxRecDepth 65536 in
set_option maxHeartbeats 40000000 in
theorem comes_1 {Post : Tables → Env → Array Value → State → Outcome → State → Prop} (hpost : ∀ tb e args s v u, (limb_1_1.after args s (.returned v) u = true ∧ limb_1_2.after args s (.returned v) u = true ∧ True) → FrameEnd s (.returned v) u (Jvm.fieldLocs frame_1_writes args s ++ Jvm.arrayLocs frame_1_arrays args s ++ Jvm.staticLocs frame_1_statics s) 0 0 → Post tb e args s (.returned v) u) :
    ArmFor flags0 classFile x code maxLocals ret World_1 tables_1 room_1 Calls_1 rest_1 Pre_1 Post := by
  intro l hfl _ _ p e ha hc hk s m args below hf hA hF happ hP
  obtain ⟨hcalls, hrest, hpre⟩ := hP
  obtain ⟨-, -, -, hnamed, -, -, -, hat⟩ := (Spec.applies_iff hf).mp happ
  obtain ⟨hg, hn⟩ := and_e (Cond.before_iff.mp (show (Jvm.Cond.and given_1 narrow_1).before args s = true from hpre))
  obtain ⟨hg1, hg2⟩ := and_e hg
  obtain ⟨w0, rfl⟩ : ∃ w0 : Value, args = #[w0] := by
    have hs : args.size = 1 := by simpa [Cond.value, given_1] using hg1
    obtain ⟨L⟩ := args
    match L, hs with
    | [w0], _ => exact ⟨w0, rfl⟩
  have hw := fun d (hd : d ∈ tables_1) => atoms_spec (ws := Jvm.Cond.code x code maxLocals ret :: tables_1) hat d (List.mem_cons_of_mem _ hd)
  have hfit : Fit s := fun {y c} hc i hi => by
    obtain ⟨ha, rfl⟩ := Array.getElem?_eq_some_iff.mp hc
    have q := List.all_eq_true.mp ((Array.all_eq_true_iff_forall_mem.mp hF) _ (Array.getElem_mem ha)) i (List.mem_range.mpr hi)
    simpa [Array.getElem?_eq_getElem hi] using q
  obtain ⟨i0, ei0⟩ := is_v hg2
  obtain rfl : w0 = (.int i0) := Option.some.inj ei0
  obtain ⟨hn1, hn2⟩ := and_e hn
  obtain ⟨hn3, hn4⟩ := and_e hn2
  obtain ⟨hn5, hn6⟩ := and_e hn4
  obtain ⟨hn7, hn8⟩ := and_e hn6
  obtain ⟨hn9, hn10⟩ := and_e hn8
  obtain ⟨hn11, hn12⟩ := and_e hn10
  obtain ⟨hn13, hn14⟩ := and_e hn12
  obtain ⟨hn15, hn16⟩ := and_e hn14
  obtain ⟨hn17, hn18⟩ := and_e hn16
  obtain ⟨hn19, hn20⟩ := and_e hn18
  obtain ⟨hn21, hn22⟩ := and_e hn20
  obtain ⟨hn23, hn24⟩ := and_e hn22
  obtain ⟨hn25, hn26⟩ := and_e hn24
  obtain ⟨hn27, hn28⟩ := and_e hn26
  obtain ⟨hn29, hn30⟩ := and_e hn28
  obtain ⟨x_ID, ev_ID⟩ := exa_v hn1
  have E_ID := Exa.start ev_ID hn1
  have S_ID := Sta.start ev_ID (Or.inr ⟨(hw _ (List.mem_of_getElem? (i := 5) rfl)), (hw _ (List.mem_of_getElem? (i := 6) rfl))⟩)
  obtain ⟨x_END_DATE, ev_END_DATE⟩ := exa_v hn3
  have E_END_DATE := Exa.start ev_END_DATE hn3
  have S_END_DATE := Sta.start ev_END_DATE (Or.inr ⟨(hw _ (List.mem_of_getElem? (i := 5) rfl)), (hw _ (List.mem_of_getElem? (i := 13) rfl))⟩)
  obtain ⟨x_HOLD_SHELVED_FOR, ev_HOLD_SHELVED_FOR⟩ := exa_v hn9
  have E_HOLD_SHELVED_FOR := Exa.start ev_HOLD_SHELVED_FOR hn9
  have S_HOLD_SHELVED_FOR := Sta.start ev_HOLD_SHELVED_FOR (Or.inr ⟨(hw _ (List.mem_of_getElem? (i := 5) rfl)), (hw _ (List.mem_of_getElem? (i := 15) rfl))⟩)
  obtain ⟨x_START_DATE, ev_START_DATE⟩ := exa_v hn13
  have E_START_DATE := Exa.start ev_START_DATE hn13
  have S_START_DATE := Sta.start ev_START_DATE (Or.inr ⟨(hw _ (List.mem_of_getElem? (i := 5) rfl)), (hw _ (List.mem_of_getElem? (i := 20) rfl))⟩)
  obtain ⟨x_RENEWAL_COUNT, ev_RENEWAL_COUNT⟩ := exa_v hn17
  have E_RENEWAL_COUNT := Exa.start ev_RENEWAL_COUNT hn17
  have S_RENEWAL_COUNT := Sta.start ev_RENEWAL_COUNT (Or.inr ⟨(hw _ (List.mem_of_getElem? (i := 5) rfl)), (hw _ (List.mem_of_getElem? (i := 22) rfl))⟩)
  obtain ⟨x_ITEM_ID, ev_ITEM_ID⟩ := exa_v hn21
  have E_ITEM_ID := Exa.start ev_ITEM_ID hn21
  have S_ITEM_ID := Sta.start ev_ITEM_ID (Or.inr ⟨(hw _ (List.mem_of_getElem? (i := 5) rfl)), (hw _ (List.mem_of_getElem? (i := 25) rfl))⟩)
  obtain ⟨x_PATRON_ID, ev_PATRON_ID⟩ := exa_v hn25
  have E_PATRON_ID := Exa.start ev_PATRON_ID hn25
  have S_PATRON_ID := Sta.start ev_PATRON_ID (Or.inr ⟨(hw _ (List.mem_of_getElem? (i := 5) rfl)), (hw _ (List.mem_of_getElem? (i := 27) rfl))⟩)
  obtain ⟨x_DUE_DATE, ev_DUE_DATE⟩ := exa_v hn29
  have E_DUE_DATE := Exa.start ev_DUE_DATE hn29
  have S_DUE_DATE := Sta.start ev_DUE_DATE (Or.inr ⟨(hw _ (List.mem_of_getElem? (i := 5) rfl)), (hw _ (List.mem_of_getElem? (i := 29) rfl))⟩)
  have F_ID := own_fldint ev_ID hn5
  have F_END_DATE := own_fldint ev_END_DATE hn7
  have F_HOLD_SHELVED_FOR := own_fldint ev_HOLD_SHELVED_FOR hn11
  have F_START_DATE := own_fldint ev_START_DATE hn15
  have F_RENEWAL_COUNT := own_fldint ev_RENEWAL_COUNT hn19
  have F_ITEM_ID := own_fldint ev_ITEM_ID hn23
  have F_PATRON_ID := own_fldint ev_PATRON_ID hn27
  have F_DUE_DATE := own_fldint ev_DUE_DATE hn30
  obtain ⟨n, o, h1, h2, h3, _, L, rfl, ⟨rfl, N⟩, hq⟩ := own_m0 l s _ hw tables_1 i0 x_ID x_PATRON_ID x_ITEM_ID x_START_DATE x_DUE_DATE x_END_DATE x_RENEWAL_COUNT x_HOLD_SHELVED_FOR s.heap s.heap.size (Nat.le_refl _) S_ID S_PATRON_ID S_ITEM_ID S_START_DATE S_DUE_DATE S_END_DATE S_RENEWAL_COUNT S_HOLD_SHELVED_FOR E_ID E_PATRON_ID E_ITEM_ID E_START_DATE E_DUE_DATE E_END_DATE E_RENEWAL_COUNT E_HOLD_SHELVED_FOR (Fld.ne F_ID F_PATRON_ID (fun q => absurd (Value.int.inj q) (by decide))) (Fld.ne F_ID F_ITEM_ID (fun q => absurd (Value.int.inj q) (by decide))) (Fld.ne F_ID F_START_DATE (fun q => absurd (Value.int.inj q) (by decide))) (Fld.ne F_ID F_DUE_DATE (fun q => absurd (Value.int.inj q) (by decide))) (Fld.ne F_ID F_END_DATE (fun q => absurd (Value.int.inj q) (by decide))) (Fld.ne F_ID F_RENEWAL_COUNT (fun q => absurd (Value.int.inj q) (by decide))) (Fld.ne F_ID F_HOLD_SHELVED_FOR (fun q => absurd (Value.int.inj q) (by decide))) (Fld.ne F_PATRON_ID F_ITEM_ID (fun q => absurd (Value.int.inj q) (by decide))) (Fld.ne F_PATRON_ID F_START_DATE (fun q => absurd (Value.int.inj q) (by decide))) (Fld.ne F_PATRON_ID F_DUE_DATE (fun q => absurd (Value.int.inj q) (by decide))) (Fld.ne F_PATRON_ID F_END_DATE (fun q => absurd (Value.int.inj q) (by decide))) (Fld.ne F_PATRON_ID F_RENEWAL_COUNT (fun q => absurd (Value.int.inj q) (by decide))) (Fld.ne F_PATRON_ID F_HOLD_SHELVED_FOR (fun q => absurd (Value.int.inj q) (by decide))) (Fld.ne F_ITEM_ID F_START_DATE (fun q => absurd (Value.int.inj q) (by decide))) (Fld.ne F_ITEM_ID F_DUE_DATE (fun q => absurd (Value.int.inj q) (by decide))) (Fld.ne F_ITEM_ID F_END_DATE (fun q => absurd (Value.int.inj q) (by decide))) (Fld.ne F_ITEM_ID F_RENEWAL_COUNT (fun q => absurd (Value.int.inj q) (by decide))) (Fld.ne F_ITEM_ID F_HOLD_SHELVED_FOR (fun q => absurd (Value.int.inj q) (by decide))) (Fld.ne F_START_DATE F_DUE_DATE (fun q => absurd (Value.int.inj q) (by decide))) (Fld.ne F_START_DATE F_END_DATE (fun q => absurd (Value.int.inj q) (by decide))) (Fld.ne F_START_DATE F_RENEWAL_COUNT (fun q => absurd (Value.int.inj q) (by decide))) (Fld.ne F_START_DATE F_HOLD_SHELVED_FOR (fun q => absurd (Value.int.inj q) (by decide))) (Fld.ne F_DUE_DATE F_END_DATE (fun q => absurd (Value.int.inj q) (by decide))) (Fld.ne F_DUE_DATE F_RENEWAL_COUNT (fun q => absurd (Value.int.inj q) (by decide))) (Fld.ne F_DUE_DATE F_HOLD_SHELVED_FOR (fun q => absurd (Value.int.inj q) (by decide))) (Fld.ne F_END_DATE F_RENEWAL_COUNT (fun q => absurd (Value.int.inj q) (by decide))) (Fld.ne F_END_DATE F_HOLD_SHELVED_FOR (fun q => absurd (Value.int.inj q) (by decide))) (Fld.ne F_RENEWAL_COUNT F_HOLD_SHELVED_FOR (fun q => absurd (Value.int.inj q) (by decide))) p e ha hc hk s m _ below hf ((Spec.applies_iff_loose hf).mp happ).1 ⟨rfl, State.Warmed39.refl s, rfl⟩ trivial
  refine ⟨n, _, h1, h2, h3, hpost _ _ _ _ _ _ ⟨Cond.after_iff.mpr rfl, Cond.after_iff.mpr (eq_i res_at (Term.int_eval (1)) rfl), trivial⟩ ⟨hq.1, hq.2.1, (hq.2.2.sift fun y hy => Or.inr (N y hy)).mono (by decide) (by decide)⟩⟩
theorem main_1_1 : Claimed_1_1 := comes_1 fun _ _ _ _ _ _ h hF => ⟨h.1, hF⟩
theorem main_1_2 : Claimed_1_2 := comes_1 fun _ _ _ _ _ _ h hF => ⟨h.2.1, hF⟩
end Jvm.Pilot.@@N@@
namespace Jvm.Pilot.@@N@@
open Jvm Jvm.ClassFile Sem Op Lib Jvm.Free Jvm.Stand Jvm.Pilot.@@N@@.Jvm.D
/-! MADE BY PROGRAM (witnessworld.py) out of the Statement's table words and the real class files: 12 classes; the members and pool entries that the words name. The judged class is class 1, her method 3. -/
namespace start1
open Jvm.ClassFile
def u (s : String) : CpInfo := .utf8 (stringToUtf16 s)
/-- a pool by its gaps: so many unusable entries, then the entry; so many at the end -/
def gap : Nat → List CpInfo → List CpInfo
  | 0, r => r
  | n + 1, r => .unusable :: gap n r
def poolList (es : List (Nat × CpInfo)) (last : Nat) : List CpInfo := es.foldr (fun e r => gap e.1 (e.2 :: r)) (gap last [])
def pool (es : List (Nat × CpInfo)) (last : Nat) : Array CpInfo := ⟨poolList es last⟩
def fileOf (pool : Array CpInfo) (this : Nat) (attrs : Array Attribute := #[]) (ms : Array MethodInfo := #[]) (fl : Nat := 33) (sup : Nat := 0) (ifs : Array Nat := #[]) (fds : Array FieldInfo := #[]) : ClassFile where
  minorVersion := 0
  majorVersion := 65
  constantPool := pool
  accessFlags := fl
  thisClass := this
  superClass := sup
  interfaces := ifs
  fields := fds
  methods := ms
  attributes := attrs
def plain (name : String) (sup : Option ClassId) : Class where
  name := name
  kind := .ordinary
  loader := none
  accessFlags := 33
  super := sup
  interfaces := #[]
  cf := none
  fields := #[]
  methods := #[]
  instanceTypes := #[]
  staticTypes := #[]
  resolved := #[]
  callSites := []
  init := .initialized
  statics := none
  mirror := none

def pool0 : Array CpInfo := pool [(5, u "<init>"), (0, u "()V"), (1, .class_ 10), (1, u "java/lang/Object")] 113

def k0m0 : Method := { name := "<init>", desc := "()V", sig := { parameters := [], returnType := none }, accessFlags := 1, code := none }
/-- java/lang/Object -/
def k0 : Class := { plain "java/lang/Object" none with
  accessFlags := 33
  interfaces := #[]
  cf := some (fileOf pool0 8 #[] #[{ accessFlags := 1, nameIndex := 5, descriptorIndex := 6, attributes := #[] }] 33 0 #[] #[])
  fields := #[]
  methods := #[k0m0]
  instanceTypes := #[]
  staticTypes := #[]
  resolved := Array.replicate 124 none
  statics := none }

def pool1 : Array CpInfo := pool [(2, .class_ 4), (1, u "java/lang/Object"), (0, u "<init>"), (0, u "()V"), (0, .fieldref 8 9), (0, .class_ 10), (0, .nameAndType 11 12), (0, u "com/example/grace_period/graceperiod/core/LoanField"), (0, u "ID"), (0, u "Lcom/example/grace_period/graceperiod/core/LoanField;"), (0, .fieldref 8 14), (0, .nameAndType 15 12), (0, u "PATRON_ID"), (0, .fieldref 8 17), (0, .nameAndType 18 12), (0, u "ITEM_ID"), (0, .fieldref 8 20), (0, .nameAndType 21 12), (0, u "START_DATE"), (0, .fieldref 8 23), (0, .nameAndType 24 12), (0, u "DUE_DATE"), (0, .fieldref 8 26), (0, .nameAndType 27 12), (0, u "END_DATE"), (0, .fieldref 8 29), (0, .nameAndType 30 12), (0, u "RENEWAL_COUNT"), (0, .fieldref 8 32), (0, .nameAndType 33 12), (0, u "HOLD_SHELVED_FOR"), (0, .methodref 35 36), (0, .class_ 37), (0, .nameAndType 38 39), (0, u "com/example/grace_period/graceperiod/core/LoanFieldIsOptionalPinLaw"), (0, u "pick"), (0, u "(I)Lcom/example/grace_period/graceperiod/core/LoanField;"), (0, .methodref 8 41), (0, .nameAndType 42 43), (0, u "isOptional"), (0, u "()Z"), (0, .methodref 35 45), (0, .nameAndType 46 47), (0, u "expectedOptional"), (0, u "(I)Z"), (3, u "law")] 2

def k1m0 : Method := { name := "<init>", desc := "()V", sig := { parameters := [], returnType := none }, accessFlags := 2, code := none }
def k1c1 : Code := { maxStack := 2, maxLocals := 1, code := method_2_code, exceptionTable := #[], attributes := #[] }
def k1m1 : Method := { name := "pick", desc := "(I)Lcom/example/grace_period/graceperiod/core/LoanField;", sig := { parameters := [.int], returnType := some (.object "com/example/grace_period/graceperiod/core/LoanField") }, accessFlags := 10, code := some k1c1 }
def k1c2 : Code := { maxStack := 2, maxLocals := 1, code := method_3_code, exceptionTable := #[], attributes := #[] }
def k1m2 : Method := { name := "expectedOptional", desc := "(I)Z", sig := { parameters := [.int], returnType := some .boolean }, accessFlags := 10, code := some k1c2 }
def k1c3 : Code := { maxStack := 2, maxLocals := 3, code := code, exceptionTable := #[], attributes := #[] }
def k1m3 : Method := { name := "law", desc := "(I)Z", sig := { parameters := [.int], returnType := some .boolean }, accessFlags := 9, code := some k1c3 }
/-- com/example/grace_period/graceperiod/core/LoanFieldIsOptionalPinLaw -/
def k1 : Class := { plain "com/example/grace_period/graceperiod/core/LoanFieldIsOptionalPinLaw" (some 0) with
  accessFlags := 49
  interfaces := #[]
  cf := some (fileOf pool1 35 #[] #[{ accessFlags := 2, nameIndex := 5, descriptorIndex := 6, attributes := #[] }, { accessFlags := 10, nameIndex := 38, descriptorIndex := 39, attributes := #[] }, { accessFlags := 10, nameIndex := 46, descriptorIndex := 47, attributes := #[] }, { accessFlags := 9, nameIndex := 51, descriptorIndex := 47, attributes := #[] }] 49 2 #[] #[])
  fields := #[]
  methods := #[k1m0, k1m1, k1m2, k1m3]
  instanceTypes := #[]
  staticTypes := #[]
  resolved := Array.replicate 54 none
  statics := none }

def pool2 : Array CpInfo := pool [(1, .class_ 2), (0, u "java/lang/constant/Constable"), (0, .class_ 4), (0, u "java/lang/Object")] 6

/-- java/lang/constant/Constable -/
def k2 : Class := { plain "java/lang/constant/Constable" (some 0) with
  accessFlags := 1537
  interfaces := #[]
  cf := some (fileOf pool2 1 #[] #[] 1537 3 #[] #[])
  fields := #[]
  methods := #[]
  instanceTypes := #[]
  staticTypes := #[]
  resolved := Array.replicate 11 none
  statics := none }

def pool3 : Array CpInfo := pool [(1, .class_ 2), (0, u "java/lang/Comparable"), (0, .class_ 4), (0, u "java/lang/Object")] 7

/-- java/lang/Comparable -/
def k3 : Class := { plain "java/lang/Comparable" (some 0) with
  accessFlags := 1537
  interfaces := #[]
  cf := some (fileOf pool3 1 #[] #[] 1537 3 #[] #[])
  fields := #[]
  methods := #[]
  instanceTypes := #[]
  staticTypes := #[]
  resolved := Array.replicate 12 none
  statics := none }

def pool4 : Array CpInfo := pool [(1, .class_ 2), (0, u "java/io/Serializable"), (0, .class_ 4), (0, u "java/lang/Object")] 2

/-- java/io/Serializable -/
def k4 : Class := { plain "java/io/Serializable" (some 0) with
  accessFlags := 1537
  interfaces := #[]
  cf := some (fileOf pool4 1 #[] #[] 1537 3 #[] #[])
  fields := #[]
  methods := #[]
  instanceTypes := #[]
  staticTypes := #[]
  resolved := Array.replicate 7 none
  statics := none }

def pool5 : Array CpInfo := pool [(2, .class_ 4), (1, u "java/lang/Enum"), (0, u "name"), (0, u "Ljava/lang/String;"), (2, u "ordinal"), (0, u "I"), (1, .class_ 14), (1, u "java/lang/Object"), (4, u "hash"), (86, .class_ 108), (1, u "java/lang/Enum$EnumDesc"), (2, .class_ 112), (0, u "java/lang/constant/Constable"), (0, .class_ 114), (0, u "java/lang/Comparable"), (0, .class_ 116), (0, u "java/io/Serializable")] 87

/-- java/lang/Enum -/
def k5 : Class := { plain "java/lang/Enum" (some 0) with
  accessFlags := 1057
  interfaces := #[2, 3, 4]
  cf := some (fileOf pool5 2 #[.nestMembers #[106]] #[] 1057 12 #[111, 113, 115] #[{ accessFlags := 18, nameIndex := 5, descriptorIndex := 6, attributes := #[] }, { accessFlags := 18, nameIndex := 9, descriptorIndex := 10, attributes := #[] }, { accessFlags := 2, nameIndex := 19, descriptorIndex := 10, attributes := #[] }])
  fields := #[{ name := "name", type := (.object "java/lang/String"), accessFlags := 18, slot := 0, constantValue := 0 }, { name := "ordinal", type := .int, accessFlags := 18, slot := 1, constantValue := 0 }, { name := "hash", type := .int, accessFlags := 2, slot := 2, constantValue := 0 }]
  methods := #[]
  instanceTypes := #[(.object "java/lang/String"), .int, .int]
  staticTypes := #[]
  resolved := Array.replicate 204 none
  statics := none }

def pool6 : Array CpInfo := pool [(1, .class_ 2), (0, u "com/example/grace_period/graceperiod/core/LoanField"), (2, u "ID"), (0, u "Lcom/example/grace_period/graceperiod/core/LoanField;"), (2, u "PATRON_ID"), (2, u "ITEM_ID"), (2, u "START_DATE"), (2, u "DUE_DATE"), (0, .fieldref 1 20), (0, .nameAndType 21 6), (0, u "END_DATE"), (2, u "RENEWAL_COUNT"), (0, .fieldref 1 26), (0, .nameAndType 27 6), (0, u "HOLD_SHELVED_FOR"), (2, u "$VALUES"), (0, u "[Lcom/example/grace_period/graceperiod/core/LoanField;"), (6, .class_ 40), (1, u "java/lang/Enum"), (50, u "()Z"), (0, u "isOptional")] 4

def k6c0 : Code := { maxStack := 2, maxLocals := 1, code := prog_33_method_6_code, exceptionTable := #[], attributes := #[] }
def k6m0 : Method := { name := "isOptional", desc := "()Z", sig := { parameters := [], returnType := some .boolean }, accessFlags := 1, code := some k6c0 }
/-- com/example/grace_period/graceperiod/core/LoanField -/
def k6 : Class := { plain "com/example/grace_period/graceperiod/core/LoanField" (some 5) with
  accessFlags := 16433
  interfaces := #[]
  cf := some (fileOf pool6 1 #[] #[{ accessFlags := 1, nameIndex := 92, descriptorIndex := 91, attributes := #[] }] 16433 38 #[] #[{ accessFlags := 16409, nameIndex := 5, descriptorIndex := 6, attributes := #[] }, { accessFlags := 16409, nameIndex := 9, descriptorIndex := 6, attributes := #[] }, { accessFlags := 16409, nameIndex := 12, descriptorIndex := 6, attributes := #[] }, { accessFlags := 16409, nameIndex := 15, descriptorIndex := 6, attributes := #[] }, { accessFlags := 16409, nameIndex := 18, descriptorIndex := 6, attributes := #[] }, { accessFlags := 16409, nameIndex := 21, descriptorIndex := 6, attributes := #[] }, { accessFlags := 16409, nameIndex := 24, descriptorIndex := 6, attributes := #[] }, { accessFlags := 16409, nameIndex := 27, descriptorIndex := 6, attributes := #[] }, { accessFlags := 4122, nameIndex := 30, descriptorIndex := 31, attributes := #[] }])
  fields := #[{ name := "ID", type := (.object "com/example/grace_period/graceperiod/core/LoanField"), accessFlags := 16409, slot := 0, constantValue := 0 }, { name := "PATRON_ID", type := (.object "com/example/grace_period/graceperiod/core/LoanField"), accessFlags := 16409, slot := 1, constantValue := 0 }, { name := "ITEM_ID", type := (.object "com/example/grace_period/graceperiod/core/LoanField"), accessFlags := 16409, slot := 2, constantValue := 0 }, { name := "START_DATE", type := (.object "com/example/grace_period/graceperiod/core/LoanField"), accessFlags := 16409, slot := 3, constantValue := 0 }, { name := "DUE_DATE", type := (.object "com/example/grace_period/graceperiod/core/LoanField"), accessFlags := 16409, slot := 4, constantValue := 0 }, { name := "END_DATE", type := (.object "com/example/grace_period/graceperiod/core/LoanField"), accessFlags := 16409, slot := 5, constantValue := 0 }, { name := "RENEWAL_COUNT", type := (.object "com/example/grace_period/graceperiod/core/LoanField"), accessFlags := 16409, slot := 6, constantValue := 0 }, { name := "HOLD_SHELVED_FOR", type := (.object "com/example/grace_period/graceperiod/core/LoanField"), accessFlags := 16409, slot := 7, constantValue := 0 }, { name := "$VALUES", type := (.array (.object "com/example/grace_period/graceperiod/core/LoanField")), accessFlags := 4122, slot := 8, constantValue := 0 }]
  methods := #[k6m0]
  instanceTypes := #[(.object "java/lang/String"), .int, .int]
  staticTypes := #[(.object "com/example/grace_period/graceperiod/core/LoanField"), (.object "com/example/grace_period/graceperiod/core/LoanField"), (.object "com/example/grace_period/graceperiod/core/LoanField"), (.object "com/example/grace_period/graceperiod/core/LoanField"), (.object "com/example/grace_period/graceperiod/core/LoanField"), (.object "com/example/grace_period/graceperiod/core/LoanField"), (.object "com/example/grace_period/graceperiod/core/LoanField"), (.object "com/example/grace_period/graceperiod/core/LoanField"), (.array (.object "com/example/grace_period/graceperiod/core/LoanField"))]
  resolved := Array.replicate 97 none
  statics := some 0 }

def pool7 : Array CpInfo := pool [(1, u "java/lang/Cloneable"), (0, .class_ 1), (0, u "java/lang/Object"), (0, .class_ 3)] 3

/-- java/lang/Cloneable -/
def k7 : Class := { plain "java/lang/Cloneable" (some 0) with
  accessFlags := 1537
  interfaces := #[]
  cf := some (fileOf pool7 2 #[] #[] 1537 4 #[] #[])
  fields := #[]
  methods := #[]
  instanceTypes := #[]
  staticTypes := #[]
  resolved := Array.replicate 8 none
  statics := none }

/-- the primitive byte -/
def k8 : Class := { plain "byte" none with kind := .primitive 'B', accessFlags := 0x411 }
/-- [B -/
def k9 : Class := { plain "[B" (some 0) with kind := .array 8 .byte, interfaces := #[7, 4], accessFlags := 1041 }

/-- the primitive int -/
def k10 : Class := { plain "int" none with kind := .primitive 'I', accessFlags := 0x411 }
/-- [I -/
def k11 : Class := { plain "[I" (some 0) with kind := .array 10 .int, interfaces := #[7, 4], accessFlags := 1041 }

def heap : Heap := #[{ cls := 6, slots := #[.ref 1, .ref 7, .ref 6, .ref 4, .ref 8, .ref 2, .ref 5, .ref 3, .null], vm := .statics 6 },
  { cls := 6, slots := #[.null, .int 0, .int 0], vm := .none },
  { cls := 6, slots := #[.null, .int 5, .int 0], vm := .none },
  { cls := 6, slots := #[.null, .int 7, .int 0], vm := .none },
  { cls := 6, slots := #[.null, .int 3, .int 0], vm := .none },
  { cls := 6, slots := #[.null, .int 6, .int 0], vm := .none },
  { cls := 6, slots := #[.null, .int 2, .int 0], vm := .none },
  { cls := 6, slots := #[.null, .int 1, .int 0], vm := .none },
  { cls := 6, slots := #[.null, .int 4, .int 0], vm := .none }]
def classes : Array Class := #[k0, k1, k2, k3, k4, k5, k6, k7, k8, k9, k10, k11]
def interned : List (Array UInt16 × Addr) := []
def slotsUsed : Nat := 33
def theMethod : MethodId := ⟨1, 3⟩
def args0 : Array Value := #[.int 5]
def aboutOver (below : List Frame) : State where
  vm := { classes := classes, interned := interned.toArray }
  heap := heap
  slotsUsed := slotsUsed
  threads := #[{ frames := .invoking theMethod args0 :: below }]
def below0 : List Frame := [.native { method := ⟨0, 0⟩, args := #[] }]
def about1 : State := aboutOver below0
def p0 : Program := .bare "" "" ""
def e0 : Env := launch0.env 0 0 0
theorem w_frames : about1.frames = Frame.invoking theMethod args0 :: below0 := rfl
set_option maxRecDepth 65536 in
theorem w_args : argsFit about1.vm theMethod args0 = true := by decide +kernel
set_option maxRecDepth 65536 in
theorem w_heap : heapFits about1 = true := by decide +kernel
set_option maxRecDepth 65536 in
theorem w_runnable : about1.curStatus? = some .runnable := by decide +kernel
set_option maxRecDepth 65536 in
theorem w_alone : about1.alone = true := by decide +kernel
set_option maxRecDepth 65536 in
theorem w_named : about1.methodNamed? x = some theMethod := by decide +kernel
set_option maxRecDepth 65536 in
theorem w_hears : about1.hears theMethod below0 = true := by decide +kernel
set_option maxRecDepth 65536 in
theorem w_ripe : about1.ripe theMethod args0 below0 = true := by decide +kernel
theorem w_running : about1.status = .running := rfl
set_option maxRecDepth 65536 in
theorem w_room : about1.hasRoom e0.platform room_1 = true :=
  launch0.hasRoom_least _ room_1 (by decide +kernel) (by decide +kernel) (by decide +kernel) (by decide +kernel) (by decide +kernel) (by decide +kernel)
theorem allAtoms_all (ts : List Jvm.Cond) (a : Array Jvm.Value) (st : Jvm.State) : (allAtoms ts).before a st = ts.all (fun c => c.before a st) := by
  induction ts with
  | nil => rfl
  | cons c t ih =>
    show (Jvm.Cond.and c (allAtoms t)).before a st = _
    rw [Jvm.Cond.before_and, ih, List.all_cons]
def words1 : List Jvm.Cond := Jvm.Cond.code x code maxLocals ret :: tables_1
/-- a 'code' word, met by the world's own term for the bytes: nothing is compared byte by byte -/
theorem code_word {y : MethodName} {bytes : ByteArray} {mx : Nat} {rt : Option FieldType} {a : Array Value} {s : State} {m : MethodId} {meth : Method} {c : Code} (h1 : s.methodNamed? y = some m) (h2 : s.vm.method? m = some meth) (h3 : meth.code = some c) (h4 : c.code = bytes)
    (h5 : (c.maxLocals == mx && c.exceptionTable.isEmpty && decide (c.maxStack ≤ mostOperands) && decide (meth.sig.returnType = rt) && !meth.locks && decide (parseMethodDescriptor y.desc = some meth.sig)) = true) : (Jvm.Cond.code y bytes mx rt).before a s = true := by
  simp only [Bool.and_eq_true, beq_iff_eq, Bool.not_eq_true', decide_eq_true_eq] at h5
  obtain ⟨⟨⟨⟨⟨g1, g2⟩, g3⟩, g4⟩, g5⟩, g6⟩ := h5
  simp [Cond.before, Cond.holds, Cond.value, h1, h2, h3, h4, g1, g2, g3, g4, g5, g6]
def isCode : Jvm.Cond → Bool
  | .code _ _ _ _ => true
  | _ => false
theorem all_split {L : List Jvm.Cond} {P : Jvm.Cond → Bool} (h1 : L.all (fun c => isCode c || P c) = true) (h2 : ∀ c ∈ L.filter isCode, P c = true) : L.all P = true := by
  refine List.all_eq_true.mpr fun c hc => ?_
  have h := List.all_eq_true.mp h1 c hc
  rcases Bool.eq_false_or_eq_true (isCode c) with hi | hi
  · exact h2 c (List.mem_filter.mpr ⟨hc, hi⟩)
  · simpa [hi] using h
set_option maxRecDepth 65536 in
theorem w_c0 : (Jvm.Cond.code x code maxLocals ret).before args0 about1 = true := code_word (m := ⟨1, 3⟩) (meth := k1m3) (c := k1c3) (by decide +kernel) rfl rfl rfl (by decide +kernel)
set_option maxRecDepth 65536 in
theorem w_c1 : (Jvm.Cond.code ({ cls := "com/example/grace_period/graceperiod/core/LoanFieldIsOptionalPinLaw", name := "pick", desc := "(I)Lcom/example/grace_period/graceperiod/core/LoanField;" } : Jvm.MethodName) method_2_code (1 : Nat) (Option.some (Jvm.ClassFile.FieldType.object "com/example/grace_period/graceperiod/core/LoanField"))).before args0 about1 = true := code_word (m := ⟨1, 1⟩) (meth := k1m1) (c := k1c1) (by decide +kernel) rfl rfl rfl (by decide +kernel)
set_option maxRecDepth 65536 in
theorem w_c2 : (Jvm.Cond.code ({ cls := "com/example/grace_period/graceperiod/core/LoanField", name := "isOptional", desc := "()Z" } : Jvm.MethodName) prog_33_method_6_code (1 : Nat) (Option.some Jvm.ClassFile.FieldType.boolean)).before args0 about1 = true := code_word (m := ⟨6, 0⟩) (meth := k6m0) (c := k6c0) (by decide +kernel) rfl rfl rfl (by decide +kernel)
set_option maxRecDepth 65536 in
theorem w_c3 : (Jvm.Cond.code ({ cls := "com/example/grace_period/graceperiod/core/LoanFieldIsOptionalPinLaw", name := "expectedOptional", desc := "(I)Z" } : Jvm.MethodName) method_3_code (1 : Nat) (Option.some Jvm.ClassFile.FieldType.boolean)).before args0 about1 = true := code_word (m := ⟨1, 2⟩) (meth := k1m2) (c := k1c2) (by decide +kernel) rfl rfl rfl (by decide +kernel)
def codes1 : List Jvm.Cond := [Jvm.Cond.code x code maxLocals ret, Jvm.Cond.code ({ cls := "com/example/grace_period/graceperiod/core/LoanFieldIsOptionalPinLaw", name := "pick", desc := "(I)Lcom/example/grace_period/graceperiod/core/LoanField;" } : Jvm.MethodName) method_2_code (1 : Nat) (Option.some (Jvm.ClassFile.FieldType.object "com/example/grace_period/graceperiod/core/LoanField")), Jvm.Cond.code ({ cls := "com/example/grace_period/graceperiod/core/LoanField", name := "isOptional", desc := "()Z" } : Jvm.MethodName) prog_33_method_6_code (1 : Nat) (Option.some Jvm.ClassFile.FieldType.boolean), Jvm.Cond.code ({ cls := "com/example/grace_period/graceperiod/core/LoanFieldIsOptionalPinLaw", name := "expectedOptional", desc := "(I)Z" } : Jvm.MethodName) method_3_code (1 : Nat) (Option.some Jvm.ClassFile.FieldType.boolean)]
set_option maxRecDepth 65536 in
theorem codes_eq : words1.filter isCode = codes1 := rfl
theorem w_codes : ∀ c ∈ words1.filter isCode, c.before args0 about1 = true := by
  rw [codes_eq]
  intro c hc
  simp only [codes1, List.mem_cons, List.not_mem_nil, or_false] at hc
  rcases hc with rfl | rfl | rfl | rfl
  · exact w_c0
  · exact w_c1
  · exact w_c2
  · exact w_c3
set_option maxRecDepth 65536 in
theorem w_t1 : (words1.take 24).all (fun c => isCode c || c.before args0 about1) = true := by decide +kernel
set_option maxRecDepth 65536 in
theorem w_t2 : (words1.drop 24).all (fun c => isCode c || c.before args0 about1) = true := by decide +kernel
theorem w_tables : (allAtoms (Jvm.Cond.code x code maxLocals ret :: tables_1)).before args0 about1 = true := by
  rw [allAtoms_all]
  show words1.all (fun c => c.before args0 about1) = true
  refine all_split ?_ w_codes
  rw [← List.take_append_drop 24 words1, List.all_append, w_t1, w_t2]
  rfl
set_option maxRecDepth 65536 in
theorem w_case : (Jvm.Cond.and given_1 narrow_1).before args0 about1 = true := by decide +kernel
theorem w_applies : (headSpec (Jvm.Cond.code x code maxLocals ret :: tables_1) room_1).applies x e0.platform about1 = true :=
  (Spec.applies_iff w_frames).mpr ⟨w_running, w_runnable, w_alone, w_named, w_hears, w_ripe, w_room, w_tables⟩
theorem atStart : AtStart classFile x code maxLocals ret World_1 tables_1 room_1 Calls_1 rest_1 Pre_1 launch0 p0 e0 about1 theMethod args0 below0 :=
  ⟨lists_1, trivial, launch0.admits_env _ _ _, launch0.least_env, fairChoices_fair.cas, fairChoices_fair.clock, w_frames, w_args, w_heap, w_applies, trivial, trivial, w_case⟩
end start1
theorem witness_1 : WitnessClaimed_1 := ⟨start1.p0, start1.e0, start1.about1, start1.theMethod, start1.args0, start1.below0, start1.atStart⟩
end Jvm.Pilot.@@N@@
