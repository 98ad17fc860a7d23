import JvmDerived
import JvmDerived.Pilot.@@N@@Statement
import JvmDerived.Pilot.@@N@@Code
set_option linter.unusedVariables false
set_option linter.unusedSimpArgs false
namespace Jvm.RoadKit
open Sem ClassFile Op Lib Jvm.Stand Jvm.Free Jvm.LawKit
section New
variable {p : Program} {l : Launch} {e : Env} {R : Room} {s : State} {m : MethodId} {args : Array Value} {below : List Frame} {meth : Method} {c : Code} {T : State} {locs : List Loc} {cells slots : Nat}
theorem retI (X : Stand p l e R s m args below meth c T locs cells slots) (hx : p.tables.exec = Jvm.exec) {pc : Nat} {Ls : Array Slot} {z : Int32} {rest : List Value} (hret : meth.sig.returnType = some .int) (hd : decode c.code pc = .ok (.ireturn, 1)) {fs : List Frame}
    (hl : ∀ (f : JFrame) (acts : List Action), f.method = m → f.locked = none → f.entered = [] → (doReturn e (T.setTop f) acts (some (.int z))).1 = T.setFrames fs) : Steps p.tables e below (T.setTop (mkF m pc Ls (.int z :: rest))) (T.setFrames fs) := by
  have hm' : T.vm.method? m = some meth := X.method'
  have hn : narrow .int (.int z) = .int z := rfl
  show Steps p.tables e below (T.setTop { method := m, pc := pc, locals := Ls, stack := _ :: rest, locked := none }) _
  jvm_step X.here [X.here.top, hx, hd, hm', hret, hn]
  first | (intro acts; rw [hl _ acts rfl rfl rfl]) | rw [hl _ _ rfl rfl rfl]
  exact Steps.refl _
end New
end Jvm.RoadKit
namespace Jvm.Pilot.@@N@@
open Jvm Jvm.ClassFile Sem Op Lib Jvm.Free Jvm.Stand Jvm.LawKit Jvm.RoadKit Bundle Jvm.Pilot.@@N@@.Jvm.D
/-- the run comes from A to the state U with the frame g on top -/
def own_To (tb : Tables) (e : Env) (below : List Frame) (A U : State) (g : JFrame) : Prop := ∀ t, Steps tb e below (U.setTop g) t → Steps tb e below A t
/-- what a body that writes nothing leaves -/
def own_Q (r : Option Value) (h0 : Heap) (n0 : Nat) (v : Option Value) (h : Heap) (L : List Loc) : Prop := v = r ∧ Fr n0 L ∧ h = h0
theorem own_fldint {args : Array Value} {Z : State} {t : Term} {x : Addr} {C n d : String} {k : Int32} (ht : t.eval args Z none [] Z = some (.ref x)) (h : (Jvm.Cond.eq (.field t C n d) (.int k)).value args Z none Z [] = some true) : Fld Z Z.heap x C n d (.int k) := by
  apply Fld.start
  obtain ⟨u, v, h1, h2, k1, -⟩ := cmp_v (Or.inl h)
  have e2 : v = .int k := (Option.some.inj (h2.symm.trans (Term.int_eval k)))
  subst e2
  cases u with
  | int z => rw [← fld_at ht, h1]; have := gotT (Cond.eq_ints h1 h2) h; rw [this]
  | long z => obtain ⟨_, q⟩ := k1; cases q
  | float z => obtain ⟨_, q⟩ := k1; cases q
  | double z => obtain ⟨_, q⟩ := k1; cases q
  | ref z => exact absurd k1.2 (by simp [Value.isRef])
  | null => exact absurd k1.2 (by simp [Value.isRef])
  | retAddr z => exact absurd k1.2 (by simp [Value.isRef])
theorem own_rem7 (x : Int32) (h0 : ¬ (((x &&& (2147483647 : Int32)) % (7 : Int32)) = (0 : Int32))) (h1 : ¬ (((x &&& (2147483647 : Int32)) % (7 : Int32)) = (1 : Int32))) (h2 : ¬ (((x &&& (2147483647 : Int32)) % (7 : Int32)) = (2 : Int32))) (h3 : ¬ (((x &&& (2147483647 : Int32)) % (7 : Int32)) = (3 : Int32))) (h4 : ¬ (((x &&& (2147483647 : Int32)) % (7 : Int32)) = (4 : Int32))) (h5 : ¬ (((x &&& (2147483647 : Int32)) % (7 : Int32)) = (5 : Int32))) : ((x &&& (2147483647 : Int32)) % (7 : Int32)) = (6 : Int32) := by
  have e : (x &&& (2147483647 : Int32)).toInt = x.toInt % (2 ^ 31 : Nat) := c_mask x 2147483647 31 (by decide) (by decide)
  have h1 : ((2 ^ 31 : Nat) : Int) = 2147483648 := rfl
  rw [h1] at e
  have r := (c_irem (x &&& (2147483647 : Int32)) (7 : Int32) 7 (by decide)).1 (by omega)
  skip
  simp only [← Int32.toInt_inj] at *
  have c0 : (0 : Int32).toInt = 0 := by decide
  have c1 : (1 : Int32).toInt = 1 := by decide
  have c2 : (2 : Int32).toInt = 2 := by decide
  have c3 : (3 : Int32).toInt = 3 := by decide
  have c4 : (4 : Int32).toInt = 4 := by decide
  have c5 : (5 : Int32).toInt = 5 := by decide
  have c6 : (6 : Int32).toInt = 6 := by decide
  omega
theorem own_clamp {i : Nat} (h : i < 2 ^ 31) : (Nat.toInt32 i).toNatClampNeg = i := by
  simp only [Int32.toNatClampNeg, len_toInt h]; rfl
theorem own_inb {c : Cell} {n j : Int32} {i : Nat} (S : c.slots.size = n.toNatClampNeg) (hj : j = Nat.toInt32 i) (hi : i < n.toNatClampNeg) : ¬ (j < 0 ∨ c.slots.size ≤ j.toNatClampNeg) := by
  subst hj; rw [S]; refine idx_in hi ?_
  have := n.toInt_lt
  simp only [Int32.toNatClampNeg]; omega
theorem own_idx {j : Int32} {i : Nat} (hj : j = Nat.toInt32 i) (h : i < 64) : j.toNatClampNeg = i := by subst hj; exact own_clamp (by omega)
theorem own_monoW {s t : State} {o : Outcome} {L : List Loc} {k n k' n' : Nat} (h : ReturnedEndW s o t L k n) (hk : k ≤ k') (hn : n ≤ n') : ReturnedEndW s o t L k' n' := ⟨h.1, h.2.1, h.2.2.1, h.2.2.2.mono hk hn⟩
theorem own_sta_keep {Z : State} {h h' : Heap} {C n d : String} {v : Value} {ws : List Addr} (F : Sta Z h C n d v) (K : Keep h h' ws) (q : ∀ x ∈ ws, ∀ cell : Cell, h[x]? = some cell → cell.vm.isStatics = false) : Sta Z h' C n d v := by
  obtain ⟨cf, i, k, f, st, cell, h1, h2, h3, h4, h5, h6, h7⟩ := F
  exact ⟨cf, i, k, f, st, cell, h1, h2, h3, h4, K.2.1 _ _ h5 (fun hm => by have := q st hm cell h5; rw [h6] at this; cases this), h6, h7⟩
theorem own_EW {Z : State} {a0 : Array Value} (hw : ∀ d ∈ tables_1, d.before a0 Z = true) : EW Z a0 consts_1 := (EW.cons (hw _ (List.mem_of_getElem? (i := 28) rfl)) (by decide) (EW.cons (hw _ (List.mem_of_getElem? (i := 101) rfl)) (by decide) (EW.cons (hw _ (List.mem_of_getElem? (i := 99) rfl)) (by decide) (EW.cons (hw _ (List.mem_of_getElem? (i := 77) rfl)) (by decide) (EW.cons (hw _ (List.mem_of_getElem? (i := 97) rfl)) (by decide) (EW.cons (hw _ (List.mem_of_getElem? (i := 91) rfl)) (by decide) (EW.cons (hw _ (List.mem_of_getElem? (i := 94) rfl)) (by decide) (EW.cons (hw _ (List.mem_of_getElem? (i := 78) rfl)) (by decide) EW.nil))))))))
theorem own_wS {Z : State} {a0 : Array Value} (hw : ∀ d ∈ tables_1, d.before a0 Z = true) : ∀ a ∈ Bundle.stringAtoms, a.before a0 Z = true := fun d hd => hw d ((by decide +kernel : ∀ d ∈ Bundle.stringAtoms, d ∈ tables_1) d hd)
theorem own_d1_0 : decode method_2_code 0 = .ok (.iload_n 0, 1) := by decide +kernel
theorem own_d1_1 : decode method_2_code 1 = .ok (.ifCond .ne 7, 3) := by decide +kernel
theorem own_d1_4 : decode method_2_code 4 = .ok (.getstatic 7, 3) := by decide +kernel
theorem own_d1_7 : decode method_2_code 7 = .ok (.areturn, 1) := by decide +kernel
theorem own_d1_8 : decode method_2_code 8 = .ok (.iload_n 0, 1) := by decide +kernel
theorem own_d1_9 : decode method_2_code 9 = .ok (.iconst 1, 1) := by decide +kernel
theorem own_d1_10 : decode method_2_code 10 = .ok (.if_icmp .ne 7, 3) := by decide +kernel
theorem own_d1_13 : decode method_2_code 13 = .ok (.getstatic 13, 3) := by decide +kernel
theorem own_d1_16 : decode method_2_code 16 = .ok (.areturn, 1) := by decide +kernel
theorem own_d1_17 : decode method_2_code 17 = .ok (.iload_n 0, 1) := by decide +kernel
theorem own_d1_18 : decode method_2_code 18 = .ok (.iconst 2, 1) := by decide +kernel
theorem own_d1_19 : decode method_2_code 19 = .ok (.if_icmp .ne 7, 3) := by decide +kernel
theorem own_d1_22 : decode method_2_code 22 = .ok (.getstatic 16, 3) := by decide +kernel
theorem own_d1_25 : decode method_2_code 25 = .ok (.areturn, 1) := by decide +kernel
theorem own_d1_26 : decode method_2_code 26 = .ok (.iload_n 0, 1) := by decide +kernel
theorem own_d1_27 : decode method_2_code 27 = .ok (.iconst 3, 1) := by decide +kernel
theorem own_d1_28 : decode method_2_code 28 = .ok (.if_icmp .ne 7, 3) := by decide +kernel
theorem own_d1_31 : decode method_2_code 31 = .ok (.getstatic 19, 3) := by decide +kernel
theorem own_d1_34 : decode method_2_code 34 = .ok (.areturn, 1) := by decide +kernel
theorem own_d1_35 : decode method_2_code 35 = .ok (.iload_n 0, 1) := by decide +kernel
theorem own_d1_36 : decode method_2_code 36 = .ok (.iconst 4, 1) := by decide +kernel
theorem own_d1_37 : decode method_2_code 37 = .ok (.if_icmp .ne 7, 3) := by decide +kernel
theorem own_d1_40 : decode method_2_code 40 = .ok (.getstatic 22, 3) := by decide +kernel
theorem own_d1_43 : decode method_2_code 43 = .ok (.areturn, 1) := by decide +kernel
theorem own_d1_44 : decode method_2_code 44 = .ok (.iload_n 0, 1) := by decide +kernel
theorem own_d1_45 : decode method_2_code 45 = .ok (.iconst 5, 1) := by decide +kernel
theorem own_d1_46 : decode method_2_code 46 = .ok (.if_icmp .ne 7, 3) := by decide +kernel
theorem own_d1_49 : decode method_2_code 49 = .ok (.getstatic 25, 3) := by decide +kernel
theorem own_d1_52 : decode method_2_code 52 = .ok (.areturn, 1) := by decide +kernel
theorem own_d1_53 : decode method_2_code 53 = .ok (.getstatic 28, 3) := by decide +kernel
theorem own_d1_56 : decode method_2_code 56 = .ok (.areturn, 1) := by decide +kernel
theorem own_ef1 (m : MethodId) (x0 : Int32) : entryFrame m #[(.int x0)] 1 = mkF m 0 #[.val (.int x0)] [] := by first | (simp [entryFrame, mkF, argsToLocals, Value.category]; done) | rfl
theorem own_pn1 : plainName "com/example/grace_period/graceperiod/server/cql/RelationIsOrderingPinLaw" = true := by first | (simp [plainName, overriddenIn]; done) | decide +kernel
def own_f1 (p1 : Int32) (w_SERVER_CHOICE : Addr) (w_EXACT : Addr) (w_NOT_EQUAL : Addr) (w_LESS : Addr) (w_LESS_OR_EQUAL : Addr) (w_GREATER : Addr) (w_GREATER_OR_EQUAL : Addr) : Addr := (if p1 = (0 : Int32) then w_SERVER_CHOICE else (if p1 = (1 : Int32) then w_EXACT else (if p1 = (2 : Int32) then w_NOT_EQUAL else (if p1 = (3 : Int32) then w_LESS else (if p1 = (4 : Int32) then w_LESS_OR_EQUAL else (if p1 = (5 : Int32) then w_GREATER else w_GREATER_OR_EQUAL))))))
set_option maxRecDepth 65536 in
set_option maxHeartbeats 40000000 in
theorem own_m1 (l : Launch) (Z : State) (a0 : Array Value) (hw : ∀ d ∈ tables_1, d.before a0 Z = true) (ws : List Jvm.Cond) (p1 : Int32) (w_SERVER_CHOICE : Addr) (w_EXACT : Addr) (w_NOT_EQUAL : Addr) (w_LESS : Addr) (w_LESS_OR_EQUAL : Addr) (w_GREATER : Addr) (w_GREATER_OR_EQUAL : Addr) (h0 : Heap) (n0 : Nat) (Z0 : n0 ≤ h0.size) (S_SERVER_CHOICE : Sta Z h0 "com/example/grace_period/graceperiod/server/cql/CqlClause$Relation" "SERVER_CHOICE" "Lcom/example/grace_period/graceperiod/server/cql/CqlClause$Relation;" (.ref w_SERVER_CHOICE)) (S_EXACT : Sta Z h0 "com/example/grace_period/graceperiod/server/cql/CqlClause$Relation" "EXACT" "Lcom/example/grace_period/graceperiod/server/cql/CqlClause$Relation;" (.ref w_EXACT)) (S_NOT_EQUAL : Sta Z h0 "com/example/grace_period/graceperiod/server/cql/CqlClause$Relation" "NOT_EQUAL" "Lcom/example/grace_period/graceperiod/server/cql/CqlClause$Relation;" (.ref w_NOT_EQUAL)) (S_LESS : Sta Z h0 "com/example/grace_period/graceperiod/server/cql/CqlClause$Relation" "LESS" "Lcom/example/grace_period/graceperiod/server/cql/CqlClause$Relation;" (.ref w_LESS)) (S_LESS_OR_EQUAL : Sta Z h0 "com/example/grace_period/graceperiod/server/cql/CqlClause$Relation" "LESS_OR_EQUAL" "Lcom/example/grace_period/graceperiod/server/cql/CqlClause$Relation;" (.ref w_LESS_OR_EQUAL)) (S_GREATER : Sta Z h0 "com/example/grace_period/graceperiod/server/cql/CqlClause$Relation" "GREATER" "Lcom/example/grace_period/graceperiod/server/cql/CqlClause$Relation;" (.ref w_GREATER)) (S_GREATER_OR_EQUAL : Sta Z h0 "com/example/grace_period/graceperiod/server/cql/CqlClause$Relation" "GREATER_OR_EQUAL" "Lcom/example/grace_period/graceperiod/server/cql/CqlClause$Relation;" (.ref w_GREATER_OR_EQUAL)) :
    MetFree l (⟨"com/example/grace_period/graceperiod/server/cql/RelationIsOrderingPinLaw", "pick", "(I)Lcom/example/grace_period/graceperiod/server/cql/CqlClause$Relation;"⟩ : MethodName) (head1 (Jvm.Cond.code (⟨"com/example/grace_period/graceperiod/server/cql/RelationIsOrderingPinLaw", "pick", "(I)Lcom/example/grace_period/graceperiod/server/cql/CqlClause$Relation;"⟩ : MethodName) method_2_code 1 (some (.object "com/example/grace_period/graceperiod/server/cql/CqlClause$Relation")) :: ws) ({ frames := 0, cells := 0, slots := 0, locals := 0 } : Room)) (fun a U => a = #[(.int p1)] ∧ Z.Warmed39 U.vm ∧ U.heap = h0) (fun _ _ _ _ _ => True) (fun _ U o U' => ∃ v L, o = .returned v ∧ own_Q (some (.ref (own_f1 p1 w_SERVER_CHOICE w_EXACT w_NOT_EQUAL w_LESS w_LESS_OR_EQUAL w_GREATER w_GREATER_OR_EQUAL))) h0 n0 v U'.heap L ∧ FrameEnd U o U' L ({ frames := 0, cells := 0, slots := 0, locals := 0 } : Room).cells ({ frames := 0, cells := 0, slots := 0, locals := 0 } : Room).slots) := by
  refine MetFree.of_bodySF (plainFor_of_name own_pn1) hisR ?_
  intro p e s m args below meth c s₁ Bd hml0 hP hK
  obtain ⟨rfl, hZ, hh⟩ := hP
  have hx := Bd.exec
  have hby := Bd.bytes
  have hml : c.maxLocals = 1 := hml0
  have hown : s.vm.findClass "com/example/grace_period/graceperiod/server/cql/RelationIsOrderingPinLaw" = some m.cls := findClass_of_methodNamed Bd.named
  have hnm := (name_of_methodNamed Bd.named Bd.method).1
  have X0 : Stand p l e ({ frames := 0, cells := 0, slots := 0, locals := 0 } : Room) s m #[(.int p1)] below meth c s₁ [] 0 0 := Stand.of_body Bd
  have e0 : s₁.heap = h0 := by rw [← hh, Bd.state]; rfl
  have N0 := Fr.nil n0
  have k0 : own_To p.tables e below (s₁.setTop (entryFrame m #[(.int p1)] 1)) s₁ (mkF m 0 #[.val (.int p1)] []) := fun t k => castTop (own_ef1 m p1) k
  have k1 : own_To p.tables e below (s₁.setTop (entryFrame m #[(.int p1)] 1)) s₁ (mkF m 1 #[.val (.int p1)] [(.int p1)]) := fun t k => k0 t (XS.iloadN X0.here hx rfl (hb hby own_d1_0) rfl k)
  by_cases hc2 : p1 = (0 : Int32)
  · have k3 : own_To p.tables e below (s₁.setTop (entryFrame m #[(.int p1)] 1)) s₁ (mkF m 4 #[.val (.int p1)] []) := fun t k => k1 t (XS.ifNo X0.here hx rfl (hb hby own_d1_1) rfl ((if0 _ _).trans (teq (show p1 = (0 : Int32) from hc2)).2) k)
    obtain ⟨T4, X4, e4, st4⟩ := getS2 X0 hx hZ hown (host := "") (Or.inl (hw _ (List.mem_of_getElem? (i := 5) rfl))) Via.refl e0 S_SERVER_CHOICE (g := (mkF m 4 #[.val (.int p1)] [])) rfl (hb hby own_d1_4)
    have k5 : own_To p.tables e below (s₁.setTop (entryFrame m #[(.int p1)] 1)) T4 (mkF m 7 #[.val (.int p1)] [(.ref w_SERVER_CHOICE)]) := fun t k => k3 t (st4 t k)
    obtain ⟨fs, hr, hrun, hended, hW, hsame⟩ := X4.leave (v := some (.ref w_SERVER_CHOICE)) (fun h => by rw [Bd.returns] at h; cases h)
    refine ⟨_, _, k5 _ ?_, hrun, hended, _, _, rfl, ?_, ⟨_, rfl⟩, hW, hsame.mono (by decide) (by decide)⟩
    · jvm_step X4.here [X4.here.top, hx, (hb hby own_d1_7), X4.method', Bd.returns, Value.isRef, FieldType.isReference]
      first | (intro acts; rw [hr _ acts rfl rfl rfl]) | rw [hr _ _ rfl rfl rfl]
      exact Steps.refl _
    · refine ⟨?_, N0, e4⟩
      rw [show (own_f1 p1 w_SERVER_CHOICE w_EXACT w_NOT_EQUAL w_LESS w_LESS_OR_EQUAL w_GREATER w_GREATER_OR_EQUAL) = w_SERVER_CHOICE from by unfold own_f1; rw [if_pos hc2]]
  · have k6 : own_To p.tables e below (s₁.setTop (entryFrame m #[(.int p1)] 1)) s₁ (mkF m 8 #[.val (.int p1)] []) := fun t k => k1 t (XS.ifYes X0.here hx rfl (pc0 := 1) (pc' := 8) rfl (hb hby own_d1_1) rfl ((if0 _ _).trans (feq (show ¬ (p1 = (0 : Int32)) from hc2)).2) (by decide) (by decide) k)
    have k7 : own_To p.tables e below (s₁.setTop (entryFrame m #[(.int p1)] 1)) s₁ (mkF m 9 #[.val (.int p1)] [(.int p1)]) := fun t k => k6 t (XS.iloadN X0.here hx rfl (hb hby own_d1_8) rfl k)
    have k8 : own_To p.tables e below (s₁.setTop (entryFrame m #[(.int p1)] 1)) s₁ (mkF m 10 #[.val (.int p1)] [(.int (1 : Int32)), (.int p1)]) := fun t k => k7 t (XS.iconst X0.here hx rfl (hb hby own_d1_9) k)
    by_cases hc9 : p1 = (1 : Int32)
    · have k10 : own_To p.tables e below (s₁.setTop (entryFrame m #[(.int p1)] 1)) s₁ (mkF m 13 #[.val (.int p1)] []) := fun t k => k8 t (XS.icmpNo X0.here hx rfl (hb hby own_d1_10) rfl (teq (show p1 = (1 : Int32) from hc9)).2 k)
      obtain ⟨T11, X11, e11, st11⟩ := getS2 X0 hx hZ hown (host := "") (Or.inl (hw _ (List.mem_of_getElem? (i := 100) rfl))) Via.refl e0 S_EXACT (g := (mkF m 13 #[.val (.int p1)] [])) rfl (hb hby own_d1_13)
      have k12 : own_To p.tables e below (s₁.setTop (entryFrame m #[(.int p1)] 1)) T11 (mkF m 16 #[.val (.int p1)] [(.ref w_EXACT)]) := fun t k => k10 t (st11 t k)
      obtain ⟨fs, hr, hrun, hended, hW, hsame⟩ := X11.leave (v := some (.ref w_EXACT)) (fun h => by rw [Bd.returns] at h; cases h)
      refine ⟨_, _, k12 _ ?_, hrun, hended, _, _, rfl, ?_, ⟨_, rfl⟩, hW, hsame.mono (by decide) (by decide)⟩
      · jvm_step X11.here [X11.here.top, hx, (hb hby own_d1_16), X11.method', Bd.returns, Value.isRef, FieldType.isReference]
        first | (intro acts; rw [hr _ acts rfl rfl rfl]) | rw [hr _ _ rfl rfl rfl]
        exact Steps.refl _
      · refine ⟨?_, N0, e11⟩
        rw [show (own_f1 p1 w_SERVER_CHOICE w_EXACT w_NOT_EQUAL w_LESS w_LESS_OR_EQUAL w_GREATER w_GREATER_OR_EQUAL) = w_EXACT from by unfold own_f1; rw [if_neg hc2, if_pos hc9]]
    · have k13 : own_To p.tables e below (s₁.setTop (entryFrame m #[(.int p1)] 1)) s₁ (mkF m 17 #[.val (.int p1)] []) := fun t k => k8 t (XS.icmpYes X0.here hx rfl (pc0 := 10) (pc' := 17) rfl (hb hby own_d1_10) rfl (feq (show ¬ (p1 = (1 : Int32)) from hc9)).2 (by decide) (by decide) k)
      have k14 : own_To p.tables e below (s₁.setTop (entryFrame m #[(.int p1)] 1)) s₁ (mkF m 18 #[.val (.int p1)] [(.int p1)]) := fun t k => k13 t (XS.iloadN X0.here hx rfl (hb hby own_d1_17) rfl k)
      have k15 : own_To p.tables e below (s₁.setTop (entryFrame m #[(.int p1)] 1)) s₁ (mkF m 19 #[.val (.int p1)] [(.int (2 : Int32)), (.int p1)]) := fun t k => k14 t (XS.iconst X0.here hx rfl (hb hby own_d1_18) k)
      by_cases hc16 : p1 = (2 : Int32)
      · have k17 : own_To p.tables e below (s₁.setTop (entryFrame m #[(.int p1)] 1)) s₁ (mkF m 22 #[.val (.int p1)] []) := fun t k => k15 t (XS.icmpNo X0.here hx rfl (hb hby own_d1_19) rfl (teq (show p1 = (2 : Int32) from hc16)).2 k)
        obtain ⟨T18, X18, e18, st18⟩ := getS2 X0 hx hZ hown (host := "") (Or.inl (hw _ (List.mem_of_getElem? (i := 98) rfl))) Via.refl e0 S_NOT_EQUAL (g := (mkF m 22 #[.val (.int p1)] [])) rfl (hb hby own_d1_22)
        have k19 : own_To p.tables e below (s₁.setTop (entryFrame m #[(.int p1)] 1)) T18 (mkF m 25 #[.val (.int p1)] [(.ref w_NOT_EQUAL)]) := fun t k => k17 t (st18 t k)
        obtain ⟨fs, hr, hrun, hended, hW, hsame⟩ := X18.leave (v := some (.ref w_NOT_EQUAL)) (fun h => by rw [Bd.returns] at h; cases h)
        refine ⟨_, _, k19 _ ?_, hrun, hended, _, _, rfl, ?_, ⟨_, rfl⟩, hW, hsame.mono (by decide) (by decide)⟩
        · jvm_step X18.here [X18.here.top, hx, (hb hby own_d1_25), X18.method', Bd.returns, Value.isRef, FieldType.isReference]
          first | (intro acts; rw [hr _ acts rfl rfl rfl]) | rw [hr _ _ rfl rfl rfl]
          exact Steps.refl _
        · refine ⟨?_, N0, e18⟩
          rw [show (own_f1 p1 w_SERVER_CHOICE w_EXACT w_NOT_EQUAL w_LESS w_LESS_OR_EQUAL w_GREATER w_GREATER_OR_EQUAL) = w_NOT_EQUAL from by unfold own_f1; rw [if_neg hc2, if_neg hc9, if_pos hc16]]
      · have k20 : own_To p.tables e below (s₁.setTop (entryFrame m #[(.int p1)] 1)) s₁ (mkF m 26 #[.val (.int p1)] []) := fun t k => k15 t (XS.icmpYes X0.here hx rfl (pc0 := 19) (pc' := 26) rfl (hb hby own_d1_19) rfl (feq (show ¬ (p1 = (2 : Int32)) from hc16)).2 (by decide) (by decide) k)
        have k21 : own_To p.tables e below (s₁.setTop (entryFrame m #[(.int p1)] 1)) s₁ (mkF m 27 #[.val (.int p1)] [(.int p1)]) := fun t k => k20 t (XS.iloadN X0.here hx rfl (hb hby own_d1_26) rfl k)
        have k22 : own_To p.tables e below (s₁.setTop (entryFrame m #[(.int p1)] 1)) s₁ (mkF m 28 #[.val (.int p1)] [(.int (3 : Int32)), (.int p1)]) := fun t k => k21 t (XS.iconst X0.here hx rfl (hb hby own_d1_27) k)
        by_cases hc23 : p1 = (3 : Int32)
        · have k24 : own_To p.tables e below (s₁.setTop (entryFrame m #[(.int p1)] 1)) s₁ (mkF m 31 #[.val (.int p1)] []) := fun t k => k22 t (XS.icmpNo X0.here hx rfl (hb hby own_d1_28) rfl (teq (show p1 = (3 : Int32) from hc23)).2 k)
          obtain ⟨T25, X25, e25, st25⟩ := getS2 X0 hx hZ hown (host := "") (Or.inl (hw _ (List.mem_of_getElem? (i := 71) rfl))) Via.refl e0 S_LESS (g := (mkF m 31 #[.val (.int p1)] [])) rfl (hb hby own_d1_31)
          have k26 : own_To p.tables e below (s₁.setTop (entryFrame m #[(.int p1)] 1)) T25 (mkF m 34 #[.val (.int p1)] [(.ref w_LESS)]) := fun t k => k24 t (st25 t k)
          obtain ⟨fs, hr, hrun, hended, hW, hsame⟩ := X25.leave (v := some (.ref w_LESS)) (fun h => by rw [Bd.returns] at h; cases h)
          refine ⟨_, _, k26 _ ?_, hrun, hended, _, _, rfl, ?_, ⟨_, rfl⟩, hW, hsame.mono (by decide) (by decide)⟩
          · jvm_step X25.here [X25.here.top, hx, (hb hby own_d1_34), X25.method', Bd.returns, Value.isRef, FieldType.isReference]
            first | (intro acts; rw [hr _ acts rfl rfl rfl]) | rw [hr _ _ rfl rfl rfl]
            exact Steps.refl _
          · refine ⟨?_, N0, e25⟩
            rw [show (own_f1 p1 w_SERVER_CHOICE w_EXACT w_NOT_EQUAL w_LESS w_LESS_OR_EQUAL w_GREATER w_GREATER_OR_EQUAL) = w_LESS from by unfold own_f1; rw [if_neg hc2, if_neg hc9, if_neg hc16, if_pos hc23]]
        · have k27 : own_To p.tables e below (s₁.setTop (entryFrame m #[(.int p1)] 1)) s₁ (mkF m 35 #[.val (.int p1)] []) := fun t k => k22 t (XS.icmpYes X0.here hx rfl (pc0 := 28) (pc' := 35) rfl (hb hby own_d1_28) rfl (feq (show ¬ (p1 = (3 : Int32)) from hc23)).2 (by decide) (by decide) k)
          have k28 : own_To p.tables e below (s₁.setTop (entryFrame m #[(.int p1)] 1)) s₁ (mkF m 36 #[.val (.int p1)] [(.int p1)]) := fun t k => k27 t (XS.iloadN X0.here hx rfl (hb hby own_d1_35) rfl k)
          have k29 : own_To p.tables e below (s₁.setTop (entryFrame m #[(.int p1)] 1)) s₁ (mkF m 37 #[.val (.int p1)] [(.int (4 : Int32)), (.int p1)]) := fun t k => k28 t (XS.iconst X0.here hx rfl (hb hby own_d1_36) k)
          by_cases hc30 : p1 = (4 : Int32)
          · have k31 : own_To p.tables e below (s₁.setTop (entryFrame m #[(.int p1)] 1)) s₁ (mkF m 40 #[.val (.int p1)] []) := fun t k => k29 t (XS.icmpNo X0.here hx rfl (hb hby own_d1_37) rfl (teq (show p1 = (4 : Int32) from hc30)).2 k)
            obtain ⟨T32, X32, e32, st32⟩ := getS2 X0 hx hZ hown (host := "") (Or.inl (hw _ (List.mem_of_getElem? (i := 95) rfl))) Via.refl e0 S_LESS_OR_EQUAL (g := (mkF m 40 #[.val (.int p1)] [])) rfl (hb hby own_d1_40)
            have k33 : own_To p.tables e below (s₁.setTop (entryFrame m #[(.int p1)] 1)) T32 (mkF m 43 #[.val (.int p1)] [(.ref w_LESS_OR_EQUAL)]) := fun t k => k31 t (st32 t k)
            obtain ⟨fs, hr, hrun, hended, hW, hsame⟩ := X32.leave (v := some (.ref w_LESS_OR_EQUAL)) (fun h => by rw [Bd.returns] at h; cases h)
            refine ⟨_, _, k33 _ ?_, hrun, hended, _, _, rfl, ?_, ⟨_, rfl⟩, hW, hsame.mono (by decide) (by decide)⟩
            · jvm_step X32.here [X32.here.top, hx, (hb hby own_d1_43), X32.method', Bd.returns, Value.isRef, FieldType.isReference]
              first | (intro acts; rw [hr _ acts rfl rfl rfl]) | rw [hr _ _ rfl rfl rfl]
              exact Steps.refl _
            · refine ⟨?_, N0, e32⟩
              rw [show (own_f1 p1 w_SERVER_CHOICE w_EXACT w_NOT_EQUAL w_LESS w_LESS_OR_EQUAL w_GREATER w_GREATER_OR_EQUAL) = w_LESS_OR_EQUAL from by unfold own_f1; rw [if_neg hc2, if_neg hc9, if_neg hc16, if_neg hc23, if_pos hc30]]
          · have k34 : own_To p.tables e below (s₁.setTop (entryFrame m #[(.int p1)] 1)) s₁ (mkF m 44 #[.val (.int p1)] []) := fun t k => k29 t (XS.icmpYes X0.here hx rfl (pc0 := 37) (pc' := 44) rfl (hb hby own_d1_37) rfl (feq (show ¬ (p1 = (4 : Int32)) from hc30)).2 (by decide) (by decide) k)
            have k35 : own_To p.tables e below (s₁.setTop (entryFrame m #[(.int p1)] 1)) s₁ (mkF m 45 #[.val (.int p1)] [(.int p1)]) := fun t k => k34 t (XS.iloadN X0.here hx rfl (hb hby own_d1_44) rfl k)
            have k36 : own_To p.tables e below (s₁.setTop (entryFrame m #[(.int p1)] 1)) s₁ (mkF m 46 #[.val (.int p1)] [(.int (5 : Int32)), (.int p1)]) := fun t k => k35 t (XS.iconst X0.here hx rfl (hb hby own_d1_45) k)
            by_cases hc37 : p1 = (5 : Int32)
            · have k38 : own_To p.tables e below (s₁.setTop (entryFrame m #[(.int p1)] 1)) s₁ (mkF m 49 #[.val (.int p1)] []) := fun t k => k36 t (XS.icmpNo X0.here hx rfl (hb hby own_d1_46) rfl (teq (show p1 = (5 : Int32) from hc37)).2 k)
              obtain ⟨T39, X39, e39, st39⟩ := getS2 X0 hx hZ hown (host := "") (Or.inl (hw _ (List.mem_of_getElem? (i := 89) rfl))) Via.refl e0 S_GREATER (g := (mkF m 49 #[.val (.int p1)] [])) rfl (hb hby own_d1_49)
              have k40 : own_To p.tables e below (s₁.setTop (entryFrame m #[(.int p1)] 1)) T39 (mkF m 52 #[.val (.int p1)] [(.ref w_GREATER)]) := fun t k => k38 t (st39 t k)
              obtain ⟨fs, hr, hrun, hended, hW, hsame⟩ := X39.leave (v := some (.ref w_GREATER)) (fun h => by rw [Bd.returns] at h; cases h)
              refine ⟨_, _, k40 _ ?_, hrun, hended, _, _, rfl, ?_, ⟨_, rfl⟩, hW, hsame.mono (by decide) (by decide)⟩
              · jvm_step X39.here [X39.here.top, hx, (hb hby own_d1_52), X39.method', Bd.returns, Value.isRef, FieldType.isReference]
                first | (intro acts; rw [hr _ acts rfl rfl rfl]) | rw [hr _ _ rfl rfl rfl]
                exact Steps.refl _
              · refine ⟨?_, N0, e39⟩
                rw [show (own_f1 p1 w_SERVER_CHOICE w_EXACT w_NOT_EQUAL w_LESS w_LESS_OR_EQUAL w_GREATER w_GREATER_OR_EQUAL) = w_GREATER from by unfold own_f1; rw [if_neg hc2, if_neg hc9, if_neg hc16, if_neg hc23, if_neg hc30, if_pos hc37]]
            · have k41 : own_To p.tables e below (s₁.setTop (entryFrame m #[(.int p1)] 1)) s₁ (mkF m 53 #[.val (.int p1)] []) := fun t k => k36 t (XS.icmpYes X0.here hx rfl (pc0 := 46) (pc' := 53) rfl (hb hby own_d1_46) rfl (feq (show ¬ (p1 = (5 : Int32)) from hc37)).2 (by decide) (by decide) k)
              obtain ⟨T42, X42, e42, st42⟩ := getS2 X0 hx hZ hown (host := "") (Or.inl (hw _ (List.mem_of_getElem? (i := 92) rfl))) Via.refl e0 S_GREATER_OR_EQUAL (g := (mkF m 53 #[.val (.int p1)] [])) rfl (hb hby own_d1_53)
              have k43 : own_To p.tables e below (s₁.setTop (entryFrame m #[(.int p1)] 1)) T42 (mkF m 56 #[.val (.int p1)] [(.ref w_GREATER_OR_EQUAL)]) := fun t k => k41 t (st42 t k)
              obtain ⟨fs, hr, hrun, hended, hW, hsame⟩ := X42.leave (v := some (.ref w_GREATER_OR_EQUAL)) (fun h => by rw [Bd.returns] at h; cases h)
              refine ⟨_, _, k43 _ ?_, hrun, hended, _, _, rfl, ?_, ⟨_, rfl⟩, hW, hsame.mono (by decide) (by decide)⟩
              · jvm_step X42.here [X42.here.top, hx, (hb hby own_d1_56), X42.method', Bd.returns, Value.isRef, FieldType.isReference]
                first | (intro acts; rw [hr _ acts rfl rfl rfl]) | rw [hr _ _ rfl rfl rfl]
                exact Steps.refl _
              · refine ⟨?_, N0, e42⟩
                rw [show (own_f1 p1 w_SERVER_CHOICE w_EXACT w_NOT_EQUAL w_LESS w_LESS_OR_EQUAL w_GREATER w_GREATER_OR_EQUAL) = w_GREATER_OR_EQUAL from by unfold own_f1; rw [if_neg hc2, if_neg hc9, if_neg hc16, if_neg hc23, if_neg hc30, if_neg hc37]]
theorem own_d2_0 : decode prog_69_method_6_code 0 = .ok (.aload_n 0, 1) := by decide +kernel
theorem own_d2_1 : decode prog_69_method_6_code 1 = .ok (.getstatic 3, 3) := by decide +kernel
theorem own_d2_4 : decode prog_69_method_6_code 4 = .ok (.if_acmp .eq 21, 3) := by decide +kernel
theorem own_d2_25 : decode prog_69_method_6_code 25 = .ok (.iconst 0, 1) := by decide +kernel
theorem own_d2_26 : decode prog_69_method_6_code 26 = .ok (.ireturn, 1) := by decide +kernel
theorem own_d2_7 : decode prog_69_method_6_code 7 = .ok (.aload_n 0, 1) := by decide +kernel
theorem own_d2_8 : decode prog_69_method_6_code 8 = .ok (.getstatic 7, 3) := by decide +kernel
theorem own_d2_11 : decode prog_69_method_6_code 11 = .ok (.if_acmp .eq 14, 3) := by decide +kernel
theorem own_d2_14 : decode prog_69_method_6_code 14 = .ok (.aload_n 0, 1) := by decide +kernel
theorem own_d2_15 : decode prog_69_method_6_code 15 = .ok (.getstatic 10, 3) := by decide +kernel
theorem own_d2_18 : decode prog_69_method_6_code 18 = .ok (.if_acmp .eq 7, 3) := by decide +kernel
theorem own_d2_21 : decode prog_69_method_6_code 21 = .ok (.iconst 1, 1) := by decide +kernel
theorem own_d2_22 : decode prog_69_method_6_code 22 = .ok (.goto 4, 3) := by decide +kernel
theorem own_ef2 (m : MethodId) (x0 : Addr) : entryFrame m #[(.ref x0)] 1 = mkF m 0 #[.val (.ref x0)] [] := by first | (simp [entryFrame, mkF, argsToLocals, Value.category]; done) | rfl
theorem own_pn2 : plainName "com/example/grace_period/graceperiod/server/cql/CqlClause$Relation" = true := by first | (simp [plainName, overriddenIn]; done) | decide +kernel
def own_f2 (a1 : Addr) (w_SERVER_CHOICE : Addr) (w_EXACT : Addr) (w_NOT_EQUAL : Addr) : Int32 := (if a1 = w_SERVER_CHOICE then (0 : Int32) else (if a1 = w_EXACT then (0 : Int32) else (if a1 = w_NOT_EQUAL then (0 : Int32) else (1 : Int32))))
set_option maxRecDepth 65536 in
set_option maxHeartbeats 40000000 in
theorem own_m2 (l : Launch) (Z : State) (a0 : Array Value) (hw : ∀ d ∈ tables_1, d.before a0 Z = true) (ws : List Jvm.Cond) (a1 : Addr) (w_SERVER_CHOICE : Addr) (w_EXACT : Addr) (w_NOT_EQUAL : Addr) (h0 : Heap) (n0 : Nat) (Z0 : n0 ≤ h0.size) (S_SERVER_CHOICE : Sta Z h0 "com/example/grace_period/graceperiod/server/cql/CqlClause$Relation" "SERVER_CHOICE" "Lcom/example/grace_period/graceperiod/server/cql/CqlClause$Relation;" (.ref w_SERVER_CHOICE)) (S_EXACT : Sta Z h0 "com/example/grace_period/graceperiod/server/cql/CqlClause$Relation" "EXACT" "Lcom/example/grace_period/graceperiod/server/cql/CqlClause$Relation;" (.ref w_EXACT)) (S_NOT_EQUAL : Sta Z h0 "com/example/grace_period/graceperiod/server/cql/CqlClause$Relation" "NOT_EQUAL" "Lcom/example/grace_period/graceperiod/server/cql/CqlClause$Relation;" (.ref w_NOT_EQUAL)) :
    MetFree l (⟨"com/example/grace_period/graceperiod/server/cql/CqlClause$Relation", "isOrdering", "()Z"⟩ : MethodName) (head1 (Jvm.Cond.code (⟨"com/example/grace_period/graceperiod/server/cql/CqlClause$Relation", "isOrdering", "()Z"⟩ : MethodName) prog_69_method_6_code 1 (some .boolean) :: ws) ({ frames := 0, cells := 0, slots := 0, locals := 0 } : Room)) (fun a U => a = #[(.ref a1)] ∧ Z.Warmed39 U.vm ∧ U.heap = h0) (fun _ _ _ _ _ => True) (fun _ U o U' => ∃ v L, o = .returned v ∧ own_Q (some (.int (own_f2 a1 w_SERVER_CHOICE w_EXACT w_NOT_EQUAL))) h0 n0 v U'.heap L ∧ FrameEnd U o U' L ({ frames := 0, cells := 0, slots := 0, locals := 0 } : Room).cells ({ frames := 0, cells := 0, slots := 0, locals := 0 } : Room).slots) := by
  refine MetFree.of_bodySF (plainFor_of_name own_pn2) hisR ?_
  intro p e s m args below meth c s₁ Bd hml0 hP hK
  obtain ⟨rfl, hZ, hh⟩ := hP
  have hx := Bd.exec
  have hby := Bd.bytes
  have hml : c.maxLocals = 1 := hml0
  have hown : s.vm.findClass "com/example/grace_period/graceperiod/server/cql/CqlClause$Relation" = some m.cls := findClass_of_methodNamed Bd.named
  have hnm := (name_of_methodNamed Bd.named Bd.method).1
  have X0 : Stand p l e ({ frames := 0, cells := 0, slots := 0, locals := 0 } : Room) s m #[(.ref a1)] below meth c s₁ [] 0 0 := Stand.of_body Bd
  have e0 : s₁.heap = h0 := by rw [← hh, Bd.state]; rfl
  have N0 := Fr.nil n0
  have k0 : own_To p.tables e below (s₁.setTop (entryFrame m #[(.ref a1)] 1)) s₁ (mkF m 0 #[.val (.ref a1)] []) := fun t k => castTop (own_ef2 m a1) k
  have k1 : own_To p.tables e below (s₁.setTop (entryFrame m #[(.ref a1)] 1)) s₁ (mkF m 1 #[.val (.ref a1)] [(.ref a1)]) := fun t k => k0 t (XS.aloadN X0.here hx rfl (hb hby own_d2_0) rfl rfl k)
  obtain ⟨T2, X2, e2, st2⟩ := getS2 X0 hx hZ hown (host := "") (Or.inl (hw _ (List.mem_of_getElem? (i := 13) rfl))) Via.refl e0 S_SERVER_CHOICE (g := (mkF m 1 #[.val (.ref a1)] [(.ref a1)])) rfl (hb hby own_d2_1)
  have k3 : own_To p.tables e below (s₁.setTop (entryFrame m #[(.ref a1)] 1)) T2 (mkF m 4 #[.val (.ref a1)] [(.ref w_SERVER_CHOICE), (.ref a1)]) := fun t k => k1 t (st2 t k)
  by_cases hc4 : a1 = w_SERVER_CHOICE
  · have k5 : own_To p.tables e below (s₁.setTop (entryFrame m #[(.ref a1)] 1)) T2 (mkF m 25 #[.val (.ref a1)] []) := fun t k => k3 t (Jvm.RoadKit.acmp (g := (mkF m 4 #[.val (.ref a1)] [(.ref w_SERVER_CHOICE), (.ref a1)])) X2 hx rfl rfl rfl (pc0 := 4) (pc' := 25) (same := true) rfl (hb hby own_d2_4) rfl (decide_eq_true (congrArg Value.ref hc4)) (by decide) (by decide) k)
    have k6 : own_To p.tables e below (s₁.setTop (entryFrame m #[(.ref a1)] 1)) T2 (mkF m 26 #[.val (.ref a1)] [(.int (0 : Int32))]) := fun t k => k5 t (XS.iconst X2.here hx rfl (hb hby own_d2_25) k)
    obtain ⟨fs, hr, hrun, hended, hW, hsame⟩ := X2.leave (v := some (.int (0 : Int32))) (fun h => by rw [Bd.returns] at h; cases h)
    refine ⟨_, _, k6 _ ?_, hrun, hended, _, _, rfl, ?_, ⟨_, rfl⟩, hW, hsame.mono (by decide) (by decide)⟩
    · exact retN X2 hx (t := .boolean) Bd.returns (by simp) (hb hby own_d2_26) (by first | exact hr | (rw [show nar .boolean (0 : Int32) = (0 : Int32) from by decide]; exact hr))
    · refine ⟨?_, N0, e2⟩
      rw [show (own_f2 a1 w_SERVER_CHOICE w_EXACT w_NOT_EQUAL) = (0 : Int32) from by unfold own_f2; rw [if_pos hc4]]
  · have k7 : own_To p.tables e below (s₁.setTop (entryFrame m #[(.ref a1)] 1)) T2 (mkF m 7 #[.val (.ref a1)] []) := fun t k => k3 t (Jvm.RoadKit.acmp (g := (mkF m 4 #[.val (.ref a1)] [(.ref w_SERVER_CHOICE), (.ref a1)])) X2 hx rfl rfl rfl (pc0 := 4) (pc' := 7) (same := false) rfl (hb hby own_d2_4) rfl (decide_eq_false fun q => hc4 (Value.ref.inj q)) (by decide) (by decide) k)
    have k8 : own_To p.tables e below (s₁.setTop (entryFrame m #[(.ref a1)] 1)) T2 (mkF m 8 #[.val (.ref a1)] [(.ref a1)]) := fun t k => k7 t (XS.aloadN X2.here hx rfl (hb hby own_d2_7) rfl rfl k)
    obtain ⟨T9, X9, e9, st9⟩ := getS2 X2 hx hZ hown (host := "") (Or.inl (hw _ (List.mem_of_getElem? (i := 73) rfl))) Via.refl e2 S_EXACT (g := (mkF m 8 #[.val (.ref a1)] [(.ref a1)])) rfl (hb hby own_d2_8)
    have k10 : own_To p.tables e below (s₁.setTop (entryFrame m #[(.ref a1)] 1)) T9 (mkF m 11 #[.val (.ref a1)] [(.ref w_EXACT), (.ref a1)]) := fun t k => k8 t (st9 t k)
    by_cases hc11 : a1 = w_EXACT
    · have k12 : own_To p.tables e below (s₁.setTop (entryFrame m #[(.ref a1)] 1)) T9 (mkF m 25 #[.val (.ref a1)] []) := fun t k => k10 t (Jvm.RoadKit.acmp (g := (mkF m 11 #[.val (.ref a1)] [(.ref w_EXACT), (.ref a1)])) X9 hx rfl rfl rfl (pc0 := 11) (pc' := 25) (same := true) rfl (hb hby own_d2_11) rfl (decide_eq_true (congrArg Value.ref hc11)) (by decide) (by decide) k)
      have k13 : own_To p.tables e below (s₁.setTop (entryFrame m #[(.ref a1)] 1)) T9 (mkF m 26 #[.val (.ref a1)] [(.int (0 : Int32))]) := fun t k => k12 t (XS.iconst X9.here hx rfl (hb hby own_d2_25) k)
      obtain ⟨fs, hr, hrun, hended, hW, hsame⟩ := X9.leave (v := some (.int (0 : Int32))) (fun h => by rw [Bd.returns] at h; cases h)
      refine ⟨_, _, k13 _ ?_, hrun, hended, _, _, rfl, ?_, ⟨_, rfl⟩, hW, hsame.mono (by decide) (by decide)⟩
      · exact retN X9 hx (t := .boolean) Bd.returns (by simp) (hb hby own_d2_26) (by first | exact hr | (rw [show nar .boolean (0 : Int32) = (0 : Int32) from by decide]; exact hr))
      · refine ⟨?_, N0, e9⟩
        rw [show (own_f2 a1 w_SERVER_CHOICE w_EXACT w_NOT_EQUAL) = (0 : Int32) from by unfold own_f2; rw [if_neg hc4, if_pos hc11]]
    · have k14 : own_To p.tables e below (s₁.setTop (entryFrame m #[(.ref a1)] 1)) T9 (mkF m 14 #[.val (.ref a1)] []) := fun t k => k10 t (Jvm.RoadKit.acmp (g := (mkF m 11 #[.val (.ref a1)] [(.ref w_EXACT), (.ref a1)])) X9 hx rfl rfl rfl (pc0 := 11) (pc' := 14) (same := false) rfl (hb hby own_d2_11) rfl (decide_eq_false fun q => hc11 (Value.ref.inj q)) (by decide) (by decide) k)
      have k15 : own_To p.tables e below (s₁.setTop (entryFrame m #[(.ref a1)] 1)) T9 (mkF m 15 #[.val (.ref a1)] [(.ref a1)]) := fun t k => k14 t (XS.aloadN X9.here hx rfl (hb hby own_d2_14) rfl rfl k)
      obtain ⟨T16, X16, e16, st16⟩ := getS2 X9 hx hZ hown (host := "") (Or.inl (hw _ (List.mem_of_getElem? (i := 75) rfl))) Via.refl e9 S_NOT_EQUAL (g := (mkF m 15 #[.val (.ref a1)] [(.ref a1)])) rfl (hb hby own_d2_15)
      have k17 : own_To p.tables e below (s₁.setTop (entryFrame m #[(.ref a1)] 1)) T16 (mkF m 18 #[.val (.ref a1)] [(.ref w_NOT_EQUAL), (.ref a1)]) := fun t k => k15 t (st16 t k)
      by_cases hc18 : a1 = w_NOT_EQUAL
      · have k19 : own_To p.tables e below (s₁.setTop (entryFrame m #[(.ref a1)] 1)) T16 (mkF m 25 #[.val (.ref a1)] []) := fun t k => k17 t (Jvm.RoadKit.acmp (g := (mkF m 18 #[.val (.ref a1)] [(.ref w_NOT_EQUAL), (.ref a1)])) X16 hx rfl rfl rfl (pc0 := 18) (pc' := 25) (same := true) rfl (hb hby own_d2_18) rfl (decide_eq_true (congrArg Value.ref hc18)) (by decide) (by decide) k)
        have k20 : own_To p.tables e below (s₁.setTop (entryFrame m #[(.ref a1)] 1)) T16 (mkF m 26 #[.val (.ref a1)] [(.int (0 : Int32))]) := fun t k => k19 t (XS.iconst X16.here hx rfl (hb hby own_d2_25) k)
        obtain ⟨fs, hr, hrun, hended, hW, hsame⟩ := X16.leave (v := some (.int (0 : Int32))) (fun h => by rw [Bd.returns] at h; cases h)
        refine ⟨_, _, k20 _ ?_, hrun, hended, _, _, rfl, ?_, ⟨_, rfl⟩, hW, hsame.mono (by decide) (by decide)⟩
        · exact retN X16 hx (t := .boolean) Bd.returns (by simp) (hb hby own_d2_26) (by first | exact hr | (rw [show nar .boolean (0 : Int32) = (0 : Int32) from by decide]; exact hr))
        · refine ⟨?_, N0, e16⟩
          rw [show (own_f2 a1 w_SERVER_CHOICE w_EXACT w_NOT_EQUAL) = (0 : Int32) from by unfold own_f2; rw [if_neg hc4, if_neg hc11, if_pos hc18]]
      · have k21 : own_To p.tables e below (s₁.setTop (entryFrame m #[(.ref a1)] 1)) T16 (mkF m 21 #[.val (.ref a1)] []) := fun t k => k17 t (Jvm.RoadKit.acmp (g := (mkF m 18 #[.val (.ref a1)] [(.ref w_NOT_EQUAL), (.ref a1)])) X16 hx rfl rfl rfl (pc0 := 18) (pc' := 21) (same := false) rfl (hb hby own_d2_18) rfl (decide_eq_false fun q => hc18 (Value.ref.inj q)) (by decide) (by decide) k)
        have k22 : own_To p.tables e below (s₁.setTop (entryFrame m #[(.ref a1)] 1)) T16 (mkF m 22 #[.val (.ref a1)] [(.int (1 : Int32))]) := fun t k => k21 t (XS.iconst X16.here hx rfl (hb hby own_d2_21) k)
        have k23 : own_To p.tables e below (s₁.setTop (entryFrame m #[(.ref a1)] 1)) T16 (mkF m 26 #[.val (.ref a1)] [(.int (1 : Int32))]) := fun t k => k22 t (XS.goto X16.here hx rfl (pc0 := 22) (pc' := 26) rfl (hb hby own_d2_22) (by decide) (by decide) k)
        obtain ⟨fs, hr, hrun, hended, hW, hsame⟩ := X16.leave (v := some (.int (1 : Int32))) (fun h => by rw [Bd.returns] at h; cases h)
        refine ⟨_, _, k23 _ ?_, hrun, hended, _, _, rfl, ?_, ⟨_, rfl⟩, hW, hsame.mono (by decide) (by decide)⟩
        · exact retN X16 hx (t := .boolean) Bd.returns (by simp) (hb hby own_d2_26) (by first | exact hr | (rw [show nar .boolean (1 : Int32) = (1 : Int32) from by decide]; exact hr))
        · refine ⟨?_, N0, e16⟩
          rw [show (own_f2 a1 w_SERVER_CHOICE w_EXACT w_NOT_EQUAL) = (1 : Int32) from by unfold own_f2; rw [if_neg hc4, if_neg hc11, if_neg hc18]]
theorem own_d4_0 : decode jdk_37_method_2_code 0 = .ok (.aload_n 0, 1) := by decide +kernel
theorem own_d4_1 : decode jdk_37_method_2_code 1 = .ok (.getfield 7, 3) := by decide +kernel
theorem own_d4_4 : decode jdk_37_method_2_code 4 = .ok (.ireturn, 1) := by decide +kernel
theorem own_ef4 (m : MethodId) (x0 : Addr) : entryFrame m #[(.ref x0)] 1 = mkF m 0 #[.val (.ref x0)] [] := by first | (simp [entryFrame, mkF, argsToLocals, Value.category]; done) | rfl
theorem own_pn4 : plainName "java/lang/Enum" = true := by first | (simp [plainName, overriddenIn]; done) | decide +kernel
def own_f4 (w_ordinal_a1 : Int32) : Int32 := w_ordinal_a1
set_option maxRecDepth 65536 in
set_option maxHeartbeats 40000000 in
theorem own_m4 (l : Launch) (Z : State) (a0 : Array Value) (hw : ∀ d ∈ tables_1, d.before a0 Z = true) (ws : List Jvm.Cond) (a1 : Addr) (w_ordinal_a1 : Int32) (h0 : Heap) (n0 : Nat) (Z0 : n0 ≤ h0.size) (F_ordinal_a1 : Fld Z h0 a1 "java/lang/Enum" "ordinal" "I" (.int w_ordinal_a1)) :
    MetFree l (⟨"java/lang/Enum", "ordinal", "()I"⟩ : MethodName) (head1 (Jvm.Cond.code (⟨"java/lang/Enum", "ordinal", "()I"⟩ : MethodName) jdk_37_method_2_code 1 (some .int) :: ws) ({ frames := 0, cells := 0, slots := 0, locals := 0 } : Room)) (fun a U => a = #[(.ref a1)] ∧ Z.Warmed39 U.vm ∧ U.heap = h0) (fun _ _ _ _ _ => True) (fun _ U o U' => ∃ v L, o = .returned v ∧ own_Q (some (.int (own_f4 w_ordinal_a1))) h0 n0 v U'.heap L ∧ FrameEnd U o U' L ({ frames := 0, cells := 0, slots := 0, locals := 0 } : Room).cells ({ frames := 0, cells := 0, slots := 0, locals := 0 } : Room).slots) := by
  refine MetFree.of_bodySF (plainFor_of_name own_pn4) hisR ?_
  intro p e s m args below meth c s₁ Bd hml0 hP hK
  obtain ⟨rfl, hZ, hh⟩ := hP
  have hx := Bd.exec
  have hby := Bd.bytes
  have hml : c.maxLocals = 1 := hml0
  have hown : s.vm.findClass "java/lang/Enum" = some m.cls := findClass_of_methodNamed Bd.named
  have hnm := (name_of_methodNamed Bd.named Bd.method).1
  have X0 : Stand p l e ({ frames := 0, cells := 0, slots := 0, locals := 0 } : Room) s m #[(.ref a1)] below meth c s₁ [] 0 0 := Stand.of_body Bd
  have e0 : s₁.heap = h0 := by rw [← hh, Bd.state]; rfl
  have N0 := Fr.nil n0
  have k0 : own_To p.tables e below (s₁.setTop (entryFrame m #[(.ref a1)] 1)) s₁ (mkF m 0 #[.val (.ref a1)] []) := fun t k => castTop (own_ef4 m a1) k
  have k1 : own_To p.tables e below (s₁.setTop (entryFrame m #[(.ref a1)] 1)) s₁ (mkF m 1 #[.val (.ref a1)] [(.ref a1)]) := fun t k => k0 t (XS.aloadN X0.here hx rfl (hb hby own_d4_0) rfl rfl k)
  obtain ⟨T2, X2, e2, st2⟩ := getF X0 hx hZ hown (host := "") (Or.inl (hw _ (List.mem_of_getElem? (i := 26) rfl))) Via.refl e0 F_ordinal_a1 (g := (mkF m 1 #[.val (.ref a1)] [(.ref a1)])) rfl rfl (hb hby own_d4_1)
  have k3 : own_To p.tables e below (s₁.setTop (entryFrame m #[(.ref a1)] 1)) T2 (mkF m 4 #[.val (.ref a1)] [(.int w_ordinal_a1)]) := fun t k => k1 t (st2 t k)
  obtain ⟨fs, hr, hrun, hended, hW, hsame⟩ := X2.leave (v := some (.int w_ordinal_a1)) (fun h => by rw [Bd.returns] at h; cases h)
  refine ⟨_, _, k3 _ ?_, hrun, hended, _, _, rfl, ?_, ⟨_, rfl⟩, hW, hsame.mono (by decide) (by decide)⟩
  · exact retI X2 hx Bd.returns (hb hby own_d4_4) hr
  · refine ⟨?_, N0, e2⟩
    rw [show (own_f4 w_ordinal_a1) = w_ordinal_a1 from by unfold own_f4; rfl]
theorem own_d6_0 : decode jdk_42_method_152_code 0 = .ok (.getstatic 38, 3) := by decide +kernel
theorem own_d6_3 : decode jdk_42_method_152_code 3 = .ok (.ifCond .eq 10, 3) := by decide +kernel
theorem own_d6_6 : decode jdk_42_method_152_code 6 = .ok (.aload_n 0, 1) := by decide +kernel
theorem own_d6_7 : decode jdk_42_method_152_code 7 = .ok (.getfield 15, 3) := by decide +kernel
theorem own_d6_10 : decode jdk_42_method_152_code 10 = .ok (.goto 4, 3) := by decide +kernel
theorem own_d6_14 : decode jdk_42_method_152_code 14 = .ok (.ireturn, 1) := by decide +kernel
theorem own_ef6 (m : MethodId) (x0 : Addr) : entryFrame m #[(.ref x0)] 1 = mkF m 0 #[.val (.ref x0)] [] := by first | (simp [entryFrame, mkF, argsToLocals, Value.category]; done) | rfl
theorem own_pn6 : plainName "java/lang/String" = true := by first | (simp [plainName, overriddenIn]; done) | decide +kernel
def own_f6 : Int32 := (0 : Int32)
set_option maxRecDepth 65536 in
set_option maxHeartbeats 40000000 in
theorem own_m6 (l : Launch) (Z : State) (a0 : Array Value) (hw : ∀ d ∈ tables_1, d.before a0 Z = true) (ws : List Jvm.Cond) (a1 : Addr) (w_COMPACT_STRINGS : Int32) (h0 : Heap) (n0 : Nat) (Z0 : n0 ≤ h0.size) (S_COMPACT_STRINGS : Sta Z h0 "java/lang/String" "COMPACT_STRINGS" "Z" (.int w_COMPACT_STRINGS)) (F_coder_a1 : Fld Z h0 a1 "java/lang/String" "coder" "B" (.int (0 : Int32))) (hz : ¬ (w_COMPACT_STRINGS = (0 : Int32))) :
    MetFree l (⟨"java/lang/String", "coder", "()B"⟩ : MethodName) (head1 (Jvm.Cond.code (⟨"java/lang/String", "coder", "()B"⟩ : MethodName) jdk_42_method_152_code 1 (some .byte) :: ws) ({ frames := 0, cells := 0, slots := 0, locals := 0 } : Room)) (fun a U => a = #[(.ref a1)] ∧ Z.Warmed39 U.vm ∧ U.heap = h0) (fun _ _ _ _ _ => True) (fun _ U o U' => ∃ v L, o = .returned v ∧ own_Q (some (.int own_f6)) h0 n0 v U'.heap L ∧ FrameEnd U o U' L ({ frames := 0, cells := 0, slots := 0, locals := 0 } : Room).cells ({ frames := 0, cells := 0, slots := 0, locals := 0 } : Room).slots) := by
  refine MetFree.of_bodySF (plainFor_of_name own_pn6) hisR ?_
  intro p e s m args below meth c s₁ Bd hml0 hP hK
  obtain ⟨rfl, hZ, hh⟩ := hP
  have hx := Bd.exec
  have hby := Bd.bytes
  have hml : c.maxLocals = 1 := hml0
  have hown : s.vm.findClass "java/lang/String" = some m.cls := findClass_of_methodNamed Bd.named
  have hnm := (name_of_methodNamed Bd.named Bd.method).1
  have X0 : Stand p l e ({ frames := 0, cells := 0, slots := 0, locals := 0 } : Room) s m #[(.ref a1)] below meth c s₁ [] 0 0 := Stand.of_body Bd
  have e0 : s₁.heap = h0 := by rw [← hh, Bd.state]; rfl
  have N0 := Fr.nil n0
  have k0 : own_To p.tables e below (s₁.setTop (entryFrame m #[(.ref a1)] 1)) s₁ (mkF m 0 #[.val (.ref a1)] []) := fun t k => castTop (own_ef6 m a1) k
  obtain ⟨T1, X1, e1, st1⟩ := getS2 X0 hx hZ hown (host := "") (Or.inl (hw _ (List.mem_of_getElem? (i := 47) rfl))) Via.refl e0 S_COMPACT_STRINGS (g := (mkF m 0 #[.val (.ref a1)] [])) rfl (hb hby own_d6_0)
  have k2 : own_To p.tables e below (s₁.setTop (entryFrame m #[(.ref a1)] 1)) T1 (mkF m 3 #[.val (.ref a1)] [(.int w_COMPACT_STRINGS)]) := fun t k => k0 t (st1 t k)
  have k3 : own_To p.tables e below (s₁.setTop (entryFrame m #[(.ref a1)] 1)) T1 (mkF m 6 #[.val (.ref a1)] []) := fun t k => k2 t (XS.ifNo X1.here hx rfl (hb hby own_d6_3) rfl ((if0 _ _).trans (feq (show ¬ (w_COMPACT_STRINGS = (0 : Int32)) from hz)).1) k)
  have k4 : own_To p.tables e below (s₁.setTop (entryFrame m #[(.ref a1)] 1)) T1 (mkF m 7 #[.val (.ref a1)] [(.ref a1)]) := fun t k => k3 t (XS.aloadN X1.here hx rfl (hb hby own_d6_6) rfl rfl k)
  obtain ⟨T5, X5, e5, st5⟩ := getF X1 hx hZ hown (host := "") (Or.inl (hw _ (List.mem_of_getElem? (i := 48) rfl))) Via.refl e1 F_coder_a1 (g := (mkF m 7 #[.val (.ref a1)] [(.ref a1)])) rfl rfl (hb hby own_d6_7)
  have k6 : own_To p.tables e below (s₁.setTop (entryFrame m #[(.ref a1)] 1)) T5 (mkF m 10 #[.val (.ref a1)] [(.int (0 : Int32))]) := fun t k => k4 t (st5 t k)
  have k7 : own_To p.tables e below (s₁.setTop (entryFrame m #[(.ref a1)] 1)) T5 (mkF m 14 #[.val (.ref a1)] [(.int (0 : Int32))]) := fun t k => k6 t (XS.goto X5.here hx rfl (pc0 := 10) (pc' := 14) rfl (hb hby own_d6_10) (by decide) (by decide) k)
  obtain ⟨fs, hr, hrun, hended, hW, hsame⟩ := X5.leave (v := some (.int (0 : Int32))) (fun h => by rw [Bd.returns] at h; cases h)
  refine ⟨_, _, k7 _ ?_, hrun, hended, _, _, rfl, ?_, ⟨_, rfl⟩, hW, hsame.mono (by decide) (by decide)⟩
  · exact retN X5 hx (t := .byte) Bd.returns (by simp) (hb hby own_d6_14) (by first | exact hr | (rw [show nar .byte (0 : Int32) = (0 : Int32) from by decide]; exact hr))
  · refine ⟨?_, N0, e5⟩
    rw [show (own_f6) = (0 : Int32) from by unfold own_f6; rfl]
theorem own_d8_0 : decode jdk_42_method_154_code 0 = .ok (.getstatic 38, 3) := by decide +kernel
theorem own_d8_3 : decode jdk_42_method_154_code 3 = .ok (.ifCond .eq 14, 3) := by decide +kernel
theorem own_d8_6 : decode jdk_42_method_154_code 6 = .ok (.aload_n 0, 1) := by decide +kernel
theorem own_d8_7 : decode jdk_42_method_154_code 7 = .ok (.getfield 15, 3) := by decide +kernel
theorem own_d8_10 : decode jdk_42_method_154_code 10 = .ok (.ifCond .ne 7, 3) := by decide +kernel
theorem own_d8_13 : decode jdk_42_method_154_code 13 = .ok (.iconst 1, 1) := by decide +kernel
theorem own_d8_14 : decode jdk_42_method_154_code 14 = .ok (.goto 4, 3) := by decide +kernel
theorem own_d8_18 : decode jdk_42_method_154_code 18 = .ok (.ireturn, 1) := by decide +kernel
theorem own_ef8 (m : MethodId) (x0 : Addr) : entryFrame m #[(.ref x0)] 1 = mkF m 0 #[.val (.ref x0)] [] := by first | (simp [entryFrame, mkF, argsToLocals, Value.category]; done) | rfl
theorem own_pn8 : plainName "java/lang/String" = true := by first | (simp [plainName, overriddenIn]; done) | decide +kernel
def own_f8 : Int32 := (1 : Int32)
set_option maxRecDepth 65536 in
set_option maxHeartbeats 40000000 in
theorem own_m8 (l : Launch) (Z : State) (a0 : Array Value) (hw : ∀ d ∈ tables_1, d.before a0 Z = true) (ws : List Jvm.Cond) (a1 : Addr) (w_COMPACT_STRINGS : Int32) (h0 : Heap) (n0 : Nat) (Z0 : n0 ≤ h0.size) (S_COMPACT_STRINGS : Sta Z h0 "java/lang/String" "COMPACT_STRINGS" "Z" (.int w_COMPACT_STRINGS)) (F_coder_a1 : Fld Z h0 a1 "java/lang/String" "coder" "B" (.int (0 : Int32))) (hz : ¬ (w_COMPACT_STRINGS = (0 : Int32))) :
    MetFree l (⟨"java/lang/String", "isLatin1", "()Z"⟩ : MethodName) (head1 (Jvm.Cond.code (⟨"java/lang/String", "isLatin1", "()Z"⟩ : MethodName) jdk_42_method_154_code 1 (some .boolean) :: ws) ({ frames := 0, cells := 0, slots := 0, locals := 0 } : Room)) (fun a U => a = #[(.ref a1)] ∧ Z.Warmed39 U.vm ∧ U.heap = h0) (fun _ _ _ _ _ => True) (fun _ U o U' => ∃ v L, o = .returned v ∧ own_Q (some (.int own_f8)) h0 n0 v U'.heap L ∧ FrameEnd U o U' L ({ frames := 0, cells := 0, slots := 0, locals := 0 } : Room).cells ({ frames := 0, cells := 0, slots := 0, locals := 0 } : Room).slots) := by
  refine MetFree.of_bodySF (plainFor_of_name own_pn8) hisR ?_
  intro p e s m args below meth c s₁ Bd hml0 hP hK
  obtain ⟨rfl, hZ, hh⟩ := hP
  have hx := Bd.exec
  have hby := Bd.bytes
  have hml : c.maxLocals = 1 := hml0
  have hown : s.vm.findClass "java/lang/String" = some m.cls := findClass_of_methodNamed Bd.named
  have hnm := (name_of_methodNamed Bd.named Bd.method).1
  have X0 : Stand p l e ({ frames := 0, cells := 0, slots := 0, locals := 0 } : Room) s m #[(.ref a1)] below meth c s₁ [] 0 0 := Stand.of_body Bd
  have e0 : s₁.heap = h0 := by rw [← hh, Bd.state]; rfl
  have N0 := Fr.nil n0
  have k0 : own_To p.tables e below (s₁.setTop (entryFrame m #[(.ref a1)] 1)) s₁ (mkF m 0 #[.val (.ref a1)] []) := fun t k => castTop (own_ef8 m a1) k
  obtain ⟨T1, X1, e1, st1⟩ := getS2 X0 hx hZ hown (host := "") (Or.inl (hw _ (List.mem_of_getElem? (i := 47) rfl))) Via.refl e0 S_COMPACT_STRINGS (g := (mkF m 0 #[.val (.ref a1)] [])) rfl (hb hby own_d8_0)
  have k2 : own_To p.tables e below (s₁.setTop (entryFrame m #[(.ref a1)] 1)) T1 (mkF m 3 #[.val (.ref a1)] [(.int w_COMPACT_STRINGS)]) := fun t k => k0 t (st1 t k)
  have k3 : own_To p.tables e below (s₁.setTop (entryFrame m #[(.ref a1)] 1)) T1 (mkF m 6 #[.val (.ref a1)] []) := fun t k => k2 t (XS.ifNo X1.here hx rfl (hb hby own_d8_3) rfl ((if0 _ _).trans (feq (show ¬ (w_COMPACT_STRINGS = (0 : Int32)) from hz)).1) k)
  have k4 : own_To p.tables e below (s₁.setTop (entryFrame m #[(.ref a1)] 1)) T1 (mkF m 7 #[.val (.ref a1)] [(.ref a1)]) := fun t k => k3 t (XS.aloadN X1.here hx rfl (hb hby own_d8_6) rfl rfl k)
  obtain ⟨T5, X5, e5, st5⟩ := getF X1 hx hZ hown (host := "") (Or.inl (hw _ (List.mem_of_getElem? (i := 48) rfl))) Via.refl e1 F_coder_a1 (g := (mkF m 7 #[.val (.ref a1)] [(.ref a1)])) rfl rfl (hb hby own_d8_7)
  have k6 : own_To p.tables e below (s₁.setTop (entryFrame m #[(.ref a1)] 1)) T5 (mkF m 10 #[.val (.ref a1)] [(.int (0 : Int32))]) := fun t k => k4 t (st5 t k)
  have k7 : own_To p.tables e below (s₁.setTop (entryFrame m #[(.ref a1)] 1)) T5 (mkF m 13 #[.val (.ref a1)] []) := fun t k => k6 t (XS.ifNo X5.here hx rfl (hb hby own_d8_10) rfl ((if0 _ _).trans (teq (show (0 : Int32) = (0 : Int32) from (by decide))).2) k)
  have k8 : own_To p.tables e below (s₁.setTop (entryFrame m #[(.ref a1)] 1)) T5 (mkF m 14 #[.val (.ref a1)] [(.int (1 : Int32))]) := fun t k => k7 t (XS.iconst X5.here hx rfl (hb hby own_d8_13) k)
  have k9 : own_To p.tables e below (s₁.setTop (entryFrame m #[(.ref a1)] 1)) T5 (mkF m 18 #[.val (.ref a1)] [(.int (1 : Int32))]) := fun t k => k8 t (XS.goto X5.here hx rfl (pc0 := 14) (pc' := 18) rfl (hb hby own_d8_14) (by decide) (by decide) k)
  obtain ⟨fs, hr, hrun, hended, hW, hsame⟩ := X5.leave (v := some (.int (1 : Int32))) (fun h => by rw [Bd.returns] at h; cases h)
  refine ⟨_, _, k9 _ ?_, hrun, hended, _, _, rfl, ?_, ⟨_, rfl⟩, hW, hsame.mono (by decide) (by decide)⟩
  · exact retN X5 hx (t := .boolean) Bd.returns (by simp) (hb hby own_d8_18) (by first | exact hr | (rw [show nar .boolean (1 : Int32) = (1 : Int32) from by decide]; exact hr))
  · refine ⟨?_, N0, e5⟩
    rw [show (own_f8) = (1 : Int32) from by unfold own_f8; rfl]
theorem own_d11_0 : decode jdk_41_method_11_code 0 = .ok (.iload_n 0, 1) := by decide +kernel
theorem own_d11_1 : decode jdk_41_method_11_code 1 = .ok (.ifCond .lt 8, 3) := by decide +kernel
theorem own_d11_4 : decode jdk_41_method_11_code 4 = .ok (.iload_n 0, 1) := by decide +kernel
theorem own_d11_5 : decode jdk_41_method_11_code 5 = .ok (.iload_n 1, 1) := by decide +kernel
theorem own_d11_6 : decode jdk_41_method_11_code 6 = .ok (.if_icmp .lt 10, 3) := by decide +kernel
theorem own_d11_16 : decode jdk_41_method_11_code 16 = .ok (.iload_n 0, 1) := by decide +kernel
theorem own_d11_17 : decode jdk_41_method_11_code 17 = .ok (.ireturn, 1) := by decide +kernel
theorem own_ef11_00_11 (m : MethodId) (x2 : Value) (hr2 : x2.isRef = true) : entryFrame m #[(.int (0 : Int32)), (.int (1 : Int32)), x2] 3 = mkF m 0 #[.val (.int (0 : Int32)), .val (.int (1 : Int32)), .val x2] [] := by rcases ref_cases hr2 with rfl | ⟨_, rfl⟩ <;> first | (simp [entryFrame, mkF, argsToLocals, Value.category]; done) | rfl
theorem own_pn11 : plainName "jdk/internal/util/Preconditions" = true := by first | (simp [plainName, overriddenIn]; done) | decide +kernel
def own_f11_1 : Int32 := (0 : Int32)
set_option maxRecDepth 65536 in
set_option maxHeartbeats 40000000 in
theorem own_m11_1 (l : Launch) (Z : State) (a0 : Array Value) (hw : ∀ d ∈ tables_1, d.before a0 Z = true) (ws : List Jvm.Cond) (v3 : Value) (h0 : Heap) (n0 : Nat) (Z0 : n0 ≤ h0.size) (hr_v3 : v3.isRef = true) :
    MetFree l (⟨"jdk/internal/util/Preconditions", "checkIndex", "(IILjava/util/function/BiFunction;)I"⟩ : MethodName) (head1 (Jvm.Cond.code (⟨"jdk/internal/util/Preconditions", "checkIndex", "(IILjava/util/function/BiFunction;)I"⟩ : MethodName) jdk_41_method_11_code 3 (some .int) :: ws) ({ frames := 0, cells := 0, slots := 0, locals := 0 } : Room)) (fun a U => a = #[(.int (0 : Int32)), (.int (1 : Int32)), v3] ∧ Z.Warmed39 U.vm ∧ U.heap = h0) (fun _ _ _ _ _ => True) (fun _ U o U' => ∃ v L, o = .returned v ∧ own_Q (some (.int own_f11_1)) h0 n0 v U'.heap L ∧ FrameEnd U o U' L ({ frames := 0, cells := 0, slots := 0, locals := 0 } : Room).cells ({ frames := 0, cells := 0, slots := 0, locals := 0 } : Room).slots) := by
  refine MetFree.of_bodySF (plainFor_of_name own_pn11) hisR ?_
  intro p e s m args below meth c s₁ Bd hml0 hP hK
  obtain ⟨rfl, hZ, hh⟩ := hP
  have hx := Bd.exec
  have hby := Bd.bytes
  have hml : c.maxLocals = 3 := hml0
  have hown : s.vm.findClass "jdk/internal/util/Preconditions" = some m.cls := findClass_of_methodNamed Bd.named
  have hnm := (name_of_methodNamed Bd.named Bd.method).1
  have X0 : Stand p l e ({ frames := 0, cells := 0, slots := 0, locals := 0 } : Room) s m #[(.int (0 : Int32)), (.int (1 : Int32)), v3] below meth c s₁ [] 0 0 := Stand.of_body Bd
  have e0 : s₁.heap = h0 := by rw [← hh, Bd.state]; rfl
  have N0 := Fr.nil n0
  have k0 : own_To p.tables e below (s₁.setTop (entryFrame m #[(.int (0 : Int32)), (.int (1 : Int32)), v3] 3)) s₁ (mkF m 0 #[.val (.int (0 : Int32)), .val (.int (1 : Int32)), .val v3] []) := fun t k => castTop (own_ef11_00_11 m v3 hr_v3) k
  have k1 : own_To p.tables e below (s₁.setTop (entryFrame m #[(.int (0 : Int32)), (.int (1 : Int32)), v3] 3)) s₁ (mkF m 1 #[.val (.int (0 : Int32)), .val (.int (1 : Int32)), .val v3] [(.int (0 : Int32))]) := fun t k => k0 t (XS.iloadN X0.here hx rfl (hb hby own_d11_0) rfl k)
  have k2 : own_To p.tables e below (s₁.setTop (entryFrame m #[(.int (0 : Int32)), (.int (1 : Int32)), v3] 3)) s₁ (mkF m 4 #[.val (.int (0 : Int32)), .val (.int (1 : Int32)), .val v3] []) := fun t k => k1 t (XS.ifNo X0.here hx rfl (hb hby own_d11_1) rfl ((if0 _ _).trans (flt (show ¬ ((0 : Int32) < (0 : Int32)) from (by decide))).1) k)
  have k3 : own_To p.tables e below (s₁.setTop (entryFrame m #[(.int (0 : Int32)), (.int (1 : Int32)), v3] 3)) s₁ (mkF m 5 #[.val (.int (0 : Int32)), .val (.int (1 : Int32)), .val v3] [(.int (0 : Int32))]) := fun t k => k2 t (XS.iloadN X0.here hx rfl (hb hby own_d11_4) rfl k)
  have k4 : own_To p.tables e below (s₁.setTop (entryFrame m #[(.int (0 : Int32)), (.int (1 : Int32)), v3] 3)) s₁ (mkF m 6 #[.val (.int (0 : Int32)), .val (.int (1 : Int32)), .val v3] [(.int (1 : Int32)), (.int (0 : Int32))]) := fun t k => k3 t (XS.iloadN X0.here hx rfl (hb hby own_d11_5) rfl k)
  have k5 : own_To p.tables e below (s₁.setTop (entryFrame m #[(.int (0 : Int32)), (.int (1 : Int32)), v3] 3)) s₁ (mkF m 16 #[.val (.int (0 : Int32)), .val (.int (1 : Int32)), .val v3] []) := fun t k => k4 t (XS.icmpYes X0.here hx rfl (pc0 := 6) (pc' := 16) rfl (hb hby own_d11_6) rfl (tlt (show (0 : Int32) < (1 : Int32) from (by decide))).1 (by decide) (by decide) k)
  have k6 : own_To p.tables e below (s₁.setTop (entryFrame m #[(.int (0 : Int32)), (.int (1 : Int32)), v3] 3)) s₁ (mkF m 17 #[.val (.int (0 : Int32)), .val (.int (1 : Int32)), .val v3] [(.int (0 : Int32))]) := fun t k => k5 t (XS.iloadN X0.here hx rfl (hb hby own_d11_16) rfl k)
  obtain ⟨fs, hr, hrun, hended, hW, hsame⟩ := X0.leave (v := some (.int (0 : Int32))) (fun h => by rw [Bd.returns] at h; cases h)
  refine ⟨_, _, k6 _ ?_, hrun, hended, _, _, rfl, ?_, ⟨_, rfl⟩, hW, hsame.mono (by decide) (by decide)⟩
  · exact retI X0 hx Bd.returns (hb hby own_d11_17) hr
  · refine ⟨?_, N0, e0⟩
    rw [show (own_f11_1) = (0 : Int32) from by unfold own_f11_1; rfl]
theorem own_d10_0 : decode jdk_42_method_155_code 0 = .ok (.iload_n 0, 1) := by decide +kernel
theorem own_d10_1 : decode jdk_42_method_155_code 1 = .ok (.iload_n 1, 1) := by decide +kernel
theorem own_d10_2 : decode jdk_42_method_155_code 2 = .ok (.getstatic 1053, 3) := by decide +kernel
theorem own_d10_5 : decode jdk_42_method_155_code 5 = .ok (.invokestatic 1059, 3) := by decide +kernel
theorem own_pd0 : parseMethodDescriptor "(IILjava/util/function/BiFunction;)I" = some ⟨[.int, .int, (.object "java/util/function/BiFunction")], some .int⟩ := by decide +kernel
theorem own_d10_8 : decode jdk_42_method_155_code 8 = .ok (.pop, 1) := by decide +kernel
theorem own_d10_9 : decode jdk_42_method_155_code 9 = .ok (.return_, 1) := by decide +kernel
theorem own_ef10_00_11 (m : MethodId)  : entryFrame m #[(.int (0 : Int32)), (.int (1 : Int32))] 2 = mkF m 0 #[.val (.int (0 : Int32)), .val (.int (1 : Int32))] [] := by first | (simp [entryFrame, mkF, argsToLocals, Value.category]; done) | rfl
theorem own_pn10 : plainName "java/lang/String" = true := by first | (simp [plainName, overriddenIn]; done) | decide +kernel
set_option maxRecDepth 65536 in
set_option maxHeartbeats 40000000 in
theorem own_m10_1 (l : Launch) (Z : State) (a0 : Array Value) (hw : ∀ d ∈ tables_1, d.before a0 Z = true) (ws : List Jvm.Cond) (w_SIOOBE_FORMATTER : Value) (h0 : Heap) (n0 : Nat) (Z0 : n0 ≤ h0.size) (S_SIOOBE_FORMATTER : Sta Z h0 "jdk/internal/util/Preconditions" "SIOOBE_FORMATTER" "Ljava/util/function/BiFunction;" w_SIOOBE_FORMATTER) (hrS : w_SIOOBE_FORMATTER.isRef = true) :
    MetFree l (⟨"java/lang/String", "checkIndex", "(II)V"⟩ : MethodName) (head1 (Jvm.Cond.code (⟨"java/lang/String", "checkIndex", "(II)V"⟩ : MethodName) jdk_42_method_155_code 2 none :: ws) ({ frames := 1, cells := 0, slots := 0, locals := 14 } : Room)) (fun a U => a = #[(.int (0 : Int32)), (.int (1 : Int32))] ∧ Z.Warmed39 U.vm ∧ U.heap = h0) (fun _ _ _ _ _ => True) (fun _ U o U' => ∃ v L, o = .returned v ∧ own_Q none h0 n0 v U'.heap L ∧ FrameEnd U o U' L ({ frames := 1, cells := 0, slots := 0, locals := 14 } : Room).cells ({ frames := 1, cells := 0, slots := 0, locals := 14 } : Room).slots) := by
  refine MetFree.of_bodySF (plainFor_of_name own_pn10) hisR ?_
  intro p e s m args below meth c s₁ Bd hml0 hP hK
  obtain ⟨rfl, hZ, hh⟩ := hP
  have hx := Bd.exec
  have hby := Bd.bytes
  have hml : c.maxLocals = 2 := hml0
  have hown : s.vm.findClass "java/lang/String" = some m.cls := findClass_of_methodNamed Bd.named
  have hnm := (name_of_methodNamed Bd.named Bd.method).1
  have X0 : Stand p l e ({ frames := 1, cells := 0, slots := 0, locals := 14 } : Room) s m #[(.int (0 : Int32)), (.int (1 : Int32))] below meth c s₁ [] 0 0 := Stand.of_body Bd
  have e0 : s₁.heap = h0 := by rw [← hh, Bd.state]; rfl
  have N0 := Fr.nil n0
  have k0 : own_To p.tables e below (s₁.setTop (entryFrame m #[(.int (0 : Int32)), (.int (1 : Int32))] 2)) s₁ (mkF m 0 #[.val (.int (0 : Int32)), .val (.int (1 : Int32))] []) := fun t k => castTop (own_ef10_00_11 m ) k
  have k1 : own_To p.tables e below (s₁.setTop (entryFrame m #[(.int (0 : Int32)), (.int (1 : Int32))] 2)) s₁ (mkF m 1 #[.val (.int (0 : Int32)), .val (.int (1 : Int32))] [(.int (0 : Int32))]) := fun t k => k0 t (XS.iloadN X0.here hx rfl (hb hby own_d10_0) rfl k)
  have k2 : own_To p.tables e below (s₁.setTop (entryFrame m #[(.int (0 : Int32)), (.int (1 : Int32))] 2)) s₁ (mkF m 2 #[.val (.int (0 : Int32)), .val (.int (1 : Int32))] [(.int (1 : Int32)), (.int (0 : Int32))]) := fun t k => k1 t (XS.iloadN X0.here hx rfl (hb hby own_d10_1) rfl k)
  obtain ⟨T3, X3, e3, st3⟩ := getS2 X0 hx hZ hown (host := "") (Or.inl (hw _ (List.mem_of_getElem? (i := 66) rfl))) Via.refl e0 S_SIOOBE_FORMATTER (g := (mkF m 2 #[.val (.int (0 : Int32)), .val (.int (1 : Int32))] [(.int (1 : Int32)), (.int (0 : Int32))])) rfl (hb hby own_d10_2)
  have k4 : own_To p.tables e below (s₁.setTop (entryFrame m #[(.int (0 : Int32)), (.int (1 : Int32))] 2)) T3 (mkF m 5 #[.val (.int (0 : Int32)), .val (.int (1 : Int32))] [w_SIOOBE_FORMATTER, (.int (1 : Int32)), (.int (0 : Int32))]) := fun t k => k2 t (st3 t k)
  obtain ⟨_, _, ⟨T5, L5, k5, n5⟩, -, X5, ⟨Lc5, hQ5, l5, y5, z5⟩, st5⟩ := Jvm.LawKit.callS X3 hx (y := (⟨"jdk/internal/util/Preconditions", "checkIndex", "(IILjava/util/function/BiFunction;)I"⟩ : MethodName)) hown (mvT hZ (hw _ (List.mem_of_getElem? (i := 68) rfl))) (mvT hZ (hw _ (List.mem_of_getElem? (i := 69) rfl))) (mvT hZ (hw _ (List.mem_of_getElem? (i := 67) rfl))) (mvT hZ (hw _ (List.mem_of_getElem? (i := 70) rfl))) (by decide) (backOf (W := 0) (own_m11_1 l Z a0 hw [] w_SIOOBE_FORMATTER h0 n0 Z0 hrS) hZ (hw _ (List.mem_of_getElem? (i := 70) rfl)) (hw _ (List.mem_of_getElem? (i := 67) rfl)) (by decide) (by decide)) (g := (mkF m 5 #[.val (.int (0 : Int32)), .val (.int (1 : Int32))] [w_SIOOBE_FORMATTER, (.int (1 : Int32)), (.int (0 : Int32))])) rfl (by rw [hml]; rfl) (argsL := [(.int (0 : Int32)), (.int (1 : Int32)), w_SIOOBE_FORMATTER]) (rest := []) (lenOf own_pd0 rfl) rfl (by show 2 * 0 + _ ≤ _; exact Nat.le_of_eq rfl) (hb hby own_d10_5) (fun _ _ => ⟨rfl, e3, (by decide : 0 + 0 ≤ _), (by decide : 0 + 0 ≤ _)⟩)
  dsimp only [Pt.U, Pt.locs, Pt.cells, Pt.slots] at X5 l5 y5 z5 st5 hQ5
  subst l5 y5 z5
  rw [show own_f11_1 = (0 : Int32) from rfl] at hQ5
  obtain ⟨rfl, N5q, e5⟩ := hQ5
  have N5 := Fr.app N0 N5q
  have k6 : own_To p.tables e below (s₁.setTop (entryFrame m #[(.int (0 : Int32)), (.int (1 : Int32))] 2)) T5 (mkF m 8 #[.val (.int (0 : Int32)), .val (.int (1 : Int32))] [(.int (0 : Int32))]) := fun t k => k4 t (st5 t k)
  have k7 : own_To p.tables e below (s₁.setTop (entryFrame m #[(.int (0 : Int32)), (.int (1 : Int32))] 2)) T5 (mkF m 9 #[.val (.int (0 : Int32)), .val (.int (1 : Int32))] []) := fun t k => k6 t (XS.pop X5.here hx rfl (hb hby own_d10_8) rfl rfl k)
  obtain ⟨fs, hr, hrun, hended, hW, hsame⟩ := X5.leave (v := none) (fun _ => rfl)
  refine ⟨_, _, k7 _ ?_, hrun, hended, _, _, rfl, ?_, ⟨_, rfl⟩, hW, hsame.mono (by decide) (by decide)⟩
  · exact X5.returnOut hx Bd.returns (hb hby own_d10_9) hr
  · refine ⟨?_, N5, e5⟩
    rfl
theorem own_ef11_00_12 (m : MethodId) (x2 : Value) (hr2 : x2.isRef = true) : entryFrame m #[(.int (0 : Int32)), (.int (2 : Int32)), x2] 3 = mkF m 0 #[.val (.int (0 : Int32)), .val (.int (2 : Int32)), .val x2] [] := by rcases ref_cases hr2 with rfl | ⟨_, rfl⟩ <;> first | (simp [entryFrame, mkF, argsToLocals, Value.category]; done) | rfl
def own_f11_2 : Int32 := (0 : Int32)
set_option maxRecDepth 65536 in
set_option maxHeartbeats 40000000 in
theorem own_m11_2 (l : Launch) (Z : State) (a0 : Array Value) (hw : ∀ d ∈ tables_1, d.before a0 Z = true) (ws : List Jvm.Cond) (v3 : Value) (h0 : Heap) (n0 : Nat) (Z0 : n0 ≤ h0.size) (hr_v3 : v3.isRef = true) :
    MetFree l (⟨"jdk/internal/util/Preconditions", "checkIndex", "(IILjava/util/function/BiFunction;)I"⟩ : MethodName) (head1 (Jvm.Cond.code (⟨"jdk/internal/util/Preconditions", "checkIndex", "(IILjava/util/function/BiFunction;)I"⟩ : MethodName) jdk_41_method_11_code 3 (some .int) :: ws) ({ frames := 0, cells := 0, slots := 0, locals := 0 } : Room)) (fun a U => a = #[(.int (0 : Int32)), (.int (2 : Int32)), v3] ∧ Z.Warmed39 U.vm ∧ U.heap = h0) (fun _ _ _ _ _ => True) (fun _ U o U' => ∃ v L, o = .returned v ∧ own_Q (some (.int own_f11_2)) h0 n0 v U'.heap L ∧ FrameEnd U o U' L ({ frames := 0, cells := 0, slots := 0, locals := 0 } : Room).cells ({ frames := 0, cells := 0, slots := 0, locals := 0 } : Room).slots) := by
  refine MetFree.of_bodySF (plainFor_of_name own_pn11) hisR ?_
  intro p e s m args below meth c s₁ Bd hml0 hP hK
  obtain ⟨rfl, hZ, hh⟩ := hP
  have hx := Bd.exec
  have hby := Bd.bytes
  have hml : c.maxLocals = 3 := hml0
  have hown : s.vm.findClass "jdk/internal/util/Preconditions" = some m.cls := findClass_of_methodNamed Bd.named
  have hnm := (name_of_methodNamed Bd.named Bd.method).1
  have X0 : Stand p l e ({ frames := 0, cells := 0, slots := 0, locals := 0 } : Room) s m #[(.int (0 : Int32)), (.int (2 : Int32)), v3] below meth c s₁ [] 0 0 := Stand.of_body Bd
  have e0 : s₁.heap = h0 := by rw [← hh, Bd.state]; rfl
  have N0 := Fr.nil n0
  have k0 : own_To p.tables e below (s₁.setTop (entryFrame m #[(.int (0 : Int32)), (.int (2 : Int32)), v3] 3)) s₁ (mkF m 0 #[.val (.int (0 : Int32)), .val (.int (2 : Int32)), .val v3] []) := fun t k => castTop (own_ef11_00_12 m v3 hr_v3) k
  have k1 : own_To p.tables e below (s₁.setTop (entryFrame m #[(.int (0 : Int32)), (.int (2 : Int32)), v3] 3)) s₁ (mkF m 1 #[.val (.int (0 : Int32)), .val (.int (2 : Int32)), .val v3] [(.int (0 : Int32))]) := fun t k => k0 t (XS.iloadN X0.here hx rfl (hb hby own_d11_0) rfl k)
  have k2 : own_To p.tables e below (s₁.setTop (entryFrame m #[(.int (0 : Int32)), (.int (2 : Int32)), v3] 3)) s₁ (mkF m 4 #[.val (.int (0 : Int32)), .val (.int (2 : Int32)), .val v3] []) := fun t k => k1 t (XS.ifNo X0.here hx rfl (hb hby own_d11_1) rfl ((if0 _ _).trans (flt (show ¬ ((0 : Int32) < (0 : Int32)) from (by decide))).1) k)
  have k3 : own_To p.tables e below (s₁.setTop (entryFrame m #[(.int (0 : Int32)), (.int (2 : Int32)), v3] 3)) s₁ (mkF m 5 #[.val (.int (0 : Int32)), .val (.int (2 : Int32)), .val v3] [(.int (0 : Int32))]) := fun t k => k2 t (XS.iloadN X0.here hx rfl (hb hby own_d11_4) rfl k)
  have k4 : own_To p.tables e below (s₁.setTop (entryFrame m #[(.int (0 : Int32)), (.int (2 : Int32)), v3] 3)) s₁ (mkF m 6 #[.val (.int (0 : Int32)), .val (.int (2 : Int32)), .val v3] [(.int (2 : Int32)), (.int (0 : Int32))]) := fun t k => k3 t (XS.iloadN X0.here hx rfl (hb hby own_d11_5) rfl k)
  have k5 : own_To p.tables e below (s₁.setTop (entryFrame m #[(.int (0 : Int32)), (.int (2 : Int32)), v3] 3)) s₁ (mkF m 16 #[.val (.int (0 : Int32)), .val (.int (2 : Int32)), .val v3] []) := fun t k => k4 t (XS.icmpYes X0.here hx rfl (pc0 := 6) (pc' := 16) rfl (hb hby own_d11_6) rfl (tlt (show (0 : Int32) < (2 : Int32) from (by decide))).1 (by decide) (by decide) k)
  have k6 : own_To p.tables e below (s₁.setTop (entryFrame m #[(.int (0 : Int32)), (.int (2 : Int32)), v3] 3)) s₁ (mkF m 17 #[.val (.int (0 : Int32)), .val (.int (2 : Int32)), .val v3] [(.int (0 : Int32))]) := fun t k => k5 t (XS.iloadN X0.here hx rfl (hb hby own_d11_16) rfl k)
  obtain ⟨fs, hr, hrun, hended, hW, hsame⟩ := X0.leave (v := some (.int (0 : Int32))) (fun h => by rw [Bd.returns] at h; cases h)
  refine ⟨_, _, k6 _ ?_, hrun, hended, _, _, rfl, ?_, ⟨_, rfl⟩, hW, hsame.mono (by decide) (by decide)⟩
  · exact retI X0 hx Bd.returns (hb hby own_d11_17) hr
  · refine ⟨?_, N0, e0⟩
    rw [show (own_f11_2) = (0 : Int32) from by unfold own_f11_2; rfl]
theorem own_ef10_00_12 (m : MethodId)  : entryFrame m #[(.int (0 : Int32)), (.int (2 : Int32))] 2 = mkF m 0 #[.val (.int (0 : Int32)), .val (.int (2 : Int32))] [] := by first | (simp [entryFrame, mkF, argsToLocals, Value.category]; done) | rfl
set_option maxRecDepth 65536 in
set_option maxHeartbeats 40000000 in
theorem own_m10_2 (l : Launch) (Z : State) (a0 : Array Value) (hw : ∀ d ∈ tables_1, d.before a0 Z = true) (ws : List Jvm.Cond) (w_SIOOBE_FORMATTER : Value) (h0 : Heap) (n0 : Nat) (Z0 : n0 ≤ h0.size) (S_SIOOBE_FORMATTER : Sta Z h0 "jdk/internal/util/Preconditions" "SIOOBE_FORMATTER" "Ljava/util/function/BiFunction;" w_SIOOBE_FORMATTER) (hrS : w_SIOOBE_FORMATTER.isRef = true) :
    MetFree l (⟨"java/lang/String", "checkIndex", "(II)V"⟩ : MethodName) (head1 (Jvm.Cond.code (⟨"java/lang/String", "checkIndex", "(II)V"⟩ : MethodName) jdk_42_method_155_code 2 none :: ws) ({ frames := 1, cells := 0, slots := 0, locals := 14 } : Room)) (fun a U => a = #[(.int (0 : Int32)), (.int (2 : Int32))] ∧ Z.Warmed39 U.vm ∧ U.heap = h0) (fun _ _ _ _ _ => True) (fun _ U o U' => ∃ v L, o = .returned v ∧ own_Q none h0 n0 v U'.heap L ∧ FrameEnd U o U' L ({ frames := 1, cells := 0, slots := 0, locals := 14 } : Room).cells ({ frames := 1, cells := 0, slots := 0, locals := 14 } : Room).slots) := by
  refine MetFree.of_bodySF (plainFor_of_name own_pn10) hisR ?_
  intro p e s m args below meth c s₁ Bd hml0 hP hK
  obtain ⟨rfl, hZ, hh⟩ := hP
  have hx := Bd.exec
  have hby := Bd.bytes
  have hml : c.maxLocals = 2 := hml0
  have hown : s.vm.findClass "java/lang/String" = some m.cls := findClass_of_methodNamed Bd.named
  have hnm := (name_of_methodNamed Bd.named Bd.method).1
  have X0 : Stand p l e ({ frames := 1, cells := 0, slots := 0, locals := 14 } : Room) s m #[(.int (0 : Int32)), (.int (2 : Int32))] below meth c s₁ [] 0 0 := Stand.of_body Bd
  have e0 : s₁.heap = h0 := by rw [← hh, Bd.state]; rfl
  have N0 := Fr.nil n0
  have k0 : own_To p.tables e below (s₁.setTop (entryFrame m #[(.int (0 : Int32)), (.int (2 : Int32))] 2)) s₁ (mkF m 0 #[.val (.int (0 : Int32)), .val (.int (2 : Int32))] []) := fun t k => castTop (own_ef10_00_12 m ) k
  have k1 : own_To p.tables e below (s₁.setTop (entryFrame m #[(.int (0 : Int32)), (.int (2 : Int32))] 2)) s₁ (mkF m 1 #[.val (.int (0 : Int32)), .val (.int (2 : Int32))] [(.int (0 : Int32))]) := fun t k => k0 t (XS.iloadN X0.here hx rfl (hb hby own_d10_0) rfl k)
  have k2 : own_To p.tables e below (s₁.setTop (entryFrame m #[(.int (0 : Int32)), (.int (2 : Int32))] 2)) s₁ (mkF m 2 #[.val (.int (0 : Int32)), .val (.int (2 : Int32))] [(.int (2 : Int32)), (.int (0 : Int32))]) := fun t k => k1 t (XS.iloadN X0.here hx rfl (hb hby own_d10_1) rfl k)
  obtain ⟨T3, X3, e3, st3⟩ := getS2 X0 hx hZ hown (host := "") (Or.inl (hw _ (List.mem_of_getElem? (i := 66) rfl))) Via.refl e0 S_SIOOBE_FORMATTER (g := (mkF m 2 #[.val (.int (0 : Int32)), .val (.int (2 : Int32))] [(.int (2 : Int32)), (.int (0 : Int32))])) rfl (hb hby own_d10_2)
  have k4 : own_To p.tables e below (s₁.setTop (entryFrame m #[(.int (0 : Int32)), (.int (2 : Int32))] 2)) T3 (mkF m 5 #[.val (.int (0 : Int32)), .val (.int (2 : Int32))] [w_SIOOBE_FORMATTER, (.int (2 : Int32)), (.int (0 : Int32))]) := fun t k => k2 t (st3 t k)
  obtain ⟨_, _, ⟨T5, L5, k5, n5⟩, -, X5, ⟨Lc5, hQ5, l5, y5, z5⟩, st5⟩ := Jvm.LawKit.callS X3 hx (y := (⟨"jdk/internal/util/Preconditions", "checkIndex", "(IILjava/util/function/BiFunction;)I"⟩ : MethodName)) hown (mvT hZ (hw _ (List.mem_of_getElem? (i := 68) rfl))) (mvT hZ (hw _ (List.mem_of_getElem? (i := 69) rfl))) (mvT hZ (hw _ (List.mem_of_getElem? (i := 67) rfl))) (mvT hZ (hw _ (List.mem_of_getElem? (i := 70) rfl))) (by decide) (backOf (W := 0) (own_m11_2 l Z a0 hw [] w_SIOOBE_FORMATTER h0 n0 Z0 hrS) hZ (hw _ (List.mem_of_getElem? (i := 70) rfl)) (hw _ (List.mem_of_getElem? (i := 67) rfl)) (by decide) (by decide)) (g := (mkF m 5 #[.val (.int (0 : Int32)), .val (.int (2 : Int32))] [w_SIOOBE_FORMATTER, (.int (2 : Int32)), (.int (0 : Int32))])) rfl (by rw [hml]; rfl) (argsL := [(.int (0 : Int32)), (.int (2 : Int32)), w_SIOOBE_FORMATTER]) (rest := []) (lenOf own_pd0 rfl) rfl (by show 2 * 0 + _ ≤ _; exact Nat.le_of_eq rfl) (hb hby own_d10_5) (fun _ _ => ⟨rfl, e3, (by decide : 0 + 0 ≤ _), (by decide : 0 + 0 ≤ _)⟩)
  dsimp only [Pt.U, Pt.locs, Pt.cells, Pt.slots] at X5 l5 y5 z5 st5 hQ5
  subst l5 y5 z5
  rw [show own_f11_2 = (0 : Int32) from rfl] at hQ5
  obtain ⟨rfl, N5q, e5⟩ := hQ5
  have N5 := Fr.app N0 N5q
  have k6 : own_To p.tables e below (s₁.setTop (entryFrame m #[(.int (0 : Int32)), (.int (2 : Int32))] 2)) T5 (mkF m 8 #[.val (.int (0 : Int32)), .val (.int (2 : Int32))] [(.int (0 : Int32))]) := fun t k => k4 t (st5 t k)
  have k7 : own_To p.tables e below (s₁.setTop (entryFrame m #[(.int (0 : Int32)), (.int (2 : Int32))] 2)) T5 (mkF m 9 #[.val (.int (0 : Int32)), .val (.int (2 : Int32))] []) := fun t k => k6 t (XS.pop X5.here hx rfl (hb hby own_d10_8) rfl rfl k)
  obtain ⟨fs, hr, hrun, hended, hW, hsame⟩ := X5.leave (v := none) (fun _ => rfl)
  refine ⟨_, _, k7 _ ?_, hrun, hended, _, _, rfl, ?_, ⟨_, rfl⟩, hW, hsame.mono (by decide) (by decide)⟩
  · exact X5.returnOut hx Bd.returns (hb hby own_d10_9) hr
  · refine ⟨?_, N5, e5⟩
    rfl
theorem own_d5_0 : decode jdk_42_method_54_code 0 = .ok (.aload_n 0, 1) := by decide +kernel
theorem own_d5_1 : decode jdk_42_method_54_code 1 = .ok (.getfield 9, 3) := by decide +kernel
theorem own_d5_4 : decode jdk_42_method_54_code 4 = .ok (.arraylength, 1) := by decide +kernel
theorem own_d5_5 : decode jdk_42_method_54_code 5 = .ok (.aload_n 0, 1) := by decide +kernel
theorem own_d5_6 : decode jdk_42_method_54_code 6 = .ok (.invokevirtual 335, 3) := by decide +kernel
theorem own_pd1 : parseMethodDescriptor "()B" = some ⟨[], some .byte⟩ := by decide +kernel
theorem own_d5_9 : decode jdk_42_method_54_code 9 = .ok (.ishr, 1) := by decide +kernel
theorem own_d5_10 : decode jdk_42_method_54_code 10 = .ok (.ireturn, 1) := by decide +kernel
theorem own_ef5 (m : MethodId) (x0 : Addr) : entryFrame m #[(.ref x0)] 1 = mkF m 0 #[.val (.ref x0)] [] := by first | (simp [entryFrame, mkF, argsToLocals, Value.category]; done) | rfl
theorem own_pn5 : plainName "java/lang/String" = true := by first | (simp [plainName, overriddenIn]; done) | decide +kernel
def own_f5_t0 : Int32 := (1 : Int32)
set_option maxRecDepth 65536 in
set_option maxHeartbeats 40000000 in
theorem own_m5_t0 (l : Launch) (Z : State) (a0 : Array Value) (hw : ∀ d ∈ tables_1, d.before a0 Z = true) (ws : List Jvm.Cond) (a1 : Addr) (w_value_a1 : Addr) (kc_w_value_a1 : ClassId) (w_COMPACT_STRINGS : Int32) (h0 : Heap) (n0 : Nat) (Z0 : n0 ≤ h0.size) (F_value_a1 : Fld Z h0 a1 "java/lang/String" "value" "[B" (.ref w_value_a1)) (V_w_value_a1 : Arv Z h0 w_value_a1 kc_w_value_a1 .byte (1 : Int32) [(.int (61 : Int32))] (.int (0 : Int32))) (S_COMPACT_STRINGS : Sta Z h0 "java/lang/String" "COMPACT_STRINGS" "Z" (.int w_COMPACT_STRINGS)) (F_coder_a1 : Fld Z h0 a1 "java/lang/String" "coder" "B" (.int (0 : Int32))) (E_a1 : Exa Z h0 a1 "java/lang/String") (hz : ¬ (w_COMPACT_STRINGS = (0 : Int32))) :
    MetFree l (⟨"java/lang/String", "length", "()I"⟩ : MethodName) (head1 (Jvm.Cond.code (⟨"java/lang/String", "length", "()I"⟩ : MethodName) jdk_42_method_54_code 1 (some .int) :: ws) ({ frames := 1, cells := 0, slots := 0, locals := 13 } : Room)) (fun a U => a = #[(.ref a1)] ∧ Z.Warmed39 U.vm ∧ U.heap = h0) (fun _ _ _ _ _ => True) (fun _ U o U' => ∃ v L, o = .returned v ∧ own_Q (some (.int own_f5_t0)) h0 n0 v U'.heap L ∧ FrameEnd U o U' L ({ frames := 1, cells := 0, slots := 0, locals := 13 } : Room).cells ({ frames := 1, cells := 0, slots := 0, locals := 13 } : Room).slots) := by
  refine MetFree.of_bodySF (plainFor_of_name own_pn5) hisR ?_
  intro p e s m args below meth c s₁ Bd hml0 hP hK
  obtain ⟨rfl, hZ, hh⟩ := hP
  have hx := Bd.exec
  have hby := Bd.bytes
  have hml : c.maxLocals = 1 := hml0
  have hown : s.vm.findClass "java/lang/String" = some m.cls := findClass_of_methodNamed Bd.named
  have hnm := (name_of_methodNamed Bd.named Bd.method).1
  have X0 : Stand p l e ({ frames := 1, cells := 0, slots := 0, locals := 13 } : Room) s m #[(.ref a1)] below meth c s₁ [] 0 0 := Stand.of_body Bd
  have e0 : s₁.heap = h0 := by rw [← hh, Bd.state]; rfl
  have N0 := Fr.nil n0
  have k0 : own_To p.tables e below (s₁.setTop (entryFrame m #[(.ref a1)] 1)) s₁ (mkF m 0 #[.val (.ref a1)] []) := fun t k => castTop (own_ef5 m a1) k
  have k1 : own_To p.tables e below (s₁.setTop (entryFrame m #[(.ref a1)] 1)) s₁ (mkF m 1 #[.val (.ref a1)] [(.ref a1)]) := fun t k => k0 t (XS.aloadN X0.here hx rfl (hb hby own_d5_0) rfl rfl k)
  obtain ⟨T2, X2, e2, st2⟩ := getF X0 hx hZ hown (host := "") (Or.inl (hw _ (List.mem_of_getElem? (i := 41) rfl))) Via.refl e0 F_value_a1 (g := (mkF m 1 #[.val (.ref a1)] [(.ref a1)])) rfl rfl (hb hby own_d5_1)
  have k3 : own_To p.tables e below (s₁.setTop (entryFrame m #[(.ref a1)] 1)) T2 (mkF m 4 #[.val (.ref a1)] [(.ref w_value_a1)]) := fun t k => k1 t (st2 t k)
  obtain ⟨cl4, Ar4, qa4, Sa4, Na4, Ha4, Ga4⟩ := id V_w_value_a1
  have k5 : own_To p.tables e below (s₁.setTop (entryFrame m #[(.ref a1)] 1)) T2 (mkF m 5 #[.val (.ref a1)] [(.int (1 : Int32))]) := fun t k => k3 t (X2.arraylength hx (by rw [e2]; exact Ar4.1) (State.isArrayOf_alike hZ.alike Ar4.2.1) (g := (mkF m 4 #[.val (.ref a1)] [(.ref w_value_a1)])) rfl rfl (hb hby own_d5_4) _ (by rw [len_of Sa4 Na4]; exact k))
  have k6 : own_To p.tables e below (s₁.setTop (entryFrame m #[(.ref a1)] 1)) T2 (mkF m 6 #[.val (.ref a1)] [(.ref a1), (.int (1 : Int32))]) := fun t k => k5 t (XS.aloadN X2.here hx rfl (hb hby own_d5_5) rfl rfl k)
  obtain ⟨cq7, kq7, q7a, q7b, q7c⟩ := isOf hZ e2 E_a1
  obtain ⟨_, _, ⟨T7, L7, k7, n7⟩, -, X7, ⟨Lc7, hQ7, l7, y7, z7⟩, st7⟩ := X2.virtualBack hx (y := (⟨"java/lang/String", "coder", "()B"⟩ : MethodName)) (z := (⟨"java/lang/String", "coder", "()B"⟩ : MethodName)) hown (mvT hZ (hw _ (List.mem_of_getElem? (i := 42) rfl))) (mvT hZ (hw _ (List.mem_of_getElem? (i := 43) rfl))) (notFace_of_selects (args := #[]) (mvT hZ (hw _ (List.mem_of_getElem? (i := 45) rfl)))) (mvT hZ (hw _ (List.mem_of_getElem? (i := 45) rfl))) (mvT hZ (hw _ (List.mem_of_getElem? (i := 44) rfl))) (by decide) (backOf (W := 1) (own_m6 l Z a0 hw [] a1 w_COMPACT_STRINGS h0 n0 Z0 S_COMPACT_STRINGS F_coder_a1 hz) hZ (hw _ (List.mem_of_getElem? (i := 46) rfl)) (hw _ (List.mem_of_getElem? (i := 29) rfl)) (by decide) (by decide)) q7a q7c (g := (mkF m 6 #[.val (.ref a1)] [(.ref a1), (.int (1 : Int32))])) rfl (by rw [hml]; rfl) (Steps.refl _) (argsL := []) (rest := [(.int (1 : Int32))]) (lenOf own_pd1 rfl) rfl (by show 2 * 0 + _ ≤ _; exact Nat.le_of_eq rfl) (hb hby own_d5_6) (fun _ _ => ⟨rfl, e2, (by decide : 0 + 0 ≤ _), (by decide : 0 + 0 ≤ _)⟩)
  dsimp only [Pt.U, Pt.locs, Pt.cells, Pt.slots] at X7 l7 y7 z7 st7 hQ7
  subst l7 y7 z7
  rw [show own_f6 = (0 : Int32) from rfl] at hQ7
  obtain ⟨rfl, N7q, e7⟩ := hQ7
  have N7 := Fr.app N0 N7q
  have k8 : own_To p.tables e below (s₁.setTop (entryFrame m #[(.ref a1)] 1)) T7 (mkF m 9 #[.val (.ref a1)] [(.int (0 : Int32)), (.int (1 : Int32))]) := fun t k => k6 t (st7.trans k)
  have k9 : own_To p.tables e below (s₁.setTop (entryFrame m #[(.ref a1)] 1)) T7 (mkF m 10 #[.val (.ref a1)] [(.int (1 : Int32))]) := fun t k => k8 t (XS.ishr X7.here hx rfl (hb hby own_d5_9) rfl (by rw [show ((1 : Int32) >>> ((0 : Int32) &&& 31)) = (1 : Int32) from by decide]; exact k))
  obtain ⟨fs, hr, hrun, hended, hW, hsame⟩ := X7.leave (v := some (.int (1 : Int32))) (fun h => by rw [Bd.returns] at h; cases h)
  refine ⟨_, _, k9 _ ?_, hrun, hended, _, _, rfl, ?_, ⟨_, rfl⟩, hW, hsame.mono (by decide) (by decide)⟩
  · exact retI X7 hx Bd.returns (hb hby own_d5_10) hr
  · refine ⟨?_, N7, e7⟩
    rw [show (own_f5_t0) = (1 : Int32) from by unfold own_f5_t0; rfl]
theorem own_d9_0 : decode jdk_43_method_2_code 0 = .ok (.iload_n 1, 1) := by decide +kernel
theorem own_d9_1 : decode jdk_43_method_2_code 1 = .ok (.aload_n 0, 1) := by decide +kernel
theorem own_d9_2 : decode jdk_43_method_2_code 2 = .ok (.arraylength, 1) := by decide +kernel
theorem own_d9_3 : decode jdk_43_method_2_code 3 = .ok (.invokestatic 9, 3) := by decide +kernel
theorem own_pd2 : parseMethodDescriptor "(II)V" = some ⟨[.int, .int], none⟩ := by decide +kernel
theorem own_d9_6 : decode jdk_43_method_2_code 6 = .ok (.aload_n 0, 1) := by decide +kernel
theorem own_d9_7 : decode jdk_43_method_2_code 7 = .ok (.iload_n 1, 1) := by decide +kernel
theorem own_d9_8 : decode jdk_43_method_2_code 8 = .ok (.baload, 1) := by decide +kernel
theorem own_d9_9 : decode jdk_43_method_2_code 9 = .ok (.sipush 255, 3) := by decide +kernel
theorem own_d9_12 : decode jdk_43_method_2_code 12 = .ok (.iand, 1) := by decide +kernel
theorem own_d9_13 : decode jdk_43_method_2_code 13 = .ok (.i2c, 1) := by decide +kernel
theorem own_d9_14 : decode jdk_43_method_2_code 14 = .ok (.ireturn, 1) := by decide +kernel
theorem own_ef9_10 (m : MethodId) (x0 : Addr) : entryFrame m #[(.ref x0), (.int (0 : Int32))] 2 = mkF m 0 #[.val (.ref x0), .val (.int (0 : Int32))] [] := by first | (simp [entryFrame, mkF, argsToLocals, Value.category]; done) | rfl
theorem own_pn9 : plainName "java/lang/StringLatin1" = true := by first | (simp [plainName, overriddenIn]; done) | decide +kernel
def own_f9_t0 : Int32 := (61 : Int32)
set_option maxRecDepth 65536 in
set_option maxHeartbeats 40000000 in
theorem own_m9_t0 (l : Launch) (Z : State) (a0 : Array Value) (hw : ∀ d ∈ tables_1, d.before a0 Z = true) (ws : List Jvm.Cond) (a1 : Addr) (kc_a1 : ClassId) (w_SIOOBE_FORMATTER : Value) (h0 : Heap) (n0 : Nat) (Z0 : n0 ≤ h0.size) (V_a1 : Arv Z h0 a1 kc_a1 .byte (1 : Int32) [(.int (61 : Int32))] (.int (0 : Int32))) (S_SIOOBE_FORMATTER : Sta Z h0 "jdk/internal/util/Preconditions" "SIOOBE_FORMATTER" "Ljava/util/function/BiFunction;" w_SIOOBE_FORMATTER) (hrS : w_SIOOBE_FORMATTER.isRef = true) :
    MetFree l (⟨"java/lang/StringLatin1", "charAt", "([BI)C"⟩ : MethodName) (head1 (Jvm.Cond.code (⟨"java/lang/StringLatin1", "charAt", "([BI)C"⟩ : MethodName) jdk_43_method_2_code 2 (some .char) :: ws) ({ frames := 2, cells := 0, slots := 0, locals := 27 } : Room)) (fun a U => a = #[(.ref a1), (.int (0 : Int32))] ∧ Z.Warmed39 U.vm ∧ U.heap = h0) (fun _ _ _ _ _ => True) (fun _ U o U' => ∃ v L, o = .returned v ∧ own_Q (some (.int own_f9_t0)) h0 n0 v U'.heap L ∧ FrameEnd U o U' L ({ frames := 2, cells := 0, slots := 0, locals := 27 } : Room).cells ({ frames := 2, cells := 0, slots := 0, locals := 27 } : Room).slots) := by
  refine MetFree.of_bodySF (plainFor_of_name own_pn9) hisR ?_
  intro p e s m args below meth c s₁ Bd hml0 hP hK
  obtain ⟨rfl, hZ, hh⟩ := hP
  have hx := Bd.exec
  have hby := Bd.bytes
  have hml : c.maxLocals = 2 := hml0
  have hown : s.vm.findClass "java/lang/StringLatin1" = some m.cls := findClass_of_methodNamed Bd.named
  have hnm := (name_of_methodNamed Bd.named Bd.method).1
  have X0 : Stand p l e ({ frames := 2, cells := 0, slots := 0, locals := 27 } : Room) s m #[(.ref a1), (.int (0 : Int32))] below meth c s₁ [] 0 0 := Stand.of_body Bd
  have e0 : s₁.heap = h0 := by rw [← hh, Bd.state]; rfl
  have N0 := Fr.nil n0
  have k0 : own_To p.tables e below (s₁.setTop (entryFrame m #[(.ref a1), (.int (0 : Int32))] 2)) s₁ (mkF m 0 #[.val (.ref a1), .val (.int (0 : Int32))] []) := fun t k => castTop (own_ef9_10 m a1) k
  have k1 : own_To p.tables e below (s₁.setTop (entryFrame m #[(.ref a1), (.int (0 : Int32))] 2)) s₁ (mkF m 1 #[.val (.ref a1), .val (.int (0 : Int32))] [(.int (0 : Int32))]) := fun t k => k0 t (XS.iloadN X0.here hx rfl (hb hby own_d9_0) rfl k)
  have k2 : own_To p.tables e below (s₁.setTop (entryFrame m #[(.ref a1), (.int (0 : Int32))] 2)) s₁ (mkF m 2 #[.val (.ref a1), .val (.int (0 : Int32))] [(.ref a1), (.int (0 : Int32))]) := fun t k => k1 t (XS.aloadN X0.here hx rfl (hb hby own_d9_1) rfl rfl k)
  obtain ⟨cl3, Ar3, qa3, Sa3, Na3, Ha3, Ga3⟩ := id V_a1
  have k4 : own_To p.tables e below (s₁.setTop (entryFrame m #[(.ref a1), (.int (0 : Int32))] 2)) s₁ (mkF m 3 #[.val (.ref a1), .val (.int (0 : Int32))] [(.int (1 : Int32)), (.int (0 : Int32))]) := fun t k => k2 t (X0.arraylength hx (by rw [e0]; exact Ar3.1) (State.isArrayOf_alike hZ.alike Ar3.2.1) (g := (mkF m 2 #[.val (.ref a1), .val (.int (0 : Int32))] [(.ref a1), (.int (0 : Int32))])) rfl rfl (hb hby own_d9_2) _ (by rw [len_of Sa3 Na3]; exact k))
  obtain ⟨_, _, ⟨T5, L5, k5, n5⟩, -, X5, ⟨Lc5, hQ5, l5, y5, z5⟩, st5⟩ := Jvm.LawKit.callS X0 hx (y := (⟨"java/lang/String", "checkIndex", "(II)V"⟩ : MethodName)) hown (mvT hZ (hw _ (List.mem_of_getElem? (i := 63) rfl))) (mvT hZ (hw _ (List.mem_of_getElem? (i := 64) rfl))) (mvT hZ (hw _ (List.mem_of_getElem? (i := 29) rfl))) (mvT hZ (hw _ (List.mem_of_getElem? (i := 65) rfl))) (by decide) (backOf (W := 0) (own_m10_1 l Z a0 hw [] w_SIOOBE_FORMATTER h0 n0 Z0 S_SIOOBE_FORMATTER hrS) hZ (hw _ (List.mem_of_getElem? (i := 65) rfl)) (hw _ (List.mem_of_getElem? (i := 29) rfl)) (by decide) (by decide)) (g := (mkF m 3 #[.val (.ref a1), .val (.int (0 : Int32))] [(.int (1 : Int32)), (.int (0 : Int32))])) rfl (by rw [hml]; rfl) (argsL := [(.int (0 : Int32)), (.int (1 : Int32))]) (rest := []) (lenOf own_pd2 rfl) rfl (by show 2 * 0 + _ ≤ _; exact Nat.le_of_eq rfl) (hb hby own_d9_3) (fun _ _ => ⟨rfl, e0, (by decide : 0 + 0 ≤ _), (by decide : 0 + 0 ≤ _)⟩)
  dsimp only [Pt.U, Pt.locs, Pt.cells, Pt.slots] at X5 l5 y5 z5 st5 hQ5
  subst l5 y5 z5
  obtain ⟨rfl, N5q, e5⟩ := hQ5
  have N5 := Fr.app N0 N5q
  have k6 : own_To p.tables e below (s₁.setTop (entryFrame m #[(.ref a1), (.int (0 : Int32))] 2)) T5 (mkF m 6 #[.val (.ref a1), .val (.int (0 : Int32))] []) := fun t k => k4 t (st5 t k)
  have k7 : own_To p.tables e below (s₁.setTop (entryFrame m #[(.ref a1), (.int (0 : Int32))] 2)) T5 (mkF m 7 #[.val (.ref a1), .val (.int (0 : Int32))] [(.ref a1)]) := fun t k => k6 t (XS.aloadN X5.here hx rfl (hb hby own_d9_6) rfl rfl k)
  have k8 : own_To p.tables e below (s₁.setTop (entryFrame m #[(.ref a1), (.int (0 : Int32))] 2)) T5 (mkF m 8 #[.val (.ref a1), .val (.int (0 : Int32))] [(.int (0 : Int32)), (.ref a1)]) := fun t k => k7 t (XS.iloadN X5.here hx rfl (hb hby own_d9_7) rfl k)
  obtain ⟨cl9, Ar9, qa9, Sa9, Na9, Ha9, Ga9⟩ := id V_a1
  have at9 : cl9.slots[((0 : Int32)).toNatClampNeg]? = some (.int (61 : Int32)) := Ha9.at (own_inb Sa9 (show (0 : Int32) = Nat.toInt32 0 from by decide) (show 0 < ((1 : Int32)).toNatClampNeg from by decide)) (by rw [own_idx (show (0 : Int32) = Nat.toInt32 0 from by decide) (by omega)]; exact rfl)
  have k10 : own_To p.tables e below (s₁.setTop (entryFrame m #[(.ref a1), (.int (0 : Int32))] 2)) T5 (mkF m 9 #[.val (.ref a1), .val (.int (0 : Int32))] [(.int (61 : Int32))]) := fun t k => k8 t (X5.baloadBytes hx (j := (0 : Int32)) (v := (.int (61 : Int32))) (by rw [e5]; exact Ar9.1) (State.isArrayOf_alike hZ.alike Ar9.2.1) Ar9.2.2 (own_inb Sa9 (show (0 : Int32) = Nat.toInt32 0 from by decide) (show 0 < ((1 : Int32)).toNatClampNeg from by decide)) at9 (g := (mkF m 8 #[.val (.ref a1), .val (.int (0 : Int32))] [(.int (0 : Int32)), (.ref a1)])) rfl rfl (hb hby own_d9_8) _ k)
  have k11 : own_To p.tables e below (s₁.setTop (entryFrame m #[(.ref a1), (.int (0 : Int32))] 2)) T5 (mkF m 12 #[.val (.ref a1), .val (.int (0 : Int32))] [(.int (255 : Int32)), (.int (61 : Int32))]) := fun t k => k10 t (XS.sipush X5.here hx rfl (hb hby own_d9_9) k)
  have k12 : own_To p.tables e below (s₁.setTop (entryFrame m #[(.ref a1), (.int (0 : Int32))] 2)) T5 (mkF m 13 #[.val (.ref a1), .val (.int (0 : Int32))] [(.int (61 : Int32))]) := fun t k => k11 t (XS.iand X5.here hx rfl (hb hby own_d9_12) rfl (by rw [show ((61 : Int32) &&& (255 : Int32)) = (61 : Int32) from by decide]; exact k))
  have k13 : own_To p.tables e below (s₁.setTop (entryFrame m #[(.ref a1), (.int (0 : Int32))] 2)) T5 (mkF m 14 #[.val (.ref a1), .val (.int (0 : Int32))] [(.int (61 : Int32))]) := fun t k => k12 t (XS.i2c X5.here hx rfl (hb hby own_d9_13) rfl (by rw [show ((61 : Int32).toUInt32.toUInt16.toUInt32.toInt32) = (61 : Int32) from by decide]; exact k))
  obtain ⟨fs, hr, hrun, hended, hW, hsame⟩ := X5.leave (v := some (.int (61 : Int32))) (fun h => by rw [Bd.returns] at h; cases h)
  refine ⟨_, _, k13 _ ?_, hrun, hended, _, _, rfl, ?_, ⟨_, rfl⟩, hW, hsame.mono (by decide) (by decide)⟩
  · exact retN X5 hx (t := .char) Bd.returns (by simp) (hb hby own_d9_14) (by first | exact hr | (rw [show nar .char (61 : Int32) = (61 : Int32) from by decide]; exact hr))
  · refine ⟨?_, N5, e5⟩
    rw [show (own_f9_t0) = (61 : Int32) from by unfold own_f9_t0; rfl]
theorem own_d7_0 : decode jdk_42_method_56_code 0 = .ok (.aload_n 0, 1) := by decide +kernel
theorem own_d7_1 : decode jdk_42_method_56_code 1 = .ok (.invokevirtual 492, 3) := by decide +kernel
theorem own_pd3 : parseMethodDescriptor "()Z" = some ⟨[], some .boolean⟩ := by decide +kernel
theorem own_d7_4 : decode jdk_42_method_56_code 4 = .ok (.ifCond .eq 12, 3) := by decide +kernel
theorem own_d7_7 : decode jdk_42_method_56_code 7 = .ok (.aload_n 0, 1) := by decide +kernel
theorem own_d7_8 : decode jdk_42_method_56_code 8 = .ok (.getfield 9, 3) := by decide +kernel
theorem own_d7_11 : decode jdk_42_method_56_code 11 = .ok (.iload_n 1, 1) := by decide +kernel
theorem own_d7_12 : decode jdk_42_method_56_code 12 = .ok (.invokestatic 495, 3) := by decide +kernel
theorem own_pd4 : parseMethodDescriptor "([BI)C" = some ⟨[(.array .byte), .int], some .char⟩ := by decide +kernel
theorem own_d7_15 : decode jdk_42_method_56_code 15 = .ok (.ireturn, 1) := by decide +kernel
theorem own_ef7_10 (m : MethodId) (x0 : Addr) : entryFrame m #[(.ref x0), (.int (0 : Int32))] 2 = mkF m 0 #[.val (.ref x0), .val (.int (0 : Int32))] [] := by first | (simp [entryFrame, mkF, argsToLocals, Value.category]; done) | rfl
theorem own_pn7 : plainName "java/lang/String" = true := by first | (simp [plainName, overriddenIn]; done) | decide +kernel
def own_f7_t0 : Int32 := (61 : Int32)
set_option maxRecDepth 65536 in
set_option maxHeartbeats 40000000 in
theorem own_m7_t0 (l : Launch) (Z : State) (a0 : Array Value) (hw : ∀ d ∈ tables_1, d.before a0 Z = true) (ws : List Jvm.Cond) (a1 : Addr) (w_COMPACT_STRINGS : Int32) (w_value_a1 : Addr) (kc_w_value_a1 : ClassId) (w_SIOOBE_FORMATTER : Value) (h0 : Heap) (n0 : Nat) (Z0 : n0 ≤ h0.size) (S_COMPACT_STRINGS : Sta Z h0 "java/lang/String" "COMPACT_STRINGS" "Z" (.int w_COMPACT_STRINGS)) (F_coder_a1 : Fld Z h0 a1 "java/lang/String" "coder" "B" (.int (0 : Int32))) (E_a1 : Exa Z h0 a1 "java/lang/String") (F_value_a1 : Fld Z h0 a1 "java/lang/String" "value" "[B" (.ref w_value_a1)) (V_w_value_a1 : Arv Z h0 w_value_a1 kc_w_value_a1 .byte (1 : Int32) [(.int (61 : Int32))] (.int (0 : Int32))) (S_SIOOBE_FORMATTER : Sta Z h0 "jdk/internal/util/Preconditions" "SIOOBE_FORMATTER" "Ljava/util/function/BiFunction;" w_SIOOBE_FORMATTER) (hz : ¬ (w_COMPACT_STRINGS = (0 : Int32))) (hrS : w_SIOOBE_FORMATTER.isRef = true) :
    MetFree l (⟨"java/lang/String", "charAt", "(I)C"⟩ : MethodName) (head1 (Jvm.Cond.code (⟨"java/lang/String", "charAt", "(I)C"⟩ : MethodName) jdk_42_method_56_code 2 (some .char) :: ws) ({ frames := 3, cells := 0, slots := 0, locals := 40 } : Room)) (fun a U => a = #[(.ref a1), (.int (0 : Int32))] ∧ Z.Warmed39 U.vm ∧ U.heap = h0) (fun _ _ _ _ _ => True) (fun _ U o U' => ∃ v L, o = .returned v ∧ own_Q (some (.int own_f7_t0)) h0 n0 v U'.heap L ∧ FrameEnd U o U' L ({ frames := 3, cells := 0, slots := 0, locals := 40 } : Room).cells ({ frames := 3, cells := 0, slots := 0, locals := 40 } : Room).slots) := by
  refine MetFree.of_bodySF (plainFor_of_name own_pn7) hisR ?_
  intro p e s m args below meth c s₁ Bd hml0 hP hK
  obtain ⟨rfl, hZ, hh⟩ := hP
  have hx := Bd.exec
  have hby := Bd.bytes
  have hml : c.maxLocals = 2 := hml0
  have hown : s.vm.findClass "java/lang/String" = some m.cls := findClass_of_methodNamed Bd.named
  have hnm := (name_of_methodNamed Bd.named Bd.method).1
  have X0 : Stand p l e ({ frames := 3, cells := 0, slots := 0, locals := 40 } : Room) s m #[(.ref a1), (.int (0 : Int32))] below meth c s₁ [] 0 0 := Stand.of_body Bd
  have e0 : s₁.heap = h0 := by rw [← hh, Bd.state]; rfl
  have N0 := Fr.nil n0
  have k0 : own_To p.tables e below (s₁.setTop (entryFrame m #[(.ref a1), (.int (0 : Int32))] 2)) s₁ (mkF m 0 #[.val (.ref a1), .val (.int (0 : Int32))] []) := fun t k => castTop (own_ef7_10 m a1) k
  have k1 : own_To p.tables e below (s₁.setTop (entryFrame m #[(.ref a1), (.int (0 : Int32))] 2)) s₁ (mkF m 1 #[.val (.ref a1), .val (.int (0 : Int32))] [(.ref a1)]) := fun t k => k0 t (XS.aloadN X0.here hx rfl (hb hby own_d7_0) rfl rfl k)
  obtain ⟨cq2, kq2, q2a, q2b, q2c⟩ := isOf hZ e0 E_a1
  obtain ⟨_, _, ⟨T2, L2, k2, n2⟩, -, X2, ⟨Lc2, hQ2, l2, y2, z2⟩, st2⟩ := X0.virtualBack hx (y := (⟨"java/lang/String", "isLatin1", "()Z"⟩ : MethodName)) (z := (⟨"java/lang/String", "isLatin1", "()Z"⟩ : MethodName)) hown (mvT hZ (hw _ (List.mem_of_getElem? (i := 54) rfl))) (mvT hZ (hw _ (List.mem_of_getElem? (i := 55) rfl))) (notFace_of_selects (args := #[]) (mvT hZ (hw _ (List.mem_of_getElem? (i := 57) rfl)))) (mvT hZ (hw _ (List.mem_of_getElem? (i := 57) rfl))) (mvT hZ (hw _ (List.mem_of_getElem? (i := 56) rfl))) (by decide) (backOf (W := 0) (own_m8 l Z a0 hw [] a1 w_COMPACT_STRINGS h0 n0 Z0 S_COMPACT_STRINGS F_coder_a1 hz) hZ (hw _ (List.mem_of_getElem? (i := 58) rfl)) (hw _ (List.mem_of_getElem? (i := 29) rfl)) (by decide) (by decide)) q2a q2c (g := (mkF m 1 #[.val (.ref a1), .val (.int (0 : Int32))] [(.ref a1)])) rfl (by rw [hml]; rfl) (Steps.refl _) (argsL := []) (rest := []) (lenOf own_pd3 rfl) rfl (by show 2 * 0 + _ ≤ _; exact Nat.le_of_eq rfl) (hb hby own_d7_1) (fun _ _ => ⟨rfl, e0, (by decide : 0 + 0 ≤ _), (by decide : 0 + 0 ≤ _)⟩)
  dsimp only [Pt.U, Pt.locs, Pt.cells, Pt.slots] at X2 l2 y2 z2 st2 hQ2
  subst l2 y2 z2
  rw [show own_f8 = (1 : Int32) from rfl] at hQ2
  obtain ⟨rfl, N2q, e2⟩ := hQ2
  have N2 := Fr.app N0 N2q
  have k3 : own_To p.tables e below (s₁.setTop (entryFrame m #[(.ref a1), (.int (0 : Int32))] 2)) T2 (mkF m 4 #[.val (.ref a1), .val (.int (0 : Int32))] [(.int (1 : Int32))]) := fun t k => k1 t (st2.trans k)
  have k4 : own_To p.tables e below (s₁.setTop (entryFrame m #[(.ref a1), (.int (0 : Int32))] 2)) T2 (mkF m 7 #[.val (.ref a1), .val (.int (0 : Int32))] []) := fun t k => k3 t (XS.ifNo X2.here hx rfl (hb hby own_d7_4) rfl ((if0 _ _).trans (feq (show ¬ ((1 : Int32) = (0 : Int32)) from (by decide))).1) k)
  have k5 : own_To p.tables e below (s₁.setTop (entryFrame m #[(.ref a1), (.int (0 : Int32))] 2)) T2 (mkF m 8 #[.val (.ref a1), .val (.int (0 : Int32))] [(.ref a1)]) := fun t k => k4 t (XS.aloadN X2.here hx rfl (hb hby own_d7_7) rfl rfl k)
  obtain ⟨T6, X6, e6, st6⟩ := getF X2 hx hZ hown (host := "") (Or.inl (hw _ (List.mem_of_getElem? (i := 41) rfl))) Via.refl e2 F_value_a1 (g := (mkF m 8 #[.val (.ref a1), .val (.int (0 : Int32))] [(.ref a1)])) rfl rfl (hb hby own_d7_8)
  have k7 : own_To p.tables e below (s₁.setTop (entryFrame m #[(.ref a1), (.int (0 : Int32))] 2)) T6 (mkF m 11 #[.val (.ref a1), .val (.int (0 : Int32))] [(.ref w_value_a1)]) := fun t k => k5 t (st6 t k)
  have k8 : own_To p.tables e below (s₁.setTop (entryFrame m #[(.ref a1), (.int (0 : Int32))] 2)) T6 (mkF m 12 #[.val (.ref a1), .val (.int (0 : Int32))] [(.int (0 : Int32)), (.ref w_value_a1)]) := fun t k => k7 t (XS.iloadN X6.here hx rfl (hb hby own_d7_11) rfl k)
  obtain ⟨_, _, ⟨T9, L9, k9, n9⟩, -, X9, ⟨Lc9, hQ9, l9, y9, z9⟩, st9⟩ := Jvm.LawKit.callS X6 hx (y := (⟨"java/lang/StringLatin1", "charAt", "([BI)C"⟩ : MethodName)) hown (mvT hZ (hw _ (List.mem_of_getElem? (i := 59) rfl))) (mvT hZ (hw _ (List.mem_of_getElem? (i := 60) rfl))) (mvT hZ (hw _ (List.mem_of_getElem? (i := 61) rfl))) (mvT hZ (hw _ (List.mem_of_getElem? (i := 62) rfl))) (by decide) (backOf (W := 0) (own_m9_t0 l Z a0 hw [] w_value_a1 kc_w_value_a1 w_SIOOBE_FORMATTER h0 n0 Z0 V_w_value_a1 S_SIOOBE_FORMATTER hrS) hZ (hw _ (List.mem_of_getElem? (i := 62) rfl)) (hw _ (List.mem_of_getElem? (i := 61) rfl)) (by decide) (by decide)) (g := (mkF m 12 #[.val (.ref a1), .val (.int (0 : Int32))] [(.int (0 : Int32)), (.ref w_value_a1)])) rfl (by rw [hml]; rfl) (argsL := [(.ref w_value_a1), (.int (0 : Int32))]) (rest := []) (lenOf own_pd4 rfl) rfl (by show 2 * 0 + _ ≤ _; exact Nat.le_of_eq rfl) (hb hby own_d7_12) (fun _ _ => ⟨rfl, e6, (by decide : 0 + 0 ≤ _), (by decide : 0 + 0 ≤ _)⟩)
  dsimp only [Pt.U, Pt.locs, Pt.cells, Pt.slots] at X9 l9 y9 z9 st9 hQ9
  subst l9 y9 z9
  rw [show own_f9_t0 = (61 : Int32) from rfl] at hQ9
  obtain ⟨rfl, N9q, e9⟩ := hQ9
  have N9 := Fr.app N2 N9q
  have k10 : own_To p.tables e below (s₁.setTop (entryFrame m #[(.ref a1), (.int (0 : Int32))] 2)) T9 (mkF m 15 #[.val (.ref a1), .val (.int (0 : Int32))] [(.int (61 : Int32))]) := fun t k => k8 t (st9 t k)
  obtain ⟨fs, hr, hrun, hended, hW, hsame⟩ := X9.leave (v := some (.int (61 : Int32))) (fun h => by rw [Bd.returns] at h; cases h)
  refine ⟨_, _, k10 _ ?_, hrun, hended, _, _, rfl, ?_, ⟨_, rfl⟩, hW, hsame.mono (by decide) (by decide)⟩
  · exact retN X9 hx (t := .char) Bd.returns (by simp) (hb hby own_d7_15) (by first | exact hr | (rw [show nar .char (61 : Int32) = (61 : Int32) from by decide]; exact hr))
  · refine ⟨?_, N9, e9⟩
    rw [show (own_f7_t0) = (61 : Int32) from by unfold own_f7_t0; rfl]
def own_f5_t1 : Int32 := (2 : Int32)
set_option maxRecDepth 65536 in
set_option maxHeartbeats 40000000 in
theorem own_m5_t1 (l : Launch) (Z : State) (a0 : Array Value) (hw : ∀ d ∈ tables_1, d.before a0 Z = true) (ws : List Jvm.Cond) (a1 : Addr) (w_value_a1 : Addr) (kc_w_value_a1 : ClassId) (w_COMPACT_STRINGS : Int32) (h0 : Heap) (n0 : Nat) (Z0 : n0 ≤ h0.size) (F_value_a1 : Fld Z h0 a1 "java/lang/String" "value" "[B" (.ref w_value_a1)) (V_w_value_a1 : Arv Z h0 w_value_a1 kc_w_value_a1 .byte (2 : Int32) [(.int (61 : Int32)), (.int (61 : Int32))] (.int (0 : Int32))) (S_COMPACT_STRINGS : Sta Z h0 "java/lang/String" "COMPACT_STRINGS" "Z" (.int w_COMPACT_STRINGS)) (F_coder_a1 : Fld Z h0 a1 "java/lang/String" "coder" "B" (.int (0 : Int32))) (E_a1 : Exa Z h0 a1 "java/lang/String") (hz : ¬ (w_COMPACT_STRINGS = (0 : Int32))) :
    MetFree l (⟨"java/lang/String", "length", "()I"⟩ : MethodName) (head1 (Jvm.Cond.code (⟨"java/lang/String", "length", "()I"⟩ : MethodName) jdk_42_method_54_code 1 (some .int) :: ws) ({ frames := 1, cells := 0, slots := 0, locals := 13 } : Room)) (fun a U => a = #[(.ref a1)] ∧ Z.Warmed39 U.vm ∧ U.heap = h0) (fun _ _ _ _ _ => True) (fun _ U o U' => ∃ v L, o = .returned v ∧ own_Q (some (.int own_f5_t1)) h0 n0 v U'.heap L ∧ FrameEnd U o U' L ({ frames := 1, cells := 0, slots := 0, locals := 13 } : Room).cells ({ frames := 1, cells := 0, slots := 0, locals := 13 } : Room).slots) := by
  refine MetFree.of_bodySF (plainFor_of_name own_pn5) hisR ?_
  intro p e s m args below meth c s₁ Bd hml0 hP hK
  obtain ⟨rfl, hZ, hh⟩ := hP
  have hx := Bd.exec
  have hby := Bd.bytes
  have hml : c.maxLocals = 1 := hml0
  have hown : s.vm.findClass "java/lang/String" = some m.cls := findClass_of_methodNamed Bd.named
  have hnm := (name_of_methodNamed Bd.named Bd.method).1
  have X0 : Stand p l e ({ frames := 1, cells := 0, slots := 0, locals := 13 } : Room) s m #[(.ref a1)] below meth c s₁ [] 0 0 := Stand.of_body Bd
  have e0 : s₁.heap = h0 := by rw [← hh, Bd.state]; rfl
  have N0 := Fr.nil n0
  have k0 : own_To p.tables e below (s₁.setTop (entryFrame m #[(.ref a1)] 1)) s₁ (mkF m 0 #[.val (.ref a1)] []) := fun t k => castTop (own_ef5 m a1) k
  have k1 : own_To p.tables e below (s₁.setTop (entryFrame m #[(.ref a1)] 1)) s₁ (mkF m 1 #[.val (.ref a1)] [(.ref a1)]) := fun t k => k0 t (XS.aloadN X0.here hx rfl (hb hby own_d5_0) rfl rfl k)
  obtain ⟨T2, X2, e2, st2⟩ := getF X0 hx hZ hown (host := "") (Or.inl (hw _ (List.mem_of_getElem? (i := 41) rfl))) Via.refl e0 F_value_a1 (g := (mkF m 1 #[.val (.ref a1)] [(.ref a1)])) rfl rfl (hb hby own_d5_1)
  have k3 : own_To p.tables e below (s₁.setTop (entryFrame m #[(.ref a1)] 1)) T2 (mkF m 4 #[.val (.ref a1)] [(.ref w_value_a1)]) := fun t k => k1 t (st2 t k)
  obtain ⟨cl4, Ar4, qa4, Sa4, Na4, Ha4, Ga4⟩ := id V_w_value_a1
  have k5 : own_To p.tables e below (s₁.setTop (entryFrame m #[(.ref a1)] 1)) T2 (mkF m 5 #[.val (.ref a1)] [(.int (2 : Int32))]) := fun t k => k3 t (X2.arraylength hx (by rw [e2]; exact Ar4.1) (State.isArrayOf_alike hZ.alike Ar4.2.1) (g := (mkF m 4 #[.val (.ref a1)] [(.ref w_value_a1)])) rfl rfl (hb hby own_d5_4) _ (by rw [len_of Sa4 Na4]; exact k))
  have k6 : own_To p.tables e below (s₁.setTop (entryFrame m #[(.ref a1)] 1)) T2 (mkF m 6 #[.val (.ref a1)] [(.ref a1), (.int (2 : Int32))]) := fun t k => k5 t (XS.aloadN X2.here hx rfl (hb hby own_d5_5) rfl rfl k)
  obtain ⟨cq7, kq7, q7a, q7b, q7c⟩ := isOf hZ e2 E_a1
  obtain ⟨_, _, ⟨T7, L7, k7, n7⟩, -, X7, ⟨Lc7, hQ7, l7, y7, z7⟩, st7⟩ := X2.virtualBack hx (y := (⟨"java/lang/String", "coder", "()B"⟩ : MethodName)) (z := (⟨"java/lang/String", "coder", "()B"⟩ : MethodName)) hown (mvT hZ (hw _ (List.mem_of_getElem? (i := 42) rfl))) (mvT hZ (hw _ (List.mem_of_getElem? (i := 43) rfl))) (notFace_of_selects (args := #[]) (mvT hZ (hw _ (List.mem_of_getElem? (i := 45) rfl)))) (mvT hZ (hw _ (List.mem_of_getElem? (i := 45) rfl))) (mvT hZ (hw _ (List.mem_of_getElem? (i := 44) rfl))) (by decide) (backOf (W := 1) (own_m6 l Z a0 hw [] a1 w_COMPACT_STRINGS h0 n0 Z0 S_COMPACT_STRINGS F_coder_a1 hz) hZ (hw _ (List.mem_of_getElem? (i := 46) rfl)) (hw _ (List.mem_of_getElem? (i := 29) rfl)) (by decide) (by decide)) q7a q7c (g := (mkF m 6 #[.val (.ref a1)] [(.ref a1), (.int (2 : Int32))])) rfl (by rw [hml]; rfl) (Steps.refl _) (argsL := []) (rest := [(.int (2 : Int32))]) (lenOf own_pd1 rfl) rfl (by show 2 * 0 + _ ≤ _; exact Nat.le_of_eq rfl) (hb hby own_d5_6) (fun _ _ => ⟨rfl, e2, (by decide : 0 + 0 ≤ _), (by decide : 0 + 0 ≤ _)⟩)
  dsimp only [Pt.U, Pt.locs, Pt.cells, Pt.slots] at X7 l7 y7 z7 st7 hQ7
  subst l7 y7 z7
  rw [show own_f6 = (0 : Int32) from rfl] at hQ7
  obtain ⟨rfl, N7q, e7⟩ := hQ7
  have N7 := Fr.app N0 N7q
  have k8 : own_To p.tables e below (s₁.setTop (entryFrame m #[(.ref a1)] 1)) T7 (mkF m 9 #[.val (.ref a1)] [(.int (0 : Int32)), (.int (2 : Int32))]) := fun t k => k6 t (st7.trans k)
  have k9 : own_To p.tables e below (s₁.setTop (entryFrame m #[(.ref a1)] 1)) T7 (mkF m 10 #[.val (.ref a1)] [(.int (2 : Int32))]) := fun t k => k8 t (XS.ishr X7.here hx rfl (hb hby own_d5_9) rfl (by rw [show ((2 : Int32) >>> ((0 : Int32) &&& 31)) = (2 : Int32) from by decide]; exact k))
  obtain ⟨fs, hr, hrun, hended, hW, hsame⟩ := X7.leave (v := some (.int (2 : Int32))) (fun h => by rw [Bd.returns] at h; cases h)
  refine ⟨_, _, k9 _ ?_, hrun, hended, _, _, rfl, ?_, ⟨_, rfl⟩, hW, hsame.mono (by decide) (by decide)⟩
  · exact retI X7 hx Bd.returns (hb hby own_d5_10) hr
  · refine ⟨?_, N7, e7⟩
    rw [show (own_f5_t1) = (2 : Int32) from by unfold own_f5_t1; rfl]
def own_f9_t1 : Int32 := (61 : Int32)
set_option maxRecDepth 65536 in
set_option maxHeartbeats 40000000 in
theorem own_m9_t1 (l : Launch) (Z : State) (a0 : Array Value) (hw : ∀ d ∈ tables_1, d.before a0 Z = true) (ws : List Jvm.Cond) (a1 : Addr) (kc_a1 : ClassId) (w_SIOOBE_FORMATTER : Value) (h0 : Heap) (n0 : Nat) (Z0 : n0 ≤ h0.size) (V_a1 : Arv Z h0 a1 kc_a1 .byte (2 : Int32) [(.int (61 : Int32)), (.int (61 : Int32))] (.int (0 : Int32))) (S_SIOOBE_FORMATTER : Sta Z h0 "jdk/internal/util/Preconditions" "SIOOBE_FORMATTER" "Ljava/util/function/BiFunction;" w_SIOOBE_FORMATTER) (hrS : w_SIOOBE_FORMATTER.isRef = true) :
    MetFree l (⟨"java/lang/StringLatin1", "charAt", "([BI)C"⟩ : MethodName) (head1 (Jvm.Cond.code (⟨"java/lang/StringLatin1", "charAt", "([BI)C"⟩ : MethodName) jdk_43_method_2_code 2 (some .char) :: ws) ({ frames := 2, cells := 0, slots := 0, locals := 27 } : Room)) (fun a U => a = #[(.ref a1), (.int (0 : Int32))] ∧ Z.Warmed39 U.vm ∧ U.heap = h0) (fun _ _ _ _ _ => True) (fun _ U o U' => ∃ v L, o = .returned v ∧ own_Q (some (.int own_f9_t1)) h0 n0 v U'.heap L ∧ FrameEnd U o U' L ({ frames := 2, cells := 0, slots := 0, locals := 27 } : Room).cells ({ frames := 2, cells := 0, slots := 0, locals := 27 } : Room).slots) := by
  refine MetFree.of_bodySF (plainFor_of_name own_pn9) hisR ?_
  intro p e s m args below meth c s₁ Bd hml0 hP hK
  obtain ⟨rfl, hZ, hh⟩ := hP
  have hx := Bd.exec
  have hby := Bd.bytes
  have hml : c.maxLocals = 2 := hml0
  have hown : s.vm.findClass "java/lang/StringLatin1" = some m.cls := findClass_of_methodNamed Bd.named
  have hnm := (name_of_methodNamed Bd.named Bd.method).1
  have X0 : Stand p l e ({ frames := 2, cells := 0, slots := 0, locals := 27 } : Room) s m #[(.ref a1), (.int (0 : Int32))] below meth c s₁ [] 0 0 := Stand.of_body Bd
  have e0 : s₁.heap = h0 := by rw [← hh, Bd.state]; rfl
  have N0 := Fr.nil n0
  have k0 : own_To p.tables e below (s₁.setTop (entryFrame m #[(.ref a1), (.int (0 : Int32))] 2)) s₁ (mkF m 0 #[.val (.ref a1), .val (.int (0 : Int32))] []) := fun t k => castTop (own_ef9_10 m a1) k
  have k1 : own_To p.tables e below (s₁.setTop (entryFrame m #[(.ref a1), (.int (0 : Int32))] 2)) s₁ (mkF m 1 #[.val (.ref a1), .val (.int (0 : Int32))] [(.int (0 : Int32))]) := fun t k => k0 t (XS.iloadN X0.here hx rfl (hb hby own_d9_0) rfl k)
  have k2 : own_To p.tables e below (s₁.setTop (entryFrame m #[(.ref a1), (.int (0 : Int32))] 2)) s₁ (mkF m 2 #[.val (.ref a1), .val (.int (0 : Int32))] [(.ref a1), (.int (0 : Int32))]) := fun t k => k1 t (XS.aloadN X0.here hx rfl (hb hby own_d9_1) rfl rfl k)
  obtain ⟨cl3, Ar3, qa3, Sa3, Na3, Ha3, Ga3⟩ := id V_a1
  have k4 : own_To p.tables e below (s₁.setTop (entryFrame m #[(.ref a1), (.int (0 : Int32))] 2)) s₁ (mkF m 3 #[.val (.ref a1), .val (.int (0 : Int32))] [(.int (2 : Int32)), (.int (0 : Int32))]) := fun t k => k2 t (X0.arraylength hx (by rw [e0]; exact Ar3.1) (State.isArrayOf_alike hZ.alike Ar3.2.1) (g := (mkF m 2 #[.val (.ref a1), .val (.int (0 : Int32))] [(.ref a1), (.int (0 : Int32))])) rfl rfl (hb hby own_d9_2) _ (by rw [len_of Sa3 Na3]; exact k))
  obtain ⟨_, _, ⟨T5, L5, k5, n5⟩, -, X5, ⟨Lc5, hQ5, l5, y5, z5⟩, st5⟩ := Jvm.LawKit.callS X0 hx (y := (⟨"java/lang/String", "checkIndex", "(II)V"⟩ : MethodName)) hown (mvT hZ (hw _ (List.mem_of_getElem? (i := 63) rfl))) (mvT hZ (hw _ (List.mem_of_getElem? (i := 64) rfl))) (mvT hZ (hw _ (List.mem_of_getElem? (i := 29) rfl))) (mvT hZ (hw _ (List.mem_of_getElem? (i := 65) rfl))) (by decide) (backOf (W := 0) (own_m10_2 l Z a0 hw [] w_SIOOBE_FORMATTER h0 n0 Z0 S_SIOOBE_FORMATTER hrS) hZ (hw _ (List.mem_of_getElem? (i := 65) rfl)) (hw _ (List.mem_of_getElem? (i := 29) rfl)) (by decide) (by decide)) (g := (mkF m 3 #[.val (.ref a1), .val (.int (0 : Int32))] [(.int (2 : Int32)), (.int (0 : Int32))])) rfl (by rw [hml]; rfl) (argsL := [(.int (0 : Int32)), (.int (2 : Int32))]) (rest := []) (lenOf own_pd2 rfl) rfl (by show 2 * 0 + _ ≤ _; exact Nat.le_of_eq rfl) (hb hby own_d9_3) (fun _ _ => ⟨rfl, e0, (by decide : 0 + 0 ≤ _), (by decide : 0 + 0 ≤ _)⟩)
  dsimp only [Pt.U, Pt.locs, Pt.cells, Pt.slots] at X5 l5 y5 z5 st5 hQ5
  subst l5 y5 z5
  obtain ⟨rfl, N5q, e5⟩ := hQ5
  have N5 := Fr.app N0 N5q
  have k6 : own_To p.tables e below (s₁.setTop (entryFrame m #[(.ref a1), (.int (0 : Int32))] 2)) T5 (mkF m 6 #[.val (.ref a1), .val (.int (0 : Int32))] []) := fun t k => k4 t (st5 t k)
  have k7 : own_To p.tables e below (s₁.setTop (entryFrame m #[(.ref a1), (.int (0 : Int32))] 2)) T5 (mkF m 7 #[.val (.ref a1), .val (.int (0 : Int32))] [(.ref a1)]) := fun t k => k6 t (XS.aloadN X5.here hx rfl (hb hby own_d9_6) rfl rfl k)
  have k8 : own_To p.tables e below (s₁.setTop (entryFrame m #[(.ref a1), (.int (0 : Int32))] 2)) T5 (mkF m 8 #[.val (.ref a1), .val (.int (0 : Int32))] [(.int (0 : Int32)), (.ref a1)]) := fun t k => k7 t (XS.iloadN X5.here hx rfl (hb hby own_d9_7) rfl k)
  obtain ⟨cl9, Ar9, qa9, Sa9, Na9, Ha9, Ga9⟩ := id V_a1
  have at9 : cl9.slots[((0 : Int32)).toNatClampNeg]? = some (.int (61 : Int32)) := Ha9.at (own_inb Sa9 (show (0 : Int32) = Nat.toInt32 0 from by decide) (show 0 < ((2 : Int32)).toNatClampNeg from by decide)) (by rw [own_idx (show (0 : Int32) = Nat.toInt32 0 from by decide) (by omega)]; exact rfl)
  have k10 : own_To p.tables e below (s₁.setTop (entryFrame m #[(.ref a1), (.int (0 : Int32))] 2)) T5 (mkF m 9 #[.val (.ref a1), .val (.int (0 : Int32))] [(.int (61 : Int32))]) := fun t k => k8 t (X5.baloadBytes hx (j := (0 : Int32)) (v := (.int (61 : Int32))) (by rw [e5]; exact Ar9.1) (State.isArrayOf_alike hZ.alike Ar9.2.1) Ar9.2.2 (own_inb Sa9 (show (0 : Int32) = Nat.toInt32 0 from by decide) (show 0 < ((2 : Int32)).toNatClampNeg from by decide)) at9 (g := (mkF m 8 #[.val (.ref a1), .val (.int (0 : Int32))] [(.int (0 : Int32)), (.ref a1)])) rfl rfl (hb hby own_d9_8) _ k)
  have k11 : own_To p.tables e below (s₁.setTop (entryFrame m #[(.ref a1), (.int (0 : Int32))] 2)) T5 (mkF m 12 #[.val (.ref a1), .val (.int (0 : Int32))] [(.int (255 : Int32)), (.int (61 : Int32))]) := fun t k => k10 t (XS.sipush X5.here hx rfl (hb hby own_d9_9) k)
  have k12 : own_To p.tables e below (s₁.setTop (entryFrame m #[(.ref a1), (.int (0 : Int32))] 2)) T5 (mkF m 13 #[.val (.ref a1), .val (.int (0 : Int32))] [(.int (61 : Int32))]) := fun t k => k11 t (XS.iand X5.here hx rfl (hb hby own_d9_12) rfl (by rw [show ((61 : Int32) &&& (255 : Int32)) = (61 : Int32) from by decide]; exact k))
  have k13 : own_To p.tables e below (s₁.setTop (entryFrame m #[(.ref a1), (.int (0 : Int32))] 2)) T5 (mkF m 14 #[.val (.ref a1), .val (.int (0 : Int32))] [(.int (61 : Int32))]) := fun t k => k12 t (XS.i2c X5.here hx rfl (hb hby own_d9_13) rfl (by rw [show ((61 : Int32).toUInt32.toUInt16.toUInt32.toInt32) = (61 : Int32) from by decide]; exact k))
  obtain ⟨fs, hr, hrun, hended, hW, hsame⟩ := X5.leave (v := some (.int (61 : Int32))) (fun h => by rw [Bd.returns] at h; cases h)
  refine ⟨_, _, k13 _ ?_, hrun, hended, _, _, rfl, ?_, ⟨_, rfl⟩, hW, hsame.mono (by decide) (by decide)⟩
  · exact retN X5 hx (t := .char) Bd.returns (by simp) (hb hby own_d9_14) (by first | exact hr | (rw [show nar .char (61 : Int32) = (61 : Int32) from by decide]; exact hr))
  · refine ⟨?_, N5, e5⟩
    rw [show (own_f9_t1) = (61 : Int32) from by unfold own_f9_t1; rfl]
def own_f7_t1 : Int32 := (61 : Int32)
set_option maxRecDepth 65536 in
set_option maxHeartbeats 40000000 in
theorem own_m7_t1 (l : Launch) (Z : State) (a0 : Array Value) (hw : ∀ d ∈ tables_1, d.before a0 Z = true) (ws : List Jvm.Cond) (a1 : Addr) (w_COMPACT_STRINGS : Int32) (w_value_a1 : Addr) (kc_w_value_a1 : ClassId) (w_SIOOBE_FORMATTER : Value) (h0 : Heap) (n0 : Nat) (Z0 : n0 ≤ h0.size) (S_COMPACT_STRINGS : Sta Z h0 "java/lang/String" "COMPACT_STRINGS" "Z" (.int w_COMPACT_STRINGS)) (F_coder_a1 : Fld Z h0 a1 "java/lang/String" "coder" "B" (.int (0 : Int32))) (E_a1 : Exa Z h0 a1 "java/lang/String") (F_value_a1 : Fld Z h0 a1 "java/lang/String" "value" "[B" (.ref w_value_a1)) (V_w_value_a1 : Arv Z h0 w_value_a1 kc_w_value_a1 .byte (2 : Int32) [(.int (61 : Int32)), (.int (61 : Int32))] (.int (0 : Int32))) (S_SIOOBE_FORMATTER : Sta Z h0 "jdk/internal/util/Preconditions" "SIOOBE_FORMATTER" "Ljava/util/function/BiFunction;" w_SIOOBE_FORMATTER) (hz : ¬ (w_COMPACT_STRINGS = (0 : Int32))) (hrS : w_SIOOBE_FORMATTER.isRef = true) :
    MetFree l (⟨"java/lang/String", "charAt", "(I)C"⟩ : MethodName) (head1 (Jvm.Cond.code (⟨"java/lang/String", "charAt", "(I)C"⟩ : MethodName) jdk_42_method_56_code 2 (some .char) :: ws) ({ frames := 3, cells := 0, slots := 0, locals := 40 } : Room)) (fun a U => a = #[(.ref a1), (.int (0 : Int32))] ∧ Z.Warmed39 U.vm ∧ U.heap = h0) (fun _ _ _ _ _ => True) (fun _ U o U' => ∃ v L, o = .returned v ∧ own_Q (some (.int own_f7_t1)) h0 n0 v U'.heap L ∧ FrameEnd U o U' L ({ frames := 3, cells := 0, slots := 0, locals := 40 } : Room).cells ({ frames := 3, cells := 0, slots := 0, locals := 40 } : Room).slots) := by
  refine MetFree.of_bodySF (plainFor_of_name own_pn7) hisR ?_
  intro p e s m args below meth c s₁ Bd hml0 hP hK
  obtain ⟨rfl, hZ, hh⟩ := hP
  have hx := Bd.exec
  have hby := Bd.bytes
  have hml : c.maxLocals = 2 := hml0
  have hown : s.vm.findClass "java/lang/String" = some m.cls := findClass_of_methodNamed Bd.named
  have hnm := (name_of_methodNamed Bd.named Bd.method).1
  have X0 : Stand p l e ({ frames := 3, cells := 0, slots := 0, locals := 40 } : Room) s m #[(.ref a1), (.int (0 : Int32))] below meth c s₁ [] 0 0 := Stand.of_body Bd
  have e0 : s₁.heap = h0 := by rw [← hh, Bd.state]; rfl
  have N0 := Fr.nil n0
  have k0 : own_To p.tables e below (s₁.setTop (entryFrame m #[(.ref a1), (.int (0 : Int32))] 2)) s₁ (mkF m 0 #[.val (.ref a1), .val (.int (0 : Int32))] []) := fun t k => castTop (own_ef7_10 m a1) k
  have k1 : own_To p.tables e below (s₁.setTop (entryFrame m #[(.ref a1), (.int (0 : Int32))] 2)) s₁ (mkF m 1 #[.val (.ref a1), .val (.int (0 : Int32))] [(.ref a1)]) := fun t k => k0 t (XS.aloadN X0.here hx rfl (hb hby own_d7_0) rfl rfl k)
  obtain ⟨cq2, kq2, q2a, q2b, q2c⟩ := isOf hZ e0 E_a1
  obtain ⟨_, _, ⟨T2, L2, k2, n2⟩, -, X2, ⟨Lc2, hQ2, l2, y2, z2⟩, st2⟩ := X0.virtualBack hx (y := (⟨"java/lang/String", "isLatin1", "()Z"⟩ : MethodName)) (z := (⟨"java/lang/String", "isLatin1", "()Z"⟩ : MethodName)) hown (mvT hZ (hw _ (List.mem_of_getElem? (i := 54) rfl))) (mvT hZ (hw _ (List.mem_of_getElem? (i := 55) rfl))) (notFace_of_selects (args := #[]) (mvT hZ (hw _ (List.mem_of_getElem? (i := 57) rfl)))) (mvT hZ (hw _ (List.mem_of_getElem? (i := 57) rfl))) (mvT hZ (hw _ (List.mem_of_getElem? (i := 56) rfl))) (by decide) (backOf (W := 0) (own_m8 l Z a0 hw [] a1 w_COMPACT_STRINGS h0 n0 Z0 S_COMPACT_STRINGS F_coder_a1 hz) hZ (hw _ (List.mem_of_getElem? (i := 58) rfl)) (hw _ (List.mem_of_getElem? (i := 29) rfl)) (by decide) (by decide)) q2a q2c (g := (mkF m 1 #[.val (.ref a1), .val (.int (0 : Int32))] [(.ref a1)])) rfl (by rw [hml]; rfl) (Steps.refl _) (argsL := []) (rest := []) (lenOf own_pd3 rfl) rfl (by show 2 * 0 + _ ≤ _; exact Nat.le_of_eq rfl) (hb hby own_d7_1) (fun _ _ => ⟨rfl, e0, (by decide : 0 + 0 ≤ _), (by decide : 0 + 0 ≤ _)⟩)
  dsimp only [Pt.U, Pt.locs, Pt.cells, Pt.slots] at X2 l2 y2 z2 st2 hQ2
  subst l2 y2 z2
  rw [show own_f8 = (1 : Int32) from rfl] at hQ2
  obtain ⟨rfl, N2q, e2⟩ := hQ2
  have N2 := Fr.app N0 N2q
  have k3 : own_To p.tables e below (s₁.setTop (entryFrame m #[(.ref a1), (.int (0 : Int32))] 2)) T2 (mkF m 4 #[.val (.ref a1), .val (.int (0 : Int32))] [(.int (1 : Int32))]) := fun t k => k1 t (st2.trans k)
  have k4 : own_To p.tables e below (s₁.setTop (entryFrame m #[(.ref a1), (.int (0 : Int32))] 2)) T2 (mkF m 7 #[.val (.ref a1), .val (.int (0 : Int32))] []) := fun t k => k3 t (XS.ifNo X2.here hx rfl (hb hby own_d7_4) rfl ((if0 _ _).trans (feq (show ¬ ((1 : Int32) = (0 : Int32)) from (by decide))).1) k)
  have k5 : own_To p.tables e below (s₁.setTop (entryFrame m #[(.ref a1), (.int (0 : Int32))] 2)) T2 (mkF m 8 #[.val (.ref a1), .val (.int (0 : Int32))] [(.ref a1)]) := fun t k => k4 t (XS.aloadN X2.here hx rfl (hb hby own_d7_7) rfl rfl k)
  obtain ⟨T6, X6, e6, st6⟩ := getF X2 hx hZ hown (host := "") (Or.inl (hw _ (List.mem_of_getElem? (i := 41) rfl))) Via.refl e2 F_value_a1 (g := (mkF m 8 #[.val (.ref a1), .val (.int (0 : Int32))] [(.ref a1)])) rfl rfl (hb hby own_d7_8)
  have k7 : own_To p.tables e below (s₁.setTop (entryFrame m #[(.ref a1), (.int (0 : Int32))] 2)) T6 (mkF m 11 #[.val (.ref a1), .val (.int (0 : Int32))] [(.ref w_value_a1)]) := fun t k => k5 t (st6 t k)
  have k8 : own_To p.tables e below (s₁.setTop (entryFrame m #[(.ref a1), (.int (0 : Int32))] 2)) T6 (mkF m 12 #[.val (.ref a1), .val (.int (0 : Int32))] [(.int (0 : Int32)), (.ref w_value_a1)]) := fun t k => k7 t (XS.iloadN X6.here hx rfl (hb hby own_d7_11) rfl k)
  obtain ⟨_, _, ⟨T9, L9, k9, n9⟩, -, X9, ⟨Lc9, hQ9, l9, y9, z9⟩, st9⟩ := Jvm.LawKit.callS X6 hx (y := (⟨"java/lang/StringLatin1", "charAt", "([BI)C"⟩ : MethodName)) hown (mvT hZ (hw _ (List.mem_of_getElem? (i := 59) rfl))) (mvT hZ (hw _ (List.mem_of_getElem? (i := 60) rfl))) (mvT hZ (hw _ (List.mem_of_getElem? (i := 61) rfl))) (mvT hZ (hw _ (List.mem_of_getElem? (i := 62) rfl))) (by decide) (backOf (W := 0) (own_m9_t1 l Z a0 hw [] w_value_a1 kc_w_value_a1 w_SIOOBE_FORMATTER h0 n0 Z0 V_w_value_a1 S_SIOOBE_FORMATTER hrS) hZ (hw _ (List.mem_of_getElem? (i := 62) rfl)) (hw _ (List.mem_of_getElem? (i := 61) rfl)) (by decide) (by decide)) (g := (mkF m 12 #[.val (.ref a1), .val (.int (0 : Int32))] [(.int (0 : Int32)), (.ref w_value_a1)])) rfl (by rw [hml]; rfl) (argsL := [(.ref w_value_a1), (.int (0 : Int32))]) (rest := []) (lenOf own_pd4 rfl) rfl (by show 2 * 0 + _ ≤ _; exact Nat.le_of_eq rfl) (hb hby own_d7_12) (fun _ _ => ⟨rfl, e6, (by decide : 0 + 0 ≤ _), (by decide : 0 + 0 ≤ _)⟩)
  dsimp only [Pt.U, Pt.locs, Pt.cells, Pt.slots] at X9 l9 y9 z9 st9 hQ9
  subst l9 y9 z9
  rw [show own_f9_t1 = (61 : Int32) from rfl] at hQ9
  obtain ⟨rfl, N9q, e9⟩ := hQ9
  have N9 := Fr.app N2 N9q
  have k10 : own_To p.tables e below (s₁.setTop (entryFrame m #[(.ref a1), (.int (0 : Int32))] 2)) T9 (mkF m 15 #[.val (.ref a1), .val (.int (0 : Int32))] [(.int (61 : Int32))]) := fun t k => k8 t (st9 t k)
  obtain ⟨fs, hr, hrun, hended, hW, hsame⟩ := X9.leave (v := some (.int (61 : Int32))) (fun h => by rw [Bd.returns] at h; cases h)
  refine ⟨_, _, k10 _ ?_, hrun, hended, _, _, rfl, ?_, ⟨_, rfl⟩, hW, hsame.mono (by decide) (by decide)⟩
  · exact retN X9 hx (t := .char) Bd.returns (by simp) (hb hby own_d7_15) (by first | exact hr | (rw [show nar .char (61 : Int32) = (61 : Int32) from by decide]; exact hr))
  · refine ⟨?_, N9, e9⟩
    rw [show (own_f7_t1) = (61 : Int32) from by unfold own_f7_t1; rfl]
def own_f5_t2 : Int32 := (2 : Int32)
set_option maxRecDepth 65536 in
set_option maxHeartbeats 40000000 in
theorem own_m5_t2 (l : Launch) (Z : State) (a0 : Array Value) (hw : ∀ d ∈ tables_1, d.before a0 Z = true) (ws : List Jvm.Cond) (a1 : Addr) (w_value_a1 : Addr) (kc_w_value_a1 : ClassId) (w_COMPACT_STRINGS : Int32) (h0 : Heap) (n0 : Nat) (Z0 : n0 ≤ h0.size) (F_value_a1 : Fld Z h0 a1 "java/lang/String" "value" "[B" (.ref w_value_a1)) (V_w_value_a1 : Arv Z h0 w_value_a1 kc_w_value_a1 .byte (2 : Int32) [(.int (60 : Int32)), (.int (62 : Int32))] (.int (0 : Int32))) (S_COMPACT_STRINGS : Sta Z h0 "java/lang/String" "COMPACT_STRINGS" "Z" (.int w_COMPACT_STRINGS)) (F_coder_a1 : Fld Z h0 a1 "java/lang/String" "coder" "B" (.int (0 : Int32))) (E_a1 : Exa Z h0 a1 "java/lang/String") (hz : ¬ (w_COMPACT_STRINGS = (0 : Int32))) :
    MetFree l (⟨"java/lang/String", "length", "()I"⟩ : MethodName) (head1 (Jvm.Cond.code (⟨"java/lang/String", "length", "()I"⟩ : MethodName) jdk_42_method_54_code 1 (some .int) :: ws) ({ frames := 1, cells := 0, slots := 0, locals := 13 } : Room)) (fun a U => a = #[(.ref a1)] ∧ Z.Warmed39 U.vm ∧ U.heap = h0) (fun _ _ _ _ _ => True) (fun _ U o U' => ∃ v L, o = .returned v ∧ own_Q (some (.int own_f5_t2)) h0 n0 v U'.heap L ∧ FrameEnd U o U' L ({ frames := 1, cells := 0, slots := 0, locals := 13 } : Room).cells ({ frames := 1, cells := 0, slots := 0, locals := 13 } : Room).slots) := by
  refine MetFree.of_bodySF (plainFor_of_name own_pn5) hisR ?_
  intro p e s m args below meth c s₁ Bd hml0 hP hK
  obtain ⟨rfl, hZ, hh⟩ := hP
  have hx := Bd.exec
  have hby := Bd.bytes
  have hml : c.maxLocals = 1 := hml0
  have hown : s.vm.findClass "java/lang/String" = some m.cls := findClass_of_methodNamed Bd.named
  have hnm := (name_of_methodNamed Bd.named Bd.method).1
  have X0 : Stand p l e ({ frames := 1, cells := 0, slots := 0, locals := 13 } : Room) s m #[(.ref a1)] below meth c s₁ [] 0 0 := Stand.of_body Bd
  have e0 : s₁.heap = h0 := by rw [← hh, Bd.state]; rfl
  have N0 := Fr.nil n0
  have k0 : own_To p.tables e below (s₁.setTop (entryFrame m #[(.ref a1)] 1)) s₁ (mkF m 0 #[.val (.ref a1)] []) := fun t k => castTop (own_ef5 m a1) k
  have k1 : own_To p.tables e below (s₁.setTop (entryFrame m #[(.ref a1)] 1)) s₁ (mkF m 1 #[.val (.ref a1)] [(.ref a1)]) := fun t k => k0 t (XS.aloadN X0.here hx rfl (hb hby own_d5_0) rfl rfl k)
  obtain ⟨T2, X2, e2, st2⟩ := getF X0 hx hZ hown (host := "") (Or.inl (hw _ (List.mem_of_getElem? (i := 41) rfl))) Via.refl e0 F_value_a1 (g := (mkF m 1 #[.val (.ref a1)] [(.ref a1)])) rfl rfl (hb hby own_d5_1)
  have k3 : own_To p.tables e below (s₁.setTop (entryFrame m #[(.ref a1)] 1)) T2 (mkF m 4 #[.val (.ref a1)] [(.ref w_value_a1)]) := fun t k => k1 t (st2 t k)
  obtain ⟨cl4, Ar4, qa4, Sa4, Na4, Ha4, Ga4⟩ := id V_w_value_a1
  have k5 : own_To p.tables e below (s₁.setTop (entryFrame m #[(.ref a1)] 1)) T2 (mkF m 5 #[.val (.ref a1)] [(.int (2 : Int32))]) := fun t k => k3 t (X2.arraylength hx (by rw [e2]; exact Ar4.1) (State.isArrayOf_alike hZ.alike Ar4.2.1) (g := (mkF m 4 #[.val (.ref a1)] [(.ref w_value_a1)])) rfl rfl (hb hby own_d5_4) _ (by rw [len_of Sa4 Na4]; exact k))
  have k6 : own_To p.tables e below (s₁.setTop (entryFrame m #[(.ref a1)] 1)) T2 (mkF m 6 #[.val (.ref a1)] [(.ref a1), (.int (2 : Int32))]) := fun t k => k5 t (XS.aloadN X2.here hx rfl (hb hby own_d5_5) rfl rfl k)
  obtain ⟨cq7, kq7, q7a, q7b, q7c⟩ := isOf hZ e2 E_a1
  obtain ⟨_, _, ⟨T7, L7, k7, n7⟩, -, X7, ⟨Lc7, hQ7, l7, y7, z7⟩, st7⟩ := X2.virtualBack hx (y := (⟨"java/lang/String", "coder", "()B"⟩ : MethodName)) (z := (⟨"java/lang/String", "coder", "()B"⟩ : MethodName)) hown (mvT hZ (hw _ (List.mem_of_getElem? (i := 42) rfl))) (mvT hZ (hw _ (List.mem_of_getElem? (i := 43) rfl))) (notFace_of_selects (args := #[]) (mvT hZ (hw _ (List.mem_of_getElem? (i := 45) rfl)))) (mvT hZ (hw _ (List.mem_of_getElem? (i := 45) rfl))) (mvT hZ (hw _ (List.mem_of_getElem? (i := 44) rfl))) (by decide) (backOf (W := 1) (own_m6 l Z a0 hw [] a1 w_COMPACT_STRINGS h0 n0 Z0 S_COMPACT_STRINGS F_coder_a1 hz) hZ (hw _ (List.mem_of_getElem? (i := 46) rfl)) (hw _ (List.mem_of_getElem? (i := 29) rfl)) (by decide) (by decide)) q7a q7c (g := (mkF m 6 #[.val (.ref a1)] [(.ref a1), (.int (2 : Int32))])) rfl (by rw [hml]; rfl) (Steps.refl _) (argsL := []) (rest := [(.int (2 : Int32))]) (lenOf own_pd1 rfl) rfl (by show 2 * 0 + _ ≤ _; exact Nat.le_of_eq rfl) (hb hby own_d5_6) (fun _ _ => ⟨rfl, e2, (by decide : 0 + 0 ≤ _), (by decide : 0 + 0 ≤ _)⟩)
  dsimp only [Pt.U, Pt.locs, Pt.cells, Pt.slots] at X7 l7 y7 z7 st7 hQ7
  subst l7 y7 z7
  rw [show own_f6 = (0 : Int32) from rfl] at hQ7
  obtain ⟨rfl, N7q, e7⟩ := hQ7
  have N7 := Fr.app N0 N7q
  have k8 : own_To p.tables e below (s₁.setTop (entryFrame m #[(.ref a1)] 1)) T7 (mkF m 9 #[.val (.ref a1)] [(.int (0 : Int32)), (.int (2 : Int32))]) := fun t k => k6 t (st7.trans k)
  have k9 : own_To p.tables e below (s₁.setTop (entryFrame m #[(.ref a1)] 1)) T7 (mkF m 10 #[.val (.ref a1)] [(.int (2 : Int32))]) := fun t k => k8 t (XS.ishr X7.here hx rfl (hb hby own_d5_9) rfl (by rw [show ((2 : Int32) >>> ((0 : Int32) &&& 31)) = (2 : Int32) from by decide]; exact k))
  obtain ⟨fs, hr, hrun, hended, hW, hsame⟩ := X7.leave (v := some (.int (2 : Int32))) (fun h => by rw [Bd.returns] at h; cases h)
  refine ⟨_, _, k9 _ ?_, hrun, hended, _, _, rfl, ?_, ⟨_, rfl⟩, hW, hsame.mono (by decide) (by decide)⟩
  · exact retI X7 hx Bd.returns (hb hby own_d5_10) hr
  · refine ⟨?_, N7, e7⟩
    rw [show (own_f5_t2) = (2 : Int32) from by unfold own_f5_t2; rfl]
def own_f9_t2 : Int32 := (60 : Int32)
set_option maxRecDepth 65536 in
set_option maxHeartbeats 40000000 in
theorem own_m9_t2 (l : Launch) (Z : State) (a0 : Array Value) (hw : ∀ d ∈ tables_1, d.before a0 Z = true) (ws : List Jvm.Cond) (a1 : Addr) (kc_a1 : ClassId) (w_SIOOBE_FORMATTER : Value) (h0 : Heap) (n0 : Nat) (Z0 : n0 ≤ h0.size) (V_a1 : Arv Z h0 a1 kc_a1 .byte (2 : Int32) [(.int (60 : Int32)), (.int (62 : Int32))] (.int (0 : Int32))) (S_SIOOBE_FORMATTER : Sta Z h0 "jdk/internal/util/Preconditions" "SIOOBE_FORMATTER" "Ljava/util/function/BiFunction;" w_SIOOBE_FORMATTER) (hrS : w_SIOOBE_FORMATTER.isRef = true) :
    MetFree l (⟨"java/lang/StringLatin1", "charAt", "([BI)C"⟩ : MethodName) (head1 (Jvm.Cond.code (⟨"java/lang/StringLatin1", "charAt", "([BI)C"⟩ : MethodName) jdk_43_method_2_code 2 (some .char) :: ws) ({ frames := 2, cells := 0, slots := 0, locals := 27 } : Room)) (fun a U => a = #[(.ref a1), (.int (0 : Int32))] ∧ Z.Warmed39 U.vm ∧ U.heap = h0) (fun _ _ _ _ _ => True) (fun _ U o U' => ∃ v L, o = .returned v ∧ own_Q (some (.int own_f9_t2)) h0 n0 v U'.heap L ∧ FrameEnd U o U' L ({ frames := 2, cells := 0, slots := 0, locals := 27 } : Room).cells ({ frames := 2, cells := 0, slots := 0, locals := 27 } : Room).slots) := by
  refine MetFree.of_bodySF (plainFor_of_name own_pn9) hisR ?_
  intro p e s m args below meth c s₁ Bd hml0 hP hK
  obtain ⟨rfl, hZ, hh⟩ := hP
  have hx := Bd.exec
  have hby := Bd.bytes
  have hml : c.maxLocals = 2 := hml0
  have hown : s.vm.findClass "java/lang/StringLatin1" = some m.cls := findClass_of_methodNamed Bd.named
  have hnm := (name_of_methodNamed Bd.named Bd.method).1
  have X0 : Stand p l e ({ frames := 2, cells := 0, slots := 0, locals := 27 } : Room) s m #[(.ref a1), (.int (0 : Int32))] below meth c s₁ [] 0 0 := Stand.of_body Bd
  have e0 : s₁.heap = h0 := by rw [← hh, Bd.state]; rfl
  have N0 := Fr.nil n0
  have k0 : own_To p.tables e below (s₁.setTop (entryFrame m #[(.ref a1), (.int (0 : Int32))] 2)) s₁ (mkF m 0 #[.val (.ref a1), .val (.int (0 : Int32))] []) := fun t k => castTop (own_ef9_10 m a1) k
  have k1 : own_To p.tables e below (s₁.setTop (entryFrame m #[(.ref a1), (.int (0 : Int32))] 2)) s₁ (mkF m 1 #[.val (.ref a1), .val (.int (0 : Int32))] [(.int (0 : Int32))]) := fun t k => k0 t (XS.iloadN X0.here hx rfl (hb hby own_d9_0) rfl k)
  have k2 : own_To p.tables e below (s₁.setTop (entryFrame m #[(.ref a1), (.int (0 : Int32))] 2)) s₁ (mkF m 2 #[.val (.ref a1), .val (.int (0 : Int32))] [(.ref a1), (.int (0 : Int32))]) := fun t k => k1 t (XS.aloadN X0.here hx rfl (hb hby own_d9_1) rfl rfl k)
  obtain ⟨cl3, Ar3, qa3, Sa3, Na3, Ha3, Ga3⟩ := id V_a1
  have k4 : own_To p.tables e below (s₁.setTop (entryFrame m #[(.ref a1), (.int (0 : Int32))] 2)) s₁ (mkF m 3 #[.val (.ref a1), .val (.int (0 : Int32))] [(.int (2 : Int32)), (.int (0 : Int32))]) := fun t k => k2 t (X0.arraylength hx (by rw [e0]; exact Ar3.1) (State.isArrayOf_alike hZ.alike Ar3.2.1) (g := (mkF m 2 #[.val (.ref a1), .val (.int (0 : Int32))] [(.ref a1), (.int (0 : Int32))])) rfl rfl (hb hby own_d9_2) _ (by rw [len_of Sa3 Na3]; exact k))
  obtain ⟨_, _, ⟨T5, L5, k5, n5⟩, -, X5, ⟨Lc5, hQ5, l5, y5, z5⟩, st5⟩ := Jvm.LawKit.callS X0 hx (y := (⟨"java/lang/String", "checkIndex", "(II)V"⟩ : MethodName)) hown (mvT hZ (hw _ (List.mem_of_getElem? (i := 63) rfl))) (mvT hZ (hw _ (List.mem_of_getElem? (i := 64) rfl))) (mvT hZ (hw _ (List.mem_of_getElem? (i := 29) rfl))) (mvT hZ (hw _ (List.mem_of_getElem? (i := 65) rfl))) (by decide) (backOf (W := 0) (own_m10_2 l Z a0 hw [] w_SIOOBE_FORMATTER h0 n0 Z0 S_SIOOBE_FORMATTER hrS) hZ (hw _ (List.mem_of_getElem? (i := 65) rfl)) (hw _ (List.mem_of_getElem? (i := 29) rfl)) (by decide) (by decide)) (g := (mkF m 3 #[.val (.ref a1), .val (.int (0 : Int32))] [(.int (2 : Int32)), (.int (0 : Int32))])) rfl (by rw [hml]; rfl) (argsL := [(.int (0 : Int32)), (.int (2 : Int32))]) (rest := []) (lenOf own_pd2 rfl) rfl (by show 2 * 0 + _ ≤ _; exact Nat.le_of_eq rfl) (hb hby own_d9_3) (fun _ _ => ⟨rfl, e0, (by decide : 0 + 0 ≤ _), (by decide : 0 + 0 ≤ _)⟩)
  dsimp only [Pt.U, Pt.locs, Pt.cells, Pt.slots] at X5 l5 y5 z5 st5 hQ5
  subst l5 y5 z5
  obtain ⟨rfl, N5q, e5⟩ := hQ5
  have N5 := Fr.app N0 N5q
  have k6 : own_To p.tables e below (s₁.setTop (entryFrame m #[(.ref a1), (.int (0 : Int32))] 2)) T5 (mkF m 6 #[.val (.ref a1), .val (.int (0 : Int32))] []) := fun t k => k4 t (st5 t k)
  have k7 : own_To p.tables e below (s₁.setTop (entryFrame m #[(.ref a1), (.int (0 : Int32))] 2)) T5 (mkF m 7 #[.val (.ref a1), .val (.int (0 : Int32))] [(.ref a1)]) := fun t k => k6 t (XS.aloadN X5.here hx rfl (hb hby own_d9_6) rfl rfl k)
  have k8 : own_To p.tables e below (s₁.setTop (entryFrame m #[(.ref a1), (.int (0 : Int32))] 2)) T5 (mkF m 8 #[.val (.ref a1), .val (.int (0 : Int32))] [(.int (0 : Int32)), (.ref a1)]) := fun t k => k7 t (XS.iloadN X5.here hx rfl (hb hby own_d9_7) rfl k)
  obtain ⟨cl9, Ar9, qa9, Sa9, Na9, Ha9, Ga9⟩ := id V_a1
  have at9 : cl9.slots[((0 : Int32)).toNatClampNeg]? = some (.int (60 : Int32)) := Ha9.at (own_inb Sa9 (show (0 : Int32) = Nat.toInt32 0 from by decide) (show 0 < ((2 : Int32)).toNatClampNeg from by decide)) (by rw [own_idx (show (0 : Int32) = Nat.toInt32 0 from by decide) (by omega)]; exact rfl)
  have k10 : own_To p.tables e below (s₁.setTop (entryFrame m #[(.ref a1), (.int (0 : Int32))] 2)) T5 (mkF m 9 #[.val (.ref a1), .val (.int (0 : Int32))] [(.int (60 : Int32))]) := fun t k => k8 t (X5.baloadBytes hx (j := (0 : Int32)) (v := (.int (60 : Int32))) (by rw [e5]; exact Ar9.1) (State.isArrayOf_alike hZ.alike Ar9.2.1) Ar9.2.2 (own_inb Sa9 (show (0 : Int32) = Nat.toInt32 0 from by decide) (show 0 < ((2 : Int32)).toNatClampNeg from by decide)) at9 (g := (mkF m 8 #[.val (.ref a1), .val (.int (0 : Int32))] [(.int (0 : Int32)), (.ref a1)])) rfl rfl (hb hby own_d9_8) _ k)
  have k11 : own_To p.tables e below (s₁.setTop (entryFrame m #[(.ref a1), (.int (0 : Int32))] 2)) T5 (mkF m 12 #[.val (.ref a1), .val (.int (0 : Int32))] [(.int (255 : Int32)), (.int (60 : Int32))]) := fun t k => k10 t (XS.sipush X5.here hx rfl (hb hby own_d9_9) k)
  have k12 : own_To p.tables e below (s₁.setTop (entryFrame m #[(.ref a1), (.int (0 : Int32))] 2)) T5 (mkF m 13 #[.val (.ref a1), .val (.int (0 : Int32))] [(.int (60 : Int32))]) := fun t k => k11 t (XS.iand X5.here hx rfl (hb hby own_d9_12) rfl (by rw [show ((60 : Int32) &&& (255 : Int32)) = (60 : Int32) from by decide]; exact k))
  have k13 : own_To p.tables e below (s₁.setTop (entryFrame m #[(.ref a1), (.int (0 : Int32))] 2)) T5 (mkF m 14 #[.val (.ref a1), .val (.int (0 : Int32))] [(.int (60 : Int32))]) := fun t k => k12 t (XS.i2c X5.here hx rfl (hb hby own_d9_13) rfl (by rw [show ((60 : Int32).toUInt32.toUInt16.toUInt32.toInt32) = (60 : Int32) from by decide]; exact k))
  obtain ⟨fs, hr, hrun, hended, hW, hsame⟩ := X5.leave (v := some (.int (60 : Int32))) (fun h => by rw [Bd.returns] at h; cases h)
  refine ⟨_, _, k13 _ ?_, hrun, hended, _, _, rfl, ?_, ⟨_, rfl⟩, hW, hsame.mono (by decide) (by decide)⟩
  · exact retN X5 hx (t := .char) Bd.returns (by simp) (hb hby own_d9_14) (by first | exact hr | (rw [show nar .char (60 : Int32) = (60 : Int32) from by decide]; exact hr))
  · refine ⟨?_, N5, e5⟩
    rw [show (own_f9_t2) = (60 : Int32) from by unfold own_f9_t2; rfl]
def own_f7_t2 : Int32 := (60 : Int32)
set_option maxRecDepth 65536 in
set_option maxHeartbeats 40000000 in
theorem own_m7_t2 (l : Launch) (Z : State) (a0 : Array Value) (hw : ∀ d ∈ tables_1, d.before a0 Z = true) (ws : List Jvm.Cond) (a1 : Addr) (w_COMPACT_STRINGS : Int32) (w_value_a1 : Addr) (kc_w_value_a1 : ClassId) (w_SIOOBE_FORMATTER : Value) (h0 : Heap) (n0 : Nat) (Z0 : n0 ≤ h0.size) (S_COMPACT_STRINGS : Sta Z h0 "java/lang/String" "COMPACT_STRINGS" "Z" (.int w_COMPACT_STRINGS)) (F_coder_a1 : Fld Z h0 a1 "java/lang/String" "coder" "B" (.int (0 : Int32))) (E_a1 : Exa Z h0 a1 "java/lang/String") (F_value_a1 : Fld Z h0 a1 "java/lang/String" "value" "[B" (.ref w_value_a1)) (V_w_value_a1 : Arv Z h0 w_value_a1 kc_w_value_a1 .byte (2 : Int32) [(.int (60 : Int32)), (.int (62 : Int32))] (.int (0 : Int32))) (S_SIOOBE_FORMATTER : Sta Z h0 "jdk/internal/util/Preconditions" "SIOOBE_FORMATTER" "Ljava/util/function/BiFunction;" w_SIOOBE_FORMATTER) (hz : ¬ (w_COMPACT_STRINGS = (0 : Int32))) (hrS : w_SIOOBE_FORMATTER.isRef = true) :
    MetFree l (⟨"java/lang/String", "charAt", "(I)C"⟩ : MethodName) (head1 (Jvm.Cond.code (⟨"java/lang/String", "charAt", "(I)C"⟩ : MethodName) jdk_42_method_56_code 2 (some .char) :: ws) ({ frames := 3, cells := 0, slots := 0, locals := 40 } : Room)) (fun a U => a = #[(.ref a1), (.int (0 : Int32))] ∧ Z.Warmed39 U.vm ∧ U.heap = h0) (fun _ _ _ _ _ => True) (fun _ U o U' => ∃ v L, o = .returned v ∧ own_Q (some (.int own_f7_t2)) h0 n0 v U'.heap L ∧ FrameEnd U o U' L ({ frames := 3, cells := 0, slots := 0, locals := 40 } : Room).cells ({ frames := 3, cells := 0, slots := 0, locals := 40 } : Room).slots) := by
  refine MetFree.of_bodySF (plainFor_of_name own_pn7) hisR ?_
  intro p e s m args below meth c s₁ Bd hml0 hP hK
  obtain ⟨rfl, hZ, hh⟩ := hP
  have hx := Bd.exec
  have hby := Bd.bytes
  have hml : c.maxLocals = 2 := hml0
  have hown : s.vm.findClass "java/lang/String" = some m.cls := findClass_of_methodNamed Bd.named
  have hnm := (name_of_methodNamed Bd.named Bd.method).1
  have X0 : Stand p l e ({ frames := 3, cells := 0, slots := 0, locals := 40 } : Room) s m #[(.ref a1), (.int (0 : Int32))] below meth c s₁ [] 0 0 := Stand.of_body Bd
  have e0 : s₁.heap = h0 := by rw [← hh, Bd.state]; rfl
  have N0 := Fr.nil n0
  have k0 : own_To p.tables e below (s₁.setTop (entryFrame m #[(.ref a1), (.int (0 : Int32))] 2)) s₁ (mkF m 0 #[.val (.ref a1), .val (.int (0 : Int32))] []) := fun t k => castTop (own_ef7_10 m a1) k
  have k1 : own_To p.tables e below (s₁.setTop (entryFrame m #[(.ref a1), (.int (0 : Int32))] 2)) s₁ (mkF m 1 #[.val (.ref a1), .val (.int (0 : Int32))] [(.ref a1)]) := fun t k => k0 t (XS.aloadN X0.here hx rfl (hb hby own_d7_0) rfl rfl k)
  obtain ⟨cq2, kq2, q2a, q2b, q2c⟩ := isOf hZ e0 E_a1
  obtain ⟨_, _, ⟨T2, L2, k2, n2⟩, -, X2, ⟨Lc2, hQ2, l2, y2, z2⟩, st2⟩ := X0.virtualBack hx (y := (⟨"java/lang/String", "isLatin1", "()Z"⟩ : MethodName)) (z := (⟨"java/lang/String", "isLatin1", "()Z"⟩ : MethodName)) hown (mvT hZ (hw _ (List.mem_of_getElem? (i := 54) rfl))) (mvT hZ (hw _ (List.mem_of_getElem? (i := 55) rfl))) (notFace_of_selects (args := #[]) (mvT hZ (hw _ (List.mem_of_getElem? (i := 57) rfl)))) (mvT hZ (hw _ (List.mem_of_getElem? (i := 57) rfl))) (mvT hZ (hw _ (List.mem_of_getElem? (i := 56) rfl))) (by decide) (backOf (W := 0) (own_m8 l Z a0 hw [] a1 w_COMPACT_STRINGS h0 n0 Z0 S_COMPACT_STRINGS F_coder_a1 hz) hZ (hw _ (List.mem_of_getElem? (i := 58) rfl)) (hw _ (List.mem_of_getElem? (i := 29) rfl)) (by decide) (by decide)) q2a q2c (g := (mkF m 1 #[.val (.ref a1), .val (.int (0 : Int32))] [(.ref a1)])) rfl (by rw [hml]; rfl) (Steps.refl _) (argsL := []) (rest := []) (lenOf own_pd3 rfl) rfl (by show 2 * 0 + _ ≤ _; exact Nat.le_of_eq rfl) (hb hby own_d7_1) (fun _ _ => ⟨rfl, e0, (by decide : 0 + 0 ≤ _), (by decide : 0 + 0 ≤ _)⟩)
  dsimp only [Pt.U, Pt.locs, Pt.cells, Pt.slots] at X2 l2 y2 z2 st2 hQ2
  subst l2 y2 z2
  rw [show own_f8 = (1 : Int32) from rfl] at hQ2
  obtain ⟨rfl, N2q, e2⟩ := hQ2
  have N2 := Fr.app N0 N2q
  have k3 : own_To p.tables e below (s₁.setTop (entryFrame m #[(.ref a1), (.int (0 : Int32))] 2)) T2 (mkF m 4 #[.val (.ref a1), .val (.int (0 : Int32))] [(.int (1 : Int32))]) := fun t k => k1 t (st2.trans k)
  have k4 : own_To p.tables e below (s₁.setTop (entryFrame m #[(.ref a1), (.int (0 : Int32))] 2)) T2 (mkF m 7 #[.val (.ref a1), .val (.int (0 : Int32))] []) := fun t k => k3 t (XS.ifNo X2.here hx rfl (hb hby own_d7_4) rfl ((if0 _ _).trans (feq (show ¬ ((1 : Int32) = (0 : Int32)) from (by decide))).1) k)
  have k5 : own_To p.tables e below (s₁.setTop (entryFrame m #[(.ref a1), (.int (0 : Int32))] 2)) T2 (mkF m 8 #[.val (.ref a1), .val (.int (0 : Int32))] [(.ref a1)]) := fun t k => k4 t (XS.aloadN X2.here hx rfl (hb hby own_d7_7) rfl rfl k)
  obtain ⟨T6, X6, e6, st6⟩ := getF X2 hx hZ hown (host := "") (Or.inl (hw _ (List.mem_of_getElem? (i := 41) rfl))) Via.refl e2 F_value_a1 (g := (mkF m 8 #[.val (.ref a1), .val (.int (0 : Int32))] [(.ref a1)])) rfl rfl (hb hby own_d7_8)
  have k7 : own_To p.tables e below (s₁.setTop (entryFrame m #[(.ref a1), (.int (0 : Int32))] 2)) T6 (mkF m 11 #[.val (.ref a1), .val (.int (0 : Int32))] [(.ref w_value_a1)]) := fun t k => k5 t (st6 t k)
  have k8 : own_To p.tables e below (s₁.setTop (entryFrame m #[(.ref a1), (.int (0 : Int32))] 2)) T6 (mkF m 12 #[.val (.ref a1), .val (.int (0 : Int32))] [(.int (0 : Int32)), (.ref w_value_a1)]) := fun t k => k7 t (XS.iloadN X6.here hx rfl (hb hby own_d7_11) rfl k)
  obtain ⟨_, _, ⟨T9, L9, k9, n9⟩, -, X9, ⟨Lc9, hQ9, l9, y9, z9⟩, st9⟩ := Jvm.LawKit.callS X6 hx (y := (⟨"java/lang/StringLatin1", "charAt", "([BI)C"⟩ : MethodName)) hown (mvT hZ (hw _ (List.mem_of_getElem? (i := 59) rfl))) (mvT hZ (hw _ (List.mem_of_getElem? (i := 60) rfl))) (mvT hZ (hw _ (List.mem_of_getElem? (i := 61) rfl))) (mvT hZ (hw _ (List.mem_of_getElem? (i := 62) rfl))) (by decide) (backOf (W := 0) (own_m9_t2 l Z a0 hw [] w_value_a1 kc_w_value_a1 w_SIOOBE_FORMATTER h0 n0 Z0 V_w_value_a1 S_SIOOBE_FORMATTER hrS) hZ (hw _ (List.mem_of_getElem? (i := 62) rfl)) (hw _ (List.mem_of_getElem? (i := 61) rfl)) (by decide) (by decide)) (g := (mkF m 12 #[.val (.ref a1), .val (.int (0 : Int32))] [(.int (0 : Int32)), (.ref w_value_a1)])) rfl (by rw [hml]; rfl) (argsL := [(.ref w_value_a1), (.int (0 : Int32))]) (rest := []) (lenOf own_pd4 rfl) rfl (by show 2 * 0 + _ ≤ _; exact Nat.le_of_eq rfl) (hb hby own_d7_12) (fun _ _ => ⟨rfl, e6, (by decide : 0 + 0 ≤ _), (by decide : 0 + 0 ≤ _)⟩)
  dsimp only [Pt.U, Pt.locs, Pt.cells, Pt.slots] at X9 l9 y9 z9 st9 hQ9
  subst l9 y9 z9
  rw [show own_f9_t2 = (60 : Int32) from rfl] at hQ9
  obtain ⟨rfl, N9q, e9⟩ := hQ9
  have N9 := Fr.app N2 N9q
  have k10 : own_To p.tables e below (s₁.setTop (entryFrame m #[(.ref a1), (.int (0 : Int32))] 2)) T9 (mkF m 15 #[.val (.ref a1), .val (.int (0 : Int32))] [(.int (60 : Int32))]) := fun t k => k8 t (st9 t k)
  obtain ⟨fs, hr, hrun, hended, hW, hsame⟩ := X9.leave (v := some (.int (60 : Int32))) (fun h => by rw [Bd.returns] at h; cases h)
  refine ⟨_, _, k10 _ ?_, hrun, hended, _, _, rfl, ?_, ⟨_, rfl⟩, hW, hsame.mono (by decide) (by decide)⟩
  · exact retN X9 hx (t := .char) Bd.returns (by simp) (hb hby own_d7_15) (by first | exact hr | (rw [show nar .char (60 : Int32) = (60 : Int32) from by decide]; exact hr))
  · refine ⟨?_, N9, e9⟩
    rw [show (own_f7_t2) = (60 : Int32) from by unfold own_f7_t2; rfl]
theorem own_d13_0 : decode jdk_43_method_13_code 0 = .ok (.aload_n 0, 1) := by decide +kernel
theorem own_d13_1 : decode jdk_43_method_13_code 1 = .ok (.arraylength, 1) := by decide +kernel
theorem own_d13_2 : decode jdk_43_method_13_code 2 = .ok (.aload_n 1, 1) := by decide +kernel
theorem own_d13_3 : decode jdk_43_method_13_code 3 = .ok (.arraylength, 1) := by decide +kernel
theorem own_d13_4 : decode jdk_43_method_13_code 4 = .ok (.if_icmp .ne 30, 3) := by decide +kernel
theorem own_d13_7 : decode jdk_43_method_13_code 7 = .ok (.iconst 0, 1) := by decide +kernel
theorem own_d13_8 : decode jdk_43_method_13_code 8 = .ok (.istore_n 2, 1) := by decide +kernel
theorem own_d13_9 : decode jdk_43_method_13_code 9 = .ok (.iload_n 2, 1) := by decide +kernel
theorem own_d13_10 : decode jdk_43_method_13_code 10 = .ok (.aload_n 0, 1) := by decide +kernel
theorem own_d13_11 : decode jdk_43_method_13_code 11 = .ok (.arraylength, 1) := by decide +kernel
theorem own_d13_12 : decode jdk_43_method_13_code 12 = .ok (.if_icmp .ge 20, 3) := by decide +kernel
theorem own_d13_15 : decode jdk_43_method_13_code 15 = .ok (.aload_n 0, 1) := by decide +kernel
theorem own_d13_16 : decode jdk_43_method_13_code 16 = .ok (.iload_n 2, 1) := by decide +kernel
theorem own_d13_17 : decode jdk_43_method_13_code 17 = .ok (.baload, 1) := by decide +kernel
theorem own_d13_18 : decode jdk_43_method_13_code 18 = .ok (.aload_n 1, 1) := by decide +kernel
theorem own_d13_19 : decode jdk_43_method_13_code 19 = .ok (.iload_n 2, 1) := by decide +kernel
theorem own_d13_20 : decode jdk_43_method_13_code 20 = .ok (.baload, 1) := by decide +kernel
theorem own_d13_21 : decode jdk_43_method_13_code 21 = .ok (.if_icmp .eq 5, 3) := by decide +kernel
theorem own_d13_26 : decode jdk_43_method_13_code 26 = .ok (.iinc 2 1, 3) := by decide +kernel
theorem own_d13_29 : decode jdk_43_method_13_code 29 = .ok (.goto (-20), 3) := by decide +kernel
theorem own_d13_32 : decode jdk_43_method_13_code 32 = .ok (.iconst 1, 1) := by decide +kernel
theorem own_d13_33 : decode jdk_43_method_13_code 33 = .ok (.ireturn, 1) := by decide +kernel
theorem own_ef13 (m : MethodId) (x0 : Addr) (x1 : Addr) : entryFrame m #[(.ref x0), (.ref x1)] 3 = mkF m 0 #[.val (.ref x0), .val (.ref x1), .unset] [] := by first | (simp [entryFrame, mkF, argsToLocals, Value.category]; done) | rfl
theorem own_pn13 : plainName "java/lang/StringLatin1" = true := by first | (simp [plainName, overriddenIn]; done) | decide +kernel
def own_f13_t2 : Int32 := (1 : Int32)
set_option maxRecDepth 65536 in
set_option maxHeartbeats 40000000 in
theorem own_m13_t2 (l : Launch) (Z : State) (a0 : Array Value) (hw : ∀ d ∈ tables_1, d.before a0 Z = true) (ws : List Jvm.Cond) (a1 : Addr) (a2 : Addr) (kc_a1 : ClassId) (kc_a2 : ClassId) (h0 : Heap) (n0 : Nat) (Z0 : n0 ≤ h0.size) (V_a1 : Arv Z h0 a1 kc_a1 .byte (2 : Int32) [(.int (60 : Int32)), (.int (62 : Int32))] (.int (0 : Int32))) (V_a2 : Arv Z h0 a2 kc_a2 .byte (2 : Int32) [(.int (60 : Int32)), (.int (62 : Int32))] (.int (0 : Int32))) :
    MetFree l (⟨"java/lang/StringLatin1", "equals", "([B[B)Z"⟩ : MethodName) (head1 (Jvm.Cond.code (⟨"java/lang/StringLatin1", "equals", "([B[B)Z"⟩ : MethodName) jdk_43_method_13_code 3 (some .boolean) :: ws) ({ frames := 0, cells := 0, slots := 0, locals := 0 } : Room)) (fun a U => a = #[(.ref a1), (.ref a2)] ∧ Z.Warmed39 U.vm ∧ U.heap = h0) (fun _ _ _ _ _ => True) (fun _ U o U' => ∃ v L, o = .returned v ∧ own_Q (some (.int own_f13_t2)) h0 n0 v U'.heap L ∧ FrameEnd U o U' L ({ frames := 0, cells := 0, slots := 0, locals := 0 } : Room).cells ({ frames := 0, cells := 0, slots := 0, locals := 0 } : Room).slots) := by
  refine MetFree.of_bodySF (plainFor_of_name own_pn13) hisR ?_
  intro p e s m args below meth c s₁ Bd hml0 hP hK
  obtain ⟨rfl, hZ, hh⟩ := hP
  have hx := Bd.exec
  have hby := Bd.bytes
  have hml : c.maxLocals = 3 := hml0
  have hown : s.vm.findClass "java/lang/StringLatin1" = some m.cls := findClass_of_methodNamed Bd.named
  have hnm := (name_of_methodNamed Bd.named Bd.method).1
  have X0 : Stand p l e ({ frames := 0, cells := 0, slots := 0, locals := 0 } : Room) s m #[(.ref a1), (.ref a2)] below meth c s₁ [] 0 0 := Stand.of_body Bd
  have e0 : s₁.heap = h0 := by rw [← hh, Bd.state]; rfl
  have N0 := Fr.nil n0
  have k0 : own_To p.tables e below (s₁.setTop (entryFrame m #[(.ref a1), (.ref a2)] 3)) s₁ (mkF m 0 #[.val (.ref a1), .val (.ref a2), .unset] []) := fun t k => castTop (own_ef13 m a1 a2) k
  have k1 : own_To p.tables e below (s₁.setTop (entryFrame m #[(.ref a1), (.ref a2)] 3)) s₁ (mkF m 1 #[.val (.ref a1), .val (.ref a2), .unset] [(.ref a1)]) := fun t k => k0 t (XS.aloadN X0.here hx rfl (hb hby own_d13_0) rfl rfl k)
  obtain ⟨cl2, Ar2, qa2, Sa2, Na2, Ha2, Ga2⟩ := id V_a1
  have k3 : own_To p.tables e below (s₁.setTop (entryFrame m #[(.ref a1), (.ref a2)] 3)) s₁ (mkF m 2 #[.val (.ref a1), .val (.ref a2), .unset] [(.int (2 : Int32))]) := fun t k => k1 t (X0.arraylength hx (by rw [e0]; exact Ar2.1) (State.isArrayOf_alike hZ.alike Ar2.2.1) (g := (mkF m 1 #[.val (.ref a1), .val (.ref a2), .unset] [(.ref a1)])) rfl rfl (hb hby own_d13_1) _ (by rw [len_of Sa2 Na2]; exact k))
  have k4 : own_To p.tables e below (s₁.setTop (entryFrame m #[(.ref a1), (.ref a2)] 3)) s₁ (mkF m 3 #[.val (.ref a1), .val (.ref a2), .unset] [(.ref a2), (.int (2 : Int32))]) := fun t k => k3 t (XS.aloadN X0.here hx rfl (hb hby own_d13_2) rfl rfl k)
  obtain ⟨cl5, Ar5, qa5, Sa5, Na5, Ha5, Ga5⟩ := id V_a2
  have k6 : own_To p.tables e below (s₁.setTop (entryFrame m #[(.ref a1), (.ref a2)] 3)) s₁ (mkF m 4 #[.val (.ref a1), .val (.ref a2), .unset] [(.int (2 : Int32)), (.int (2 : Int32))]) := fun t k => k4 t (X0.arraylength hx (by rw [e0]; exact Ar5.1) (State.isArrayOf_alike hZ.alike Ar5.2.1) (g := (mkF m 3 #[.val (.ref a1), .val (.ref a2), .unset] [(.ref a2), (.int (2 : Int32))])) rfl rfl (hb hby own_d13_3) _ (by rw [len_of Sa5 Na5]; exact k))
  have k7 : own_To p.tables e below (s₁.setTop (entryFrame m #[(.ref a1), (.ref a2)] 3)) s₁ (mkF m 7 #[.val (.ref a1), .val (.ref a2), .unset] []) := fun t k => k6 t (XS.icmpNo X0.here hx rfl (hb hby own_d13_4) rfl (teq (show (2 : Int32) = (2 : Int32) from (by decide))).2 k)
  have k8 : own_To p.tables e below (s₁.setTop (entryFrame m #[(.ref a1), (.ref a2)] 3)) s₁ (mkF m 8 #[.val (.ref a1), .val (.ref a2), .unset] [(.int (0 : Int32))]) := fun t k => k7 t (XS.iconst X0.here hx rfl (hb hby own_d13_7) k)
  have k9 : own_To p.tables e below (s₁.setTop (entryFrame m #[(.ref a1), (.ref a2)] 3)) s₁ (mkF m 9 #[.val (.ref a1), .val (.ref a2), .val (.int (0 : Int32))] []) := fun t k => k8 t (XS.istoreN X0.here hx rfl (hb hby own_d13_8) rfl (l' := #[.val (.ref a1), .val (.ref a2), .val (.int (0 : Int32))]) rfl k)
  have k10 : own_To p.tables e below (s₁.setTop (entryFrame m #[(.ref a1), (.ref a2)] 3)) s₁ (mkF m 10 #[.val (.ref a1), .val (.ref a2), .val (.int (0 : Int32))] [(.int (0 : Int32))]) := fun t k => k9 t (XS.iloadN X0.here hx rfl (hb hby own_d13_9) rfl k)
  have k11 : own_To p.tables e below (s₁.setTop (entryFrame m #[(.ref a1), (.ref a2)] 3)) s₁ (mkF m 11 #[.val (.ref a1), .val (.ref a2), .val (.int (0 : Int32))] [(.ref a1), (.int (0 : Int32))]) := fun t k => k10 t (XS.aloadN X0.here hx rfl (hb hby own_d13_10) rfl rfl k)
  obtain ⟨cl12, Ar12, qa12, Sa12, Na12, Ha12, Ga12⟩ := id V_a1
  have k13 : own_To p.tables e below (s₁.setTop (entryFrame m #[(.ref a1), (.ref a2)] 3)) s₁ (mkF m 12 #[.val (.ref a1), .val (.ref a2), .val (.int (0 : Int32))] [(.int (2 : Int32)), (.int (0 : Int32))]) := fun t k => k11 t (X0.arraylength hx (by rw [e0]; exact Ar12.1) (State.isArrayOf_alike hZ.alike Ar12.2.1) (g := (mkF m 11 #[.val (.ref a1), .val (.ref a2), .val (.int (0 : Int32))] [(.ref a1), (.int (0 : Int32))])) rfl rfl (hb hby own_d13_11) _ (by rw [len_of Sa12 Na12]; exact k))
  have k14 : own_To p.tables e below (s₁.setTop (entryFrame m #[(.ref a1), (.ref a2)] 3)) s₁ (mkF m 15 #[.val (.ref a1), .val (.ref a2), .val (.int (0 : Int32))] []) := fun t k => k13 t (XS.icmpNo X0.here hx rfl (hb hby own_d13_12) rfl (tlt (show (0 : Int32) < (2 : Int32) from (by decide))).2.1 k)
  have k15 : own_To p.tables e below (s₁.setTop (entryFrame m #[(.ref a1), (.ref a2)] 3)) s₁ (mkF m 16 #[.val (.ref a1), .val (.ref a2), .val (.int (0 : Int32))] [(.ref a1)]) := fun t k => k14 t (XS.aloadN X0.here hx rfl (hb hby own_d13_15) rfl rfl k)
  have k16 : own_To p.tables e below (s₁.setTop (entryFrame m #[(.ref a1), (.ref a2)] 3)) s₁ (mkF m 17 #[.val (.ref a1), .val (.ref a2), .val (.int (0 : Int32))] [(.int (0 : Int32)), (.ref a1)]) := fun t k => k15 t (XS.iloadN X0.here hx rfl (hb hby own_d13_16) rfl k)
  obtain ⟨cl17, Ar17, qa17, Sa17, Na17, Ha17, Ga17⟩ := id V_a1
  have at17 : cl17.slots[((0 : Int32)).toNatClampNeg]? = some (.int (60 : Int32)) := Ha17.at (own_inb Sa17 (show (0 : Int32) = Nat.toInt32 0 from by decide) (show 0 < ((2 : Int32)).toNatClampNeg from by decide)) (by rw [own_idx (show (0 : Int32) = Nat.toInt32 0 from by decide) (by omega)]; exact rfl)
  have k18 : own_To p.tables e below (s₁.setTop (entryFrame m #[(.ref a1), (.ref a2)] 3)) s₁ (mkF m 18 #[.val (.ref a1), .val (.ref a2), .val (.int (0 : Int32))] [(.int (60 : Int32))]) := fun t k => k16 t (X0.baloadBytes hx (j := (0 : Int32)) (v := (.int (60 : Int32))) (by rw [e0]; exact Ar17.1) (State.isArrayOf_alike hZ.alike Ar17.2.1) Ar17.2.2 (own_inb Sa17 (show (0 : Int32) = Nat.toInt32 0 from by decide) (show 0 < ((2 : Int32)).toNatClampNeg from by decide)) at17 (g := (mkF m 17 #[.val (.ref a1), .val (.ref a2), .val (.int (0 : Int32))] [(.int (0 : Int32)), (.ref a1)])) rfl rfl (hb hby own_d13_17) _ k)
  have k19 : own_To p.tables e below (s₁.setTop (entryFrame m #[(.ref a1), (.ref a2)] 3)) s₁ (mkF m 19 #[.val (.ref a1), .val (.ref a2), .val (.int (0 : Int32))] [(.ref a2), (.int (60 : Int32))]) := fun t k => k18 t (XS.aloadN X0.here hx rfl (hb hby own_d13_18) rfl rfl k)
  have k20 : own_To p.tables e below (s₁.setTop (entryFrame m #[(.ref a1), (.ref a2)] 3)) s₁ (mkF m 20 #[.val (.ref a1), .val (.ref a2), .val (.int (0 : Int32))] [(.int (0 : Int32)), (.ref a2), (.int (60 : Int32))]) := fun t k => k19 t (XS.iloadN X0.here hx rfl (hb hby own_d13_19) rfl k)
  obtain ⟨cl21, Ar21, qa21, Sa21, Na21, Ha21, Ga21⟩ := id V_a2
  have at21 : cl21.slots[((0 : Int32)).toNatClampNeg]? = some (.int (60 : Int32)) := Ha21.at (own_inb Sa21 (show (0 : Int32) = Nat.toInt32 0 from by decide) (show 0 < ((2 : Int32)).toNatClampNeg from by decide)) (by rw [own_idx (show (0 : Int32) = Nat.toInt32 0 from by decide) (by omega)]; exact rfl)
  have k22 : own_To p.tables e below (s₁.setTop (entryFrame m #[(.ref a1), (.ref a2)] 3)) s₁ (mkF m 21 #[.val (.ref a1), .val (.ref a2), .val (.int (0 : Int32))] [(.int (60 : Int32)), (.int (60 : Int32))]) := fun t k => k20 t (X0.baloadBytes hx (j := (0 : Int32)) (v := (.int (60 : Int32))) (by rw [e0]; exact Ar21.1) (State.isArrayOf_alike hZ.alike Ar21.2.1) Ar21.2.2 (own_inb Sa21 (show (0 : Int32) = Nat.toInt32 0 from by decide) (show 0 < ((2 : Int32)).toNatClampNeg from by decide)) at21 (g := (mkF m 20 #[.val (.ref a1), .val (.ref a2), .val (.int (0 : Int32))] [(.int (0 : Int32)), (.ref a2), (.int (60 : Int32))])) rfl rfl (hb hby own_d13_20) _ k)
  have k23 : own_To p.tables e below (s₁.setTop (entryFrame m #[(.ref a1), (.ref a2)] 3)) s₁ (mkF m 26 #[.val (.ref a1), .val (.ref a2), .val (.int (0 : Int32))] []) := fun t k => k22 t (XS.icmpYes X0.here hx rfl (pc0 := 21) (pc' := 26) rfl (hb hby own_d13_21) rfl (teq (show (60 : Int32) = (60 : Int32) from (by decide))).1 (by decide) (by decide) k)
  have k24 : own_To p.tables e below (s₁.setTop (entryFrame m #[(.ref a1), (.ref a2)] 3)) s₁ (mkF m 29 #[.val (.ref a1), .val (.ref a2), .val (.int (1 : Int32))] []) := fun t k => k23 t (XS.iinc X0.here hx rfl (hb hby own_d13_26) rfl (l' := #[.val (.ref a1), .val (.ref a2), .val (.int ((0 : Int32) + (1 : Int32)))]) rfl (by rw [show ((0 : Int32) + (1 : Int32)) = (1 : Int32) from by decide]; exact k))
  have k25 : own_To p.tables e below (s₁.setTop (entryFrame m #[(.ref a1), (.ref a2)] 3)) s₁ (mkF m 9 #[.val (.ref a1), .val (.ref a2), .val (.int (1 : Int32))] []) := fun t k => k24 t (XS.goto X0.here hx rfl (pc0 := 29) (pc' := 9) rfl (hb hby own_d13_29) (by decide) (by decide) k)
  have k26 : own_To p.tables e below (s₁.setTop (entryFrame m #[(.ref a1), (.ref a2)] 3)) s₁ (mkF m 10 #[.val (.ref a1), .val (.ref a2), .val (.int (1 : Int32))] [(.int (1 : Int32))]) := fun t k => k25 t (XS.iloadN X0.here hx rfl (hb hby own_d13_9) rfl k)
  have k27 : own_To p.tables e below (s₁.setTop (entryFrame m #[(.ref a1), (.ref a2)] 3)) s₁ (mkF m 11 #[.val (.ref a1), .val (.ref a2), .val (.int (1 : Int32))] [(.ref a1), (.int (1 : Int32))]) := fun t k => k26 t (XS.aloadN X0.here hx rfl (hb hby own_d13_10) rfl rfl k)
  obtain ⟨cl28, Ar28, qa28, Sa28, Na28, Ha28, Ga28⟩ := id V_a1
  have k29 : own_To p.tables e below (s₁.setTop (entryFrame m #[(.ref a1), (.ref a2)] 3)) s₁ (mkF m 12 #[.val (.ref a1), .val (.ref a2), .val (.int (1 : Int32))] [(.int (2 : Int32)), (.int (1 : Int32))]) := fun t k => k27 t (X0.arraylength hx (by rw [e0]; exact Ar28.1) (State.isArrayOf_alike hZ.alike Ar28.2.1) (g := (mkF m 11 #[.val (.ref a1), .val (.ref a2), .val (.int (1 : Int32))] [(.ref a1), (.int (1 : Int32))])) rfl rfl (hb hby own_d13_11) _ (by rw [len_of Sa28 Na28]; exact k))
  have k30 : own_To p.tables e below (s₁.setTop (entryFrame m #[(.ref a1), (.ref a2)] 3)) s₁ (mkF m 15 #[.val (.ref a1), .val (.ref a2), .val (.int (1 : Int32))] []) := fun t k => k29 t (XS.icmpNo X0.here hx rfl (hb hby own_d13_12) rfl (tlt (show (1 : Int32) < (2 : Int32) from (by decide))).2.1 k)
  have k31 : own_To p.tables e below (s₁.setTop (entryFrame m #[(.ref a1), (.ref a2)] 3)) s₁ (mkF m 16 #[.val (.ref a1), .val (.ref a2), .val (.int (1 : Int32))] [(.ref a1)]) := fun t k => k30 t (XS.aloadN X0.here hx rfl (hb hby own_d13_15) rfl rfl k)
  have k32 : own_To p.tables e below (s₁.setTop (entryFrame m #[(.ref a1), (.ref a2)] 3)) s₁ (mkF m 17 #[.val (.ref a1), .val (.ref a2), .val (.int (1 : Int32))] [(.int (1 : Int32)), (.ref a1)]) := fun t k => k31 t (XS.iloadN X0.here hx rfl (hb hby own_d13_16) rfl k)
  obtain ⟨cl33, Ar33, qa33, Sa33, Na33, Ha33, Ga33⟩ := id V_a1
  have at33 : cl33.slots[((1 : Int32)).toNatClampNeg]? = some (.int (62 : Int32)) := Ha33.at (own_inb Sa33 (show (1 : Int32) = Nat.toInt32 1 from by decide) (show 1 < ((2 : Int32)).toNatClampNeg from by decide)) (by rw [own_idx (show (1 : Int32) = Nat.toInt32 1 from by decide) (by omega)]; exact rfl)
  have k34 : own_To p.tables e below (s₁.setTop (entryFrame m #[(.ref a1), (.ref a2)] 3)) s₁ (mkF m 18 #[.val (.ref a1), .val (.ref a2), .val (.int (1 : Int32))] [(.int (62 : Int32))]) := fun t k => k32 t (X0.baloadBytes hx (j := (1 : Int32)) (v := (.int (62 : Int32))) (by rw [e0]; exact Ar33.1) (State.isArrayOf_alike hZ.alike Ar33.2.1) Ar33.2.2 (own_inb Sa33 (show (1 : Int32) = Nat.toInt32 1 from by decide) (show 1 < ((2 : Int32)).toNatClampNeg from by decide)) at33 (g := (mkF m 17 #[.val (.ref a1), .val (.ref a2), .val (.int (1 : Int32))] [(.int (1 : Int32)), (.ref a1)])) rfl rfl (hb hby own_d13_17) _ k)
  have k35 : own_To p.tables e below (s₁.setTop (entryFrame m #[(.ref a1), (.ref a2)] 3)) s₁ (mkF m 19 #[.val (.ref a1), .val (.ref a2), .val (.int (1 : Int32))] [(.ref a2), (.int (62 : Int32))]) := fun t k => k34 t (XS.aloadN X0.here hx rfl (hb hby own_d13_18) rfl rfl k)
  have k36 : own_To p.tables e below (s₁.setTop (entryFrame m #[(.ref a1), (.ref a2)] 3)) s₁ (mkF m 20 #[.val (.ref a1), .val (.ref a2), .val (.int (1 : Int32))] [(.int (1 : Int32)), (.ref a2), (.int (62 : Int32))]) := fun t k => k35 t (XS.iloadN X0.here hx rfl (hb hby own_d13_19) rfl k)
  obtain ⟨cl37, Ar37, qa37, Sa37, Na37, Ha37, Ga37⟩ := id V_a2
  have at37 : cl37.slots[((1 : Int32)).toNatClampNeg]? = some (.int (62 : Int32)) := Ha37.at (own_inb Sa37 (show (1 : Int32) = Nat.toInt32 1 from by decide) (show 1 < ((2 : Int32)).toNatClampNeg from by decide)) (by rw [own_idx (show (1 : Int32) = Nat.toInt32 1 from by decide) (by omega)]; exact rfl)
  have k38 : own_To p.tables e below (s₁.setTop (entryFrame m #[(.ref a1), (.ref a2)] 3)) s₁ (mkF m 21 #[.val (.ref a1), .val (.ref a2), .val (.int (1 : Int32))] [(.int (62 : Int32)), (.int (62 : Int32))]) := fun t k => k36 t (X0.baloadBytes hx (j := (1 : Int32)) (v := (.int (62 : Int32))) (by rw [e0]; exact Ar37.1) (State.isArrayOf_alike hZ.alike Ar37.2.1) Ar37.2.2 (own_inb Sa37 (show (1 : Int32) = Nat.toInt32 1 from by decide) (show 1 < ((2 : Int32)).toNatClampNeg from by decide)) at37 (g := (mkF m 20 #[.val (.ref a1), .val (.ref a2), .val (.int (1 : Int32))] [(.int (1 : Int32)), (.ref a2), (.int (62 : Int32))])) rfl rfl (hb hby own_d13_20) _ k)
  have k39 : own_To p.tables e below (s₁.setTop (entryFrame m #[(.ref a1), (.ref a2)] 3)) s₁ (mkF m 26 #[.val (.ref a1), .val (.ref a2), .val (.int (1 : Int32))] []) := fun t k => k38 t (XS.icmpYes X0.here hx rfl (pc0 := 21) (pc' := 26) rfl (hb hby own_d13_21) rfl (teq (show (62 : Int32) = (62 : Int32) from (by decide))).1 (by decide) (by decide) k)
  have k40 : own_To p.tables e below (s₁.setTop (entryFrame m #[(.ref a1), (.ref a2)] 3)) s₁ (mkF m 29 #[.val (.ref a1), .val (.ref a2), .val (.int (2 : Int32))] []) := fun t k => k39 t (XS.iinc X0.here hx rfl (hb hby own_d13_26) rfl (l' := #[.val (.ref a1), .val (.ref a2), .val (.int ((1 : Int32) + (1 : Int32)))]) rfl (by rw [show ((1 : Int32) + (1 : Int32)) = (2 : Int32) from by decide]; exact k))
  have k41 : own_To p.tables e below (s₁.setTop (entryFrame m #[(.ref a1), (.ref a2)] 3)) s₁ (mkF m 9 #[.val (.ref a1), .val (.ref a2), .val (.int (2 : Int32))] []) := fun t k => k40 t (XS.goto X0.here hx rfl (pc0 := 29) (pc' := 9) rfl (hb hby own_d13_29) (by decide) (by decide) k)
  have k42 : own_To p.tables e below (s₁.setTop (entryFrame m #[(.ref a1), (.ref a2)] 3)) s₁ (mkF m 10 #[.val (.ref a1), .val (.ref a2), .val (.int (2 : Int32))] [(.int (2 : Int32))]) := fun t k => k41 t (XS.iloadN X0.here hx rfl (hb hby own_d13_9) rfl k)
  have k43 : own_To p.tables e below (s₁.setTop (entryFrame m #[(.ref a1), (.ref a2)] 3)) s₁ (mkF m 11 #[.val (.ref a1), .val (.ref a2), .val (.int (2 : Int32))] [(.ref a1), (.int (2 : Int32))]) := fun t k => k42 t (XS.aloadN X0.here hx rfl (hb hby own_d13_10) rfl rfl k)
  obtain ⟨cl44, Ar44, qa44, Sa44, Na44, Ha44, Ga44⟩ := id V_a1
  have k45 : own_To p.tables e below (s₁.setTop (entryFrame m #[(.ref a1), (.ref a2)] 3)) s₁ (mkF m 12 #[.val (.ref a1), .val (.ref a2), .val (.int (2 : Int32))] [(.int (2 : Int32)), (.int (2 : Int32))]) := fun t k => k43 t (X0.arraylength hx (by rw [e0]; exact Ar44.1) (State.isArrayOf_alike hZ.alike Ar44.2.1) (g := (mkF m 11 #[.val (.ref a1), .val (.ref a2), .val (.int (2 : Int32))] [(.ref a1), (.int (2 : Int32))])) rfl rfl (hb hby own_d13_11) _ (by rw [len_of Sa44 Na44]; exact k))
  have k46 : own_To p.tables e below (s₁.setTop (entryFrame m #[(.ref a1), (.ref a2)] 3)) s₁ (mkF m 32 #[.val (.ref a1), .val (.ref a2), .val (.int (2 : Int32))] []) := fun t k => k45 t (XS.icmpYes X0.here hx rfl (pc0 := 12) (pc' := 32) rfl (hb hby own_d13_12) rfl (flt (show ¬ ((2 : Int32) < (2 : Int32)) from (by decide))).2.1 (by decide) (by decide) k)
  have k47 : own_To p.tables e below (s₁.setTop (entryFrame m #[(.ref a1), (.ref a2)] 3)) s₁ (mkF m 33 #[.val (.ref a1), .val (.ref a2), .val (.int (2 : Int32))] [(.int (1 : Int32))]) := fun t k => k46 t (XS.iconst X0.here hx rfl (hb hby own_d13_32) k)
  obtain ⟨fs, hr, hrun, hended, hW, hsame⟩ := X0.leave (v := some (.int (1 : Int32))) (fun h => by rw [Bd.returns] at h; cases h)
  refine ⟨_, _, k47 _ ?_, hrun, hended, _, _, rfl, ?_, ⟨_, rfl⟩, hW, hsame.mono (by decide) (by decide)⟩
  · exact retN X0 hx (t := .boolean) Bd.returns (by simp) (hb hby own_d13_33) (by first | exact hr | (rw [show nar .boolean (1 : Int32) = (1 : Int32) from by decide]; exact hr))
  · refine ⟨?_, N0, e0⟩
    rw [show (own_f13_t2) = (1 : Int32) from by unfold own_f13_t2; rfl]
theorem own_d12_0 : decode jdk_42_method_66_code 0 = .ok (.aload_n 0, 1) := by decide +kernel
theorem own_d12_1 : decode jdk_42_method_66_code 1 = .ok (.aload_n 1, 1) := by decide +kernel
theorem own_d12_2 : decode jdk_42_method_66_code 2 = .ok (.if_acmp .ne 5, 3) := by decide +kernel
theorem own_d12_5 : decode jdk_42_method_66_code 5 = .ok (.iconst 1, 1) := by decide +kernel
theorem own_d12_6 : decode jdk_42_method_66_code 6 = .ok (.ireturn, 1) := by decide +kernel
theorem own_d12_7 : decode jdk_42_method_66_code 7 = .ok (.aload_n 1, 1) := by decide +kernel
theorem own_d12_8 : decode jdk_42_method_66_code 8 = .ok (.instanceof 10, 3) := by decide +kernel
theorem own_d12_11 : decode jdk_42_method_66_code 11 = .ok (.ifCond .eq 43, 3) := by decide +kernel
theorem own_d12_14 : decode jdk_42_method_66_code 14 = .ok (.aload_n 1, 1) := by decide +kernel
theorem own_d12_15 : decode jdk_42_method_66_code 15 = .ok (.checkcast 10, 3) := by decide +kernel
theorem own_d12_18 : decode jdk_42_method_66_code 18 = .ok (.astore_n 2, 1) := by decide +kernel
theorem own_d12_19 : decode jdk_42_method_66_code 19 = .ok (.getstatic 38, 3) := by decide +kernel
theorem own_d12_22 : decode jdk_42_method_66_code 22 = .ok (.ifCond .eq 14, 3) := by decide +kernel
theorem own_d12_25 : decode jdk_42_method_66_code 25 = .ok (.aload_n 0, 1) := by decide +kernel
theorem own_d12_26 : decode jdk_42_method_66_code 26 = .ok (.getfield 15, 3) := by decide +kernel
theorem own_d12_29 : decode jdk_42_method_66_code 29 = .ok (.aload_n 2, 1) := by decide +kernel
theorem own_d12_30 : decode jdk_42_method_66_code 30 = .ok (.getfield 15, 3) := by decide +kernel
theorem own_d12_33 : decode jdk_42_method_66_code 33 = .ok (.if_icmp .ne 21, 3) := by decide +kernel
theorem own_d12_36 : decode jdk_42_method_66_code 36 = .ok (.aload_n 0, 1) := by decide +kernel
theorem own_d12_37 : decode jdk_42_method_66_code 37 = .ok (.getfield 9, 3) := by decide +kernel
theorem own_d12_40 : decode jdk_42_method_66_code 40 = .ok (.aload_n 2, 1) := by decide +kernel
theorem own_d12_41 : decode jdk_42_method_66_code 41 = .ok (.getfield 9, 3) := by decide +kernel
theorem own_d12_44 : decode jdk_42_method_66_code 44 = .ok (.invokestatic 541, 3) := by decide +kernel
theorem own_pd5 : parseMethodDescriptor "([B[B)Z" = some ⟨[(.array .byte), (.array .byte)], some .boolean⟩ := by decide +kernel
theorem own_d12_47 : decode jdk_42_method_66_code 47 = .ok (.ifCond .eq 7, 3) := by decide +kernel
theorem own_d12_50 : decode jdk_42_method_66_code 50 = .ok (.iconst 1, 1) := by decide +kernel
theorem own_d12_51 : decode jdk_42_method_66_code 51 = .ok (.goto 4, 3) := by decide +kernel
theorem own_d12_55 : decode jdk_42_method_66_code 55 = .ok (.ireturn, 1) := by decide +kernel
theorem own_ef12 (m : MethodId) (x0 : Addr) (x1 : Addr) : entryFrame m #[(.ref x0), (.ref x1)] 3 = mkF m 0 #[.val (.ref x0), .val (.ref x1), .unset] [] := by first | (simp [entryFrame, mkF, argsToLocals, Value.category]; done) | rfl
theorem own_pn12 : plainName "java/lang/String" = true := by first | (simp [plainName, overriddenIn]; done) | decide +kernel
def own_f12_t2 (a1 : Addr) (a2 : Addr) : Int32 := (if a1 = a2 then (1 : Int32) else (1 : Int32))
set_option maxRecDepth 65536 in
set_option maxHeartbeats 40000000 in
theorem own_m12_t2 (l : Launch) (Z : State) (a0 : Array Value) (hw : ∀ d ∈ tables_1, d.before a0 Z = true) (ws : List Jvm.Cond) (a1 : Addr) (a2 : Addr) (w_COMPACT_STRINGS : Int32) (w_value_a1 : Addr) (w_value_a2 : Addr) (kc_w_value_a1 : ClassId) (kc_w_value_a2 : ClassId) (h0 : Heap) (n0 : Nat) (Z0 : n0 ≤ h0.size) (E_a2 : Exa Z h0 a2 "java/lang/String") (S_COMPACT_STRINGS : Sta Z h0 "java/lang/String" "COMPACT_STRINGS" "Z" (.int w_COMPACT_STRINGS)) (F_coder_a1 : Fld Z h0 a1 "java/lang/String" "coder" "B" (.int (0 : Int32))) (F_coder_a2 : Fld Z h0 a2 "java/lang/String" "coder" "B" (.int (0 : Int32))) (F_value_a1 : Fld Z h0 a1 "java/lang/String" "value" "[B" (.ref w_value_a1)) (F_value_a2 : Fld Z h0 a2 "java/lang/String" "value" "[B" (.ref w_value_a2)) (V_w_value_a1 : Arv Z h0 w_value_a1 kc_w_value_a1 .byte (2 : Int32) [(.int (60 : Int32)), (.int (62 : Int32))] (.int (0 : Int32))) (V_w_value_a2 : Arv Z h0 w_value_a2 kc_w_value_a2 .byte (2 : Int32) [(.int (60 : Int32)), (.int (62 : Int32))] (.int (0 : Int32))) (hz : ¬ (w_COMPACT_STRINGS = (0 : Int32))) :
    MetFree l (⟨"java/lang/String", "equals", "(Ljava/lang/Object;)Z"⟩ : MethodName) (head1 (Jvm.Cond.code (⟨"java/lang/String", "equals", "(Ljava/lang/Object;)Z"⟩ : MethodName) jdk_42_method_66_code 3 (some .boolean) :: ws) ({ frames := 1, cells := 0, slots := 0, locals := 14 } : Room)) (fun a U => a = #[(.ref a1), (.ref a2)] ∧ Z.Warmed39 U.vm ∧ U.heap = h0) (fun _ _ _ _ _ => True) (fun _ U o U' => ∃ v L, o = .returned v ∧ own_Q (some (.int (own_f12_t2 a1 a2))) h0 n0 v U'.heap L ∧ FrameEnd U o U' L ({ frames := 1, cells := 0, slots := 0, locals := 14 } : Room).cells ({ frames := 1, cells := 0, slots := 0, locals := 14 } : Room).slots) := by
  refine MetFree.of_bodySF (plainFor_of_name own_pn12) hisR ?_
  intro p e s m args below meth c s₁ Bd hml0 hP hK
  obtain ⟨rfl, hZ, hh⟩ := hP
  have hx := Bd.exec
  have hby := Bd.bytes
  have hml : c.maxLocals = 3 := hml0
  have hown : s.vm.findClass "java/lang/String" = some m.cls := findClass_of_methodNamed Bd.named
  have hnm := (name_of_methodNamed Bd.named Bd.method).1
  have X0 : Stand p l e ({ frames := 1, cells := 0, slots := 0, locals := 14 } : Room) s m #[(.ref a1), (.ref a2)] below meth c s₁ [] 0 0 := Stand.of_body Bd
  have e0 : s₁.heap = h0 := by rw [← hh, Bd.state]; rfl
  have N0 := Fr.nil n0
  have k0 : own_To p.tables e below (s₁.setTop (entryFrame m #[(.ref a1), (.ref a2)] 3)) s₁ (mkF m 0 #[.val (.ref a1), .val (.ref a2), .unset] []) := fun t k => castTop (own_ef12 m a1 a2) k
  have k1 : own_To p.tables e below (s₁.setTop (entryFrame m #[(.ref a1), (.ref a2)] 3)) s₁ (mkF m 1 #[.val (.ref a1), .val (.ref a2), .unset] [(.ref a1)]) := fun t k => k0 t (XS.aloadN X0.here hx rfl (hb hby own_d12_0) rfl rfl k)
  have k2 : own_To p.tables e below (s₁.setTop (entryFrame m #[(.ref a1), (.ref a2)] 3)) s₁ (mkF m 2 #[.val (.ref a1), .val (.ref a2), .unset] [(.ref a2), (.ref a1)]) := fun t k => k1 t (XS.aloadN X0.here hx rfl (hb hby own_d12_1) rfl rfl k)
  by_cases hc3 : a1 = a2
  · have k4 : own_To p.tables e below (s₁.setTop (entryFrame m #[(.ref a1), (.ref a2)] 3)) s₁ (mkF m 5 #[.val (.ref a1), .val (.ref a2), .unset] []) := fun t k => k2 t (Jvm.RoadKit.acmp (g := (mkF m 2 #[.val (.ref a1), .val (.ref a2), .unset] [(.ref a2), (.ref a1)])) X0 hx rfl rfl rfl (pc0 := 2) (pc' := 5) (same := true) rfl (hb hby own_d12_2) rfl (decide_eq_true (congrArg Value.ref hc3)) (by decide) (by decide) k)
    have k5 : own_To p.tables e below (s₁.setTop (entryFrame m #[(.ref a1), (.ref a2)] 3)) s₁ (mkF m 6 #[.val (.ref a1), .val (.ref a2), .unset] [(.int (1 : Int32))]) := fun t k => k4 t (XS.iconst X0.here hx rfl (hb hby own_d12_5) k)
    obtain ⟨fs, hr, hrun, hended, hW, hsame⟩ := X0.leave (v := some (.int (1 : Int32))) (fun h => by rw [Bd.returns] at h; cases h)
    refine ⟨_, _, k5 _ ?_, hrun, hended, _, _, rfl, ?_, ⟨_, rfl⟩, hW, hsame.mono (by decide) (by decide)⟩
    · exact retN X0 hx (t := .boolean) Bd.returns (by simp) (hb hby own_d12_6) (by first | exact hr | (rw [show nar .boolean (1 : Int32) = (1 : Int32) from by decide]; exact hr))
    · refine ⟨?_, N0, e0⟩
      rw [show (own_f12_t2 a1 a2) = (1 : Int32) from by unfold own_f12_t2; rw [if_pos hc3]]
  · have k6 : own_To p.tables e below (s₁.setTop (entryFrame m #[(.ref a1), (.ref a2)] 3)) s₁ (mkF m 7 #[.val (.ref a1), .val (.ref a2), .unset] []) := fun t k => k2 t (Jvm.RoadKit.acmp (g := (mkF m 2 #[.val (.ref a1), .val (.ref a2), .unset] [(.ref a2), (.ref a1)])) X0 hx rfl rfl rfl (pc0 := 2) (pc' := 7) (same := false) rfl (hb hby own_d12_2) rfl (decide_eq_false fun q => hc3 (Value.ref.inj q)) (by decide) (by decide) k)
    have k7 : own_To p.tables e below (s₁.setTop (entryFrame m #[(.ref a1), (.ref a2)] 3)) s₁ (mkF m 8 #[.val (.ref a1), .val (.ref a2), .unset] [(.ref a2)]) := fun t k => k6 t (XS.aloadN X0.here hx rfl (hb hby own_d12_7) rfl rfl k)
    obtain ⟨T8, X8, e8, st8⟩ := instY X0 hx hZ hown (hw _ (List.mem_of_getElem? (i := 84) rfl)) e0 (Ins.self E_a2) (g := (mkF m 8 #[.val (.ref a1), .val (.ref a2), .unset] [(.ref a2)])) rfl rfl (hb hby own_d12_8)
    have k9 : own_To p.tables e below (s₁.setTop (entryFrame m #[(.ref a1), (.ref a2)] 3)) T8 (mkF m 11 #[.val (.ref a1), .val (.ref a2), .unset] [(.int (1 : Int32))]) := fun t k => k7 t (st8 t k)
    have k10 : own_To p.tables e below (s₁.setTop (entryFrame m #[(.ref a1), (.ref a2)] 3)) T8 (mkF m 14 #[.val (.ref a1), .val (.ref a2), .unset] []) := fun t k => k9 t (XS.ifNo X8.here hx rfl (hb hby own_d12_11) rfl ((if0 _ _).trans (feq (show ¬ ((1 : Int32) = (0 : Int32)) from (by decide))).1) k)
    have k11 : own_To p.tables e below (s₁.setTop (entryFrame m #[(.ref a1), (.ref a2)] 3)) T8 (mkF m 15 #[.val (.ref a1), .val (.ref a2), .unset] [(.ref a2)]) := fun t k => k10 t (XS.aloadN X8.here hx rfl (hb hby own_d12_14) rfl rfl k)
    obtain ⟨T12, X12, e12, st12⟩ := castY X8 hx hZ hown (hw _ (List.mem_of_getElem? (i := 84) rfl)) e8 (Ins.self E_a2) (g := (mkF m 15 #[.val (.ref a1), .val (.ref a2), .unset] [(.ref a2)])) rfl rfl (hb hby own_d12_15)
    have k13 : own_To p.tables e below (s₁.setTop (entryFrame m #[(.ref a1), (.ref a2)] 3)) T12 (mkF m 18 #[.val (.ref a1), .val (.ref a2), .unset] [(.ref a2)]) := fun t k => k11 t (st12 t k)
    have k14 : own_To p.tables e below (s₁.setTop (entryFrame m #[(.ref a1), (.ref a2)] 3)) T12 (mkF m 19 #[.val (.ref a1), .val (.ref a2), .val (.ref a2)] []) := fun t k => k13 t (XS.astoreN X12.here hx rfl (hb hby own_d12_18) rfl rfl (l' := #[.val (.ref a1), .val (.ref a2), .val (.ref a2)]) rfl k)
    obtain ⟨T15, X15, e15, st15⟩ := getS2 X12 hx hZ hown (host := "") (Or.inl (hw _ (List.mem_of_getElem? (i := 47) rfl))) Via.refl e12 S_COMPACT_STRINGS (g := (mkF m 19 #[.val (.ref a1), .val (.ref a2), .val (.ref a2)] [])) rfl (hb hby own_d12_19)
    have k16 : own_To p.tables e below (s₁.setTop (entryFrame m #[(.ref a1), (.ref a2)] 3)) T15 (mkF m 22 #[.val (.ref a1), .val (.ref a2), .val (.ref a2)] [(.int w_COMPACT_STRINGS)]) := fun t k => k14 t (st15 t k)
    have k17 : own_To p.tables e below (s₁.setTop (entryFrame m #[(.ref a1), (.ref a2)] 3)) T15 (mkF m 25 #[.val (.ref a1), .val (.ref a2), .val (.ref a2)] []) := fun t k => k16 t (XS.ifNo X15.here hx rfl (hb hby own_d12_22) rfl ((if0 _ _).trans (feq (show ¬ (w_COMPACT_STRINGS = (0 : Int32)) from hz)).1) k)
    have k18 : own_To p.tables e below (s₁.setTop (entryFrame m #[(.ref a1), (.ref a2)] 3)) T15 (mkF m 26 #[.val (.ref a1), .val (.ref a2), .val (.ref a2)] [(.ref a1)]) := fun t k => k17 t (XS.aloadN X15.here hx rfl (hb hby own_d12_25) rfl rfl k)
    obtain ⟨T19, X19, e19, st19⟩ := getF X15 hx hZ hown (host := "") (Or.inl (hw _ (List.mem_of_getElem? (i := 48) rfl))) Via.refl e15 F_coder_a1 (g := (mkF m 26 #[.val (.ref a1), .val (.ref a2), .val (.ref a2)] [(.ref a1)])) rfl rfl (hb hby own_d12_26)
    have k20 : own_To p.tables e below (s₁.setTop (entryFrame m #[(.ref a1), (.ref a2)] 3)) T19 (mkF m 29 #[.val (.ref a1), .val (.ref a2), .val (.ref a2)] [(.int (0 : Int32))]) := fun t k => k18 t (st19 t k)
    have k21 : own_To p.tables e below (s₁.setTop (entryFrame m #[(.ref a1), (.ref a2)] 3)) T19 (mkF m 30 #[.val (.ref a1), .val (.ref a2), .val (.ref a2)] [(.ref a2), (.int (0 : Int32))]) := fun t k => k20 t (XS.aloadN X19.here hx rfl (hb hby own_d12_29) rfl rfl k)
    obtain ⟨T22, X22, e22, st22⟩ := getF X19 hx hZ hown (host := "") (Or.inl (hw _ (List.mem_of_getElem? (i := 48) rfl))) Via.refl e19 F_coder_a2 (g := (mkF m 30 #[.val (.ref a1), .val (.ref a2), .val (.ref a2)] [(.ref a2), (.int (0 : Int32))])) rfl rfl (hb hby own_d12_30)
    have k23 : own_To p.tables e below (s₁.setTop (entryFrame m #[(.ref a1), (.ref a2)] 3)) T22 (mkF m 33 #[.val (.ref a1), .val (.ref a2), .val (.ref a2)] [(.int (0 : Int32)), (.int (0 : Int32))]) := fun t k => k21 t (st22 t k)
    have k24 : own_To p.tables e below (s₁.setTop (entryFrame m #[(.ref a1), (.ref a2)] 3)) T22 (mkF m 36 #[.val (.ref a1), .val (.ref a2), .val (.ref a2)] []) := fun t k => k23 t (XS.icmpNo X22.here hx rfl (hb hby own_d12_33) rfl (teq (show (0 : Int32) = (0 : Int32) from (by decide))).2 k)
    have k25 : own_To p.tables e below (s₁.setTop (entryFrame m #[(.ref a1), (.ref a2)] 3)) T22 (mkF m 37 #[.val (.ref a1), .val (.ref a2), .val (.ref a2)] [(.ref a1)]) := fun t k => k24 t (XS.aloadN X22.here hx rfl (hb hby own_d12_36) rfl rfl k)
    obtain ⟨T26, X26, e26, st26⟩ := getF X22 hx hZ hown (host := "") (Or.inl (hw _ (List.mem_of_getElem? (i := 41) rfl))) Via.refl e22 F_value_a1 (g := (mkF m 37 #[.val (.ref a1), .val (.ref a2), .val (.ref a2)] [(.ref a1)])) rfl rfl (hb hby own_d12_37)
    have k27 : own_To p.tables e below (s₁.setTop (entryFrame m #[(.ref a1), (.ref a2)] 3)) T26 (mkF m 40 #[.val (.ref a1), .val (.ref a2), .val (.ref a2)] [(.ref w_value_a1)]) := fun t k => k25 t (st26 t k)
    have k28 : own_To p.tables e below (s₁.setTop (entryFrame m #[(.ref a1), (.ref a2)] 3)) T26 (mkF m 41 #[.val (.ref a1), .val (.ref a2), .val (.ref a2)] [(.ref a2), (.ref w_value_a1)]) := fun t k => k27 t (XS.aloadN X26.here hx rfl (hb hby own_d12_40) rfl rfl k)
    obtain ⟨T29, X29, e29, st29⟩ := getF X26 hx hZ hown (host := "") (Or.inl (hw _ (List.mem_of_getElem? (i := 41) rfl))) Via.refl e26 F_value_a2 (g := (mkF m 41 #[.val (.ref a1), .val (.ref a2), .val (.ref a2)] [(.ref a2), (.ref w_value_a1)])) rfl rfl (hb hby own_d12_41)
    have k30 : own_To p.tables e below (s₁.setTop (entryFrame m #[(.ref a1), (.ref a2)] 3)) T29 (mkF m 44 #[.val (.ref a1), .val (.ref a2), .val (.ref a2)] [(.ref w_value_a2), (.ref w_value_a1)]) := fun t k => k28 t (st29 t k)
    obtain ⟨_, _, ⟨T31, L31, k31, n31⟩, -, X31, ⟨Lc31, hQ31, l31, y31, z31⟩, st31⟩ := Jvm.LawKit.callS X29 hx (y := (⟨"java/lang/StringLatin1", "equals", "([B[B)Z"⟩ : MethodName)) hown (mvT hZ (hw _ (List.mem_of_getElem? (i := 86) rfl))) (mvT hZ (hw _ (List.mem_of_getElem? (i := 87) rfl))) (mvT hZ (hw _ (List.mem_of_getElem? (i := 61) rfl))) (mvT hZ (hw _ (List.mem_of_getElem? (i := 88) rfl))) (by decide) (backOf (W := 0) (own_m13_t2 l Z a0 hw [] w_value_a1 w_value_a2 kc_w_value_a1 kc_w_value_a2 h0 n0 Z0 V_w_value_a1 V_w_value_a2) hZ (hw _ (List.mem_of_getElem? (i := 88) rfl)) (hw _ (List.mem_of_getElem? (i := 61) rfl)) (by decide) (by decide)) (g := (mkF m 44 #[.val (.ref a1), .val (.ref a2), .val (.ref a2)] [(.ref w_value_a2), (.ref w_value_a1)])) rfl (by rw [hml]; rfl) (argsL := [(.ref w_value_a1), (.ref w_value_a2)]) (rest := []) (lenOf own_pd5 rfl) rfl (by show 2 * 0 + _ ≤ _; exact Nat.le_of_eq rfl) (hb hby own_d12_44) (fun _ _ => ⟨rfl, e29, (by decide : 0 + 0 ≤ _), (by decide : 0 + 0 ≤ _)⟩)
    dsimp only [Pt.U, Pt.locs, Pt.cells, Pt.slots] at X31 l31 y31 z31 st31 hQ31
    subst l31 y31 z31
    rw [show own_f13_t2 = (1 : Int32) from rfl] at hQ31
    obtain ⟨rfl, N31q, e31⟩ := hQ31
    have N31 := Fr.app N0 N31q
    have k32 : own_To p.tables e below (s₁.setTop (entryFrame m #[(.ref a1), (.ref a2)] 3)) T31 (mkF m 47 #[.val (.ref a1), .val (.ref a2), .val (.ref a2)] [(.int (1 : Int32))]) := fun t k => k30 t (st31 t k)
    have k33 : own_To p.tables e below (s₁.setTop (entryFrame m #[(.ref a1), (.ref a2)] 3)) T31 (mkF m 50 #[.val (.ref a1), .val (.ref a2), .val (.ref a2)] []) := fun t k => k32 t (XS.ifNo X31.here hx rfl (hb hby own_d12_47) rfl ((if0 _ _).trans (feq (show ¬ ((1 : Int32) = (0 : Int32)) from (by decide))).1) k)
    have k34 : own_To p.tables e below (s₁.setTop (entryFrame m #[(.ref a1), (.ref a2)] 3)) T31 (mkF m 51 #[.val (.ref a1), .val (.ref a2), .val (.ref a2)] [(.int (1 : Int32))]) := fun t k => k33 t (XS.iconst X31.here hx rfl (hb hby own_d12_50) k)
    have k35 : own_To p.tables e below (s₁.setTop (entryFrame m #[(.ref a1), (.ref a2)] 3)) T31 (mkF m 55 #[.val (.ref a1), .val (.ref a2), .val (.ref a2)] [(.int (1 : Int32))]) := fun t k => k34 t (XS.goto X31.here hx rfl (pc0 := 51) (pc' := 55) rfl (hb hby own_d12_51) (by decide) (by decide) k)
    obtain ⟨fs, hr, hrun, hended, hW, hsame⟩ := X31.leave (v := some (.int (1 : Int32))) (fun h => by rw [Bd.returns] at h; cases h)
    refine ⟨_, _, k35 _ ?_, hrun, hended, _, _, rfl, ?_, ⟨_, rfl⟩, hW, hsame.mono (by decide) (by decide)⟩
    · exact retN X31 hx (t := .boolean) Bd.returns (by simp) (hb hby own_d12_55) (by first | exact hr | (rw [show nar .boolean (1 : Int32) = (1 : Int32) from by decide]; exact hr))
    · refine ⟨?_, N31, e31⟩
      rw [show (own_f12_t2 a1 a2) = (1 : Int32) from by unfold own_f12_t2; rw [if_neg hc3]]
def own_f5_t3 : Int32 := (1 : Int32)
set_option maxRecDepth 65536 in
set_option maxHeartbeats 40000000 in
theorem own_m5_t3 (l : Launch) (Z : State) (a0 : Array Value) (hw : ∀ d ∈ tables_1, d.before a0 Z = true) (ws : List Jvm.Cond) (a1 : Addr) (w_value_a1 : Addr) (kc_w_value_a1 : ClassId) (w_COMPACT_STRINGS : Int32) (h0 : Heap) (n0 : Nat) (Z0 : n0 ≤ h0.size) (F_value_a1 : Fld Z h0 a1 "java/lang/String" "value" "[B" (.ref w_value_a1)) (V_w_value_a1 : Arv Z h0 w_value_a1 kc_w_value_a1 .byte (1 : Int32) [(.int (60 : Int32))] (.int (0 : Int32))) (S_COMPACT_STRINGS : Sta Z h0 "java/lang/String" "COMPACT_STRINGS" "Z" (.int w_COMPACT_STRINGS)) (F_coder_a1 : Fld Z h0 a1 "java/lang/String" "coder" "B" (.int (0 : Int32))) (E_a1 : Exa Z h0 a1 "java/lang/String") (hz : ¬ (w_COMPACT_STRINGS = (0 : Int32))) :
    MetFree l (⟨"java/lang/String", "length", "()I"⟩ : MethodName) (head1 (Jvm.Cond.code (⟨"java/lang/String", "length", "()I"⟩ : MethodName) jdk_42_method_54_code 1 (some .int) :: ws) ({ frames := 1, cells := 0, slots := 0, locals := 13 } : Room)) (fun a U => a = #[(.ref a1)] ∧ Z.Warmed39 U.vm ∧ U.heap = h0) (fun _ _ _ _ _ => True) (fun _ U o U' => ∃ v L, o = .returned v ∧ own_Q (some (.int own_f5_t3)) h0 n0 v U'.heap L ∧ FrameEnd U o U' L ({ frames := 1, cells := 0, slots := 0, locals := 13 } : Room).cells ({ frames := 1, cells := 0, slots := 0, locals := 13 } : Room).slots) := by
  refine MetFree.of_bodySF (plainFor_of_name own_pn5) hisR ?_
  intro p e s m args below meth c s₁ Bd hml0 hP hK
  obtain ⟨rfl, hZ, hh⟩ := hP
  have hx := Bd.exec
  have hby := Bd.bytes
  have hml : c.maxLocals = 1 := hml0
  have hown : s.vm.findClass "java/lang/String" = some m.cls := findClass_of_methodNamed Bd.named
  have hnm := (name_of_methodNamed Bd.named Bd.method).1
  have X0 : Stand p l e ({ frames := 1, cells := 0, slots := 0, locals := 13 } : Room) s m #[(.ref a1)] below meth c s₁ [] 0 0 := Stand.of_body Bd
  have e0 : s₁.heap = h0 := by rw [← hh, Bd.state]; rfl
  have N0 := Fr.nil n0
  have k0 : own_To p.tables e below (s₁.setTop (entryFrame m #[(.ref a1)] 1)) s₁ (mkF m 0 #[.val (.ref a1)] []) := fun t k => castTop (own_ef5 m a1) k
  have k1 : own_To p.tables e below (s₁.setTop (entryFrame m #[(.ref a1)] 1)) s₁ (mkF m 1 #[.val (.ref a1)] [(.ref a1)]) := fun t k => k0 t (XS.aloadN X0.here hx rfl (hb hby own_d5_0) rfl rfl k)
  obtain ⟨T2, X2, e2, st2⟩ := getF X0 hx hZ hown (host := "") (Or.inl (hw _ (List.mem_of_getElem? (i := 41) rfl))) Via.refl e0 F_value_a1 (g := (mkF m 1 #[.val (.ref a1)] [(.ref a1)])) rfl rfl (hb hby own_d5_1)
  have k3 : own_To p.tables e below (s₁.setTop (entryFrame m #[(.ref a1)] 1)) T2 (mkF m 4 #[.val (.ref a1)] [(.ref w_value_a1)]) := fun t k => k1 t (st2 t k)
  obtain ⟨cl4, Ar4, qa4, Sa4, Na4, Ha4, Ga4⟩ := id V_w_value_a1
  have k5 : own_To p.tables e below (s₁.setTop (entryFrame m #[(.ref a1)] 1)) T2 (mkF m 5 #[.val (.ref a1)] [(.int (1 : Int32))]) := fun t k => k3 t (X2.arraylength hx (by rw [e2]; exact Ar4.1) (State.isArrayOf_alike hZ.alike Ar4.2.1) (g := (mkF m 4 #[.val (.ref a1)] [(.ref w_value_a1)])) rfl rfl (hb hby own_d5_4) _ (by rw [len_of Sa4 Na4]; exact k))
  have k6 : own_To p.tables e below (s₁.setTop (entryFrame m #[(.ref a1)] 1)) T2 (mkF m 6 #[.val (.ref a1)] [(.ref a1), (.int (1 : Int32))]) := fun t k => k5 t (XS.aloadN X2.here hx rfl (hb hby own_d5_5) rfl rfl k)
  obtain ⟨cq7, kq7, q7a, q7b, q7c⟩ := isOf hZ e2 E_a1
  obtain ⟨_, _, ⟨T7, L7, k7, n7⟩, -, X7, ⟨Lc7, hQ7, l7, y7, z7⟩, st7⟩ := X2.virtualBack hx (y := (⟨"java/lang/String", "coder", "()B"⟩ : MethodName)) (z := (⟨"java/lang/String", "coder", "()B"⟩ : MethodName)) hown (mvT hZ (hw _ (List.mem_of_getElem? (i := 42) rfl))) (mvT hZ (hw _ (List.mem_of_getElem? (i := 43) rfl))) (notFace_of_selects (args := #[]) (mvT hZ (hw _ (List.mem_of_getElem? (i := 45) rfl)))) (mvT hZ (hw _ (List.mem_of_getElem? (i := 45) rfl))) (mvT hZ (hw _ (List.mem_of_getElem? (i := 44) rfl))) (by decide) (backOf (W := 1) (own_m6 l Z a0 hw [] a1 w_COMPACT_STRINGS h0 n0 Z0 S_COMPACT_STRINGS F_coder_a1 hz) hZ (hw _ (List.mem_of_getElem? (i := 46) rfl)) (hw _ (List.mem_of_getElem? (i := 29) rfl)) (by decide) (by decide)) q7a q7c (g := (mkF m 6 #[.val (.ref a1)] [(.ref a1), (.int (1 : Int32))])) rfl (by rw [hml]; rfl) (Steps.refl _) (argsL := []) (rest := [(.int (1 : Int32))]) (lenOf own_pd1 rfl) rfl (by show 2 * 0 + _ ≤ _; exact Nat.le_of_eq rfl) (hb hby own_d5_6) (fun _ _ => ⟨rfl, e2, (by decide : 0 + 0 ≤ _), (by decide : 0 + 0 ≤ _)⟩)
  dsimp only [Pt.U, Pt.locs, Pt.cells, Pt.slots] at X7 l7 y7 z7 st7 hQ7
  subst l7 y7 z7
  rw [show own_f6 = (0 : Int32) from rfl] at hQ7
  obtain ⟨rfl, N7q, e7⟩ := hQ7
  have N7 := Fr.app N0 N7q
  have k8 : own_To p.tables e below (s₁.setTop (entryFrame m #[(.ref a1)] 1)) T7 (mkF m 9 #[.val (.ref a1)] [(.int (0 : Int32)), (.int (1 : Int32))]) := fun t k => k6 t (st7.trans k)
  have k9 : own_To p.tables e below (s₁.setTop (entryFrame m #[(.ref a1)] 1)) T7 (mkF m 10 #[.val (.ref a1)] [(.int (1 : Int32))]) := fun t k => k8 t (XS.ishr X7.here hx rfl (hb hby own_d5_9) rfl (by rw [show ((1 : Int32) >>> ((0 : Int32) &&& 31)) = (1 : Int32) from by decide]; exact k))
  obtain ⟨fs, hr, hrun, hended, hW, hsame⟩ := X7.leave (v := some (.int (1 : Int32))) (fun h => by rw [Bd.returns] at h; cases h)
  refine ⟨_, _, k9 _ ?_, hrun, hended, _, _, rfl, ?_, ⟨_, rfl⟩, hW, hsame.mono (by decide) (by decide)⟩
  · exact retI X7 hx Bd.returns (hb hby own_d5_10) hr
  · refine ⟨?_, N7, e7⟩
    rw [show (own_f5_t3) = (1 : Int32) from by unfold own_f5_t3; rfl]
def own_f9_t3 : Int32 := (60 : Int32)
set_option maxRecDepth 65536 in
set_option maxHeartbeats 40000000 in
theorem own_m9_t3 (l : Launch) (Z : State) (a0 : Array Value) (hw : ∀ d ∈ tables_1, d.before a0 Z = true) (ws : List Jvm.Cond) (a1 : Addr) (kc_a1 : ClassId) (w_SIOOBE_FORMATTER : Value) (h0 : Heap) (n0 : Nat) (Z0 : n0 ≤ h0.size) (V_a1 : Arv Z h0 a1 kc_a1 .byte (1 : Int32) [(.int (60 : Int32))] (.int (0 : Int32))) (S_SIOOBE_FORMATTER : Sta Z h0 "jdk/internal/util/Preconditions" "SIOOBE_FORMATTER" "Ljava/util/function/BiFunction;" w_SIOOBE_FORMATTER) (hrS : w_SIOOBE_FORMATTER.isRef = true) :
    MetFree l (⟨"java/lang/StringLatin1", "charAt", "([BI)C"⟩ : MethodName) (head1 (Jvm.Cond.code (⟨"java/lang/StringLatin1", "charAt", "([BI)C"⟩ : MethodName) jdk_43_method_2_code 2 (some .char) :: ws) ({ frames := 2, cells := 0, slots := 0, locals := 27 } : Room)) (fun a U => a = #[(.ref a1), (.int (0 : Int32))] ∧ Z.Warmed39 U.vm ∧ U.heap = h0) (fun _ _ _ _ _ => True) (fun _ U o U' => ∃ v L, o = .returned v ∧ own_Q (some (.int own_f9_t3)) h0 n0 v U'.heap L ∧ FrameEnd U o U' L ({ frames := 2, cells := 0, slots := 0, locals := 27 } : Room).cells ({ frames := 2, cells := 0, slots := 0, locals := 27 } : Room).slots) := by
  refine MetFree.of_bodySF (plainFor_of_name own_pn9) hisR ?_
  intro p e s m args below meth c s₁ Bd hml0 hP hK
  obtain ⟨rfl, hZ, hh⟩ := hP
  have hx := Bd.exec
  have hby := Bd.bytes
  have hml : c.maxLocals = 2 := hml0
  have hown : s.vm.findClass "java/lang/StringLatin1" = some m.cls := findClass_of_methodNamed Bd.named
  have hnm := (name_of_methodNamed Bd.named Bd.method).1
  have X0 : Stand p l e ({ frames := 2, cells := 0, slots := 0, locals := 27 } : Room) s m #[(.ref a1), (.int (0 : Int32))] below meth c s₁ [] 0 0 := Stand.of_body Bd
  have e0 : s₁.heap = h0 := by rw [← hh, Bd.state]; rfl
  have N0 := Fr.nil n0
  have k0 : own_To p.tables e below (s₁.setTop (entryFrame m #[(.ref a1), (.int (0 : Int32))] 2)) s₁ (mkF m 0 #[.val (.ref a1), .val (.int (0 : Int32))] []) := fun t k => castTop (own_ef9_10 m a1) k
  have k1 : own_To p.tables e below (s₁.setTop (entryFrame m #[(.ref a1), (.int (0 : Int32))] 2)) s₁ (mkF m 1 #[.val (.ref a1), .val (.int (0 : Int32))] [(.int (0 : Int32))]) := fun t k => k0 t (XS.iloadN X0.here hx rfl (hb hby own_d9_0) rfl k)
  have k2 : own_To p.tables e below (s₁.setTop (entryFrame m #[(.ref a1), (.int (0 : Int32))] 2)) s₁ (mkF m 2 #[.val (.ref a1), .val (.int (0 : Int32))] [(.ref a1), (.int (0 : Int32))]) := fun t k => k1 t (XS.aloadN X0.here hx rfl (hb hby own_d9_1) rfl rfl k)
  obtain ⟨cl3, Ar3, qa3, Sa3, Na3, Ha3, Ga3⟩ := id V_a1
  have k4 : own_To p.tables e below (s₁.setTop (entryFrame m #[(.ref a1), (.int (0 : Int32))] 2)) s₁ (mkF m 3 #[.val (.ref a1), .val (.int (0 : Int32))] [(.int (1 : Int32)), (.int (0 : Int32))]) := fun t k => k2 t (X0.arraylength hx (by rw [e0]; exact Ar3.1) (State.isArrayOf_alike hZ.alike Ar3.2.1) (g := (mkF m 2 #[.val (.ref a1), .val (.int (0 : Int32))] [(.ref a1), (.int (0 : Int32))])) rfl rfl (hb hby own_d9_2) _ (by rw [len_of Sa3 Na3]; exact k))
  obtain ⟨_, _, ⟨T5, L5, k5, n5⟩, -, X5, ⟨Lc5, hQ5, l5, y5, z5⟩, st5⟩ := Jvm.LawKit.callS X0 hx (y := (⟨"java/lang/String", "checkIndex", "(II)V"⟩ : MethodName)) hown (mvT hZ (hw _ (List.mem_of_getElem? (i := 63) rfl))) (mvT hZ (hw _ (List.mem_of_getElem? (i := 64) rfl))) (mvT hZ (hw _ (List.mem_of_getElem? (i := 29) rfl))) (mvT hZ (hw _ (List.mem_of_getElem? (i := 65) rfl))) (by decide) (backOf (W := 0) (own_m10_1 l Z a0 hw [] w_SIOOBE_FORMATTER h0 n0 Z0 S_SIOOBE_FORMATTER hrS) hZ (hw _ (List.mem_of_getElem? (i := 65) rfl)) (hw _ (List.mem_of_getElem? (i := 29) rfl)) (by decide) (by decide)) (g := (mkF m 3 #[.val (.ref a1), .val (.int (0 : Int32))] [(.int (1 : Int32)), (.int (0 : Int32))])) rfl (by rw [hml]; rfl) (argsL := [(.int (0 : Int32)), (.int (1 : Int32))]) (rest := []) (lenOf own_pd2 rfl) rfl (by show 2 * 0 + _ ≤ _; exact Nat.le_of_eq rfl) (hb hby own_d9_3) (fun _ _ => ⟨rfl, e0, (by decide : 0 + 0 ≤ _), (by decide : 0 + 0 ≤ _)⟩)
  dsimp only [Pt.U, Pt.locs, Pt.cells, Pt.slots] at X5 l5 y5 z5 st5 hQ5
  subst l5 y5 z5
  obtain ⟨rfl, N5q, e5⟩ := hQ5
  have N5 := Fr.app N0 N5q
  have k6 : own_To p.tables e below (s₁.setTop (entryFrame m #[(.ref a1), (.int (0 : Int32))] 2)) T5 (mkF m 6 #[.val (.ref a1), .val (.int (0 : Int32))] []) := fun t k => k4 t (st5 t k)
  have k7 : own_To p.tables e below (s₁.setTop (entryFrame m #[(.ref a1), (.int (0 : Int32))] 2)) T5 (mkF m 7 #[.val (.ref a1), .val (.int (0 : Int32))] [(.ref a1)]) := fun t k => k6 t (XS.aloadN X5.here hx rfl (hb hby own_d9_6) rfl rfl k)
  have k8 : own_To p.tables e below (s₁.setTop (entryFrame m #[(.ref a1), (.int (0 : Int32))] 2)) T5 (mkF m 8 #[.val (.ref a1), .val (.int (0 : Int32))] [(.int (0 : Int32)), (.ref a1)]) := fun t k => k7 t (XS.iloadN X5.here hx rfl (hb hby own_d9_7) rfl k)
  obtain ⟨cl9, Ar9, qa9, Sa9, Na9, Ha9, Ga9⟩ := id V_a1
  have at9 : cl9.slots[((0 : Int32)).toNatClampNeg]? = some (.int (60 : Int32)) := Ha9.at (own_inb Sa9 (show (0 : Int32) = Nat.toInt32 0 from by decide) (show 0 < ((1 : Int32)).toNatClampNeg from by decide)) (by rw [own_idx (show (0 : Int32) = Nat.toInt32 0 from by decide) (by omega)]; exact rfl)
  have k10 : own_To p.tables e below (s₁.setTop (entryFrame m #[(.ref a1), (.int (0 : Int32))] 2)) T5 (mkF m 9 #[.val (.ref a1), .val (.int (0 : Int32))] [(.int (60 : Int32))]) := fun t k => k8 t (X5.baloadBytes hx (j := (0 : Int32)) (v := (.int (60 : Int32))) (by rw [e5]; exact Ar9.1) (State.isArrayOf_alike hZ.alike Ar9.2.1) Ar9.2.2 (own_inb Sa9 (show (0 : Int32) = Nat.toInt32 0 from by decide) (show 0 < ((1 : Int32)).toNatClampNeg from by decide)) at9 (g := (mkF m 8 #[.val (.ref a1), .val (.int (0 : Int32))] [(.int (0 : Int32)), (.ref a1)])) rfl rfl (hb hby own_d9_8) _ k)
  have k11 : own_To p.tables e below (s₁.setTop (entryFrame m #[(.ref a1), (.int (0 : Int32))] 2)) T5 (mkF m 12 #[.val (.ref a1), .val (.int (0 : Int32))] [(.int (255 : Int32)), (.int (60 : Int32))]) := fun t k => k10 t (XS.sipush X5.here hx rfl (hb hby own_d9_9) k)
  have k12 : own_To p.tables e below (s₁.setTop (entryFrame m #[(.ref a1), (.int (0 : Int32))] 2)) T5 (mkF m 13 #[.val (.ref a1), .val (.int (0 : Int32))] [(.int (60 : Int32))]) := fun t k => k11 t (XS.iand X5.here hx rfl (hb hby own_d9_12) rfl (by rw [show ((60 : Int32) &&& (255 : Int32)) = (60 : Int32) from by decide]; exact k))
  have k13 : own_To p.tables e below (s₁.setTop (entryFrame m #[(.ref a1), (.int (0 : Int32))] 2)) T5 (mkF m 14 #[.val (.ref a1), .val (.int (0 : Int32))] [(.int (60 : Int32))]) := fun t k => k12 t (XS.i2c X5.here hx rfl (hb hby own_d9_13) rfl (by rw [show ((60 : Int32).toUInt32.toUInt16.toUInt32.toInt32) = (60 : Int32) from by decide]; exact k))
  obtain ⟨fs, hr, hrun, hended, hW, hsame⟩ := X5.leave (v := some (.int (60 : Int32))) (fun h => by rw [Bd.returns] at h; cases h)
  refine ⟨_, _, k13 _ ?_, hrun, hended, _, _, rfl, ?_, ⟨_, rfl⟩, hW, hsame.mono (by decide) (by decide)⟩
  · exact retN X5 hx (t := .char) Bd.returns (by simp) (hb hby own_d9_14) (by first | exact hr | (rw [show nar .char (60 : Int32) = (60 : Int32) from by decide]; exact hr))
  · refine ⟨?_, N5, e5⟩
    rw [show (own_f9_t3) = (60 : Int32) from by unfold own_f9_t3; rfl]
def own_f7_t3 : Int32 := (60 : Int32)
set_option maxRecDepth 65536 in
set_option maxHeartbeats 40000000 in
theorem own_m7_t3 (l : Launch) (Z : State) (a0 : Array Value) (hw : ∀ d ∈ tables_1, d.before a0 Z = true) (ws : List Jvm.Cond) (a1 : Addr) (w_COMPACT_STRINGS : Int32) (w_value_a1 : Addr) (kc_w_value_a1 : ClassId) (w_SIOOBE_FORMATTER : Value) (h0 : Heap) (n0 : Nat) (Z0 : n0 ≤ h0.size) (S_COMPACT_STRINGS : Sta Z h0 "java/lang/String" "COMPACT_STRINGS" "Z" (.int w_COMPACT_STRINGS)) (F_coder_a1 : Fld Z h0 a1 "java/lang/String" "coder" "B" (.int (0 : Int32))) (E_a1 : Exa Z h0 a1 "java/lang/String") (F_value_a1 : Fld Z h0 a1 "java/lang/String" "value" "[B" (.ref w_value_a1)) (V_w_value_a1 : Arv Z h0 w_value_a1 kc_w_value_a1 .byte (1 : Int32) [(.int (60 : Int32))] (.int (0 : Int32))) (S_SIOOBE_FORMATTER : Sta Z h0 "jdk/internal/util/Preconditions" "SIOOBE_FORMATTER" "Ljava/util/function/BiFunction;" w_SIOOBE_FORMATTER) (hz : ¬ (w_COMPACT_STRINGS = (0 : Int32))) (hrS : w_SIOOBE_FORMATTER.isRef = true) :
    MetFree l (⟨"java/lang/String", "charAt", "(I)C"⟩ : MethodName) (head1 (Jvm.Cond.code (⟨"java/lang/String", "charAt", "(I)C"⟩ : MethodName) jdk_42_method_56_code 2 (some .char) :: ws) ({ frames := 3, cells := 0, slots := 0, locals := 40 } : Room)) (fun a U => a = #[(.ref a1), (.int (0 : Int32))] ∧ Z.Warmed39 U.vm ∧ U.heap = h0) (fun _ _ _ _ _ => True) (fun _ U o U' => ∃ v L, o = .returned v ∧ own_Q (some (.int own_f7_t3)) h0 n0 v U'.heap L ∧ FrameEnd U o U' L ({ frames := 3, cells := 0, slots := 0, locals := 40 } : Room).cells ({ frames := 3, cells := 0, slots := 0, locals := 40 } : Room).slots) := by
  refine MetFree.of_bodySF (plainFor_of_name own_pn7) hisR ?_
  intro p e s m args below meth c s₁ Bd hml0 hP hK
  obtain ⟨rfl, hZ, hh⟩ := hP
  have hx := Bd.exec
  have hby := Bd.bytes
  have hml : c.maxLocals = 2 := hml0
  have hown : s.vm.findClass "java/lang/String" = some m.cls := findClass_of_methodNamed Bd.named
  have hnm := (name_of_methodNamed Bd.named Bd.method).1
  have X0 : Stand p l e ({ frames := 3, cells := 0, slots := 0, locals := 40 } : Room) s m #[(.ref a1), (.int (0 : Int32))] below meth c s₁ [] 0 0 := Stand.of_body Bd
  have e0 : s₁.heap = h0 := by rw [← hh, Bd.state]; rfl
  have N0 := Fr.nil n0
  have k0 : own_To p.tables e below (s₁.setTop (entryFrame m #[(.ref a1), (.int (0 : Int32))] 2)) s₁ (mkF m 0 #[.val (.ref a1), .val (.int (0 : Int32))] []) := fun t k => castTop (own_ef7_10 m a1) k
  have k1 : own_To p.tables e below (s₁.setTop (entryFrame m #[(.ref a1), (.int (0 : Int32))] 2)) s₁ (mkF m 1 #[.val (.ref a1), .val (.int (0 : Int32))] [(.ref a1)]) := fun t k => k0 t (XS.aloadN X0.here hx rfl (hb hby own_d7_0) rfl rfl k)
  obtain ⟨cq2, kq2, q2a, q2b, q2c⟩ := isOf hZ e0 E_a1
  obtain ⟨_, _, ⟨T2, L2, k2, n2⟩, -, X2, ⟨Lc2, hQ2, l2, y2, z2⟩, st2⟩ := X0.virtualBack hx (y := (⟨"java/lang/String", "isLatin1", "()Z"⟩ : MethodName)) (z := (⟨"java/lang/String", "isLatin1", "()Z"⟩ : MethodName)) hown (mvT hZ (hw _ (List.mem_of_getElem? (i := 54) rfl))) (mvT hZ (hw _ (List.mem_of_getElem? (i := 55) rfl))) (notFace_of_selects (args := #[]) (mvT hZ (hw _ (List.mem_of_getElem? (i := 57) rfl)))) (mvT hZ (hw _ (List.mem_of_getElem? (i := 57) rfl))) (mvT hZ (hw _ (List.mem_of_getElem? (i := 56) rfl))) (by decide) (backOf (W := 0) (own_m8 l Z a0 hw [] a1 w_COMPACT_STRINGS h0 n0 Z0 S_COMPACT_STRINGS F_coder_a1 hz) hZ (hw _ (List.mem_of_getElem? (i := 58) rfl)) (hw _ (List.mem_of_getElem? (i := 29) rfl)) (by decide) (by decide)) q2a q2c (g := (mkF m 1 #[.val (.ref a1), .val (.int (0 : Int32))] [(.ref a1)])) rfl (by rw [hml]; rfl) (Steps.refl _) (argsL := []) (rest := []) (lenOf own_pd3 rfl) rfl (by show 2 * 0 + _ ≤ _; exact Nat.le_of_eq rfl) (hb hby own_d7_1) (fun _ _ => ⟨rfl, e0, (by decide : 0 + 0 ≤ _), (by decide : 0 + 0 ≤ _)⟩)
  dsimp only [Pt.U, Pt.locs, Pt.cells, Pt.slots] at X2 l2 y2 z2 st2 hQ2
  subst l2 y2 z2
  rw [show own_f8 = (1 : Int32) from rfl] at hQ2
  obtain ⟨rfl, N2q, e2⟩ := hQ2
  have N2 := Fr.app N0 N2q
  have k3 : own_To p.tables e below (s₁.setTop (entryFrame m #[(.ref a1), (.int (0 : Int32))] 2)) T2 (mkF m 4 #[.val (.ref a1), .val (.int (0 : Int32))] [(.int (1 : Int32))]) := fun t k => k1 t (st2.trans k)
  have k4 : own_To p.tables e below (s₁.setTop (entryFrame m #[(.ref a1), (.int (0 : Int32))] 2)) T2 (mkF m 7 #[.val (.ref a1), .val (.int (0 : Int32))] []) := fun t k => k3 t (XS.ifNo X2.here hx rfl (hb hby own_d7_4) rfl ((if0 _ _).trans (feq (show ¬ ((1 : Int32) = (0 : Int32)) from (by decide))).1) k)
  have k5 : own_To p.tables e below (s₁.setTop (entryFrame m #[(.ref a1), (.int (0 : Int32))] 2)) T2 (mkF m 8 #[.val (.ref a1), .val (.int (0 : Int32))] [(.ref a1)]) := fun t k => k4 t (XS.aloadN X2.here hx rfl (hb hby own_d7_7) rfl rfl k)
  obtain ⟨T6, X6, e6, st6⟩ := getF X2 hx hZ hown (host := "") (Or.inl (hw _ (List.mem_of_getElem? (i := 41) rfl))) Via.refl e2 F_value_a1 (g := (mkF m 8 #[.val (.ref a1), .val (.int (0 : Int32))] [(.ref a1)])) rfl rfl (hb hby own_d7_8)
  have k7 : own_To p.tables e below (s₁.setTop (entryFrame m #[(.ref a1), (.int (0 : Int32))] 2)) T6 (mkF m 11 #[.val (.ref a1), .val (.int (0 : Int32))] [(.ref w_value_a1)]) := fun t k => k5 t (st6 t k)
  have k8 : own_To p.tables e below (s₁.setTop (entryFrame m #[(.ref a1), (.int (0 : Int32))] 2)) T6 (mkF m 12 #[.val (.ref a1), .val (.int (0 : Int32))] [(.int (0 : Int32)), (.ref w_value_a1)]) := fun t k => k7 t (XS.iloadN X6.here hx rfl (hb hby own_d7_11) rfl k)
  obtain ⟨_, _, ⟨T9, L9, k9, n9⟩, -, X9, ⟨Lc9, hQ9, l9, y9, z9⟩, st9⟩ := Jvm.LawKit.callS X6 hx (y := (⟨"java/lang/StringLatin1", "charAt", "([BI)C"⟩ : MethodName)) hown (mvT hZ (hw _ (List.mem_of_getElem? (i := 59) rfl))) (mvT hZ (hw _ (List.mem_of_getElem? (i := 60) rfl))) (mvT hZ (hw _ (List.mem_of_getElem? (i := 61) rfl))) (mvT hZ (hw _ (List.mem_of_getElem? (i := 62) rfl))) (by decide) (backOf (W := 0) (own_m9_t3 l Z a0 hw [] w_value_a1 kc_w_value_a1 w_SIOOBE_FORMATTER h0 n0 Z0 V_w_value_a1 S_SIOOBE_FORMATTER hrS) hZ (hw _ (List.mem_of_getElem? (i := 62) rfl)) (hw _ (List.mem_of_getElem? (i := 61) rfl)) (by decide) (by decide)) (g := (mkF m 12 #[.val (.ref a1), .val (.int (0 : Int32))] [(.int (0 : Int32)), (.ref w_value_a1)])) rfl (by rw [hml]; rfl) (argsL := [(.ref w_value_a1), (.int (0 : Int32))]) (rest := []) (lenOf own_pd4 rfl) rfl (by show 2 * 0 + _ ≤ _; exact Nat.le_of_eq rfl) (hb hby own_d7_12) (fun _ _ => ⟨rfl, e6, (by decide : 0 + 0 ≤ _), (by decide : 0 + 0 ≤ _)⟩)
  dsimp only [Pt.U, Pt.locs, Pt.cells, Pt.slots] at X9 l9 y9 z9 st9 hQ9
  subst l9 y9 z9
  rw [show own_f9_t3 = (60 : Int32) from rfl] at hQ9
  obtain ⟨rfl, N9q, e9⟩ := hQ9
  have N9 := Fr.app N2 N9q
  have k10 : own_To p.tables e below (s₁.setTop (entryFrame m #[(.ref a1), (.int (0 : Int32))] 2)) T9 (mkF m 15 #[.val (.ref a1), .val (.int (0 : Int32))] [(.int (60 : Int32))]) := fun t k => k8 t (st9 t k)
  obtain ⟨fs, hr, hrun, hended, hW, hsame⟩ := X9.leave (v := some (.int (60 : Int32))) (fun h => by rw [Bd.returns] at h; cases h)
  refine ⟨_, _, k10 _ ?_, hrun, hended, _, _, rfl, ?_, ⟨_, rfl⟩, hW, hsame.mono (by decide) (by decide)⟩
  · exact retN X9 hx (t := .char) Bd.returns (by simp) (hb hby own_d7_15) (by first | exact hr | (rw [show nar .char (60 : Int32) = (60 : Int32) from by decide]; exact hr))
  · refine ⟨?_, N9, e9⟩
    rw [show (own_f7_t3) = (60 : Int32) from by unfold own_f7_t3; rfl]
theorem own_d13_34 : decode jdk_43_method_13_code 34 = .ok (.iconst 0, 1) := by decide +kernel
theorem own_d13_35 : decode jdk_43_method_13_code 35 = .ok (.ireturn, 1) := by decide +kernel
def own_f13_t3 : Int32 := (0 : Int32)
set_option maxRecDepth 65536 in
set_option maxHeartbeats 40000000 in
theorem own_m13_t3 (l : Launch) (Z : State) (a0 : Array Value) (hw : ∀ d ∈ tables_1, d.before a0 Z = true) (ws : List Jvm.Cond) (a1 : Addr) (a2 : Addr) (kc_a1 : ClassId) (kc_a2 : ClassId) (h0 : Heap) (n0 : Nat) (Z0 : n0 ≤ h0.size) (V_a1 : Arv Z h0 a1 kc_a1 .byte (1 : Int32) [(.int (60 : Int32))] (.int (0 : Int32))) (V_a2 : Arv Z h0 a2 kc_a2 .byte (2 : Int32) [(.int (60 : Int32)), (.int (62 : Int32))] (.int (0 : Int32))) :
    MetFree l (⟨"java/lang/StringLatin1", "equals", "([B[B)Z"⟩ : MethodName) (head1 (Jvm.Cond.code (⟨"java/lang/StringLatin1", "equals", "([B[B)Z"⟩ : MethodName) jdk_43_method_13_code 3 (some .boolean) :: ws) ({ frames := 0, cells := 0, slots := 0, locals := 0 } : Room)) (fun a U => a = #[(.ref a1), (.ref a2)] ∧ Z.Warmed39 U.vm ∧ U.heap = h0) (fun _ _ _ _ _ => True) (fun _ U o U' => ∃ v L, o = .returned v ∧ own_Q (some (.int own_f13_t3)) h0 n0 v U'.heap L ∧ FrameEnd U o U' L ({ frames := 0, cells := 0, slots := 0, locals := 0 } : Room).cells ({ frames := 0, cells := 0, slots := 0, locals := 0 } : Room).slots) := by
  refine MetFree.of_bodySF (plainFor_of_name own_pn13) hisR ?_
  intro p e s m args below meth c s₁ Bd hml0 hP hK
  obtain ⟨rfl, hZ, hh⟩ := hP
  have hx := Bd.exec
  have hby := Bd.bytes
  have hml : c.maxLocals = 3 := hml0
  have hown : s.vm.findClass "java/lang/StringLatin1" = some m.cls := findClass_of_methodNamed Bd.named
  have hnm := (name_of_methodNamed Bd.named Bd.method).1
  have X0 : Stand p l e ({ frames := 0, cells := 0, slots := 0, locals := 0 } : Room) s m #[(.ref a1), (.ref a2)] below meth c s₁ [] 0 0 := Stand.of_body Bd
  have e0 : s₁.heap = h0 := by rw [← hh, Bd.state]; rfl
  have N0 := Fr.nil n0
  have k0 : own_To p.tables e below (s₁.setTop (entryFrame m #[(.ref a1), (.ref a2)] 3)) s₁ (mkF m 0 #[.val (.ref a1), .val (.ref a2), .unset] []) := fun t k => castTop (own_ef13 m a1 a2) k
  have k1 : own_To p.tables e below (s₁.setTop (entryFrame m #[(.ref a1), (.ref a2)] 3)) s₁ (mkF m 1 #[.val (.ref a1), .val (.ref a2), .unset] [(.ref a1)]) := fun t k => k0 t (XS.aloadN X0.here hx rfl (hb hby own_d13_0) rfl rfl k)
  obtain ⟨cl2, Ar2, qa2, Sa2, Na2, Ha2, Ga2⟩ := id V_a1
  have k3 : own_To p.tables e below (s₁.setTop (entryFrame m #[(.ref a1), (.ref a2)] 3)) s₁ (mkF m 2 #[.val (.ref a1), .val (.ref a2), .unset] [(.int (1 : Int32))]) := fun t k => k1 t (X0.arraylength hx (by rw [e0]; exact Ar2.1) (State.isArrayOf_alike hZ.alike Ar2.2.1) (g := (mkF m 1 #[.val (.ref a1), .val (.ref a2), .unset] [(.ref a1)])) rfl rfl (hb hby own_d13_1) _ (by rw [len_of Sa2 Na2]; exact k))
  have k4 : own_To p.tables e below (s₁.setTop (entryFrame m #[(.ref a1), (.ref a2)] 3)) s₁ (mkF m 3 #[.val (.ref a1), .val (.ref a2), .unset] [(.ref a2), (.int (1 : Int32))]) := fun t k => k3 t (XS.aloadN X0.here hx rfl (hb hby own_d13_2) rfl rfl k)
  obtain ⟨cl5, Ar5, qa5, Sa5, Na5, Ha5, Ga5⟩ := id V_a2
  have k6 : own_To p.tables e below (s₁.setTop (entryFrame m #[(.ref a1), (.ref a2)] 3)) s₁ (mkF m 4 #[.val (.ref a1), .val (.ref a2), .unset] [(.int (2 : Int32)), (.int (1 : Int32))]) := fun t k => k4 t (X0.arraylength hx (by rw [e0]; exact Ar5.1) (State.isArrayOf_alike hZ.alike Ar5.2.1) (g := (mkF m 3 #[.val (.ref a1), .val (.ref a2), .unset] [(.ref a2), (.int (1 : Int32))])) rfl rfl (hb hby own_d13_3) _ (by rw [len_of Sa5 Na5]; exact k))
  have k7 : own_To p.tables e below (s₁.setTop (entryFrame m #[(.ref a1), (.ref a2)] 3)) s₁ (mkF m 34 #[.val (.ref a1), .val (.ref a2), .unset] []) := fun t k => k6 t (XS.icmpYes X0.here hx rfl (pc0 := 4) (pc' := 34) rfl (hb hby own_d13_4) rfl (feq (show ¬ ((1 : Int32) = (2 : Int32)) from (by decide))).2 (by decide) (by decide) k)
  have k8 : own_To p.tables e below (s₁.setTop (entryFrame m #[(.ref a1), (.ref a2)] 3)) s₁ (mkF m 35 #[.val (.ref a1), .val (.ref a2), .unset] [(.int (0 : Int32))]) := fun t k => k7 t (XS.iconst X0.here hx rfl (hb hby own_d13_34) k)
  obtain ⟨fs, hr, hrun, hended, hW, hsame⟩ := X0.leave (v := some (.int (0 : Int32))) (fun h => by rw [Bd.returns] at h; cases h)
  refine ⟨_, _, k8 _ ?_, hrun, hended, _, _, rfl, ?_, ⟨_, rfl⟩, hW, hsame.mono (by decide) (by decide)⟩
  · exact retN X0 hx (t := .boolean) Bd.returns (by simp) (hb hby own_d13_35) (by first | exact hr | (rw [show nar .boolean (0 : Int32) = (0 : Int32) from by decide]; exact hr))
  · refine ⟨?_, N0, e0⟩
    rw [show (own_f13_t3) = (0 : Int32) from by unfold own_f13_t3; rfl]
theorem own_d12_54 : decode jdk_42_method_66_code 54 = .ok (.iconst 0, 1) := by decide +kernel
def own_f12_t3 : Int32 := (0 : Int32)
set_option maxRecDepth 65536 in
set_option maxHeartbeats 40000000 in
theorem own_m12_t3 (l : Launch) (Z : State) (a0 : Array Value) (hw : ∀ d ∈ tables_1, d.before a0 Z = true) (ws : List Jvm.Cond) (a1 : Addr) (a2 : Addr) (w_COMPACT_STRINGS : Int32) (w_value_a1 : Addr) (w_value_a2 : Addr) (kc_w_value_a1 : ClassId) (kc_w_value_a2 : ClassId) (h0 : Heap) (n0 : Nat) (Z0 : n0 ≤ h0.size) (E_a2 : Exa Z h0 a2 "java/lang/String") (S_COMPACT_STRINGS : Sta Z h0 "java/lang/String" "COMPACT_STRINGS" "Z" (.int w_COMPACT_STRINGS)) (F_coder_a1 : Fld Z h0 a1 "java/lang/String" "coder" "B" (.int (0 : Int32))) (F_coder_a2 : Fld Z h0 a2 "java/lang/String" "coder" "B" (.int (0 : Int32))) (F_value_a1 : Fld Z h0 a1 "java/lang/String" "value" "[B" (.ref w_value_a1)) (F_value_a2 : Fld Z h0 a2 "java/lang/String" "value" "[B" (.ref w_value_a2)) (V_w_value_a1 : Arv Z h0 w_value_a1 kc_w_value_a1 .byte (1 : Int32) [(.int (60 : Int32))] (.int (0 : Int32))) (V_w_value_a2 : Arv Z h0 w_value_a2 kc_w_value_a2 .byte (2 : Int32) [(.int (60 : Int32)), (.int (62 : Int32))] (.int (0 : Int32))) (hz : ¬ (w_COMPACT_STRINGS = (0 : Int32))) (hne : ¬ (a1 = a2)) :
    MetFree l (⟨"java/lang/String", "equals", "(Ljava/lang/Object;)Z"⟩ : MethodName) (head1 (Jvm.Cond.code (⟨"java/lang/String", "equals", "(Ljava/lang/Object;)Z"⟩ : MethodName) jdk_42_method_66_code 3 (some .boolean) :: ws) ({ frames := 1, cells := 0, slots := 0, locals := 14 } : Room)) (fun a U => a = #[(.ref a1), (.ref a2)] ∧ Z.Warmed39 U.vm ∧ U.heap = h0) (fun _ _ _ _ _ => True) (fun _ U o U' => ∃ v L, o = .returned v ∧ own_Q (some (.int own_f12_t3)) h0 n0 v U'.heap L ∧ FrameEnd U o U' L ({ frames := 1, cells := 0, slots := 0, locals := 14 } : Room).cells ({ frames := 1, cells := 0, slots := 0, locals := 14 } : Room).slots) := by
  refine MetFree.of_bodySF (plainFor_of_name own_pn12) hisR ?_
  intro p e s m args below meth c s₁ Bd hml0 hP hK
  obtain ⟨rfl, hZ, hh⟩ := hP
  have hx := Bd.exec
  have hby := Bd.bytes
  have hml : c.maxLocals = 3 := hml0
  have hown : s.vm.findClass "java/lang/String" = some m.cls := findClass_of_methodNamed Bd.named
  have hnm := (name_of_methodNamed Bd.named Bd.method).1
  have X0 : Stand p l e ({ frames := 1, cells := 0, slots := 0, locals := 14 } : Room) s m #[(.ref a1), (.ref a2)] below meth c s₁ [] 0 0 := Stand.of_body Bd
  have e0 : s₁.heap = h0 := by rw [← hh, Bd.state]; rfl
  have N0 := Fr.nil n0
  have k0 : own_To p.tables e below (s₁.setTop (entryFrame m #[(.ref a1), (.ref a2)] 3)) s₁ (mkF m 0 #[.val (.ref a1), .val (.ref a2), .unset] []) := fun t k => castTop (own_ef12 m a1 a2) k
  have k1 : own_To p.tables e below (s₁.setTop (entryFrame m #[(.ref a1), (.ref a2)] 3)) s₁ (mkF m 1 #[.val (.ref a1), .val (.ref a2), .unset] [(.ref a1)]) := fun t k => k0 t (XS.aloadN X0.here hx rfl (hb hby own_d12_0) rfl rfl k)
  have k2 : own_To p.tables e below (s₁.setTop (entryFrame m #[(.ref a1), (.ref a2)] 3)) s₁ (mkF m 2 #[.val (.ref a1), .val (.ref a2), .unset] [(.ref a2), (.ref a1)]) := fun t k => k1 t (XS.aloadN X0.here hx rfl (hb hby own_d12_1) rfl rfl k)
  have k3 : own_To p.tables e below (s₁.setTop (entryFrame m #[(.ref a1), (.ref a2)] 3)) s₁ (mkF m 7 #[.val (.ref a1), .val (.ref a2), .unset] []) := fun t k => k2 t (Jvm.RoadKit.acmp (g := (mkF m 2 #[.val (.ref a1), .val (.ref a2), .unset] [(.ref a2), (.ref a1)])) X0 hx rfl rfl rfl (pc0 := 2) (pc' := 7) (same := false) rfl (hb hby own_d12_2) rfl (decide_eq_false fun q => hne (Value.ref.inj q)) (by decide) (by decide) k)
  have k4 : own_To p.tables e below (s₁.setTop (entryFrame m #[(.ref a1), (.ref a2)] 3)) s₁ (mkF m 8 #[.val (.ref a1), .val (.ref a2), .unset] [(.ref a2)]) := fun t k => k3 t (XS.aloadN X0.here hx rfl (hb hby own_d12_7) rfl rfl k)
  obtain ⟨T5, X5, e5, st5⟩ := instY X0 hx hZ hown (hw _ (List.mem_of_getElem? (i := 84) rfl)) e0 (Ins.self E_a2) (g := (mkF m 8 #[.val (.ref a1), .val (.ref a2), .unset] [(.ref a2)])) rfl rfl (hb hby own_d12_8)
  have k6 : own_To p.tables e below (s₁.setTop (entryFrame m #[(.ref a1), (.ref a2)] 3)) T5 (mkF m 11 #[.val (.ref a1), .val (.ref a2), .unset] [(.int (1 : Int32))]) := fun t k => k4 t (st5 t k)
  have k7 : own_To p.tables e below (s₁.setTop (entryFrame m #[(.ref a1), (.ref a2)] 3)) T5 (mkF m 14 #[.val (.ref a1), .val (.ref a2), .unset] []) := fun t k => k6 t (XS.ifNo X5.here hx rfl (hb hby own_d12_11) rfl ((if0 _ _).trans (feq (show ¬ ((1 : Int32) = (0 : Int32)) from (by decide))).1) k)
  have k8 : own_To p.tables e below (s₁.setTop (entryFrame m #[(.ref a1), (.ref a2)] 3)) T5 (mkF m 15 #[.val (.ref a1), .val (.ref a2), .unset] [(.ref a2)]) := fun t k => k7 t (XS.aloadN X5.here hx rfl (hb hby own_d12_14) rfl rfl k)
  obtain ⟨T9, X9, e9, st9⟩ := castY X5 hx hZ hown (hw _ (List.mem_of_getElem? (i := 84) rfl)) e5 (Ins.self E_a2) (g := (mkF m 15 #[.val (.ref a1), .val (.ref a2), .unset] [(.ref a2)])) rfl rfl (hb hby own_d12_15)
  have k10 : own_To p.tables e below (s₁.setTop (entryFrame m #[(.ref a1), (.ref a2)] 3)) T9 (mkF m 18 #[.val (.ref a1), .val (.ref a2), .unset] [(.ref a2)]) := fun t k => k8 t (st9 t k)
  have k11 : own_To p.tables e below (s₁.setTop (entryFrame m #[(.ref a1), (.ref a2)] 3)) T9 (mkF m 19 #[.val (.ref a1), .val (.ref a2), .val (.ref a2)] []) := fun t k => k10 t (XS.astoreN X9.here hx rfl (hb hby own_d12_18) rfl rfl (l' := #[.val (.ref a1), .val (.ref a2), .val (.ref a2)]) rfl k)
  obtain ⟨T12, X12, e12, st12⟩ := getS2 X9 hx hZ hown (host := "") (Or.inl (hw _ (List.mem_of_getElem? (i := 47) rfl))) Via.refl e9 S_COMPACT_STRINGS (g := (mkF m 19 #[.val (.ref a1), .val (.ref a2), .val (.ref a2)] [])) rfl (hb hby own_d12_19)
  have k13 : own_To p.tables e below (s₁.setTop (entryFrame m #[(.ref a1), (.ref a2)] 3)) T12 (mkF m 22 #[.val (.ref a1), .val (.ref a2), .val (.ref a2)] [(.int w_COMPACT_STRINGS)]) := fun t k => k11 t (st12 t k)
  have k14 : own_To p.tables e below (s₁.setTop (entryFrame m #[(.ref a1), (.ref a2)] 3)) T12 (mkF m 25 #[.val (.ref a1), .val (.ref a2), .val (.ref a2)] []) := fun t k => k13 t (XS.ifNo X12.here hx rfl (hb hby own_d12_22) rfl ((if0 _ _).trans (feq (show ¬ (w_COMPACT_STRINGS = (0 : Int32)) from hz)).1) k)
  have k15 : own_To p.tables e below (s₁.setTop (entryFrame m #[(.ref a1), (.ref a2)] 3)) T12 (mkF m 26 #[.val (.ref a1), .val (.ref a2), .val (.ref a2)] [(.ref a1)]) := fun t k => k14 t (XS.aloadN X12.here hx rfl (hb hby own_d12_25) rfl rfl k)
  obtain ⟨T16, X16, e16, st16⟩ := getF X12 hx hZ hown (host := "") (Or.inl (hw _ (List.mem_of_getElem? (i := 48) rfl))) Via.refl e12 F_coder_a1 (g := (mkF m 26 #[.val (.ref a1), .val (.ref a2), .val (.ref a2)] [(.ref a1)])) rfl rfl (hb hby own_d12_26)
  have k17 : own_To p.tables e below (s₁.setTop (entryFrame m #[(.ref a1), (.ref a2)] 3)) T16 (mkF m 29 #[.val (.ref a1), .val (.ref a2), .val (.ref a2)] [(.int (0 : Int32))]) := fun t k => k15 t (st16 t k)
  have k18 : own_To p.tables e below (s₁.setTop (entryFrame m #[(.ref a1), (.ref a2)] 3)) T16 (mkF m 30 #[.val (.ref a1), .val (.ref a2), .val (.ref a2)] [(.ref a2), (.int (0 : Int32))]) := fun t k => k17 t (XS.aloadN X16.here hx rfl (hb hby own_d12_29) rfl rfl k)
  obtain ⟨T19, X19, e19, st19⟩ := getF X16 hx hZ hown (host := "") (Or.inl (hw _ (List.mem_of_getElem? (i := 48) rfl))) Via.refl e16 F_coder_a2 (g := (mkF m 30 #[.val (.ref a1), .val (.ref a2), .val (.ref a2)] [(.ref a2), (.int (0 : Int32))])) rfl rfl (hb hby own_d12_30)
  have k20 : own_To p.tables e below (s₁.setTop (entryFrame m #[(.ref a1), (.ref a2)] 3)) T19 (mkF m 33 #[.val (.ref a1), .val (.ref a2), .val (.ref a2)] [(.int (0 : Int32)), (.int (0 : Int32))]) := fun t k => k18 t (st19 t k)
  have k21 : own_To p.tables e below (s₁.setTop (entryFrame m #[(.ref a1), (.ref a2)] 3)) T19 (mkF m 36 #[.val (.ref a1), .val (.ref a2), .val (.ref a2)] []) := fun t k => k20 t (XS.icmpNo X19.here hx rfl (hb hby own_d12_33) rfl (teq (show (0 : Int32) = (0 : Int32) from (by decide))).2 k)
  have k22 : own_To p.tables e below (s₁.setTop (entryFrame m #[(.ref a1), (.ref a2)] 3)) T19 (mkF m 37 #[.val (.ref a1), .val (.ref a2), .val (.ref a2)] [(.ref a1)]) := fun t k => k21 t (XS.aloadN X19.here hx rfl (hb hby own_d12_36) rfl rfl k)
  obtain ⟨T23, X23, e23, st23⟩ := getF X19 hx hZ hown (host := "") (Or.inl (hw _ (List.mem_of_getElem? (i := 41) rfl))) Via.refl e19 F_value_a1 (g := (mkF m 37 #[.val (.ref a1), .val (.ref a2), .val (.ref a2)] [(.ref a1)])) rfl rfl (hb hby own_d12_37)
  have k24 : own_To p.tables e below (s₁.setTop (entryFrame m #[(.ref a1), (.ref a2)] 3)) T23 (mkF m 40 #[.val (.ref a1), .val (.ref a2), .val (.ref a2)] [(.ref w_value_a1)]) := fun t k => k22 t (st23 t k)
  have k25 : own_To p.tables e below (s₁.setTop (entryFrame m #[(.ref a1), (.ref a2)] 3)) T23 (mkF m 41 #[.val (.ref a1), .val (.ref a2), .val (.ref a2)] [(.ref a2), (.ref w_value_a1)]) := fun t k => k24 t (XS.aloadN X23.here hx rfl (hb hby own_d12_40) rfl rfl k)
  obtain ⟨T26, X26, e26, st26⟩ := getF X23 hx hZ hown (host := "") (Or.inl (hw _ (List.mem_of_getElem? (i := 41) rfl))) Via.refl e23 F_value_a2 (g := (mkF m 41 #[.val (.ref a1), .val (.ref a2), .val (.ref a2)] [(.ref a2), (.ref w_value_a1)])) rfl rfl (hb hby own_d12_41)
  have k27 : own_To p.tables e below (s₁.setTop (entryFrame m #[(.ref a1), (.ref a2)] 3)) T26 (mkF m 44 #[.val (.ref a1), .val (.ref a2), .val (.ref a2)] [(.ref w_value_a2), (.ref w_value_a1)]) := fun t k => k25 t (st26 t k)
  obtain ⟨_, _, ⟨T28, L28, k28, n28⟩, -, X28, ⟨Lc28, hQ28, l28, y28, z28⟩, st28⟩ := Jvm.LawKit.callS X26 hx (y := (⟨"java/lang/StringLatin1", "equals", "([B[B)Z"⟩ : MethodName)) hown (mvT hZ (hw _ (List.mem_of_getElem? (i := 86) rfl))) (mvT hZ (hw _ (List.mem_of_getElem? (i := 87) rfl))) (mvT hZ (hw _ (List.mem_of_getElem? (i := 61) rfl))) (mvT hZ (hw _ (List.mem_of_getElem? (i := 88) rfl))) (by decide) (backOf (W := 0) (own_m13_t3 l Z a0 hw [] w_value_a1 w_value_a2 kc_w_value_a1 kc_w_value_a2 h0 n0 Z0 V_w_value_a1 V_w_value_a2) hZ (hw _ (List.mem_of_getElem? (i := 88) rfl)) (hw _ (List.mem_of_getElem? (i := 61) rfl)) (by decide) (by decide)) (g := (mkF m 44 #[.val (.ref a1), .val (.ref a2), .val (.ref a2)] [(.ref w_value_a2), (.ref w_value_a1)])) rfl (by rw [hml]; rfl) (argsL := [(.ref w_value_a1), (.ref w_value_a2)]) (rest := []) (lenOf own_pd5 rfl) rfl (by show 2 * 0 + _ ≤ _; exact Nat.le_of_eq rfl) (hb hby own_d12_44) (fun _ _ => ⟨rfl, e26, (by decide : 0 + 0 ≤ _), (by decide : 0 + 0 ≤ _)⟩)
  dsimp only [Pt.U, Pt.locs, Pt.cells, Pt.slots] at X28 l28 y28 z28 st28 hQ28
  subst l28 y28 z28
  rw [show own_f13_t3 = (0 : Int32) from rfl] at hQ28
  obtain ⟨rfl, N28q, e28⟩ := hQ28
  have N28 := Fr.app N0 N28q
  have k29 : own_To p.tables e below (s₁.setTop (entryFrame m #[(.ref a1), (.ref a2)] 3)) T28 (mkF m 47 #[.val (.ref a1), .val (.ref a2), .val (.ref a2)] [(.int (0 : Int32))]) := fun t k => k27 t (st28 t k)
  have k30 : own_To p.tables e below (s₁.setTop (entryFrame m #[(.ref a1), (.ref a2)] 3)) T28 (mkF m 54 #[.val (.ref a1), .val (.ref a2), .val (.ref a2)] []) := fun t k => k29 t (XS.ifYes X28.here hx rfl (pc0 := 47) (pc' := 54) rfl (hb hby own_d12_47) rfl ((if0 _ _).trans (teq (show (0 : Int32) = (0 : Int32) from (by decide))).1) (by decide) (by decide) k)
  have k31 : own_To p.tables e below (s₁.setTop (entryFrame m #[(.ref a1), (.ref a2)] 3)) T28 (mkF m 55 #[.val (.ref a1), .val (.ref a2), .val (.ref a2)] [(.int (0 : Int32))]) := fun t k => k30 t (XS.iconst X28.here hx rfl (hb hby own_d12_54) k)
  obtain ⟨fs, hr, hrun, hended, hW, hsame⟩ := X28.leave (v := some (.int (0 : Int32))) (fun h => by rw [Bd.returns] at h; cases h)
  refine ⟨_, _, k31 _ ?_, hrun, hended, _, _, rfl, ?_, ⟨_, rfl⟩, hW, hsame.mono (by decide) (by decide)⟩
  · exact retN X28 hx (t := .boolean) Bd.returns (by simp) (hb hby own_d12_55) (by first | exact hr | (rw [show nar .boolean (0 : Int32) = (0 : Int32) from by decide]; exact hr))
  · refine ⟨?_, N28, e28⟩
    rw [show (own_f12_t3) = (0 : Int32) from by unfold own_f12_t3; rfl]
def own_f5_t4 : Int32 := (2 : Int32)
set_option maxRecDepth 65536 in
set_option maxHeartbeats 40000000 in
theorem own_m5_t4 (l : Launch) (Z : State) (a0 : Array Value) (hw : ∀ d ∈ tables_1, d.before a0 Z = true) (ws : List Jvm.Cond) (a1 : Addr) (w_value_a1 : Addr) (kc_w_value_a1 : ClassId) (w_COMPACT_STRINGS : Int32) (h0 : Heap) (n0 : Nat) (Z0 : n0 ≤ h0.size) (F_value_a1 : Fld Z h0 a1 "java/lang/String" "value" "[B" (.ref w_value_a1)) (V_w_value_a1 : Arv Z h0 w_value_a1 kc_w_value_a1 .byte (2 : Int32) [(.int (60 : Int32)), (.int (61 : Int32))] (.int (0 : Int32))) (S_COMPACT_STRINGS : Sta Z h0 "java/lang/String" "COMPACT_STRINGS" "Z" (.int w_COMPACT_STRINGS)) (F_coder_a1 : Fld Z h0 a1 "java/lang/String" "coder" "B" (.int (0 : Int32))) (E_a1 : Exa Z h0 a1 "java/lang/String") (hz : ¬ (w_COMPACT_STRINGS = (0 : Int32))) :
    MetFree l (⟨"java/lang/String", "length", "()I"⟩ : MethodName) (head1 (Jvm.Cond.code (⟨"java/lang/String", "length", "()I"⟩ : MethodName) jdk_42_method_54_code 1 (some .int) :: ws) ({ frames := 1, cells := 0, slots := 0, locals := 13 } : Room)) (fun a U => a = #[(.ref a1)] ∧ Z.Warmed39 U.vm ∧ U.heap = h0) (fun _ _ _ _ _ => True) (fun _ U o U' => ∃ v L, o = .returned v ∧ own_Q (some (.int own_f5_t4)) h0 n0 v U'.heap L ∧ FrameEnd U o U' L ({ frames := 1, cells := 0, slots := 0, locals := 13 } : Room).cells ({ frames := 1, cells := 0, slots := 0, locals := 13 } : Room).slots) := by
  refine MetFree.of_bodySF (plainFor_of_name own_pn5) hisR ?_
  intro p e s m args below meth c s₁ Bd hml0 hP hK
  obtain ⟨rfl, hZ, hh⟩ := hP
  have hx := Bd.exec
  have hby := Bd.bytes
  have hml : c.maxLocals = 1 := hml0
  have hown : s.vm.findClass "java/lang/String" = some m.cls := findClass_of_methodNamed Bd.named
  have hnm := (name_of_methodNamed Bd.named Bd.method).1
  have X0 : Stand p l e ({ frames := 1, cells := 0, slots := 0, locals := 13 } : Room) s m #[(.ref a1)] below meth c s₁ [] 0 0 := Stand.of_body Bd
  have e0 : s₁.heap = h0 := by rw [← hh, Bd.state]; rfl
  have N0 := Fr.nil n0
  have k0 : own_To p.tables e below (s₁.setTop (entryFrame m #[(.ref a1)] 1)) s₁ (mkF m 0 #[.val (.ref a1)] []) := fun t k => castTop (own_ef5 m a1) k
  have k1 : own_To p.tables e below (s₁.setTop (entryFrame m #[(.ref a1)] 1)) s₁ (mkF m 1 #[.val (.ref a1)] [(.ref a1)]) := fun t k => k0 t (XS.aloadN X0.here hx rfl (hb hby own_d5_0) rfl rfl k)
  obtain ⟨T2, X2, e2, st2⟩ := getF X0 hx hZ hown (host := "") (Or.inl (hw _ (List.mem_of_getElem? (i := 41) rfl))) Via.refl e0 F_value_a1 (g := (mkF m 1 #[.val (.ref a1)] [(.ref a1)])) rfl rfl (hb hby own_d5_1)
  have k3 : own_To p.tables e below (s₁.setTop (entryFrame m #[(.ref a1)] 1)) T2 (mkF m 4 #[.val (.ref a1)] [(.ref w_value_a1)]) := fun t k => k1 t (st2 t k)
  obtain ⟨cl4, Ar4, qa4, Sa4, Na4, Ha4, Ga4⟩ := id V_w_value_a1
  have k5 : own_To p.tables e below (s₁.setTop (entryFrame m #[(.ref a1)] 1)) T2 (mkF m 5 #[.val (.ref a1)] [(.int (2 : Int32))]) := fun t k => k3 t (X2.arraylength hx (by rw [e2]; exact Ar4.1) (State.isArrayOf_alike hZ.alike Ar4.2.1) (g := (mkF m 4 #[.val (.ref a1)] [(.ref w_value_a1)])) rfl rfl (hb hby own_d5_4) _ (by rw [len_of Sa4 Na4]; exact k))
  have k6 : own_To p.tables e below (s₁.setTop (entryFrame m #[(.ref a1)] 1)) T2 (mkF m 6 #[.val (.ref a1)] [(.ref a1), (.int (2 : Int32))]) := fun t k => k5 t (XS.aloadN X2.here hx rfl (hb hby own_d5_5) rfl rfl k)
  obtain ⟨cq7, kq7, q7a, q7b, q7c⟩ := isOf hZ e2 E_a1
  obtain ⟨_, _, ⟨T7, L7, k7, n7⟩, -, X7, ⟨Lc7, hQ7, l7, y7, z7⟩, st7⟩ := X2.virtualBack hx (y := (⟨"java/lang/String", "coder", "()B"⟩ : MethodName)) (z := (⟨"java/lang/String", "coder", "()B"⟩ : MethodName)) hown (mvT hZ (hw _ (List.mem_of_getElem? (i := 42) rfl))) (mvT hZ (hw _ (List.mem_of_getElem? (i := 43) rfl))) (notFace_of_selects (args := #[]) (mvT hZ (hw _ (List.mem_of_getElem? (i := 45) rfl)))) (mvT hZ (hw _ (List.mem_of_getElem? (i := 45) rfl))) (mvT hZ (hw _ (List.mem_of_getElem? (i := 44) rfl))) (by decide) (backOf (W := 1) (own_m6 l Z a0 hw [] a1 w_COMPACT_STRINGS h0 n0 Z0 S_COMPACT_STRINGS F_coder_a1 hz) hZ (hw _ (List.mem_of_getElem? (i := 46) rfl)) (hw _ (List.mem_of_getElem? (i := 29) rfl)) (by decide) (by decide)) q7a q7c (g := (mkF m 6 #[.val (.ref a1)] [(.ref a1), (.int (2 : Int32))])) rfl (by rw [hml]; rfl) (Steps.refl _) (argsL := []) (rest := [(.int (2 : Int32))]) (lenOf own_pd1 rfl) rfl (by show 2 * 0 + _ ≤ _; exact Nat.le_of_eq rfl) (hb hby own_d5_6) (fun _ _ => ⟨rfl, e2, (by decide : 0 + 0 ≤ _), (by decide : 0 + 0 ≤ _)⟩)
  dsimp only [Pt.U, Pt.locs, Pt.cells, Pt.slots] at X7 l7 y7 z7 st7 hQ7
  subst l7 y7 z7
  rw [show own_f6 = (0 : Int32) from rfl] at hQ7
  obtain ⟨rfl, N7q, e7⟩ := hQ7
  have N7 := Fr.app N0 N7q
  have k8 : own_To p.tables e below (s₁.setTop (entryFrame m #[(.ref a1)] 1)) T7 (mkF m 9 #[.val (.ref a1)] [(.int (0 : Int32)), (.int (2 : Int32))]) := fun t k => k6 t (st7.trans k)
  have k9 : own_To p.tables e below (s₁.setTop (entryFrame m #[(.ref a1)] 1)) T7 (mkF m 10 #[.val (.ref a1)] [(.int (2 : Int32))]) := fun t k => k8 t (XS.ishr X7.here hx rfl (hb hby own_d5_9) rfl (by rw [show ((2 : Int32) >>> ((0 : Int32) &&& 31)) = (2 : Int32) from by decide]; exact k))
  obtain ⟨fs, hr, hrun, hended, hW, hsame⟩ := X7.leave (v := some (.int (2 : Int32))) (fun h => by rw [Bd.returns] at h; cases h)
  refine ⟨_, _, k9 _ ?_, hrun, hended, _, _, rfl, ?_, ⟨_, rfl⟩, hW, hsame.mono (by decide) (by decide)⟩
  · exact retI X7 hx Bd.returns (hb hby own_d5_10) hr
  · refine ⟨?_, N7, e7⟩
    rw [show (own_f5_t4) = (2 : Int32) from by unfold own_f5_t4; rfl]
def own_f9_t4 : Int32 := (60 : Int32)
set_option maxRecDepth 65536 in
set_option maxHeartbeats 40000000 in
theorem own_m9_t4 (l : Launch) (Z : State) (a0 : Array Value) (hw : ∀ d ∈ tables_1, d.before a0 Z = true) (ws : List Jvm.Cond) (a1 : Addr) (kc_a1 : ClassId) (w_SIOOBE_FORMATTER : Value) (h0 : Heap) (n0 : Nat) (Z0 : n0 ≤ h0.size) (V_a1 : Arv Z h0 a1 kc_a1 .byte (2 : Int32) [(.int (60 : Int32)), (.int (61 : Int32))] (.int (0 : Int32))) (S_SIOOBE_FORMATTER : Sta Z h0 "jdk/internal/util/Preconditions" "SIOOBE_FORMATTER" "Ljava/util/function/BiFunction;" w_SIOOBE_FORMATTER) (hrS : w_SIOOBE_FORMATTER.isRef = true) :
    MetFree l (⟨"java/lang/StringLatin1", "charAt", "([BI)C"⟩ : MethodName) (head1 (Jvm.Cond.code (⟨"java/lang/StringLatin1", "charAt", "([BI)C"⟩ : MethodName) jdk_43_method_2_code 2 (some .char) :: ws) ({ frames := 2, cells := 0, slots := 0, locals := 27 } : Room)) (fun a U => a = #[(.ref a1), (.int (0 : Int32))] ∧ Z.Warmed39 U.vm ∧ U.heap = h0) (fun _ _ _ _ _ => True) (fun _ U o U' => ∃ v L, o = .returned v ∧ own_Q (some (.int own_f9_t4)) h0 n0 v U'.heap L ∧ FrameEnd U o U' L ({ frames := 2, cells := 0, slots := 0, locals := 27 } : Room).cells ({ frames := 2, cells := 0, slots := 0, locals := 27 } : Room).slots) := by
  refine MetFree.of_bodySF (plainFor_of_name own_pn9) hisR ?_
  intro p e s m args below meth c s₁ Bd hml0 hP hK
  obtain ⟨rfl, hZ, hh⟩ := hP
  have hx := Bd.exec
  have hby := Bd.bytes
  have hml : c.maxLocals = 2 := hml0
  have hown : s.vm.findClass "java/lang/StringLatin1" = some m.cls := findClass_of_methodNamed Bd.named
  have hnm := (name_of_methodNamed Bd.named Bd.method).1
  have X0 : Stand p l e ({ frames := 2, cells := 0, slots := 0, locals := 27 } : Room) s m #[(.ref a1), (.int (0 : Int32))] below meth c s₁ [] 0 0 := Stand.of_body Bd
  have e0 : s₁.heap = h0 := by rw [← hh, Bd.state]; rfl
  have N0 := Fr.nil n0
  have k0 : own_To p.tables e below (s₁.setTop (entryFrame m #[(.ref a1), (.int (0 : Int32))] 2)) s₁ (mkF m 0 #[.val (.ref a1), .val (.int (0 : Int32))] []) := fun t k => castTop (own_ef9_10 m a1) k
  have k1 : own_To p.tables e below (s₁.setTop (entryFrame m #[(.ref a1), (.int (0 : Int32))] 2)) s₁ (mkF m 1 #[.val (.ref a1), .val (.int (0 : Int32))] [(.int (0 : Int32))]) := fun t k => k0 t (XS.iloadN X0.here hx rfl (hb hby own_d9_0) rfl k)
  have k2 : own_To p.tables e below (s₁.setTop (entryFrame m #[(.ref a1), (.int (0 : Int32))] 2)) s₁ (mkF m 2 #[.val (.ref a1), .val (.int (0 : Int32))] [(.ref a1), (.int (0 : Int32))]) := fun t k => k1 t (XS.aloadN X0.here hx rfl (hb hby own_d9_1) rfl rfl k)
  obtain ⟨cl3, Ar3, qa3, Sa3, Na3, Ha3, Ga3⟩ := id V_a1
  have k4 : own_To p.tables e below (s₁.setTop (entryFrame m #[(.ref a1), (.int (0 : Int32))] 2)) s₁ (mkF m 3 #[.val (.ref a1), .val (.int (0 : Int32))] [(.int (2 : Int32)), (.int (0 : Int32))]) := fun t k => k2 t (X0.arraylength hx (by rw [e0]; exact Ar3.1) (State.isArrayOf_alike hZ.alike Ar3.2.1) (g := (mkF m 2 #[.val (.ref a1), .val (.int (0 : Int32))] [(.ref a1), (.int (0 : Int32))])) rfl rfl (hb hby own_d9_2) _ (by rw [len_of Sa3 Na3]; exact k))
  obtain ⟨_, _, ⟨T5, L5, k5, n5⟩, -, X5, ⟨Lc5, hQ5, l5, y5, z5⟩, st5⟩ := Jvm.LawKit.callS X0 hx (y := (⟨"java/lang/String", "checkIndex", "(II)V"⟩ : MethodName)) hown (mvT hZ (hw _ (List.mem_of_getElem? (i := 63) rfl))) (mvT hZ (hw _ (List.mem_of_getElem? (i := 64) rfl))) (mvT hZ (hw _ (List.mem_of_getElem? (i := 29) rfl))) (mvT hZ (hw _ (List.mem_of_getElem? (i := 65) rfl))) (by decide) (backOf (W := 0) (own_m10_2 l Z a0 hw [] w_SIOOBE_FORMATTER h0 n0 Z0 S_SIOOBE_FORMATTER hrS) hZ (hw _ (List.mem_of_getElem? (i := 65) rfl)) (hw _ (List.mem_of_getElem? (i := 29) rfl)) (by decide) (by decide)) (g := (mkF m 3 #[.val (.ref a1), .val (.int (0 : Int32))] [(.int (2 : Int32)), (.int (0 : Int32))])) rfl (by rw [hml]; rfl) (argsL := [(.int (0 : Int32)), (.int (2 : Int32))]) (rest := []) (lenOf own_pd2 rfl) rfl (by show 2 * 0 + _ ≤ _; exact Nat.le_of_eq rfl) (hb hby own_d9_3) (fun _ _ => ⟨rfl, e0, (by decide : 0 + 0 ≤ _), (by decide : 0 + 0 ≤ _)⟩)
  dsimp only [Pt.U, Pt.locs, Pt.cells, Pt.slots] at X5 l5 y5 z5 st5 hQ5
  subst l5 y5 z5
  obtain ⟨rfl, N5q, e5⟩ := hQ5
  have N5 := Fr.app N0 N5q
  have k6 : own_To p.tables e below (s₁.setTop (entryFrame m #[(.ref a1), (.int (0 : Int32))] 2)) T5 (mkF m 6 #[.val (.ref a1), .val (.int (0 : Int32))] []) := fun t k => k4 t (st5 t k)
  have k7 : own_To p.tables e below (s₁.setTop (entryFrame m #[(.ref a1), (.int (0 : Int32))] 2)) T5 (mkF m 7 #[.val (.ref a1), .val (.int (0 : Int32))] [(.ref a1)]) := fun t k => k6 t (XS.aloadN X5.here hx rfl (hb hby own_d9_6) rfl rfl k)
  have k8 : own_To p.tables e below (s₁.setTop (entryFrame m #[(.ref a1), (.int (0 : Int32))] 2)) T5 (mkF m 8 #[.val (.ref a1), .val (.int (0 : Int32))] [(.int (0 : Int32)), (.ref a1)]) := fun t k => k7 t (XS.iloadN X5.here hx rfl (hb hby own_d9_7) rfl k)
  obtain ⟨cl9, Ar9, qa9, Sa9, Na9, Ha9, Ga9⟩ := id V_a1
  have at9 : cl9.slots[((0 : Int32)).toNatClampNeg]? = some (.int (60 : Int32)) := Ha9.at (own_inb Sa9 (show (0 : Int32) = Nat.toInt32 0 from by decide) (show 0 < ((2 : Int32)).toNatClampNeg from by decide)) (by rw [own_idx (show (0 : Int32) = Nat.toInt32 0 from by decide) (by omega)]; exact rfl)
  have k10 : own_To p.tables e below (s₁.setTop (entryFrame m #[(.ref a1), (.int (0 : Int32))] 2)) T5 (mkF m 9 #[.val (.ref a1), .val (.int (0 : Int32))] [(.int (60 : Int32))]) := fun t k => k8 t (X5.baloadBytes hx (j := (0 : Int32)) (v := (.int (60 : Int32))) (by rw [e5]; exact Ar9.1) (State.isArrayOf_alike hZ.alike Ar9.2.1) Ar9.2.2 (own_inb Sa9 (show (0 : Int32) = Nat.toInt32 0 from by decide) (show 0 < ((2 : Int32)).toNatClampNeg from by decide)) at9 (g := (mkF m 8 #[.val (.ref a1), .val (.int (0 : Int32))] [(.int (0 : Int32)), (.ref a1)])) rfl rfl (hb hby own_d9_8) _ k)
  have k11 : own_To p.tables e below (s₁.setTop (entryFrame m #[(.ref a1), (.int (0 : Int32))] 2)) T5 (mkF m 12 #[.val (.ref a1), .val (.int (0 : Int32))] [(.int (255 : Int32)), (.int (60 : Int32))]) := fun t k => k10 t (XS.sipush X5.here hx rfl (hb hby own_d9_9) k)
  have k12 : own_To p.tables e below (s₁.setTop (entryFrame m #[(.ref a1), (.int (0 : Int32))] 2)) T5 (mkF m 13 #[.val (.ref a1), .val (.int (0 : Int32))] [(.int (60 : Int32))]) := fun t k => k11 t (XS.iand X5.here hx rfl (hb hby own_d9_12) rfl (by rw [show ((60 : Int32) &&& (255 : Int32)) = (60 : Int32) from by decide]; exact k))
  have k13 : own_To p.tables e below (s₁.setTop (entryFrame m #[(.ref a1), (.int (0 : Int32))] 2)) T5 (mkF m 14 #[.val (.ref a1), .val (.int (0 : Int32))] [(.int (60 : Int32))]) := fun t k => k12 t (XS.i2c X5.here hx rfl (hb hby own_d9_13) rfl (by rw [show ((60 : Int32).toUInt32.toUInt16.toUInt32.toInt32) = (60 : Int32) from by decide]; exact k))
  obtain ⟨fs, hr, hrun, hended, hW, hsame⟩ := X5.leave (v := some (.int (60 : Int32))) (fun h => by rw [Bd.returns] at h; cases h)
  refine ⟨_, _, k13 _ ?_, hrun, hended, _, _, rfl, ?_, ⟨_, rfl⟩, hW, hsame.mono (by decide) (by decide)⟩
  · exact retN X5 hx (t := .char) Bd.returns (by simp) (hb hby own_d9_14) (by first | exact hr | (rw [show nar .char (60 : Int32) = (60 : Int32) from by decide]; exact hr))
  · refine ⟨?_, N5, e5⟩
    rw [show (own_f9_t4) = (60 : Int32) from by unfold own_f9_t4; rfl]
def own_f7_t4 : Int32 := (60 : Int32)
set_option maxRecDepth 65536 in
set_option maxHeartbeats 40000000 in
theorem own_m7_t4 (l : Launch) (Z : State) (a0 : Array Value) (hw : ∀ d ∈ tables_1, d.before a0 Z = true) (ws : List Jvm.Cond) (a1 : Addr) (w_COMPACT_STRINGS : Int32) (w_value_a1 : Addr) (kc_w_value_a1 : ClassId) (w_SIOOBE_FORMATTER : Value) (h0 : Heap) (n0 : Nat) (Z0 : n0 ≤ h0.size) (S_COMPACT_STRINGS : Sta Z h0 "java/lang/String" "COMPACT_STRINGS" "Z" (.int w_COMPACT_STRINGS)) (F_coder_a1 : Fld Z h0 a1 "java/lang/String" "coder" "B" (.int (0 : Int32))) (E_a1 : Exa Z h0 a1 "java/lang/String") (F_value_a1 : Fld Z h0 a1 "java/lang/String" "value" "[B" (.ref w_value_a1)) (V_w_value_a1 : Arv Z h0 w_value_a1 kc_w_value_a1 .byte (2 : Int32) [(.int (60 : Int32)), (.int (61 : Int32))] (.int (0 : Int32))) (S_SIOOBE_FORMATTER : Sta Z h0 "jdk/internal/util/Preconditions" "SIOOBE_FORMATTER" "Ljava/util/function/BiFunction;" w_SIOOBE_FORMATTER) (hz : ¬ (w_COMPACT_STRINGS = (0 : Int32))) (hrS : w_SIOOBE_FORMATTER.isRef = true) :
    MetFree l (⟨"java/lang/String", "charAt", "(I)C"⟩ : MethodName) (head1 (Jvm.Cond.code (⟨"java/lang/String", "charAt", "(I)C"⟩ : MethodName) jdk_42_method_56_code 2 (some .char) :: ws) ({ frames := 3, cells := 0, slots := 0, locals := 40 } : Room)) (fun a U => a = #[(.ref a1), (.int (0 : Int32))] ∧ Z.Warmed39 U.vm ∧ U.heap = h0) (fun _ _ _ _ _ => True) (fun _ U o U' => ∃ v L, o = .returned v ∧ own_Q (some (.int own_f7_t4)) h0 n0 v U'.heap L ∧ FrameEnd U o U' L ({ frames := 3, cells := 0, slots := 0, locals := 40 } : Room).cells ({ frames := 3, cells := 0, slots := 0, locals := 40 } : Room).slots) := by
  refine MetFree.of_bodySF (plainFor_of_name own_pn7) hisR ?_
  intro p e s m args below meth c s₁ Bd hml0 hP hK
  obtain ⟨rfl, hZ, hh⟩ := hP
  have hx := Bd.exec
  have hby := Bd.bytes
  have hml : c.maxLocals = 2 := hml0
  have hown : s.vm.findClass "java/lang/String" = some m.cls := findClass_of_methodNamed Bd.named
  have hnm := (name_of_methodNamed Bd.named Bd.method).1
  have X0 : Stand p l e ({ frames := 3, cells := 0, slots := 0, locals := 40 } : Room) s m #[(.ref a1), (.int (0 : Int32))] below meth c s₁ [] 0 0 := Stand.of_body Bd
  have e0 : s₁.heap = h0 := by rw [← hh, Bd.state]; rfl
  have N0 := Fr.nil n0
  have k0 : own_To p.tables e below (s₁.setTop (entryFrame m #[(.ref a1), (.int (0 : Int32))] 2)) s₁ (mkF m 0 #[.val (.ref a1), .val (.int (0 : Int32))] []) := fun t k => castTop (own_ef7_10 m a1) k
  have k1 : own_To p.tables e below (s₁.setTop (entryFrame m #[(.ref a1), (.int (0 : Int32))] 2)) s₁ (mkF m 1 #[.val (.ref a1), .val (.int (0 : Int32))] [(.ref a1)]) := fun t k => k0 t (XS.aloadN X0.here hx rfl (hb hby own_d7_0) rfl rfl k)
  obtain ⟨cq2, kq2, q2a, q2b, q2c⟩ := isOf hZ e0 E_a1
  obtain ⟨_, _, ⟨T2, L2, k2, n2⟩, -, X2, ⟨Lc2, hQ2, l2, y2, z2⟩, st2⟩ := X0.virtualBack hx (y := (⟨"java/lang/String", "isLatin1", "()Z"⟩ : MethodName)) (z := (⟨"java/lang/String", "isLatin1", "()Z"⟩ : MethodName)) hown (mvT hZ (hw _ (List.mem_of_getElem? (i := 54) rfl))) (mvT hZ (hw _ (List.mem_of_getElem? (i := 55) rfl))) (notFace_of_selects (args := #[]) (mvT hZ (hw _ (List.mem_of_getElem? (i := 57) rfl)))) (mvT hZ (hw _ (List.mem_of_getElem? (i := 57) rfl))) (mvT hZ (hw _ (List.mem_of_getElem? (i := 56) rfl))) (by decide) (backOf (W := 0) (own_m8 l Z a0 hw [] a1 w_COMPACT_STRINGS h0 n0 Z0 S_COMPACT_STRINGS F_coder_a1 hz) hZ (hw _ (List.mem_of_getElem? (i := 58) rfl)) (hw _ (List.mem_of_getElem? (i := 29) rfl)) (by decide) (by decide)) q2a q2c (g := (mkF m 1 #[.val (.ref a1), .val (.int (0 : Int32))] [(.ref a1)])) rfl (by rw [hml]; rfl) (Steps.refl _) (argsL := []) (rest := []) (lenOf own_pd3 rfl) rfl (by show 2 * 0 + _ ≤ _; exact Nat.le_of_eq rfl) (hb hby own_d7_1) (fun _ _ => ⟨rfl, e0, (by decide : 0 + 0 ≤ _), (by decide : 0 + 0 ≤ _)⟩)
  dsimp only [Pt.U, Pt.locs, Pt.cells, Pt.slots] at X2 l2 y2 z2 st2 hQ2
  subst l2 y2 z2
  rw [show own_f8 = (1 : Int32) from rfl] at hQ2
  obtain ⟨rfl, N2q, e2⟩ := hQ2
  have N2 := Fr.app N0 N2q
  have k3 : own_To p.tables e below (s₁.setTop (entryFrame m #[(.ref a1), (.int (0 : Int32))] 2)) T2 (mkF m 4 #[.val (.ref a1), .val (.int (0 : Int32))] [(.int (1 : Int32))]) := fun t k => k1 t (st2.trans k)
  have k4 : own_To p.tables e below (s₁.setTop (entryFrame m #[(.ref a1), (.int (0 : Int32))] 2)) T2 (mkF m 7 #[.val (.ref a1), .val (.int (0 : Int32))] []) := fun t k => k3 t (XS.ifNo X2.here hx rfl (hb hby own_d7_4) rfl ((if0 _ _).trans (feq (show ¬ ((1 : Int32) = (0 : Int32)) from (by decide))).1) k)
  have k5 : own_To p.tables e below (s₁.setTop (entryFrame m #[(.ref a1), (.int (0 : Int32))] 2)) T2 (mkF m 8 #[.val (.ref a1), .val (.int (0 : Int32))] [(.ref a1)]) := fun t k => k4 t (XS.aloadN X2.here hx rfl (hb hby own_d7_7) rfl rfl k)
  obtain ⟨T6, X6, e6, st6⟩ := getF X2 hx hZ hown (host := "") (Or.inl (hw _ (List.mem_of_getElem? (i := 41) rfl))) Via.refl e2 F_value_a1 (g := (mkF m 8 #[.val (.ref a1), .val (.int (0 : Int32))] [(.ref a1)])) rfl rfl (hb hby own_d7_8)
  have k7 : own_To p.tables e below (s₁.setTop (entryFrame m #[(.ref a1), (.int (0 : Int32))] 2)) T6 (mkF m 11 #[.val (.ref a1), .val (.int (0 : Int32))] [(.ref w_value_a1)]) := fun t k => k5 t (st6 t k)
  have k8 : own_To p.tables e below (s₁.setTop (entryFrame m #[(.ref a1), (.int (0 : Int32))] 2)) T6 (mkF m 12 #[.val (.ref a1), .val (.int (0 : Int32))] [(.int (0 : Int32)), (.ref w_value_a1)]) := fun t k => k7 t (XS.iloadN X6.here hx rfl (hb hby own_d7_11) rfl k)
  obtain ⟨_, _, ⟨T9, L9, k9, n9⟩, -, X9, ⟨Lc9, hQ9, l9, y9, z9⟩, st9⟩ := Jvm.LawKit.callS X6 hx (y := (⟨"java/lang/StringLatin1", "charAt", "([BI)C"⟩ : MethodName)) hown (mvT hZ (hw _ (List.mem_of_getElem? (i := 59) rfl))) (mvT hZ (hw _ (List.mem_of_getElem? (i := 60) rfl))) (mvT hZ (hw _ (List.mem_of_getElem? (i := 61) rfl))) (mvT hZ (hw _ (List.mem_of_getElem? (i := 62) rfl))) (by decide) (backOf (W := 0) (own_m9_t4 l Z a0 hw [] w_value_a1 kc_w_value_a1 w_SIOOBE_FORMATTER h0 n0 Z0 V_w_value_a1 S_SIOOBE_FORMATTER hrS) hZ (hw _ (List.mem_of_getElem? (i := 62) rfl)) (hw _ (List.mem_of_getElem? (i := 61) rfl)) (by decide) (by decide)) (g := (mkF m 12 #[.val (.ref a1), .val (.int (0 : Int32))] [(.int (0 : Int32)), (.ref w_value_a1)])) rfl (by rw [hml]; rfl) (argsL := [(.ref w_value_a1), (.int (0 : Int32))]) (rest := []) (lenOf own_pd4 rfl) rfl (by show 2 * 0 + _ ≤ _; exact Nat.le_of_eq rfl) (hb hby own_d7_12) (fun _ _ => ⟨rfl, e6, (by decide : 0 + 0 ≤ _), (by decide : 0 + 0 ≤ _)⟩)
  dsimp only [Pt.U, Pt.locs, Pt.cells, Pt.slots] at X9 l9 y9 z9 st9 hQ9
  subst l9 y9 z9
  rw [show own_f9_t4 = (60 : Int32) from rfl] at hQ9
  obtain ⟨rfl, N9q, e9⟩ := hQ9
  have N9 := Fr.app N2 N9q
  have k10 : own_To p.tables e below (s₁.setTop (entryFrame m #[(.ref a1), (.int (0 : Int32))] 2)) T9 (mkF m 15 #[.val (.ref a1), .val (.int (0 : Int32))] [(.int (60 : Int32))]) := fun t k => k8 t (st9 t k)
  obtain ⟨fs, hr, hrun, hended, hW, hsame⟩ := X9.leave (v := some (.int (60 : Int32))) (fun h => by rw [Bd.returns] at h; cases h)
  refine ⟨_, _, k10 _ ?_, hrun, hended, _, _, rfl, ?_, ⟨_, rfl⟩, hW, hsame.mono (by decide) (by decide)⟩
  · exact retN X9 hx (t := .char) Bd.returns (by simp) (hb hby own_d7_15) (by first | exact hr | (rw [show nar .char (60 : Int32) = (60 : Int32) from by decide]; exact hr))
  · refine ⟨?_, N9, e9⟩
    rw [show (own_f7_t4) = (60 : Int32) from by unfold own_f7_t4; rfl]
theorem own_d13_24 : decode jdk_43_method_13_code 24 = .ok (.iconst 0, 1) := by decide +kernel
theorem own_d13_25 : decode jdk_43_method_13_code 25 = .ok (.ireturn, 1) := by decide +kernel
def own_f13_t4 : Int32 := (0 : Int32)
set_option maxRecDepth 65536 in
set_option maxHeartbeats 40000000 in
theorem own_m13_t4 (l : Launch) (Z : State) (a0 : Array Value) (hw : ∀ d ∈ tables_1, d.before a0 Z = true) (ws : List Jvm.Cond) (a1 : Addr) (a2 : Addr) (kc_a1 : ClassId) (kc_a2 : ClassId) (h0 : Heap) (n0 : Nat) (Z0 : n0 ≤ h0.size) (V_a1 : Arv Z h0 a1 kc_a1 .byte (2 : Int32) [(.int (60 : Int32)), (.int (61 : Int32))] (.int (0 : Int32))) (V_a2 : Arv Z h0 a2 kc_a2 .byte (2 : Int32) [(.int (60 : Int32)), (.int (62 : Int32))] (.int (0 : Int32))) :
    MetFree l (⟨"java/lang/StringLatin1", "equals", "([B[B)Z"⟩ : MethodName) (head1 (Jvm.Cond.code (⟨"java/lang/StringLatin1", "equals", "([B[B)Z"⟩ : MethodName) jdk_43_method_13_code 3 (some .boolean) :: ws) ({ frames := 0, cells := 0, slots := 0, locals := 0 } : Room)) (fun a U => a = #[(.ref a1), (.ref a2)] ∧ Z.Warmed39 U.vm ∧ U.heap = h0) (fun _ _ _ _ _ => True) (fun _ U o U' => ∃ v L, o = .returned v ∧ own_Q (some (.int own_f13_t4)) h0 n0 v U'.heap L ∧ FrameEnd U o U' L ({ frames := 0, cells := 0, slots := 0, locals := 0 } : Room).cells ({ frames := 0, cells := 0, slots := 0, locals := 0 } : Room).slots) := by
  refine MetFree.of_bodySF (plainFor_of_name own_pn13) hisR ?_
  intro p e s m args below meth c s₁ Bd hml0 hP hK
  obtain ⟨rfl, hZ, hh⟩ := hP
  have hx := Bd.exec
  have hby := Bd.bytes
  have hml : c.maxLocals = 3 := hml0
  have hown : s.vm.findClass "java/lang/StringLatin1" = some m.cls := findClass_of_methodNamed Bd.named
  have hnm := (name_of_methodNamed Bd.named Bd.method).1
  have X0 : Stand p l e ({ frames := 0, cells := 0, slots := 0, locals := 0 } : Room) s m #[(.ref a1), (.ref a2)] below meth c s₁ [] 0 0 := Stand.of_body Bd
  have e0 : s₁.heap = h0 := by rw [← hh, Bd.state]; rfl
  have N0 := Fr.nil n0
  have k0 : own_To p.tables e below (s₁.setTop (entryFrame m #[(.ref a1), (.ref a2)] 3)) s₁ (mkF m 0 #[.val (.ref a1), .val (.ref a2), .unset] []) := fun t k => castTop (own_ef13 m a1 a2) k
  have k1 : own_To p.tables e below (s₁.setTop (entryFrame m #[(.ref a1), (.ref a2)] 3)) s₁ (mkF m 1 #[.val (.ref a1), .val (.ref a2), .unset] [(.ref a1)]) := fun t k => k0 t (XS.aloadN X0.here hx rfl (hb hby own_d13_0) rfl rfl k)
  obtain ⟨cl2, Ar2, qa2, Sa2, Na2, Ha2, Ga2⟩ := id V_a1
  have k3 : own_To p.tables e below (s₁.setTop (entryFrame m #[(.ref a1), (.ref a2)] 3)) s₁ (mkF m 2 #[.val (.ref a1), .val (.ref a2), .unset] [(.int (2 : Int32))]) := fun t k => k1 t (X0.arraylength hx (by rw [e0]; exact Ar2.1) (State.isArrayOf_alike hZ.alike Ar2.2.1) (g := (mkF m 1 #[.val (.ref a1), .val (.ref a2), .unset] [(.ref a1)])) rfl rfl (hb hby own_d13_1) _ (by rw [len_of Sa2 Na2]; exact k))
  have k4 : own_To p.tables e below (s₁.setTop (entryFrame m #[(.ref a1), (.ref a2)] 3)) s₁ (mkF m 3 #[.val (.ref a1), .val (.ref a2), .unset] [(.ref a2), (.int (2 : Int32))]) := fun t k => k3 t (XS.aloadN X0.here hx rfl (hb hby own_d13_2) rfl rfl k)
  obtain ⟨cl5, Ar5, qa5, Sa5, Na5, Ha5, Ga5⟩ := id V_a2
  have k6 : own_To p.tables e below (s₁.setTop (entryFrame m #[(.ref a1), (.ref a2)] 3)) s₁ (mkF m 4 #[.val (.ref a1), .val (.ref a2), .unset] [(.int (2 : Int32)), (.int (2 : Int32))]) := fun t k => k4 t (X0.arraylength hx (by rw [e0]; exact Ar5.1) (State.isArrayOf_alike hZ.alike Ar5.2.1) (g := (mkF m 3 #[.val (.ref a1), .val (.ref a2), .unset] [(.ref a2), (.int (2 : Int32))])) rfl rfl (hb hby own_d13_3) _ (by rw [len_of Sa5 Na5]; exact k))
  have k7 : own_To p.tables e below (s₁.setTop (entryFrame m #[(.ref a1), (.ref a2)] 3)) s₁ (mkF m 7 #[.val (.ref a1), .val (.ref a2), .unset] []) := fun t k => k6 t (XS.icmpNo X0.here hx rfl (hb hby own_d13_4) rfl (teq (show (2 : Int32) = (2 : Int32) from (by decide))).2 k)
  have k8 : own_To p.tables e below (s₁.setTop (entryFrame m #[(.ref a1), (.ref a2)] 3)) s₁ (mkF m 8 #[.val (.ref a1), .val (.ref a2), .unset] [(.int (0 : Int32))]) := fun t k => k7 t (XS.iconst X0.here hx rfl (hb hby own_d13_7) k)
  have k9 : own_To p.tables e below (s₁.setTop (entryFrame m #[(.ref a1), (.ref a2)] 3)) s₁ (mkF m 9 #[.val (.ref a1), .val (.ref a2), .val (.int (0 : Int32))] []) := fun t k => k8 t (XS.istoreN X0.here hx rfl (hb hby own_d13_8) rfl (l' := #[.val (.ref a1), .val (.ref a2), .val (.int (0 : Int32))]) rfl k)
  have k10 : own_To p.tables e below (s₁.setTop (entryFrame m #[(.ref a1), (.ref a2)] 3)) s₁ (mkF m 10 #[.val (.ref a1), .val (.ref a2), .val (.int (0 : Int32))] [(.int (0 : Int32))]) := fun t k => k9 t (XS.iloadN X0.here hx rfl (hb hby own_d13_9) rfl k)
  have k11 : own_To p.tables e below (s₁.setTop (entryFrame m #[(.ref a1), (.ref a2)] 3)) s₁ (mkF m 11 #[.val (.ref a1), .val (.ref a2), .val (.int (0 : Int32))] [(.ref a1), (.int (0 : Int32))]) := fun t k => k10 t (XS.aloadN X0.here hx rfl (hb hby own_d13_10) rfl rfl k)
  obtain ⟨cl12, Ar12, qa12, Sa12, Na12, Ha12, Ga12⟩ := id V_a1
  have k13 : own_To p.tables e below (s₁.setTop (entryFrame m #[(.ref a1), (.ref a2)] 3)) s₁ (mkF m 12 #[.val (.ref a1), .val (.ref a2), .val (.int (0 : Int32))] [(.int (2 : Int32)), (.int (0 : Int32))]) := fun t k => k11 t (X0.arraylength hx (by rw [e0]; exact Ar12.1) (State.isArrayOf_alike hZ.alike Ar12.2.1) (g := (mkF m 11 #[.val (.ref a1), .val (.ref a2), .val (.int (0 : Int32))] [(.ref a1), (.int (0 : Int32))])) rfl rfl (hb hby own_d13_11) _ (by rw [len_of Sa12 Na12]; exact k))
  have k14 : own_To p.tables e below (s₁.setTop (entryFrame m #[(.ref a1), (.ref a2)] 3)) s₁ (mkF m 15 #[.val (.ref a1), .val (.ref a2), .val (.int (0 : Int32))] []) := fun t k => k13 t (XS.icmpNo X0.here hx rfl (hb hby own_d13_12) rfl (tlt (show (0 : Int32) < (2 : Int32) from (by decide))).2.1 k)
  have k15 : own_To p.tables e below (s₁.setTop (entryFrame m #[(.ref a1), (.ref a2)] 3)) s₁ (mkF m 16 #[.val (.ref a1), .val (.ref a2), .val (.int (0 : Int32))] [(.ref a1)]) := fun t k => k14 t (XS.aloadN X0.here hx rfl (hb hby own_d13_15) rfl rfl k)
  have k16 : own_To p.tables e below (s₁.setTop (entryFrame m #[(.ref a1), (.ref a2)] 3)) s₁ (mkF m 17 #[.val (.ref a1), .val (.ref a2), .val (.int (0 : Int32))] [(.int (0 : Int32)), (.ref a1)]) := fun t k => k15 t (XS.iloadN X0.here hx rfl (hb hby own_d13_16) rfl k)
  obtain ⟨cl17, Ar17, qa17, Sa17, Na17, Ha17, Ga17⟩ := id V_a1
  have at17 : cl17.slots[((0 : Int32)).toNatClampNeg]? = some (.int (60 : Int32)) := Ha17.at (own_inb Sa17 (show (0 : Int32) = Nat.toInt32 0 from by decide) (show 0 < ((2 : Int32)).toNatClampNeg from by decide)) (by rw [own_idx (show (0 : Int32) = Nat.toInt32 0 from by decide) (by omega)]; exact rfl)
  have k18 : own_To p.tables e below (s₁.setTop (entryFrame m #[(.ref a1), (.ref a2)] 3)) s₁ (mkF m 18 #[.val (.ref a1), .val (.ref a2), .val (.int (0 : Int32))] [(.int (60 : Int32))]) := fun t k => k16 t (X0.baloadBytes hx (j := (0 : Int32)) (v := (.int (60 : Int32))) (by rw [e0]; exact Ar17.1) (State.isArrayOf_alike hZ.alike Ar17.2.1) Ar17.2.2 (own_inb Sa17 (show (0 : Int32) = Nat.toInt32 0 from by decide) (show 0 < ((2 : Int32)).toNatClampNeg from by decide)) at17 (g := (mkF m 17 #[.val (.ref a1), .val (.ref a2), .val (.int (0 : Int32))] [(.int (0 : Int32)), (.ref a1)])) rfl rfl (hb hby own_d13_17) _ k)
  have k19 : own_To p.tables e below (s₁.setTop (entryFrame m #[(.ref a1), (.ref a2)] 3)) s₁ (mkF m 19 #[.val (.ref a1), .val (.ref a2), .val (.int (0 : Int32))] [(.ref a2), (.int (60 : Int32))]) := fun t k => k18 t (XS.aloadN X0.here hx rfl (hb hby own_d13_18) rfl rfl k)
  have k20 : own_To p.tables e below (s₁.setTop (entryFrame m #[(.ref a1), (.ref a2)] 3)) s₁ (mkF m 20 #[.val (.ref a1), .val (.ref a2), .val (.int (0 : Int32))] [(.int (0 : Int32)), (.ref a2), (.int (60 : Int32))]) := fun t k => k19 t (XS.iloadN X0.here hx rfl (hb hby own_d13_19) rfl k)
  obtain ⟨cl21, Ar21, qa21, Sa21, Na21, Ha21, Ga21⟩ := id V_a2
  have at21 : cl21.slots[((0 : Int32)).toNatClampNeg]? = some (.int (60 : Int32)) := Ha21.at (own_inb Sa21 (show (0 : Int32) = Nat.toInt32 0 from by decide) (show 0 < ((2 : Int32)).toNatClampNeg from by decide)) (by rw [own_idx (show (0 : Int32) = Nat.toInt32 0 from by decide) (by omega)]; exact rfl)
  have k22 : own_To p.tables e below (s₁.setTop (entryFrame m #[(.ref a1), (.ref a2)] 3)) s₁ (mkF m 21 #[.val (.ref a1), .val (.ref a2), .val (.int (0 : Int32))] [(.int (60 : Int32)), (.int (60 : Int32))]) := fun t k => k20 t (X0.baloadBytes hx (j := (0 : Int32)) (v := (.int (60 : Int32))) (by rw [e0]; exact Ar21.1) (State.isArrayOf_alike hZ.alike Ar21.2.1) Ar21.2.2 (own_inb Sa21 (show (0 : Int32) = Nat.toInt32 0 from by decide) (show 0 < ((2 : Int32)).toNatClampNeg from by decide)) at21 (g := (mkF m 20 #[.val (.ref a1), .val (.ref a2), .val (.int (0 : Int32))] [(.int (0 : Int32)), (.ref a2), (.int (60 : Int32))])) rfl rfl (hb hby own_d13_20) _ k)
  have k23 : own_To p.tables e below (s₁.setTop (entryFrame m #[(.ref a1), (.ref a2)] 3)) s₁ (mkF m 26 #[.val (.ref a1), .val (.ref a2), .val (.int (0 : Int32))] []) := fun t k => k22 t (XS.icmpYes X0.here hx rfl (pc0 := 21) (pc' := 26) rfl (hb hby own_d13_21) rfl (teq (show (60 : Int32) = (60 : Int32) from (by decide))).1 (by decide) (by decide) k)
  have k24 : own_To p.tables e below (s₁.setTop (entryFrame m #[(.ref a1), (.ref a2)] 3)) s₁ (mkF m 29 #[.val (.ref a1), .val (.ref a2), .val (.int (1 : Int32))] []) := fun t k => k23 t (XS.iinc X0.here hx rfl (hb hby own_d13_26) rfl (l' := #[.val (.ref a1), .val (.ref a2), .val (.int ((0 : Int32) + (1 : Int32)))]) rfl (by rw [show ((0 : Int32) + (1 : Int32)) = (1 : Int32) from by decide]; exact k))
  have k25 : own_To p.tables e below (s₁.setTop (entryFrame m #[(.ref a1), (.ref a2)] 3)) s₁ (mkF m 9 #[.val (.ref a1), .val (.ref a2), .val (.int (1 : Int32))] []) := fun t k => k24 t (XS.goto X0.here hx rfl (pc0 := 29) (pc' := 9) rfl (hb hby own_d13_29) (by decide) (by decide) k)
  have k26 : own_To p.tables e below (s₁.setTop (entryFrame m #[(.ref a1), (.ref a2)] 3)) s₁ (mkF m 10 #[.val (.ref a1), .val (.ref a2), .val (.int (1 : Int32))] [(.int (1 : Int32))]) := fun t k => k25 t (XS.iloadN X0.here hx rfl (hb hby own_d13_9) rfl k)
  have k27 : own_To p.tables e below (s₁.setTop (entryFrame m #[(.ref a1), (.ref a2)] 3)) s₁ (mkF m 11 #[.val (.ref a1), .val (.ref a2), .val (.int (1 : Int32))] [(.ref a1), (.int (1 : Int32))]) := fun t k => k26 t (XS.aloadN X0.here hx rfl (hb hby own_d13_10) rfl rfl k)
  obtain ⟨cl28, Ar28, qa28, Sa28, Na28, Ha28, Ga28⟩ := id V_a1
  have k29 : own_To p.tables e below (s₁.setTop (entryFrame m #[(.ref a1), (.ref a2)] 3)) s₁ (mkF m 12 #[.val (.ref a1), .val (.ref a2), .val (.int (1 : Int32))] [(.int (2 : Int32)), (.int (1 : Int32))]) := fun t k => k27 t (X0.arraylength hx (by rw [e0]; exact Ar28.1) (State.isArrayOf_alike hZ.alike Ar28.2.1) (g := (mkF m 11 #[.val (.ref a1), .val (.ref a2), .val (.int (1 : Int32))] [(.ref a1), (.int (1 : Int32))])) rfl rfl (hb hby own_d13_11) _ (by rw [len_of Sa28 Na28]; exact k))
  have k30 : own_To p.tables e below (s₁.setTop (entryFrame m #[(.ref a1), (.ref a2)] 3)) s₁ (mkF m 15 #[.val (.ref a1), .val (.ref a2), .val (.int (1 : Int32))] []) := fun t k => k29 t (XS.icmpNo X0.here hx rfl (hb hby own_d13_12) rfl (tlt (show (1 : Int32) < (2 : Int32) from (by decide))).2.1 k)
  have k31 : own_To p.tables e below (s₁.setTop (entryFrame m #[(.ref a1), (.ref a2)] 3)) s₁ (mkF m 16 #[.val (.ref a1), .val (.ref a2), .val (.int (1 : Int32))] [(.ref a1)]) := fun t k => k30 t (XS.aloadN X0.here hx rfl (hb hby own_d13_15) rfl rfl k)
  have k32 : own_To p.tables e below (s₁.setTop (entryFrame m #[(.ref a1), (.ref a2)] 3)) s₁ (mkF m 17 #[.val (.ref a1), .val (.ref a2), .val (.int (1 : Int32))] [(.int (1 : Int32)), (.ref a1)]) := fun t k => k31 t (XS.iloadN X0.here hx rfl (hb hby own_d13_16) rfl k)
  obtain ⟨cl33, Ar33, qa33, Sa33, Na33, Ha33, Ga33⟩ := id V_a1
  have at33 : cl33.slots[((1 : Int32)).toNatClampNeg]? = some (.int (61 : Int32)) := Ha33.at (own_inb Sa33 (show (1 : Int32) = Nat.toInt32 1 from by decide) (show 1 < ((2 : Int32)).toNatClampNeg from by decide)) (by rw [own_idx (show (1 : Int32) = Nat.toInt32 1 from by decide) (by omega)]; exact rfl)
  have k34 : own_To p.tables e below (s₁.setTop (entryFrame m #[(.ref a1), (.ref a2)] 3)) s₁ (mkF m 18 #[.val (.ref a1), .val (.ref a2), .val (.int (1 : Int32))] [(.int (61 : Int32))]) := fun t k => k32 t (X0.baloadBytes hx (j := (1 : Int32)) (v := (.int (61 : Int32))) (by rw [e0]; exact Ar33.1) (State.isArrayOf_alike hZ.alike Ar33.2.1) Ar33.2.2 (own_inb Sa33 (show (1 : Int32) = Nat.toInt32 1 from by decide) (show 1 < ((2 : Int32)).toNatClampNeg from by decide)) at33 (g := (mkF m 17 #[.val (.ref a1), .val (.ref a2), .val (.int (1 : Int32))] [(.int (1 : Int32)), (.ref a1)])) rfl rfl (hb hby own_d13_17) _ k)
  have k35 : own_To p.tables e below (s₁.setTop (entryFrame m #[(.ref a1), (.ref a2)] 3)) s₁ (mkF m 19 #[.val (.ref a1), .val (.ref a2), .val (.int (1 : Int32))] [(.ref a2), (.int (61 : Int32))]) := fun t k => k34 t (XS.aloadN X0.here hx rfl (hb hby own_d13_18) rfl rfl k)
  have k36 : own_To p.tables e below (s₁.setTop (entryFrame m #[(.ref a1), (.ref a2)] 3)) s₁ (mkF m 20 #[.val (.ref a1), .val (.ref a2), .val (.int (1 : Int32))] [(.int (1 : Int32)), (.ref a2), (.int (61 : Int32))]) := fun t k => k35 t (XS.iloadN X0.here hx rfl (hb hby own_d13_19) rfl k)
  obtain ⟨cl37, Ar37, qa37, Sa37, Na37, Ha37, Ga37⟩ := id V_a2
  have at37 : cl37.slots[((1 : Int32)).toNatClampNeg]? = some (.int (62 : Int32)) := Ha37.at (own_inb Sa37 (show (1 : Int32) = Nat.toInt32 1 from by decide) (show 1 < ((2 : Int32)).toNatClampNeg from by decide)) (by rw [own_idx (show (1 : Int32) = Nat.toInt32 1 from by decide) (by omega)]; exact rfl)
  have k38 : own_To p.tables e below (s₁.setTop (entryFrame m #[(.ref a1), (.ref a2)] 3)) s₁ (mkF m 21 #[.val (.ref a1), .val (.ref a2), .val (.int (1 : Int32))] [(.int (62 : Int32)), (.int (61 : Int32))]) := fun t k => k36 t (X0.baloadBytes hx (j := (1 : Int32)) (v := (.int (62 : Int32))) (by rw [e0]; exact Ar37.1) (State.isArrayOf_alike hZ.alike Ar37.2.1) Ar37.2.2 (own_inb Sa37 (show (1 : Int32) = Nat.toInt32 1 from by decide) (show 1 < ((2 : Int32)).toNatClampNeg from by decide)) at37 (g := (mkF m 20 #[.val (.ref a1), .val (.ref a2), .val (.int (1 : Int32))] [(.int (1 : Int32)), (.ref a2), (.int (61 : Int32))])) rfl rfl (hb hby own_d13_20) _ k)
  have k39 : own_To p.tables e below (s₁.setTop (entryFrame m #[(.ref a1), (.ref a2)] 3)) s₁ (mkF m 24 #[.val (.ref a1), .val (.ref a2), .val (.int (1 : Int32))] []) := fun t k => k38 t (XS.icmpNo X0.here hx rfl (hb hby own_d13_21) rfl (feq (show ¬ ((61 : Int32) = (62 : Int32)) from (by decide))).1 k)
  have k40 : own_To p.tables e below (s₁.setTop (entryFrame m #[(.ref a1), (.ref a2)] 3)) s₁ (mkF m 25 #[.val (.ref a1), .val (.ref a2), .val (.int (1 : Int32))] [(.int (0 : Int32))]) := fun t k => k39 t (XS.iconst X0.here hx rfl (hb hby own_d13_24) k)
  obtain ⟨fs, hr, hrun, hended, hW, hsame⟩ := X0.leave (v := some (.int (0 : Int32))) (fun h => by rw [Bd.returns] at h; cases h)
  refine ⟨_, _, k40 _ ?_, hrun, hended, _, _, rfl, ?_, ⟨_, rfl⟩, hW, hsame.mono (by decide) (by decide)⟩
  · exact retN X0 hx (t := .boolean) Bd.returns (by simp) (hb hby own_d13_25) (by first | exact hr | (rw [show nar .boolean (0 : Int32) = (0 : Int32) from by decide]; exact hr))
  · refine ⟨?_, N0, e0⟩
    rw [show (own_f13_t4) = (0 : Int32) from by unfold own_f13_t4; rfl]
def own_f12_t4 : Int32 := (0 : Int32)
set_option maxRecDepth 65536 in
set_option maxHeartbeats 40000000 in
theorem own_m12_t4 (l : Launch) (Z : State) (a0 : Array Value) (hw : ∀ d ∈ tables_1, d.before a0 Z = true) (ws : List Jvm.Cond) (a1 : Addr) (a2 : Addr) (w_COMPACT_STRINGS : Int32) (w_value_a1 : Addr) (w_value_a2 : Addr) (kc_w_value_a1 : ClassId) (kc_w_value_a2 : ClassId) (h0 : Heap) (n0 : Nat) (Z0 : n0 ≤ h0.size) (E_a2 : Exa Z h0 a2 "java/lang/String") (S_COMPACT_STRINGS : Sta Z h0 "java/lang/String" "COMPACT_STRINGS" "Z" (.int w_COMPACT_STRINGS)) (F_coder_a1 : Fld Z h0 a1 "java/lang/String" "coder" "B" (.int (0 : Int32))) (F_coder_a2 : Fld Z h0 a2 "java/lang/String" "coder" "B" (.int (0 : Int32))) (F_value_a1 : Fld Z h0 a1 "java/lang/String" "value" "[B" (.ref w_value_a1)) (F_value_a2 : Fld Z h0 a2 "java/lang/String" "value" "[B" (.ref w_value_a2)) (V_w_value_a1 : Arv Z h0 w_value_a1 kc_w_value_a1 .byte (2 : Int32) [(.int (60 : Int32)), (.int (61 : Int32))] (.int (0 : Int32))) (V_w_value_a2 : Arv Z h0 w_value_a2 kc_w_value_a2 .byte (2 : Int32) [(.int (60 : Int32)), (.int (62 : Int32))] (.int (0 : Int32))) (hz : ¬ (w_COMPACT_STRINGS = (0 : Int32))) (hne : ¬ (a1 = a2)) :
    MetFree l (⟨"java/lang/String", "equals", "(Ljava/lang/Object;)Z"⟩ : MethodName) (head1 (Jvm.Cond.code (⟨"java/lang/String", "equals", "(Ljava/lang/Object;)Z"⟩ : MethodName) jdk_42_method_66_code 3 (some .boolean) :: ws) ({ frames := 1, cells := 0, slots := 0, locals := 14 } : Room)) (fun a U => a = #[(.ref a1), (.ref a2)] ∧ Z.Warmed39 U.vm ∧ U.heap = h0) (fun _ _ _ _ _ => True) (fun _ U o U' => ∃ v L, o = .returned v ∧ own_Q (some (.int own_f12_t4)) h0 n0 v U'.heap L ∧ FrameEnd U o U' L ({ frames := 1, cells := 0, slots := 0, locals := 14 } : Room).cells ({ frames := 1, cells := 0, slots := 0, locals := 14 } : Room).slots) := by
  refine MetFree.of_bodySF (plainFor_of_name own_pn12) hisR ?_
  intro p e s m args below meth c s₁ Bd hml0 hP hK
  obtain ⟨rfl, hZ, hh⟩ := hP
  have hx := Bd.exec
  have hby := Bd.bytes
  have hml : c.maxLocals = 3 := hml0
  have hown : s.vm.findClass "java/lang/String" = some m.cls := findClass_of_methodNamed Bd.named
  have hnm := (name_of_methodNamed Bd.named Bd.method).1
  have X0 : Stand p l e ({ frames := 1, cells := 0, slots := 0, locals := 14 } : Room) s m #[(.ref a1), (.ref a2)] below meth c s₁ [] 0 0 := Stand.of_body Bd
  have e0 : s₁.heap = h0 := by rw [← hh, Bd.state]; rfl
  have N0 := Fr.nil n0
  have k0 : own_To p.tables e below (s₁.setTop (entryFrame m #[(.ref a1), (.ref a2)] 3)) s₁ (mkF m 0 #[.val (.ref a1), .val (.ref a2), .unset] []) := fun t k => castTop (own_ef12 m a1 a2) k
  have k1 : own_To p.tables e below (s₁.setTop (entryFrame m #[(.ref a1), (.ref a2)] 3)) s₁ (mkF m 1 #[.val (.ref a1), .val (.ref a2), .unset] [(.ref a1)]) := fun t k => k0 t (XS.aloadN X0.here hx rfl (hb hby own_d12_0) rfl rfl k)
  have k2 : own_To p.tables e below (s₁.setTop (entryFrame m #[(.ref a1), (.ref a2)] 3)) s₁ (mkF m 2 #[.val (.ref a1), .val (.ref a2), .unset] [(.ref a2), (.ref a1)]) := fun t k => k1 t (XS.aloadN X0.here hx rfl (hb hby own_d12_1) rfl rfl k)
  have k3 : own_To p.tables e below (s₁.setTop (entryFrame m #[(.ref a1), (.ref a2)] 3)) s₁ (mkF m 7 #[.val (.ref a1), .val (.ref a2), .unset] []) := fun t k => k2 t (Jvm.RoadKit.acmp (g := (mkF m 2 #[.val (.ref a1), .val (.ref a2), .unset] [(.ref a2), (.ref a1)])) X0 hx rfl rfl rfl (pc0 := 2) (pc' := 7) (same := false) rfl (hb hby own_d12_2) rfl (decide_eq_false fun q => hne (Value.ref.inj q)) (by decide) (by decide) k)
  have k4 : own_To p.tables e below (s₁.setTop (entryFrame m #[(.ref a1), (.ref a2)] 3)) s₁ (mkF m 8 #[.val (.ref a1), .val (.ref a2), .unset] [(.ref a2)]) := fun t k => k3 t (XS.aloadN X0.here hx rfl (hb hby own_d12_7) rfl rfl k)
  obtain ⟨T5, X5, e5, st5⟩ := instY X0 hx hZ hown (hw _ (List.mem_of_getElem? (i := 84) rfl)) e0 (Ins.self E_a2) (g := (mkF m 8 #[.val (.ref a1), .val (.ref a2), .unset] [(.ref a2)])) rfl rfl (hb hby own_d12_8)
  have k6 : own_To p.tables e below (s₁.setTop (entryFrame m #[(.ref a1), (.ref a2)] 3)) T5 (mkF m 11 #[.val (.ref a1), .val (.ref a2), .unset] [(.int (1 : Int32))]) := fun t k => k4 t (st5 t k)
  have k7 : own_To p.tables e below (s₁.setTop (entryFrame m #[(.ref a1), (.ref a2)] 3)) T5 (mkF m 14 #[.val (.ref a1), .val (.ref a2), .unset] []) := fun t k => k6 t (XS.ifNo X5.here hx rfl (hb hby own_d12_11) rfl ((if0 _ _).trans (feq (show ¬ ((1 : Int32) = (0 : Int32)) from (by decide))).1) k)
  have k8 : own_To p.tables e below (s₁.setTop (entryFrame m #[(.ref a1), (.ref a2)] 3)) T5 (mkF m 15 #[.val (.ref a1), .val (.ref a2), .unset] [(.ref a2)]) := fun t k => k7 t (XS.aloadN X5.here hx rfl (hb hby own_d12_14) rfl rfl k)
  obtain ⟨T9, X9, e9, st9⟩ := castY X5 hx hZ hown (hw _ (List.mem_of_getElem? (i := 84) rfl)) e5 (Ins.self E_a2) (g := (mkF m 15 #[.val (.ref a1), .val (.ref a2), .unset] [(.ref a2)])) rfl rfl (hb hby own_d12_15)
  have k10 : own_To p.tables e below (s₁.setTop (entryFrame m #[(.ref a1), (.ref a2)] 3)) T9 (mkF m 18 #[.val (.ref a1), .val (.ref a2), .unset] [(.ref a2)]) := fun t k => k8 t (st9 t k)
  have k11 : own_To p.tables e below (s₁.setTop (entryFrame m #[(.ref a1), (.ref a2)] 3)) T9 (mkF m 19 #[.val (.ref a1), .val (.ref a2), .val (.ref a2)] []) := fun t k => k10 t (XS.astoreN X9.here hx rfl (hb hby own_d12_18) rfl rfl (l' := #[.val (.ref a1), .val (.ref a2), .val (.ref a2)]) rfl k)
  obtain ⟨T12, X12, e12, st12⟩ := getS2 X9 hx hZ hown (host := "") (Or.inl (hw _ (List.mem_of_getElem? (i := 47) rfl))) Via.refl e9 S_COMPACT_STRINGS (g := (mkF m 19 #[.val (.ref a1), .val (.ref a2), .val (.ref a2)] [])) rfl (hb hby own_d12_19)
  have k13 : own_To p.tables e below (s₁.setTop (entryFrame m #[(.ref a1), (.ref a2)] 3)) T12 (mkF m 22 #[.val (.ref a1), .val (.ref a2), .val (.ref a2)] [(.int w_COMPACT_STRINGS)]) := fun t k => k11 t (st12 t k)
  have k14 : own_To p.tables e below (s₁.setTop (entryFrame m #[(.ref a1), (.ref a2)] 3)) T12 (mkF m 25 #[.val (.ref a1), .val (.ref a2), .val (.ref a2)] []) := fun t k => k13 t (XS.ifNo X12.here hx rfl (hb hby own_d12_22) rfl ((if0 _ _).trans (feq (show ¬ (w_COMPACT_STRINGS = (0 : Int32)) from hz)).1) k)
  have k15 : own_To p.tables e below (s₁.setTop (entryFrame m #[(.ref a1), (.ref a2)] 3)) T12 (mkF m 26 #[.val (.ref a1), .val (.ref a2), .val (.ref a2)] [(.ref a1)]) := fun t k => k14 t (XS.aloadN X12.here hx rfl (hb hby own_d12_25) rfl rfl k)
  obtain ⟨T16, X16, e16, st16⟩ := getF X12 hx hZ hown (host := "") (Or.inl (hw _ (List.mem_of_getElem? (i := 48) rfl))) Via.refl e12 F_coder_a1 (g := (mkF m 26 #[.val (.ref a1), .val (.ref a2), .val (.ref a2)] [(.ref a1)])) rfl rfl (hb hby own_d12_26)
  have k17 : own_To p.tables e below (s₁.setTop (entryFrame m #[(.ref a1), (.ref a2)] 3)) T16 (mkF m 29 #[.val (.ref a1), .val (.ref a2), .val (.ref a2)] [(.int (0 : Int32))]) := fun t k => k15 t (st16 t k)
  have k18 : own_To p.tables e below (s₁.setTop (entryFrame m #[(.ref a1), (.ref a2)] 3)) T16 (mkF m 30 #[.val (.ref a1), .val (.ref a2), .val (.ref a2)] [(.ref a2), (.int (0 : Int32))]) := fun t k => k17 t (XS.aloadN X16.here hx rfl (hb hby own_d12_29) rfl rfl k)
  obtain ⟨T19, X19, e19, st19⟩ := getF X16 hx hZ hown (host := "") (Or.inl (hw _ (List.mem_of_getElem? (i := 48) rfl))) Via.refl e16 F_coder_a2 (g := (mkF m 30 #[.val (.ref a1), .val (.ref a2), .val (.ref a2)] [(.ref a2), (.int (0 : Int32))])) rfl rfl (hb hby own_d12_30)
  have k20 : own_To p.tables e below (s₁.setTop (entryFrame m #[(.ref a1), (.ref a2)] 3)) T19 (mkF m 33 #[.val (.ref a1), .val (.ref a2), .val (.ref a2)] [(.int (0 : Int32)), (.int (0 : Int32))]) := fun t k => k18 t (st19 t k)
  have k21 : own_To p.tables e below (s₁.setTop (entryFrame m #[(.ref a1), (.ref a2)] 3)) T19 (mkF m 36 #[.val (.ref a1), .val (.ref a2), .val (.ref a2)] []) := fun t k => k20 t (XS.icmpNo X19.here hx rfl (hb hby own_d12_33) rfl (teq (show (0 : Int32) = (0 : Int32) from (by decide))).2 k)
  have k22 : own_To p.tables e below (s₁.setTop (entryFrame m #[(.ref a1), (.ref a2)] 3)) T19 (mkF m 37 #[.val (.ref a1), .val (.ref a2), .val (.ref a2)] [(.ref a1)]) := fun t k => k21 t (XS.aloadN X19.here hx rfl (hb hby own_d12_36) rfl rfl k)
  obtain ⟨T23, X23, e23, st23⟩ := getF X19 hx hZ hown (host := "") (Or.inl (hw _ (List.mem_of_getElem? (i := 41) rfl))) Via.refl e19 F_value_a1 (g := (mkF m 37 #[.val (.ref a1), .val (.ref a2), .val (.ref a2)] [(.ref a1)])) rfl rfl (hb hby own_d12_37)
  have k24 : own_To p.tables e below (s₁.setTop (entryFrame m #[(.ref a1), (.ref a2)] 3)) T23 (mkF m 40 #[.val (.ref a1), .val (.ref a2), .val (.ref a2)] [(.ref w_value_a1)]) := fun t k => k22 t (st23 t k)
  have k25 : own_To p.tables e below (s₁.setTop (entryFrame m #[(.ref a1), (.ref a2)] 3)) T23 (mkF m 41 #[.val (.ref a1), .val (.ref a2), .val (.ref a2)] [(.ref a2), (.ref w_value_a1)]) := fun t k => k24 t (XS.aloadN X23.here hx rfl (hb hby own_d12_40) rfl rfl k)
  obtain ⟨T26, X26, e26, st26⟩ := getF X23 hx hZ hown (host := "") (Or.inl (hw _ (List.mem_of_getElem? (i := 41) rfl))) Via.refl e23 F_value_a2 (g := (mkF m 41 #[.val (.ref a1), .val (.ref a2), .val (.ref a2)] [(.ref a2), (.ref w_value_a1)])) rfl rfl (hb hby own_d12_41)
  have k27 : own_To p.tables e below (s₁.setTop (entryFrame m #[(.ref a1), (.ref a2)] 3)) T26 (mkF m 44 #[.val (.ref a1), .val (.ref a2), .val (.ref a2)] [(.ref w_value_a2), (.ref w_value_a1)]) := fun t k => k25 t (st26 t k)
  obtain ⟨_, _, ⟨T28, L28, k28, n28⟩, -, X28, ⟨Lc28, hQ28, l28, y28, z28⟩, st28⟩ := Jvm.LawKit.callS X26 hx (y := (⟨"java/lang/StringLatin1", "equals", "([B[B)Z"⟩ : MethodName)) hown (mvT hZ (hw _ (List.mem_of_getElem? (i := 86) rfl))) (mvT hZ (hw _ (List.mem_of_getElem? (i := 87) rfl))) (mvT hZ (hw _ (List.mem_of_getElem? (i := 61) rfl))) (mvT hZ (hw _ (List.mem_of_getElem? (i := 88) rfl))) (by decide) (backOf (W := 0) (own_m13_t4 l Z a0 hw [] w_value_a1 w_value_a2 kc_w_value_a1 kc_w_value_a2 h0 n0 Z0 V_w_value_a1 V_w_value_a2) hZ (hw _ (List.mem_of_getElem? (i := 88) rfl)) (hw _ (List.mem_of_getElem? (i := 61) rfl)) (by decide) (by decide)) (g := (mkF m 44 #[.val (.ref a1), .val (.ref a2), .val (.ref a2)] [(.ref w_value_a2), (.ref w_value_a1)])) rfl (by rw [hml]; rfl) (argsL := [(.ref w_value_a1), (.ref w_value_a2)]) (rest := []) (lenOf own_pd5 rfl) rfl (by show 2 * 0 + _ ≤ _; exact Nat.le_of_eq rfl) (hb hby own_d12_44) (fun _ _ => ⟨rfl, e26, (by decide : 0 + 0 ≤ _), (by decide : 0 + 0 ≤ _)⟩)
  dsimp only [Pt.U, Pt.locs, Pt.cells, Pt.slots] at X28 l28 y28 z28 st28 hQ28
  subst l28 y28 z28
  rw [show own_f13_t4 = (0 : Int32) from rfl] at hQ28
  obtain ⟨rfl, N28q, e28⟩ := hQ28
  have N28 := Fr.app N0 N28q
  have k29 : own_To p.tables e below (s₁.setTop (entryFrame m #[(.ref a1), (.ref a2)] 3)) T28 (mkF m 47 #[.val (.ref a1), .val (.ref a2), .val (.ref a2)] [(.int (0 : Int32))]) := fun t k => k27 t (st28 t k)
  have k30 : own_To p.tables e below (s₁.setTop (entryFrame m #[(.ref a1), (.ref a2)] 3)) T28 (mkF m 54 #[.val (.ref a1), .val (.ref a2), .val (.ref a2)] []) := fun t k => k29 t (XS.ifYes X28.here hx rfl (pc0 := 47) (pc' := 54) rfl (hb hby own_d12_47) rfl ((if0 _ _).trans (teq (show (0 : Int32) = (0 : Int32) from (by decide))).1) (by decide) (by decide) k)
  have k31 : own_To p.tables e below (s₁.setTop (entryFrame m #[(.ref a1), (.ref a2)] 3)) T28 (mkF m 55 #[.val (.ref a1), .val (.ref a2), .val (.ref a2)] [(.int (0 : Int32))]) := fun t k => k30 t (XS.iconst X28.here hx rfl (hb hby own_d12_54) k)
  obtain ⟨fs, hr, hrun, hended, hW, hsame⟩ := X28.leave (v := some (.int (0 : Int32))) (fun h => by rw [Bd.returns] at h; cases h)
  refine ⟨_, _, k31 _ ?_, hrun, hended, _, _, rfl, ?_, ⟨_, rfl⟩, hW, hsame.mono (by decide) (by decide)⟩
  · exact retN X28 hx (t := .boolean) Bd.returns (by simp) (hb hby own_d12_55) (by first | exact hr | (rw [show nar .boolean (0 : Int32) = (0 : Int32) from by decide]; exact hr))
  · refine ⟨?_, N28, e28⟩
    rw [show (own_f12_t4) = (0 : Int32) from by unfold own_f12_t4; rfl]
def own_f5_t5 : Int32 := (1 : Int32)
set_option maxRecDepth 65536 in
set_option maxHeartbeats 40000000 in
theorem own_m5_t5 (l : Launch) (Z : State) (a0 : Array Value) (hw : ∀ d ∈ tables_1, d.before a0 Z = true) (ws : List Jvm.Cond) (a1 : Addr) (w_value_a1 : Addr) (kc_w_value_a1 : ClassId) (w_COMPACT_STRINGS : Int32) (h0 : Heap) (n0 : Nat) (Z0 : n0 ≤ h0.size) (F_value_a1 : Fld Z h0 a1 "java/lang/String" "value" "[B" (.ref w_value_a1)) (V_w_value_a1 : Arv Z h0 w_value_a1 kc_w_value_a1 .byte (1 : Int32) [(.int (62 : Int32))] (.int (0 : Int32))) (S_COMPACT_STRINGS : Sta Z h0 "java/lang/String" "COMPACT_STRINGS" "Z" (.int w_COMPACT_STRINGS)) (F_coder_a1 : Fld Z h0 a1 "java/lang/String" "coder" "B" (.int (0 : Int32))) (E_a1 : Exa Z h0 a1 "java/lang/String") (hz : ¬ (w_COMPACT_STRINGS = (0 : Int32))) :
    MetFree l (⟨"java/lang/String", "length", "()I"⟩ : MethodName) (head1 (Jvm.Cond.code (⟨"java/lang/String", "length", "()I"⟩ : MethodName) jdk_42_method_54_code 1 (some .int) :: ws) ({ frames := 1, cells := 0, slots := 0, locals := 13 } : Room)) (fun a U => a = #[(.ref a1)] ∧ Z.Warmed39 U.vm ∧ U.heap = h0) (fun _ _ _ _ _ => True) (fun _ U o U' => ∃ v L, o = .returned v ∧ own_Q (some (.int own_f5_t5)) h0 n0 v U'.heap L ∧ FrameEnd U o U' L ({ frames := 1, cells := 0, slots := 0, locals := 13 } : Room).cells ({ frames := 1, cells := 0, slots := 0, locals := 13 } : Room).slots) := by
  refine MetFree.of_bodySF (plainFor_of_name own_pn5) hisR ?_
  intro p e s m args below meth c s₁ Bd hml0 hP hK
  obtain ⟨rfl, hZ, hh⟩ := hP
  have hx := Bd.exec
  have hby := Bd.bytes
  have hml : c.maxLocals = 1 := hml0
  have hown : s.vm.findClass "java/lang/String" = some m.cls := findClass_of_methodNamed Bd.named
  have hnm := (name_of_methodNamed Bd.named Bd.method).1
  have X0 : Stand p l e ({ frames := 1, cells := 0, slots := 0, locals := 13 } : Room) s m #[(.ref a1)] below meth c s₁ [] 0 0 := Stand.of_body Bd
  have e0 : s₁.heap = h0 := by rw [← hh, Bd.state]; rfl
  have N0 := Fr.nil n0
  have k0 : own_To p.tables e below (s₁.setTop (entryFrame m #[(.ref a1)] 1)) s₁ (mkF m 0 #[.val (.ref a1)] []) := fun t k => castTop (own_ef5 m a1) k
  have k1 : own_To p.tables e below (s₁.setTop (entryFrame m #[(.ref a1)] 1)) s₁ (mkF m 1 #[.val (.ref a1)] [(.ref a1)]) := fun t k => k0 t (XS.aloadN X0.here hx rfl (hb hby own_d5_0) rfl rfl k)
  obtain ⟨T2, X2, e2, st2⟩ := getF X0 hx hZ hown (host := "") (Or.inl (hw _ (List.mem_of_getElem? (i := 41) rfl))) Via.refl e0 F_value_a1 (g := (mkF m 1 #[.val (.ref a1)] [(.ref a1)])) rfl rfl (hb hby own_d5_1)
  have k3 : own_To p.tables e below (s₁.setTop (entryFrame m #[(.ref a1)] 1)) T2 (mkF m 4 #[.val (.ref a1)] [(.ref w_value_a1)]) := fun t k => k1 t (st2 t k)
  obtain ⟨cl4, Ar4, qa4, Sa4, Na4, Ha4, Ga4⟩ := id V_w_value_a1
  have k5 : own_To p.tables e below (s₁.setTop (entryFrame m #[(.ref a1)] 1)) T2 (mkF m 5 #[.val (.ref a1)] [(.int (1 : Int32))]) := fun t k => k3 t (X2.arraylength hx (by rw [e2]; exact Ar4.1) (State.isArrayOf_alike hZ.alike Ar4.2.1) (g := (mkF m 4 #[.val (.ref a1)] [(.ref w_value_a1)])) rfl rfl (hb hby own_d5_4) _ (by rw [len_of Sa4 Na4]; exact k))
  have k6 : own_To p.tables e below (s₁.setTop (entryFrame m #[(.ref a1)] 1)) T2 (mkF m 6 #[.val (.ref a1)] [(.ref a1), (.int (1 : Int32))]) := fun t k => k5 t (XS.aloadN X2.here hx rfl (hb hby own_d5_5) rfl rfl k)
  obtain ⟨cq7, kq7, q7a, q7b, q7c⟩ := isOf hZ e2 E_a1
  obtain ⟨_, _, ⟨T7, L7, k7, n7⟩, -, X7, ⟨Lc7, hQ7, l7, y7, z7⟩, st7⟩ := X2.virtualBack hx (y := (⟨"java/lang/String", "coder", "()B"⟩ : MethodName)) (z := (⟨"java/lang/String", "coder", "()B"⟩ : MethodName)) hown (mvT hZ (hw _ (List.mem_of_getElem? (i := 42) rfl))) (mvT hZ (hw _ (List.mem_of_getElem? (i := 43) rfl))) (notFace_of_selects (args := #[]) (mvT hZ (hw _ (List.mem_of_getElem? (i := 45) rfl)))) (mvT hZ (hw _ (List.mem_of_getElem? (i := 45) rfl))) (mvT hZ (hw _ (List.mem_of_getElem? (i := 44) rfl))) (by decide) (backOf (W := 1) (own_m6 l Z a0 hw [] a1 w_COMPACT_STRINGS h0 n0 Z0 S_COMPACT_STRINGS F_coder_a1 hz) hZ (hw _ (List.mem_of_getElem? (i := 46) rfl)) (hw _ (List.mem_of_getElem? (i := 29) rfl)) (by decide) (by decide)) q7a q7c (g := (mkF m 6 #[.val (.ref a1)] [(.ref a1), (.int (1 : Int32))])) rfl (by rw [hml]; rfl) (Steps.refl _) (argsL := []) (rest := [(.int (1 : Int32))]) (lenOf own_pd1 rfl) rfl (by show 2 * 0 + _ ≤ _; exact Nat.le_of_eq rfl) (hb hby own_d5_6) (fun _ _ => ⟨rfl, e2, (by decide : 0 + 0 ≤ _), (by decide : 0 + 0 ≤ _)⟩)
  dsimp only [Pt.U, Pt.locs, Pt.cells, Pt.slots] at X7 l7 y7 z7 st7 hQ7
  subst l7 y7 z7
  rw [show own_f6 = (0 : Int32) from rfl] at hQ7
  obtain ⟨rfl, N7q, e7⟩ := hQ7
  have N7 := Fr.app N0 N7q
  have k8 : own_To p.tables e below (s₁.setTop (entryFrame m #[(.ref a1)] 1)) T7 (mkF m 9 #[.val (.ref a1)] [(.int (0 : Int32)), (.int (1 : Int32))]) := fun t k => k6 t (st7.trans k)
  have k9 : own_To p.tables e below (s₁.setTop (entryFrame m #[(.ref a1)] 1)) T7 (mkF m 10 #[.val (.ref a1)] [(.int (1 : Int32))]) := fun t k => k8 t (XS.ishr X7.here hx rfl (hb hby own_d5_9) rfl (by rw [show ((1 : Int32) >>> ((0 : Int32) &&& 31)) = (1 : Int32) from by decide]; exact k))
  obtain ⟨fs, hr, hrun, hended, hW, hsame⟩ := X7.leave (v := some (.int (1 : Int32))) (fun h => by rw [Bd.returns] at h; cases h)
  refine ⟨_, _, k9 _ ?_, hrun, hended, _, _, rfl, ?_, ⟨_, rfl⟩, hW, hsame.mono (by decide) (by decide)⟩
  · exact retI X7 hx Bd.returns (hb hby own_d5_10) hr
  · refine ⟨?_, N7, e7⟩
    rw [show (own_f5_t5) = (1 : Int32) from by unfold own_f5_t5; rfl]
def own_f9_t5 : Int32 := (62 : Int32)
set_option maxRecDepth 65536 in
set_option maxHeartbeats 40000000 in
theorem own_m9_t5 (l : Launch) (Z : State) (a0 : Array Value) (hw : ∀ d ∈ tables_1, d.before a0 Z = true) (ws : List Jvm.Cond) (a1 : Addr) (kc_a1 : ClassId) (w_SIOOBE_FORMATTER : Value) (h0 : Heap) (n0 : Nat) (Z0 : n0 ≤ h0.size) (V_a1 : Arv Z h0 a1 kc_a1 .byte (1 : Int32) [(.int (62 : Int32))] (.int (0 : Int32))) (S_SIOOBE_FORMATTER : Sta Z h0 "jdk/internal/util/Preconditions" "SIOOBE_FORMATTER" "Ljava/util/function/BiFunction;" w_SIOOBE_FORMATTER) (hrS : w_SIOOBE_FORMATTER.isRef = true) :
    MetFree l (⟨"java/lang/StringLatin1", "charAt", "([BI)C"⟩ : MethodName) (head1 (Jvm.Cond.code (⟨"java/lang/StringLatin1", "charAt", "([BI)C"⟩ : MethodName) jdk_43_method_2_code 2 (some .char) :: ws) ({ frames := 2, cells := 0, slots := 0, locals := 27 } : Room)) (fun a U => a = #[(.ref a1), (.int (0 : Int32))] ∧ Z.Warmed39 U.vm ∧ U.heap = h0) (fun _ _ _ _ _ => True) (fun _ U o U' => ∃ v L, o = .returned v ∧ own_Q (some (.int own_f9_t5)) h0 n0 v U'.heap L ∧ FrameEnd U o U' L ({ frames := 2, cells := 0, slots := 0, locals := 27 } : Room).cells ({ frames := 2, cells := 0, slots := 0, locals := 27 } : Room).slots) := by
  refine MetFree.of_bodySF (plainFor_of_name own_pn9) hisR ?_
  intro p e s m args below meth c s₁ Bd hml0 hP hK
  obtain ⟨rfl, hZ, hh⟩ := hP
  have hx := Bd.exec
  have hby := Bd.bytes
  have hml : c.maxLocals = 2 := hml0
  have hown : s.vm.findClass "java/lang/StringLatin1" = some m.cls := findClass_of_methodNamed Bd.named
  have hnm := (name_of_methodNamed Bd.named Bd.method).1
  have X0 : Stand p l e ({ frames := 2, cells := 0, slots := 0, locals := 27 } : Room) s m #[(.ref a1), (.int (0 : Int32))] below meth c s₁ [] 0 0 := Stand.of_body Bd
  have e0 : s₁.heap = h0 := by rw [← hh, Bd.state]; rfl
  have N0 := Fr.nil n0
  have k0 : own_To p.tables e below (s₁.setTop (entryFrame m #[(.ref a1), (.int (0 : Int32))] 2)) s₁ (mkF m 0 #[.val (.ref a1), .val (.int (0 : Int32))] []) := fun t k => castTop (own_ef9_10 m a1) k
  have k1 : own_To p.tables e below (s₁.setTop (entryFrame m #[(.ref a1), (.int (0 : Int32))] 2)) s₁ (mkF m 1 #[.val (.ref a1), .val (.int (0 : Int32))] [(.int (0 : Int32))]) := fun t k => k0 t (XS.iloadN X0.here hx rfl (hb hby own_d9_0) rfl k)
  have k2 : own_To p.tables e below (s₁.setTop (entryFrame m #[(.ref a1), (.int (0 : Int32))] 2)) s₁ (mkF m 2 #[.val (.ref a1), .val (.int (0 : Int32))] [(.ref a1), (.int (0 : Int32))]) := fun t k => k1 t (XS.aloadN X0.here hx rfl (hb hby own_d9_1) rfl rfl k)
  obtain ⟨cl3, Ar3, qa3, Sa3, Na3, Ha3, Ga3⟩ := id V_a1
  have k4 : own_To p.tables e below (s₁.setTop (entryFrame m #[(.ref a1), (.int (0 : Int32))] 2)) s₁ (mkF m 3 #[.val (.ref a1), .val (.int (0 : Int32))] [(.int (1 : Int32)), (.int (0 : Int32))]) := fun t k => k2 t (X0.arraylength hx (by rw [e0]; exact Ar3.1) (State.isArrayOf_alike hZ.alike Ar3.2.1) (g := (mkF m 2 #[.val (.ref a1), .val (.int (0 : Int32))] [(.ref a1), (.int (0 : Int32))])) rfl rfl (hb hby own_d9_2) _ (by rw [len_of Sa3 Na3]; exact k))
  obtain ⟨_, _, ⟨T5, L5, k5, n5⟩, -, X5, ⟨Lc5, hQ5, l5, y5, z5⟩, st5⟩ := Jvm.LawKit.callS X0 hx (y := (⟨"java/lang/String", "checkIndex", "(II)V"⟩ : MethodName)) hown (mvT hZ (hw _ (List.mem_of_getElem? (i := 63) rfl))) (mvT hZ (hw _ (List.mem_of_getElem? (i := 64) rfl))) (mvT hZ (hw _ (List.mem_of_getElem? (i := 29) rfl))) (mvT hZ (hw _ (List.mem_of_getElem? (i := 65) rfl))) (by decide) (backOf (W := 0) (own_m10_1 l Z a0 hw [] w_SIOOBE_FORMATTER h0 n0 Z0 S_SIOOBE_FORMATTER hrS) hZ (hw _ (List.mem_of_getElem? (i := 65) rfl)) (hw _ (List.mem_of_getElem? (i := 29) rfl)) (by decide) (by decide)) (g := (mkF m 3 #[.val (.ref a1), .val (.int (0 : Int32))] [(.int (1 : Int32)), (.int (0 : Int32))])) rfl (by rw [hml]; rfl) (argsL := [(.int (0 : Int32)), (.int (1 : Int32))]) (rest := []) (lenOf own_pd2 rfl) rfl (by show 2 * 0 + _ ≤ _; exact Nat.le_of_eq rfl) (hb hby own_d9_3) (fun _ _ => ⟨rfl, e0, (by decide : 0 + 0 ≤ _), (by decide : 0 + 0 ≤ _)⟩)
  dsimp only [Pt.U, Pt.locs, Pt.cells, Pt.slots] at X5 l5 y5 z5 st5 hQ5
  subst l5 y5 z5
  obtain ⟨rfl, N5q, e5⟩ := hQ5
  have N5 := Fr.app N0 N5q
  have k6 : own_To p.tables e below (s₁.setTop (entryFrame m #[(.ref a1), (.int (0 : Int32))] 2)) T5 (mkF m 6 #[.val (.ref a1), .val (.int (0 : Int32))] []) := fun t k => k4 t (st5 t k)
  have k7 : own_To p.tables e below (s₁.setTop (entryFrame m #[(.ref a1), (.int (0 : Int32))] 2)) T5 (mkF m 7 #[.val (.ref a1), .val (.int (0 : Int32))] [(.ref a1)]) := fun t k => k6 t (XS.aloadN X5.here hx rfl (hb hby own_d9_6) rfl rfl k)
  have k8 : own_To p.tables e below (s₁.setTop (entryFrame m #[(.ref a1), (.int (0 : Int32))] 2)) T5 (mkF m 8 #[.val (.ref a1), .val (.int (0 : Int32))] [(.int (0 : Int32)), (.ref a1)]) := fun t k => k7 t (XS.iloadN X5.here hx rfl (hb hby own_d9_7) rfl k)
  obtain ⟨cl9, Ar9, qa9, Sa9, Na9, Ha9, Ga9⟩ := id V_a1
  have at9 : cl9.slots[((0 : Int32)).toNatClampNeg]? = some (.int (62 : Int32)) := Ha9.at (own_inb Sa9 (show (0 : Int32) = Nat.toInt32 0 from by decide) (show 0 < ((1 : Int32)).toNatClampNeg from by decide)) (by rw [own_idx (show (0 : Int32) = Nat.toInt32 0 from by decide) (by omega)]; exact rfl)
  have k10 : own_To p.tables e below (s₁.setTop (entryFrame m #[(.ref a1), (.int (0 : Int32))] 2)) T5 (mkF m 9 #[.val (.ref a1), .val (.int (0 : Int32))] [(.int (62 : Int32))]) := fun t k => k8 t (X5.baloadBytes hx (j := (0 : Int32)) (v := (.int (62 : Int32))) (by rw [e5]; exact Ar9.1) (State.isArrayOf_alike hZ.alike Ar9.2.1) Ar9.2.2 (own_inb Sa9 (show (0 : Int32) = Nat.toInt32 0 from by decide) (show 0 < ((1 : Int32)).toNatClampNeg from by decide)) at9 (g := (mkF m 8 #[.val (.ref a1), .val (.int (0 : Int32))] [(.int (0 : Int32)), (.ref a1)])) rfl rfl (hb hby own_d9_8) _ k)
  have k11 : own_To p.tables e below (s₁.setTop (entryFrame m #[(.ref a1), (.int (0 : Int32))] 2)) T5 (mkF m 12 #[.val (.ref a1), .val (.int (0 : Int32))] [(.int (255 : Int32)), (.int (62 : Int32))]) := fun t k => k10 t (XS.sipush X5.here hx rfl (hb hby own_d9_9) k)
  have k12 : own_To p.tables e below (s₁.setTop (entryFrame m #[(.ref a1), (.int (0 : Int32))] 2)) T5 (mkF m 13 #[.val (.ref a1), .val (.int (0 : Int32))] [(.int (62 : Int32))]) := fun t k => k11 t (XS.iand X5.here hx rfl (hb hby own_d9_12) rfl (by rw [show ((62 : Int32) &&& (255 : Int32)) = (62 : Int32) from by decide]; exact k))
  have k13 : own_To p.tables e below (s₁.setTop (entryFrame m #[(.ref a1), (.int (0 : Int32))] 2)) T5 (mkF m 14 #[.val (.ref a1), .val (.int (0 : Int32))] [(.int (62 : Int32))]) := fun t k => k12 t (XS.i2c X5.here hx rfl (hb hby own_d9_13) rfl (by rw [show ((62 : Int32).toUInt32.toUInt16.toUInt32.toInt32) = (62 : Int32) from by decide]; exact k))
  obtain ⟨fs, hr, hrun, hended, hW, hsame⟩ := X5.leave (v := some (.int (62 : Int32))) (fun h => by rw [Bd.returns] at h; cases h)
  refine ⟨_, _, k13 _ ?_, hrun, hended, _, _, rfl, ?_, ⟨_, rfl⟩, hW, hsame.mono (by decide) (by decide)⟩
  · exact retN X5 hx (t := .char) Bd.returns (by simp) (hb hby own_d9_14) (by first | exact hr | (rw [show nar .char (62 : Int32) = (62 : Int32) from by decide]; exact hr))
  · refine ⟨?_, N5, e5⟩
    rw [show (own_f9_t5) = (62 : Int32) from by unfold own_f9_t5; rfl]
def own_f7_t5 : Int32 := (62 : Int32)
set_option maxRecDepth 65536 in
set_option maxHeartbeats 40000000 in
theorem own_m7_t5 (l : Launch) (Z : State) (a0 : Array Value) (hw : ∀ d ∈ tables_1, d.before a0 Z = true) (ws : List Jvm.Cond) (a1 : Addr) (w_COMPACT_STRINGS : Int32) (w_value_a1 : Addr) (kc_w_value_a1 : ClassId) (w_SIOOBE_FORMATTER : Value) (h0 : Heap) (n0 : Nat) (Z0 : n0 ≤ h0.size) (S_COMPACT_STRINGS : Sta Z h0 "java/lang/String" "COMPACT_STRINGS" "Z" (.int w_COMPACT_STRINGS)) (F_coder_a1 : Fld Z h0 a1 "java/lang/String" "coder" "B" (.int (0 : Int32))) (E_a1 : Exa Z h0 a1 "java/lang/String") (F_value_a1 : Fld Z h0 a1 "java/lang/String" "value" "[B" (.ref w_value_a1)) (V_w_value_a1 : Arv Z h0 w_value_a1 kc_w_value_a1 .byte (1 : Int32) [(.int (62 : Int32))] (.int (0 : Int32))) (S_SIOOBE_FORMATTER : Sta Z h0 "jdk/internal/util/Preconditions" "SIOOBE_FORMATTER" "Ljava/util/function/BiFunction;" w_SIOOBE_FORMATTER) (hz : ¬ (w_COMPACT_STRINGS = (0 : Int32))) (hrS : w_SIOOBE_FORMATTER.isRef = true) :
    MetFree l (⟨"java/lang/String", "charAt", "(I)C"⟩ : MethodName) (head1 (Jvm.Cond.code (⟨"java/lang/String", "charAt", "(I)C"⟩ : MethodName) jdk_42_method_56_code 2 (some .char) :: ws) ({ frames := 3, cells := 0, slots := 0, locals := 40 } : Room)) (fun a U => a = #[(.ref a1), (.int (0 : Int32))] ∧ Z.Warmed39 U.vm ∧ U.heap = h0) (fun _ _ _ _ _ => True) (fun _ U o U' => ∃ v L, o = .returned v ∧ own_Q (some (.int own_f7_t5)) h0 n0 v U'.heap L ∧ FrameEnd U o U' L ({ frames := 3, cells := 0, slots := 0, locals := 40 } : Room).cells ({ frames := 3, cells := 0, slots := 0, locals := 40 } : Room).slots) := by
  refine MetFree.of_bodySF (plainFor_of_name own_pn7) hisR ?_
  intro p e s m args below meth c s₁ Bd hml0 hP hK
  obtain ⟨rfl, hZ, hh⟩ := hP
  have hx := Bd.exec
  have hby := Bd.bytes
  have hml : c.maxLocals = 2 := hml0
  have hown : s.vm.findClass "java/lang/String" = some m.cls := findClass_of_methodNamed Bd.named
  have hnm := (name_of_methodNamed Bd.named Bd.method).1
  have X0 : Stand p l e ({ frames := 3, cells := 0, slots := 0, locals := 40 } : Room) s m #[(.ref a1), (.int (0 : Int32))] below meth c s₁ [] 0 0 := Stand.of_body Bd
  have e0 : s₁.heap = h0 := by rw [← hh, Bd.state]; rfl
  have N0 := Fr.nil n0
  have k0 : own_To p.tables e below (s₁.setTop (entryFrame m #[(.ref a1), (.int (0 : Int32))] 2)) s₁ (mkF m 0 #[.val (.ref a1), .val (.int (0 : Int32))] []) := fun t k => castTop (own_ef7_10 m a1) k
  have k1 : own_To p.tables e below (s₁.setTop (entryFrame m #[(.ref a1), (.int (0 : Int32))] 2)) s₁ (mkF m 1 #[.val (.ref a1), .val (.int (0 : Int32))] [(.ref a1)]) := fun t k => k0 t (XS.aloadN X0.here hx rfl (hb hby own_d7_0) rfl rfl k)
  obtain ⟨cq2, kq2, q2a, q2b, q2c⟩ := isOf hZ e0 E_a1
  obtain ⟨_, _, ⟨T2, L2, k2, n2⟩, -, X2, ⟨Lc2, hQ2, l2, y2, z2⟩, st2⟩ := X0.virtualBack hx (y := (⟨"java/lang/String", "isLatin1", "()Z"⟩ : MethodName)) (z := (⟨"java/lang/String", "isLatin1", "()Z"⟩ : MethodName)) hown (mvT hZ (hw _ (List.mem_of_getElem? (i := 54) rfl))) (mvT hZ (hw _ (List.mem_of_getElem? (i := 55) rfl))) (notFace_of_selects (args := #[]) (mvT hZ (hw _ (List.mem_of_getElem? (i := 57) rfl)))) (mvT hZ (hw _ (List.mem_of_getElem? (i := 57) rfl))) (mvT hZ (hw _ (List.mem_of_getElem? (i := 56) rfl))) (by decide) (backOf (W := 0) (own_m8 l Z a0 hw [] a1 w_COMPACT_STRINGS h0 n0 Z0 S_COMPACT_STRINGS F_coder_a1 hz) hZ (hw _ (List.mem_of_getElem? (i := 58) rfl)) (hw _ (List.mem_of_getElem? (i := 29) rfl)) (by decide) (by decide)) q2a q2c (g := (mkF m 1 #[.val (.ref a1), .val (.int (0 : Int32))] [(.ref a1)])) rfl (by rw [hml]; rfl) (Steps.refl _) (argsL := []) (rest := []) (lenOf own_pd3 rfl) rfl (by show 2 * 0 + _ ≤ _; exact Nat.le_of_eq rfl) (hb hby own_d7_1) (fun _ _ => ⟨rfl, e0, (by decide : 0 + 0 ≤ _), (by decide : 0 + 0 ≤ _)⟩)
  dsimp only [Pt.U, Pt.locs, Pt.cells, Pt.slots] at X2 l2 y2 z2 st2 hQ2
  subst l2 y2 z2
  rw [show own_f8 = (1 : Int32) from rfl] at hQ2
  obtain ⟨rfl, N2q, e2⟩ := hQ2
  have N2 := Fr.app N0 N2q
  have k3 : own_To p.tables e below (s₁.setTop (entryFrame m #[(.ref a1), (.int (0 : Int32))] 2)) T2 (mkF m 4 #[.val (.ref a1), .val (.int (0 : Int32))] [(.int (1 : Int32))]) := fun t k => k1 t (st2.trans k)
  have k4 : own_To p.tables e below (s₁.setTop (entryFrame m #[(.ref a1), (.int (0 : Int32))] 2)) T2 (mkF m 7 #[.val (.ref a1), .val (.int (0 : Int32))] []) := fun t k => k3 t (XS.ifNo X2.here hx rfl (hb hby own_d7_4) rfl ((if0 _ _).trans (feq (show ¬ ((1 : Int32) = (0 : Int32)) from (by decide))).1) k)
  have k5 : own_To p.tables e below (s₁.setTop (entryFrame m #[(.ref a1), (.int (0 : Int32))] 2)) T2 (mkF m 8 #[.val (.ref a1), .val (.int (0 : Int32))] [(.ref a1)]) := fun t k => k4 t (XS.aloadN X2.here hx rfl (hb hby own_d7_7) rfl rfl k)
  obtain ⟨T6, X6, e6, st6⟩ := getF X2 hx hZ hown (host := "") (Or.inl (hw _ (List.mem_of_getElem? (i := 41) rfl))) Via.refl e2 F_value_a1 (g := (mkF m 8 #[.val (.ref a1), .val (.int (0 : Int32))] [(.ref a1)])) rfl rfl (hb hby own_d7_8)
  have k7 : own_To p.tables e below (s₁.setTop (entryFrame m #[(.ref a1), (.int (0 : Int32))] 2)) T6 (mkF m 11 #[.val (.ref a1), .val (.int (0 : Int32))] [(.ref w_value_a1)]) := fun t k => k5 t (st6 t k)
  have k8 : own_To p.tables e below (s₁.setTop (entryFrame m #[(.ref a1), (.int (0 : Int32))] 2)) T6 (mkF m 12 #[.val (.ref a1), .val (.int (0 : Int32))] [(.int (0 : Int32)), (.ref w_value_a1)]) := fun t k => k7 t (XS.iloadN X6.here hx rfl (hb hby own_d7_11) rfl k)
  obtain ⟨_, _, ⟨T9, L9, k9, n9⟩, -, X9, ⟨Lc9, hQ9, l9, y9, z9⟩, st9⟩ := Jvm.LawKit.callS X6 hx (y := (⟨"java/lang/StringLatin1", "charAt", "([BI)C"⟩ : MethodName)) hown (mvT hZ (hw _ (List.mem_of_getElem? (i := 59) rfl))) (mvT hZ (hw _ (List.mem_of_getElem? (i := 60) rfl))) (mvT hZ (hw _ (List.mem_of_getElem? (i := 61) rfl))) (mvT hZ (hw _ (List.mem_of_getElem? (i := 62) rfl))) (by decide) (backOf (W := 0) (own_m9_t5 l Z a0 hw [] w_value_a1 kc_w_value_a1 w_SIOOBE_FORMATTER h0 n0 Z0 V_w_value_a1 S_SIOOBE_FORMATTER hrS) hZ (hw _ (List.mem_of_getElem? (i := 62) rfl)) (hw _ (List.mem_of_getElem? (i := 61) rfl)) (by decide) (by decide)) (g := (mkF m 12 #[.val (.ref a1), .val (.int (0 : Int32))] [(.int (0 : Int32)), (.ref w_value_a1)])) rfl (by rw [hml]; rfl) (argsL := [(.ref w_value_a1), (.int (0 : Int32))]) (rest := []) (lenOf own_pd4 rfl) rfl (by show 2 * 0 + _ ≤ _; exact Nat.le_of_eq rfl) (hb hby own_d7_12) (fun _ _ => ⟨rfl, e6, (by decide : 0 + 0 ≤ _), (by decide : 0 + 0 ≤ _)⟩)
  dsimp only [Pt.U, Pt.locs, Pt.cells, Pt.slots] at X9 l9 y9 z9 st9 hQ9
  subst l9 y9 z9
  rw [show own_f9_t5 = (62 : Int32) from rfl] at hQ9
  obtain ⟨rfl, N9q, e9⟩ := hQ9
  have N9 := Fr.app N2 N9q
  have k10 : own_To p.tables e below (s₁.setTop (entryFrame m #[(.ref a1), (.int (0 : Int32))] 2)) T9 (mkF m 15 #[.val (.ref a1), .val (.int (0 : Int32))] [(.int (62 : Int32))]) := fun t k => k8 t (st9 t k)
  obtain ⟨fs, hr, hrun, hended, hW, hsame⟩ := X9.leave (v := some (.int (62 : Int32))) (fun h => by rw [Bd.returns] at h; cases h)
  refine ⟨_, _, k10 _ ?_, hrun, hended, _, _, rfl, ?_, ⟨_, rfl⟩, hW, hsame.mono (by decide) (by decide)⟩
  · exact retN X9 hx (t := .char) Bd.returns (by simp) (hb hby own_d7_15) (by first | exact hr | (rw [show nar .char (62 : Int32) = (62 : Int32) from by decide]; exact hr))
  · refine ⟨?_, N9, e9⟩
    rw [show (own_f7_t5) = (62 : Int32) from by unfold own_f7_t5; rfl]
def own_f13_t5 : Int32 := (0 : Int32)
set_option maxRecDepth 65536 in
set_option maxHeartbeats 40000000 in
theorem own_m13_t5 (l : Launch) (Z : State) (a0 : Array Value) (hw : ∀ d ∈ tables_1, d.before a0 Z = true) (ws : List Jvm.Cond) (a1 : Addr) (a2 : Addr) (kc_a1 : ClassId) (kc_a2 : ClassId) (h0 : Heap) (n0 : Nat) (Z0 : n0 ≤ h0.size) (V_a1 : Arv Z h0 a1 kc_a1 .byte (1 : Int32) [(.int (62 : Int32))] (.int (0 : Int32))) (V_a2 : Arv Z h0 a2 kc_a2 .byte (2 : Int32) [(.int (60 : Int32)), (.int (62 : Int32))] (.int (0 : Int32))) :
    MetFree l (⟨"java/lang/StringLatin1", "equals", "([B[B)Z"⟩ : MethodName) (head1 (Jvm.Cond.code (⟨"java/lang/StringLatin1", "equals", "([B[B)Z"⟩ : MethodName) jdk_43_method_13_code 3 (some .boolean) :: ws) ({ frames := 0, cells := 0, slots := 0, locals := 0 } : Room)) (fun a U => a = #[(.ref a1), (.ref a2)] ∧ Z.Warmed39 U.vm ∧ U.heap = h0) (fun _ _ _ _ _ => True) (fun _ U o U' => ∃ v L, o = .returned v ∧ own_Q (some (.int own_f13_t5)) h0 n0 v U'.heap L ∧ FrameEnd U o U' L ({ frames := 0, cells := 0, slots := 0, locals := 0 } : Room).cells ({ frames := 0, cells := 0, slots := 0, locals := 0 } : Room).slots) := by
  refine MetFree.of_bodySF (plainFor_of_name own_pn13) hisR ?_
  intro p e s m args below meth c s₁ Bd hml0 hP hK
  obtain ⟨rfl, hZ, hh⟩ := hP
  have hx := Bd.exec
  have hby := Bd.bytes
  have hml : c.maxLocals = 3 := hml0
  have hown : s.vm.findClass "java/lang/StringLatin1" = some m.cls := findClass_of_methodNamed Bd.named
  have hnm := (name_of_methodNamed Bd.named Bd.method).1
  have X0 : Stand p l e ({ frames := 0, cells := 0, slots := 0, locals := 0 } : Room) s m #[(.ref a1), (.ref a2)] below meth c s₁ [] 0 0 := Stand.of_body Bd
  have e0 : s₁.heap = h0 := by rw [← hh, Bd.state]; rfl
  have N0 := Fr.nil n0
  have k0 : own_To p.tables e below (s₁.setTop (entryFrame m #[(.ref a1), (.ref a2)] 3)) s₁ (mkF m 0 #[.val (.ref a1), .val (.ref a2), .unset] []) := fun t k => castTop (own_ef13 m a1 a2) k
  have k1 : own_To p.tables e below (s₁.setTop (entryFrame m #[(.ref a1), (.ref a2)] 3)) s₁ (mkF m 1 #[.val (.ref a1), .val (.ref a2), .unset] [(.ref a1)]) := fun t k => k0 t (XS.aloadN X0.here hx rfl (hb hby own_d13_0) rfl rfl k)
  obtain ⟨cl2, Ar2, qa2, Sa2, Na2, Ha2, Ga2⟩ := id V_a1
  have k3 : own_To p.tables e below (s₁.setTop (entryFrame m #[(.ref a1), (.ref a2)] 3)) s₁ (mkF m 2 #[.val (.ref a1), .val (.ref a2), .unset] [(.int (1 : Int32))]) := fun t k => k1 t (X0.arraylength hx (by rw [e0]; exact Ar2.1) (State.isArrayOf_alike hZ.alike Ar2.2.1) (g := (mkF m 1 #[.val (.ref a1), .val (.ref a2), .unset] [(.ref a1)])) rfl rfl (hb hby own_d13_1) _ (by rw [len_of Sa2 Na2]; exact k))
  have k4 : own_To p.tables e below (s₁.setTop (entryFrame m #[(.ref a1), (.ref a2)] 3)) s₁ (mkF m 3 #[.val (.ref a1), .val (.ref a2), .unset] [(.ref a2), (.int (1 : Int32))]) := fun t k => k3 t (XS.aloadN X0.here hx rfl (hb hby own_d13_2) rfl rfl k)
  obtain ⟨cl5, Ar5, qa5, Sa5, Na5, Ha5, Ga5⟩ := id V_a2
  have k6 : own_To p.tables e below (s₁.setTop (entryFrame m #[(.ref a1), (.ref a2)] 3)) s₁ (mkF m 4 #[.val (.ref a1), .val (.ref a2), .unset] [(.int (2 : Int32)), (.int (1 : Int32))]) := fun t k => k4 t (X0.arraylength hx (by rw [e0]; exact Ar5.1) (State.isArrayOf_alike hZ.alike Ar5.2.1) (g := (mkF m 3 #[.val (.ref a1), .val (.ref a2), .unset] [(.ref a2), (.int (1 : Int32))])) rfl rfl (hb hby own_d13_3) _ (by rw [len_of Sa5 Na5]; exact k))
  have k7 : own_To p.tables e below (s₁.setTop (entryFrame m #[(.ref a1), (.ref a2)] 3)) s₁ (mkF m 34 #[.val (.ref a1), .val (.ref a2), .unset] []) := fun t k => k6 t (XS.icmpYes X0.here hx rfl (pc0 := 4) (pc' := 34) rfl (hb hby own_d13_4) rfl (feq (show ¬ ((1 : Int32) = (2 : Int32)) from (by decide))).2 (by decide) (by decide) k)
  have k8 : own_To p.tables e below (s₁.setTop (entryFrame m #[(.ref a1), (.ref a2)] 3)) s₁ (mkF m 35 #[.val (.ref a1), .val (.ref a2), .unset] [(.int (0 : Int32))]) := fun t k => k7 t (XS.iconst X0.here hx rfl (hb hby own_d13_34) k)
  obtain ⟨fs, hr, hrun, hended, hW, hsame⟩ := X0.leave (v := some (.int (0 : Int32))) (fun h => by rw [Bd.returns] at h; cases h)
  refine ⟨_, _, k8 _ ?_, hrun, hended, _, _, rfl, ?_, ⟨_, rfl⟩, hW, hsame.mono (by decide) (by decide)⟩
  · exact retN X0 hx (t := .boolean) Bd.returns (by simp) (hb hby own_d13_35) (by first | exact hr | (rw [show nar .boolean (0 : Int32) = (0 : Int32) from by decide]; exact hr))
  · refine ⟨?_, N0, e0⟩
    rw [show (own_f13_t5) = (0 : Int32) from by unfold own_f13_t5; rfl]
def own_f12_t5 : Int32 := (0 : Int32)
set_option maxRecDepth 65536 in
set_option maxHeartbeats 40000000 in
theorem own_m12_t5 (l : Launch) (Z : State) (a0 : Array Value) (hw : ∀ d ∈ tables_1, d.before a0 Z = true) (ws : List Jvm.Cond) (a1 : Addr) (a2 : Addr) (w_COMPACT_STRINGS : Int32) (w_value_a1 : Addr) (w_value_a2 : Addr) (kc_w_value_a1 : ClassId) (kc_w_value_a2 : ClassId) (h0 : Heap) (n0 : Nat) (Z0 : n0 ≤ h0.size) (E_a2 : Exa Z h0 a2 "java/lang/String") (S_COMPACT_STRINGS : Sta Z h0 "java/lang/String" "COMPACT_STRINGS" "Z" (.int w_COMPACT_STRINGS)) (F_coder_a1 : Fld Z h0 a1 "java/lang/String" "coder" "B" (.int (0 : Int32))) (F_coder_a2 : Fld Z h0 a2 "java/lang/String" "coder" "B" (.int (0 : Int32))) (F_value_a1 : Fld Z h0 a1 "java/lang/String" "value" "[B" (.ref w_value_a1)) (F_value_a2 : Fld Z h0 a2 "java/lang/String" "value" "[B" (.ref w_value_a2)) (V_w_value_a1 : Arv Z h0 w_value_a1 kc_w_value_a1 .byte (1 : Int32) [(.int (62 : Int32))] (.int (0 : Int32))) (V_w_value_a2 : Arv Z h0 w_value_a2 kc_w_value_a2 .byte (2 : Int32) [(.int (60 : Int32)), (.int (62 : Int32))] (.int (0 : Int32))) (hz : ¬ (w_COMPACT_STRINGS = (0 : Int32))) (hne : ¬ (a1 = a2)) :
    MetFree l (⟨"java/lang/String", "equals", "(Ljava/lang/Object;)Z"⟩ : MethodName) (head1 (Jvm.Cond.code (⟨"java/lang/String", "equals", "(Ljava/lang/Object;)Z"⟩ : MethodName) jdk_42_method_66_code 3 (some .boolean) :: ws) ({ frames := 1, cells := 0, slots := 0, locals := 14 } : Room)) (fun a U => a = #[(.ref a1), (.ref a2)] ∧ Z.Warmed39 U.vm ∧ U.heap = h0) (fun _ _ _ _ _ => True) (fun _ U o U' => ∃ v L, o = .returned v ∧ own_Q (some (.int own_f12_t5)) h0 n0 v U'.heap L ∧ FrameEnd U o U' L ({ frames := 1, cells := 0, slots := 0, locals := 14 } : Room).cells ({ frames := 1, cells := 0, slots := 0, locals := 14 } : Room).slots) := by
  refine MetFree.of_bodySF (plainFor_of_name own_pn12) hisR ?_
  intro p e s m args below meth c s₁ Bd hml0 hP hK
  obtain ⟨rfl, hZ, hh⟩ := hP
  have hx := Bd.exec
  have hby := Bd.bytes
  have hml : c.maxLocals = 3 := hml0
  have hown : s.vm.findClass "java/lang/String" = some m.cls := findClass_of_methodNamed Bd.named
  have hnm := (name_of_methodNamed Bd.named Bd.method).1
  have X0 : Stand p l e ({ frames := 1, cells := 0, slots := 0, locals := 14 } : Room) s m #[(.ref a1), (.ref a2)] below meth c s₁ [] 0 0 := Stand.of_body Bd
  have e0 : s₁.heap = h0 := by rw [← hh, Bd.state]; rfl
  have N0 := Fr.nil n0
  have k0 : own_To p.tables e below (s₁.setTop (entryFrame m #[(.ref a1), (.ref a2)] 3)) s₁ (mkF m 0 #[.val (.ref a1), .val (.ref a2), .unset] []) := fun t k => castTop (own_ef12 m a1 a2) k
  have k1 : own_To p.tables e below (s₁.setTop (entryFrame m #[(.ref a1), (.ref a2)] 3)) s₁ (mkF m 1 #[.val (.ref a1), .val (.ref a2), .unset] [(.ref a1)]) := fun t k => k0 t (XS.aloadN X0.here hx rfl (hb hby own_d12_0) rfl rfl k)
  have k2 : own_To p.tables e below (s₁.setTop (entryFrame m #[(.ref a1), (.ref a2)] 3)) s₁ (mkF m 2 #[.val (.ref a1), .val (.ref a2), .unset] [(.ref a2), (.ref a1)]) := fun t k => k1 t (XS.aloadN X0.here hx rfl (hb hby own_d12_1) rfl rfl k)
  have k3 : own_To p.tables e below (s₁.setTop (entryFrame m #[(.ref a1), (.ref a2)] 3)) s₁ (mkF m 7 #[.val (.ref a1), .val (.ref a2), .unset] []) := fun t k => k2 t (Jvm.RoadKit.acmp (g := (mkF m 2 #[.val (.ref a1), .val (.ref a2), .unset] [(.ref a2), (.ref a1)])) X0 hx rfl rfl rfl (pc0 := 2) (pc' := 7) (same := false) rfl (hb hby own_d12_2) rfl (decide_eq_false fun q => hne (Value.ref.inj q)) (by decide) (by decide) k)
  have k4 : own_To p.tables e below (s₁.setTop (entryFrame m #[(.ref a1), (.ref a2)] 3)) s₁ (mkF m 8 #[.val (.ref a1), .val (.ref a2), .unset] [(.ref a2)]) := fun t k => k3 t (XS.aloadN X0.here hx rfl (hb hby own_d12_7) rfl rfl k)
  obtain ⟨T5, X5, e5, st5⟩ := instY X0 hx hZ hown (hw _ (List.mem_of_getElem? (i := 84) rfl)) e0 (Ins.self E_a2) (g := (mkF m 8 #[.val (.ref a1), .val (.ref a2), .unset] [(.ref a2)])) rfl rfl (hb hby own_d12_8)
  have k6 : own_To p.tables e below (s₁.setTop (entryFrame m #[(.ref a1), (.ref a2)] 3)) T5 (mkF m 11 #[.val (.ref a1), .val (.ref a2), .unset] [(.int (1 : Int32))]) := fun t k => k4 t (st5 t k)
  have k7 : own_To p.tables e below (s₁.setTop (entryFrame m #[(.ref a1), (.ref a2)] 3)) T5 (mkF m 14 #[.val (.ref a1), .val (.ref a2), .unset] []) := fun t k => k6 t (XS.ifNo X5.here hx rfl (hb hby own_d12_11) rfl ((if0 _ _).trans (feq (show ¬ ((1 : Int32) = (0 : Int32)) from (by decide))).1) k)
  have k8 : own_To p.tables e below (s₁.setTop (entryFrame m #[(.ref a1), (.ref a2)] 3)) T5 (mkF m 15 #[.val (.ref a1), .val (.ref a2), .unset] [(.ref a2)]) := fun t k => k7 t (XS.aloadN X5.here hx rfl (hb hby own_d12_14) rfl rfl k)
  obtain ⟨T9, X9, e9, st9⟩ := castY X5 hx hZ hown (hw _ (List.mem_of_getElem? (i := 84) rfl)) e5 (Ins.self E_a2) (g := (mkF m 15 #[.val (.ref a1), .val (.ref a2), .unset] [(.ref a2)])) rfl rfl (hb hby own_d12_15)
  have k10 : own_To p.tables e below (s₁.setTop (entryFrame m #[(.ref a1), (.ref a2)] 3)) T9 (mkF m 18 #[.val (.ref a1), .val (.ref a2), .unset] [(.ref a2)]) := fun t k => k8 t (st9 t k)
  have k11 : own_To p.tables e below (s₁.setTop (entryFrame m #[(.ref a1), (.ref a2)] 3)) T9 (mkF m 19 #[.val (.ref a1), .val (.ref a2), .val (.ref a2)] []) := fun t k => k10 t (XS.astoreN X9.here hx rfl (hb hby own_d12_18) rfl rfl (l' := #[.val (.ref a1), .val (.ref a2), .val (.ref a2)]) rfl k)
  obtain ⟨T12, X12, e12, st12⟩ := getS2 X9 hx hZ hown (host := "") (Or.inl (hw _ (List.mem_of_getElem? (i := 47) rfl))) Via.refl e9 S_COMPACT_STRINGS (g := (mkF m 19 #[.val (.ref a1), .val (.ref a2), .val (.ref a2)] [])) rfl (hb hby own_d12_19)
  have k13 : own_To p.tables e below (s₁.setTop (entryFrame m #[(.ref a1), (.ref a2)] 3)) T12 (mkF m 22 #[.val (.ref a1), .val (.ref a2), .val (.ref a2)] [(.int w_COMPACT_STRINGS)]) := fun t k => k11 t (st12 t k)
  have k14 : own_To p.tables e below (s₁.setTop (entryFrame m #[(.ref a1), (.ref a2)] 3)) T12 (mkF m 25 #[.val (.ref a1), .val (.ref a2), .val (.ref a2)] []) := fun t k => k13 t (XS.ifNo X12.here hx rfl (hb hby own_d12_22) rfl ((if0 _ _).trans (feq (show ¬ (w_COMPACT_STRINGS = (0 : Int32)) from hz)).1) k)
  have k15 : own_To p.tables e below (s₁.setTop (entryFrame m #[(.ref a1), (.ref a2)] 3)) T12 (mkF m 26 #[.val (.ref a1), .val (.ref a2), .val (.ref a2)] [(.ref a1)]) := fun t k => k14 t (XS.aloadN X12.here hx rfl (hb hby own_d12_25) rfl rfl k)
  obtain ⟨T16, X16, e16, st16⟩ := getF X12 hx hZ hown (host := "") (Or.inl (hw _ (List.mem_of_getElem? (i := 48) rfl))) Via.refl e12 F_coder_a1 (g := (mkF m 26 #[.val (.ref a1), .val (.ref a2), .val (.ref a2)] [(.ref a1)])) rfl rfl (hb hby own_d12_26)
  have k17 : own_To p.tables e below (s₁.setTop (entryFrame m #[(.ref a1), (.ref a2)] 3)) T16 (mkF m 29 #[.val (.ref a1), .val (.ref a2), .val (.ref a2)] [(.int (0 : Int32))]) := fun t k => k15 t (st16 t k)
  have k18 : own_To p.tables e below (s₁.setTop (entryFrame m #[(.ref a1), (.ref a2)] 3)) T16 (mkF m 30 #[.val (.ref a1), .val (.ref a2), .val (.ref a2)] [(.ref a2), (.int (0 : Int32))]) := fun t k => k17 t (XS.aloadN X16.here hx rfl (hb hby own_d12_29) rfl rfl k)
  obtain ⟨T19, X19, e19, st19⟩ := getF X16 hx hZ hown (host := "") (Or.inl (hw _ (List.mem_of_getElem? (i := 48) rfl))) Via.refl e16 F_coder_a2 (g := (mkF m 30 #[.val (.ref a1), .val (.ref a2), .val (.ref a2)] [(.ref a2), (.int (0 : Int32))])) rfl rfl (hb hby own_d12_30)
  have k20 : own_To p.tables e below (s₁.setTop (entryFrame m #[(.ref a1), (.ref a2)] 3)) T19 (mkF m 33 #[.val (.ref a1), .val (.ref a2), .val (.ref a2)] [(.int (0 : Int32)), (.int (0 : Int32))]) := fun t k => k18 t (st19 t k)
  have k21 : own_To p.tables e below (s₁.setTop (entryFrame m #[(.ref a1), (.ref a2)] 3)) T19 (mkF m 36 #[.val (.ref a1), .val (.ref a2), .val (.ref a2)] []) := fun t k => k20 t (XS.icmpNo X19.here hx rfl (hb hby own_d12_33) rfl (teq (show (0 : Int32) = (0 : Int32) from (by decide))).2 k)
  have k22 : own_To p.tables e below (s₁.setTop (entryFrame m #[(.ref a1), (.ref a2)] 3)) T19 (mkF m 37 #[.val (.ref a1), .val (.ref a2), .val (.ref a2)] [(.ref a1)]) := fun t k => k21 t (XS.aloadN X19.here hx rfl (hb hby own_d12_36) rfl rfl k)
  obtain ⟨T23, X23, e23, st23⟩ := getF X19 hx hZ hown (host := "") (Or.inl (hw _ (List.mem_of_getElem? (i := 41) rfl))) Via.refl e19 F_value_a1 (g := (mkF m 37 #[.val (.ref a1), .val (.ref a2), .val (.ref a2)] [(.ref a1)])) rfl rfl (hb hby own_d12_37)
  have k24 : own_To p.tables e below (s₁.setTop (entryFrame m #[(.ref a1), (.ref a2)] 3)) T23 (mkF m 40 #[.val (.ref a1), .val (.ref a2), .val (.ref a2)] [(.ref w_value_a1)]) := fun t k => k22 t (st23 t k)
  have k25 : own_To p.tables e below (s₁.setTop (entryFrame m #[(.ref a1), (.ref a2)] 3)) T23 (mkF m 41 #[.val (.ref a1), .val (.ref a2), .val (.ref a2)] [(.ref a2), (.ref w_value_a1)]) := fun t k => k24 t (XS.aloadN X23.here hx rfl (hb hby own_d12_40) rfl rfl k)
  obtain ⟨T26, X26, e26, st26⟩ := getF X23 hx hZ hown (host := "") (Or.inl (hw _ (List.mem_of_getElem? (i := 41) rfl))) Via.refl e23 F_value_a2 (g := (mkF m 41 #[.val (.ref a1), .val (.ref a2), .val (.ref a2)] [(.ref a2), (.ref w_value_a1)])) rfl rfl (hb hby own_d12_41)
  have k27 : own_To p.tables e below (s₁.setTop (entryFrame m #[(.ref a1), (.ref a2)] 3)) T26 (mkF m 44 #[.val (.ref a1), .val (.ref a2), .val (.ref a2)] [(.ref w_value_a2), (.ref w_value_a1)]) := fun t k => k25 t (st26 t k)
  obtain ⟨_, _, ⟨T28, L28, k28, n28⟩, -, X28, ⟨Lc28, hQ28, l28, y28, z28⟩, st28⟩ := Jvm.LawKit.callS X26 hx (y := (⟨"java/lang/StringLatin1", "equals", "([B[B)Z"⟩ : MethodName)) hown (mvT hZ (hw _ (List.mem_of_getElem? (i := 86) rfl))) (mvT hZ (hw _ (List.mem_of_getElem? (i := 87) rfl))) (mvT hZ (hw _ (List.mem_of_getElem? (i := 61) rfl))) (mvT hZ (hw _ (List.mem_of_getElem? (i := 88) rfl))) (by decide) (backOf (W := 0) (own_m13_t5 l Z a0 hw [] w_value_a1 w_value_a2 kc_w_value_a1 kc_w_value_a2 h0 n0 Z0 V_w_value_a1 V_w_value_a2) hZ (hw _ (List.mem_of_getElem? (i := 88) rfl)) (hw _ (List.mem_of_getElem? (i := 61) rfl)) (by decide) (by decide)) (g := (mkF m 44 #[.val (.ref a1), .val (.ref a2), .val (.ref a2)] [(.ref w_value_a2), (.ref w_value_a1)])) rfl (by rw [hml]; rfl) (argsL := [(.ref w_value_a1), (.ref w_value_a2)]) (rest := []) (lenOf own_pd5 rfl) rfl (by show 2 * 0 + _ ≤ _; exact Nat.le_of_eq rfl) (hb hby own_d12_44) (fun _ _ => ⟨rfl, e26, (by decide : 0 + 0 ≤ _), (by decide : 0 + 0 ≤ _)⟩)
  dsimp only [Pt.U, Pt.locs, Pt.cells, Pt.slots] at X28 l28 y28 z28 st28 hQ28
  subst l28 y28 z28
  rw [show own_f13_t5 = (0 : Int32) from rfl] at hQ28
  obtain ⟨rfl, N28q, e28⟩ := hQ28
  have N28 := Fr.app N0 N28q
  have k29 : own_To p.tables e below (s₁.setTop (entryFrame m #[(.ref a1), (.ref a2)] 3)) T28 (mkF m 47 #[.val (.ref a1), .val (.ref a2), .val (.ref a2)] [(.int (0 : Int32))]) := fun t k => k27 t (st28 t k)
  have k30 : own_To p.tables e below (s₁.setTop (entryFrame m #[(.ref a1), (.ref a2)] 3)) T28 (mkF m 54 #[.val (.ref a1), .val (.ref a2), .val (.ref a2)] []) := fun t k => k29 t (XS.ifYes X28.here hx rfl (pc0 := 47) (pc' := 54) rfl (hb hby own_d12_47) rfl ((if0 _ _).trans (teq (show (0 : Int32) = (0 : Int32) from (by decide))).1) (by decide) (by decide) k)
  have k31 : own_To p.tables e below (s₁.setTop (entryFrame m #[(.ref a1), (.ref a2)] 3)) T28 (mkF m 55 #[.val (.ref a1), .val (.ref a2), .val (.ref a2)] [(.int (0 : Int32))]) := fun t k => k30 t (XS.iconst X28.here hx rfl (hb hby own_d12_54) k)
  obtain ⟨fs, hr, hrun, hended, hW, hsame⟩ := X28.leave (v := some (.int (0 : Int32))) (fun h => by rw [Bd.returns] at h; cases h)
  refine ⟨_, _, k31 _ ?_, hrun, hended, _, _, rfl, ?_, ⟨_, rfl⟩, hW, hsame.mono (by decide) (by decide)⟩
  · exact retN X28 hx (t := .boolean) Bd.returns (by simp) (hb hby own_d12_55) (by first | exact hr | (rw [show nar .boolean (0 : Int32) = (0 : Int32) from by decide]; exact hr))
  · refine ⟨?_, N28, e28⟩
    rw [show (own_f12_t5) = (0 : Int32) from by unfold own_f12_t5; rfl]
def own_f5_t6 : Int32 := (2 : Int32)
set_option maxRecDepth 65536 in
set_option maxHeartbeats 40000000 in
theorem own_m5_t6 (l : Launch) (Z : State) (a0 : Array Value) (hw : ∀ d ∈ tables_1, d.before a0 Z = true) (ws : List Jvm.Cond) (a1 : Addr) (w_value_a1 : Addr) (kc_w_value_a1 : ClassId) (w_COMPACT_STRINGS : Int32) (h0 : Heap) (n0 : Nat) (Z0 : n0 ≤ h0.size) (F_value_a1 : Fld Z h0 a1 "java/lang/String" "value" "[B" (.ref w_value_a1)) (V_w_value_a1 : Arv Z h0 w_value_a1 kc_w_value_a1 .byte (2 : Int32) [(.int (62 : Int32)), (.int (61 : Int32))] (.int (0 : Int32))) (S_COMPACT_STRINGS : Sta Z h0 "java/lang/String" "COMPACT_STRINGS" "Z" (.int w_COMPACT_STRINGS)) (F_coder_a1 : Fld Z h0 a1 "java/lang/String" "coder" "B" (.int (0 : Int32))) (E_a1 : Exa Z h0 a1 "java/lang/String") (hz : ¬ (w_COMPACT_STRINGS = (0 : Int32))) :
    MetFree l (⟨"java/lang/String", "length", "()I"⟩ : MethodName) (head1 (Jvm.Cond.code (⟨"java/lang/String", "length", "()I"⟩ : MethodName) jdk_42_method_54_code 1 (some .int) :: ws) ({ frames := 1, cells := 0, slots := 0, locals := 13 } : Room)) (fun a U => a = #[(.ref a1)] ∧ Z.Warmed39 U.vm ∧ U.heap = h0) (fun _ _ _ _ _ => True) (fun _ U o U' => ∃ v L, o = .returned v ∧ own_Q (some (.int own_f5_t6)) h0 n0 v U'.heap L ∧ FrameEnd U o U' L ({ frames := 1, cells := 0, slots := 0, locals := 13 } : Room).cells ({ frames := 1, cells := 0, slots := 0, locals := 13 } : Room).slots) := by
  refine MetFree.of_bodySF (plainFor_of_name own_pn5) hisR ?_
  intro p e s m args below meth c s₁ Bd hml0 hP hK
  obtain ⟨rfl, hZ, hh⟩ := hP
  have hx := Bd.exec
  have hby := Bd.bytes
  have hml : c.maxLocals = 1 := hml0
  have hown : s.vm.findClass "java/lang/String" = some m.cls := findClass_of_methodNamed Bd.named
  have hnm := (name_of_methodNamed Bd.named Bd.method).1
  have X0 : Stand p l e ({ frames := 1, cells := 0, slots := 0, locals := 13 } : Room) s m #[(.ref a1)] below meth c s₁ [] 0 0 := Stand.of_body Bd
  have e0 : s₁.heap = h0 := by rw [← hh, Bd.state]; rfl
  have N0 := Fr.nil n0
  have k0 : own_To p.tables e below (s₁.setTop (entryFrame m #[(.ref a1)] 1)) s₁ (mkF m 0 #[.val (.ref a1)] []) := fun t k => castTop (own_ef5 m a1) k
  have k1 : own_To p.tables e below (s₁.setTop (entryFrame m #[(.ref a1)] 1)) s₁ (mkF m 1 #[.val (.ref a1)] [(.ref a1)]) := fun t k => k0 t (XS.aloadN X0.here hx rfl (hb hby own_d5_0) rfl rfl k)
  obtain ⟨T2, X2, e2, st2⟩ := getF X0 hx hZ hown (host := "") (Or.inl (hw _ (List.mem_of_getElem? (i := 41) rfl))) Via.refl e0 F_value_a1 (g := (mkF m 1 #[.val (.ref a1)] [(.ref a1)])) rfl rfl (hb hby own_d5_1)
  have k3 : own_To p.tables e below (s₁.setTop (entryFrame m #[(.ref a1)] 1)) T2 (mkF m 4 #[.val (.ref a1)] [(.ref w_value_a1)]) := fun t k => k1 t (st2 t k)
  obtain ⟨cl4, Ar4, qa4, Sa4, Na4, Ha4, Ga4⟩ := id V_w_value_a1
  have k5 : own_To p.tables e below (s₁.setTop (entryFrame m #[(.ref a1)] 1)) T2 (mkF m 5 #[.val (.ref a1)] [(.int (2 : Int32))]) := fun t k => k3 t (X2.arraylength hx (by rw [e2]; exact Ar4.1) (State.isArrayOf_alike hZ.alike Ar4.2.1) (g := (mkF m 4 #[.val (.ref a1)] [(.ref w_value_a1)])) rfl rfl (hb hby own_d5_4) _ (by rw [len_of Sa4 Na4]; exact k))
  have k6 : own_To p.tables e below (s₁.setTop (entryFrame m #[(.ref a1)] 1)) T2 (mkF m 6 #[.val (.ref a1)] [(.ref a1), (.int (2 : Int32))]) := fun t k => k5 t (XS.aloadN X2.here hx rfl (hb hby own_d5_5) rfl rfl k)
  obtain ⟨cq7, kq7, q7a, q7b, q7c⟩ := isOf hZ e2 E_a1
  obtain ⟨_, _, ⟨T7, L7, k7, n7⟩, -, X7, ⟨Lc7, hQ7, l7, y7, z7⟩, st7⟩ := X2.virtualBack hx (y := (⟨"java/lang/String", "coder", "()B"⟩ : MethodName)) (z := (⟨"java/lang/String", "coder", "()B"⟩ : MethodName)) hown (mvT hZ (hw _ (List.mem_of_getElem? (i := 42) rfl))) (mvT hZ (hw _ (List.mem_of_getElem? (i := 43) rfl))) (notFace_of_selects (args := #[]) (mvT hZ (hw _ (List.mem_of_getElem? (i := 45) rfl)))) (mvT hZ (hw _ (List.mem_of_getElem? (i := 45) rfl))) (mvT hZ (hw _ (List.mem_of_getElem? (i := 44) rfl))) (by decide) (backOf (W := 1) (own_m6 l Z a0 hw [] a1 w_COMPACT_STRINGS h0 n0 Z0 S_COMPACT_STRINGS F_coder_a1 hz) hZ (hw _ (List.mem_of_getElem? (i := 46) rfl)) (hw _ (List.mem_of_getElem? (i := 29) rfl)) (by decide) (by decide)) q7a q7c (g := (mkF m 6 #[.val (.ref a1)] [(.ref a1), (.int (2 : Int32))])) rfl (by rw [hml]; rfl) (Steps.refl _) (argsL := []) (rest := [(.int (2 : Int32))]) (lenOf own_pd1 rfl) rfl (by show 2 * 0 + _ ≤ _; exact Nat.le_of_eq rfl) (hb hby own_d5_6) (fun _ _ => ⟨rfl, e2, (by decide : 0 + 0 ≤ _), (by decide : 0 + 0 ≤ _)⟩)
  dsimp only [Pt.U, Pt.locs, Pt.cells, Pt.slots] at X7 l7 y7 z7 st7 hQ7
  subst l7 y7 z7
  rw [show own_f6 = (0 : Int32) from rfl] at hQ7
  obtain ⟨rfl, N7q, e7⟩ := hQ7
  have N7 := Fr.app N0 N7q
  have k8 : own_To p.tables e below (s₁.setTop (entryFrame m #[(.ref a1)] 1)) T7 (mkF m 9 #[.val (.ref a1)] [(.int (0 : Int32)), (.int (2 : Int32))]) := fun t k => k6 t (st7.trans k)
  have k9 : own_To p.tables e below (s₁.setTop (entryFrame m #[(.ref a1)] 1)) T7 (mkF m 10 #[.val (.ref a1)] [(.int (2 : Int32))]) := fun t k => k8 t (XS.ishr X7.here hx rfl (hb hby own_d5_9) rfl (by rw [show ((2 : Int32) >>> ((0 : Int32) &&& 31)) = (2 : Int32) from by decide]; exact k))
  obtain ⟨fs, hr, hrun, hended, hW, hsame⟩ := X7.leave (v := some (.int (2 : Int32))) (fun h => by rw [Bd.returns] at h; cases h)
  refine ⟨_, _, k9 _ ?_, hrun, hended, _, _, rfl, ?_, ⟨_, rfl⟩, hW, hsame.mono (by decide) (by decide)⟩
  · exact retI X7 hx Bd.returns (hb hby own_d5_10) hr
  · refine ⟨?_, N7, e7⟩
    rw [show (own_f5_t6) = (2 : Int32) from by unfold own_f5_t6; rfl]
def own_f9_t6 : Int32 := (62 : Int32)
set_option maxRecDepth 65536 in
set_option maxHeartbeats 40000000 in
theorem own_m9_t6 (l : Launch) (Z : State) (a0 : Array Value) (hw : ∀ d ∈ tables_1, d.before a0 Z = true) (ws : List Jvm.Cond) (a1 : Addr) (kc_a1 : ClassId) (w_SIOOBE_FORMATTER : Value) (h0 : Heap) (n0 : Nat) (Z0 : n0 ≤ h0.size) (V_a1 : Arv Z h0 a1 kc_a1 .byte (2 : Int32) [(.int (62 : Int32)), (.int (61 : Int32))] (.int (0 : Int32))) (S_SIOOBE_FORMATTER : Sta Z h0 "jdk/internal/util/Preconditions" "SIOOBE_FORMATTER" "Ljava/util/function/BiFunction;" w_SIOOBE_FORMATTER) (hrS : w_SIOOBE_FORMATTER.isRef = true) :
    MetFree l (⟨"java/lang/StringLatin1", "charAt", "([BI)C"⟩ : MethodName) (head1 (Jvm.Cond.code (⟨"java/lang/StringLatin1", "charAt", "([BI)C"⟩ : MethodName) jdk_43_method_2_code 2 (some .char) :: ws) ({ frames := 2, cells := 0, slots := 0, locals := 27 } : Room)) (fun a U => a = #[(.ref a1), (.int (0 : Int32))] ∧ Z.Warmed39 U.vm ∧ U.heap = h0) (fun _ _ _ _ _ => True) (fun _ U o U' => ∃ v L, o = .returned v ∧ own_Q (some (.int own_f9_t6)) h0 n0 v U'.heap L ∧ FrameEnd U o U' L ({ frames := 2, cells := 0, slots := 0, locals := 27 } : Room).cells ({ frames := 2, cells := 0, slots := 0, locals := 27 } : Room).slots) := by
  refine MetFree.of_bodySF (plainFor_of_name own_pn9) hisR ?_
  intro p e s m args below meth c s₁ Bd hml0 hP hK
  obtain ⟨rfl, hZ, hh⟩ := hP
  have hx := Bd.exec
  have hby := Bd.bytes
  have hml : c.maxLocals = 2 := hml0
  have hown : s.vm.findClass "java/lang/StringLatin1" = some m.cls := findClass_of_methodNamed Bd.named
  have hnm := (name_of_methodNamed Bd.named Bd.method).1
  have X0 : Stand p l e ({ frames := 2, cells := 0, slots := 0, locals := 27 } : Room) s m #[(.ref a1), (.int (0 : Int32))] below meth c s₁ [] 0 0 := Stand.of_body Bd
  have e0 : s₁.heap = h0 := by rw [← hh, Bd.state]; rfl
  have N0 := Fr.nil n0
  have k0 : own_To p.tables e below (s₁.setTop (entryFrame m #[(.ref a1), (.int (0 : Int32))] 2)) s₁ (mkF m 0 #[.val (.ref a1), .val (.int (0 : Int32))] []) := fun t k => castTop (own_ef9_10 m a1) k
  have k1 : own_To p.tables e below (s₁.setTop (entryFrame m #[(.ref a1), (.int (0 : Int32))] 2)) s₁ (mkF m 1 #[.val (.ref a1), .val (.int (0 : Int32))] [(.int (0 : Int32))]) := fun t k => k0 t (XS.iloadN X0.here hx rfl (hb hby own_d9_0) rfl k)
  have k2 : own_To p.tables e below (s₁.setTop (entryFrame m #[(.ref a1), (.int (0 : Int32))] 2)) s₁ (mkF m 2 #[.val (.ref a1), .val (.int (0 : Int32))] [(.ref a1), (.int (0 : Int32))]) := fun t k => k1 t (XS.aloadN X0.here hx rfl (hb hby own_d9_1) rfl rfl k)
  obtain ⟨cl3, Ar3, qa3, Sa3, Na3, Ha3, Ga3⟩ := id V_a1
  have k4 : own_To p.tables e below (s₁.setTop (entryFrame m #[(.ref a1), (.int (0 : Int32))] 2)) s₁ (mkF m 3 #[.val (.ref a1), .val (.int (0 : Int32))] [(.int (2 : Int32)), (.int (0 : Int32))]) := fun t k => k2 t (X0.arraylength hx (by rw [e0]; exact Ar3.1) (State.isArrayOf_alike hZ.alike Ar3.2.1) (g := (mkF m 2 #[.val (.ref a1), .val (.int (0 : Int32))] [(.ref a1), (.int (0 : Int32))])) rfl rfl (hb hby own_d9_2) _ (by rw [len_of Sa3 Na3]; exact k))
  obtain ⟨_, _, ⟨T5, L5, k5, n5⟩, -, X5, ⟨Lc5, hQ5, l5, y5, z5⟩, st5⟩ := Jvm.LawKit.callS X0 hx (y := (⟨"java/lang/String", "checkIndex", "(II)V"⟩ : MethodName)) hown (mvT hZ (hw _ (List.mem_of_getElem? (i := 63) rfl))) (mvT hZ (hw _ (List.mem_of_getElem? (i := 64) rfl))) (mvT hZ (hw _ (List.mem_of_getElem? (i := 29) rfl))) (mvT hZ (hw _ (List.mem_of_getElem? (i := 65) rfl))) (by decide) (backOf (W := 0) (own_m10_2 l Z a0 hw [] w_SIOOBE_FORMATTER h0 n0 Z0 S_SIOOBE_FORMATTER hrS) hZ (hw _ (List.mem_of_getElem? (i := 65) rfl)) (hw _ (List.mem_of_getElem? (i := 29) rfl)) (by decide) (by decide)) (g := (mkF m 3 #[.val (.ref a1), .val (.int (0 : Int32))] [(.int (2 : Int32)), (.int (0 : Int32))])) rfl (by rw [hml]; rfl) (argsL := [(.int (0 : Int32)), (.int (2 : Int32))]) (rest := []) (lenOf own_pd2 rfl) rfl (by show 2 * 0 + _ ≤ _; exact Nat.le_of_eq rfl) (hb hby own_d9_3) (fun _ _ => ⟨rfl, e0, (by decide : 0 + 0 ≤ _), (by decide : 0 + 0 ≤ _)⟩)
  dsimp only [Pt.U, Pt.locs, Pt.cells, Pt.slots] at X5 l5 y5 z5 st5 hQ5
  subst l5 y5 z5
  obtain ⟨rfl, N5q, e5⟩ := hQ5
  have N5 := Fr.app N0 N5q
  have k6 : own_To p.tables e below (s₁.setTop (entryFrame m #[(.ref a1), (.int (0 : Int32))] 2)) T5 (mkF m 6 #[.val (.ref a1), .val (.int (0 : Int32))] []) := fun t k => k4 t (st5 t k)
  have k7 : own_To p.tables e below (s₁.setTop (entryFrame m #[(.ref a1), (.int (0 : Int32))] 2)) T5 (mkF m 7 #[.val (.ref a1), .val (.int (0 : Int32))] [(.ref a1)]) := fun t k => k6 t (XS.aloadN X5.here hx rfl (hb hby own_d9_6) rfl rfl k)
  have k8 : own_To p.tables e below (s₁.setTop (entryFrame m #[(.ref a1), (.int (0 : Int32))] 2)) T5 (mkF m 8 #[.val (.ref a1), .val (.int (0 : Int32))] [(.int (0 : Int32)), (.ref a1)]) := fun t k => k7 t (XS.iloadN X5.here hx rfl (hb hby own_d9_7) rfl k)
  obtain ⟨cl9, Ar9, qa9, Sa9, Na9, Ha9, Ga9⟩ := id V_a1
  have at9 : cl9.slots[((0 : Int32)).toNatClampNeg]? = some (.int (62 : Int32)) := Ha9.at (own_inb Sa9 (show (0 : Int32) = Nat.toInt32 0 from by decide) (show 0 < ((2 : Int32)).toNatClampNeg from by decide)) (by rw [own_idx (show (0 : Int32) = Nat.toInt32 0 from by decide) (by omega)]; exact rfl)
  have k10 : own_To p.tables e below (s₁.setTop (entryFrame m #[(.ref a1), (.int (0 : Int32))] 2)) T5 (mkF m 9 #[.val (.ref a1), .val (.int (0 : Int32))] [(.int (62 : Int32))]) := fun t k => k8 t (X5.baloadBytes hx (j := (0 : Int32)) (v := (.int (62 : Int32))) (by rw [e5]; exact Ar9.1) (State.isArrayOf_alike hZ.alike Ar9.2.1) Ar9.2.2 (own_inb Sa9 (show (0 : Int32) = Nat.toInt32 0 from by decide) (show 0 < ((2 : Int32)).toNatClampNeg from by decide)) at9 (g := (mkF m 8 #[.val (.ref a1), .val (.int (0 : Int32))] [(.int (0 : Int32)), (.ref a1)])) rfl rfl (hb hby own_d9_8) _ k)
  have k11 : own_To p.tables e below (s₁.setTop (entryFrame m #[(.ref a1), (.int (0 : Int32))] 2)) T5 (mkF m 12 #[.val (.ref a1), .val (.int (0 : Int32))] [(.int (255 : Int32)), (.int (62 : Int32))]) := fun t k => k10 t (XS.sipush X5.here hx rfl (hb hby own_d9_9) k)
  have k12 : own_To p.tables e below (s₁.setTop (entryFrame m #[(.ref a1), (.int (0 : Int32))] 2)) T5 (mkF m 13 #[.val (.ref a1), .val (.int (0 : Int32))] [(.int (62 : Int32))]) := fun t k => k11 t (XS.iand X5.here hx rfl (hb hby own_d9_12) rfl (by rw [show ((62 : Int32) &&& (255 : Int32)) = (62 : Int32) from by decide]; exact k))
  have k13 : own_To p.tables e below (s₁.setTop (entryFrame m #[(.ref a1), (.int (0 : Int32))] 2)) T5 (mkF m 14 #[.val (.ref a1), .val (.int (0 : Int32))] [(.int (62 : Int32))]) := fun t k => k12 t (XS.i2c X5.here hx rfl (hb hby own_d9_13) rfl (by rw [show ((62 : Int32).toUInt32.toUInt16.toUInt32.toInt32) = (62 : Int32) from by decide]; exact k))
  obtain ⟨fs, hr, hrun, hended, hW, hsame⟩ := X5.leave (v := some (.int (62 : Int32))) (fun h => by rw [Bd.returns] at h; cases h)
  refine ⟨_, _, k13 _ ?_, hrun, hended, _, _, rfl, ?_, ⟨_, rfl⟩, hW, hsame.mono (by decide) (by decide)⟩
  · exact retN X5 hx (t := .char) Bd.returns (by simp) (hb hby own_d9_14) (by first | exact hr | (rw [show nar .char (62 : Int32) = (62 : Int32) from by decide]; exact hr))
  · refine ⟨?_, N5, e5⟩
    rw [show (own_f9_t6) = (62 : Int32) from by unfold own_f9_t6; rfl]
def own_f7_t6 : Int32 := (62 : Int32)
set_option maxRecDepth 65536 in
set_option maxHeartbeats 40000000 in
theorem own_m7_t6 (l : Launch) (Z : State) (a0 : Array Value) (hw : ∀ d ∈ tables_1, d.before a0 Z = true) (ws : List Jvm.Cond) (a1 : Addr) (w_COMPACT_STRINGS : Int32) (w_value_a1 : Addr) (kc_w_value_a1 : ClassId) (w_SIOOBE_FORMATTER : Value) (h0 : Heap) (n0 : Nat) (Z0 : n0 ≤ h0.size) (S_COMPACT_STRINGS : Sta Z h0 "java/lang/String" "COMPACT_STRINGS" "Z" (.int w_COMPACT_STRINGS)) (F_coder_a1 : Fld Z h0 a1 "java/lang/String" "coder" "B" (.int (0 : Int32))) (E_a1 : Exa Z h0 a1 "java/lang/String") (F_value_a1 : Fld Z h0 a1 "java/lang/String" "value" "[B" (.ref w_value_a1)) (V_w_value_a1 : Arv Z h0 w_value_a1 kc_w_value_a1 .byte (2 : Int32) [(.int (62 : Int32)), (.int (61 : Int32))] (.int (0 : Int32))) (S_SIOOBE_FORMATTER : Sta Z h0 "jdk/internal/util/Preconditions" "SIOOBE_FORMATTER" "Ljava/util/function/BiFunction;" w_SIOOBE_FORMATTER) (hz : ¬ (w_COMPACT_STRINGS = (0 : Int32))) (hrS : w_SIOOBE_FORMATTER.isRef = true) :
    MetFree l (⟨"java/lang/String", "charAt", "(I)C"⟩ : MethodName) (head1 (Jvm.Cond.code (⟨"java/lang/String", "charAt", "(I)C"⟩ : MethodName) jdk_42_method_56_code 2 (some .char) :: ws) ({ frames := 3, cells := 0, slots := 0, locals := 40 } : Room)) (fun a U => a = #[(.ref a1), (.int (0 : Int32))] ∧ Z.Warmed39 U.vm ∧ U.heap = h0) (fun _ _ _ _ _ => True) (fun _ U o U' => ∃ v L, o = .returned v ∧ own_Q (some (.int own_f7_t6)) h0 n0 v U'.heap L ∧ FrameEnd U o U' L ({ frames := 3, cells := 0, slots := 0, locals := 40 } : Room).cells ({ frames := 3, cells := 0, slots := 0, locals := 40 } : Room).slots) := by
  refine MetFree.of_bodySF (plainFor_of_name own_pn7) hisR ?_
  intro p e s m args below meth c s₁ Bd hml0 hP hK
  obtain ⟨rfl, hZ, hh⟩ := hP
  have hx := Bd.exec
  have hby := Bd.bytes
  have hml : c.maxLocals = 2 := hml0
  have hown : s.vm.findClass "java/lang/String" = some m.cls := findClass_of_methodNamed Bd.named
  have hnm := (name_of_methodNamed Bd.named Bd.method).1
  have X0 : Stand p l e ({ frames := 3, cells := 0, slots := 0, locals := 40 } : Room) s m #[(.ref a1), (.int (0 : Int32))] below meth c s₁ [] 0 0 := Stand.of_body Bd
  have e0 : s₁.heap = h0 := by rw [← hh, Bd.state]; rfl
  have N0 := Fr.nil n0
  have k0 : own_To p.tables e below (s₁.setTop (entryFrame m #[(.ref a1), (.int (0 : Int32))] 2)) s₁ (mkF m 0 #[.val (.ref a1), .val (.int (0 : Int32))] []) := fun t k => castTop (own_ef7_10 m a1) k
  have k1 : own_To p.tables e below (s₁.setTop (entryFrame m #[(.ref a1), (.int (0 : Int32))] 2)) s₁ (mkF m 1 #[.val (.ref a1), .val (.int (0 : Int32))] [(.ref a1)]) := fun t k => k0 t (XS.aloadN X0.here hx rfl (hb hby own_d7_0) rfl rfl k)
  obtain ⟨cq2, kq2, q2a, q2b, q2c⟩ := isOf hZ e0 E_a1
  obtain ⟨_, _, ⟨T2, L2, k2, n2⟩, -, X2, ⟨Lc2, hQ2, l2, y2, z2⟩, st2⟩ := X0.virtualBack hx (y := (⟨"java/lang/String", "isLatin1", "()Z"⟩ : MethodName)) (z := (⟨"java/lang/String", "isLatin1", "()Z"⟩ : MethodName)) hown (mvT hZ (hw _ (List.mem_of_getElem? (i := 54) rfl))) (mvT hZ (hw _ (List.mem_of_getElem? (i := 55) rfl))) (notFace_of_selects (args := #[]) (mvT hZ (hw _ (List.mem_of_getElem? (i := 57) rfl)))) (mvT hZ (hw _ (List.mem_of_getElem? (i := 57) rfl))) (mvT hZ (hw _ (List.mem_of_getElem? (i := 56) rfl))) (by decide) (backOf (W := 0) (own_m8 l Z a0 hw [] a1 w_COMPACT_STRINGS h0 n0 Z0 S_COMPACT_STRINGS F_coder_a1 hz) hZ (hw _ (List.mem_of_getElem? (i := 58) rfl)) (hw _ (List.mem_of_getElem? (i := 29) rfl)) (by decide) (by decide)) q2a q2c (g := (mkF m 1 #[.val (.ref a1), .val (.int (0 : Int32))] [(.ref a1)])) rfl (by rw [hml]; rfl) (Steps.refl _) (argsL := []) (rest := []) (lenOf own_pd3 rfl) rfl (by show 2 * 0 + _ ≤ _; exact Nat.le_of_eq rfl) (hb hby own_d7_1) (fun _ _ => ⟨rfl, e0, (by decide : 0 + 0 ≤ _), (by decide : 0 + 0 ≤ _)⟩)
  dsimp only [Pt.U, Pt.locs, Pt.cells, Pt.slots] at X2 l2 y2 z2 st2 hQ2
  subst l2 y2 z2
  rw [show own_f8 = (1 : Int32) from rfl] at hQ2
  obtain ⟨rfl, N2q, e2⟩ := hQ2
  have N2 := Fr.app N0 N2q
  have k3 : own_To p.tables e below (s₁.setTop (entryFrame m #[(.ref a1), (.int (0 : Int32))] 2)) T2 (mkF m 4 #[.val (.ref a1), .val (.int (0 : Int32))] [(.int (1 : Int32))]) := fun t k => k1 t (st2.trans k)
  have k4 : own_To p.tables e below (s₁.setTop (entryFrame m #[(.ref a1), (.int (0 : Int32))] 2)) T2 (mkF m 7 #[.val (.ref a1), .val (.int (0 : Int32))] []) := fun t k => k3 t (XS.ifNo X2.here hx rfl (hb hby own_d7_4) rfl ((if0 _ _).trans (feq (show ¬ ((1 : Int32) = (0 : Int32)) from (by decide))).1) k)
  have k5 : own_To p.tables e below (s₁.setTop (entryFrame m #[(.ref a1), (.int (0 : Int32))] 2)) T2 (mkF m 8 #[.val (.ref a1), .val (.int (0 : Int32))] [(.ref a1)]) := fun t k => k4 t (XS.aloadN X2.here hx rfl (hb hby own_d7_7) rfl rfl k)
  obtain ⟨T6, X6, e6, st6⟩ := getF X2 hx hZ hown (host := "") (Or.inl (hw _ (List.mem_of_getElem? (i := 41) rfl))) Via.refl e2 F_value_a1 (g := (mkF m 8 #[.val (.ref a1), .val (.int (0 : Int32))] [(.ref a1)])) rfl rfl (hb hby own_d7_8)
  have k7 : own_To p.tables e below (s₁.setTop (entryFrame m #[(.ref a1), (.int (0 : Int32))] 2)) T6 (mkF m 11 #[.val (.ref a1), .val (.int (0 : Int32))] [(.ref w_value_a1)]) := fun t k => k5 t (st6 t k)
  have k8 : own_To p.tables e below (s₁.setTop (entryFrame m #[(.ref a1), (.int (0 : Int32))] 2)) T6 (mkF m 12 #[.val (.ref a1), .val (.int (0 : Int32))] [(.int (0 : Int32)), (.ref w_value_a1)]) := fun t k => k7 t (XS.iloadN X6.here hx rfl (hb hby own_d7_11) rfl k)
  obtain ⟨_, _, ⟨T9, L9, k9, n9⟩, -, X9, ⟨Lc9, hQ9, l9, y9, z9⟩, st9⟩ := Jvm.LawKit.callS X6 hx (y := (⟨"java/lang/StringLatin1", "charAt", "([BI)C"⟩ : MethodName)) hown (mvT hZ (hw _ (List.mem_of_getElem? (i := 59) rfl))) (mvT hZ (hw _ (List.mem_of_getElem? (i := 60) rfl))) (mvT hZ (hw _ (List.mem_of_getElem? (i := 61) rfl))) (mvT hZ (hw _ (List.mem_of_getElem? (i := 62) rfl))) (by decide) (backOf (W := 0) (own_m9_t6 l Z a0 hw [] w_value_a1 kc_w_value_a1 w_SIOOBE_FORMATTER h0 n0 Z0 V_w_value_a1 S_SIOOBE_FORMATTER hrS) hZ (hw _ (List.mem_of_getElem? (i := 62) rfl)) (hw _ (List.mem_of_getElem? (i := 61) rfl)) (by decide) (by decide)) (g := (mkF m 12 #[.val (.ref a1), .val (.int (0 : Int32))] [(.int (0 : Int32)), (.ref w_value_a1)])) rfl (by rw [hml]; rfl) (argsL := [(.ref w_value_a1), (.int (0 : Int32))]) (rest := []) (lenOf own_pd4 rfl) rfl (by show 2 * 0 + _ ≤ _; exact Nat.le_of_eq rfl) (hb hby own_d7_12) (fun _ _ => ⟨rfl, e6, (by decide : 0 + 0 ≤ _), (by decide : 0 + 0 ≤ _)⟩)
  dsimp only [Pt.U, Pt.locs, Pt.cells, Pt.slots] at X9 l9 y9 z9 st9 hQ9
  subst l9 y9 z9
  rw [show own_f9_t6 = (62 : Int32) from rfl] at hQ9
  obtain ⟨rfl, N9q, e9⟩ := hQ9
  have N9 := Fr.app N2 N9q
  have k10 : own_To p.tables e below (s₁.setTop (entryFrame m #[(.ref a1), (.int (0 : Int32))] 2)) T9 (mkF m 15 #[.val (.ref a1), .val (.int (0 : Int32))] [(.int (62 : Int32))]) := fun t k => k8 t (st9 t k)
  obtain ⟨fs, hr, hrun, hended, hW, hsame⟩ := X9.leave (v := some (.int (62 : Int32))) (fun h => by rw [Bd.returns] at h; cases h)
  refine ⟨_, _, k10 _ ?_, hrun, hended, _, _, rfl, ?_, ⟨_, rfl⟩, hW, hsame.mono (by decide) (by decide)⟩
  · exact retN X9 hx (t := .char) Bd.returns (by simp) (hb hby own_d7_15) (by first | exact hr | (rw [show nar .char (62 : Int32) = (62 : Int32) from by decide]; exact hr))
  · refine ⟨?_, N9, e9⟩
    rw [show (own_f7_t6) = (62 : Int32) from by unfold own_f7_t6; rfl]
def own_f13_t6 : Int32 := (0 : Int32)
set_option maxRecDepth 65536 in
set_option maxHeartbeats 40000000 in
theorem own_m13_t6 (l : Launch) (Z : State) (a0 : Array Value) (hw : ∀ d ∈ tables_1, d.before a0 Z = true) (ws : List Jvm.Cond) (a1 : Addr) (a2 : Addr) (kc_a1 : ClassId) (kc_a2 : ClassId) (h0 : Heap) (n0 : Nat) (Z0 : n0 ≤ h0.size) (V_a1 : Arv Z h0 a1 kc_a1 .byte (2 : Int32) [(.int (62 : Int32)), (.int (61 : Int32))] (.int (0 : Int32))) (V_a2 : Arv Z h0 a2 kc_a2 .byte (2 : Int32) [(.int (60 : Int32)), (.int (62 : Int32))] (.int (0 : Int32))) :
    MetFree l (⟨"java/lang/StringLatin1", "equals", "([B[B)Z"⟩ : MethodName) (head1 (Jvm.Cond.code (⟨"java/lang/StringLatin1", "equals", "([B[B)Z"⟩ : MethodName) jdk_43_method_13_code 3 (some .boolean) :: ws) ({ frames := 0, cells := 0, slots := 0, locals := 0 } : Room)) (fun a U => a = #[(.ref a1), (.ref a2)] ∧ Z.Warmed39 U.vm ∧ U.heap = h0) (fun _ _ _ _ _ => True) (fun _ U o U' => ∃ v L, o = .returned v ∧ own_Q (some (.int own_f13_t6)) h0 n0 v U'.heap L ∧ FrameEnd U o U' L ({ frames := 0, cells := 0, slots := 0, locals := 0 } : Room).cells ({ frames := 0, cells := 0, slots := 0, locals := 0 } : Room).slots) := by
  refine MetFree.of_bodySF (plainFor_of_name own_pn13) hisR ?_
  intro p e s m args below meth c s₁ Bd hml0 hP hK
  obtain ⟨rfl, hZ, hh⟩ := hP
  have hx := Bd.exec
  have hby := Bd.bytes
  have hml : c.maxLocals = 3 := hml0
  have hown : s.vm.findClass "java/lang/StringLatin1" = some m.cls := findClass_of_methodNamed Bd.named
  have hnm := (name_of_methodNamed Bd.named Bd.method).1
  have X0 : Stand p l e ({ frames := 0, cells := 0, slots := 0, locals := 0 } : Room) s m #[(.ref a1), (.ref a2)] below meth c s₁ [] 0 0 := Stand.of_body Bd
  have e0 : s₁.heap = h0 := by rw [← hh, Bd.state]; rfl
  have N0 := Fr.nil n0
  have k0 : own_To p.tables e below (s₁.setTop (entryFrame m #[(.ref a1), (.ref a2)] 3)) s₁ (mkF m 0 #[.val (.ref a1), .val (.ref a2), .unset] []) := fun t k => castTop (own_ef13 m a1 a2) k
  have k1 : own_To p.tables e below (s₁.setTop (entryFrame m #[(.ref a1), (.ref a2)] 3)) s₁ (mkF m 1 #[.val (.ref a1), .val (.ref a2), .unset] [(.ref a1)]) := fun t k => k0 t (XS.aloadN X0.here hx rfl (hb hby own_d13_0) rfl rfl k)
  obtain ⟨cl2, Ar2, qa2, Sa2, Na2, Ha2, Ga2⟩ := id V_a1
  have k3 : own_To p.tables e below (s₁.setTop (entryFrame m #[(.ref a1), (.ref a2)] 3)) s₁ (mkF m 2 #[.val (.ref a1), .val (.ref a2), .unset] [(.int (2 : Int32))]) := fun t k => k1 t (X0.arraylength hx (by rw [e0]; exact Ar2.1) (State.isArrayOf_alike hZ.alike Ar2.2.1) (g := (mkF m 1 #[.val (.ref a1), .val (.ref a2), .unset] [(.ref a1)])) rfl rfl (hb hby own_d13_1) _ (by rw [len_of Sa2 Na2]; exact k))
  have k4 : own_To p.tables e below (s₁.setTop (entryFrame m #[(.ref a1), (.ref a2)] 3)) s₁ (mkF m 3 #[.val (.ref a1), .val (.ref a2), .unset] [(.ref a2), (.int (2 : Int32))]) := fun t k => k3 t (XS.aloadN X0.here hx rfl (hb hby own_d13_2) rfl rfl k)
  obtain ⟨cl5, Ar5, qa5, Sa5, Na5, Ha5, Ga5⟩ := id V_a2
  have k6 : own_To p.tables e below (s₁.setTop (entryFrame m #[(.ref a1), (.ref a2)] 3)) s₁ (mkF m 4 #[.val (.ref a1), .val (.ref a2), .unset] [(.int (2 : Int32)), (.int (2 : Int32))]) := fun t k => k4 t (X0.arraylength hx (by rw [e0]; exact Ar5.1) (State.isArrayOf_alike hZ.alike Ar5.2.1) (g := (mkF m 3 #[.val (.ref a1), .val (.ref a2), .unset] [(.ref a2), (.int (2 : Int32))])) rfl rfl (hb hby own_d13_3) _ (by rw [len_of Sa5 Na5]; exact k))
  have k7 : own_To p.tables e below (s₁.setTop (entryFrame m #[(.ref a1), (.ref a2)] 3)) s₁ (mkF m 7 #[.val (.ref a1), .val (.ref a2), .unset] []) := fun t k => k6 t (XS.icmpNo X0.here hx rfl (hb hby own_d13_4) rfl (teq (show (2 : Int32) = (2 : Int32) from (by decide))).2 k)
  have k8 : own_To p.tables e below (s₁.setTop (entryFrame m #[(.ref a1), (.ref a2)] 3)) s₁ (mkF m 8 #[.val (.ref a1), .val (.ref a2), .unset] [(.int (0 : Int32))]) := fun t k => k7 t (XS.iconst X0.here hx rfl (hb hby own_d13_7) k)
  have k9 : own_To p.tables e below (s₁.setTop (entryFrame m #[(.ref a1), (.ref a2)] 3)) s₁ (mkF m 9 #[.val (.ref a1), .val (.ref a2), .val (.int (0 : Int32))] []) := fun t k => k8 t (XS.istoreN X0.here hx rfl (hb hby own_d13_8) rfl (l' := #[.val (.ref a1), .val (.ref a2), .val (.int (0 : Int32))]) rfl k)
  have k10 : own_To p.tables e below (s₁.setTop (entryFrame m #[(.ref a1), (.ref a2)] 3)) s₁ (mkF m 10 #[.val (.ref a1), .val (.ref a2), .val (.int (0 : Int32))] [(.int (0 : Int32))]) := fun t k => k9 t (XS.iloadN X0.here hx rfl (hb hby own_d13_9) rfl k)
  have k11 : own_To p.tables e below (s₁.setTop (entryFrame m #[(.ref a1), (.ref a2)] 3)) s₁ (mkF m 11 #[.val (.ref a1), .val (.ref a2), .val (.int (0 : Int32))] [(.ref a1), (.int (0 : Int32))]) := fun t k => k10 t (XS.aloadN X0.here hx rfl (hb hby own_d13_10) rfl rfl k)
  obtain ⟨cl12, Ar12, qa12, Sa12, Na12, Ha12, Ga12⟩ := id V_a1
  have k13 : own_To p.tables e below (s₁.setTop (entryFrame m #[(.ref a1), (.ref a2)] 3)) s₁ (mkF m 12 #[.val (.ref a1), .val (.ref a2), .val (.int (0 : Int32))] [(.int (2 : Int32)), (.int (0 : Int32))]) := fun t k => k11 t (X0.arraylength hx (by rw [e0]; exact Ar12.1) (State.isArrayOf_alike hZ.alike Ar12.2.1) (g := (mkF m 11 #[.val (.ref a1), .val (.ref a2), .val (.int (0 : Int32))] [(.ref a1), (.int (0 : Int32))])) rfl rfl (hb hby own_d13_11) _ (by rw [len_of Sa12 Na12]; exact k))
  have k14 : own_To p.tables e below (s₁.setTop (entryFrame m #[(.ref a1), (.ref a2)] 3)) s₁ (mkF m 15 #[.val (.ref a1), .val (.ref a2), .val (.int (0 : Int32))] []) := fun t k => k13 t (XS.icmpNo X0.here hx rfl (hb hby own_d13_12) rfl (tlt (show (0 : Int32) < (2 : Int32) from (by decide))).2.1 k)
  have k15 : own_To p.tables e below (s₁.setTop (entryFrame m #[(.ref a1), (.ref a2)] 3)) s₁ (mkF m 16 #[.val (.ref a1), .val (.ref a2), .val (.int (0 : Int32))] [(.ref a1)]) := fun t k => k14 t (XS.aloadN X0.here hx rfl (hb hby own_d13_15) rfl rfl k)
  have k16 : own_To p.tables e below (s₁.setTop (entryFrame m #[(.ref a1), (.ref a2)] 3)) s₁ (mkF m 17 #[.val (.ref a1), .val (.ref a2), .val (.int (0 : Int32))] [(.int (0 : Int32)), (.ref a1)]) := fun t k => k15 t (XS.iloadN X0.here hx rfl (hb hby own_d13_16) rfl k)
  obtain ⟨cl17, Ar17, qa17, Sa17, Na17, Ha17, Ga17⟩ := id V_a1
  have at17 : cl17.slots[((0 : Int32)).toNatClampNeg]? = some (.int (62 : Int32)) := Ha17.at (own_inb Sa17 (show (0 : Int32) = Nat.toInt32 0 from by decide) (show 0 < ((2 : Int32)).toNatClampNeg from by decide)) (by rw [own_idx (show (0 : Int32) = Nat.toInt32 0 from by decide) (by omega)]; exact rfl)
  have k18 : own_To p.tables e below (s₁.setTop (entryFrame m #[(.ref a1), (.ref a2)] 3)) s₁ (mkF m 18 #[.val (.ref a1), .val (.ref a2), .val (.int (0 : Int32))] [(.int (62 : Int32))]) := fun t k => k16 t (X0.baloadBytes hx (j := (0 : Int32)) (v := (.int (62 : Int32))) (by rw [e0]; exact Ar17.1) (State.isArrayOf_alike hZ.alike Ar17.2.1) Ar17.2.2 (own_inb Sa17 (show (0 : Int32) = Nat.toInt32 0 from by decide) (show 0 < ((2 : Int32)).toNatClampNeg from by decide)) at17 (g := (mkF m 17 #[.val (.ref a1), .val (.ref a2), .val (.int (0 : Int32))] [(.int (0 : Int32)), (.ref a1)])) rfl rfl (hb hby own_d13_17) _ k)
  have k19 : own_To p.tables e below (s₁.setTop (entryFrame m #[(.ref a1), (.ref a2)] 3)) s₁ (mkF m 19 #[.val (.ref a1), .val (.ref a2), .val (.int (0 : Int32))] [(.ref a2), (.int (62 : Int32))]) := fun t k => k18 t (XS.aloadN X0.here hx rfl (hb hby own_d13_18) rfl rfl k)
  have k20 : own_To p.tables e below (s₁.setTop (entryFrame m #[(.ref a1), (.ref a2)] 3)) s₁ (mkF m 20 #[.val (.ref a1), .val (.ref a2), .val (.int (0 : Int32))] [(.int (0 : Int32)), (.ref a2), (.int (62 : Int32))]) := fun t k => k19 t (XS.iloadN X0.here hx rfl (hb hby own_d13_19) rfl k)
  obtain ⟨cl21, Ar21, qa21, Sa21, Na21, Ha21, Ga21⟩ := id V_a2
  have at21 : cl21.slots[((0 : Int32)).toNatClampNeg]? = some (.int (60 : Int32)) := Ha21.at (own_inb Sa21 (show (0 : Int32) = Nat.toInt32 0 from by decide) (show 0 < ((2 : Int32)).toNatClampNeg from by decide)) (by rw [own_idx (show (0 : Int32) = Nat.toInt32 0 from by decide) (by omega)]; exact rfl)
  have k22 : own_To p.tables e below (s₁.setTop (entryFrame m #[(.ref a1), (.ref a2)] 3)) s₁ (mkF m 21 #[.val (.ref a1), .val (.ref a2), .val (.int (0 : Int32))] [(.int (60 : Int32)), (.int (62 : Int32))]) := fun t k => k20 t (X0.baloadBytes hx (j := (0 : Int32)) (v := (.int (60 : Int32))) (by rw [e0]; exact Ar21.1) (State.isArrayOf_alike hZ.alike Ar21.2.1) Ar21.2.2 (own_inb Sa21 (show (0 : Int32) = Nat.toInt32 0 from by decide) (show 0 < ((2 : Int32)).toNatClampNeg from by decide)) at21 (g := (mkF m 20 #[.val (.ref a1), .val (.ref a2), .val (.int (0 : Int32))] [(.int (0 : Int32)), (.ref a2), (.int (62 : Int32))])) rfl rfl (hb hby own_d13_20) _ k)
  have k23 : own_To p.tables e below (s₁.setTop (entryFrame m #[(.ref a1), (.ref a2)] 3)) s₁ (mkF m 24 #[.val (.ref a1), .val (.ref a2), .val (.int (0 : Int32))] []) := fun t k => k22 t (XS.icmpNo X0.here hx rfl (hb hby own_d13_21) rfl (feq (show ¬ ((62 : Int32) = (60 : Int32)) from (by decide))).1 k)
  have k24 : own_To p.tables e below (s₁.setTop (entryFrame m #[(.ref a1), (.ref a2)] 3)) s₁ (mkF m 25 #[.val (.ref a1), .val (.ref a2), .val (.int (0 : Int32))] [(.int (0 : Int32))]) := fun t k => k23 t (XS.iconst X0.here hx rfl (hb hby own_d13_24) k)
  obtain ⟨fs, hr, hrun, hended, hW, hsame⟩ := X0.leave (v := some (.int (0 : Int32))) (fun h => by rw [Bd.returns] at h; cases h)
  refine ⟨_, _, k24 _ ?_, hrun, hended, _, _, rfl, ?_, ⟨_, rfl⟩, hW, hsame.mono (by decide) (by decide)⟩
  · exact retN X0 hx (t := .boolean) Bd.returns (by simp) (hb hby own_d13_25) (by first | exact hr | (rw [show nar .boolean (0 : Int32) = (0 : Int32) from by decide]; exact hr))
  · refine ⟨?_, N0, e0⟩
    rw [show (own_f13_t6) = (0 : Int32) from by unfold own_f13_t6; rfl]
def own_f12_t6 : Int32 := (0 : Int32)
set_option maxRecDepth 65536 in
set_option maxHeartbeats 40000000 in
theorem own_m12_t6 (l : Launch) (Z : State) (a0 : Array Value) (hw : ∀ d ∈ tables_1, d.before a0 Z = true) (ws : List Jvm.Cond) (a1 : Addr) (a2 : Addr) (w_COMPACT_STRINGS : Int32) (w_value_a1 : Addr) (w_value_a2 : Addr) (kc_w_value_a1 : ClassId) (kc_w_value_a2 : ClassId) (h0 : Heap) (n0 : Nat) (Z0 : n0 ≤ h0.size) (E_a2 : Exa Z h0 a2 "java/lang/String") (S_COMPACT_STRINGS : Sta Z h0 "java/lang/String" "COMPACT_STRINGS" "Z" (.int w_COMPACT_STRINGS)) (F_coder_a1 : Fld Z h0 a1 "java/lang/String" "coder" "B" (.int (0 : Int32))) (F_coder_a2 : Fld Z h0 a2 "java/lang/String" "coder" "B" (.int (0 : Int32))) (F_value_a1 : Fld Z h0 a1 "java/lang/String" "value" "[B" (.ref w_value_a1)) (F_value_a2 : Fld Z h0 a2 "java/lang/String" "value" "[B" (.ref w_value_a2)) (V_w_value_a1 : Arv Z h0 w_value_a1 kc_w_value_a1 .byte (2 : Int32) [(.int (62 : Int32)), (.int (61 : Int32))] (.int (0 : Int32))) (V_w_value_a2 : Arv Z h0 w_value_a2 kc_w_value_a2 .byte (2 : Int32) [(.int (60 : Int32)), (.int (62 : Int32))] (.int (0 : Int32))) (hz : ¬ (w_COMPACT_STRINGS = (0 : Int32))) (hne : ¬ (a1 = a2)) :
    MetFree l (⟨"java/lang/String", "equals", "(Ljava/lang/Object;)Z"⟩ : MethodName) (head1 (Jvm.Cond.code (⟨"java/lang/String", "equals", "(Ljava/lang/Object;)Z"⟩ : MethodName) jdk_42_method_66_code 3 (some .boolean) :: ws) ({ frames := 1, cells := 0, slots := 0, locals := 14 } : Room)) (fun a U => a = #[(.ref a1), (.ref a2)] ∧ Z.Warmed39 U.vm ∧ U.heap = h0) (fun _ _ _ _ _ => True) (fun _ U o U' => ∃ v L, o = .returned v ∧ own_Q (some (.int own_f12_t6)) h0 n0 v U'.heap L ∧ FrameEnd U o U' L ({ frames := 1, cells := 0, slots := 0, locals := 14 } : Room).cells ({ frames := 1, cells := 0, slots := 0, locals := 14 } : Room).slots) := by
  refine MetFree.of_bodySF (plainFor_of_name own_pn12) hisR ?_
  intro p e s m args below meth c s₁ Bd hml0 hP hK
  obtain ⟨rfl, hZ, hh⟩ := hP
  have hx := Bd.exec
  have hby := Bd.bytes
  have hml : c.maxLocals = 3 := hml0
  have hown : s.vm.findClass "java/lang/String" = some m.cls := findClass_of_methodNamed Bd.named
  have hnm := (name_of_methodNamed Bd.named Bd.method).1
  have X0 : Stand p l e ({ frames := 1, cells := 0, slots := 0, locals := 14 } : Room) s m #[(.ref a1), (.ref a2)] below meth c s₁ [] 0 0 := Stand.of_body Bd
  have e0 : s₁.heap = h0 := by rw [← hh, Bd.state]; rfl
  have N0 := Fr.nil n0
  have k0 : own_To p.tables e below (s₁.setTop (entryFrame m #[(.ref a1), (.ref a2)] 3)) s₁ (mkF m 0 #[.val (.ref a1), .val (.ref a2), .unset] []) := fun t k => castTop (own_ef12 m a1 a2) k
  have k1 : own_To p.tables e below (s₁.setTop (entryFrame m #[(.ref a1), (.ref a2)] 3)) s₁ (mkF m 1 #[.val (.ref a1), .val (.ref a2), .unset] [(.ref a1)]) := fun t k => k0 t (XS.aloadN X0.here hx rfl (hb hby own_d12_0) rfl rfl k)
  have k2 : own_To p.tables e below (s₁.setTop (entryFrame m #[(.ref a1), (.ref a2)] 3)) s₁ (mkF m 2 #[.val (.ref a1), .val (.ref a2), .unset] [(.ref a2), (.ref a1)]) := fun t k => k1 t (XS.aloadN X0.here hx rfl (hb hby own_d12_1) rfl rfl k)
  have k3 : own_To p.tables e below (s₁.setTop (entryFrame m #[(.ref a1), (.ref a2)] 3)) s₁ (mkF m 7 #[.val (.ref a1), .val (.ref a2), .unset] []) := fun t k => k2 t (Jvm.RoadKit.acmp (g := (mkF m 2 #[.val (.ref a1), .val (.ref a2), .unset] [(.ref a2), (.ref a1)])) X0 hx rfl rfl rfl (pc0 := 2) (pc' := 7) (same := false) rfl (hb hby own_d12_2) rfl (decide_eq_false fun q => hne (Value.ref.inj q)) (by decide) (by decide) k)
  have k4 : own_To p.tables e below (s₁.setTop (entryFrame m #[(.ref a1), (.ref a2)] 3)) s₁ (mkF m 8 #[.val (.ref a1), .val (.ref a2), .unset] [(.ref a2)]) := fun t k => k3 t (XS.aloadN X0.here hx rfl (hb hby own_d12_7) rfl rfl k)
  obtain ⟨T5, X5, e5, st5⟩ := instY X0 hx hZ hown (hw _ (List.mem_of_getElem? (i := 84) rfl)) e0 (Ins.self E_a2) (g := (mkF m 8 #[.val (.ref a1), .val (.ref a2), .unset] [(.ref a2)])) rfl rfl (hb hby own_d12_8)
  have k6 : own_To p.tables e below (s₁.setTop (entryFrame m #[(.ref a1), (.ref a2)] 3)) T5 (mkF m 11 #[.val (.ref a1), .val (.ref a2), .unset] [(.int (1 : Int32))]) := fun t k => k4 t (st5 t k)
  have k7 : own_To p.tables e below (s₁.setTop (entryFrame m #[(.ref a1), (.ref a2)] 3)) T5 (mkF m 14 #[.val (.ref a1), .val (.ref a2), .unset] []) := fun t k => k6 t (XS.ifNo X5.here hx rfl (hb hby own_d12_11) rfl ((if0 _ _).trans (feq (show ¬ ((1 : Int32) = (0 : Int32)) from (by decide))).1) k)
  have k8 : own_To p.tables e below (s₁.setTop (entryFrame m #[(.ref a1), (.ref a2)] 3)) T5 (mkF m 15 #[.val (.ref a1), .val (.ref a2), .unset] [(.ref a2)]) := fun t k => k7 t (XS.aloadN X5.here hx rfl (hb hby own_d12_14) rfl rfl k)
  obtain ⟨T9, X9, e9, st9⟩ := castY X5 hx hZ hown (hw _ (List.mem_of_getElem? (i := 84) rfl)) e5 (Ins.self E_a2) (g := (mkF m 15 #[.val (.ref a1), .val (.ref a2), .unset] [(.ref a2)])) rfl rfl (hb hby own_d12_15)
  have k10 : own_To p.tables e below (s₁.setTop (entryFrame m #[(.ref a1), (.ref a2)] 3)) T9 (mkF m 18 #[.val (.ref a1), .val (.ref a2), .unset] [(.ref a2)]) := fun t k => k8 t (st9 t k)
  have k11 : own_To p.tables e below (s₁.setTop (entryFrame m #[(.ref a1), (.ref a2)] 3)) T9 (mkF m 19 #[.val (.ref a1), .val (.ref a2), .val (.ref a2)] []) := fun t k => k10 t (XS.astoreN X9.here hx rfl (hb hby own_d12_18) rfl rfl (l' := #[.val (.ref a1), .val (.ref a2), .val (.ref a2)]) rfl k)
  obtain ⟨T12, X12, e12, st12⟩ := getS2 X9 hx hZ hown (host := "") (Or.inl (hw _ (List.mem_of_getElem? (i := 47) rfl))) Via.refl e9 S_COMPACT_STRINGS (g := (mkF m 19 #[.val (.ref a1), .val (.ref a2), .val (.ref a2)] [])) rfl (hb hby own_d12_19)
  have k13 : own_To p.tables e below (s₁.setTop (entryFrame m #[(.ref a1), (.ref a2)] 3)) T12 (mkF m 22 #[.val (.ref a1), .val (.ref a2), .val (.ref a2)] [(.int w_COMPACT_STRINGS)]) := fun t k => k11 t (st12 t k)
  have k14 : own_To p.tables e below (s₁.setTop (entryFrame m #[(.ref a1), (.ref a2)] 3)) T12 (mkF m 25 #[.val (.ref a1), .val (.ref a2), .val (.ref a2)] []) := fun t k => k13 t (XS.ifNo X12.here hx rfl (hb hby own_d12_22) rfl ((if0 _ _).trans (feq (show ¬ (w_COMPACT_STRINGS = (0 : Int32)) from hz)).1) k)
  have k15 : own_To p.tables e below (s₁.setTop (entryFrame m #[(.ref a1), (.ref a2)] 3)) T12 (mkF m 26 #[.val (.ref a1), .val (.ref a2), .val (.ref a2)] [(.ref a1)]) := fun t k => k14 t (XS.aloadN X12.here hx rfl (hb hby own_d12_25) rfl rfl k)
  obtain ⟨T16, X16, e16, st16⟩ := getF X12 hx hZ hown (host := "") (Or.inl (hw _ (List.mem_of_getElem? (i := 48) rfl))) Via.refl e12 F_coder_a1 (g := (mkF m 26 #[.val (.ref a1), .val (.ref a2), .val (.ref a2)] [(.ref a1)])) rfl rfl (hb hby own_d12_26)
  have k17 : own_To p.tables e below (s₁.setTop (entryFrame m #[(.ref a1), (.ref a2)] 3)) T16 (mkF m 29 #[.val (.ref a1), .val (.ref a2), .val (.ref a2)] [(.int (0 : Int32))]) := fun t k => k15 t (st16 t k)
  have k18 : own_To p.tables e below (s₁.setTop (entryFrame m #[(.ref a1), (.ref a2)] 3)) T16 (mkF m 30 #[.val (.ref a1), .val (.ref a2), .val (.ref a2)] [(.ref a2), (.int (0 : Int32))]) := fun t k => k17 t (XS.aloadN X16.here hx rfl (hb hby own_d12_29) rfl rfl k)
  obtain ⟨T19, X19, e19, st19⟩ := getF X16 hx hZ hown (host := "") (Or.inl (hw _ (List.mem_of_getElem? (i := 48) rfl))) Via.refl e16 F_coder_a2 (g := (mkF m 30 #[.val (.ref a1), .val (.ref a2), .val (.ref a2)] [(.ref a2), (.int (0 : Int32))])) rfl rfl (hb hby own_d12_30)
  have k20 : own_To p.tables e below (s₁.setTop (entryFrame m #[(.ref a1), (.ref a2)] 3)) T19 (mkF m 33 #[.val (.ref a1), .val (.ref a2), .val (.ref a2)] [(.int (0 : Int32)), (.int (0 : Int32))]) := fun t k => k18 t (st19 t k)
  have k21 : own_To p.tables e below (s₁.setTop (entryFrame m #[(.ref a1), (.ref a2)] 3)) T19 (mkF m 36 #[.val (.ref a1), .val (.ref a2), .val (.ref a2)] []) := fun t k => k20 t (XS.icmpNo X19.here hx rfl (hb hby own_d12_33) rfl (teq (show (0 : Int32) = (0 : Int32) from (by decide))).2 k)
  have k22 : own_To p.tables e below (s₁.setTop (entryFrame m #[(.ref a1), (.ref a2)] 3)) T19 (mkF m 37 #[.val (.ref a1), .val (.ref a2), .val (.ref a2)] [(.ref a1)]) := fun t k => k21 t (XS.aloadN X19.here hx rfl (hb hby own_d12_36) rfl rfl k)
  obtain ⟨T23, X23, e23, st23⟩ := getF X19 hx hZ hown (host := "") (Or.inl (hw _ (List.mem_of_getElem? (i := 41) rfl))) Via.refl e19 F_value_a1 (g := (mkF m 37 #[.val (.ref a1), .val (.ref a2), .val (.ref a2)] [(.ref a1)])) rfl rfl (hb hby own_d12_37)
  have k24 : own_To p.tables e below (s₁.setTop (entryFrame m #[(.ref a1), (.ref a2)] 3)) T23 (mkF m 40 #[.val (.ref a1), .val (.ref a2), .val (.ref a2)] [(.ref w_value_a1)]) := fun t k => k22 t (st23 t k)
  have k25 : own_To p.tables e below (s₁.setTop (entryFrame m #[(.ref a1), (.ref a2)] 3)) T23 (mkF m 41 #[.val (.ref a1), .val (.ref a2), .val (.ref a2)] [(.ref a2), (.ref w_value_a1)]) := fun t k => k24 t (XS.aloadN X23.here hx rfl (hb hby own_d12_40) rfl rfl k)
  obtain ⟨T26, X26, e26, st26⟩ := getF X23 hx hZ hown (host := "") (Or.inl (hw _ (List.mem_of_getElem? (i := 41) rfl))) Via.refl e23 F_value_a2 (g := (mkF m 41 #[.val (.ref a1), .val (.ref a2), .val (.ref a2)] [(.ref a2), (.ref w_value_a1)])) rfl rfl (hb hby own_d12_41)
  have k27 : own_To p.tables e below (s₁.setTop (entryFrame m #[(.ref a1), (.ref a2)] 3)) T26 (mkF m 44 #[.val (.ref a1), .val (.ref a2), .val (.ref a2)] [(.ref w_value_a2), (.ref w_value_a1)]) := fun t k => k25 t (st26 t k)
  obtain ⟨_, _, ⟨T28, L28, k28, n28⟩, -, X28, ⟨Lc28, hQ28, l28, y28, z28⟩, st28⟩ := Jvm.LawKit.callS X26 hx (y := (⟨"java/lang/StringLatin1", "equals", "([B[B)Z"⟩ : MethodName)) hown (mvT hZ (hw _ (List.mem_of_getElem? (i := 86) rfl))) (mvT hZ (hw _ (List.mem_of_getElem? (i := 87) rfl))) (mvT hZ (hw _ (List.mem_of_getElem? (i := 61) rfl))) (mvT hZ (hw _ (List.mem_of_getElem? (i := 88) rfl))) (by decide) (backOf (W := 0) (own_m13_t6 l Z a0 hw [] w_value_a1 w_value_a2 kc_w_value_a1 kc_w_value_a2 h0 n0 Z0 V_w_value_a1 V_w_value_a2) hZ (hw _ (List.mem_of_getElem? (i := 88) rfl)) (hw _ (List.mem_of_getElem? (i := 61) rfl)) (by decide) (by decide)) (g := (mkF m 44 #[.val (.ref a1), .val (.ref a2), .val (.ref a2)] [(.ref w_value_a2), (.ref w_value_a1)])) rfl (by rw [hml]; rfl) (argsL := [(.ref w_value_a1), (.ref w_value_a2)]) (rest := []) (lenOf own_pd5 rfl) rfl (by show 2 * 0 + _ ≤ _; exact Nat.le_of_eq rfl) (hb hby own_d12_44) (fun _ _ => ⟨rfl, e26, (by decide : 0 + 0 ≤ _), (by decide : 0 + 0 ≤ _)⟩)
  dsimp only [Pt.U, Pt.locs, Pt.cells, Pt.slots] at X28 l28 y28 z28 st28 hQ28
  subst l28 y28 z28
  rw [show own_f13_t6 = (0 : Int32) from rfl] at hQ28
  obtain ⟨rfl, N28q, e28⟩ := hQ28
  have N28 := Fr.app N0 N28q
  have k29 : own_To p.tables e below (s₁.setTop (entryFrame m #[(.ref a1), (.ref a2)] 3)) T28 (mkF m 47 #[.val (.ref a1), .val (.ref a2), .val (.ref a2)] [(.int (0 : Int32))]) := fun t k => k27 t (st28 t k)
  have k30 : own_To p.tables e below (s₁.setTop (entryFrame m #[(.ref a1), (.ref a2)] 3)) T28 (mkF m 54 #[.val (.ref a1), .val (.ref a2), .val (.ref a2)] []) := fun t k => k29 t (XS.ifYes X28.here hx rfl (pc0 := 47) (pc' := 54) rfl (hb hby own_d12_47) rfl ((if0 _ _).trans (teq (show (0 : Int32) = (0 : Int32) from (by decide))).1) (by decide) (by decide) k)
  have k31 : own_To p.tables e below (s₁.setTop (entryFrame m #[(.ref a1), (.ref a2)] 3)) T28 (mkF m 55 #[.val (.ref a1), .val (.ref a2), .val (.ref a2)] [(.int (0 : Int32))]) := fun t k => k30 t (XS.iconst X28.here hx rfl (hb hby own_d12_54) k)
  obtain ⟨fs, hr, hrun, hended, hW, hsame⟩ := X28.leave (v := some (.int (0 : Int32))) (fun h => by rw [Bd.returns] at h; cases h)
  refine ⟨_, _, k31 _ ?_, hrun, hended, _, _, rfl, ?_, ⟨_, rfl⟩, hW, hsame.mono (by decide) (by decide)⟩
  · exact retN X28 hx (t := .boolean) Bd.returns (by simp) (hb hby own_d12_55) (by first | exact hr | (rw [show nar .boolean (0 : Int32) = (0 : Int32) from by decide]; exact hr))
  · refine ⟨?_, N28, e28⟩
    rw [show (own_f12_t6) = (0 : Int32) from by unfold own_f12_t6; rfl]
theorem own_d3_0 : decode prog_69_method_5_code 0 = .ok (.aload_n 0, 1) := by decide +kernel
theorem own_d3_1 : decode prog_69_method_5_code 1 = .ok (.invokevirtual 58, 3) := by decide +kernel
theorem own_pd6 : parseMethodDescriptor "()I" = some ⟨[], some .int⟩ := by decide +kernel
theorem own_d3_4 : decode prog_69_method_5_code 4 = .ok (.tableswitch 44 0 6 #[54, 59, 64, 69, 74, 79, 84], 44) := by decide +kernel
theorem own_d3_58 : decode prog_69_method_5_code 58 = .ok (.ldc 67, 2) := by decide +kernel
theorem own_d3_60 : decode prog_69_method_5_code 60 = .ok (.goto 30, 3) := by decide +kernel
theorem own_d3_90 : decode prog_69_method_5_code 90 = .ok (.areturn, 1) := by decide +kernel
theorem own_ef3 (m : MethodId) (x0 : Addr) : entryFrame m #[(.ref x0)] 1 = mkF m 0 #[.val (.ref x0)] [] := by first | (simp [entryFrame, mkF, argsToLocals, Value.category]; done) | rfl
theorem own_pn3 : plainName "com/example/grace_period/graceperiod/server/cql/CqlClause$Relation" = true := by first | (simp [plainName, overriddenIn]; done) | decide +kernel
def own_m3_SERVER_CHOICE_Q (Z : State) (a1 : Addr) (h0 : Heap) (n0 : Nat) (v : Option Value) (h : Heap) (L : List Loc) : Prop := ∃ (a b : Addr) (kc : ClassId), v = some (.ref a) ∧ Fr n0 L ∧ Keep h0 h [] ∧ Exa Z h a "java/lang/String" ∧ Fld Z h a "java/lang/String" "coder" "B" (.int (0 : Int32)) ∧ Fld Z h a "java/lang/String" "value" "[B" (.ref b) ∧ Arv Z h b kc .byte (1 : Int32) [(.int (61 : Int32))] (.int (0 : Int32))
set_option maxRecDepth 65536 in
set_option maxHeartbeats 40000000 in
theorem own_m3_SERVER_CHOICE (l : Launch) (Z : State) (a0 : Array Value) (hw : ∀ d ∈ tables_1, d.before a0 Z = true) (ws : List Jvm.Cond) (a1 : Addr) (h0 : Heap) (n0 : Nat) (Z0 : n0 ≤ h0.size) (F_ordinal_a1 : Fld Z h0 a1 "java/lang/Enum" "ordinal" "I" (.int (0 : Int32))) (E_a1 : Exa Z h0 a1 "com/example/grace_period/graceperiod/server/cql/CqlClause$Relation") :
    MetFree l (⟨"com/example/grace_period/graceperiod/server/cql/CqlClause$Relation", "symbol", "()Ljava/lang/String;"⟩ : MethodName) (head1 (Jvm.Cond.code (⟨"com/example/grace_period/graceperiod/server/cql/CqlClause$Relation", "symbol", "()Ljava/lang/String;"⟩ : MethodName) prog_69_method_5_code 1 (some (.object "java/lang/String")) :: ws) ({ frames := 1, cells := 2, slots := 8, locals := 12 } : Room)) (fun a U => a = #[(.ref a1)] ∧ Z.Warmed39 U.vm ∧ U.heap = h0 ∧ CHv Z consts_1 U.vm h0) (fun _ _ _ _ _ => True) (fun _ U o U' => ∃ v L, o = .returned v ∧ own_m3_SERVER_CHOICE_Q Z a1 h0 n0 v U'.heap L ∧ CHr Z consts_1 U.vm U.heap U'.vm U'.heap ∧ ReturnedEndW U o U' L ({ frames := 1, cells := 2, slots := 8, locals := 12 } : Room).cells ({ frames := 1, cells := 2, slots := 8, locals := 12 } : Room).slots) := by
  refine MetFree.of_bodySF (plainFor_of_name own_pn3) hisR ?_
  intro p e s m args below meth c s₁ Bd hml0 hP hK
  obtain ⟨rfl, hZ, hh, CH0⟩ := hP
  have hx := Bd.exec
  have hby := Bd.bytes
  have hml : c.maxLocals = 1 := hml0
  have hown : s.vm.findClass "com/example/grace_period/graceperiod/server/cql/CqlClause$Relation" = some m.cls := findClass_of_methodNamed Bd.named
  have hnm := (name_of_methodNamed Bd.named Bd.method).1
  have X0 : Stand p l e ({ frames := 1, cells := 2, slots := 8, locals := 12 } : Room) s m #[(.ref a1)] below meth c s₁ [] 0 0 := Stand.of_body Bd
  have X0 : Stand p l e ({ frames := 1, cells := 2, slots := 8, locals := 12 } : Room) (s.setVm s.vm) m #[(.ref a1)] below meth c s₁ [] 0 0 := X0
  have hZ : Z.Warmed39 (s.setVm s.vm).vm := hZ
  have hown : (s.setVm s.vm).vm.findClass "com/example/grace_period/graceperiod/server/cql/CqlClause$Relation" = some m.cls := hown
  have e0 : s₁.heap = h0 := by rw [← hh, Bd.state]; rfl
  have N0 := Fr.nil n0
  have hS0 : s.Since s.vm 0 := (State.WarmedH.refl s).since _
  have hk0 : 0 ≤ h0.size := Nat.zero_le _
  have CR0 : CHr Z consts_1 s.vm h0 s.vm h0 := CHr.refl CH0
  have k0 : own_To p.tables e below (s₁.setTop (entryFrame m #[(.ref a1)] 1)) s₁ (mkF m 0 #[.val (.ref a1)] []) := fun t k => castTop (own_ef3 m a1) k
  have k1 : own_To p.tables e below (s₁.setTop (entryFrame m #[(.ref a1)] 1)) s₁ (mkF m 1 #[.val (.ref a1)] [(.ref a1)]) := fun t k => k0 t (XS.aloadN X0.here hx rfl (hb hby own_d3_0) rfl rfl k)
  obtain ⟨cq2, kq2, q2a, q2b, q2c⟩ := isOf hZ e0 E_a1
  obtain ⟨_, _, ⟨T2, L2, k2, n2⟩, -, X2, ⟨Lc2, hQ2, l2, y2, z2⟩, st2⟩ := X0.virtualBackUp hx (x := (⟨"com/example/grace_period/graceperiod/server/cql/CqlClause$Relation", "ordinal", "()I"⟩ : MethodName)) (y := (⟨"java/lang/Enum", "ordinal", "()I"⟩ : MethodName)) (owner := "java/lang/Enum") hown (mvT hZ (hw _ (List.mem_of_getElem? (i := 19) rfl))) (mvT hZ (hw _ (List.mem_of_getElem? (i := 20) rfl))) (mvT hZ (hw _ (List.mem_of_getElem? (i := 21) rfl))) (by decide) (mvT hZ (hw _ (List.mem_of_getElem? (i := 23) rfl))) (mvT hZ (hw _ (List.mem_of_getElem? (i := 22) rfl))) (backOf (W := 0) (own_m4 l Z a0 hw [] a1 (0 : Int32) h0 n0 Z0 F_ordinal_a1) hZ (hw _ (List.mem_of_getElem? (i := 25) rfl)) (hw _ (List.mem_of_getElem? (i := 24) rfl)) (by decide) (by decide)) q2a q2c (g := (mkF m 1 #[.val (.ref a1)] [(.ref a1)])) rfl (by rw [hml]; rfl) (Steps.refl _) (argsL := []) (rest := []) (lenOf own_pd6 rfl) rfl (by show 2 * 0 + _ ≤ _; exact Nat.le_of_eq rfl) (hb hby own_d3_1) (fun _ _ => ⟨rfl, e0, (by decide : 0 + 0 ≤ _), (by decide : 0 + 0 ≤ _)⟩)
  dsimp only [Pt.U, Pt.locs, Pt.cells, Pt.slots] at X2 l2 y2 z2 st2 hQ2
  subst l2 y2 z2
  rw [show own_f4 (0 : Int32) = (0 : Int32) from rfl] at hQ2
  obtain ⟨rfl, N2q, e2⟩ := hQ2
  have N2 := Fr.app N0 N2q
  have k3 : own_To p.tables e below (s₁.setTop (entryFrame m #[(.ref a1)] 1)) T2 (mkF m 4 #[.val (.ref a1)] [(.int (0 : Int32))]) := fun t k => k1 t (st2.trans k)
  have k4 : own_To p.tables e below (s₁.setTop (entryFrame m #[(.ref a1)] 1)) T2 (mkF m 58 #[.val (.ref a1)] []) := fun t k => k3 t (XS.tswIn X2.here hx rfl (o := 54) (pc0 := 4) (pc' := 58) rfl (hb hby own_d3_4) rfl (by decide) (by decide) (by decide) (by decide) k)
  obtain ⟨a5, T5, h5, k15, bs5, kc5, X5, e5, E5, hS5, hk5, hZ, hown, EX5, FC5, FV5, AV5, la5, lb5, CU5, LT5, SX5, st5⟩ := ldcCH X2 hx hZ hown (hw _ (List.mem_of_getElem? (i := 28) rfl)) (own_wS hw) e2 hS0 hk0 (own_EW hw) (List.mem_of_getElem? (i := 0) rfl) CH0 (vs := [(.int (61 : Int32))]) (z := (1 : Int32)) ⟨by decide, by decide⟩ (by decide) (by decide) (g := (mkF m 58 #[.val (.ref a1)] [])) rfl (hb hby own_d3_58) (n := 4) (by decide) (by decide) (by decide) (by decide)
  have Z5 : n0 ≤ h5.size := Nat.le_trans Z0 E5.1
  have K5 : Keep h0 h5 [] := (Keep.refl h0 []).ext E5
  have CR5 := CR0.trans CU5
  have CH5 := CU5.1
  have k6 : own_To p.tables e below (s₁.setTop (entryFrame m #[(.ref a1)] 1)) T5 (mkF m 60 #[.val (.ref a1)] [(.ref a5)]) := fun t k => k4 t (st5 t k)
  have k7 : own_To p.tables e below (s₁.setTop (entryFrame m #[(.ref a1)] 1)) T5 (mkF m 90 #[.val (.ref a1)] [(.ref a5)]) := fun t k => k6 t (XS.goto X5.here hx rfl (pc0 := 60) (pc' := 90) rfl (hb hby own_d3_60) (by decide) (by decide) k)
  obtain ⟨fs, hr, hrun, hended, hEnd⟩ := X5.leaveW hS5 (by rw [e5]; exact hk5) (v := some (.ref a5)) (fun h => by rw [Bd.returns] at h; cases h)
  have hChr := CR5.trans (CHv.at X5 hZ (own_EW hw) CH5)
  refine ⟨_, _, k7 _ ?_, hrun, hended, _, _, rfl, ?_, ?_, own_monoW hEnd (by decide) (by decide)⟩
  · jvm_step X5.here [X5.here.top, hx, (hb hby own_d3_90), X5.method', Bd.returns, Value.isRef, FieldType.isReference]
    first | (intro acts; rw [hr _ acts rfl rfl rfl]) | rw [hr _ _ rfl rfl rfl]
    exact Steps.refl _
  · show own_m3_SERVER_CHOICE_Q Z a1 h0 n0 _ T5.heap _
    rw [e5]
    exact ⟨a5, bs5, kc5, rfl, N2, K5, EX5, FC5, FV5, AV5⟩
  · rw [hh]; show CHr Z consts_1 s.vm h0 T5.vm T5.heap; rw [e5]; exact hChr
theorem own_d3_63 : decode prog_69_method_5_code 63 = .ok (.ldc 69, 2) := by decide +kernel
theorem own_d3_65 : decode prog_69_method_5_code 65 = .ok (.goto 25, 3) := by decide +kernel
def own_m3_EXACT_Q (Z : State) (a1 : Addr) (h0 : Heap) (n0 : Nat) (v : Option Value) (h : Heap) (L : List Loc) : Prop := ∃ (a b : Addr) (kc : ClassId), v = some (.ref a) ∧ Fr n0 L ∧ Keep h0 h [] ∧ Exa Z h a "java/lang/String" ∧ Fld Z h a "java/lang/String" "coder" "B" (.int (0 : Int32)) ∧ Fld Z h a "java/lang/String" "value" "[B" (.ref b) ∧ Arv Z h b kc .byte (2 : Int32) [(.int (61 : Int32)), (.int (61 : Int32))] (.int (0 : Int32))
set_option maxRecDepth 65536 in
set_option maxHeartbeats 40000000 in
theorem own_m3_EXACT (l : Launch) (Z : State) (a0 : Array Value) (hw : ∀ d ∈ tables_1, d.before a0 Z = true) (ws : List Jvm.Cond) (a1 : Addr) (h0 : Heap) (n0 : Nat) (Z0 : n0 ≤ h0.size) (F_ordinal_a1 : Fld Z h0 a1 "java/lang/Enum" "ordinal" "I" (.int (1 : Int32))) (E_a1 : Exa Z h0 a1 "com/example/grace_period/graceperiod/server/cql/CqlClause$Relation") :
    MetFree l (⟨"com/example/grace_period/graceperiod/server/cql/CqlClause$Relation", "symbol", "()Ljava/lang/String;"⟩ : MethodName) (head1 (Jvm.Cond.code (⟨"com/example/grace_period/graceperiod/server/cql/CqlClause$Relation", "symbol", "()Ljava/lang/String;"⟩ : MethodName) prog_69_method_5_code 1 (some (.object "java/lang/String")) :: ws) ({ frames := 1, cells := 2, slots := 12, locals := 12 } : Room)) (fun a U => a = #[(.ref a1)] ∧ Z.Warmed39 U.vm ∧ U.heap = h0 ∧ CHv Z consts_1 U.vm h0) (fun _ _ _ _ _ => True) (fun _ U o U' => ∃ v L, o = .returned v ∧ own_m3_EXACT_Q Z a1 h0 n0 v U'.heap L ∧ CHr Z consts_1 U.vm U.heap U'.vm U'.heap ∧ ReturnedEndW U o U' L ({ frames := 1, cells := 2, slots := 12, locals := 12 } : Room).cells ({ frames := 1, cells := 2, slots := 12, locals := 12 } : Room).slots) := by
  refine MetFree.of_bodySF (plainFor_of_name own_pn3) hisR ?_
  intro p e s m args below meth c s₁ Bd hml0 hP hK
  obtain ⟨rfl, hZ, hh, CH0⟩ := hP
  have hx := Bd.exec
  have hby := Bd.bytes
  have hml : c.maxLocals = 1 := hml0
  have hown : s.vm.findClass "com/example/grace_period/graceperiod/server/cql/CqlClause$Relation" = some m.cls := findClass_of_methodNamed Bd.named
  have hnm := (name_of_methodNamed Bd.named Bd.method).1
  have X0 : Stand p l e ({ frames := 1, cells := 2, slots := 12, locals := 12 } : Room) s m #[(.ref a1)] below meth c s₁ [] 0 0 := Stand.of_body Bd
  have X0 : Stand p l e ({ frames := 1, cells := 2, slots := 12, locals := 12 } : Room) (s.setVm s.vm) m #[(.ref a1)] below meth c s₁ [] 0 0 := X0
  have hZ : Z.Warmed39 (s.setVm s.vm).vm := hZ
  have hown : (s.setVm s.vm).vm.findClass "com/example/grace_period/graceperiod/server/cql/CqlClause$Relation" = some m.cls := hown
  have e0 : s₁.heap = h0 := by rw [← hh, Bd.state]; rfl
  have N0 := Fr.nil n0
  have hS0 : s.Since s.vm 0 := (State.WarmedH.refl s).since _
  have hk0 : 0 ≤ h0.size := Nat.zero_le _
  have CR0 : CHr Z consts_1 s.vm h0 s.vm h0 := CHr.refl CH0
  have k0 : own_To p.tables e below (s₁.setTop (entryFrame m #[(.ref a1)] 1)) s₁ (mkF m 0 #[.val (.ref a1)] []) := fun t k => castTop (own_ef3 m a1) k
  have k1 : own_To p.tables e below (s₁.setTop (entryFrame m #[(.ref a1)] 1)) s₁ (mkF m 1 #[.val (.ref a1)] [(.ref a1)]) := fun t k => k0 t (XS.aloadN X0.here hx rfl (hb hby own_d3_0) rfl rfl k)
  obtain ⟨cq2, kq2, q2a, q2b, q2c⟩ := isOf hZ e0 E_a1
  obtain ⟨_, _, ⟨T2, L2, k2, n2⟩, -, X2, ⟨Lc2, hQ2, l2, y2, z2⟩, st2⟩ := X0.virtualBackUp hx (x := (⟨"com/example/grace_period/graceperiod/server/cql/CqlClause$Relation", "ordinal", "()I"⟩ : MethodName)) (y := (⟨"java/lang/Enum", "ordinal", "()I"⟩ : MethodName)) (owner := "java/lang/Enum") hown (mvT hZ (hw _ (List.mem_of_getElem? (i := 19) rfl))) (mvT hZ (hw _ (List.mem_of_getElem? (i := 20) rfl))) (mvT hZ (hw _ (List.mem_of_getElem? (i := 21) rfl))) (by decide) (mvT hZ (hw _ (List.mem_of_getElem? (i := 23) rfl))) (mvT hZ (hw _ (List.mem_of_getElem? (i := 22) rfl))) (backOf (W := 0) (own_m4 l Z a0 hw [] a1 (1 : Int32) h0 n0 Z0 F_ordinal_a1) hZ (hw _ (List.mem_of_getElem? (i := 25) rfl)) (hw _ (List.mem_of_getElem? (i := 24) rfl)) (by decide) (by decide)) q2a q2c (g := (mkF m 1 #[.val (.ref a1)] [(.ref a1)])) rfl (by rw [hml]; rfl) (Steps.refl _) (argsL := []) (rest := []) (lenOf own_pd6 rfl) rfl (by show 2 * 0 + _ ≤ _; exact Nat.le_of_eq rfl) (hb hby own_d3_1) (fun _ _ => ⟨rfl, e0, (by decide : 0 + 0 ≤ _), (by decide : 0 + 0 ≤ _)⟩)
  dsimp only [Pt.U, Pt.locs, Pt.cells, Pt.slots] at X2 l2 y2 z2 st2 hQ2
  subst l2 y2 z2
  rw [show own_f4 (1 : Int32) = (1 : Int32) from rfl] at hQ2
  obtain ⟨rfl, N2q, e2⟩ := hQ2
  have N2 := Fr.app N0 N2q
  have k3 : own_To p.tables e below (s₁.setTop (entryFrame m #[(.ref a1)] 1)) T2 (mkF m 4 #[.val (.ref a1)] [(.int (1 : Int32))]) := fun t k => k1 t (st2.trans k)
  have k4 : own_To p.tables e below (s₁.setTop (entryFrame m #[(.ref a1)] 1)) T2 (mkF m 63 #[.val (.ref a1)] []) := fun t k => k3 t (XS.tswIn X2.here hx rfl (o := 59) (pc0 := 4) (pc' := 63) rfl (hb hby own_d3_4) rfl (by decide) (by decide) (by decide) (by decide) k)
  obtain ⟨a5, T5, h5, k15, bs5, kc5, X5, e5, E5, hS5, hk5, hZ, hown, EX5, FC5, FV5, AV5, la5, lb5, CU5, LT5, SX5, st5⟩ := ldcCH X2 hx hZ hown (hw _ (List.mem_of_getElem? (i := 101) rfl)) (own_wS hw) e2 hS0 hk0 (own_EW hw) (List.mem_of_getElem? (i := 1) rfl) CH0 (vs := [(.int (61 : Int32)), (.int (61 : Int32))]) (z := (2 : Int32)) ⟨by decide, by decide⟩ (by decide) (by decide) (g := (mkF m 63 #[.val (.ref a1)] [])) rfl (hb hby own_d3_63) (n := 8) (by decide) (by decide) (by decide) (by decide)
  have Z5 : n0 ≤ h5.size := Nat.le_trans Z0 E5.1
  have K5 : Keep h0 h5 [] := (Keep.refl h0 []).ext E5
  have CR5 := CR0.trans CU5
  have CH5 := CU5.1
  have k6 : own_To p.tables e below (s₁.setTop (entryFrame m #[(.ref a1)] 1)) T5 (mkF m 65 #[.val (.ref a1)] [(.ref a5)]) := fun t k => k4 t (st5 t k)
  have k7 : own_To p.tables e below (s₁.setTop (entryFrame m #[(.ref a1)] 1)) T5 (mkF m 90 #[.val (.ref a1)] [(.ref a5)]) := fun t k => k6 t (XS.goto X5.here hx rfl (pc0 := 65) (pc' := 90) rfl (hb hby own_d3_65) (by decide) (by decide) k)
  obtain ⟨fs, hr, hrun, hended, hEnd⟩ := X5.leaveW hS5 (by rw [e5]; exact hk5) (v := some (.ref a5)) (fun h => by rw [Bd.returns] at h; cases h)
  have hChr := CR5.trans (CHv.at X5 hZ (own_EW hw) CH5)
  refine ⟨_, _, k7 _ ?_, hrun, hended, _, _, rfl, ?_, ?_, own_monoW hEnd (by decide) (by decide)⟩
  · jvm_step X5.here [X5.here.top, hx, (hb hby own_d3_90), X5.method', Bd.returns, Value.isRef, FieldType.isReference]
    first | (intro acts; rw [hr _ acts rfl rfl rfl]) | rw [hr _ _ rfl rfl rfl]
    exact Steps.refl _
  · show own_m3_EXACT_Q Z a1 h0 n0 _ T5.heap _
    rw [e5]
    exact ⟨a5, bs5, kc5, rfl, N2, K5, EX5, FC5, FV5, AV5⟩
  · rw [hh]; show CHr Z consts_1 s.vm h0 T5.vm T5.heap; rw [e5]; exact hChr
theorem own_d3_68 : decode prog_69_method_5_code 68 = .ok (.ldc 71, 2) := by decide +kernel
theorem own_d3_70 : decode prog_69_method_5_code 70 = .ok (.goto 20, 3) := by decide +kernel
def own_m3_NOT_EQUAL_Q (Z : State) (a1 : Addr) (h0 : Heap) (n0 : Nat) (v : Option Value) (h : Heap) (L : List Loc) : Prop := ∃ (a b : Addr) (kc : ClassId), v = some (.ref a) ∧ Fr n0 L ∧ Keep h0 h [] ∧ Exa Z h a "java/lang/String" ∧ Fld Z h a "java/lang/String" "coder" "B" (.int (0 : Int32)) ∧ Fld Z h a "java/lang/String" "value" "[B" (.ref b) ∧ Arv Z h b kc .byte (2 : Int32) [(.int (60 : Int32)), (.int (62 : Int32))] (.int (0 : Int32))
set_option maxRecDepth 65536 in
set_option maxHeartbeats 40000000 in
theorem own_m3_NOT_EQUAL (l : Launch) (Z : State) (a0 : Array Value) (hw : ∀ d ∈ tables_1, d.before a0 Z = true) (ws : List Jvm.Cond) (a1 : Addr) (h0 : Heap) (n0 : Nat) (Z0 : n0 ≤ h0.size) (F_ordinal_a1 : Fld Z h0 a1 "java/lang/Enum" "ordinal" "I" (.int (2 : Int32))) (E_a1 : Exa Z h0 a1 "com/example/grace_period/graceperiod/server/cql/CqlClause$Relation") :
    MetFree l (⟨"com/example/grace_period/graceperiod/server/cql/CqlClause$Relation", "symbol", "()Ljava/lang/String;"⟩ : MethodName) (head1 (Jvm.Cond.code (⟨"com/example/grace_period/graceperiod/server/cql/CqlClause$Relation", "symbol", "()Ljava/lang/String;"⟩ : MethodName) prog_69_method_5_code 1 (some (.object "java/lang/String")) :: ws) ({ frames := 1, cells := 2, slots := 12, locals := 12 } : Room)) (fun a U => a = #[(.ref a1)] ∧ Z.Warmed39 U.vm ∧ U.heap = h0 ∧ CHv Z consts_1 U.vm h0) (fun _ _ _ _ _ => True) (fun _ U o U' => ∃ v L, o = .returned v ∧ own_m3_NOT_EQUAL_Q Z a1 h0 n0 v U'.heap L ∧ CHr Z consts_1 U.vm U.heap U'.vm U'.heap ∧ ReturnedEndW U o U' L ({ frames := 1, cells := 2, slots := 12, locals := 12 } : Room).cells ({ frames := 1, cells := 2, slots := 12, locals := 12 } : Room).slots) := by
  refine MetFree.of_bodySF (plainFor_of_name own_pn3) hisR ?_
  intro p e s m args below meth c s₁ Bd hml0 hP hK
  obtain ⟨rfl, hZ, hh, CH0⟩ := hP
  have hx := Bd.exec
  have hby := Bd.bytes
  have hml : c.maxLocals = 1 := hml0
  have hown : s.vm.findClass "com/example/grace_period/graceperiod/server/cql/CqlClause$Relation" = some m.cls := findClass_of_methodNamed Bd.named
  have hnm := (name_of_methodNamed Bd.named Bd.method).1
  have X0 : Stand p l e ({ frames := 1, cells := 2, slots := 12, locals := 12 } : Room) s m #[(.ref a1)] below meth c s₁ [] 0 0 := Stand.of_body Bd
  have X0 : Stand p l e ({ frames := 1, cells := 2, slots := 12, locals := 12 } : Room) (s.setVm s.vm) m #[(.ref a1)] below meth c s₁ [] 0 0 := X0
  have hZ : Z.Warmed39 (s.setVm s.vm).vm := hZ
  have hown : (s.setVm s.vm).vm.findClass "com/example/grace_period/graceperiod/server/cql/CqlClause$Relation" = some m.cls := hown
  have e0 : s₁.heap = h0 := by rw [← hh, Bd.state]; rfl
  have N0 := Fr.nil n0
  have hS0 : s.Since s.vm 0 := (State.WarmedH.refl s).since _
  have hk0 : 0 ≤ h0.size := Nat.zero_le _
  have CR0 : CHr Z consts_1 s.vm h0 s.vm h0 := CHr.refl CH0
  have k0 : own_To p.tables e below (s₁.setTop (entryFrame m #[(.ref a1)] 1)) s₁ (mkF m 0 #[.val (.ref a1)] []) := fun t k => castTop (own_ef3 m a1) k
  have k1 : own_To p.tables e below (s₁.setTop (entryFrame m #[(.ref a1)] 1)) s₁ (mkF m 1 #[.val (.ref a1)] [(.ref a1)]) := fun t k => k0 t (XS.aloadN X0.here hx rfl (hb hby own_d3_0) rfl rfl k)
  obtain ⟨cq2, kq2, q2a, q2b, q2c⟩ := isOf hZ e0 E_a1
  obtain ⟨_, _, ⟨T2, L2, k2, n2⟩, -, X2, ⟨Lc2, hQ2, l2, y2, z2⟩, st2⟩ := X0.virtualBackUp hx (x := (⟨"com/example/grace_period/graceperiod/server/cql/CqlClause$Relation", "ordinal", "()I"⟩ : MethodName)) (y := (⟨"java/lang/Enum", "ordinal", "()I"⟩ : MethodName)) (owner := "java/lang/Enum") hown (mvT hZ (hw _ (List.mem_of_getElem? (i := 19) rfl))) (mvT hZ (hw _ (List.mem_of_getElem? (i := 20) rfl))) (mvT hZ (hw _ (List.mem_of_getElem? (i := 21) rfl))) (by decide) (mvT hZ (hw _ (List.mem_of_getElem? (i := 23) rfl))) (mvT hZ (hw _ (List.mem_of_getElem? (i := 22) rfl))) (backOf (W := 0) (own_m4 l Z a0 hw [] a1 (2 : Int32) h0 n0 Z0 F_ordinal_a1) hZ (hw _ (List.mem_of_getElem? (i := 25) rfl)) (hw _ (List.mem_of_getElem? (i := 24) rfl)) (by decide) (by decide)) q2a q2c (g := (mkF m 1 #[.val (.ref a1)] [(.ref a1)])) rfl (by rw [hml]; rfl) (Steps.refl _) (argsL := []) (rest := []) (lenOf own_pd6 rfl) rfl (by show 2 * 0 + _ ≤ _; exact Nat.le_of_eq rfl) (hb hby own_d3_1) (fun _ _ => ⟨rfl, e0, (by decide : 0 + 0 ≤ _), (by decide : 0 + 0 ≤ _)⟩)
  dsimp only [Pt.U, Pt.locs, Pt.cells, Pt.slots] at X2 l2 y2 z2 st2 hQ2
  subst l2 y2 z2
  rw [show own_f4 (2 : Int32) = (2 : Int32) from rfl] at hQ2
  obtain ⟨rfl, N2q, e2⟩ := hQ2
  have N2 := Fr.app N0 N2q
  have k3 : own_To p.tables e below (s₁.setTop (entryFrame m #[(.ref a1)] 1)) T2 (mkF m 4 #[.val (.ref a1)] [(.int (2 : Int32))]) := fun t k => k1 t (st2.trans k)
  have k4 : own_To p.tables e below (s₁.setTop (entryFrame m #[(.ref a1)] 1)) T2 (mkF m 68 #[.val (.ref a1)] []) := fun t k => k3 t (XS.tswIn X2.here hx rfl (o := 64) (pc0 := 4) (pc' := 68) rfl (hb hby own_d3_4) rfl (by decide) (by decide) (by decide) (by decide) k)
  obtain ⟨a5, T5, h5, k15, bs5, kc5, X5, e5, E5, hS5, hk5, hZ, hown, EX5, FC5, FV5, AV5, la5, lb5, CU5, LT5, SX5, st5⟩ := ldcCH X2 hx hZ hown (hw _ (List.mem_of_getElem? (i := 99) rfl)) (own_wS hw) e2 hS0 hk0 (own_EW hw) (List.mem_of_getElem? (i := 2) rfl) CH0 (vs := [(.int (60 : Int32)), (.int (62 : Int32))]) (z := (2 : Int32)) ⟨by decide, by decide⟩ (by decide) (by decide) (g := (mkF m 68 #[.val (.ref a1)] [])) rfl (hb hby own_d3_68) (n := 8) (by decide) (by decide) (by decide) (by decide)
  have Z5 : n0 ≤ h5.size := Nat.le_trans Z0 E5.1
  have K5 : Keep h0 h5 [] := (Keep.refl h0 []).ext E5
  have CR5 := CR0.trans CU5
  have CH5 := CU5.1
  have k6 : own_To p.tables e below (s₁.setTop (entryFrame m #[(.ref a1)] 1)) T5 (mkF m 70 #[.val (.ref a1)] [(.ref a5)]) := fun t k => k4 t (st5 t k)
  have k7 : own_To p.tables e below (s₁.setTop (entryFrame m #[(.ref a1)] 1)) T5 (mkF m 90 #[.val (.ref a1)] [(.ref a5)]) := fun t k => k6 t (XS.goto X5.here hx rfl (pc0 := 70) (pc' := 90) rfl (hb hby own_d3_70) (by decide) (by decide) k)
  obtain ⟨fs, hr, hrun, hended, hEnd⟩ := X5.leaveW hS5 (by rw [e5]; exact hk5) (v := some (.ref a5)) (fun h => by rw [Bd.returns] at h; cases h)
  have hChr := CR5.trans (CHv.at X5 hZ (own_EW hw) CH5)
  refine ⟨_, _, k7 _ ?_, hrun, hended, _, _, rfl, ?_, ?_, own_monoW hEnd (by decide) (by decide)⟩
  · jvm_step X5.here [X5.here.top, hx, (hb hby own_d3_90), X5.method', Bd.returns, Value.isRef, FieldType.isReference]
    first | (intro acts; rw [hr _ acts rfl rfl rfl]) | rw [hr _ _ rfl rfl rfl]
    exact Steps.refl _
  · show own_m3_NOT_EQUAL_Q Z a1 h0 n0 _ T5.heap _
    rw [e5]
    exact ⟨a5, bs5, kc5, rfl, N2, K5, EX5, FC5, FV5, AV5⟩
  · rw [hh]; show CHr Z consts_1 s.vm h0 T5.vm T5.heap; rw [e5]; exact hChr
theorem own_d3_73 : decode prog_69_method_5_code 73 = .ok (.ldc 73, 2) := by decide +kernel
theorem own_d3_75 : decode prog_69_method_5_code 75 = .ok (.goto 15, 3) := by decide +kernel
def own_m3_LESS_Q (Z : State) (a1 : Addr) (h0 : Heap) (n0 : Nat) (v : Option Value) (h : Heap) (L : List Loc) : Prop := ∃ (a b : Addr) (kc : ClassId), v = some (.ref a) ∧ Fr n0 L ∧ Keep h0 h [] ∧ Exa Z h a "java/lang/String" ∧ Fld Z h a "java/lang/String" "coder" "B" (.int (0 : Int32)) ∧ Fld Z h a "java/lang/String" "value" "[B" (.ref b) ∧ Arv Z h b kc .byte (1 : Int32) [(.int (60 : Int32))] (.int (0 : Int32))
set_option maxRecDepth 65536 in
set_option maxHeartbeats 40000000 in
theorem own_m3_LESS (l : Launch) (Z : State) (a0 : Array Value) (hw : ∀ d ∈ tables_1, d.before a0 Z = true) (ws : List Jvm.Cond) (a1 : Addr) (h0 : Heap) (n0 : Nat) (Z0 : n0 ≤ h0.size) (F_ordinal_a1 : Fld Z h0 a1 "java/lang/Enum" "ordinal" "I" (.int (3 : Int32))) (E_a1 : Exa Z h0 a1 "com/example/grace_period/graceperiod/server/cql/CqlClause$Relation") :
    MetFree l (⟨"com/example/grace_period/graceperiod/server/cql/CqlClause$Relation", "symbol", "()Ljava/lang/String;"⟩ : MethodName) (head1 (Jvm.Cond.code (⟨"com/example/grace_period/graceperiod/server/cql/CqlClause$Relation", "symbol", "()Ljava/lang/String;"⟩ : MethodName) prog_69_method_5_code 1 (some (.object "java/lang/String")) :: ws) ({ frames := 1, cells := 2, slots := 8, locals := 12 } : Room)) (fun a U => a = #[(.ref a1)] ∧ Z.Warmed39 U.vm ∧ U.heap = h0 ∧ CHv Z consts_1 U.vm h0) (fun _ _ _ _ _ => True) (fun _ U o U' => ∃ v L, o = .returned v ∧ own_m3_LESS_Q Z a1 h0 n0 v U'.heap L ∧ CHr Z consts_1 U.vm U.heap U'.vm U'.heap ∧ ReturnedEndW U o U' L ({ frames := 1, cells := 2, slots := 8, locals := 12 } : Room).cells ({ frames := 1, cells := 2, slots := 8, locals := 12 } : Room).slots) := by
  refine MetFree.of_bodySF (plainFor_of_name own_pn3) hisR ?_
  intro p e s m args below meth c s₁ Bd hml0 hP hK
  obtain ⟨rfl, hZ, hh, CH0⟩ := hP
  have hx := Bd.exec
  have hby := Bd.bytes
  have hml : c.maxLocals = 1 := hml0
  have hown : s.vm.findClass "com/example/grace_period/graceperiod/server/cql/CqlClause$Relation" = some m.cls := findClass_of_methodNamed Bd.named
  have hnm := (name_of_methodNamed Bd.named Bd.method).1
  have X0 : Stand p l e ({ frames := 1, cells := 2, slots := 8, locals := 12 } : Room) s m #[(.ref a1)] below meth c s₁ [] 0 0 := Stand.of_body Bd
  have X0 : Stand p l e ({ frames := 1, cells := 2, slots := 8, locals := 12 } : Room) (s.setVm s.vm) m #[(.ref a1)] below meth c s₁ [] 0 0 := X0
  have hZ : Z.Warmed39 (s.setVm s.vm).vm := hZ
  have hown : (s.setVm s.vm).vm.findClass "com/example/grace_period/graceperiod/server/cql/CqlClause$Relation" = some m.cls := hown
  have e0 : s₁.heap = h0 := by rw [← hh, Bd.state]; rfl
  have N0 := Fr.nil n0
  have hS0 : s.Since s.vm 0 := (State.WarmedH.refl s).since _
  have hk0 : 0 ≤ h0.size := Nat.zero_le _
  have CR0 : CHr Z consts_1 s.vm h0 s.vm h0 := CHr.refl CH0
  have k0 : own_To p.tables e below (s₁.setTop (entryFrame m #[(.ref a1)] 1)) s₁ (mkF m 0 #[.val (.ref a1)] []) := fun t k => castTop (own_ef3 m a1) k
  have k1 : own_To p.tables e below (s₁.setTop (entryFrame m #[(.ref a1)] 1)) s₁ (mkF m 1 #[.val (.ref a1)] [(.ref a1)]) := fun t k => k0 t (XS.aloadN X0.here hx rfl (hb hby own_d3_0) rfl rfl k)
  obtain ⟨cq2, kq2, q2a, q2b, q2c⟩ := isOf hZ e0 E_a1
  obtain ⟨_, _, ⟨T2, L2, k2, n2⟩, -, X2, ⟨Lc2, hQ2, l2, y2, z2⟩, st2⟩ := X0.virtualBackUp hx (x := (⟨"com/example/grace_period/graceperiod/server/cql/CqlClause$Relation", "ordinal", "()I"⟩ : MethodName)) (y := (⟨"java/lang/Enum", "ordinal", "()I"⟩ : MethodName)) (owner := "java/lang/Enum") hown (mvT hZ (hw _ (List.mem_of_getElem? (i := 19) rfl))) (mvT hZ (hw _ (List.mem_of_getElem? (i := 20) rfl))) (mvT hZ (hw _ (List.mem_of_getElem? (i := 21) rfl))) (by decide) (mvT hZ (hw _ (List.mem_of_getElem? (i := 23) rfl))) (mvT hZ (hw _ (List.mem_of_getElem? (i := 22) rfl))) (backOf (W := 0) (own_m4 l Z a0 hw [] a1 (3 : Int32) h0 n0 Z0 F_ordinal_a1) hZ (hw _ (List.mem_of_getElem? (i := 25) rfl)) (hw _ (List.mem_of_getElem? (i := 24) rfl)) (by decide) (by decide)) q2a q2c (g := (mkF m 1 #[.val (.ref a1)] [(.ref a1)])) rfl (by rw [hml]; rfl) (Steps.refl _) (argsL := []) (rest := []) (lenOf own_pd6 rfl) rfl (by show 2 * 0 + _ ≤ _; exact Nat.le_of_eq rfl) (hb hby own_d3_1) (fun _ _ => ⟨rfl, e0, (by decide : 0 + 0 ≤ _), (by decide : 0 + 0 ≤ _)⟩)
  dsimp only [Pt.U, Pt.locs, Pt.cells, Pt.slots] at X2 l2 y2 z2 st2 hQ2
  subst l2 y2 z2
  rw [show own_f4 (3 : Int32) = (3 : Int32) from rfl] at hQ2
  obtain ⟨rfl, N2q, e2⟩ := hQ2
  have N2 := Fr.app N0 N2q
  have k3 : own_To p.tables e below (s₁.setTop (entryFrame m #[(.ref a1)] 1)) T2 (mkF m 4 #[.val (.ref a1)] [(.int (3 : Int32))]) := fun t k => k1 t (st2.trans k)
  have k4 : own_To p.tables e below (s₁.setTop (entryFrame m #[(.ref a1)] 1)) T2 (mkF m 73 #[.val (.ref a1)] []) := fun t k => k3 t (XS.tswIn X2.here hx rfl (o := 69) (pc0 := 4) (pc' := 73) rfl (hb hby own_d3_4) rfl (by decide) (by decide) (by decide) (by decide) k)
  obtain ⟨a5, T5, h5, k15, bs5, kc5, X5, e5, E5, hS5, hk5, hZ, hown, EX5, FC5, FV5, AV5, la5, lb5, CU5, LT5, SX5, st5⟩ := ldcCH X2 hx hZ hown (hw _ (List.mem_of_getElem? (i := 77) rfl)) (own_wS hw) e2 hS0 hk0 (own_EW hw) (List.mem_of_getElem? (i := 3) rfl) CH0 (vs := [(.int (60 : Int32))]) (z := (1 : Int32)) ⟨by decide, by decide⟩ (by decide) (by decide) (g := (mkF m 73 #[.val (.ref a1)] [])) rfl (hb hby own_d3_73) (n := 4) (by decide) (by decide) (by decide) (by decide)
  have Z5 : n0 ≤ h5.size := Nat.le_trans Z0 E5.1
  have K5 : Keep h0 h5 [] := (Keep.refl h0 []).ext E5
  have CR5 := CR0.trans CU5
  have CH5 := CU5.1
  have k6 : own_To p.tables e below (s₁.setTop (entryFrame m #[(.ref a1)] 1)) T5 (mkF m 75 #[.val (.ref a1)] [(.ref a5)]) := fun t k => k4 t (st5 t k)
  have k7 : own_To p.tables e below (s₁.setTop (entryFrame m #[(.ref a1)] 1)) T5 (mkF m 90 #[.val (.ref a1)] [(.ref a5)]) := fun t k => k6 t (XS.goto X5.here hx rfl (pc0 := 75) (pc' := 90) rfl (hb hby own_d3_75) (by decide) (by decide) k)
  obtain ⟨fs, hr, hrun, hended, hEnd⟩ := X5.leaveW hS5 (by rw [e5]; exact hk5) (v := some (.ref a5)) (fun h => by rw [Bd.returns] at h; cases h)
  have hChr := CR5.trans (CHv.at X5 hZ (own_EW hw) CH5)
  refine ⟨_, _, k7 _ ?_, hrun, hended, _, _, rfl, ?_, ?_, own_monoW hEnd (by decide) (by decide)⟩
  · jvm_step X5.here [X5.here.top, hx, (hb hby own_d3_90), X5.method', Bd.returns, Value.isRef, FieldType.isReference]
    first | (intro acts; rw [hr _ acts rfl rfl rfl]) | rw [hr _ _ rfl rfl rfl]
    exact Steps.refl _
  · show own_m3_LESS_Q Z a1 h0 n0 _ T5.heap _
    rw [e5]
    exact ⟨a5, bs5, kc5, rfl, N2, K5, EX5, FC5, FV5, AV5⟩
  · rw [hh]; show CHr Z consts_1 s.vm h0 T5.vm T5.heap; rw [e5]; exact hChr
theorem own_d3_78 : decode prog_69_method_5_code 78 = .ok (.ldc 75, 2) := by decide +kernel
theorem own_d3_80 : decode prog_69_method_5_code 80 = .ok (.goto 10, 3) := by decide +kernel
def own_m3_LESS_OR_EQUAL_Q (Z : State) (a1 : Addr) (h0 : Heap) (n0 : Nat) (v : Option Value) (h : Heap) (L : List Loc) : Prop := ∃ (a b : Addr) (kc : ClassId), v = some (.ref a) ∧ Fr n0 L ∧ Keep h0 h [] ∧ Exa Z h a "java/lang/String" ∧ Fld Z h a "java/lang/String" "coder" "B" (.int (0 : Int32)) ∧ Fld Z h a "java/lang/String" "value" "[B" (.ref b) ∧ Arv Z h b kc .byte (2 : Int32) [(.int (60 : Int32)), (.int (61 : Int32))] (.int (0 : Int32))
set_option maxRecDepth 65536 in
set_option maxHeartbeats 40000000 in
theorem own_m3_LESS_OR_EQUAL (l : Launch) (Z : State) (a0 : Array Value) (hw : ∀ d ∈ tables_1, d.before a0 Z = true) (ws : List Jvm.Cond) (a1 : Addr) (h0 : Heap) (n0 : Nat) (Z0 : n0 ≤ h0.size) (F_ordinal_a1 : Fld Z h0 a1 "java/lang/Enum" "ordinal" "I" (.int (4 : Int32))) (E_a1 : Exa Z h0 a1 "com/example/grace_period/graceperiod/server/cql/CqlClause$Relation") :
    MetFree l (⟨"com/example/grace_period/graceperiod/server/cql/CqlClause$Relation", "symbol", "()Ljava/lang/String;"⟩ : MethodName) (head1 (Jvm.Cond.code (⟨"com/example/grace_period/graceperiod/server/cql/CqlClause$Relation", "symbol", "()Ljava/lang/String;"⟩ : MethodName) prog_69_method_5_code 1 (some (.object "java/lang/String")) :: ws) ({ frames := 1, cells := 2, slots := 12, locals := 12 } : Room)) (fun a U => a = #[(.ref a1)] ∧ Z.Warmed39 U.vm ∧ U.heap = h0 ∧ CHv Z consts_1 U.vm h0) (fun _ _ _ _ _ => True) (fun _ U o U' => ∃ v L, o = .returned v ∧ own_m3_LESS_OR_EQUAL_Q Z a1 h0 n0 v U'.heap L ∧ CHr Z consts_1 U.vm U.heap U'.vm U'.heap ∧ ReturnedEndW U o U' L ({ frames := 1, cells := 2, slots := 12, locals := 12 } : Room).cells ({ frames := 1, cells := 2, slots := 12, locals := 12 } : Room).slots) := by
  refine MetFree.of_bodySF (plainFor_of_name own_pn3) hisR ?_
  intro p e s m args below meth c s₁ Bd hml0 hP hK
  obtain ⟨rfl, hZ, hh, CH0⟩ := hP
  have hx := Bd.exec
  have hby := Bd.bytes
  have hml : c.maxLocals = 1 := hml0
  have hown : s.vm.findClass "com/example/grace_period/graceperiod/server/cql/CqlClause$Relation" = some m.cls := findClass_of_methodNamed Bd.named
  have hnm := (name_of_methodNamed Bd.named Bd.method).1
  have X0 : Stand p l e ({ frames := 1, cells := 2, slots := 12, locals := 12 } : Room) s m #[(.ref a1)] below meth c s₁ [] 0 0 := Stand.of_body Bd
  have X0 : Stand p l e ({ frames := 1, cells := 2, slots := 12, locals := 12 } : Room) (s.setVm s.vm) m #[(.ref a1)] below meth c s₁ [] 0 0 := X0
  have hZ : Z.Warmed39 (s.setVm s.vm).vm := hZ
  have hown : (s.setVm s.vm).vm.findClass "com/example/grace_period/graceperiod/server/cql/CqlClause$Relation" = some m.cls := hown
  have e0 : s₁.heap = h0 := by rw [← hh, Bd.state]; rfl
  have N0 := Fr.nil n0
  have hS0 : s.Since s.vm 0 := (State.WarmedH.refl s).since _
  have hk0 : 0 ≤ h0.size := Nat.zero_le _
  have CR0 : CHr Z consts_1 s.vm h0 s.vm h0 := CHr.refl CH0
  have k0 : own_To p.tables e below (s₁.setTop (entryFrame m #[(.ref a1)] 1)) s₁ (mkF m 0 #[.val (.ref a1)] []) := fun t k => castTop (own_ef3 m a1) k
  have k1 : own_To p.tables e below (s₁.setTop (entryFrame m #[(.ref a1)] 1)) s₁ (mkF m 1 #[.val (.ref a1)] [(.ref a1)]) := fun t k => k0 t (XS.aloadN X0.here hx rfl (hb hby own_d3_0) rfl rfl k)
  obtain ⟨cq2, kq2, q2a, q2b, q2c⟩ := isOf hZ e0 E_a1
  obtain ⟨_, _, ⟨T2, L2, k2, n2⟩, -, X2, ⟨Lc2, hQ2, l2, y2, z2⟩, st2⟩ := X0.virtualBackUp hx (x := (⟨"com/example/grace_period/graceperiod/server/cql/CqlClause$Relation", "ordinal", "()I"⟩ : MethodName)) (y := (⟨"java/lang/Enum", "ordinal", "()I"⟩ : MethodName)) (owner := "java/lang/Enum") hown (mvT hZ (hw _ (List.mem_of_getElem? (i := 19) rfl))) (mvT hZ (hw _ (List.mem_of_getElem? (i := 20) rfl))) (mvT hZ (hw _ (List.mem_of_getElem? (i := 21) rfl))) (by decide) (mvT hZ (hw _ (List.mem_of_getElem? (i := 23) rfl))) (mvT hZ (hw _ (List.mem_of_getElem? (i := 22) rfl))) (backOf (W := 0) (own_m4 l Z a0 hw [] a1 (4 : Int32) h0 n0 Z0 F_ordinal_a1) hZ (hw _ (List.mem_of_getElem? (i := 25) rfl)) (hw _ (List.mem_of_getElem? (i := 24) rfl)) (by decide) (by decide)) q2a q2c (g := (mkF m 1 #[.val (.ref a1)] [(.ref a1)])) rfl (by rw [hml]; rfl) (Steps.refl _) (argsL := []) (rest := []) (lenOf own_pd6 rfl) rfl (by show 2 * 0 + _ ≤ _; exact Nat.le_of_eq rfl) (hb hby own_d3_1) (fun _ _ => ⟨rfl, e0, (by decide : 0 + 0 ≤ _), (by decide : 0 + 0 ≤ _)⟩)
  dsimp only [Pt.U, Pt.locs, Pt.cells, Pt.slots] at X2 l2 y2 z2 st2 hQ2
  subst l2 y2 z2
  rw [show own_f4 (4 : Int32) = (4 : Int32) from rfl] at hQ2
  obtain ⟨rfl, N2q, e2⟩ := hQ2
  have N2 := Fr.app N0 N2q
  have k3 : own_To p.tables e below (s₁.setTop (entryFrame m #[(.ref a1)] 1)) T2 (mkF m 4 #[.val (.ref a1)] [(.int (4 : Int32))]) := fun t k => k1 t (st2.trans k)
  have k4 : own_To p.tables e below (s₁.setTop (entryFrame m #[(.ref a1)] 1)) T2 (mkF m 78 #[.val (.ref a1)] []) := fun t k => k3 t (XS.tswIn X2.here hx rfl (o := 74) (pc0 := 4) (pc' := 78) rfl (hb hby own_d3_4) rfl (by decide) (by decide) (by decide) (by decide) k)
  obtain ⟨a5, T5, h5, k15, bs5, kc5, X5, e5, E5, hS5, hk5, hZ, hown, EX5, FC5, FV5, AV5, la5, lb5, CU5, LT5, SX5, st5⟩ := ldcCH X2 hx hZ hown (hw _ (List.mem_of_getElem? (i := 97) rfl)) (own_wS hw) e2 hS0 hk0 (own_EW hw) (List.mem_of_getElem? (i := 4) rfl) CH0 (vs := [(.int (60 : Int32)), (.int (61 : Int32))]) (z := (2 : Int32)) ⟨by decide, by decide⟩ (by decide) (by decide) (g := (mkF m 78 #[.val (.ref a1)] [])) rfl (hb hby own_d3_78) (n := 8) (by decide) (by decide) (by decide) (by decide)
  have Z5 : n0 ≤ h5.size := Nat.le_trans Z0 E5.1
  have K5 : Keep h0 h5 [] := (Keep.refl h0 []).ext E5
  have CR5 := CR0.trans CU5
  have CH5 := CU5.1
  have k6 : own_To p.tables e below (s₁.setTop (entryFrame m #[(.ref a1)] 1)) T5 (mkF m 80 #[.val (.ref a1)] [(.ref a5)]) := fun t k => k4 t (st5 t k)
  have k7 : own_To p.tables e below (s₁.setTop (entryFrame m #[(.ref a1)] 1)) T5 (mkF m 90 #[.val (.ref a1)] [(.ref a5)]) := fun t k => k6 t (XS.goto X5.here hx rfl (pc0 := 80) (pc' := 90) rfl (hb hby own_d3_80) (by decide) (by decide) k)
  obtain ⟨fs, hr, hrun, hended, hEnd⟩ := X5.leaveW hS5 (by rw [e5]; exact hk5) (v := some (.ref a5)) (fun h => by rw [Bd.returns] at h; cases h)
  have hChr := CR5.trans (CHv.at X5 hZ (own_EW hw) CH5)
  refine ⟨_, _, k7 _ ?_, hrun, hended, _, _, rfl, ?_, ?_, own_monoW hEnd (by decide) (by decide)⟩
  · jvm_step X5.here [X5.here.top, hx, (hb hby own_d3_90), X5.method', Bd.returns, Value.isRef, FieldType.isReference]
    first | (intro acts; rw [hr _ acts rfl rfl rfl]) | rw [hr _ _ rfl rfl rfl]
    exact Steps.refl _
  · show own_m3_LESS_OR_EQUAL_Q Z a1 h0 n0 _ T5.heap _
    rw [e5]
    exact ⟨a5, bs5, kc5, rfl, N2, K5, EX5, FC5, FV5, AV5⟩
  · rw [hh]; show CHr Z consts_1 s.vm h0 T5.vm T5.heap; rw [e5]; exact hChr
theorem own_d3_83 : decode prog_69_method_5_code 83 = .ok (.ldc 77, 2) := by decide +kernel
theorem own_d3_85 : decode prog_69_method_5_code 85 = .ok (.goto 5, 3) := by decide +kernel
def own_m3_GREATER_Q (Z : State) (a1 : Addr) (h0 : Heap) (n0 : Nat) (v : Option Value) (h : Heap) (L : List Loc) : Prop := ∃ (a b : Addr) (kc : ClassId), v = some (.ref a) ∧ Fr n0 L ∧ Keep h0 h [] ∧ Exa Z h a "java/lang/String" ∧ Fld Z h a "java/lang/String" "coder" "B" (.int (0 : Int32)) ∧ Fld Z h a "java/lang/String" "value" "[B" (.ref b) ∧ Arv Z h b kc .byte (1 : Int32) [(.int (62 : Int32))] (.int (0 : Int32))
set_option maxRecDepth 65536 in
set_option maxHeartbeats 40000000 in
theorem own_m3_GREATER (l : Launch) (Z : State) (a0 : Array Value) (hw : ∀ d ∈ tables_1, d.before a0 Z = true) (ws : List Jvm.Cond) (a1 : Addr) (h0 : Heap) (n0 : Nat) (Z0 : n0 ≤ h0.size) (F_ordinal_a1 : Fld Z h0 a1 "java/lang/Enum" "ordinal" "I" (.int (5 : Int32))) (E_a1 : Exa Z h0 a1 "com/example/grace_period/graceperiod/server/cql/CqlClause$Relation") :
    MetFree l (⟨"com/example/grace_period/graceperiod/server/cql/CqlClause$Relation", "symbol", "()Ljava/lang/String;"⟩ : MethodName) (head1 (Jvm.Cond.code (⟨"com/example/grace_period/graceperiod/server/cql/CqlClause$Relation", "symbol", "()Ljava/lang/String;"⟩ : MethodName) prog_69_method_5_code 1 (some (.object "java/lang/String")) :: ws) ({ frames := 1, cells := 2, slots := 8, locals := 12 } : Room)) (fun a U => a = #[(.ref a1)] ∧ Z.Warmed39 U.vm ∧ U.heap = h0 ∧ CHv Z consts_1 U.vm h0) (fun _ _ _ _ _ => True) (fun _ U o U' => ∃ v L, o = .returned v ∧ own_m3_GREATER_Q Z a1 h0 n0 v U'.heap L ∧ CHr Z consts_1 U.vm U.heap U'.vm U'.heap ∧ ReturnedEndW U o U' L ({ frames := 1, cells := 2, slots := 8, locals := 12 } : Room).cells ({ frames := 1, cells := 2, slots := 8, locals := 12 } : Room).slots) := by
  refine MetFree.of_bodySF (plainFor_of_name own_pn3) hisR ?_
  intro p e s m args below meth c s₁ Bd hml0 hP hK
  obtain ⟨rfl, hZ, hh, CH0⟩ := hP
  have hx := Bd.exec
  have hby := Bd.bytes
  have hml : c.maxLocals = 1 := hml0
  have hown : s.vm.findClass "com/example/grace_period/graceperiod/server/cql/CqlClause$Relation" = some m.cls := findClass_of_methodNamed Bd.named
  have hnm := (name_of_methodNamed Bd.named Bd.method).1
  have X0 : Stand p l e ({ frames := 1, cells := 2, slots := 8, locals := 12 } : Room) s m #[(.ref a1)] below meth c s₁ [] 0 0 := Stand.of_body Bd
  have X0 : Stand p l e ({ frames := 1, cells := 2, slots := 8, locals := 12 } : Room) (s.setVm s.vm) m #[(.ref a1)] below meth c s₁ [] 0 0 := X0
  have hZ : Z.Warmed39 (s.setVm s.vm).vm := hZ
  have hown : (s.setVm s.vm).vm.findClass "com/example/grace_period/graceperiod/server/cql/CqlClause$Relation" = some m.cls := hown
  have e0 : s₁.heap = h0 := by rw [← hh, Bd.state]; rfl
  have N0 := Fr.nil n0
  have hS0 : s.Since s.vm 0 := (State.WarmedH.refl s).since _
  have hk0 : 0 ≤ h0.size := Nat.zero_le _
  have CR0 : CHr Z consts_1 s.vm h0 s.vm h0 := CHr.refl CH0
  have k0 : own_To p.tables e below (s₁.setTop (entryFrame m #[(.ref a1)] 1)) s₁ (mkF m 0 #[.val (.ref a1)] []) := fun t k => castTop (own_ef3 m a1) k
  have k1 : own_To p.tables e below (s₁.setTop (entryFrame m #[(.ref a1)] 1)) s₁ (mkF m 1 #[.val (.ref a1)] [(.ref a1)]) := fun t k => k0 t (XS.aloadN X0.here hx rfl (hb hby own_d3_0) rfl rfl k)
  obtain ⟨cq2, kq2, q2a, q2b, q2c⟩ := isOf hZ e0 E_a1
  obtain ⟨_, _, ⟨T2, L2, k2, n2⟩, -, X2, ⟨Lc2, hQ2, l2, y2, z2⟩, st2⟩ := X0.virtualBackUp hx (x := (⟨"com/example/grace_period/graceperiod/server/cql/CqlClause$Relation", "ordinal", "()I"⟩ : MethodName)) (y := (⟨"java/lang/Enum", "ordinal", "()I"⟩ : MethodName)) (owner := "java/lang/Enum") hown (mvT hZ (hw _ (List.mem_of_getElem? (i := 19) rfl))) (mvT hZ (hw _ (List.mem_of_getElem? (i := 20) rfl))) (mvT hZ (hw _ (List.mem_of_getElem? (i := 21) rfl))) (by decide) (mvT hZ (hw _ (List.mem_of_getElem? (i := 23) rfl))) (mvT hZ (hw _ (List.mem_of_getElem? (i := 22) rfl))) (backOf (W := 0) (own_m4 l Z a0 hw [] a1 (5 : Int32) h0 n0 Z0 F_ordinal_a1) hZ (hw _ (List.mem_of_getElem? (i := 25) rfl)) (hw _ (List.mem_of_getElem? (i := 24) rfl)) (by decide) (by decide)) q2a q2c (g := (mkF m 1 #[.val (.ref a1)] [(.ref a1)])) rfl (by rw [hml]; rfl) (Steps.refl _) (argsL := []) (rest := []) (lenOf own_pd6 rfl) rfl (by show 2 * 0 + _ ≤ _; exact Nat.le_of_eq rfl) (hb hby own_d3_1) (fun _ _ => ⟨rfl, e0, (by decide : 0 + 0 ≤ _), (by decide : 0 + 0 ≤ _)⟩)
  dsimp only [Pt.U, Pt.locs, Pt.cells, Pt.slots] at X2 l2 y2 z2 st2 hQ2
  subst l2 y2 z2
  rw [show own_f4 (5 : Int32) = (5 : Int32) from rfl] at hQ2
  obtain ⟨rfl, N2q, e2⟩ := hQ2
  have N2 := Fr.app N0 N2q
  have k3 : own_To p.tables e below (s₁.setTop (entryFrame m #[(.ref a1)] 1)) T2 (mkF m 4 #[.val (.ref a1)] [(.int (5 : Int32))]) := fun t k => k1 t (st2.trans k)
  have k4 : own_To p.tables e below (s₁.setTop (entryFrame m #[(.ref a1)] 1)) T2 (mkF m 83 #[.val (.ref a1)] []) := fun t k => k3 t (XS.tswIn X2.here hx rfl (o := 79) (pc0 := 4) (pc' := 83) rfl (hb hby own_d3_4) rfl (by decide) (by decide) (by decide) (by decide) k)
  obtain ⟨a5, T5, h5, k15, bs5, kc5, X5, e5, E5, hS5, hk5, hZ, hown, EX5, FC5, FV5, AV5, la5, lb5, CU5, LT5, SX5, st5⟩ := ldcCH X2 hx hZ hown (hw _ (List.mem_of_getElem? (i := 91) rfl)) (own_wS hw) e2 hS0 hk0 (own_EW hw) (List.mem_of_getElem? (i := 5) rfl) CH0 (vs := [(.int (62 : Int32))]) (z := (1 : Int32)) ⟨by decide, by decide⟩ (by decide) (by decide) (g := (mkF m 83 #[.val (.ref a1)] [])) rfl (hb hby own_d3_83) (n := 4) (by decide) (by decide) (by decide) (by decide)
  have Z5 : n0 ≤ h5.size := Nat.le_trans Z0 E5.1
  have K5 : Keep h0 h5 [] := (Keep.refl h0 []).ext E5
  have CR5 := CR0.trans CU5
  have CH5 := CU5.1
  have k6 : own_To p.tables e below (s₁.setTop (entryFrame m #[(.ref a1)] 1)) T5 (mkF m 85 #[.val (.ref a1)] [(.ref a5)]) := fun t k => k4 t (st5 t k)
  have k7 : own_To p.tables e below (s₁.setTop (entryFrame m #[(.ref a1)] 1)) T5 (mkF m 90 #[.val (.ref a1)] [(.ref a5)]) := fun t k => k6 t (XS.goto X5.here hx rfl (pc0 := 85) (pc' := 90) rfl (hb hby own_d3_85) (by decide) (by decide) k)
  obtain ⟨fs, hr, hrun, hended, hEnd⟩ := X5.leaveW hS5 (by rw [e5]; exact hk5) (v := some (.ref a5)) (fun h => by rw [Bd.returns] at h; cases h)
  have hChr := CR5.trans (CHv.at X5 hZ (own_EW hw) CH5)
  refine ⟨_, _, k7 _ ?_, hrun, hended, _, _, rfl, ?_, ?_, own_monoW hEnd (by decide) (by decide)⟩
  · jvm_step X5.here [X5.here.top, hx, (hb hby own_d3_90), X5.method', Bd.returns, Value.isRef, FieldType.isReference]
    first | (intro acts; rw [hr _ acts rfl rfl rfl]) | rw [hr _ _ rfl rfl rfl]
    exact Steps.refl _
  · show own_m3_GREATER_Q Z a1 h0 n0 _ T5.heap _
    rw [e5]
    exact ⟨a5, bs5, kc5, rfl, N2, K5, EX5, FC5, FV5, AV5⟩
  · rw [hh]; show CHr Z consts_1 s.vm h0 T5.vm T5.heap; rw [e5]; exact hChr
theorem own_d3_88 : decode prog_69_method_5_code 88 = .ok (.ldc 79, 2) := by decide +kernel
def own_m3_GREATER_OR_EQUAL_Q (Z : State) (a1 : Addr) (h0 : Heap) (n0 : Nat) (v : Option Value) (h : Heap) (L : List Loc) : Prop := ∃ (a b : Addr) (kc : ClassId), v = some (.ref a) ∧ Fr n0 L ∧ Keep h0 h [] ∧ Exa Z h a "java/lang/String" ∧ Fld Z h a "java/lang/String" "coder" "B" (.int (0 : Int32)) ∧ Fld Z h a "java/lang/String" "value" "[B" (.ref b) ∧ Arv Z h b kc .byte (2 : Int32) [(.int (62 : Int32)), (.int (61 : Int32))] (.int (0 : Int32))
set_option maxRecDepth 65536 in
set_option maxHeartbeats 40000000 in
theorem own_m3_GREATER_OR_EQUAL (l : Launch) (Z : State) (a0 : Array Value) (hw : ∀ d ∈ tables_1, d.before a0 Z = true) (ws : List Jvm.Cond) (a1 : Addr) (h0 : Heap) (n0 : Nat) (Z0 : n0 ≤ h0.size) (F_ordinal_a1 : Fld Z h0 a1 "java/lang/Enum" "ordinal" "I" (.int (6 : Int32))) (E_a1 : Exa Z h0 a1 "com/example/grace_period/graceperiod/server/cql/CqlClause$Relation") :
    MetFree l (⟨"com/example/grace_period/graceperiod/server/cql/CqlClause$Relation", "symbol", "()Ljava/lang/String;"⟩ : MethodName) (head1 (Jvm.Cond.code (⟨"com/example/grace_period/graceperiod/server/cql/CqlClause$Relation", "symbol", "()Ljava/lang/String;"⟩ : MethodName) prog_69_method_5_code 1 (some (.object "java/lang/String")) :: ws) ({ frames := 1, cells := 2, slots := 12, locals := 12 } : Room)) (fun a U => a = #[(.ref a1)] ∧ Z.Warmed39 U.vm ∧ U.heap = h0 ∧ CHv Z consts_1 U.vm h0) (fun _ _ _ _ _ => True) (fun _ U o U' => ∃ v L, o = .returned v ∧ own_m3_GREATER_OR_EQUAL_Q Z a1 h0 n0 v U'.heap L ∧ CHr Z consts_1 U.vm U.heap U'.vm U'.heap ∧ ReturnedEndW U o U' L ({ frames := 1, cells := 2, slots := 12, locals := 12 } : Room).cells ({ frames := 1, cells := 2, slots := 12, locals := 12 } : Room).slots) := by
  refine MetFree.of_bodySF (plainFor_of_name own_pn3) hisR ?_
  intro p e s m args below meth c s₁ Bd hml0 hP hK
  obtain ⟨rfl, hZ, hh, CH0⟩ := hP
  have hx := Bd.exec
  have hby := Bd.bytes
  have hml : c.maxLocals = 1 := hml0
  have hown : s.vm.findClass "com/example/grace_period/graceperiod/server/cql/CqlClause$Relation" = some m.cls := findClass_of_methodNamed Bd.named
  have hnm := (name_of_methodNamed Bd.named Bd.method).1
  have X0 : Stand p l e ({ frames := 1, cells := 2, slots := 12, locals := 12 } : Room) s m #[(.ref a1)] below meth c s₁ [] 0 0 := Stand.of_body Bd
  have X0 : Stand p l e ({ frames := 1, cells := 2, slots := 12, locals := 12 } : Room) (s.setVm s.vm) m #[(.ref a1)] below meth c s₁ [] 0 0 := X0
  have hZ : Z.Warmed39 (s.setVm s.vm).vm := hZ
  have hown : (s.setVm s.vm).vm.findClass "com/example/grace_period/graceperiod/server/cql/CqlClause$Relation" = some m.cls := hown
  have e0 : s₁.heap = h0 := by rw [← hh, Bd.state]; rfl
  have N0 := Fr.nil n0
  have hS0 : s.Since s.vm 0 := (State.WarmedH.refl s).since _
  have hk0 : 0 ≤ h0.size := Nat.zero_le _
  have CR0 : CHr Z consts_1 s.vm h0 s.vm h0 := CHr.refl CH0
  have k0 : own_To p.tables e below (s₁.setTop (entryFrame m #[(.ref a1)] 1)) s₁ (mkF m 0 #[.val (.ref a1)] []) := fun t k => castTop (own_ef3 m a1) k
  have k1 : own_To p.tables e below (s₁.setTop (entryFrame m #[(.ref a1)] 1)) s₁ (mkF m 1 #[.val (.ref a1)] [(.ref a1)]) := fun t k => k0 t (XS.aloadN X0.here hx rfl (hb hby own_d3_0) rfl rfl k)
  obtain ⟨cq2, kq2, q2a, q2b, q2c⟩ := isOf hZ e0 E_a1
  obtain ⟨_, _, ⟨T2, L2, k2, n2⟩, -, X2, ⟨Lc2, hQ2, l2, y2, z2⟩, st2⟩ := X0.virtualBackUp hx (x := (⟨"com/example/grace_period/graceperiod/server/cql/CqlClause$Relation", "ordinal", "()I"⟩ : MethodName)) (y := (⟨"java/lang/Enum", "ordinal", "()I"⟩ : MethodName)) (owner := "java/lang/Enum") hown (mvT hZ (hw _ (List.mem_of_getElem? (i := 19) rfl))) (mvT hZ (hw _ (List.mem_of_getElem? (i := 20) rfl))) (mvT hZ (hw _ (List.mem_of_getElem? (i := 21) rfl))) (by decide) (mvT hZ (hw _ (List.mem_of_getElem? (i := 23) rfl))) (mvT hZ (hw _ (List.mem_of_getElem? (i := 22) rfl))) (backOf (W := 0) (own_m4 l Z a0 hw [] a1 (6 : Int32) h0 n0 Z0 F_ordinal_a1) hZ (hw _ (List.mem_of_getElem? (i := 25) rfl)) (hw _ (List.mem_of_getElem? (i := 24) rfl)) (by decide) (by decide)) q2a q2c (g := (mkF m 1 #[.val (.ref a1)] [(.ref a1)])) rfl (by rw [hml]; rfl) (Steps.refl _) (argsL := []) (rest := []) (lenOf own_pd6 rfl) rfl (by show 2 * 0 + _ ≤ _; exact Nat.le_of_eq rfl) (hb hby own_d3_1) (fun _ _ => ⟨rfl, e0, (by decide : 0 + 0 ≤ _), (by decide : 0 + 0 ≤ _)⟩)
  dsimp only [Pt.U, Pt.locs, Pt.cells, Pt.slots] at X2 l2 y2 z2 st2 hQ2
  subst l2 y2 z2
  rw [show own_f4 (6 : Int32) = (6 : Int32) from rfl] at hQ2
  obtain ⟨rfl, N2q, e2⟩ := hQ2
  have N2 := Fr.app N0 N2q
  have k3 : own_To p.tables e below (s₁.setTop (entryFrame m #[(.ref a1)] 1)) T2 (mkF m 4 #[.val (.ref a1)] [(.int (6 : Int32))]) := fun t k => k1 t (st2.trans k)
  have k4 : own_To p.tables e below (s₁.setTop (entryFrame m #[(.ref a1)] 1)) T2 (mkF m 88 #[.val (.ref a1)] []) := fun t k => k3 t (XS.tswIn X2.here hx rfl (o := 84) (pc0 := 4) (pc' := 88) rfl (hb hby own_d3_4) rfl (by decide) (by decide) (by decide) (by decide) k)
  obtain ⟨a5, T5, h5, k15, bs5, kc5, X5, e5, E5, hS5, hk5, hZ, hown, EX5, FC5, FV5, AV5, la5, lb5, CU5, LT5, SX5, st5⟩ := ldcCH X2 hx hZ hown (hw _ (List.mem_of_getElem? (i := 94) rfl)) (own_wS hw) e2 hS0 hk0 (own_EW hw) (List.mem_of_getElem? (i := 6) rfl) CH0 (vs := [(.int (62 : Int32)), (.int (61 : Int32))]) (z := (2 : Int32)) ⟨by decide, by decide⟩ (by decide) (by decide) (g := (mkF m 88 #[.val (.ref a1)] [])) rfl (hb hby own_d3_88) (n := 8) (by decide) (by decide) (by decide) (by decide)
  have Z5 : n0 ≤ h5.size := Nat.le_trans Z0 E5.1
  have K5 : Keep h0 h5 [] := (Keep.refl h0 []).ext E5
  have CR5 := CR0.trans CU5
  have CH5 := CU5.1
  have k6 : own_To p.tables e below (s₁.setTop (entryFrame m #[(.ref a1)] 1)) T5 (mkF m 90 #[.val (.ref a1)] [(.ref a5)]) := fun t k => k4 t (st5 t k)
  obtain ⟨fs, hr, hrun, hended, hEnd⟩ := X5.leaveW hS5 (by rw [e5]; exact hk5) (v := some (.ref a5)) (fun h => by rw [Bd.returns] at h; cases h)
  have hChr := CR5.trans (CHv.at X5 hZ (own_EW hw) CH5)
  refine ⟨_, _, k6 _ ?_, hrun, hended, _, _, rfl, ?_, ?_, own_monoW hEnd (by decide) (by decide)⟩
  · jvm_step X5.here [X5.here.top, hx, (hb hby own_d3_90), X5.method', Bd.returns, Value.isRef, FieldType.isReference]
    first | (intro acts; rw [hr _ acts rfl rfl rfl]) | rw [hr _ _ rfl rfl rfl]
    exact Steps.refl _
  · show own_m3_GREATER_OR_EQUAL_Q Z a1 h0 n0 _ T5.heap _
    rw [e5]
    exact ⟨a5, bs5, kc5, rfl, N2, K5, EX5, FC5, FV5, AV5⟩
  · rw [hh]; show CHr Z consts_1 s.vm h0 T5.vm T5.heap; rw [e5]; exact hChr
theorem own_pd7 : parseMethodDescriptor "(I)Lcom/example/grace_period/graceperiod/server/cql/CqlClause$Relation;" = some ⟨[.int], some (.object "com/example/grace_period/graceperiod/server/cql/CqlClause$Relation")⟩ := by decide +kernel
theorem own_pd8 : parseMethodDescriptor "()Ljava/lang/String;" = some ⟨[], some (.object "java/lang/String")⟩ := by decide +kernel
theorem own_pd9 : parseMethodDescriptor "(I)C" = some ⟨[.int], some .char⟩ := by decide +kernel
theorem own_pd10 : parseMethodDescriptor "(Ljava/lang/Object;)Z" = some ⟨[(.object "java/lang/Object")], some .boolean⟩ := by decide +kernel
theorem own_ef0 (m : MethodId) (x0 : Int32) : entryFrame m #[(.int x0)] maxLocals = mkF m 0 #[.val (.int x0), .unset, .unset, .unset, .unset, .unset, .unset] [] := by first | (simp [entryFrame, mkF, argsToLocals, Value.category, maxLocals]; done) | rfl
theorem own_pn0 : plainName "com/example/grace_period/graceperiod/server/cql/RelationIsOrderingPinLaw" = true := by first | (simp [plainName, overriddenIn]; done) | decide +kernel
def own_Q0 (n0 : Nat) (v : Option Value) (L : List Loc) : Prop := v = some (.int (1 : Int32)) ∧ Fr n0 L
set_option maxRecDepth 65536 in
set_option maxHeartbeats 40000000 in
theorem own_m0 (l : Launch) (Z : State) (a0 : Array Value) (hw : ∀ d ∈ tables_1, d.before a0 Z = true) (ws : List Jvm.Cond) (p1 : Int32) (w_SERVER_CHOICE : Addr) (w_EXACT : Addr) (w_NOT_EQUAL : Addr) (w_LESS : Addr) (w_LESS_OR_EQUAL : Addr) (w_GREATER : Addr) (w_GREATER_OR_EQUAL : Addr) (w_COMPACT_STRINGS : Int32) (w_SIOOBE_FORMATTER : Value) (h0 : Heap) (n0 : Nat) (Z0 : n0 ≤ h0.size) (S_SERVER_CHOICE : Sta Z h0 "com/example/grace_period/graceperiod/server/cql/CqlClause$Relation" "SERVER_CHOICE" "Lcom/example/grace_period/graceperiod/server/cql/CqlClause$Relation;" (.ref w_SERVER_CHOICE)) (S_EXACT : Sta Z h0 "com/example/grace_period/graceperiod/server/cql/CqlClause$Relation" "EXACT" "Lcom/example/grace_period/graceperiod/server/cql/CqlClause$Relation;" (.ref w_EXACT)) (S_NOT_EQUAL : Sta Z h0 "com/example/grace_period/graceperiod/server/cql/CqlClause$Relation" "NOT_EQUAL" "Lcom/example/grace_period/graceperiod/server/cql/CqlClause$Relation;" (.ref w_NOT_EQUAL)) (S_LESS : Sta Z h0 "com/example/grace_period/graceperiod/server/cql/CqlClause$Relation" "LESS" "Lcom/example/grace_period/graceperiod/server/cql/CqlClause$Relation;" (.ref w_LESS)) (S_LESS_OR_EQUAL : Sta Z h0 "com/example/grace_period/graceperiod/server/cql/CqlClause$Relation" "LESS_OR_EQUAL" "Lcom/example/grace_period/graceperiod/server/cql/CqlClause$Relation;" (.ref w_LESS_OR_EQUAL)) (S_GREATER : Sta Z h0 "com/example/grace_period/graceperiod/server/cql/CqlClause$Relation" "GREATER" "Lcom/example/grace_period/graceperiod/server/cql/CqlClause$Relation;" (.ref w_GREATER)) (S_GREATER_OR_EQUAL : Sta Z h0 "com/example/grace_period/graceperiod/server/cql/CqlClause$Relation" "GREATER_OR_EQUAL" "Lcom/example/grace_period/graceperiod/server/cql/CqlClause$Relation;" (.ref w_GREATER_OR_EQUAL)) (E_w_SERVER_CHOICE : Exa Z h0 w_SERVER_CHOICE "com/example/grace_period/graceperiod/server/cql/CqlClause$Relation") (F_ordinal_w_SERVER_CHOICE : Fld Z h0 w_SERVER_CHOICE "java/lang/Enum" "ordinal" "I" (.int (0 : Int32))) (S_COMPACT_STRINGS : Sta Z h0 "java/lang/String" "COMPACT_STRINGS" "Z" (.int w_COMPACT_STRINGS)) (S_SIOOBE_FORMATTER : Sta Z h0 "jdk/internal/util/Preconditions" "SIOOBE_FORMATTER" "Ljava/util/function/BiFunction;" w_SIOOBE_FORMATTER) (E_w_EXACT : Exa Z h0 w_EXACT "com/example/grace_period/graceperiod/server/cql/CqlClause$Relation") (F_ordinal_w_EXACT : Fld Z h0 w_EXACT "java/lang/Enum" "ordinal" "I" (.int (1 : Int32))) (E_w_NOT_EQUAL : Exa Z h0 w_NOT_EQUAL "com/example/grace_period/graceperiod/server/cql/CqlClause$Relation") (F_ordinal_w_NOT_EQUAL : Fld Z h0 w_NOT_EQUAL "java/lang/Enum" "ordinal" "I" (.int (2 : Int32))) (E_w_LESS : Exa Z h0 w_LESS "com/example/grace_period/graceperiod/server/cql/CqlClause$Relation") (F_ordinal_w_LESS : Fld Z h0 w_LESS "java/lang/Enum" "ordinal" "I" (.int (3 : Int32))) (E_w_LESS_OR_EQUAL : Exa Z h0 w_LESS_OR_EQUAL "com/example/grace_period/graceperiod/server/cql/CqlClause$Relation") (F_ordinal_w_LESS_OR_EQUAL : Fld Z h0 w_LESS_OR_EQUAL "java/lang/Enum" "ordinal" "I" (.int (4 : Int32))) (E_w_GREATER : Exa Z h0 w_GREATER "com/example/grace_period/graceperiod/server/cql/CqlClause$Relation") (F_ordinal_w_GREATER : Fld Z h0 w_GREATER "java/lang/Enum" "ordinal" "I" (.int (5 : Int32))) (E_w_GREATER_OR_EQUAL : Exa Z h0 w_GREATER_OR_EQUAL "com/example/grace_period/graceperiod/server/cql/CqlClause$Relation") (F_ordinal_w_GREATER_OR_EQUAL : Fld Z h0 w_GREATER_OR_EQUAL "java/lang/Enum" "ordinal" "I" (.int (6 : Int32))) (hz : ¬ (w_COMPACT_STRINGS = (0 : Int32))) (hrS : w_SIOOBE_FORMATTER.isRef = true) (ne_SERVER_CHOICE_EXACT : ¬ (w_SERVER_CHOICE = w_EXACT)) (ne_SERVER_CHOICE_NOT_EQUAL : ¬ (w_SERVER_CHOICE = w_NOT_EQUAL)) (ne_SERVER_CHOICE_LESS : ¬ (w_SERVER_CHOICE = w_LESS)) (ne_SERVER_CHOICE_LESS_OR_EQUAL : ¬ (w_SERVER_CHOICE = w_LESS_OR_EQUAL)) (ne_SERVER_CHOICE_GREATER : ¬ (w_SERVER_CHOICE = w_GREATER)) (ne_SERVER_CHOICE_GREATER_OR_EQUAL : ¬ (w_SERVER_CHOICE = w_GREATER_OR_EQUAL)) (ne_EXACT_NOT_EQUAL : ¬ (w_EXACT = w_NOT_EQUAL)) (ne_EXACT_LESS : ¬ (w_EXACT = w_LESS)) (ne_EXACT_LESS_OR_EQUAL : ¬ (w_EXACT = w_LESS_OR_EQUAL)) (ne_EXACT_GREATER : ¬ (w_EXACT = w_GREATER)) (ne_EXACT_GREATER_OR_EQUAL : ¬ (w_EXACT = w_GREATER_OR_EQUAL)) (ne_NOT_EQUAL_LESS : ¬ (w_NOT_EQUAL = w_LESS)) (ne_NOT_EQUAL_LESS_OR_EQUAL : ¬ (w_NOT_EQUAL = w_LESS_OR_EQUAL)) (ne_NOT_EQUAL_GREATER : ¬ (w_NOT_EQUAL = w_GREATER)) (ne_NOT_EQUAL_GREATER_OR_EQUAL : ¬ (w_NOT_EQUAL = w_GREATER_OR_EQUAL)) (ne_LESS_LESS_OR_EQUAL : ¬ (w_LESS = w_LESS_OR_EQUAL)) (ne_LESS_GREATER : ¬ (w_LESS = w_GREATER)) (ne_LESS_GREATER_OR_EQUAL : ¬ (w_LESS = w_GREATER_OR_EQUAL)) (ne_LESS_OR_EQUAL_GREATER : ¬ (w_LESS_OR_EQUAL = w_GREATER)) (ne_LESS_OR_EQUAL_GREATER_OR_EQUAL : ¬ (w_LESS_OR_EQUAL = w_GREATER_OR_EQUAL)) (ne_GREATER_GREATER_OR_EQUAL : ¬ (w_GREATER = w_GREATER_OR_EQUAL)) :
    MetFree l x (head1 (Jvm.Cond.code x code maxLocals ret :: ws) room_1) (fun a U => a = #[(.int p1)] ∧ Z.Warmed39 U.vm ∧ U.heap = h0 ∧ CHv Z consts_1 U.vm h0) (fun _ _ _ _ _ => True) (fun _ U o U' => ∃ v L, o = .returned v ∧ own_Q0 n0 v L ∧ CHr Z consts_1 U.vm U.heap U'.vm U'.heap ∧ ReturnedEndW U o U' L room_1.cells room_1.slots) := by
  refine MetFree.of_bodySF (plainFor_of_name own_pn0) hisR ?_
  intro p e s m args below meth c s₁ Bd hml0 hP hK
  obtain ⟨rfl, hZ, hh, CH0⟩ := hP
  have hx := Bd.exec
  have hby := Bd.bytes
  have hml : c.maxLocals = 7 := hml0
  have hown : s.vm.findClass "com/example/grace_period/graceperiod/server/cql/RelationIsOrderingPinLaw" = some m.cls := findClass_of_methodNamed Bd.named
  have hnm := (name_of_methodNamed Bd.named Bd.method).1
  have X0 : Stand p l e room_1 s m #[(.int p1)] below meth c s₁ [] 0 0 := Stand.of_body Bd
  have X0 : Stand p l e room_1 (s.setVm s.vm) m #[(.int p1)] below meth c s₁ [] 0 0 := X0
  have hZ : Z.Warmed39 (s.setVm s.vm).vm := hZ
  have hown : (s.setVm s.vm).vm.findClass "com/example/grace_period/graceperiod/server/cql/RelationIsOrderingPinLaw" = some m.cls := hown
  have e0 : s₁.heap = h0 := by rw [← hh, Bd.state]; rfl
  have N0 := Fr.nil n0
  have hS0 : s.Since s.vm 0 := (State.WarmedH.refl s).since _
  have hk0 : 0 ≤ h0.size := Nat.zero_le _
  have CR0 : CHr Z consts_1 s.vm h0 s.vm h0 := CHr.refl CH0
  have k0 : own_To p.tables e below (s₁.setTop (entryFrame m #[(.int p1)] maxLocals)) s₁ (mkF m 0 #[.val (.int p1), .unset, .unset, .unset, .unset, .unset, .unset] []) := fun t k => castTop (own_ef0 m p1) k
  have k1 : own_To p.tables e below (s₁.setTop (entryFrame m #[(.int p1)] maxLocals)) s₁ (mkF m 1 #[.val (.int p1), .unset, .unset, .unset, .unset, .unset, .unset] [(.int p1)]) := fun t k => k0 t (XS.iloadN X0.here hx rfl (hb hby at_0) rfl k)
  have k2 : own_To p.tables e below (s₁.setTop (entryFrame m #[(.int p1)] maxLocals)) s₁ (mkF m 3 #[.val (.int p1), .unset, .unset, .unset, .unset, .unset, .unset] [(.int (2147483647 : Int32)), (.int p1)]) := fun t k => k1 t (X0.ldcInt hx hown (mvT hZ (hw _ (List.mem_of_getElem? (i := 0) rfl))) (g := (mkF m 1 #[.val (.int p1), .unset, .unset, .unset, .unset, .unset, .unset] [(.int p1)])) rfl (hb hby at_1) _ k)
  have k3 : own_To p.tables e below (s₁.setTop (entryFrame m #[(.int p1)] maxLocals)) s₁ (mkF m 4 #[.val (.int p1), .unset, .unset, .unset, .unset, .unset, .unset] [(.int (p1 &&& (2147483647 : Int32)))]) := fun t k => k2 t (XS.iand X0.here hx rfl (hb hby at_3) rfl k)
  have k4 : own_To p.tables e below (s₁.setTop (entryFrame m #[(.int p1)] maxLocals)) s₁ (mkF m 6 #[.val (.int p1), .unset, .unset, .unset, .unset, .unset, .unset] [(.int (7 : Int32)), (.int (p1 &&& (2147483647 : Int32)))]) := fun t k => k3 t (XS.bipush X0.here hx rfl (hb hby at_4) k)
  have k5 : own_To p.tables e below (s₁.setTop (entryFrame m #[(.int p1)] maxLocals)) s₁ (mkF m 7 #[.val (.int p1), .unset, .unset, .unset, .unset, .unset, .unset] [(.int ((p1 &&& (2147483647 : Int32)) % (7 : Int32)))]) := fun t k => k4 t (iremM (g := (mkF m 6 #[.val (.int p1), .unset, .unset, .unset, .unset, .unset, .unset] [(.int (7 : Int32)), (.int (p1 &&& (2147483647 : Int32)))])) X0 hx rfl (hb hby at_6) rfl (by decide) k)
  have k6 : own_To p.tables e below (s₁.setTop (entryFrame m #[(.int p1)] maxLocals)) s₁ (mkF m 8 #[.val (.int p1), .val (.int ((p1 &&& (2147483647 : Int32)) % (7 : Int32))), .unset, .unset, .unset, .unset, .unset] []) := fun t k => k5 t (XS.istoreN X0.here hx rfl (hb hby at_7) rfl (l' := #[.val (.int p1), .val (.int ((p1 &&& (2147483647 : Int32)) % (7 : Int32))), .unset, .unset, .unset, .unset, .unset]) rfl k)
  have k7 : own_To p.tables e below (s₁.setTop (entryFrame m #[(.int p1)] maxLocals)) s₁ (mkF m 9 #[.val (.int p1), .val (.int ((p1 &&& (2147483647 : Int32)) % (7 : Int32))), .unset, .unset, .unset, .unset, .unset] [(.int ((p1 &&& (2147483647 : Int32)) % (7 : Int32)))]) := fun t k => k6 t (XS.iloadN X0.here hx rfl (hb hby at_8) rfl k)
  by_cases hc8 : ((p1 &&& (2147483647 : Int32)) % (7 : Int32)) = (0 : Int32)
  · obtain ⟨_, _, ⟨T9, L9, k9, n9⟩, -, X9, ⟨Lc9, hQ9, l9, y9, z9⟩, st9⟩ := Jvm.LawKit.callS X0 hx (y := (⟨"com/example/grace_period/graceperiod/server/cql/RelationIsOrderingPinLaw", "pick", "(I)Lcom/example/grace_period/graceperiod/server/cql/CqlClause$Relation;"⟩ : MethodName)) hown (mvT hZ (hw _ (List.mem_of_getElem? (i := 1) rfl))) (mvT hZ (hw _ (List.mem_of_getElem? (i := 2) rfl))) (mvT hZ (hw _ (List.mem_of_getElem? (i := 3) rfl))) (mvT hZ (hw _ (List.mem_of_getElem? (i := 4) rfl))) (by decide) (backOf (W := 0) (own_m1 l Z a0 hw [] ((p1 &&& (2147483647 : Int32)) % (7 : Int32)) w_SERVER_CHOICE w_EXACT w_NOT_EQUAL w_LESS w_LESS_OR_EQUAL w_GREATER w_GREATER_OR_EQUAL h0 n0 Z0 S_SERVER_CHOICE S_EXACT S_NOT_EQUAL S_LESS S_LESS_OR_EQUAL S_GREATER S_GREATER_OR_EQUAL) hZ (hw _ (List.mem_of_getElem? (i := 4) rfl)) (hw _ (List.mem_of_getElem? (i := 3) rfl)) (by decide) (by decide)) (g := (mkF m 9 #[.val (.int p1), .val (.int ((p1 &&& (2147483647 : Int32)) % (7 : Int32))), .unset, .unset, .unset, .unset, .unset] [(.int ((p1 &&& (2147483647 : Int32)) % (7 : Int32)))])) rfl (by rw [hml]; rfl) (argsL := [(.int ((p1 &&& (2147483647 : Int32)) % (7 : Int32)))]) (rest := []) (lenOf own_pd7 rfl) rfl (by show 2 * 0 + _ ≤ _; exact Nat.le_of_eq rfl) (hb hby at_9) (fun _ _ => ⟨rfl, e0, (by decide : 0 + 0 ≤ _), (by decide : 0 + 0 ≤ _)⟩)
    dsimp only [Pt.U, Pt.locs, Pt.cells, Pt.slots] at X9 l9 y9 z9 st9 hQ9
    subst l9 y9 z9
    rw [show own_f1 ((p1 &&& (2147483647 : Int32)) % (7 : Int32)) w_SERVER_CHOICE w_EXACT w_NOT_EQUAL w_LESS w_LESS_OR_EQUAL w_GREATER w_GREATER_OR_EQUAL = w_SERVER_CHOICE from by unfold own_f1; rw [if_pos (show ((p1 &&& (2147483647 : Int32)) % (7 : Int32)) = (0 : Int32) from hc8)]] at hQ9
    obtain ⟨rfl, N9q, e9⟩ := hQ9
    have N9 := Fr.app N0 N9q
    have k10 : own_To p.tables e below (s₁.setTop (entryFrame m #[(.int p1)] maxLocals)) T9 (mkF m 12 #[.val (.int p1), .val (.int ((p1 &&& (2147483647 : Int32)) % (7 : Int32))), .unset, .unset, .unset, .unset, .unset] [(.ref w_SERVER_CHOICE)]) := fun t k => k7 t (st9 t k)
    have k11 : own_To p.tables e below (s₁.setTop (entryFrame m #[(.int p1)] maxLocals)) T9 (mkF m 13 #[.val (.int p1), .val (.int ((p1 &&& (2147483647 : Int32)) % (7 : Int32))), .val (.ref w_SERVER_CHOICE), .unset, .unset, .unset, .unset] []) := fun t k => k10 t (XS.astoreN X9.here hx rfl (hb hby at_12) rfl rfl (l' := #[.val (.int p1), .val (.int ((p1 &&& (2147483647 : Int32)) % (7 : Int32))), .val (.ref w_SERVER_CHOICE), .unset, .unset, .unset, .unset]) rfl k)
    have k12 : own_To p.tables e below (s₁.setTop (entryFrame m #[(.int p1)] maxLocals)) T9 (mkF m 14 #[.val (.int p1), .val (.int ((p1 &&& (2147483647 : Int32)) % (7 : Int32))), .val (.ref w_SERVER_CHOICE), .unset, .unset, .unset, .unset] [(.ref w_SERVER_CHOICE)]) := fun t k => k11 t (XS.aloadN X9.here hx rfl (hb hby at_13) rfl rfl k)
    obtain ⟨cq13, kq13, q13a, q13b, q13c⟩ := isOf hZ e9 E_w_SERVER_CHOICE
    obtain ⟨_, _, ⟨T13, L13, k13, n13⟩, -, X13, ⟨Lc13, hQ13, l13, y13, z13⟩, st13⟩ := X9.virtualBack hx (y := (⟨"com/example/grace_period/graceperiod/server/cql/CqlClause$Relation", "isOrdering", "()Z"⟩ : MethodName)) (z := (⟨"com/example/grace_period/graceperiod/server/cql/CqlClause$Relation", "isOrdering", "()Z"⟩ : MethodName)) hown (mvT hZ (hw _ (List.mem_of_getElem? (i := 8) rfl))) (mvT hZ (hw _ (List.mem_of_getElem? (i := 9) rfl))) (notFace_of_selects (args := #[]) (mvT hZ (hw _ (List.mem_of_getElem? (i := 11) rfl)))) (mvT hZ (hw _ (List.mem_of_getElem? (i := 11) rfl))) (mvT hZ (hw _ (List.mem_of_getElem? (i := 10) rfl))) (by decide) (backOf (W := 0) (own_m2 l Z a0 hw [] w_SERVER_CHOICE w_SERVER_CHOICE w_EXACT w_NOT_EQUAL h0 n0 Z0 S_SERVER_CHOICE S_EXACT S_NOT_EQUAL) hZ (hw _ (List.mem_of_getElem? (i := 12) rfl)) (hw _ (List.mem_of_getElem? (i := 6) rfl)) (by decide) (by decide)) q13a q13c (g := (mkF m 14 #[.val (.int p1), .val (.int ((p1 &&& (2147483647 : Int32)) % (7 : Int32))), .val (.ref w_SERVER_CHOICE), .unset, .unset, .unset, .unset] [(.ref w_SERVER_CHOICE)])) rfl (by rw [hml]; rfl) (Steps.refl _) (argsL := []) (rest := []) (lenOf own_pd3 rfl) rfl (by show 2 * 0 + _ ≤ _; exact Nat.le_of_eq rfl) (hb hby at_14) (fun _ _ => ⟨rfl, e9, (by decide : 0 + 0 ≤ _), (by decide : 0 + 0 ≤ _)⟩)
    dsimp only [Pt.U, Pt.locs, Pt.cells, Pt.slots] at X13 l13 y13 z13 st13 hQ13
    subst l13 y13 z13
    rw [show own_f2 w_SERVER_CHOICE w_SERVER_CHOICE w_EXACT w_NOT_EQUAL = (0 : Int32) from by unfold own_f2; rw [if_pos (show w_SERVER_CHOICE = w_SERVER_CHOICE from rfl)]] at hQ13
    obtain ⟨rfl, N13q, e13⟩ := hQ13
    have N13 := Fr.app N9 N13q
    have k14 : own_To p.tables e below (s₁.setTop (entryFrame m #[(.int p1)] maxLocals)) T13 (mkF m 17 #[.val (.int p1), .val (.int ((p1 &&& (2147483647 : Int32)) % (7 : Int32))), .val (.ref w_SERVER_CHOICE), .unset, .unset, .unset, .unset] [(.int (0 : Int32))]) := fun t k => k12 t (st13.trans k)
    have k15 : own_To p.tables e below (s₁.setTop (entryFrame m #[(.int p1)] maxLocals)) T13 (mkF m 18 #[.val (.int p1), .val (.int ((p1 &&& (2147483647 : Int32)) % (7 : Int32))), .val (.ref w_SERVER_CHOICE), .val (.int (0 : Int32)), .unset, .unset, .unset] []) := fun t k => k14 t (XS.istoreN X13.here hx rfl (hb hby at_17) rfl (l' := #[.val (.int p1), .val (.int ((p1 &&& (2147483647 : Int32)) % (7 : Int32))), .val (.ref w_SERVER_CHOICE), .val (.int (0 : Int32)), .unset, .unset, .unset]) rfl k)
    have k16 : own_To p.tables e below (s₁.setTop (entryFrame m #[(.int p1)] maxLocals)) T13 (mkF m 19 #[.val (.int p1), .val (.int ((p1 &&& (2147483647 : Int32)) % (7 : Int32))), .val (.ref w_SERVER_CHOICE), .val (.int (0 : Int32)), .unset, .unset, .unset] [(.int ((p1 &&& (2147483647 : Int32)) % (7 : Int32)))]) := fun t k => k15 t (XS.iloadN X13.here hx rfl (hb hby at_18) rfl k)
    have k17 : own_To p.tables e below (s₁.setTop (entryFrame m #[(.int p1)] maxLocals)) T13 (mkF m 20 #[.val (.int p1), .val (.int ((p1 &&& (2147483647 : Int32)) % (7 : Int32))), .val (.ref w_SERVER_CHOICE), .val (.int (0 : Int32)), .unset, .unset, .unset] [(.int (3 : Int32)), (.int ((p1 &&& (2147483647 : Int32)) % (7 : Int32)))]) := fun t k => k16 t (XS.iconst X13.here hx rfl (hb hby at_19) k)
    have k18 : own_To p.tables e below (s₁.setTop (entryFrame m #[(.int p1)] maxLocals)) T13 (mkF m 27 #[.val (.int p1), .val (.int ((p1 &&& (2147483647 : Int32)) % (7 : Int32))), .val (.ref w_SERVER_CHOICE), .val (.int (0 : Int32)), .unset, .unset, .unset] []) := fun t k => k17 t (XS.icmpYes X13.here hx rfl (pc0 := 20) (pc' := 27) rfl (hb hby at_20) rfl (tlt (show ((p1 &&& (2147483647 : Int32)) % (7 : Int32)) < (3 : Int32) from (by rw [hc8]; decide))).1 (by decide) (by decide) k)
    have k19 : own_To p.tables e below (s₁.setTop (entryFrame m #[(.int p1)] maxLocals)) T13 (mkF m 28 #[.val (.int p1), .val (.int ((p1 &&& (2147483647 : Int32)) % (7 : Int32))), .val (.ref w_SERVER_CHOICE), .val (.int (0 : Int32)), .unset, .unset, .unset] [(.int (0 : Int32))]) := fun t k => k18 t (XS.iconst X13.here hx rfl (hb hby at_27) k)
    have k20 : own_To p.tables e below (s₁.setTop (entryFrame m #[(.int p1)] maxLocals)) T13 (mkF m 30 #[.val (.int p1), .val (.int ((p1 &&& (2147483647 : Int32)) % (7 : Int32))), .val (.ref w_SERVER_CHOICE), .val (.int (0 : Int32)), .val (.int (0 : Int32)), .unset, .unset] []) := fun t k => k19 t (XS.istore X13.here hx rfl (hb hby at_28) rfl (l' := #[.val (.int p1), .val (.int ((p1 &&& (2147483647 : Int32)) % (7 : Int32))), .val (.ref w_SERVER_CHOICE), .val (.int (0 : Int32)), .val (.int (0 : Int32)), .unset, .unset]) rfl k)
    have k21 : own_To p.tables e below (s₁.setTop (entryFrame m #[(.int p1)] maxLocals)) T13 (mkF m 31 #[.val (.int p1), .val (.int ((p1 &&& (2147483647 : Int32)) % (7 : Int32))), .val (.ref w_SERVER_CHOICE), .val (.int (0 : Int32)), .val (.int (0 : Int32)), .unset, .unset] [(.ref w_SERVER_CHOICE)]) := fun t k => k20 t (XS.aloadN X13.here hx rfl (hb hby at_30) rfl rfl k)
    obtain ⟨cq22, kq22, q22a, q22b, q22c⟩ := isOf hZ e13 E_w_SERVER_CHOICE
    obtain ⟨_, _, ⟨T22, L22, k22, n22⟩, -, X22, hSq22, gr22, ⟨Lc22, hQ22, l22, y22, z22, CU22⟩, st22⟩ := Jvm.Stand.virtualBackS X13 hx (y := (⟨"com/example/grace_period/graceperiod/server/cql/CqlClause$Relation", "symbol", "()Ljava/lang/String;"⟩ : MethodName)) (z := (⟨"com/example/grace_period/graceperiod/server/cql/CqlClause$Relation", "symbol", "()Ljava/lang/String;"⟩ : MethodName)) hown (mvT hZ (hw _ (List.mem_of_getElem? (i := 14) rfl))) (mvT hZ (hw _ (List.mem_of_getElem? (i := 15) rfl))) (notFace_of_selects (args := #[]) (mvT hZ (hw _ (List.mem_of_getElem? (i := 17) rfl)))) (mvT hZ (hw _ (List.mem_of_getElem? (i := 17) rfl))) (mvT hZ (hw _ (List.mem_of_getElem? (i := 16) rfl))) (by decide) (backOfSH (W := 0) (own_m3_SERVER_CHOICE l Z a0 hw [] w_SERVER_CHOICE h0 n0 Z0 F_ordinal_w_SERVER_CHOICE E_w_SERVER_CHOICE) hZ (hw _ (List.mem_of_getElem? (i := 18) rfl)) (hw _ (List.mem_of_getElem? (i := 6) rfl)) (by decide) (by decide) (own_EW hw) CH0) q22a q22c (g := (mkF m 31 #[.val (.int p1), .val (.int ((p1 &&& (2147483647 : Int32)) % (7 : Int32))), .val (.ref w_SERVER_CHOICE), .val (.int (0 : Int32)), .val (.int (0 : Int32)), .unset, .unset] [(.ref w_SERVER_CHOICE)])) rfl (by rw [hml]; rfl) (Steps.refl _) (argsL := []) (rest := []) (lenOf own_pd8 rfl) rfl (by show 2 * 0 + _ ≤ _; exact Nat.le_of_eq rfl) (hb hby at_31) (fun _ _ => ⟨rfl, e13, (by decide : 0 + 2 ≤ _), (by decide : 0 + 8 ≤ _)⟩)
    dsimp only [Pt.U, Pt.locs, Pt.cells, Pt.slots] at X22 l22 y22 z22 st22 hQ22 hSq22 gr22 CU22
    subst l22 y22 z22
    obtain ⟨X22, hS22, hZ, hown⟩ := rebS hS0 (by rw [e13]; exact hk0) X22 hSq22 gr22 hZ hown
    obtain ⟨h22, e22⟩ : ∃ z, T22.heap = z := ⟨_, rfl⟩
    rw [e22] at hQ22 CU22 hS22
    have hk22 : h22.size ≤ h22.size := Nat.le_refl _
    have CR22 := CR0.trans CU22
    have CH22 := CU22.1
    obtain ⟨a22, bs22, kc22, rfl, N22q, KC22, EX22, FC22, FV22, AV22⟩ := hQ22
    have KK22 : Keep h0 h22 [] := (Keep.refl h0 []).trans KC22 all0
    have Z22 : n0 ≤ h22.size := Nat.le_trans Z0 KC22.1
    have N22 := Fr.app N13 N22q
    have k23 : own_To p.tables e below (s₁.setTop (entryFrame m #[(.int p1)] maxLocals)) T22 (mkF m 34 #[.val (.int p1), .val (.int ((p1 &&& (2147483647 : Int32)) % (7 : Int32))), .val (.ref w_SERVER_CHOICE), .val (.int (0 : Int32)), .val (.int (0 : Int32)), .unset, .unset] [(.ref a22)]) := fun t k => k21 t (st22.trans k)
    have k24 : own_To p.tables e below (s₁.setTop (entryFrame m #[(.int p1)] maxLocals)) T22 (mkF m 36 #[.val (.int p1), .val (.int ((p1 &&& (2147483647 : Int32)) % (7 : Int32))), .val (.ref w_SERVER_CHOICE), .val (.int (0 : Int32)), .val (.int (0 : Int32)), .val (.ref a22), .unset] []) := fun t k => k23 t (XS.astore X22.here hx rfl (hb hby at_34) rfl rfl (l' := #[.val (.int p1), .val (.int ((p1 &&& (2147483647 : Int32)) % (7 : Int32))), .val (.ref w_SERVER_CHOICE), .val (.int (0 : Int32)), .val (.int (0 : Int32)), .val (.ref a22), .unset]) rfl k)
    have k25 : own_To p.tables e below (s₁.setTop (entryFrame m #[(.int p1)] maxLocals)) T22 (mkF m 38 #[.val (.int p1), .val (.int ((p1 &&& (2147483647 : Int32)) % (7 : Int32))), .val (.ref w_SERVER_CHOICE), .val (.int (0 : Int32)), .val (.int (0 : Int32)), .val (.ref a22), .unset] [(.ref a22)]) := fun t k => k24 t (XS.aload X22.here hx rfl (hb hby at_36) rfl rfl k)
    obtain ⟨cq26, kq26, q26a, q26b, q26c⟩ := isOf hZ e22 EX22
    obtain ⟨_, _, ⟨T26, L26, k26, n26⟩, -, X26, ⟨Lc26, hQ26, l26, y26, z26⟩, st26⟩ := X22.virtualBack hx (y := (⟨"java/lang/String", "length", "()I"⟩ : MethodName)) (z := (⟨"java/lang/String", "length", "()I"⟩ : MethodName)) hown (mvT hZ (hw _ (List.mem_of_getElem? (i := 36) rfl))) (mvT hZ (hw _ (List.mem_of_getElem? (i := 37) rfl))) (notFace_of_selects (args := #[]) (mvT hZ (hw _ (List.mem_of_getElem? (i := 39) rfl)))) (mvT hZ (hw _ (List.mem_of_getElem? (i := 39) rfl))) (mvT hZ (hw _ (List.mem_of_getElem? (i := 38) rfl))) (by decide) (backOf (W := 0) (own_m5_t0 l Z a0 hw [] a22 bs22 kc22 w_COMPACT_STRINGS h22 n0 Z22 FV22 AV22 (own_sta_keep S_COMPACT_STRINGS KC22 all0) FC22 EX22 hz) hZ (hw _ (List.mem_of_getElem? (i := 40) rfl)) (hw _ (List.mem_of_getElem? (i := 29) rfl)) (by decide) (by decide)) q26a q26c (g := (mkF m 38 #[.val (.int p1), .val (.int ((p1 &&& (2147483647 : Int32)) % (7 : Int32))), .val (.ref w_SERVER_CHOICE), .val (.int (0 : Int32)), .val (.int (0 : Int32)), .val (.ref a22), .unset] [(.ref a22)])) rfl (by rw [hml]; rfl) (Steps.refl _) (argsL := []) (rest := []) (lenOf own_pd6 rfl) rfl (by show 2 * 0 + _ ≤ _; exact Nat.le_of_eq rfl) (hb hby at_38) (fun _ _ => ⟨rfl, e22, (by decide : 2 + 0 ≤ _), (by decide : 8 + 0 ≤ _)⟩)
    dsimp only [Pt.U, Pt.locs, Pt.cells, Pt.slots] at X26 l26 y26 z26 st26 hQ26
    subst l26 y26 z26
    rw [show own_f5_t0 = (1 : Int32) from rfl] at hQ26
    obtain ⟨rfl, N26q, e26⟩ := hQ26
    have N26 := Fr.app N22 N26q
    have k27 : own_To p.tables e below (s₁.setTop (entryFrame m #[(.int p1)] maxLocals)) T26 (mkF m 41 #[.val (.int p1), .val (.int ((p1 &&& (2147483647 : Int32)) % (7 : Int32))), .val (.ref w_SERVER_CHOICE), .val (.int (0 : Int32)), .val (.int (0 : Int32)), .val (.ref a22), .unset] [(.int (1 : Int32))]) := fun t k => k25 t (st26.trans k)
    have k28 : own_To p.tables e below (s₁.setTop (entryFrame m #[(.int p1)] maxLocals)) T26 (mkF m 44 #[.val (.int p1), .val (.int ((p1 &&& (2147483647 : Int32)) % (7 : Int32))), .val (.ref w_SERVER_CHOICE), .val (.int (0 : Int32)), .val (.int (0 : Int32)), .val (.ref a22), .unset] []) := fun t k => k27 t (XS.ifNo X26.here hx rfl (hb hby at_41) rfl ((if0 _ _).trans (tlt (show (0 : Int32) < (1 : Int32) from (by decide))).2.2.2) k)
    have k29 : own_To p.tables e below (s₁.setTop (entryFrame m #[(.int p1)] maxLocals)) T26 (mkF m 46 #[.val (.int p1), .val (.int ((p1 &&& (2147483647 : Int32)) % (7 : Int32))), .val (.ref w_SERVER_CHOICE), .val (.int (0 : Int32)), .val (.int (0 : Int32)), .val (.ref a22), .unset] [(.ref a22)]) := fun t k => k28 t (XS.aload X26.here hx rfl (hb hby at_44) rfl rfl k)
    have k30 : own_To p.tables e below (s₁.setTop (entryFrame m #[(.int p1)] maxLocals)) T26 (mkF m 47 #[.val (.int p1), .val (.int ((p1 &&& (2147483647 : Int32)) % (7 : Int32))), .val (.ref w_SERVER_CHOICE), .val (.int (0 : Int32)), .val (.int (0 : Int32)), .val (.ref a22), .unset] [(.int (0 : Int32)), (.ref a22)]) := fun t k => k29 t (XS.iconst X26.here hx rfl (hb hby at_46) k)
    obtain ⟨cq31, kq31, q31a, q31b, q31c⟩ := isOf hZ e26 EX22
    obtain ⟨_, _, ⟨T31, L31, k31, n31⟩, -, X31, ⟨Lc31, hQ31, l31, y31, z31⟩, st31⟩ := X26.virtualBack hx (y := (⟨"java/lang/String", "charAt", "(I)C"⟩ : MethodName)) (z := (⟨"java/lang/String", "charAt", "(I)C"⟩ : MethodName)) hown (mvT hZ (hw _ (List.mem_of_getElem? (i := 49) rfl))) (mvT hZ (hw _ (List.mem_of_getElem? (i := 50) rfl))) (notFace_of_selects (args := #[]) (mvT hZ (hw _ (List.mem_of_getElem? (i := 52) rfl)))) (mvT hZ (hw _ (List.mem_of_getElem? (i := 52) rfl))) (mvT hZ (hw _ (List.mem_of_getElem? (i := 51) rfl))) (by decide) (backOf (W := 0) (own_m7_t0 l Z a0 hw [] a22 w_COMPACT_STRINGS bs22 kc22 w_SIOOBE_FORMATTER h22 n0 Z22 (own_sta_keep S_COMPACT_STRINGS KC22 all0) FC22 EX22 FV22 AV22 (own_sta_keep S_SIOOBE_FORMATTER KC22 all0) hz hrS) hZ (hw _ (List.mem_of_getElem? (i := 53) rfl)) (hw _ (List.mem_of_getElem? (i := 29) rfl)) (by decide) (by decide)) q31a q31c (g := (mkF m 47 #[.val (.int p1), .val (.int ((p1 &&& (2147483647 : Int32)) % (7 : Int32))), .val (.ref w_SERVER_CHOICE), .val (.int (0 : Int32)), .val (.int (0 : Int32)), .val (.ref a22), .unset] [(.int (0 : Int32)), (.ref a22)])) rfl (by rw [hml]; rfl) (Steps.refl _) (argsL := [(.int (0 : Int32))]) (rest := []) (lenOf own_pd9 rfl) rfl (by show 2 * 0 + _ ≤ _; exact Nat.le_of_eq rfl) (hb hby at_47) (fun _ _ => ⟨rfl, e26, (by decide : 2 + 0 ≤ _), (by decide : 8 + 0 ≤ _)⟩)
    dsimp only [Pt.U, Pt.locs, Pt.cells, Pt.slots] at X31 l31 y31 z31 st31 hQ31
    subst l31 y31 z31
    rw [show own_f7_t0 = (61 : Int32) from rfl] at hQ31
    obtain ⟨rfl, N31q, e31⟩ := hQ31
    have N31 := Fr.app N26 N31q
    have k32 : own_To p.tables e below (s₁.setTop (entryFrame m #[(.int p1)] maxLocals)) T31 (mkF m 50 #[.val (.int p1), .val (.int ((p1 &&& (2147483647 : Int32)) % (7 : Int32))), .val (.ref w_SERVER_CHOICE), .val (.int (0 : Int32)), .val (.int (0 : Int32)), .val (.ref a22), .unset] [(.int (61 : Int32))]) := fun t k => k30 t (st31.trans k)
    have k33 : own_To p.tables e below (s₁.setTop (entryFrame m #[(.int p1)] maxLocals)) T31 (mkF m 52 #[.val (.int p1), .val (.int ((p1 &&& (2147483647 : Int32)) % (7 : Int32))), .val (.ref w_SERVER_CHOICE), .val (.int (0 : Int32)), .val (.int (0 : Int32)), .val (.ref a22), .unset] [(.int (60 : Int32)), (.int (61 : Int32))]) := fun t k => k32 t (XS.bipush X31.here hx rfl (hb hby at_50) k)
    have k34 : own_To p.tables e below (s₁.setTop (entryFrame m #[(.int p1)] maxLocals)) T31 (mkF m 55 #[.val (.int p1), .val (.int ((p1 &&& (2147483647 : Int32)) % (7 : Int32))), .val (.ref w_SERVER_CHOICE), .val (.int (0 : Int32)), .val (.int (0 : Int32)), .val (.ref a22), .unset] []) := fun t k => k33 t (XS.icmpNo X31.here hx rfl (hb hby at_52) rfl (feq (show ¬ ((61 : Int32) = (60 : Int32)) from (by decide))).1 k)
    have k35 : own_To p.tables e below (s₁.setTop (entryFrame m #[(.int p1)] maxLocals)) T31 (mkF m 57 #[.val (.int p1), .val (.int ((p1 &&& (2147483647 : Int32)) % (7 : Int32))), .val (.ref w_SERVER_CHOICE), .val (.int (0 : Int32)), .val (.int (0 : Int32)), .val (.ref a22), .unset] [(.ref a22)]) := fun t k => k34 t (XS.aload X31.here hx rfl (hb hby at_55) rfl rfl k)
    have k36 : own_To p.tables e below (s₁.setTop (entryFrame m #[(.int p1)] maxLocals)) T31 (mkF m 58 #[.val (.int p1), .val (.int ((p1 &&& (2147483647 : Int32)) % (7 : Int32))), .val (.ref w_SERVER_CHOICE), .val (.int (0 : Int32)), .val (.int (0 : Int32)), .val (.ref a22), .unset] [(.int (0 : Int32)), (.ref a22)]) := fun t k => k35 t (XS.iconst X31.here hx rfl (hb hby at_57) k)
    obtain ⟨cq37, kq37, q37a, q37b, q37c⟩ := isOf hZ e31 EX22
    obtain ⟨_, _, ⟨T37, L37, k37, n37⟩, -, X37, ⟨Lc37, hQ37, l37, y37, z37⟩, st37⟩ := X31.virtualBack hx (y := (⟨"java/lang/String", "charAt", "(I)C"⟩ : MethodName)) (z := (⟨"java/lang/String", "charAt", "(I)C"⟩ : MethodName)) hown (mvT hZ (hw _ (List.mem_of_getElem? (i := 49) rfl))) (mvT hZ (hw _ (List.mem_of_getElem? (i := 50) rfl))) (notFace_of_selects (args := #[]) (mvT hZ (hw _ (List.mem_of_getElem? (i := 52) rfl)))) (mvT hZ (hw _ (List.mem_of_getElem? (i := 52) rfl))) (mvT hZ (hw _ (List.mem_of_getElem? (i := 51) rfl))) (by decide) (backOf (W := 0) (own_m7_t0 l Z a0 hw [] a22 w_COMPACT_STRINGS bs22 kc22 w_SIOOBE_FORMATTER h22 n0 Z22 (own_sta_keep S_COMPACT_STRINGS KC22 all0) FC22 EX22 FV22 AV22 (own_sta_keep S_SIOOBE_FORMATTER KC22 all0) hz hrS) hZ (hw _ (List.mem_of_getElem? (i := 53) rfl)) (hw _ (List.mem_of_getElem? (i := 29) rfl)) (by decide) (by decide)) q37a q37c (g := (mkF m 58 #[.val (.int p1), .val (.int ((p1 &&& (2147483647 : Int32)) % (7 : Int32))), .val (.ref w_SERVER_CHOICE), .val (.int (0 : Int32)), .val (.int (0 : Int32)), .val (.ref a22), .unset] [(.int (0 : Int32)), (.ref a22)])) rfl (by rw [hml]; rfl) (Steps.refl _) (argsL := [(.int (0 : Int32))]) (rest := []) (lenOf own_pd9 rfl) rfl (by show 2 * 0 + _ ≤ _; exact Nat.le_of_eq rfl) (hb hby at_58) (fun _ _ => ⟨rfl, e31, (by decide : 2 + 0 ≤ _), (by decide : 8 + 0 ≤ _)⟩)
    dsimp only [Pt.U, Pt.locs, Pt.cells, Pt.slots] at X37 l37 y37 z37 st37 hQ37
    subst l37 y37 z37
    rw [show own_f7_t0 = (61 : Int32) from rfl] at hQ37
    obtain ⟨rfl, N37q, e37⟩ := hQ37
    have N37 := Fr.app N31 N37q
    have k38 : own_To p.tables e below (s₁.setTop (entryFrame m #[(.int p1)] maxLocals)) T37 (mkF m 61 #[.val (.int p1), .val (.int ((p1 &&& (2147483647 : Int32)) % (7 : Int32))), .val (.ref w_SERVER_CHOICE), .val (.int (0 : Int32)), .val (.int (0 : Int32)), .val (.ref a22), .unset] [(.int (61 : Int32))]) := fun t k => k36 t (st37.trans k)
    have k39 : own_To p.tables e below (s₁.setTop (entryFrame m #[(.int p1)] maxLocals)) T37 (mkF m 63 #[.val (.int p1), .val (.int ((p1 &&& (2147483647 : Int32)) % (7 : Int32))), .val (.ref w_SERVER_CHOICE), .val (.int (0 : Int32)), .val (.int (0 : Int32)), .val (.ref a22), .unset] [(.int (62 : Int32)), (.int (61 : Int32))]) := fun t k => k38 t (XS.bipush X37.here hx rfl (hb hby at_61) k)
    have k40 : own_To p.tables e below (s₁.setTop (entryFrame m #[(.int p1)] maxLocals)) T37 (mkF m 80 #[.val (.int p1), .val (.int ((p1 &&& (2147483647 : Int32)) % (7 : Int32))), .val (.ref w_SERVER_CHOICE), .val (.int (0 : Int32)), .val (.int (0 : Int32)), .val (.ref a22), .unset] []) := fun t k => k39 t (XS.icmpYes X37.here hx rfl (pc0 := 63) (pc' := 80) rfl (hb hby at_63) rfl (feq (show ¬ ((61 : Int32) = (62 : Int32)) from (by decide))).2 (by decide) (by decide) k)
    have k41 : own_To p.tables e below (s₁.setTop (entryFrame m #[(.int p1)] maxLocals)) T37 (mkF m 81 #[.val (.int p1), .val (.int ((p1 &&& (2147483647 : Int32)) % (7 : Int32))), .val (.ref w_SERVER_CHOICE), .val (.int (0 : Int32)), .val (.int (0 : Int32)), .val (.ref a22), .unset] [(.int (0 : Int32))]) := fun t k => k40 t (XS.iconst X37.here hx rfl (hb hby at_80) k)
    have k42 : own_To p.tables e below (s₁.setTop (entryFrame m #[(.int p1)] maxLocals)) T37 (mkF m 83 #[.val (.int p1), .val (.int ((p1 &&& (2147483647 : Int32)) % (7 : Int32))), .val (.ref w_SERVER_CHOICE), .val (.int (0 : Int32)), .val (.int (0 : Int32)), .val (.ref a22), .val (.int (0 : Int32))] []) := fun t k => k41 t (XS.istore X37.here hx rfl (hb hby at_81) rfl (l' := #[.val (.int p1), .val (.int ((p1 &&& (2147483647 : Int32)) % (7 : Int32))), .val (.ref w_SERVER_CHOICE), .val (.int (0 : Int32)), .val (.int (0 : Int32)), .val (.ref a22), .val (.int (0 : Int32))]) rfl k)
    have k43 : own_To p.tables e below (s₁.setTop (entryFrame m #[(.int p1)] maxLocals)) T37 (mkF m 84 #[.val (.int p1), .val (.int ((p1 &&& (2147483647 : Int32)) % (7 : Int32))), .val (.ref w_SERVER_CHOICE), .val (.int (0 : Int32)), .val (.int (0 : Int32)), .val (.ref a22), .val (.int (0 : Int32))] [(.int (0 : Int32))]) := fun t k => k42 t (XS.iloadN X37.here hx rfl (hb hby at_83) rfl k)
    have k44 : own_To p.tables e below (s₁.setTop (entryFrame m #[(.int p1)] maxLocals)) T37 (mkF m 86 #[.val (.int p1), .val (.int ((p1 &&& (2147483647 : Int32)) % (7 : Int32))), .val (.ref w_SERVER_CHOICE), .val (.int (0 : Int32)), .val (.int (0 : Int32)), .val (.ref a22), .val (.int (0 : Int32))] [(.int (0 : Int32)), (.int (0 : Int32))]) := fun t k => k43 t (XS.iload X37.here hx rfl (hb hby at_84) rfl k)
    have k45 : own_To p.tables e below (s₁.setTop (entryFrame m #[(.int p1)] maxLocals)) T37 (mkF m 89 #[.val (.int p1), .val (.int ((p1 &&& (2147483647 : Int32)) % (7 : Int32))), .val (.ref w_SERVER_CHOICE), .val (.int (0 : Int32)), .val (.int (0 : Int32)), .val (.ref a22), .val (.int (0 : Int32))] []) := fun t k => k44 t (XS.icmpNo X37.here hx rfl (hb hby at_86) rfl (teq (show (0 : Int32) = (0 : Int32) from (by decide))).2 k)
    have k46 : own_To p.tables e below (s₁.setTop (entryFrame m #[(.int p1)] maxLocals)) T37 (mkF m 90 #[.val (.int p1), .val (.int ((p1 &&& (2147483647 : Int32)) % (7 : Int32))), .val (.ref w_SERVER_CHOICE), .val (.int (0 : Int32)), .val (.int (0 : Int32)), .val (.ref a22), .val (.int (0 : Int32))] [(.int (0 : Int32))]) := fun t k => k45 t (XS.iloadN X37.here hx rfl (hb hby at_89) rfl k)
    have k47 : own_To p.tables e below (s₁.setTop (entryFrame m #[(.int p1)] maxLocals)) T37 (mkF m 92 #[.val (.int p1), .val (.int ((p1 &&& (2147483647 : Int32)) % (7 : Int32))), .val (.ref w_SERVER_CHOICE), .val (.int (0 : Int32)), .val (.int (0 : Int32)), .val (.ref a22), .val (.int (0 : Int32))] [(.int (0 : Int32)), (.int (0 : Int32))]) := fun t k => k46 t (XS.iload X37.here hx rfl (hb hby at_90) rfl k)
    have k48 : own_To p.tables e below (s₁.setTop (entryFrame m #[(.int p1)] maxLocals)) T37 (mkF m 95 #[.val (.int p1), .val (.int ((p1 &&& (2147483647 : Int32)) % (7 : Int32))), .val (.ref w_SERVER_CHOICE), .val (.int (0 : Int32)), .val (.int (0 : Int32)), .val (.ref a22), .val (.int (0 : Int32))] []) := fun t k => k47 t (XS.icmpNo X37.here hx rfl (hb hby at_92) rfl (teq (show (0 : Int32) = (0 : Int32) from (by decide))).2 k)
    have k49 : own_To p.tables e below (s₁.setTop (entryFrame m #[(.int p1)] maxLocals)) T37 (mkF m 96 #[.val (.int p1), .val (.int ((p1 &&& (2147483647 : Int32)) % (7 : Int32))), .val (.ref w_SERVER_CHOICE), .val (.int (0 : Int32)), .val (.int (0 : Int32)), .val (.ref a22), .val (.int (0 : Int32))] [(.int (1 : Int32))]) := fun t k => k48 t (XS.iconst X37.here hx rfl (hb hby at_95) k)
    have k50 : own_To p.tables e below (s₁.setTop (entryFrame m #[(.int p1)] maxLocals)) T37 (mkF m 100 #[.val (.int p1), .val (.int ((p1 &&& (2147483647 : Int32)) % (7 : Int32))), .val (.ref w_SERVER_CHOICE), .val (.int (0 : Int32)), .val (.int (0 : Int32)), .val (.ref a22), .val (.int (0 : Int32))] [(.int (1 : Int32))]) := fun t k => k49 t (XS.goto X37.here hx rfl (pc0 := 96) (pc' := 100) rfl (hb hby at_96) (by decide) (by decide) k)
    obtain ⟨fs, hr, hrun, hended, hEnd⟩ := X37.leaveW hS22 (by rw [e37]; exact hk22) (v := some (.int (1 : Int32))) (fun h => by rw [Bd.returns] at h; cases h)
    have hChr := CR22.trans (CHv.at X37 hZ (own_EW hw) CH22)
    refine ⟨_, _, k50 _ ?_, hrun, hended, _, _, rfl, ?_, ?_, own_monoW hEnd (by decide) (by decide)⟩
    · exact retN X37 hx (t := .boolean) Bd.returns (by simp) (hb hby at_100) hr
    · show own_Q0 n0 _ _
      exact ⟨rfl, N37⟩
    · rw [hh]; show CHr Z consts_1 s.vm h0 T37.vm T37.heap; rw [e37]; exact hChr
  · by_cases hc51 : ((p1 &&& (2147483647 : Int32)) % (7 : Int32)) = (1 : Int32)
    · obtain ⟨_, _, ⟨T52, L52, k52, n52⟩, -, X52, ⟨Lc52, hQ52, l52, y52, z52⟩, st52⟩ := Jvm.LawKit.callS X0 hx (y := (⟨"com/example/grace_period/graceperiod/server/cql/RelationIsOrderingPinLaw", "pick", "(I)Lcom/example/grace_period/graceperiod/server/cql/CqlClause$Relation;"⟩ : MethodName)) hown (mvT hZ (hw _ (List.mem_of_getElem? (i := 1) rfl))) (mvT hZ (hw _ (List.mem_of_getElem? (i := 2) rfl))) (mvT hZ (hw _ (List.mem_of_getElem? (i := 3) rfl))) (mvT hZ (hw _ (List.mem_of_getElem? (i := 4) rfl))) (by decide) (backOf (W := 0) (own_m1 l Z a0 hw [] ((p1 &&& (2147483647 : Int32)) % (7 : Int32)) w_SERVER_CHOICE w_EXACT w_NOT_EQUAL w_LESS w_LESS_OR_EQUAL w_GREATER w_GREATER_OR_EQUAL h0 n0 Z0 S_SERVER_CHOICE S_EXACT S_NOT_EQUAL S_LESS S_LESS_OR_EQUAL S_GREATER S_GREATER_OR_EQUAL) hZ (hw _ (List.mem_of_getElem? (i := 4) rfl)) (hw _ (List.mem_of_getElem? (i := 3) rfl)) (by decide) (by decide)) (g := (mkF m 9 #[.val (.int p1), .val (.int ((p1 &&& (2147483647 : Int32)) % (7 : Int32))), .unset, .unset, .unset, .unset, .unset] [(.int ((p1 &&& (2147483647 : Int32)) % (7 : Int32)))])) rfl (by rw [hml]; rfl) (argsL := [(.int ((p1 &&& (2147483647 : Int32)) % (7 : Int32)))]) (rest := []) (lenOf own_pd7 rfl) rfl (by show 2 * 0 + _ ≤ _; exact Nat.le_of_eq rfl) (hb hby at_9) (fun _ _ => ⟨rfl, e0, (by decide : 0 + 0 ≤ _), (by decide : 0 + 0 ≤ _)⟩)
      dsimp only [Pt.U, Pt.locs, Pt.cells, Pt.slots] at X52 l52 y52 z52 st52 hQ52
      subst l52 y52 z52
      rw [show own_f1 ((p1 &&& (2147483647 : Int32)) % (7 : Int32)) w_SERVER_CHOICE w_EXACT w_NOT_EQUAL w_LESS w_LESS_OR_EQUAL w_GREATER w_GREATER_OR_EQUAL = w_EXACT from by unfold own_f1; rw [if_neg (show ¬ (((p1 &&& (2147483647 : Int32)) % (7 : Int32)) = (0 : Int32)) from hc8), if_pos (show ((p1 &&& (2147483647 : Int32)) % (7 : Int32)) = (1 : Int32) from hc51)]] at hQ52
      obtain ⟨rfl, N52q, e52⟩ := hQ52
      have N52 := Fr.app N0 N52q
      have k53 : own_To p.tables e below (s₁.setTop (entryFrame m #[(.int p1)] maxLocals)) T52 (mkF m 12 #[.val (.int p1), .val (.int ((p1 &&& (2147483647 : Int32)) % (7 : Int32))), .unset, .unset, .unset, .unset, .unset] [(.ref w_EXACT)]) := fun t k => k7 t (st52 t k)
      have k54 : own_To p.tables e below (s₁.setTop (entryFrame m #[(.int p1)] maxLocals)) T52 (mkF m 13 #[.val (.int p1), .val (.int ((p1 &&& (2147483647 : Int32)) % (7 : Int32))), .val (.ref w_EXACT), .unset, .unset, .unset, .unset] []) := fun t k => k53 t (XS.astoreN X52.here hx rfl (hb hby at_12) rfl rfl (l' := #[.val (.int p1), .val (.int ((p1 &&& (2147483647 : Int32)) % (7 : Int32))), .val (.ref w_EXACT), .unset, .unset, .unset, .unset]) rfl k)
      have k55 : own_To p.tables e below (s₁.setTop (entryFrame m #[(.int p1)] maxLocals)) T52 (mkF m 14 #[.val (.int p1), .val (.int ((p1 &&& (2147483647 : Int32)) % (7 : Int32))), .val (.ref w_EXACT), .unset, .unset, .unset, .unset] [(.ref w_EXACT)]) := fun t k => k54 t (XS.aloadN X52.here hx rfl (hb hby at_13) rfl rfl k)
      obtain ⟨cq56, kq56, q56a, q56b, q56c⟩ := isOf hZ e52 E_w_EXACT
      obtain ⟨_, _, ⟨T56, L56, k56, n56⟩, -, X56, ⟨Lc56, hQ56, l56, y56, z56⟩, st56⟩ := X52.virtualBack hx (y := (⟨"com/example/grace_period/graceperiod/server/cql/CqlClause$Relation", "isOrdering", "()Z"⟩ : MethodName)) (z := (⟨"com/example/grace_period/graceperiod/server/cql/CqlClause$Relation", "isOrdering", "()Z"⟩ : MethodName)) hown (mvT hZ (hw _ (List.mem_of_getElem? (i := 8) rfl))) (mvT hZ (hw _ (List.mem_of_getElem? (i := 9) rfl))) (notFace_of_selects (args := #[]) (mvT hZ (hw _ (List.mem_of_getElem? (i := 11) rfl)))) (mvT hZ (hw _ (List.mem_of_getElem? (i := 11) rfl))) (mvT hZ (hw _ (List.mem_of_getElem? (i := 10) rfl))) (by decide) (backOf (W := 0) (own_m2 l Z a0 hw [] w_EXACT w_SERVER_CHOICE w_EXACT w_NOT_EQUAL h0 n0 Z0 S_SERVER_CHOICE S_EXACT S_NOT_EQUAL) hZ (hw _ (List.mem_of_getElem? (i := 12) rfl)) (hw _ (List.mem_of_getElem? (i := 6) rfl)) (by decide) (by decide)) q56a q56c (g := (mkF m 14 #[.val (.int p1), .val (.int ((p1 &&& (2147483647 : Int32)) % (7 : Int32))), .val (.ref w_EXACT), .unset, .unset, .unset, .unset] [(.ref w_EXACT)])) rfl (by rw [hml]; rfl) (Steps.refl _) (argsL := []) (rest := []) (lenOf own_pd3 rfl) rfl (by show 2 * 0 + _ ≤ _; exact Nat.le_of_eq rfl) (hb hby at_14) (fun _ _ => ⟨rfl, e52, (by decide : 0 + 0 ≤ _), (by decide : 0 + 0 ≤ _)⟩)
      dsimp only [Pt.U, Pt.locs, Pt.cells, Pt.slots] at X56 l56 y56 z56 st56 hQ56
      subst l56 y56 z56
      rw [show own_f2 w_EXACT w_SERVER_CHOICE w_EXACT w_NOT_EQUAL = (0 : Int32) from by unfold own_f2; rw [if_neg (show ¬ (w_EXACT = w_SERVER_CHOICE) from (fun q => ne_SERVER_CHOICE_EXACT (Eq.symm q))), if_pos (show w_EXACT = w_EXACT from rfl)]] at hQ56
      obtain ⟨rfl, N56q, e56⟩ := hQ56
      have N56 := Fr.app N52 N56q
      have k57 : own_To p.tables e below (s₁.setTop (entryFrame m #[(.int p1)] maxLocals)) T56 (mkF m 17 #[.val (.int p1), .val (.int ((p1 &&& (2147483647 : Int32)) % (7 : Int32))), .val (.ref w_EXACT), .unset, .unset, .unset, .unset] [(.int (0 : Int32))]) := fun t k => k55 t (st56.trans k)
      have k58 : own_To p.tables e below (s₁.setTop (entryFrame m #[(.int p1)] maxLocals)) T56 (mkF m 18 #[.val (.int p1), .val (.int ((p1 &&& (2147483647 : Int32)) % (7 : Int32))), .val (.ref w_EXACT), .val (.int (0 : Int32)), .unset, .unset, .unset] []) := fun t k => k57 t (XS.istoreN X56.here hx rfl (hb hby at_17) rfl (l' := #[.val (.int p1), .val (.int ((p1 &&& (2147483647 : Int32)) % (7 : Int32))), .val (.ref w_EXACT), .val (.int (0 : Int32)), .unset, .unset, .unset]) rfl k)
      have k59 : own_To p.tables e below (s₁.setTop (entryFrame m #[(.int p1)] maxLocals)) T56 (mkF m 19 #[.val (.int p1), .val (.int ((p1 &&& (2147483647 : Int32)) % (7 : Int32))), .val (.ref w_EXACT), .val (.int (0 : Int32)), .unset, .unset, .unset] [(.int ((p1 &&& (2147483647 : Int32)) % (7 : Int32)))]) := fun t k => k58 t (XS.iloadN X56.here hx rfl (hb hby at_18) rfl k)
      have k60 : own_To p.tables e below (s₁.setTop (entryFrame m #[(.int p1)] maxLocals)) T56 (mkF m 20 #[.val (.int p1), .val (.int ((p1 &&& (2147483647 : Int32)) % (7 : Int32))), .val (.ref w_EXACT), .val (.int (0 : Int32)), .unset, .unset, .unset] [(.int (3 : Int32)), (.int ((p1 &&& (2147483647 : Int32)) % (7 : Int32)))]) := fun t k => k59 t (XS.iconst X56.here hx rfl (hb hby at_19) k)
      have k61 : own_To p.tables e below (s₁.setTop (entryFrame m #[(.int p1)] maxLocals)) T56 (mkF m 27 #[.val (.int p1), .val (.int ((p1 &&& (2147483647 : Int32)) % (7 : Int32))), .val (.ref w_EXACT), .val (.int (0 : Int32)), .unset, .unset, .unset] []) := fun t k => k60 t (XS.icmpYes X56.here hx rfl (pc0 := 20) (pc' := 27) rfl (hb hby at_20) rfl (tlt (show ((p1 &&& (2147483647 : Int32)) % (7 : Int32)) < (3 : Int32) from (by rw [hc51]; decide))).1 (by decide) (by decide) k)
      have k62 : own_To p.tables e below (s₁.setTop (entryFrame m #[(.int p1)] maxLocals)) T56 (mkF m 28 #[.val (.int p1), .val (.int ((p1 &&& (2147483647 : Int32)) % (7 : Int32))), .val (.ref w_EXACT), .val (.int (0 : Int32)), .unset, .unset, .unset] [(.int (0 : Int32))]) := fun t k => k61 t (XS.iconst X56.here hx rfl (hb hby at_27) k)
      have k63 : own_To p.tables e below (s₁.setTop (entryFrame m #[(.int p1)] maxLocals)) T56 (mkF m 30 #[.val (.int p1), .val (.int ((p1 &&& (2147483647 : Int32)) % (7 : Int32))), .val (.ref w_EXACT), .val (.int (0 : Int32)), .val (.int (0 : Int32)), .unset, .unset] []) := fun t k => k62 t (XS.istore X56.here hx rfl (hb hby at_28) rfl (l' := #[.val (.int p1), .val (.int ((p1 &&& (2147483647 : Int32)) % (7 : Int32))), .val (.ref w_EXACT), .val (.int (0 : Int32)), .val (.int (0 : Int32)), .unset, .unset]) rfl k)
      have k64 : own_To p.tables e below (s₁.setTop (entryFrame m #[(.int p1)] maxLocals)) T56 (mkF m 31 #[.val (.int p1), .val (.int ((p1 &&& (2147483647 : Int32)) % (7 : Int32))), .val (.ref w_EXACT), .val (.int (0 : Int32)), .val (.int (0 : Int32)), .unset, .unset] [(.ref w_EXACT)]) := fun t k => k63 t (XS.aloadN X56.here hx rfl (hb hby at_30) rfl rfl k)
      obtain ⟨cq65, kq65, q65a, q65b, q65c⟩ := isOf hZ e56 E_w_EXACT
      obtain ⟨_, _, ⟨T65, L65, k65, n65⟩, -, X65, hSq65, gr65, ⟨Lc65, hQ65, l65, y65, z65, CU65⟩, st65⟩ := Jvm.Stand.virtualBackS X56 hx (y := (⟨"com/example/grace_period/graceperiod/server/cql/CqlClause$Relation", "symbol", "()Ljava/lang/String;"⟩ : MethodName)) (z := (⟨"com/example/grace_period/graceperiod/server/cql/CqlClause$Relation", "symbol", "()Ljava/lang/String;"⟩ : MethodName)) hown (mvT hZ (hw _ (List.mem_of_getElem? (i := 14) rfl))) (mvT hZ (hw _ (List.mem_of_getElem? (i := 15) rfl))) (notFace_of_selects (args := #[]) (mvT hZ (hw _ (List.mem_of_getElem? (i := 17) rfl)))) (mvT hZ (hw _ (List.mem_of_getElem? (i := 17) rfl))) (mvT hZ (hw _ (List.mem_of_getElem? (i := 16) rfl))) (by decide) (backOfSH (W := 0) (own_m3_EXACT l Z a0 hw [] w_EXACT h0 n0 Z0 F_ordinal_w_EXACT E_w_EXACT) hZ (hw _ (List.mem_of_getElem? (i := 18) rfl)) (hw _ (List.mem_of_getElem? (i := 6) rfl)) (by decide) (by decide) (own_EW hw) CH0) q65a q65c (g := (mkF m 31 #[.val (.int p1), .val (.int ((p1 &&& (2147483647 : Int32)) % (7 : Int32))), .val (.ref w_EXACT), .val (.int (0 : Int32)), .val (.int (0 : Int32)), .unset, .unset] [(.ref w_EXACT)])) rfl (by rw [hml]; rfl) (Steps.refl _) (argsL := []) (rest := []) (lenOf own_pd8 rfl) rfl (by show 2 * 0 + _ ≤ _; exact Nat.le_of_eq rfl) (hb hby at_31) (fun _ _ => ⟨rfl, e56, (by decide : 0 + 2 ≤ _), (by decide : 0 + 12 ≤ _)⟩)
      dsimp only [Pt.U, Pt.locs, Pt.cells, Pt.slots] at X65 l65 y65 z65 st65 hQ65 hSq65 gr65 CU65
      subst l65 y65 z65
      obtain ⟨X65, hS65, hZ, hown⟩ := rebS hS0 (by rw [e56]; exact hk0) X65 hSq65 gr65 hZ hown
      obtain ⟨h65, e65⟩ : ∃ z, T65.heap = z := ⟨_, rfl⟩
      rw [e65] at hQ65 CU65 hS65
      have hk65 : h65.size ≤ h65.size := Nat.le_refl _
      have CR65 := CR0.trans CU65
      have CH65 := CU65.1
      obtain ⟨a65, bs65, kc65, rfl, N65q, KC65, EX65, FC65, FV65, AV65⟩ := hQ65
      have KK65 : Keep h0 h65 [] := (Keep.refl h0 []).trans KC65 all0
      have Z65 : n0 ≤ h65.size := Nat.le_trans Z0 KC65.1
      have N65 := Fr.app N56 N65q
      have k66 : own_To p.tables e below (s₁.setTop (entryFrame m #[(.int p1)] maxLocals)) T65 (mkF m 34 #[.val (.int p1), .val (.int ((p1 &&& (2147483647 : Int32)) % (7 : Int32))), .val (.ref w_EXACT), .val (.int (0 : Int32)), .val (.int (0 : Int32)), .unset, .unset] [(.ref a65)]) := fun t k => k64 t (st65.trans k)
      have k67 : own_To p.tables e below (s₁.setTop (entryFrame m #[(.int p1)] maxLocals)) T65 (mkF m 36 #[.val (.int p1), .val (.int ((p1 &&& (2147483647 : Int32)) % (7 : Int32))), .val (.ref w_EXACT), .val (.int (0 : Int32)), .val (.int (0 : Int32)), .val (.ref a65), .unset] []) := fun t k => k66 t (XS.astore X65.here hx rfl (hb hby at_34) rfl rfl (l' := #[.val (.int p1), .val (.int ((p1 &&& (2147483647 : Int32)) % (7 : Int32))), .val (.ref w_EXACT), .val (.int (0 : Int32)), .val (.int (0 : Int32)), .val (.ref a65), .unset]) rfl k)
      have k68 : own_To p.tables e below (s₁.setTop (entryFrame m #[(.int p1)] maxLocals)) T65 (mkF m 38 #[.val (.int p1), .val (.int ((p1 &&& (2147483647 : Int32)) % (7 : Int32))), .val (.ref w_EXACT), .val (.int (0 : Int32)), .val (.int (0 : Int32)), .val (.ref a65), .unset] [(.ref a65)]) := fun t k => k67 t (XS.aload X65.here hx rfl (hb hby at_36) rfl rfl k)
      obtain ⟨cq69, kq69, q69a, q69b, q69c⟩ := isOf hZ e65 EX65
      obtain ⟨_, _, ⟨T69, L69, k69, n69⟩, -, X69, ⟨Lc69, hQ69, l69, y69, z69⟩, st69⟩ := X65.virtualBack hx (y := (⟨"java/lang/String", "length", "()I"⟩ : MethodName)) (z := (⟨"java/lang/String", "length", "()I"⟩ : MethodName)) hown (mvT hZ (hw _ (List.mem_of_getElem? (i := 36) rfl))) (mvT hZ (hw _ (List.mem_of_getElem? (i := 37) rfl))) (notFace_of_selects (args := #[]) (mvT hZ (hw _ (List.mem_of_getElem? (i := 39) rfl)))) (mvT hZ (hw _ (List.mem_of_getElem? (i := 39) rfl))) (mvT hZ (hw _ (List.mem_of_getElem? (i := 38) rfl))) (by decide) (backOf (W := 0) (own_m5_t1 l Z a0 hw [] a65 bs65 kc65 w_COMPACT_STRINGS h65 n0 Z65 FV65 AV65 (own_sta_keep S_COMPACT_STRINGS KC65 all0) FC65 EX65 hz) hZ (hw _ (List.mem_of_getElem? (i := 40) rfl)) (hw _ (List.mem_of_getElem? (i := 29) rfl)) (by decide) (by decide)) q69a q69c (g := (mkF m 38 #[.val (.int p1), .val (.int ((p1 &&& (2147483647 : Int32)) % (7 : Int32))), .val (.ref w_EXACT), .val (.int (0 : Int32)), .val (.int (0 : Int32)), .val (.ref a65), .unset] [(.ref a65)])) rfl (by rw [hml]; rfl) (Steps.refl _) (argsL := []) (rest := []) (lenOf own_pd6 rfl) rfl (by show 2 * 0 + _ ≤ _; exact Nat.le_of_eq rfl) (hb hby at_38) (fun _ _ => ⟨rfl, e65, (by decide : 2 + 0 ≤ _), (by decide : 12 + 0 ≤ _)⟩)
      dsimp only [Pt.U, Pt.locs, Pt.cells, Pt.slots] at X69 l69 y69 z69 st69 hQ69
      subst l69 y69 z69
      rw [show own_f5_t1 = (2 : Int32) from rfl] at hQ69
      obtain ⟨rfl, N69q, e69⟩ := hQ69
      have N69 := Fr.app N65 N69q
      have k70 : own_To p.tables e below (s₁.setTop (entryFrame m #[(.int p1)] maxLocals)) T69 (mkF m 41 #[.val (.int p1), .val (.int ((p1 &&& (2147483647 : Int32)) % (7 : Int32))), .val (.ref w_EXACT), .val (.int (0 : Int32)), .val (.int (0 : Int32)), .val (.ref a65), .unset] [(.int (2 : Int32))]) := fun t k => k68 t (st69.trans k)
      have k71 : own_To p.tables e below (s₁.setTop (entryFrame m #[(.int p1)] maxLocals)) T69 (mkF m 44 #[.val (.int p1), .val (.int ((p1 &&& (2147483647 : Int32)) % (7 : Int32))), .val (.ref w_EXACT), .val (.int (0 : Int32)), .val (.int (0 : Int32)), .val (.ref a65), .unset] []) := fun t k => k70 t (XS.ifNo X69.here hx rfl (hb hby at_41) rfl ((if0 _ _).trans (tlt (show (0 : Int32) < (2 : Int32) from (by decide))).2.2.2) k)
      have k72 : own_To p.tables e below (s₁.setTop (entryFrame m #[(.int p1)] maxLocals)) T69 (mkF m 46 #[.val (.int p1), .val (.int ((p1 &&& (2147483647 : Int32)) % (7 : Int32))), .val (.ref w_EXACT), .val (.int (0 : Int32)), .val (.int (0 : Int32)), .val (.ref a65), .unset] [(.ref a65)]) := fun t k => k71 t (XS.aload X69.here hx rfl (hb hby at_44) rfl rfl k)
      have k73 : own_To p.tables e below (s₁.setTop (entryFrame m #[(.int p1)] maxLocals)) T69 (mkF m 47 #[.val (.int p1), .val (.int ((p1 &&& (2147483647 : Int32)) % (7 : Int32))), .val (.ref w_EXACT), .val (.int (0 : Int32)), .val (.int (0 : Int32)), .val (.ref a65), .unset] [(.int (0 : Int32)), (.ref a65)]) := fun t k => k72 t (XS.iconst X69.here hx rfl (hb hby at_46) k)
      obtain ⟨cq74, kq74, q74a, q74b, q74c⟩ := isOf hZ e69 EX65
      obtain ⟨_, _, ⟨T74, L74, k74, n74⟩, -, X74, ⟨Lc74, hQ74, l74, y74, z74⟩, st74⟩ := X69.virtualBack hx (y := (⟨"java/lang/String", "charAt", "(I)C"⟩ : MethodName)) (z := (⟨"java/lang/String", "charAt", "(I)C"⟩ : MethodName)) hown (mvT hZ (hw _ (List.mem_of_getElem? (i := 49) rfl))) (mvT hZ (hw _ (List.mem_of_getElem? (i := 50) rfl))) (notFace_of_selects (args := #[]) (mvT hZ (hw _ (List.mem_of_getElem? (i := 52) rfl)))) (mvT hZ (hw _ (List.mem_of_getElem? (i := 52) rfl))) (mvT hZ (hw _ (List.mem_of_getElem? (i := 51) rfl))) (by decide) (backOf (W := 0) (own_m7_t1 l Z a0 hw [] a65 w_COMPACT_STRINGS bs65 kc65 w_SIOOBE_FORMATTER h65 n0 Z65 (own_sta_keep S_COMPACT_STRINGS KC65 all0) FC65 EX65 FV65 AV65 (own_sta_keep S_SIOOBE_FORMATTER KC65 all0) hz hrS) hZ (hw _ (List.mem_of_getElem? (i := 53) rfl)) (hw _ (List.mem_of_getElem? (i := 29) rfl)) (by decide) (by decide)) q74a q74c (g := (mkF m 47 #[.val (.int p1), .val (.int ((p1 &&& (2147483647 : Int32)) % (7 : Int32))), .val (.ref w_EXACT), .val (.int (0 : Int32)), .val (.int (0 : Int32)), .val (.ref a65), .unset] [(.int (0 : Int32)), (.ref a65)])) rfl (by rw [hml]; rfl) (Steps.refl _) (argsL := [(.int (0 : Int32))]) (rest := []) (lenOf own_pd9 rfl) rfl (by show 2 * 0 + _ ≤ _; exact Nat.le_of_eq rfl) (hb hby at_47) (fun _ _ => ⟨rfl, e69, (by decide : 2 + 0 ≤ _), (by decide : 12 + 0 ≤ _)⟩)
      dsimp only [Pt.U, Pt.locs, Pt.cells, Pt.slots] at X74 l74 y74 z74 st74 hQ74
      subst l74 y74 z74
      rw [show own_f7_t1 = (61 : Int32) from rfl] at hQ74
      obtain ⟨rfl, N74q, e74⟩ := hQ74
      have N74 := Fr.app N69 N74q
      have k75 : own_To p.tables e below (s₁.setTop (entryFrame m #[(.int p1)] maxLocals)) T74 (mkF m 50 #[.val (.int p1), .val (.int ((p1 &&& (2147483647 : Int32)) % (7 : Int32))), .val (.ref w_EXACT), .val (.int (0 : Int32)), .val (.int (0 : Int32)), .val (.ref a65), .unset] [(.int (61 : Int32))]) := fun t k => k73 t (st74.trans k)
      have k76 : own_To p.tables e below (s₁.setTop (entryFrame m #[(.int p1)] maxLocals)) T74 (mkF m 52 #[.val (.int p1), .val (.int ((p1 &&& (2147483647 : Int32)) % (7 : Int32))), .val (.ref w_EXACT), .val (.int (0 : Int32)), .val (.int (0 : Int32)), .val (.ref a65), .unset] [(.int (60 : Int32)), (.int (61 : Int32))]) := fun t k => k75 t (XS.bipush X74.here hx rfl (hb hby at_50) k)
      have k77 : own_To p.tables e below (s₁.setTop (entryFrame m #[(.int p1)] maxLocals)) T74 (mkF m 55 #[.val (.int p1), .val (.int ((p1 &&& (2147483647 : Int32)) % (7 : Int32))), .val (.ref w_EXACT), .val (.int (0 : Int32)), .val (.int (0 : Int32)), .val (.ref a65), .unset] []) := fun t k => k76 t (XS.icmpNo X74.here hx rfl (hb hby at_52) rfl (feq (show ¬ ((61 : Int32) = (60 : Int32)) from (by decide))).1 k)
      have k78 : own_To p.tables e below (s₁.setTop (entryFrame m #[(.int p1)] maxLocals)) T74 (mkF m 57 #[.val (.int p1), .val (.int ((p1 &&& (2147483647 : Int32)) % (7 : Int32))), .val (.ref w_EXACT), .val (.int (0 : Int32)), .val (.int (0 : Int32)), .val (.ref a65), .unset] [(.ref a65)]) := fun t k => k77 t (XS.aload X74.here hx rfl (hb hby at_55) rfl rfl k)
      have k79 : own_To p.tables e below (s₁.setTop (entryFrame m #[(.int p1)] maxLocals)) T74 (mkF m 58 #[.val (.int p1), .val (.int ((p1 &&& (2147483647 : Int32)) % (7 : Int32))), .val (.ref w_EXACT), .val (.int (0 : Int32)), .val (.int (0 : Int32)), .val (.ref a65), .unset] [(.int (0 : Int32)), (.ref a65)]) := fun t k => k78 t (XS.iconst X74.here hx rfl (hb hby at_57) k)
      obtain ⟨cq80, kq80, q80a, q80b, q80c⟩ := isOf hZ e74 EX65
      obtain ⟨_, _, ⟨T80, L80, k80, n80⟩, -, X80, ⟨Lc80, hQ80, l80, y80, z80⟩, st80⟩ := X74.virtualBack hx (y := (⟨"java/lang/String", "charAt", "(I)C"⟩ : MethodName)) (z := (⟨"java/lang/String", "charAt", "(I)C"⟩ : MethodName)) hown (mvT hZ (hw _ (List.mem_of_getElem? (i := 49) rfl))) (mvT hZ (hw _ (List.mem_of_getElem? (i := 50) rfl))) (notFace_of_selects (args := #[]) (mvT hZ (hw _ (List.mem_of_getElem? (i := 52) rfl)))) (mvT hZ (hw _ (List.mem_of_getElem? (i := 52) rfl))) (mvT hZ (hw _ (List.mem_of_getElem? (i := 51) rfl))) (by decide) (backOf (W := 0) (own_m7_t1 l Z a0 hw [] a65 w_COMPACT_STRINGS bs65 kc65 w_SIOOBE_FORMATTER h65 n0 Z65 (own_sta_keep S_COMPACT_STRINGS KC65 all0) FC65 EX65 FV65 AV65 (own_sta_keep S_SIOOBE_FORMATTER KC65 all0) hz hrS) hZ (hw _ (List.mem_of_getElem? (i := 53) rfl)) (hw _ (List.mem_of_getElem? (i := 29) rfl)) (by decide) (by decide)) q80a q80c (g := (mkF m 58 #[.val (.int p1), .val (.int ((p1 &&& (2147483647 : Int32)) % (7 : Int32))), .val (.ref w_EXACT), .val (.int (0 : Int32)), .val (.int (0 : Int32)), .val (.ref a65), .unset] [(.int (0 : Int32)), (.ref a65)])) rfl (by rw [hml]; rfl) (Steps.refl _) (argsL := [(.int (0 : Int32))]) (rest := []) (lenOf own_pd9 rfl) rfl (by show 2 * 0 + _ ≤ _; exact Nat.le_of_eq rfl) (hb hby at_58) (fun _ _ => ⟨rfl, e74, (by decide : 2 + 0 ≤ _), (by decide : 12 + 0 ≤ _)⟩)
      dsimp only [Pt.U, Pt.locs, Pt.cells, Pt.slots] at X80 l80 y80 z80 st80 hQ80
      subst l80 y80 z80
      rw [show own_f7_t1 = (61 : Int32) from rfl] at hQ80
      obtain ⟨rfl, N80q, e80⟩ := hQ80
      have N80 := Fr.app N74 N80q
      have k81 : own_To p.tables e below (s₁.setTop (entryFrame m #[(.int p1)] maxLocals)) T80 (mkF m 61 #[.val (.int p1), .val (.int ((p1 &&& (2147483647 : Int32)) % (7 : Int32))), .val (.ref w_EXACT), .val (.int (0 : Int32)), .val (.int (0 : Int32)), .val (.ref a65), .unset] [(.int (61 : Int32))]) := fun t k => k79 t (st80.trans k)
      have k82 : own_To p.tables e below (s₁.setTop (entryFrame m #[(.int p1)] maxLocals)) T80 (mkF m 63 #[.val (.int p1), .val (.int ((p1 &&& (2147483647 : Int32)) % (7 : Int32))), .val (.ref w_EXACT), .val (.int (0 : Int32)), .val (.int (0 : Int32)), .val (.ref a65), .unset] [(.int (62 : Int32)), (.int (61 : Int32))]) := fun t k => k81 t (XS.bipush X80.here hx rfl (hb hby at_61) k)
      have k83 : own_To p.tables e below (s₁.setTop (entryFrame m #[(.int p1)] maxLocals)) T80 (mkF m 80 #[.val (.int p1), .val (.int ((p1 &&& (2147483647 : Int32)) % (7 : Int32))), .val (.ref w_EXACT), .val (.int (0 : Int32)), .val (.int (0 : Int32)), .val (.ref a65), .unset] []) := fun t k => k82 t (XS.icmpYes X80.here hx rfl (pc0 := 63) (pc' := 80) rfl (hb hby at_63) rfl (feq (show ¬ ((61 : Int32) = (62 : Int32)) from (by decide))).2 (by decide) (by decide) k)
      have k84 : own_To p.tables e below (s₁.setTop (entryFrame m #[(.int p1)] maxLocals)) T80 (mkF m 81 #[.val (.int p1), .val (.int ((p1 &&& (2147483647 : Int32)) % (7 : Int32))), .val (.ref w_EXACT), .val (.int (0 : Int32)), .val (.int (0 : Int32)), .val (.ref a65), .unset] [(.int (0 : Int32))]) := fun t k => k83 t (XS.iconst X80.here hx rfl (hb hby at_80) k)
      have k85 : own_To p.tables e below (s₁.setTop (entryFrame m #[(.int p1)] maxLocals)) T80 (mkF m 83 #[.val (.int p1), .val (.int ((p1 &&& (2147483647 : Int32)) % (7 : Int32))), .val (.ref w_EXACT), .val (.int (0 : Int32)), .val (.int (0 : Int32)), .val (.ref a65), .val (.int (0 : Int32))] []) := fun t k => k84 t (XS.istore X80.here hx rfl (hb hby at_81) rfl (l' := #[.val (.int p1), .val (.int ((p1 &&& (2147483647 : Int32)) % (7 : Int32))), .val (.ref w_EXACT), .val (.int (0 : Int32)), .val (.int (0 : Int32)), .val (.ref a65), .val (.int (0 : Int32))]) rfl k)
      have k86 : own_To p.tables e below (s₁.setTop (entryFrame m #[(.int p1)] maxLocals)) T80 (mkF m 84 #[.val (.int p1), .val (.int ((p1 &&& (2147483647 : Int32)) % (7 : Int32))), .val (.ref w_EXACT), .val (.int (0 : Int32)), .val (.int (0 : Int32)), .val (.ref a65), .val (.int (0 : Int32))] [(.int (0 : Int32))]) := fun t k => k85 t (XS.iloadN X80.here hx rfl (hb hby at_83) rfl k)
      have k87 : own_To p.tables e below (s₁.setTop (entryFrame m #[(.int p1)] maxLocals)) T80 (mkF m 86 #[.val (.int p1), .val (.int ((p1 &&& (2147483647 : Int32)) % (7 : Int32))), .val (.ref w_EXACT), .val (.int (0 : Int32)), .val (.int (0 : Int32)), .val (.ref a65), .val (.int (0 : Int32))] [(.int (0 : Int32)), (.int (0 : Int32))]) := fun t k => k86 t (XS.iload X80.here hx rfl (hb hby at_84) rfl k)
      have k88 : own_To p.tables e below (s₁.setTop (entryFrame m #[(.int p1)] maxLocals)) T80 (mkF m 89 #[.val (.int p1), .val (.int ((p1 &&& (2147483647 : Int32)) % (7 : Int32))), .val (.ref w_EXACT), .val (.int (0 : Int32)), .val (.int (0 : Int32)), .val (.ref a65), .val (.int (0 : Int32))] []) := fun t k => k87 t (XS.icmpNo X80.here hx rfl (hb hby at_86) rfl (teq (show (0 : Int32) = (0 : Int32) from (by decide))).2 k)
      have k89 : own_To p.tables e below (s₁.setTop (entryFrame m #[(.int p1)] maxLocals)) T80 (mkF m 90 #[.val (.int p1), .val (.int ((p1 &&& (2147483647 : Int32)) % (7 : Int32))), .val (.ref w_EXACT), .val (.int (0 : Int32)), .val (.int (0 : Int32)), .val (.ref a65), .val (.int (0 : Int32))] [(.int (0 : Int32))]) := fun t k => k88 t (XS.iloadN X80.here hx rfl (hb hby at_89) rfl k)
      have k90 : own_To p.tables e below (s₁.setTop (entryFrame m #[(.int p1)] maxLocals)) T80 (mkF m 92 #[.val (.int p1), .val (.int ((p1 &&& (2147483647 : Int32)) % (7 : Int32))), .val (.ref w_EXACT), .val (.int (0 : Int32)), .val (.int (0 : Int32)), .val (.ref a65), .val (.int (0 : Int32))] [(.int (0 : Int32)), (.int (0 : Int32))]) := fun t k => k89 t (XS.iload X80.here hx rfl (hb hby at_90) rfl k)
      have k91 : own_To p.tables e below (s₁.setTop (entryFrame m #[(.int p1)] maxLocals)) T80 (mkF m 95 #[.val (.int p1), .val (.int ((p1 &&& (2147483647 : Int32)) % (7 : Int32))), .val (.ref w_EXACT), .val (.int (0 : Int32)), .val (.int (0 : Int32)), .val (.ref a65), .val (.int (0 : Int32))] []) := fun t k => k90 t (XS.icmpNo X80.here hx rfl (hb hby at_92) rfl (teq (show (0 : Int32) = (0 : Int32) from (by decide))).2 k)
      have k92 : own_To p.tables e below (s₁.setTop (entryFrame m #[(.int p1)] maxLocals)) T80 (mkF m 96 #[.val (.int p1), .val (.int ((p1 &&& (2147483647 : Int32)) % (7 : Int32))), .val (.ref w_EXACT), .val (.int (0 : Int32)), .val (.int (0 : Int32)), .val (.ref a65), .val (.int (0 : Int32))] [(.int (1 : Int32))]) := fun t k => k91 t (XS.iconst X80.here hx rfl (hb hby at_95) k)
      have k93 : own_To p.tables e below (s₁.setTop (entryFrame m #[(.int p1)] maxLocals)) T80 (mkF m 100 #[.val (.int p1), .val (.int ((p1 &&& (2147483647 : Int32)) % (7 : Int32))), .val (.ref w_EXACT), .val (.int (0 : Int32)), .val (.int (0 : Int32)), .val (.ref a65), .val (.int (0 : Int32))] [(.int (1 : Int32))]) := fun t k => k92 t (XS.goto X80.here hx rfl (pc0 := 96) (pc' := 100) rfl (hb hby at_96) (by decide) (by decide) k)
      obtain ⟨fs, hr, hrun, hended, hEnd⟩ := X80.leaveW hS65 (by rw [e80]; exact hk65) (v := some (.int (1 : Int32))) (fun h => by rw [Bd.returns] at h; cases h)
      have hChr := CR65.trans (CHv.at X80 hZ (own_EW hw) CH65)
      refine ⟨_, _, k93 _ ?_, hrun, hended, _, _, rfl, ?_, ?_, own_monoW hEnd (by decide) (by decide)⟩
      · exact retN X80 hx (t := .boolean) Bd.returns (by simp) (hb hby at_100) hr
      · show own_Q0 n0 _ _
        exact ⟨rfl, N80⟩
      · rw [hh]; show CHr Z consts_1 s.vm h0 T80.vm T80.heap; rw [e80]; exact hChr
    · by_cases hc94 : ((p1 &&& (2147483647 : Int32)) % (7 : Int32)) = (2 : Int32)
      · obtain ⟨_, _, ⟨T95, L95, k95, n95⟩, -, X95, ⟨Lc95, hQ95, l95, y95, z95⟩, st95⟩ := Jvm.LawKit.callS X0 hx (y := (⟨"com/example/grace_period/graceperiod/server/cql/RelationIsOrderingPinLaw", "pick", "(I)Lcom/example/grace_period/graceperiod/server/cql/CqlClause$Relation;"⟩ : MethodName)) hown (mvT hZ (hw _ (List.mem_of_getElem? (i := 1) rfl))) (mvT hZ (hw _ (List.mem_of_getElem? (i := 2) rfl))) (mvT hZ (hw _ (List.mem_of_getElem? (i := 3) rfl))) (mvT hZ (hw _ (List.mem_of_getElem? (i := 4) rfl))) (by decide) (backOf (W := 0) (own_m1 l Z a0 hw [] ((p1 &&& (2147483647 : Int32)) % (7 : Int32)) w_SERVER_CHOICE w_EXACT w_NOT_EQUAL w_LESS w_LESS_OR_EQUAL w_GREATER w_GREATER_OR_EQUAL h0 n0 Z0 S_SERVER_CHOICE S_EXACT S_NOT_EQUAL S_LESS S_LESS_OR_EQUAL S_GREATER S_GREATER_OR_EQUAL) hZ (hw _ (List.mem_of_getElem? (i := 4) rfl)) (hw _ (List.mem_of_getElem? (i := 3) rfl)) (by decide) (by decide)) (g := (mkF m 9 #[.val (.int p1), .val (.int ((p1 &&& (2147483647 : Int32)) % (7 : Int32))), .unset, .unset, .unset, .unset, .unset] [(.int ((p1 &&& (2147483647 : Int32)) % (7 : Int32)))])) rfl (by rw [hml]; rfl) (argsL := [(.int ((p1 &&& (2147483647 : Int32)) % (7 : Int32)))]) (rest := []) (lenOf own_pd7 rfl) rfl (by show 2 * 0 + _ ≤ _; exact Nat.le_of_eq rfl) (hb hby at_9) (fun _ _ => ⟨rfl, e0, (by decide : 0 + 0 ≤ _), (by decide : 0 + 0 ≤ _)⟩)
        dsimp only [Pt.U, Pt.locs, Pt.cells, Pt.slots] at X95 l95 y95 z95 st95 hQ95
        subst l95 y95 z95
        rw [show own_f1 ((p1 &&& (2147483647 : Int32)) % (7 : Int32)) w_SERVER_CHOICE w_EXACT w_NOT_EQUAL w_LESS w_LESS_OR_EQUAL w_GREATER w_GREATER_OR_EQUAL = w_NOT_EQUAL from by unfold own_f1; rw [if_neg (show ¬ (((p1 &&& (2147483647 : Int32)) % (7 : Int32)) = (0 : Int32)) from hc8), if_neg (show ¬ (((p1 &&& (2147483647 : Int32)) % (7 : Int32)) = (1 : Int32)) from hc51), if_pos (show ((p1 &&& (2147483647 : Int32)) % (7 : Int32)) = (2 : Int32) from hc94)]] at hQ95
        obtain ⟨rfl, N95q, e95⟩ := hQ95
        have N95 := Fr.app N0 N95q
        have k96 : own_To p.tables e below (s₁.setTop (entryFrame m #[(.int p1)] maxLocals)) T95 (mkF m 12 #[.val (.int p1), .val (.int ((p1 &&& (2147483647 : Int32)) % (7 : Int32))), .unset, .unset, .unset, .unset, .unset] [(.ref w_NOT_EQUAL)]) := fun t k => k7 t (st95 t k)
        have k97 : own_To p.tables e below (s₁.setTop (entryFrame m #[(.int p1)] maxLocals)) T95 (mkF m 13 #[.val (.int p1), .val (.int ((p1 &&& (2147483647 : Int32)) % (7 : Int32))), .val (.ref w_NOT_EQUAL), .unset, .unset, .unset, .unset] []) := fun t k => k96 t (XS.astoreN X95.here hx rfl (hb hby at_12) rfl rfl (l' := #[.val (.int p1), .val (.int ((p1 &&& (2147483647 : Int32)) % (7 : Int32))), .val (.ref w_NOT_EQUAL), .unset, .unset, .unset, .unset]) rfl k)
        have k98 : own_To p.tables e below (s₁.setTop (entryFrame m #[(.int p1)] maxLocals)) T95 (mkF m 14 #[.val (.int p1), .val (.int ((p1 &&& (2147483647 : Int32)) % (7 : Int32))), .val (.ref w_NOT_EQUAL), .unset, .unset, .unset, .unset] [(.ref w_NOT_EQUAL)]) := fun t k => k97 t (XS.aloadN X95.here hx rfl (hb hby at_13) rfl rfl k)
        obtain ⟨cq99, kq99, q99a, q99b, q99c⟩ := isOf hZ e95 E_w_NOT_EQUAL
        obtain ⟨_, _, ⟨T99, L99, k99, n99⟩, -, X99, ⟨Lc99, hQ99, l99, y99, z99⟩, st99⟩ := X95.virtualBack hx (y := (⟨"com/example/grace_period/graceperiod/server/cql/CqlClause$Relation", "isOrdering", "()Z"⟩ : MethodName)) (z := (⟨"com/example/grace_period/graceperiod/server/cql/CqlClause$Relation", "isOrdering", "()Z"⟩ : MethodName)) hown (mvT hZ (hw _ (List.mem_of_getElem? (i := 8) rfl))) (mvT hZ (hw _ (List.mem_of_getElem? (i := 9) rfl))) (notFace_of_selects (args := #[]) (mvT hZ (hw _ (List.mem_of_getElem? (i := 11) rfl)))) (mvT hZ (hw _ (List.mem_of_getElem? (i := 11) rfl))) (mvT hZ (hw _ (List.mem_of_getElem? (i := 10) rfl))) (by decide) (backOf (W := 0) (own_m2 l Z a0 hw [] w_NOT_EQUAL w_SERVER_CHOICE w_EXACT w_NOT_EQUAL h0 n0 Z0 S_SERVER_CHOICE S_EXACT S_NOT_EQUAL) hZ (hw _ (List.mem_of_getElem? (i := 12) rfl)) (hw _ (List.mem_of_getElem? (i := 6) rfl)) (by decide) (by decide)) q99a q99c (g := (mkF m 14 #[.val (.int p1), .val (.int ((p1 &&& (2147483647 : Int32)) % (7 : Int32))), .val (.ref w_NOT_EQUAL), .unset, .unset, .unset, .unset] [(.ref w_NOT_EQUAL)])) rfl (by rw [hml]; rfl) (Steps.refl _) (argsL := []) (rest := []) (lenOf own_pd3 rfl) rfl (by show 2 * 0 + _ ≤ _; exact Nat.le_of_eq rfl) (hb hby at_14) (fun _ _ => ⟨rfl, e95, (by decide : 0 + 0 ≤ _), (by decide : 0 + 0 ≤ _)⟩)
        dsimp only [Pt.U, Pt.locs, Pt.cells, Pt.slots] at X99 l99 y99 z99 st99 hQ99
        subst l99 y99 z99
        rw [show own_f2 w_NOT_EQUAL w_SERVER_CHOICE w_EXACT w_NOT_EQUAL = (0 : Int32) from by unfold own_f2; rw [if_neg (show ¬ (w_NOT_EQUAL = w_SERVER_CHOICE) from (fun q => ne_SERVER_CHOICE_NOT_EQUAL (Eq.symm q))), if_neg (show ¬ (w_NOT_EQUAL = w_EXACT) from (fun q => ne_EXACT_NOT_EQUAL (Eq.symm q))), if_pos (show w_NOT_EQUAL = w_NOT_EQUAL from rfl)]] at hQ99
        obtain ⟨rfl, N99q, e99⟩ := hQ99
        have N99 := Fr.app N95 N99q
        have k100 : own_To p.tables e below (s₁.setTop (entryFrame m #[(.int p1)] maxLocals)) T99 (mkF m 17 #[.val (.int p1), .val (.int ((p1 &&& (2147483647 : Int32)) % (7 : Int32))), .val (.ref w_NOT_EQUAL), .unset, .unset, .unset, .unset] [(.int (0 : Int32))]) := fun t k => k98 t (st99.trans k)
        have k101 : own_To p.tables e below (s₁.setTop (entryFrame m #[(.int p1)] maxLocals)) T99 (mkF m 18 #[.val (.int p1), .val (.int ((p1 &&& (2147483647 : Int32)) % (7 : Int32))), .val (.ref w_NOT_EQUAL), .val (.int (0 : Int32)), .unset, .unset, .unset] []) := fun t k => k100 t (XS.istoreN X99.here hx rfl (hb hby at_17) rfl (l' := #[.val (.int p1), .val (.int ((p1 &&& (2147483647 : Int32)) % (7 : Int32))), .val (.ref w_NOT_EQUAL), .val (.int (0 : Int32)), .unset, .unset, .unset]) rfl k)
        have k102 : own_To p.tables e below (s₁.setTop (entryFrame m #[(.int p1)] maxLocals)) T99 (mkF m 19 #[.val (.int p1), .val (.int ((p1 &&& (2147483647 : Int32)) % (7 : Int32))), .val (.ref w_NOT_EQUAL), .val (.int (0 : Int32)), .unset, .unset, .unset] [(.int ((p1 &&& (2147483647 : Int32)) % (7 : Int32)))]) := fun t k => k101 t (XS.iloadN X99.here hx rfl (hb hby at_18) rfl k)
        have k103 : own_To p.tables e below (s₁.setTop (entryFrame m #[(.int p1)] maxLocals)) T99 (mkF m 20 #[.val (.int p1), .val (.int ((p1 &&& (2147483647 : Int32)) % (7 : Int32))), .val (.ref w_NOT_EQUAL), .val (.int (0 : Int32)), .unset, .unset, .unset] [(.int (3 : Int32)), (.int ((p1 &&& (2147483647 : Int32)) % (7 : Int32)))]) := fun t k => k102 t (XS.iconst X99.here hx rfl (hb hby at_19) k)
        have k104 : own_To p.tables e below (s₁.setTop (entryFrame m #[(.int p1)] maxLocals)) T99 (mkF m 27 #[.val (.int p1), .val (.int ((p1 &&& (2147483647 : Int32)) % (7 : Int32))), .val (.ref w_NOT_EQUAL), .val (.int (0 : Int32)), .unset, .unset, .unset] []) := fun t k => k103 t (XS.icmpYes X99.here hx rfl (pc0 := 20) (pc' := 27) rfl (hb hby at_20) rfl (tlt (show ((p1 &&& (2147483647 : Int32)) % (7 : Int32)) < (3 : Int32) from (by rw [hc94]; decide))).1 (by decide) (by decide) k)
        have k105 : own_To p.tables e below (s₁.setTop (entryFrame m #[(.int p1)] maxLocals)) T99 (mkF m 28 #[.val (.int p1), .val (.int ((p1 &&& (2147483647 : Int32)) % (7 : Int32))), .val (.ref w_NOT_EQUAL), .val (.int (0 : Int32)), .unset, .unset, .unset] [(.int (0 : Int32))]) := fun t k => k104 t (XS.iconst X99.here hx rfl (hb hby at_27) k)
        have k106 : own_To p.tables e below (s₁.setTop (entryFrame m #[(.int p1)] maxLocals)) T99 (mkF m 30 #[.val (.int p1), .val (.int ((p1 &&& (2147483647 : Int32)) % (7 : Int32))), .val (.ref w_NOT_EQUAL), .val (.int (0 : Int32)), .val (.int (0 : Int32)), .unset, .unset] []) := fun t k => k105 t (XS.istore X99.here hx rfl (hb hby at_28) rfl (l' := #[.val (.int p1), .val (.int ((p1 &&& (2147483647 : Int32)) % (7 : Int32))), .val (.ref w_NOT_EQUAL), .val (.int (0 : Int32)), .val (.int (0 : Int32)), .unset, .unset]) rfl k)
        have k107 : own_To p.tables e below (s₁.setTop (entryFrame m #[(.int p1)] maxLocals)) T99 (mkF m 31 #[.val (.int p1), .val (.int ((p1 &&& (2147483647 : Int32)) % (7 : Int32))), .val (.ref w_NOT_EQUAL), .val (.int (0 : Int32)), .val (.int (0 : Int32)), .unset, .unset] [(.ref w_NOT_EQUAL)]) := fun t k => k106 t (XS.aloadN X99.here hx rfl (hb hby at_30) rfl rfl k)
        obtain ⟨cq108, kq108, q108a, q108b, q108c⟩ := isOf hZ e99 E_w_NOT_EQUAL
        obtain ⟨_, _, ⟨T108, L108, k108, n108⟩, -, X108, hSq108, gr108, ⟨Lc108, hQ108, l108, y108, z108, CU108⟩, st108⟩ := Jvm.Stand.virtualBackS X99 hx (y := (⟨"com/example/grace_period/graceperiod/server/cql/CqlClause$Relation", "symbol", "()Ljava/lang/String;"⟩ : MethodName)) (z := (⟨"com/example/grace_period/graceperiod/server/cql/CqlClause$Relation", "symbol", "()Ljava/lang/String;"⟩ : MethodName)) hown (mvT hZ (hw _ (List.mem_of_getElem? (i := 14) rfl))) (mvT hZ (hw _ (List.mem_of_getElem? (i := 15) rfl))) (notFace_of_selects (args := #[]) (mvT hZ (hw _ (List.mem_of_getElem? (i := 17) rfl)))) (mvT hZ (hw _ (List.mem_of_getElem? (i := 17) rfl))) (mvT hZ (hw _ (List.mem_of_getElem? (i := 16) rfl))) (by decide) (backOfSH (W := 0) (own_m3_NOT_EQUAL l Z a0 hw [] w_NOT_EQUAL h0 n0 Z0 F_ordinal_w_NOT_EQUAL E_w_NOT_EQUAL) hZ (hw _ (List.mem_of_getElem? (i := 18) rfl)) (hw _ (List.mem_of_getElem? (i := 6) rfl)) (by decide) (by decide) (own_EW hw) CH0) q108a q108c (g := (mkF m 31 #[.val (.int p1), .val (.int ((p1 &&& (2147483647 : Int32)) % (7 : Int32))), .val (.ref w_NOT_EQUAL), .val (.int (0 : Int32)), .val (.int (0 : Int32)), .unset, .unset] [(.ref w_NOT_EQUAL)])) rfl (by rw [hml]; rfl) (Steps.refl _) (argsL := []) (rest := []) (lenOf own_pd8 rfl) rfl (by show 2 * 0 + _ ≤ _; exact Nat.le_of_eq rfl) (hb hby at_31) (fun _ _ => ⟨rfl, e99, (by decide : 0 + 2 ≤ _), (by decide : 0 + 12 ≤ _)⟩)
        dsimp only [Pt.U, Pt.locs, Pt.cells, Pt.slots] at X108 l108 y108 z108 st108 hQ108 hSq108 gr108 CU108
        subst l108 y108 z108
        obtain ⟨X108, hS108, hZ, hown⟩ := rebS hS0 (by rw [e99]; exact hk0) X108 hSq108 gr108 hZ hown
        obtain ⟨h108, e108⟩ : ∃ z, T108.heap = z := ⟨_, rfl⟩
        rw [e108] at hQ108 CU108 hS108
        have hk108 : h108.size ≤ h108.size := Nat.le_refl _
        have CR108 := CR0.trans CU108
        have CH108 := CU108.1
        obtain ⟨a108, bs108, kc108, rfl, N108q, KC108, EX108, FC108, FV108, AV108⟩ := hQ108
        have KK108 : Keep h0 h108 [] := (Keep.refl h0 []).trans KC108 all0
        have Z108 : n0 ≤ h108.size := Nat.le_trans Z0 KC108.1
        have N108 := Fr.app N99 N108q
        have k109 : own_To p.tables e below (s₁.setTop (entryFrame m #[(.int p1)] maxLocals)) T108 (mkF m 34 #[.val (.int p1), .val (.int ((p1 &&& (2147483647 : Int32)) % (7 : Int32))), .val (.ref w_NOT_EQUAL), .val (.int (0 : Int32)), .val (.int (0 : Int32)), .unset, .unset] [(.ref a108)]) := fun t k => k107 t (st108.trans k)
        have k110 : own_To p.tables e below (s₁.setTop (entryFrame m #[(.int p1)] maxLocals)) T108 (mkF m 36 #[.val (.int p1), .val (.int ((p1 &&& (2147483647 : Int32)) % (7 : Int32))), .val (.ref w_NOT_EQUAL), .val (.int (0 : Int32)), .val (.int (0 : Int32)), .val (.ref a108), .unset] []) := fun t k => k109 t (XS.astore X108.here hx rfl (hb hby at_34) rfl rfl (l' := #[.val (.int p1), .val (.int ((p1 &&& (2147483647 : Int32)) % (7 : Int32))), .val (.ref w_NOT_EQUAL), .val (.int (0 : Int32)), .val (.int (0 : Int32)), .val (.ref a108), .unset]) rfl k)
        have k111 : own_To p.tables e below (s₁.setTop (entryFrame m #[(.int p1)] maxLocals)) T108 (mkF m 38 #[.val (.int p1), .val (.int ((p1 &&& (2147483647 : Int32)) % (7 : Int32))), .val (.ref w_NOT_EQUAL), .val (.int (0 : Int32)), .val (.int (0 : Int32)), .val (.ref a108), .unset] [(.ref a108)]) := fun t k => k110 t (XS.aload X108.here hx rfl (hb hby at_36) rfl rfl k)
        obtain ⟨cq112, kq112, q112a, q112b, q112c⟩ := isOf hZ e108 EX108
        obtain ⟨_, _, ⟨T112, L112, k112, n112⟩, -, X112, ⟨Lc112, hQ112, l112, y112, z112⟩, st112⟩ := X108.virtualBack hx (y := (⟨"java/lang/String", "length", "()I"⟩ : MethodName)) (z := (⟨"java/lang/String", "length", "()I"⟩ : MethodName)) hown (mvT hZ (hw _ (List.mem_of_getElem? (i := 36) rfl))) (mvT hZ (hw _ (List.mem_of_getElem? (i := 37) rfl))) (notFace_of_selects (args := #[]) (mvT hZ (hw _ (List.mem_of_getElem? (i := 39) rfl)))) (mvT hZ (hw _ (List.mem_of_getElem? (i := 39) rfl))) (mvT hZ (hw _ (List.mem_of_getElem? (i := 38) rfl))) (by decide) (backOf (W := 0) (own_m5_t2 l Z a0 hw [] a108 bs108 kc108 w_COMPACT_STRINGS h108 n0 Z108 FV108 AV108 (own_sta_keep S_COMPACT_STRINGS KC108 all0) FC108 EX108 hz) hZ (hw _ (List.mem_of_getElem? (i := 40) rfl)) (hw _ (List.mem_of_getElem? (i := 29) rfl)) (by decide) (by decide)) q112a q112c (g := (mkF m 38 #[.val (.int p1), .val (.int ((p1 &&& (2147483647 : Int32)) % (7 : Int32))), .val (.ref w_NOT_EQUAL), .val (.int (0 : Int32)), .val (.int (0 : Int32)), .val (.ref a108), .unset] [(.ref a108)])) rfl (by rw [hml]; rfl) (Steps.refl _) (argsL := []) (rest := []) (lenOf own_pd6 rfl) rfl (by show 2 * 0 + _ ≤ _; exact Nat.le_of_eq rfl) (hb hby at_38) (fun _ _ => ⟨rfl, e108, (by decide : 2 + 0 ≤ _), (by decide : 12 + 0 ≤ _)⟩)
        dsimp only [Pt.U, Pt.locs, Pt.cells, Pt.slots] at X112 l112 y112 z112 st112 hQ112
        subst l112 y112 z112
        rw [show own_f5_t2 = (2 : Int32) from rfl] at hQ112
        obtain ⟨rfl, N112q, e112⟩ := hQ112
        have N112 := Fr.app N108 N112q
        have k113 : own_To p.tables e below (s₁.setTop (entryFrame m #[(.int p1)] maxLocals)) T112 (mkF m 41 #[.val (.int p1), .val (.int ((p1 &&& (2147483647 : Int32)) % (7 : Int32))), .val (.ref w_NOT_EQUAL), .val (.int (0 : Int32)), .val (.int (0 : Int32)), .val (.ref a108), .unset] [(.int (2 : Int32))]) := fun t k => k111 t (st112.trans k)
        have k114 : own_To p.tables e below (s₁.setTop (entryFrame m #[(.int p1)] maxLocals)) T112 (mkF m 44 #[.val (.int p1), .val (.int ((p1 &&& (2147483647 : Int32)) % (7 : Int32))), .val (.ref w_NOT_EQUAL), .val (.int (0 : Int32)), .val (.int (0 : Int32)), .val (.ref a108), .unset] []) := fun t k => k113 t (XS.ifNo X112.here hx rfl (hb hby at_41) rfl ((if0 _ _).trans (tlt (show (0 : Int32) < (2 : Int32) from (by decide))).2.2.2) k)
        have k115 : own_To p.tables e below (s₁.setTop (entryFrame m #[(.int p1)] maxLocals)) T112 (mkF m 46 #[.val (.int p1), .val (.int ((p1 &&& (2147483647 : Int32)) % (7 : Int32))), .val (.ref w_NOT_EQUAL), .val (.int (0 : Int32)), .val (.int (0 : Int32)), .val (.ref a108), .unset] [(.ref a108)]) := fun t k => k114 t (XS.aload X112.here hx rfl (hb hby at_44) rfl rfl k)
        have k116 : own_To p.tables e below (s₁.setTop (entryFrame m #[(.int p1)] maxLocals)) T112 (mkF m 47 #[.val (.int p1), .val (.int ((p1 &&& (2147483647 : Int32)) % (7 : Int32))), .val (.ref w_NOT_EQUAL), .val (.int (0 : Int32)), .val (.int (0 : Int32)), .val (.ref a108), .unset] [(.int (0 : Int32)), (.ref a108)]) := fun t k => k115 t (XS.iconst X112.here hx rfl (hb hby at_46) k)
        obtain ⟨cq117, kq117, q117a, q117b, q117c⟩ := isOf hZ e112 EX108
        obtain ⟨_, _, ⟨T117, L117, k117, n117⟩, -, X117, ⟨Lc117, hQ117, l117, y117, z117⟩, st117⟩ := X112.virtualBack hx (y := (⟨"java/lang/String", "charAt", "(I)C"⟩ : MethodName)) (z := (⟨"java/lang/String", "charAt", "(I)C"⟩ : MethodName)) hown (mvT hZ (hw _ (List.mem_of_getElem? (i := 49) rfl))) (mvT hZ (hw _ (List.mem_of_getElem? (i := 50) rfl))) (notFace_of_selects (args := #[]) (mvT hZ (hw _ (List.mem_of_getElem? (i := 52) rfl)))) (mvT hZ (hw _ (List.mem_of_getElem? (i := 52) rfl))) (mvT hZ (hw _ (List.mem_of_getElem? (i := 51) rfl))) (by decide) (backOf (W := 0) (own_m7_t2 l Z a0 hw [] a108 w_COMPACT_STRINGS bs108 kc108 w_SIOOBE_FORMATTER h108 n0 Z108 (own_sta_keep S_COMPACT_STRINGS KC108 all0) FC108 EX108 FV108 AV108 (own_sta_keep S_SIOOBE_FORMATTER KC108 all0) hz hrS) hZ (hw _ (List.mem_of_getElem? (i := 53) rfl)) (hw _ (List.mem_of_getElem? (i := 29) rfl)) (by decide) (by decide)) q117a q117c (g := (mkF m 47 #[.val (.int p1), .val (.int ((p1 &&& (2147483647 : Int32)) % (7 : Int32))), .val (.ref w_NOT_EQUAL), .val (.int (0 : Int32)), .val (.int (0 : Int32)), .val (.ref a108), .unset] [(.int (0 : Int32)), (.ref a108)])) rfl (by rw [hml]; rfl) (Steps.refl _) (argsL := [(.int (0 : Int32))]) (rest := []) (lenOf own_pd9 rfl) rfl (by show 2 * 0 + _ ≤ _; exact Nat.le_of_eq rfl) (hb hby at_47) (fun _ _ => ⟨rfl, e112, (by decide : 2 + 0 ≤ _), (by decide : 12 + 0 ≤ _)⟩)
        dsimp only [Pt.U, Pt.locs, Pt.cells, Pt.slots] at X117 l117 y117 z117 st117 hQ117
        subst l117 y117 z117
        rw [show own_f7_t2 = (60 : Int32) from rfl] at hQ117
        obtain ⟨rfl, N117q, e117⟩ := hQ117
        have N117 := Fr.app N112 N117q
        have k118 : own_To p.tables e below (s₁.setTop (entryFrame m #[(.int p1)] maxLocals)) T117 (mkF m 50 #[.val (.int p1), .val (.int ((p1 &&& (2147483647 : Int32)) % (7 : Int32))), .val (.ref w_NOT_EQUAL), .val (.int (0 : Int32)), .val (.int (0 : Int32)), .val (.ref a108), .unset] [(.int (60 : Int32))]) := fun t k => k116 t (st117.trans k)
        have k119 : own_To p.tables e below (s₁.setTop (entryFrame m #[(.int p1)] maxLocals)) T117 (mkF m 52 #[.val (.int p1), .val (.int ((p1 &&& (2147483647 : Int32)) % (7 : Int32))), .val (.ref w_NOT_EQUAL), .val (.int (0 : Int32)), .val (.int (0 : Int32)), .val (.ref a108), .unset] [(.int (60 : Int32)), (.int (60 : Int32))]) := fun t k => k118 t (XS.bipush X117.here hx rfl (hb hby at_50) k)
        have k120 : own_To p.tables e below (s₁.setTop (entryFrame m #[(.int p1)] maxLocals)) T117 (mkF m 66 #[.val (.int p1), .val (.int ((p1 &&& (2147483647 : Int32)) % (7 : Int32))), .val (.ref w_NOT_EQUAL), .val (.int (0 : Int32)), .val (.int (0 : Int32)), .val (.ref a108), .unset] []) := fun t k => k119 t (XS.icmpYes X117.here hx rfl (pc0 := 52) (pc' := 66) rfl (hb hby at_52) rfl (teq (show (60 : Int32) = (60 : Int32) from (by decide))).1 (by decide) (by decide) k)
        have k121 : own_To p.tables e below (s₁.setTop (entryFrame m #[(.int p1)] maxLocals)) T117 (mkF m 68 #[.val (.int p1), .val (.int ((p1 &&& (2147483647 : Int32)) % (7 : Int32))), .val (.ref w_NOT_EQUAL), .val (.int (0 : Int32)), .val (.int (0 : Int32)), .val (.ref a108), .unset] [(.ref a108)]) := fun t k => k120 t (XS.aload X117.here hx rfl (hb hby at_66) rfl rfl k)
        obtain ⟨a122, T122, h122, k1122, bs122, kc122, X122, e122, E122, hS122, hk122, hZ, hown, EX122, FC122, FV122, AV122, la122, lb122, CU122, LT122, SX122, st122⟩ := ldcCH X117 hx hZ hown (hw _ (List.mem_of_getElem? (i := 78) rfl)) (own_wS hw) e117 hS108 hk108 (own_EW hw) (List.mem_of_getElem? (i := 7) rfl) CH108 (vs := [(.int (60 : Int32)), (.int (62 : Int32))]) (z := (2 : Int32)) ⟨by decide, by decide⟩ (by decide) (by decide) (g := (mkF m 68 #[.val (.int p1), .val (.int ((p1 &&& (2147483647 : Int32)) % (7 : Int32))), .val (.ref w_NOT_EQUAL), .val (.int (0 : Int32)), .val (.int (0 : Int32)), .val (.ref a108), .unset] [(.ref a108)])) rfl (hb hby at_68) (n := 8) (by decide) (by decide) (by decide) (by decide)
        have Z122 : n0 ≤ h122.size := Nat.le_trans Z108 E122.1
        have K122 : Keep h0 h122 [] := KK108.ext E122
        have CR122 := CR108.trans CU122
        have CH122 := CU122.1
        have k123 : own_To p.tables e below (s₁.setTop (entryFrame m #[(.int p1)] maxLocals)) T122 (mkF m 70 #[.val (.int p1), .val (.int ((p1 &&& (2147483647 : Int32)) % (7 : Int32))), .val (.ref w_NOT_EQUAL), .val (.int (0 : Int32)), .val (.int (0 : Int32)), .val (.ref a108), .unset] [(.ref a122), (.ref a108)]) := fun t k => k121 t (st122 t k)
        by_cases hc124 : a108 = a122
        · obtain ⟨cq125, kq125, q125a, q125b, q125c⟩ := isOf hZ e122 (EX108.ext E122)
          obtain ⟨_, _, ⟨T125, L125, k125, n125⟩, -, X125, ⟨Lc125, hQ125, l125, y125, z125⟩, st125⟩ := X122.virtualBack hx (y := (⟨"java/lang/String", "equals", "(Ljava/lang/Object;)Z"⟩ : MethodName)) (z := (⟨"java/lang/String", "equals", "(Ljava/lang/Object;)Z"⟩ : MethodName)) hown (mvT hZ (hw _ (List.mem_of_getElem? (i := 79) rfl))) (mvT hZ (hw _ (List.mem_of_getElem? (i := 80) rfl))) (notFace_of_selects (args := #[]) (mvT hZ (hw _ (List.mem_of_getElem? (i := 82) rfl)))) (mvT hZ (hw _ (List.mem_of_getElem? (i := 82) rfl))) (mvT hZ (hw _ (List.mem_of_getElem? (i := 81) rfl))) (by decide) (backOf (W := 0) (own_m12_t2 l Z a0 hw [] a108 a122 w_COMPACT_STRINGS bs108 bs122 kc108 kc122 h122 n0 Z122 EX122 ((own_sta_keep S_COMPACT_STRINGS KC108 all0).ext E122) (FC108.ext E122) FC122 (FV108.ext E122) FV122 (AV108.ext E122) AV122 hz) hZ (hw _ (List.mem_of_getElem? (i := 83) rfl)) (hw _ (List.mem_of_getElem? (i := 29) rfl)) (by decide) (by decide)) q125a q125c (g := (mkF m 70 #[.val (.int p1), .val (.int ((p1 &&& (2147483647 : Int32)) % (7 : Int32))), .val (.ref w_NOT_EQUAL), .val (.int (0 : Int32)), .val (.int (0 : Int32)), .val (.ref a108), .unset] [(.ref a122), (.ref a108)])) rfl (by rw [hml]; rfl) (Steps.refl _) (argsL := [(.ref a122)]) (rest := []) (lenOf own_pd10 rfl) rfl (by show 2 * 0 + _ ≤ _; exact Nat.le_of_eq rfl) (hb hby at_70) (fun _ _ => ⟨rfl, e122, (by decide : 4 + 0 ≤ _), (by decide : 24 + 0 ≤ _)⟩)
          dsimp only [Pt.U, Pt.locs, Pt.cells, Pt.slots] at X125 l125 y125 z125 st125 hQ125
          subst l125 y125 z125
          rw [show own_f12_t2 a108 a122 = (1 : Int32) from by unfold own_f12_t2; rw [if_pos (show a108 = a122 from hc124)]] at hQ125
          obtain ⟨rfl, N125q, e125⟩ := hQ125
          have N125 := Fr.app N117 N125q
          have k126 : own_To p.tables e below (s₁.setTop (entryFrame m #[(.int p1)] maxLocals)) T125 (mkF m 73 #[.val (.int p1), .val (.int ((p1 &&& (2147483647 : Int32)) % (7 : Int32))), .val (.ref w_NOT_EQUAL), .val (.int (0 : Int32)), .val (.int (0 : Int32)), .val (.ref a108), .unset] [(.int (1 : Int32))]) := fun t k => k123 t (st125.trans k)
          have k127 : own_To p.tables e below (s₁.setTop (entryFrame m #[(.int p1)] maxLocals)) T125 (mkF m 80 #[.val (.int p1), .val (.int ((p1 &&& (2147483647 : Int32)) % (7 : Int32))), .val (.ref w_NOT_EQUAL), .val (.int (0 : Int32)), .val (.int (0 : Int32)), .val (.ref a108), .unset] []) := fun t k => k126 t (XS.ifYes X125.here hx rfl (pc0 := 73) (pc' := 80) rfl (hb hby at_73) rfl ((if0 _ _).trans (feq (show ¬ ((1 : Int32) = (0 : Int32)) from (by decide))).2) (by decide) (by decide) k)
          have k128 : own_To p.tables e below (s₁.setTop (entryFrame m #[(.int p1)] maxLocals)) T125 (mkF m 81 #[.val (.int p1), .val (.int ((p1 &&& (2147483647 : Int32)) % (7 : Int32))), .val (.ref w_NOT_EQUAL), .val (.int (0 : Int32)), .val (.int (0 : Int32)), .val (.ref a108), .unset] [(.int (0 : Int32))]) := fun t k => k127 t (XS.iconst X125.here hx rfl (hb hby at_80) k)
          have k129 : own_To p.tables e below (s₁.setTop (entryFrame m #[(.int p1)] maxLocals)) T125 (mkF m 83 #[.val (.int p1), .val (.int ((p1 &&& (2147483647 : Int32)) % (7 : Int32))), .val (.ref w_NOT_EQUAL), .val (.int (0 : Int32)), .val (.int (0 : Int32)), .val (.ref a108), .val (.int (0 : Int32))] []) := fun t k => k128 t (XS.istore X125.here hx rfl (hb hby at_81) rfl (l' := #[.val (.int p1), .val (.int ((p1 &&& (2147483647 : Int32)) % (7 : Int32))), .val (.ref w_NOT_EQUAL), .val (.int (0 : Int32)), .val (.int (0 : Int32)), .val (.ref a108), .val (.int (0 : Int32))]) rfl k)
          have k130 : own_To p.tables e below (s₁.setTop (entryFrame m #[(.int p1)] maxLocals)) T125 (mkF m 84 #[.val (.int p1), .val (.int ((p1 &&& (2147483647 : Int32)) % (7 : Int32))), .val (.ref w_NOT_EQUAL), .val (.int (0 : Int32)), .val (.int (0 : Int32)), .val (.ref a108), .val (.int (0 : Int32))] [(.int (0 : Int32))]) := fun t k => k129 t (XS.iloadN X125.here hx rfl (hb hby at_83) rfl k)
          have k131 : own_To p.tables e below (s₁.setTop (entryFrame m #[(.int p1)] maxLocals)) T125 (mkF m 86 #[.val (.int p1), .val (.int ((p1 &&& (2147483647 : Int32)) % (7 : Int32))), .val (.ref w_NOT_EQUAL), .val (.int (0 : Int32)), .val (.int (0 : Int32)), .val (.ref a108), .val (.int (0 : Int32))] [(.int (0 : Int32)), (.int (0 : Int32))]) := fun t k => k130 t (XS.iload X125.here hx rfl (hb hby at_84) rfl k)
          have k132 : own_To p.tables e below (s₁.setTop (entryFrame m #[(.int p1)] maxLocals)) T125 (mkF m 89 #[.val (.int p1), .val (.int ((p1 &&& (2147483647 : Int32)) % (7 : Int32))), .val (.ref w_NOT_EQUAL), .val (.int (0 : Int32)), .val (.int (0 : Int32)), .val (.ref a108), .val (.int (0 : Int32))] []) := fun t k => k131 t (XS.icmpNo X125.here hx rfl (hb hby at_86) rfl (teq (show (0 : Int32) = (0 : Int32) from (by decide))).2 k)
          have k133 : own_To p.tables e below (s₁.setTop (entryFrame m #[(.int p1)] maxLocals)) T125 (mkF m 90 #[.val (.int p1), .val (.int ((p1 &&& (2147483647 : Int32)) % (7 : Int32))), .val (.ref w_NOT_EQUAL), .val (.int (0 : Int32)), .val (.int (0 : Int32)), .val (.ref a108), .val (.int (0 : Int32))] [(.int (0 : Int32))]) := fun t k => k132 t (XS.iloadN X125.here hx rfl (hb hby at_89) rfl k)
          have k134 : own_To p.tables e below (s₁.setTop (entryFrame m #[(.int p1)] maxLocals)) T125 (mkF m 92 #[.val (.int p1), .val (.int ((p1 &&& (2147483647 : Int32)) % (7 : Int32))), .val (.ref w_NOT_EQUAL), .val (.int (0 : Int32)), .val (.int (0 : Int32)), .val (.ref a108), .val (.int (0 : Int32))] [(.int (0 : Int32)), (.int (0 : Int32))]) := fun t k => k133 t (XS.iload X125.here hx rfl (hb hby at_90) rfl k)
          have k135 : own_To p.tables e below (s₁.setTop (entryFrame m #[(.int p1)] maxLocals)) T125 (mkF m 95 #[.val (.int p1), .val (.int ((p1 &&& (2147483647 : Int32)) % (7 : Int32))), .val (.ref w_NOT_EQUAL), .val (.int (0 : Int32)), .val (.int (0 : Int32)), .val (.ref a108), .val (.int (0 : Int32))] []) := fun t k => k134 t (XS.icmpNo X125.here hx rfl (hb hby at_92) rfl (teq (show (0 : Int32) = (0 : Int32) from (by decide))).2 k)
          have k136 : own_To p.tables e below (s₁.setTop (entryFrame m #[(.int p1)] maxLocals)) T125 (mkF m 96 #[.val (.int p1), .val (.int ((p1 &&& (2147483647 : Int32)) % (7 : Int32))), .val (.ref w_NOT_EQUAL), .val (.int (0 : Int32)), .val (.int (0 : Int32)), .val (.ref a108), .val (.int (0 : Int32))] [(.int (1 : Int32))]) := fun t k => k135 t (XS.iconst X125.here hx rfl (hb hby at_95) k)
          have k137 : own_To p.tables e below (s₁.setTop (entryFrame m #[(.int p1)] maxLocals)) T125 (mkF m 100 #[.val (.int p1), .val (.int ((p1 &&& (2147483647 : Int32)) % (7 : Int32))), .val (.ref w_NOT_EQUAL), .val (.int (0 : Int32)), .val (.int (0 : Int32)), .val (.ref a108), .val (.int (0 : Int32))] [(.int (1 : Int32))]) := fun t k => k136 t (XS.goto X125.here hx rfl (pc0 := 96) (pc' := 100) rfl (hb hby at_96) (by decide) (by decide) k)
          obtain ⟨fs, hr, hrun, hended, hEnd⟩ := X125.leaveW hS122 (by rw [e125]; exact hk122) (v := some (.int (1 : Int32))) (fun h => by rw [Bd.returns] at h; cases h)
          have hChr := CR122.trans (CHv.at X125 hZ (own_EW hw) CH122)
          refine ⟨_, _, k137 _ ?_, hrun, hended, _, _, rfl, ?_, ?_, own_monoW hEnd (by decide) (by decide)⟩
          · exact retN X125 hx (t := .boolean) Bd.returns (by simp) (hb hby at_100) hr
          · show own_Q0 n0 _ _
            exact ⟨rfl, N125⟩
          · rw [hh]; show CHr Z consts_1 s.vm h0 T125.vm T125.heap; rw [e125]; exact hChr
        · obtain ⟨cq138, kq138, q138a, q138b, q138c⟩ := isOf hZ e122 (EX108.ext E122)
          obtain ⟨_, _, ⟨T138, L138, k138, n138⟩, -, X138, ⟨Lc138, hQ138, l138, y138, z138⟩, st138⟩ := X122.virtualBack hx (y := (⟨"java/lang/String", "equals", "(Ljava/lang/Object;)Z"⟩ : MethodName)) (z := (⟨"java/lang/String", "equals", "(Ljava/lang/Object;)Z"⟩ : MethodName)) hown (mvT hZ (hw _ (List.mem_of_getElem? (i := 79) rfl))) (mvT hZ (hw _ (List.mem_of_getElem? (i := 80) rfl))) (notFace_of_selects (args := #[]) (mvT hZ (hw _ (List.mem_of_getElem? (i := 82) rfl)))) (mvT hZ (hw _ (List.mem_of_getElem? (i := 82) rfl))) (mvT hZ (hw _ (List.mem_of_getElem? (i := 81) rfl))) (by decide) (backOf (W := 0) (own_m12_t2 l Z a0 hw [] a108 a122 w_COMPACT_STRINGS bs108 bs122 kc108 kc122 h122 n0 Z122 EX122 ((own_sta_keep S_COMPACT_STRINGS KC108 all0).ext E122) (FC108.ext E122) FC122 (FV108.ext E122) FV122 (AV108.ext E122) AV122 hz) hZ (hw _ (List.mem_of_getElem? (i := 83) rfl)) (hw _ (List.mem_of_getElem? (i := 29) rfl)) (by decide) (by decide)) q138a q138c (g := (mkF m 70 #[.val (.int p1), .val (.int ((p1 &&& (2147483647 : Int32)) % (7 : Int32))), .val (.ref w_NOT_EQUAL), .val (.int (0 : Int32)), .val (.int (0 : Int32)), .val (.ref a108), .unset] [(.ref a122), (.ref a108)])) rfl (by rw [hml]; rfl) (Steps.refl _) (argsL := [(.ref a122)]) (rest := []) (lenOf own_pd10 rfl) rfl (by show 2 * 0 + _ ≤ _; exact Nat.le_of_eq rfl) (hb hby at_70) (fun _ _ => ⟨rfl, e122, (by decide : 4 + 0 ≤ _), (by decide : 24 + 0 ≤ _)⟩)
          dsimp only [Pt.U, Pt.locs, Pt.cells, Pt.slots] at X138 l138 y138 z138 st138 hQ138
          subst l138 y138 z138
          rw [show own_f12_t2 a108 a122 = (1 : Int32) from by unfold own_f12_t2; rw [if_neg (show ¬ (a108 = a122) from hc124)]] at hQ138
          obtain ⟨rfl, N138q, e138⟩ := hQ138
          have N138 := Fr.app N117 N138q
          have k139 : own_To p.tables e below (s₁.setTop (entryFrame m #[(.int p1)] maxLocals)) T138 (mkF m 73 #[.val (.int p1), .val (.int ((p1 &&& (2147483647 : Int32)) % (7 : Int32))), .val (.ref w_NOT_EQUAL), .val (.int (0 : Int32)), .val (.int (0 : Int32)), .val (.ref a108), .unset] [(.int (1 : Int32))]) := fun t k => k123 t (st138.trans k)
          have k140 : own_To p.tables e below (s₁.setTop (entryFrame m #[(.int p1)] maxLocals)) T138 (mkF m 80 #[.val (.int p1), .val (.int ((p1 &&& (2147483647 : Int32)) % (7 : Int32))), .val (.ref w_NOT_EQUAL), .val (.int (0 : Int32)), .val (.int (0 : Int32)), .val (.ref a108), .unset] []) := fun t k => k139 t (XS.ifYes X138.here hx rfl (pc0 := 73) (pc' := 80) rfl (hb hby at_73) rfl ((if0 _ _).trans (feq (show ¬ ((1 : Int32) = (0 : Int32)) from (by decide))).2) (by decide) (by decide) k)
          have k141 : own_To p.tables e below (s₁.setTop (entryFrame m #[(.int p1)] maxLocals)) T138 (mkF m 81 #[.val (.int p1), .val (.int ((p1 &&& (2147483647 : Int32)) % (7 : Int32))), .val (.ref w_NOT_EQUAL), .val (.int (0 : Int32)), .val (.int (0 : Int32)), .val (.ref a108), .unset] [(.int (0 : Int32))]) := fun t k => k140 t (XS.iconst X138.here hx rfl (hb hby at_80) k)
          have k142 : own_To p.tables e below (s₁.setTop (entryFrame m #[(.int p1)] maxLocals)) T138 (mkF m 83 #[.val (.int p1), .val (.int ((p1 &&& (2147483647 : Int32)) % (7 : Int32))), .val (.ref w_NOT_EQUAL), .val (.int (0 : Int32)), .val (.int (0 : Int32)), .val (.ref a108), .val (.int (0 : Int32))] []) := fun t k => k141 t (XS.istore X138.here hx rfl (hb hby at_81) rfl (l' := #[.val (.int p1), .val (.int ((p1 &&& (2147483647 : Int32)) % (7 : Int32))), .val (.ref w_NOT_EQUAL), .val (.int (0 : Int32)), .val (.int (0 : Int32)), .val (.ref a108), .val (.int (0 : Int32))]) rfl k)
          have k143 : own_To p.tables e below (s₁.setTop (entryFrame m #[(.int p1)] maxLocals)) T138 (mkF m 84 #[.val (.int p1), .val (.int ((p1 &&& (2147483647 : Int32)) % (7 : Int32))), .val (.ref w_NOT_EQUAL), .val (.int (0 : Int32)), .val (.int (0 : Int32)), .val (.ref a108), .val (.int (0 : Int32))] [(.int (0 : Int32))]) := fun t k => k142 t (XS.iloadN X138.here hx rfl (hb hby at_83) rfl k)
          have k144 : own_To p.tables e below (s₁.setTop (entryFrame m #[(.int p1)] maxLocals)) T138 (mkF m 86 #[.val (.int p1), .val (.int ((p1 &&& (2147483647 : Int32)) % (7 : Int32))), .val (.ref w_NOT_EQUAL), .val (.int (0 : Int32)), .val (.int (0 : Int32)), .val (.ref a108), .val (.int (0 : Int32))] [(.int (0 : Int32)), (.int (0 : Int32))]) := fun t k => k143 t (XS.iload X138.here hx rfl (hb hby at_84) rfl k)
          have k145 : own_To p.tables e below (s₁.setTop (entryFrame m #[(.int p1)] maxLocals)) T138 (mkF m 89 #[.val (.int p1), .val (.int ((p1 &&& (2147483647 : Int32)) % (7 : Int32))), .val (.ref w_NOT_EQUAL), .val (.int (0 : Int32)), .val (.int (0 : Int32)), .val (.ref a108), .val (.int (0 : Int32))] []) := fun t k => k144 t (XS.icmpNo X138.here hx rfl (hb hby at_86) rfl (teq (show (0 : Int32) = (0 : Int32) from (by decide))).2 k)
          have k146 : own_To p.tables e below (s₁.setTop (entryFrame m #[(.int p1)] maxLocals)) T138 (mkF m 90 #[.val (.int p1), .val (.int ((p1 &&& (2147483647 : Int32)) % (7 : Int32))), .val (.ref w_NOT_EQUAL), .val (.int (0 : Int32)), .val (.int (0 : Int32)), .val (.ref a108), .val (.int (0 : Int32))] [(.int (0 : Int32))]) := fun t k => k145 t (XS.iloadN X138.here hx rfl (hb hby at_89) rfl k)
          have k147 : own_To p.tables e below (s₁.setTop (entryFrame m #[(.int p1)] maxLocals)) T138 (mkF m 92 #[.val (.int p1), .val (.int ((p1 &&& (2147483647 : Int32)) % (7 : Int32))), .val (.ref w_NOT_EQUAL), .val (.int (0 : Int32)), .val (.int (0 : Int32)), .val (.ref a108), .val (.int (0 : Int32))] [(.int (0 : Int32)), (.int (0 : Int32))]) := fun t k => k146 t (XS.iload X138.here hx rfl (hb hby at_90) rfl k)
          have k148 : own_To p.tables e below (s₁.setTop (entryFrame m #[(.int p1)] maxLocals)) T138 (mkF m 95 #[.val (.int p1), .val (.int ((p1 &&& (2147483647 : Int32)) % (7 : Int32))), .val (.ref w_NOT_EQUAL), .val (.int (0 : Int32)), .val (.int (0 : Int32)), .val (.ref a108), .val (.int (0 : Int32))] []) := fun t k => k147 t (XS.icmpNo X138.here hx rfl (hb hby at_92) rfl (teq (show (0 : Int32) = (0 : Int32) from (by decide))).2 k)
          have k149 : own_To p.tables e below (s₁.setTop (entryFrame m #[(.int p1)] maxLocals)) T138 (mkF m 96 #[.val (.int p1), .val (.int ((p1 &&& (2147483647 : Int32)) % (7 : Int32))), .val (.ref w_NOT_EQUAL), .val (.int (0 : Int32)), .val (.int (0 : Int32)), .val (.ref a108), .val (.int (0 : Int32))] [(.int (1 : Int32))]) := fun t k => k148 t (XS.iconst X138.here hx rfl (hb hby at_95) k)
          have k150 : own_To p.tables e below (s₁.setTop (entryFrame m #[(.int p1)] maxLocals)) T138 (mkF m 100 #[.val (.int p1), .val (.int ((p1 &&& (2147483647 : Int32)) % (7 : Int32))), .val (.ref w_NOT_EQUAL), .val (.int (0 : Int32)), .val (.int (0 : Int32)), .val (.ref a108), .val (.int (0 : Int32))] [(.int (1 : Int32))]) := fun t k => k149 t (XS.goto X138.here hx rfl (pc0 := 96) (pc' := 100) rfl (hb hby at_96) (by decide) (by decide) k)
          obtain ⟨fs, hr, hrun, hended, hEnd⟩ := X138.leaveW hS122 (by rw [e138]; exact hk122) (v := some (.int (1 : Int32))) (fun h => by rw [Bd.returns] at h; cases h)
          have hChr := CR122.trans (CHv.at X138 hZ (own_EW hw) CH122)
          refine ⟨_, _, k150 _ ?_, hrun, hended, _, _, rfl, ?_, ?_, own_monoW hEnd (by decide) (by decide)⟩
          · exact retN X138 hx (t := .boolean) Bd.returns (by simp) (hb hby at_100) hr
          · show own_Q0 n0 _ _
            exact ⟨rfl, N138⟩
          · rw [hh]; show CHr Z consts_1 s.vm h0 T138.vm T138.heap; rw [e138]; exact hChr
      · by_cases hc151 : ((p1 &&& (2147483647 : Int32)) % (7 : Int32)) = (3 : Int32)
        · obtain ⟨_, _, ⟨T152, L152, k152, n152⟩, -, X152, ⟨Lc152, hQ152, l152, y152, z152⟩, st152⟩ := Jvm.LawKit.callS X0 hx (y := (⟨"com/example/grace_period/graceperiod/server/cql/RelationIsOrderingPinLaw", "pick", "(I)Lcom/example/grace_period/graceperiod/server/cql/CqlClause$Relation;"⟩ : MethodName)) hown (mvT hZ (hw _ (List.mem_of_getElem? (i := 1) rfl))) (mvT hZ (hw _ (List.mem_of_getElem? (i := 2) rfl))) (mvT hZ (hw _ (List.mem_of_getElem? (i := 3) rfl))) (mvT hZ (hw _ (List.mem_of_getElem? (i := 4) rfl))) (by decide) (backOf (W := 0) (own_m1 l Z a0 hw [] ((p1 &&& (2147483647 : Int32)) % (7 : Int32)) w_SERVER_CHOICE w_EXACT w_NOT_EQUAL w_LESS w_LESS_OR_EQUAL w_GREATER w_GREATER_OR_EQUAL h0 n0 Z0 S_SERVER_CHOICE S_EXACT S_NOT_EQUAL S_LESS S_LESS_OR_EQUAL S_GREATER S_GREATER_OR_EQUAL) hZ (hw _ (List.mem_of_getElem? (i := 4) rfl)) (hw _ (List.mem_of_getElem? (i := 3) rfl)) (by decide) (by decide)) (g := (mkF m 9 #[.val (.int p1), .val (.int ((p1 &&& (2147483647 : Int32)) % (7 : Int32))), .unset, .unset, .unset, .unset, .unset] [(.int ((p1 &&& (2147483647 : Int32)) % (7 : Int32)))])) rfl (by rw [hml]; rfl) (argsL := [(.int ((p1 &&& (2147483647 : Int32)) % (7 : Int32)))]) (rest := []) (lenOf own_pd7 rfl) rfl (by show 2 * 0 + _ ≤ _; exact Nat.le_of_eq rfl) (hb hby at_9) (fun _ _ => ⟨rfl, e0, (by decide : 0 + 0 ≤ _), (by decide : 0 + 0 ≤ _)⟩)
          dsimp only [Pt.U, Pt.locs, Pt.cells, Pt.slots] at X152 l152 y152 z152 st152 hQ152
          subst l152 y152 z152
          rw [show own_f1 ((p1 &&& (2147483647 : Int32)) % (7 : Int32)) w_SERVER_CHOICE w_EXACT w_NOT_EQUAL w_LESS w_LESS_OR_EQUAL w_GREATER w_GREATER_OR_EQUAL = w_LESS from by unfold own_f1; rw [if_neg (show ¬ (((p1 &&& (2147483647 : Int32)) % (7 : Int32)) = (0 : Int32)) from hc8), if_neg (show ¬ (((p1 &&& (2147483647 : Int32)) % (7 : Int32)) = (1 : Int32)) from hc51), if_neg (show ¬ (((p1 &&& (2147483647 : Int32)) % (7 : Int32)) = (2 : Int32)) from hc94), if_pos (show ((p1 &&& (2147483647 : Int32)) % (7 : Int32)) = (3 : Int32) from hc151)]] at hQ152
          obtain ⟨rfl, N152q, e152⟩ := hQ152
          have N152 := Fr.app N0 N152q
          have k153 : own_To p.tables e below (s₁.setTop (entryFrame m #[(.int p1)] maxLocals)) T152 (mkF m 12 #[.val (.int p1), .val (.int ((p1 &&& (2147483647 : Int32)) % (7 : Int32))), .unset, .unset, .unset, .unset, .unset] [(.ref w_LESS)]) := fun t k => k7 t (st152 t k)
          have k154 : own_To p.tables e below (s₁.setTop (entryFrame m #[(.int p1)] maxLocals)) T152 (mkF m 13 #[.val (.int p1), .val (.int ((p1 &&& (2147483647 : Int32)) % (7 : Int32))), .val (.ref w_LESS), .unset, .unset, .unset, .unset] []) := fun t k => k153 t (XS.astoreN X152.here hx rfl (hb hby at_12) rfl rfl (l' := #[.val (.int p1), .val (.int ((p1 &&& (2147483647 : Int32)) % (7 : Int32))), .val (.ref w_LESS), .unset, .unset, .unset, .unset]) rfl k)
          have k155 : own_To p.tables e below (s₁.setTop (entryFrame m #[(.int p1)] maxLocals)) T152 (mkF m 14 #[.val (.int p1), .val (.int ((p1 &&& (2147483647 : Int32)) % (7 : Int32))), .val (.ref w_LESS), .unset, .unset, .unset, .unset] [(.ref w_LESS)]) := fun t k => k154 t (XS.aloadN X152.here hx rfl (hb hby at_13) rfl rfl k)
          obtain ⟨cq156, kq156, q156a, q156b, q156c⟩ := isOf hZ e152 E_w_LESS
          obtain ⟨_, _, ⟨T156, L156, k156, n156⟩, -, X156, ⟨Lc156, hQ156, l156, y156, z156⟩, st156⟩ := X152.virtualBack hx (y := (⟨"com/example/grace_period/graceperiod/server/cql/CqlClause$Relation", "isOrdering", "()Z"⟩ : MethodName)) (z := (⟨"com/example/grace_period/graceperiod/server/cql/CqlClause$Relation", "isOrdering", "()Z"⟩ : MethodName)) hown (mvT hZ (hw _ (List.mem_of_getElem? (i := 8) rfl))) (mvT hZ (hw _ (List.mem_of_getElem? (i := 9) rfl))) (notFace_of_selects (args := #[]) (mvT hZ (hw _ (List.mem_of_getElem? (i := 11) rfl)))) (mvT hZ (hw _ (List.mem_of_getElem? (i := 11) rfl))) (mvT hZ (hw _ (List.mem_of_getElem? (i := 10) rfl))) (by decide) (backOf (W := 0) (own_m2 l Z a0 hw [] w_LESS w_SERVER_CHOICE w_EXACT w_NOT_EQUAL h0 n0 Z0 S_SERVER_CHOICE S_EXACT S_NOT_EQUAL) hZ (hw _ (List.mem_of_getElem? (i := 12) rfl)) (hw _ (List.mem_of_getElem? (i := 6) rfl)) (by decide) (by decide)) q156a q156c (g := (mkF m 14 #[.val (.int p1), .val (.int ((p1 &&& (2147483647 : Int32)) % (7 : Int32))), .val (.ref w_LESS), .unset, .unset, .unset, .unset] [(.ref w_LESS)])) rfl (by rw [hml]; rfl) (Steps.refl _) (argsL := []) (rest := []) (lenOf own_pd3 rfl) rfl (by show 2 * 0 + _ ≤ _; exact Nat.le_of_eq rfl) (hb hby at_14) (fun _ _ => ⟨rfl, e152, (by decide : 0 + 0 ≤ _), (by decide : 0 + 0 ≤ _)⟩)
          dsimp only [Pt.U, Pt.locs, Pt.cells, Pt.slots] at X156 l156 y156 z156 st156 hQ156
          subst l156 y156 z156
          rw [show own_f2 w_LESS w_SERVER_CHOICE w_EXACT w_NOT_EQUAL = (1 : Int32) from by unfold own_f2; rw [if_neg (show ¬ (w_LESS = w_SERVER_CHOICE) from (fun q => ne_SERVER_CHOICE_LESS (Eq.symm q))), if_neg (show ¬ (w_LESS = w_EXACT) from (fun q => ne_EXACT_LESS (Eq.symm q))), if_neg (show ¬ (w_LESS = w_NOT_EQUAL) from (fun q => ne_NOT_EQUAL_LESS (Eq.symm q)))]] at hQ156
          obtain ⟨rfl, N156q, e156⟩ := hQ156
          have N156 := Fr.app N152 N156q
          have k157 : own_To p.tables e below (s₁.setTop (entryFrame m #[(.int p1)] maxLocals)) T156 (mkF m 17 #[.val (.int p1), .val (.int ((p1 &&& (2147483647 : Int32)) % (7 : Int32))), .val (.ref w_LESS), .unset, .unset, .unset, .unset] [(.int (1 : Int32))]) := fun t k => k155 t (st156.trans k)
          have k158 : own_To p.tables e below (s₁.setTop (entryFrame m #[(.int p1)] maxLocals)) T156 (mkF m 18 #[.val (.int p1), .val (.int ((p1 &&& (2147483647 : Int32)) % (7 : Int32))), .val (.ref w_LESS), .val (.int (1 : Int32)), .unset, .unset, .unset] []) := fun t k => k157 t (XS.istoreN X156.here hx rfl (hb hby at_17) rfl (l' := #[.val (.int p1), .val (.int ((p1 &&& (2147483647 : Int32)) % (7 : Int32))), .val (.ref w_LESS), .val (.int (1 : Int32)), .unset, .unset, .unset]) rfl k)
          have k159 : own_To p.tables e below (s₁.setTop (entryFrame m #[(.int p1)] maxLocals)) T156 (mkF m 19 #[.val (.int p1), .val (.int ((p1 &&& (2147483647 : Int32)) % (7 : Int32))), .val (.ref w_LESS), .val (.int (1 : Int32)), .unset, .unset, .unset] [(.int ((p1 &&& (2147483647 : Int32)) % (7 : Int32)))]) := fun t k => k158 t (XS.iloadN X156.here hx rfl (hb hby at_18) rfl k)
          have k160 : own_To p.tables e below (s₁.setTop (entryFrame m #[(.int p1)] maxLocals)) T156 (mkF m 20 #[.val (.int p1), .val (.int ((p1 &&& (2147483647 : Int32)) % (7 : Int32))), .val (.ref w_LESS), .val (.int (1 : Int32)), .unset, .unset, .unset] [(.int (3 : Int32)), (.int ((p1 &&& (2147483647 : Int32)) % (7 : Int32)))]) := fun t k => k159 t (XS.iconst X156.here hx rfl (hb hby at_19) k)
          have k161 : own_To p.tables e below (s₁.setTop (entryFrame m #[(.int p1)] maxLocals)) T156 (mkF m 23 #[.val (.int p1), .val (.int ((p1 &&& (2147483647 : Int32)) % (7 : Int32))), .val (.ref w_LESS), .val (.int (1 : Int32)), .unset, .unset, .unset] []) := fun t k => k160 t (XS.icmpNo X156.here hx rfl (hb hby at_20) rfl (flt (show ¬ (((p1 &&& (2147483647 : Int32)) % (7 : Int32)) < (3 : Int32)) from (by rw [hc151]; decide))).1 k)
          have k162 : own_To p.tables e below (s₁.setTop (entryFrame m #[(.int p1)] maxLocals)) T156 (mkF m 24 #[.val (.int p1), .val (.int ((p1 &&& (2147483647 : Int32)) % (7 : Int32))), .val (.ref w_LESS), .val (.int (1 : Int32)), .unset, .unset, .unset] [(.int (1 : Int32))]) := fun t k => k161 t (XS.iconst X156.here hx rfl (hb hby at_23) k)
          have k163 : own_To p.tables e below (s₁.setTop (entryFrame m #[(.int p1)] maxLocals)) T156 (mkF m 28 #[.val (.int p1), .val (.int ((p1 &&& (2147483647 : Int32)) % (7 : Int32))), .val (.ref w_LESS), .val (.int (1 : Int32)), .unset, .unset, .unset] [(.int (1 : Int32))]) := fun t k => k162 t (XS.goto X156.here hx rfl (pc0 := 24) (pc' := 28) rfl (hb hby at_24) (by decide) (by decide) k)
          have k164 : own_To p.tables e below (s₁.setTop (entryFrame m #[(.int p1)] maxLocals)) T156 (mkF m 30 #[.val (.int p1), .val (.int ((p1 &&& (2147483647 : Int32)) % (7 : Int32))), .val (.ref w_LESS), .val (.int (1 : Int32)), .val (.int (1 : Int32)), .unset, .unset] []) := fun t k => k163 t (XS.istore X156.here hx rfl (hb hby at_28) rfl (l' := #[.val (.int p1), .val (.int ((p1 &&& (2147483647 : Int32)) % (7 : Int32))), .val (.ref w_LESS), .val (.int (1 : Int32)), .val (.int (1 : Int32)), .unset, .unset]) rfl k)
          have k165 : own_To p.tables e below (s₁.setTop (entryFrame m #[(.int p1)] maxLocals)) T156 (mkF m 31 #[.val (.int p1), .val (.int ((p1 &&& (2147483647 : Int32)) % (7 : Int32))), .val (.ref w_LESS), .val (.int (1 : Int32)), .val (.int (1 : Int32)), .unset, .unset] [(.ref w_LESS)]) := fun t k => k164 t (XS.aloadN X156.here hx rfl (hb hby at_30) rfl rfl k)
          obtain ⟨cq166, kq166, q166a, q166b, q166c⟩ := isOf hZ e156 E_w_LESS
          obtain ⟨_, _, ⟨T166, L166, k166, n166⟩, -, X166, hSq166, gr166, ⟨Lc166, hQ166, l166, y166, z166, CU166⟩, st166⟩ := Jvm.Stand.virtualBackS X156 hx (y := (⟨"com/example/grace_period/graceperiod/server/cql/CqlClause$Relation", "symbol", "()Ljava/lang/String;"⟩ : MethodName)) (z := (⟨"com/example/grace_period/graceperiod/server/cql/CqlClause$Relation", "symbol", "()Ljava/lang/String;"⟩ : MethodName)) hown (mvT hZ (hw _ (List.mem_of_getElem? (i := 14) rfl))) (mvT hZ (hw _ (List.mem_of_getElem? (i := 15) rfl))) (notFace_of_selects (args := #[]) (mvT hZ (hw _ (List.mem_of_getElem? (i := 17) rfl)))) (mvT hZ (hw _ (List.mem_of_getElem? (i := 17) rfl))) (mvT hZ (hw _ (List.mem_of_getElem? (i := 16) rfl))) (by decide) (backOfSH (W := 0) (own_m3_LESS l Z a0 hw [] w_LESS h0 n0 Z0 F_ordinal_w_LESS E_w_LESS) hZ (hw _ (List.mem_of_getElem? (i := 18) rfl)) (hw _ (List.mem_of_getElem? (i := 6) rfl)) (by decide) (by decide) (own_EW hw) CH0) q166a q166c (g := (mkF m 31 #[.val (.int p1), .val (.int ((p1 &&& (2147483647 : Int32)) % (7 : Int32))), .val (.ref w_LESS), .val (.int (1 : Int32)), .val (.int (1 : Int32)), .unset, .unset] [(.ref w_LESS)])) rfl (by rw [hml]; rfl) (Steps.refl _) (argsL := []) (rest := []) (lenOf own_pd8 rfl) rfl (by show 2 * 0 + _ ≤ _; exact Nat.le_of_eq rfl) (hb hby at_31) (fun _ _ => ⟨rfl, e156, (by decide : 0 + 2 ≤ _), (by decide : 0 + 8 ≤ _)⟩)
          dsimp only [Pt.U, Pt.locs, Pt.cells, Pt.slots] at X166 l166 y166 z166 st166 hQ166 hSq166 gr166 CU166
          subst l166 y166 z166
          obtain ⟨X166, hS166, hZ, hown⟩ := rebS hS0 (by rw [e156]; exact hk0) X166 hSq166 gr166 hZ hown
          obtain ⟨h166, e166⟩ : ∃ z, T166.heap = z := ⟨_, rfl⟩
          rw [e166] at hQ166 CU166 hS166
          have hk166 : h166.size ≤ h166.size := Nat.le_refl _
          have CR166 := CR0.trans CU166
          have CH166 := CU166.1
          obtain ⟨a166, bs166, kc166, rfl, N166q, KC166, EX166, FC166, FV166, AV166⟩ := hQ166
          have KK166 : Keep h0 h166 [] := (Keep.refl h0 []).trans KC166 all0
          have Z166 : n0 ≤ h166.size := Nat.le_trans Z0 KC166.1
          have N166 := Fr.app N156 N166q
          have k167 : own_To p.tables e below (s₁.setTop (entryFrame m #[(.int p1)] maxLocals)) T166 (mkF m 34 #[.val (.int p1), .val (.int ((p1 &&& (2147483647 : Int32)) % (7 : Int32))), .val (.ref w_LESS), .val (.int (1 : Int32)), .val (.int (1 : Int32)), .unset, .unset] [(.ref a166)]) := fun t k => k165 t (st166.trans k)
          have k168 : own_To p.tables e below (s₁.setTop (entryFrame m #[(.int p1)] maxLocals)) T166 (mkF m 36 #[.val (.int p1), .val (.int ((p1 &&& (2147483647 : Int32)) % (7 : Int32))), .val (.ref w_LESS), .val (.int (1 : Int32)), .val (.int (1 : Int32)), .val (.ref a166), .unset] []) := fun t k => k167 t (XS.astore X166.here hx rfl (hb hby at_34) rfl rfl (l' := #[.val (.int p1), .val (.int ((p1 &&& (2147483647 : Int32)) % (7 : Int32))), .val (.ref w_LESS), .val (.int (1 : Int32)), .val (.int (1 : Int32)), .val (.ref a166), .unset]) rfl k)
          have k169 : own_To p.tables e below (s₁.setTop (entryFrame m #[(.int p1)] maxLocals)) T166 (mkF m 38 #[.val (.int p1), .val (.int ((p1 &&& (2147483647 : Int32)) % (7 : Int32))), .val (.ref w_LESS), .val (.int (1 : Int32)), .val (.int (1 : Int32)), .val (.ref a166), .unset] [(.ref a166)]) := fun t k => k168 t (XS.aload X166.here hx rfl (hb hby at_36) rfl rfl k)
          obtain ⟨cq170, kq170, q170a, q170b, q170c⟩ := isOf hZ e166 EX166
          obtain ⟨_, _, ⟨T170, L170, k170, n170⟩, -, X170, ⟨Lc170, hQ170, l170, y170, z170⟩, st170⟩ := X166.virtualBack hx (y := (⟨"java/lang/String", "length", "()I"⟩ : MethodName)) (z := (⟨"java/lang/String", "length", "()I"⟩ : MethodName)) hown (mvT hZ (hw _ (List.mem_of_getElem? (i := 36) rfl))) (mvT hZ (hw _ (List.mem_of_getElem? (i := 37) rfl))) (notFace_of_selects (args := #[]) (mvT hZ (hw _ (List.mem_of_getElem? (i := 39) rfl)))) (mvT hZ (hw _ (List.mem_of_getElem? (i := 39) rfl))) (mvT hZ (hw _ (List.mem_of_getElem? (i := 38) rfl))) (by decide) (backOf (W := 0) (own_m5_t3 l Z a0 hw [] a166 bs166 kc166 w_COMPACT_STRINGS h166 n0 Z166 FV166 AV166 (own_sta_keep S_COMPACT_STRINGS KC166 all0) FC166 EX166 hz) hZ (hw _ (List.mem_of_getElem? (i := 40) rfl)) (hw _ (List.mem_of_getElem? (i := 29) rfl)) (by decide) (by decide)) q170a q170c (g := (mkF m 38 #[.val (.int p1), .val (.int ((p1 &&& (2147483647 : Int32)) % (7 : Int32))), .val (.ref w_LESS), .val (.int (1 : Int32)), .val (.int (1 : Int32)), .val (.ref a166), .unset] [(.ref a166)])) rfl (by rw [hml]; rfl) (Steps.refl _) (argsL := []) (rest := []) (lenOf own_pd6 rfl) rfl (by show 2 * 0 + _ ≤ _; exact Nat.le_of_eq rfl) (hb hby at_38) (fun _ _ => ⟨rfl, e166, (by decide : 2 + 0 ≤ _), (by decide : 8 + 0 ≤ _)⟩)
          dsimp only [Pt.U, Pt.locs, Pt.cells, Pt.slots] at X170 l170 y170 z170 st170 hQ170
          subst l170 y170 z170
          rw [show own_f5_t3 = (1 : Int32) from rfl] at hQ170
          obtain ⟨rfl, N170q, e170⟩ := hQ170
          have N170 := Fr.app N166 N170q
          have k171 : own_To p.tables e below (s₁.setTop (entryFrame m #[(.int p1)] maxLocals)) T170 (mkF m 41 #[.val (.int p1), .val (.int ((p1 &&& (2147483647 : Int32)) % (7 : Int32))), .val (.ref w_LESS), .val (.int (1 : Int32)), .val (.int (1 : Int32)), .val (.ref a166), .unset] [(.int (1 : Int32))]) := fun t k => k169 t (st170.trans k)
          have k172 : own_To p.tables e below (s₁.setTop (entryFrame m #[(.int p1)] maxLocals)) T170 (mkF m 44 #[.val (.int p1), .val (.int ((p1 &&& (2147483647 : Int32)) % (7 : Int32))), .val (.ref w_LESS), .val (.int (1 : Int32)), .val (.int (1 : Int32)), .val (.ref a166), .unset] []) := fun t k => k171 t (XS.ifNo X170.here hx rfl (hb hby at_41) rfl ((if0 _ _).trans (tlt (show (0 : Int32) < (1 : Int32) from (by decide))).2.2.2) k)
          have k173 : own_To p.tables e below (s₁.setTop (entryFrame m #[(.int p1)] maxLocals)) T170 (mkF m 46 #[.val (.int p1), .val (.int ((p1 &&& (2147483647 : Int32)) % (7 : Int32))), .val (.ref w_LESS), .val (.int (1 : Int32)), .val (.int (1 : Int32)), .val (.ref a166), .unset] [(.ref a166)]) := fun t k => k172 t (XS.aload X170.here hx rfl (hb hby at_44) rfl rfl k)
          have k174 : own_To p.tables e below (s₁.setTop (entryFrame m #[(.int p1)] maxLocals)) T170 (mkF m 47 #[.val (.int p1), .val (.int ((p1 &&& (2147483647 : Int32)) % (7 : Int32))), .val (.ref w_LESS), .val (.int (1 : Int32)), .val (.int (1 : Int32)), .val (.ref a166), .unset] [(.int (0 : Int32)), (.ref a166)]) := fun t k => k173 t (XS.iconst X170.here hx rfl (hb hby at_46) k)
          obtain ⟨cq175, kq175, q175a, q175b, q175c⟩ := isOf hZ e170 EX166
          obtain ⟨_, _, ⟨T175, L175, k175, n175⟩, -, X175, ⟨Lc175, hQ175, l175, y175, z175⟩, st175⟩ := X170.virtualBack hx (y := (⟨"java/lang/String", "charAt", "(I)C"⟩ : MethodName)) (z := (⟨"java/lang/String", "charAt", "(I)C"⟩ : MethodName)) hown (mvT hZ (hw _ (List.mem_of_getElem? (i := 49) rfl))) (mvT hZ (hw _ (List.mem_of_getElem? (i := 50) rfl))) (notFace_of_selects (args := #[]) (mvT hZ (hw _ (List.mem_of_getElem? (i := 52) rfl)))) (mvT hZ (hw _ (List.mem_of_getElem? (i := 52) rfl))) (mvT hZ (hw _ (List.mem_of_getElem? (i := 51) rfl))) (by decide) (backOf (W := 0) (own_m7_t3 l Z a0 hw [] a166 w_COMPACT_STRINGS bs166 kc166 w_SIOOBE_FORMATTER h166 n0 Z166 (own_sta_keep S_COMPACT_STRINGS KC166 all0) FC166 EX166 FV166 AV166 (own_sta_keep S_SIOOBE_FORMATTER KC166 all0) hz hrS) hZ (hw _ (List.mem_of_getElem? (i := 53) rfl)) (hw _ (List.mem_of_getElem? (i := 29) rfl)) (by decide) (by decide)) q175a q175c (g := (mkF m 47 #[.val (.int p1), .val (.int ((p1 &&& (2147483647 : Int32)) % (7 : Int32))), .val (.ref w_LESS), .val (.int (1 : Int32)), .val (.int (1 : Int32)), .val (.ref a166), .unset] [(.int (0 : Int32)), (.ref a166)])) rfl (by rw [hml]; rfl) (Steps.refl _) (argsL := [(.int (0 : Int32))]) (rest := []) (lenOf own_pd9 rfl) rfl (by show 2 * 0 + _ ≤ _; exact Nat.le_of_eq rfl) (hb hby at_47) (fun _ _ => ⟨rfl, e170, (by decide : 2 + 0 ≤ _), (by decide : 8 + 0 ≤ _)⟩)
          dsimp only [Pt.U, Pt.locs, Pt.cells, Pt.slots] at X175 l175 y175 z175 st175 hQ175
          subst l175 y175 z175
          rw [show own_f7_t3 = (60 : Int32) from rfl] at hQ175
          obtain ⟨rfl, N175q, e175⟩ := hQ175
          have N175 := Fr.app N170 N175q
          have k176 : own_To p.tables e below (s₁.setTop (entryFrame m #[(.int p1)] maxLocals)) T175 (mkF m 50 #[.val (.int p1), .val (.int ((p1 &&& (2147483647 : Int32)) % (7 : Int32))), .val (.ref w_LESS), .val (.int (1 : Int32)), .val (.int (1 : Int32)), .val (.ref a166), .unset] [(.int (60 : Int32))]) := fun t k => k174 t (st175.trans k)
          have k177 : own_To p.tables e below (s₁.setTop (entryFrame m #[(.int p1)] maxLocals)) T175 (mkF m 52 #[.val (.int p1), .val (.int ((p1 &&& (2147483647 : Int32)) % (7 : Int32))), .val (.ref w_LESS), .val (.int (1 : Int32)), .val (.int (1 : Int32)), .val (.ref a166), .unset] [(.int (60 : Int32)), (.int (60 : Int32))]) := fun t k => k176 t (XS.bipush X175.here hx rfl (hb hby at_50) k)
          have k178 : own_To p.tables e below (s₁.setTop (entryFrame m #[(.int p1)] maxLocals)) T175 (mkF m 66 #[.val (.int p1), .val (.int ((p1 &&& (2147483647 : Int32)) % (7 : Int32))), .val (.ref w_LESS), .val (.int (1 : Int32)), .val (.int (1 : Int32)), .val (.ref a166), .unset] []) := fun t k => k177 t (XS.icmpYes X175.here hx rfl (pc0 := 52) (pc' := 66) rfl (hb hby at_52) rfl (teq (show (60 : Int32) = (60 : Int32) from (by decide))).1 (by decide) (by decide) k)
          have k179 : own_To p.tables e below (s₁.setTop (entryFrame m #[(.int p1)] maxLocals)) T175 (mkF m 68 #[.val (.int p1), .val (.int ((p1 &&& (2147483647 : Int32)) % (7 : Int32))), .val (.ref w_LESS), .val (.int (1 : Int32)), .val (.int (1 : Int32)), .val (.ref a166), .unset] [(.ref a166)]) := fun t k => k178 t (XS.aload X175.here hx rfl (hb hby at_66) rfl rfl k)
          obtain ⟨a180, T180, h180, k1180, bs180, kc180, X180, e180, E180, hS180, hk180, hZ, hown, EX180, FC180, FV180, AV180, la180, lb180, CU180, LT180, SX180, st180⟩ := ldcCH X175 hx hZ hown (hw _ (List.mem_of_getElem? (i := 78) rfl)) (own_wS hw) e175 hS166 hk166 (own_EW hw) (List.mem_of_getElem? (i := 7) rfl) CH166 (vs := [(.int (60 : Int32)), (.int (62 : Int32))]) (z := (2 : Int32)) ⟨by decide, by decide⟩ (by decide) (by decide) (g := (mkF m 68 #[.val (.int p1), .val (.int ((p1 &&& (2147483647 : Int32)) % (7 : Int32))), .val (.ref w_LESS), .val (.int (1 : Int32)), .val (.int (1 : Int32)), .val (.ref a166), .unset] [(.ref a166)])) rfl (hb hby at_68) (n := 8) (by decide) (by decide) (by decide) (by decide)
          have Z180 : n0 ≤ h180.size := Nat.le_trans Z166 E180.1
          have K180 : Keep h0 h180 [] := KK166.ext E180
          have CR180 := CR166.trans CU180
          have CH180 := CU180.1
          have k181 : own_To p.tables e below (s₁.setTop (entryFrame m #[(.int p1)] maxLocals)) T180 (mkF m 70 #[.val (.int p1), .val (.int ((p1 &&& (2147483647 : Int32)) % (7 : Int32))), .val (.ref w_LESS), .val (.int (1 : Int32)), .val (.int (1 : Int32)), .val (.ref a166), .unset] [(.ref a180), (.ref a166)]) := fun t k => k179 t (st180 t k)
          obtain ⟨cq182, kq182, q182a, q182b, q182c⟩ := isOf hZ e180 (EX166.ext E180)
          obtain ⟨_, _, ⟨T182, L182, k182, n182⟩, -, X182, ⟨Lc182, hQ182, l182, y182, z182⟩, st182⟩ := X180.virtualBack hx (y := (⟨"java/lang/String", "equals", "(Ljava/lang/Object;)Z"⟩ : MethodName)) (z := (⟨"java/lang/String", "equals", "(Ljava/lang/Object;)Z"⟩ : MethodName)) hown (mvT hZ (hw _ (List.mem_of_getElem? (i := 79) rfl))) (mvT hZ (hw _ (List.mem_of_getElem? (i := 80) rfl))) (notFace_of_selects (args := #[]) (mvT hZ (hw _ (List.mem_of_getElem? (i := 82) rfl)))) (mvT hZ (hw _ (List.mem_of_getElem? (i := 82) rfl))) (mvT hZ (hw _ (List.mem_of_getElem? (i := 81) rfl))) (by decide) (backOf (W := 0) (own_m12_t3 l Z a0 hw [] a166 a180 w_COMPACT_STRINGS bs166 bs180 kc166 kc180 h180 n0 Z180 EX180 ((own_sta_keep S_COMPACT_STRINGS KC166 all0).ext E180) (FC166.ext E180) FC180 (FV166.ext E180) FV180 (AV166.ext E180) AV180 hz (Fld.ne (FV166.ext E180) FV180 (fun q => arv_ne (AV166.ext E180) AV180 (Or.inl (by decide)) (Value.ref.inj q)))) hZ (hw _ (List.mem_of_getElem? (i := 83) rfl)) (hw _ (List.mem_of_getElem? (i := 29) rfl)) (by decide) (by decide)) q182a q182c (g := (mkF m 70 #[.val (.int p1), .val (.int ((p1 &&& (2147483647 : Int32)) % (7 : Int32))), .val (.ref w_LESS), .val (.int (1 : Int32)), .val (.int (1 : Int32)), .val (.ref a166), .unset] [(.ref a180), (.ref a166)])) rfl (by rw [hml]; rfl) (Steps.refl _) (argsL := [(.ref a180)]) (rest := []) (lenOf own_pd10 rfl) rfl (by show 2 * 0 + _ ≤ _; exact Nat.le_of_eq rfl) (hb hby at_70) (fun _ _ => ⟨rfl, e180, (by decide : 4 + 0 ≤ _), (by decide : 20 + 0 ≤ _)⟩)
          dsimp only [Pt.U, Pt.locs, Pt.cells, Pt.slots] at X182 l182 y182 z182 st182 hQ182
          subst l182 y182 z182
          rw [show own_f12_t3 = (0 : Int32) from rfl] at hQ182
          obtain ⟨rfl, N182q, e182⟩ := hQ182
          have N182 := Fr.app N175 N182q
          have k183 : own_To p.tables e below (s₁.setTop (entryFrame m #[(.int p1)] maxLocals)) T182 (mkF m 73 #[.val (.int p1), .val (.int ((p1 &&& (2147483647 : Int32)) % (7 : Int32))), .val (.ref w_LESS), .val (.int (1 : Int32)), .val (.int (1 : Int32)), .val (.ref a166), .unset] [(.int (0 : Int32))]) := fun t k => k181 t (st182.trans k)
          have k184 : own_To p.tables e below (s₁.setTop (entryFrame m #[(.int p1)] maxLocals)) T182 (mkF m 76 #[.val (.int p1), .val (.int ((p1 &&& (2147483647 : Int32)) % (7 : Int32))), .val (.ref w_LESS), .val (.int (1 : Int32)), .val (.int (1 : Int32)), .val (.ref a166), .unset] []) := fun t k => k183 t (XS.ifNo X182.here hx rfl (hb hby at_73) rfl ((if0 _ _).trans (teq (show (0 : Int32) = (0 : Int32) from (by decide))).2) k)
          have k185 : own_To p.tables e below (s₁.setTop (entryFrame m #[(.int p1)] maxLocals)) T182 (mkF m 77 #[.val (.int p1), .val (.int ((p1 &&& (2147483647 : Int32)) % (7 : Int32))), .val (.ref w_LESS), .val (.int (1 : Int32)), .val (.int (1 : Int32)), .val (.ref a166), .unset] [(.int (1 : Int32))]) := fun t k => k184 t (XS.iconst X182.here hx rfl (hb hby at_76) k)
          have k186 : own_To p.tables e below (s₁.setTop (entryFrame m #[(.int p1)] maxLocals)) T182 (mkF m 81 #[.val (.int p1), .val (.int ((p1 &&& (2147483647 : Int32)) % (7 : Int32))), .val (.ref w_LESS), .val (.int (1 : Int32)), .val (.int (1 : Int32)), .val (.ref a166), .unset] [(.int (1 : Int32))]) := fun t k => k185 t (XS.goto X182.here hx rfl (pc0 := 77) (pc' := 81) rfl (hb hby at_77) (by decide) (by decide) k)
          have k187 : own_To p.tables e below (s₁.setTop (entryFrame m #[(.int p1)] maxLocals)) T182 (mkF m 83 #[.val (.int p1), .val (.int ((p1 &&& (2147483647 : Int32)) % (7 : Int32))), .val (.ref w_LESS), .val (.int (1 : Int32)), .val (.int (1 : Int32)), .val (.ref a166), .val (.int (1 : Int32))] []) := fun t k => k186 t (XS.istore X182.here hx rfl (hb hby at_81) rfl (l' := #[.val (.int p1), .val (.int ((p1 &&& (2147483647 : Int32)) % (7 : Int32))), .val (.ref w_LESS), .val (.int (1 : Int32)), .val (.int (1 : Int32)), .val (.ref a166), .val (.int (1 : Int32))]) rfl k)
          have k188 : own_To p.tables e below (s₁.setTop (entryFrame m #[(.int p1)] maxLocals)) T182 (mkF m 84 #[.val (.int p1), .val (.int ((p1 &&& (2147483647 : Int32)) % (7 : Int32))), .val (.ref w_LESS), .val (.int (1 : Int32)), .val (.int (1 : Int32)), .val (.ref a166), .val (.int (1 : Int32))] [(.int (1 : Int32))]) := fun t k => k187 t (XS.iloadN X182.here hx rfl (hb hby at_83) rfl k)
          have k189 : own_To p.tables e below (s₁.setTop (entryFrame m #[(.int p1)] maxLocals)) T182 (mkF m 86 #[.val (.int p1), .val (.int ((p1 &&& (2147483647 : Int32)) % (7 : Int32))), .val (.ref w_LESS), .val (.int (1 : Int32)), .val (.int (1 : Int32)), .val (.ref a166), .val (.int (1 : Int32))] [(.int (1 : Int32)), (.int (1 : Int32))]) := fun t k => k188 t (XS.iload X182.here hx rfl (hb hby at_84) rfl k)
          have k190 : own_To p.tables e below (s₁.setTop (entryFrame m #[(.int p1)] maxLocals)) T182 (mkF m 89 #[.val (.int p1), .val (.int ((p1 &&& (2147483647 : Int32)) % (7 : Int32))), .val (.ref w_LESS), .val (.int (1 : Int32)), .val (.int (1 : Int32)), .val (.ref a166), .val (.int (1 : Int32))] []) := fun t k => k189 t (XS.icmpNo X182.here hx rfl (hb hby at_86) rfl (teq (show (1 : Int32) = (1 : Int32) from (by decide))).2 k)
          have k191 : own_To p.tables e below (s₁.setTop (entryFrame m #[(.int p1)] maxLocals)) T182 (mkF m 90 #[.val (.int p1), .val (.int ((p1 &&& (2147483647 : Int32)) % (7 : Int32))), .val (.ref w_LESS), .val (.int (1 : Int32)), .val (.int (1 : Int32)), .val (.ref a166), .val (.int (1 : Int32))] [(.int (1 : Int32))]) := fun t k => k190 t (XS.iloadN X182.here hx rfl (hb hby at_89) rfl k)
          have k192 : own_To p.tables e below (s₁.setTop (entryFrame m #[(.int p1)] maxLocals)) T182 (mkF m 92 #[.val (.int p1), .val (.int ((p1 &&& (2147483647 : Int32)) % (7 : Int32))), .val (.ref w_LESS), .val (.int (1 : Int32)), .val (.int (1 : Int32)), .val (.ref a166), .val (.int (1 : Int32))] [(.int (1 : Int32)), (.int (1 : Int32))]) := fun t k => k191 t (XS.iload X182.here hx rfl (hb hby at_90) rfl k)
          have k193 : own_To p.tables e below (s₁.setTop (entryFrame m #[(.int p1)] maxLocals)) T182 (mkF m 95 #[.val (.int p1), .val (.int ((p1 &&& (2147483647 : Int32)) % (7 : Int32))), .val (.ref w_LESS), .val (.int (1 : Int32)), .val (.int (1 : Int32)), .val (.ref a166), .val (.int (1 : Int32))] []) := fun t k => k192 t (XS.icmpNo X182.here hx rfl (hb hby at_92) rfl (teq (show (1 : Int32) = (1 : Int32) from (by decide))).2 k)
          have k194 : own_To p.tables e below (s₁.setTop (entryFrame m #[(.int p1)] maxLocals)) T182 (mkF m 96 #[.val (.int p1), .val (.int ((p1 &&& (2147483647 : Int32)) % (7 : Int32))), .val (.ref w_LESS), .val (.int (1 : Int32)), .val (.int (1 : Int32)), .val (.ref a166), .val (.int (1 : Int32))] [(.int (1 : Int32))]) := fun t k => k193 t (XS.iconst X182.here hx rfl (hb hby at_95) k)
          have k195 : own_To p.tables e below (s₁.setTop (entryFrame m #[(.int p1)] maxLocals)) T182 (mkF m 100 #[.val (.int p1), .val (.int ((p1 &&& (2147483647 : Int32)) % (7 : Int32))), .val (.ref w_LESS), .val (.int (1 : Int32)), .val (.int (1 : Int32)), .val (.ref a166), .val (.int (1 : Int32))] [(.int (1 : Int32))]) := fun t k => k194 t (XS.goto X182.here hx rfl (pc0 := 96) (pc' := 100) rfl (hb hby at_96) (by decide) (by decide) k)
          obtain ⟨fs, hr, hrun, hended, hEnd⟩ := X182.leaveW hS180 (by rw [e182]; exact hk180) (v := some (.int (1 : Int32))) (fun h => by rw [Bd.returns] at h; cases h)
          have hChr := CR180.trans (CHv.at X182 hZ (own_EW hw) CH180)
          refine ⟨_, _, k195 _ ?_, hrun, hended, _, _, rfl, ?_, ?_, own_monoW hEnd (by decide) (by decide)⟩
          · exact retN X182 hx (t := .boolean) Bd.returns (by simp) (hb hby at_100) hr
          · show own_Q0 n0 _ _
            exact ⟨rfl, N182⟩
          · rw [hh]; show CHr Z consts_1 s.vm h0 T182.vm T182.heap; rw [e182]; exact hChr
        · by_cases hc196 : ((p1 &&& (2147483647 : Int32)) % (7 : Int32)) = (4 : Int32)
          · obtain ⟨_, _, ⟨T197, L197, k197, n197⟩, -, X197, ⟨Lc197, hQ197, l197, y197, z197⟩, st197⟩ := Jvm.LawKit.callS X0 hx (y := (⟨"com/example/grace_period/graceperiod/server/cql/RelationIsOrderingPinLaw", "pick", "(I)Lcom/example/grace_period/graceperiod/server/cql/CqlClause$Relation;"⟩ : MethodName)) hown (mvT hZ (hw _ (List.mem_of_getElem? (i := 1) rfl))) (mvT hZ (hw _ (List.mem_of_getElem? (i := 2) rfl))) (mvT hZ (hw _ (List.mem_of_getElem? (i := 3) rfl))) (mvT hZ (hw _ (List.mem_of_getElem? (i := 4) rfl))) (by decide) (backOf (W := 0) (own_m1 l Z a0 hw [] ((p1 &&& (2147483647 : Int32)) % (7 : Int32)) w_SERVER_CHOICE w_EXACT w_NOT_EQUAL w_LESS w_LESS_OR_EQUAL w_GREATER w_GREATER_OR_EQUAL h0 n0 Z0 S_SERVER_CHOICE S_EXACT S_NOT_EQUAL S_LESS S_LESS_OR_EQUAL S_GREATER S_GREATER_OR_EQUAL) hZ (hw _ (List.mem_of_getElem? (i := 4) rfl)) (hw _ (List.mem_of_getElem? (i := 3) rfl)) (by decide) (by decide)) (g := (mkF m 9 #[.val (.int p1), .val (.int ((p1 &&& (2147483647 : Int32)) % (7 : Int32))), .unset, .unset, .unset, .unset, .unset] [(.int ((p1 &&& (2147483647 : Int32)) % (7 : Int32)))])) rfl (by rw [hml]; rfl) (argsL := [(.int ((p1 &&& (2147483647 : Int32)) % (7 : Int32)))]) (rest := []) (lenOf own_pd7 rfl) rfl (by show 2 * 0 + _ ≤ _; exact Nat.le_of_eq rfl) (hb hby at_9) (fun _ _ => ⟨rfl, e0, (by decide : 0 + 0 ≤ _), (by decide : 0 + 0 ≤ _)⟩)
            dsimp only [Pt.U, Pt.locs, Pt.cells, Pt.slots] at X197 l197 y197 z197 st197 hQ197
            subst l197 y197 z197
            rw [show own_f1 ((p1 &&& (2147483647 : Int32)) % (7 : Int32)) w_SERVER_CHOICE w_EXACT w_NOT_EQUAL w_LESS w_LESS_OR_EQUAL w_GREATER w_GREATER_OR_EQUAL = w_LESS_OR_EQUAL from by unfold own_f1; rw [if_neg (show ¬ (((p1 &&& (2147483647 : Int32)) % (7 : Int32)) = (0 : Int32)) from hc8), if_neg (show ¬ (((p1 &&& (2147483647 : Int32)) % (7 : Int32)) = (1 : Int32)) from hc51), if_neg (show ¬ (((p1 &&& (2147483647 : Int32)) % (7 : Int32)) = (2 : Int32)) from hc94), if_neg (show ¬ (((p1 &&& (2147483647 : Int32)) % (7 : Int32)) = (3 : Int32)) from hc151), if_pos (show ((p1 &&& (2147483647 : Int32)) % (7 : Int32)) = (4 : Int32) from hc196)]] at hQ197
            obtain ⟨rfl, N197q, e197⟩ := hQ197
            have N197 := Fr.app N0 N197q
            have k198 : own_To p.tables e below (s₁.setTop (entryFrame m #[(.int p1)] maxLocals)) T197 (mkF m 12 #[.val (.int p1), .val (.int ((p1 &&& (2147483647 : Int32)) % (7 : Int32))), .unset, .unset, .unset, .unset, .unset] [(.ref w_LESS_OR_EQUAL)]) := fun t k => k7 t (st197 t k)
            have k199 : own_To p.tables e below (s₁.setTop (entryFrame m #[(.int p1)] maxLocals)) T197 (mkF m 13 #[.val (.int p1), .val (.int ((p1 &&& (2147483647 : Int32)) % (7 : Int32))), .val (.ref w_LESS_OR_EQUAL), .unset, .unset, .unset, .unset] []) := fun t k => k198 t (XS.astoreN X197.here hx rfl (hb hby at_12) rfl rfl (l' := #[.val (.int p1), .val (.int ((p1 &&& (2147483647 : Int32)) % (7 : Int32))), .val (.ref w_LESS_OR_EQUAL), .unset, .unset, .unset, .unset]) rfl k)
            have k200 : own_To p.tables e below (s₁.setTop (entryFrame m #[(.int p1)] maxLocals)) T197 (mkF m 14 #[.val (.int p1), .val (.int ((p1 &&& (2147483647 : Int32)) % (7 : Int32))), .val (.ref w_LESS_OR_EQUAL), .unset, .unset, .unset, .unset] [(.ref w_LESS_OR_EQUAL)]) := fun t k => k199 t (XS.aloadN X197.here hx rfl (hb hby at_13) rfl rfl k)
            obtain ⟨cq201, kq201, q201a, q201b, q201c⟩ := isOf hZ e197 E_w_LESS_OR_EQUAL
            obtain ⟨_, _, ⟨T201, L201, k201, n201⟩, -, X201, ⟨Lc201, hQ201, l201, y201, z201⟩, st201⟩ := X197.virtualBack hx (y := (⟨"com/example/grace_period/graceperiod/server/cql/CqlClause$Relation", "isOrdering", "()Z"⟩ : MethodName)) (z := (⟨"com/example/grace_period/graceperiod/server/cql/CqlClause$Relation", "isOrdering", "()Z"⟩ : MethodName)) hown (mvT hZ (hw _ (List.mem_of_getElem? (i := 8) rfl))) (mvT hZ (hw _ (List.mem_of_getElem? (i := 9) rfl))) (notFace_of_selects (args := #[]) (mvT hZ (hw _ (List.mem_of_getElem? (i := 11) rfl)))) (mvT hZ (hw _ (List.mem_of_getElem? (i := 11) rfl))) (mvT hZ (hw _ (List.mem_of_getElem? (i := 10) rfl))) (by decide) (backOf (W := 0) (own_m2 l Z a0 hw [] w_LESS_OR_EQUAL w_SERVER_CHOICE w_EXACT w_NOT_EQUAL h0 n0 Z0 S_SERVER_CHOICE S_EXACT S_NOT_EQUAL) hZ (hw _ (List.mem_of_getElem? (i := 12) rfl)) (hw _ (List.mem_of_getElem? (i := 6) rfl)) (by decide) (by decide)) q201a q201c (g := (mkF m 14 #[.val (.int p1), .val (.int ((p1 &&& (2147483647 : Int32)) % (7 : Int32))), .val (.ref w_LESS_OR_EQUAL), .unset, .unset, .unset, .unset] [(.ref w_LESS_OR_EQUAL)])) rfl (by rw [hml]; rfl) (Steps.refl _) (argsL := []) (rest := []) (lenOf own_pd3 rfl) rfl (by show 2 * 0 + _ ≤ _; exact Nat.le_of_eq rfl) (hb hby at_14) (fun _ _ => ⟨rfl, e197, (by decide : 0 + 0 ≤ _), (by decide : 0 + 0 ≤ _)⟩)
            dsimp only [Pt.U, Pt.locs, Pt.cells, Pt.slots] at X201 l201 y201 z201 st201 hQ201
            subst l201 y201 z201
            rw [show own_f2 w_LESS_OR_EQUAL w_SERVER_CHOICE w_EXACT w_NOT_EQUAL = (1 : Int32) from by unfold own_f2; rw [if_neg (show ¬ (w_LESS_OR_EQUAL = w_SERVER_CHOICE) from (fun q => ne_SERVER_CHOICE_LESS_OR_EQUAL (Eq.symm q))), if_neg (show ¬ (w_LESS_OR_EQUAL = w_EXACT) from (fun q => ne_EXACT_LESS_OR_EQUAL (Eq.symm q))), if_neg (show ¬ (w_LESS_OR_EQUAL = w_NOT_EQUAL) from (fun q => ne_NOT_EQUAL_LESS_OR_EQUAL (Eq.symm q)))]] at hQ201
            obtain ⟨rfl, N201q, e201⟩ := hQ201
            have N201 := Fr.app N197 N201q
            have k202 : own_To p.tables e below (s₁.setTop (entryFrame m #[(.int p1)] maxLocals)) T201 (mkF m 17 #[.val (.int p1), .val (.int ((p1 &&& (2147483647 : Int32)) % (7 : Int32))), .val (.ref w_LESS_OR_EQUAL), .unset, .unset, .unset, .unset] [(.int (1 : Int32))]) := fun t k => k200 t (st201.trans k)
            have k203 : own_To p.tables e below (s₁.setTop (entryFrame m #[(.int p1)] maxLocals)) T201 (mkF m 18 #[.val (.int p1), .val (.int ((p1 &&& (2147483647 : Int32)) % (7 : Int32))), .val (.ref w_LESS_OR_EQUAL), .val (.int (1 : Int32)), .unset, .unset, .unset] []) := fun t k => k202 t (XS.istoreN X201.here hx rfl (hb hby at_17) rfl (l' := #[.val (.int p1), .val (.int ((p1 &&& (2147483647 : Int32)) % (7 : Int32))), .val (.ref w_LESS_OR_EQUAL), .val (.int (1 : Int32)), .unset, .unset, .unset]) rfl k)
            have k204 : own_To p.tables e below (s₁.setTop (entryFrame m #[(.int p1)] maxLocals)) T201 (mkF m 19 #[.val (.int p1), .val (.int ((p1 &&& (2147483647 : Int32)) % (7 : Int32))), .val (.ref w_LESS_OR_EQUAL), .val (.int (1 : Int32)), .unset, .unset, .unset] [(.int ((p1 &&& (2147483647 : Int32)) % (7 : Int32)))]) := fun t k => k203 t (XS.iloadN X201.here hx rfl (hb hby at_18) rfl k)
            have k205 : own_To p.tables e below (s₁.setTop (entryFrame m #[(.int p1)] maxLocals)) T201 (mkF m 20 #[.val (.int p1), .val (.int ((p1 &&& (2147483647 : Int32)) % (7 : Int32))), .val (.ref w_LESS_OR_EQUAL), .val (.int (1 : Int32)), .unset, .unset, .unset] [(.int (3 : Int32)), (.int ((p1 &&& (2147483647 : Int32)) % (7 : Int32)))]) := fun t k => k204 t (XS.iconst X201.here hx rfl (hb hby at_19) k)
            have k206 : own_To p.tables e below (s₁.setTop (entryFrame m #[(.int p1)] maxLocals)) T201 (mkF m 23 #[.val (.int p1), .val (.int ((p1 &&& (2147483647 : Int32)) % (7 : Int32))), .val (.ref w_LESS_OR_EQUAL), .val (.int (1 : Int32)), .unset, .unset, .unset] []) := fun t k => k205 t (XS.icmpNo X201.here hx rfl (hb hby at_20) rfl (flt (show ¬ (((p1 &&& (2147483647 : Int32)) % (7 : Int32)) < (3 : Int32)) from (by rw [hc196]; decide))).1 k)
            have k207 : own_To p.tables e below (s₁.setTop (entryFrame m #[(.int p1)] maxLocals)) T201 (mkF m 24 #[.val (.int p1), .val (.int ((p1 &&& (2147483647 : Int32)) % (7 : Int32))), .val (.ref w_LESS_OR_EQUAL), .val (.int (1 : Int32)), .unset, .unset, .unset] [(.int (1 : Int32))]) := fun t k => k206 t (XS.iconst X201.here hx rfl (hb hby at_23) k)
            have k208 : own_To p.tables e below (s₁.setTop (entryFrame m #[(.int p1)] maxLocals)) T201 (mkF m 28 #[.val (.int p1), .val (.int ((p1 &&& (2147483647 : Int32)) % (7 : Int32))), .val (.ref w_LESS_OR_EQUAL), .val (.int (1 : Int32)), .unset, .unset, .unset] [(.int (1 : Int32))]) := fun t k => k207 t (XS.goto X201.here hx rfl (pc0 := 24) (pc' := 28) rfl (hb hby at_24) (by decide) (by decide) k)
            have k209 : own_To p.tables e below (s₁.setTop (entryFrame m #[(.int p1)] maxLocals)) T201 (mkF m 30 #[.val (.int p1), .val (.int ((p1 &&& (2147483647 : Int32)) % (7 : Int32))), .val (.ref w_LESS_OR_EQUAL), .val (.int (1 : Int32)), .val (.int (1 : Int32)), .unset, .unset] []) := fun t k => k208 t (XS.istore X201.here hx rfl (hb hby at_28) rfl (l' := #[.val (.int p1), .val (.int ((p1 &&& (2147483647 : Int32)) % (7 : Int32))), .val (.ref w_LESS_OR_EQUAL), .val (.int (1 : Int32)), .val (.int (1 : Int32)), .unset, .unset]) rfl k)
            have k210 : own_To p.tables e below (s₁.setTop (entryFrame m #[(.int p1)] maxLocals)) T201 (mkF m 31 #[.val (.int p1), .val (.int ((p1 &&& (2147483647 : Int32)) % (7 : Int32))), .val (.ref w_LESS_OR_EQUAL), .val (.int (1 : Int32)), .val (.int (1 : Int32)), .unset, .unset] [(.ref w_LESS_OR_EQUAL)]) := fun t k => k209 t (XS.aloadN X201.here hx rfl (hb hby at_30) rfl rfl k)
            obtain ⟨cq211, kq211, q211a, q211b, q211c⟩ := isOf hZ e201 E_w_LESS_OR_EQUAL
            obtain ⟨_, _, ⟨T211, L211, k211, n211⟩, -, X211, hSq211, gr211, ⟨Lc211, hQ211, l211, y211, z211, CU211⟩, st211⟩ := Jvm.Stand.virtualBackS X201 hx (y := (⟨"com/example/grace_period/graceperiod/server/cql/CqlClause$Relation", "symbol", "()Ljava/lang/String;"⟩ : MethodName)) (z := (⟨"com/example/grace_period/graceperiod/server/cql/CqlClause$Relation", "symbol", "()Ljava/lang/String;"⟩ : MethodName)) hown (mvT hZ (hw _ (List.mem_of_getElem? (i := 14) rfl))) (mvT hZ (hw _ (List.mem_of_getElem? (i := 15) rfl))) (notFace_of_selects (args := #[]) (mvT hZ (hw _ (List.mem_of_getElem? (i := 17) rfl)))) (mvT hZ (hw _ (List.mem_of_getElem? (i := 17) rfl))) (mvT hZ (hw _ (List.mem_of_getElem? (i := 16) rfl))) (by decide) (backOfSH (W := 0) (own_m3_LESS_OR_EQUAL l Z a0 hw [] w_LESS_OR_EQUAL h0 n0 Z0 F_ordinal_w_LESS_OR_EQUAL E_w_LESS_OR_EQUAL) hZ (hw _ (List.mem_of_getElem? (i := 18) rfl)) (hw _ (List.mem_of_getElem? (i := 6) rfl)) (by decide) (by decide) (own_EW hw) CH0) q211a q211c (g := (mkF m 31 #[.val (.int p1), .val (.int ((p1 &&& (2147483647 : Int32)) % (7 : Int32))), .val (.ref w_LESS_OR_EQUAL), .val (.int (1 : Int32)), .val (.int (1 : Int32)), .unset, .unset] [(.ref w_LESS_OR_EQUAL)])) rfl (by rw [hml]; rfl) (Steps.refl _) (argsL := []) (rest := []) (lenOf own_pd8 rfl) rfl (by show 2 * 0 + _ ≤ _; exact Nat.le_of_eq rfl) (hb hby at_31) (fun _ _ => ⟨rfl, e201, (by decide : 0 + 2 ≤ _), (by decide : 0 + 12 ≤ _)⟩)
            dsimp only [Pt.U, Pt.locs, Pt.cells, Pt.slots] at X211 l211 y211 z211 st211 hQ211 hSq211 gr211 CU211
            subst l211 y211 z211
            obtain ⟨X211, hS211, hZ, hown⟩ := rebS hS0 (by rw [e201]; exact hk0) X211 hSq211 gr211 hZ hown
            obtain ⟨h211, e211⟩ : ∃ z, T211.heap = z := ⟨_, rfl⟩
            rw [e211] at hQ211 CU211 hS211
            have hk211 : h211.size ≤ h211.size := Nat.le_refl _
            have CR211 := CR0.trans CU211
            have CH211 := CU211.1
            obtain ⟨a211, bs211, kc211, rfl, N211q, KC211, EX211, FC211, FV211, AV211⟩ := hQ211
            have KK211 : Keep h0 h211 [] := (Keep.refl h0 []).trans KC211 all0
            have Z211 : n0 ≤ h211.size := Nat.le_trans Z0 KC211.1
            have N211 := Fr.app N201 N211q
            have k212 : own_To p.tables e below (s₁.setTop (entryFrame m #[(.int p1)] maxLocals)) T211 (mkF m 34 #[.val (.int p1), .val (.int ((p1 &&& (2147483647 : Int32)) % (7 : Int32))), .val (.ref w_LESS_OR_EQUAL), .val (.int (1 : Int32)), .val (.int (1 : Int32)), .unset, .unset] [(.ref a211)]) := fun t k => k210 t (st211.trans k)
            have k213 : own_To p.tables e below (s₁.setTop (entryFrame m #[(.int p1)] maxLocals)) T211 (mkF m 36 #[.val (.int p1), .val (.int ((p1 &&& (2147483647 : Int32)) % (7 : Int32))), .val (.ref w_LESS_OR_EQUAL), .val (.int (1 : Int32)), .val (.int (1 : Int32)), .val (.ref a211), .unset] []) := fun t k => k212 t (XS.astore X211.here hx rfl (hb hby at_34) rfl rfl (l' := #[.val (.int p1), .val (.int ((p1 &&& (2147483647 : Int32)) % (7 : Int32))), .val (.ref w_LESS_OR_EQUAL), .val (.int (1 : Int32)), .val (.int (1 : Int32)), .val (.ref a211), .unset]) rfl k)
            have k214 : own_To p.tables e below (s₁.setTop (entryFrame m #[(.int p1)] maxLocals)) T211 (mkF m 38 #[.val (.int p1), .val (.int ((p1 &&& (2147483647 : Int32)) % (7 : Int32))), .val (.ref w_LESS_OR_EQUAL), .val (.int (1 : Int32)), .val (.int (1 : Int32)), .val (.ref a211), .unset] [(.ref a211)]) := fun t k => k213 t (XS.aload X211.here hx rfl (hb hby at_36) rfl rfl k)
            obtain ⟨cq215, kq215, q215a, q215b, q215c⟩ := isOf hZ e211 EX211
            obtain ⟨_, _, ⟨T215, L215, k215, n215⟩, -, X215, ⟨Lc215, hQ215, l215, y215, z215⟩, st215⟩ := X211.virtualBack hx (y := (⟨"java/lang/String", "length", "()I"⟩ : MethodName)) (z := (⟨"java/lang/String", "length", "()I"⟩ : MethodName)) hown (mvT hZ (hw _ (List.mem_of_getElem? (i := 36) rfl))) (mvT hZ (hw _ (List.mem_of_getElem? (i := 37) rfl))) (notFace_of_selects (args := #[]) (mvT hZ (hw _ (List.mem_of_getElem? (i := 39) rfl)))) (mvT hZ (hw _ (List.mem_of_getElem? (i := 39) rfl))) (mvT hZ (hw _ (List.mem_of_getElem? (i := 38) rfl))) (by decide) (backOf (W := 0) (own_m5_t4 l Z a0 hw [] a211 bs211 kc211 w_COMPACT_STRINGS h211 n0 Z211 FV211 AV211 (own_sta_keep S_COMPACT_STRINGS KC211 all0) FC211 EX211 hz) hZ (hw _ (List.mem_of_getElem? (i := 40) rfl)) (hw _ (List.mem_of_getElem? (i := 29) rfl)) (by decide) (by decide)) q215a q215c (g := (mkF m 38 #[.val (.int p1), .val (.int ((p1 &&& (2147483647 : Int32)) % (7 : Int32))), .val (.ref w_LESS_OR_EQUAL), .val (.int (1 : Int32)), .val (.int (1 : Int32)), .val (.ref a211), .unset] [(.ref a211)])) rfl (by rw [hml]; rfl) (Steps.refl _) (argsL := []) (rest := []) (lenOf own_pd6 rfl) rfl (by show 2 * 0 + _ ≤ _; exact Nat.le_of_eq rfl) (hb hby at_38) (fun _ _ => ⟨rfl, e211, (by decide : 2 + 0 ≤ _), (by decide : 12 + 0 ≤ _)⟩)
            dsimp only [Pt.U, Pt.locs, Pt.cells, Pt.slots] at X215 l215 y215 z215 st215 hQ215
            subst l215 y215 z215
            rw [show own_f5_t4 = (2 : Int32) from rfl] at hQ215
            obtain ⟨rfl, N215q, e215⟩ := hQ215
            have N215 := Fr.app N211 N215q
            have k216 : own_To p.tables e below (s₁.setTop (entryFrame m #[(.int p1)] maxLocals)) T215 (mkF m 41 #[.val (.int p1), .val (.int ((p1 &&& (2147483647 : Int32)) % (7 : Int32))), .val (.ref w_LESS_OR_EQUAL), .val (.int (1 : Int32)), .val (.int (1 : Int32)), .val (.ref a211), .unset] [(.int (2 : Int32))]) := fun t k => k214 t (st215.trans k)
            have k217 : own_To p.tables e below (s₁.setTop (entryFrame m #[(.int p1)] maxLocals)) T215 (mkF m 44 #[.val (.int p1), .val (.int ((p1 &&& (2147483647 : Int32)) % (7 : Int32))), .val (.ref w_LESS_OR_EQUAL), .val (.int (1 : Int32)), .val (.int (1 : Int32)), .val (.ref a211), .unset] []) := fun t k => k216 t (XS.ifNo X215.here hx rfl (hb hby at_41) rfl ((if0 _ _).trans (tlt (show (0 : Int32) < (2 : Int32) from (by decide))).2.2.2) k)
            have k218 : own_To p.tables e below (s₁.setTop (entryFrame m #[(.int p1)] maxLocals)) T215 (mkF m 46 #[.val (.int p1), .val (.int ((p1 &&& (2147483647 : Int32)) % (7 : Int32))), .val (.ref w_LESS_OR_EQUAL), .val (.int (1 : Int32)), .val (.int (1 : Int32)), .val (.ref a211), .unset] [(.ref a211)]) := fun t k => k217 t (XS.aload X215.here hx rfl (hb hby at_44) rfl rfl k)
            have k219 : own_To p.tables e below (s₁.setTop (entryFrame m #[(.int p1)] maxLocals)) T215 (mkF m 47 #[.val (.int p1), .val (.int ((p1 &&& (2147483647 : Int32)) % (7 : Int32))), .val (.ref w_LESS_OR_EQUAL), .val (.int (1 : Int32)), .val (.int (1 : Int32)), .val (.ref a211), .unset] [(.int (0 : Int32)), (.ref a211)]) := fun t k => k218 t (XS.iconst X215.here hx rfl (hb hby at_46) k)
            obtain ⟨cq220, kq220, q220a, q220b, q220c⟩ := isOf hZ e215 EX211
            obtain ⟨_, _, ⟨T220, L220, k220, n220⟩, -, X220, ⟨Lc220, hQ220, l220, y220, z220⟩, st220⟩ := X215.virtualBack hx (y := (⟨"java/lang/String", "charAt", "(I)C"⟩ : MethodName)) (z := (⟨"java/lang/String", "charAt", "(I)C"⟩ : MethodName)) hown (mvT hZ (hw _ (List.mem_of_getElem? (i := 49) rfl))) (mvT hZ (hw _ (List.mem_of_getElem? (i := 50) rfl))) (notFace_of_selects (args := #[]) (mvT hZ (hw _ (List.mem_of_getElem? (i := 52) rfl)))) (mvT hZ (hw _ (List.mem_of_getElem? (i := 52) rfl))) (mvT hZ (hw _ (List.mem_of_getElem? (i := 51) rfl))) (by decide) (backOf (W := 0) (own_m7_t4 l Z a0 hw [] a211 w_COMPACT_STRINGS bs211 kc211 w_SIOOBE_FORMATTER h211 n0 Z211 (own_sta_keep S_COMPACT_STRINGS KC211 all0) FC211 EX211 FV211 AV211 (own_sta_keep S_SIOOBE_FORMATTER KC211 all0) hz hrS) hZ (hw _ (List.mem_of_getElem? (i := 53) rfl)) (hw _ (List.mem_of_getElem? (i := 29) rfl)) (by decide) (by decide)) q220a q220c (g := (mkF m 47 #[.val (.int p1), .val (.int ((p1 &&& (2147483647 : Int32)) % (7 : Int32))), .val (.ref w_LESS_OR_EQUAL), .val (.int (1 : Int32)), .val (.int (1 : Int32)), .val (.ref a211), .unset] [(.int (0 : Int32)), (.ref a211)])) rfl (by rw [hml]; rfl) (Steps.refl _) (argsL := [(.int (0 : Int32))]) (rest := []) (lenOf own_pd9 rfl) rfl (by show 2 * 0 + _ ≤ _; exact Nat.le_of_eq rfl) (hb hby at_47) (fun _ _ => ⟨rfl, e215, (by decide : 2 + 0 ≤ _), (by decide : 12 + 0 ≤ _)⟩)
            dsimp only [Pt.U, Pt.locs, Pt.cells, Pt.slots] at X220 l220 y220 z220 st220 hQ220
            subst l220 y220 z220
            rw [show own_f7_t4 = (60 : Int32) from rfl] at hQ220
            obtain ⟨rfl, N220q, e220⟩ := hQ220
            have N220 := Fr.app N215 N220q
            have k221 : own_To p.tables e below (s₁.setTop (entryFrame m #[(.int p1)] maxLocals)) T220 (mkF m 50 #[.val (.int p1), .val (.int ((p1 &&& (2147483647 : Int32)) % (7 : Int32))), .val (.ref w_LESS_OR_EQUAL), .val (.int (1 : Int32)), .val (.int (1 : Int32)), .val (.ref a211), .unset] [(.int (60 : Int32))]) := fun t k => k219 t (st220.trans k)
            have k222 : own_To p.tables e below (s₁.setTop (entryFrame m #[(.int p1)] maxLocals)) T220 (mkF m 52 #[.val (.int p1), .val (.int ((p1 &&& (2147483647 : Int32)) % (7 : Int32))), .val (.ref w_LESS_OR_EQUAL), .val (.int (1 : Int32)), .val (.int (1 : Int32)), .val (.ref a211), .unset] [(.int (60 : Int32)), (.int (60 : Int32))]) := fun t k => k221 t (XS.bipush X220.here hx rfl (hb hby at_50) k)
            have k223 : own_To p.tables e below (s₁.setTop (entryFrame m #[(.int p1)] maxLocals)) T220 (mkF m 66 #[.val (.int p1), .val (.int ((p1 &&& (2147483647 : Int32)) % (7 : Int32))), .val (.ref w_LESS_OR_EQUAL), .val (.int (1 : Int32)), .val (.int (1 : Int32)), .val (.ref a211), .unset] []) := fun t k => k222 t (XS.icmpYes X220.here hx rfl (pc0 := 52) (pc' := 66) rfl (hb hby at_52) rfl (teq (show (60 : Int32) = (60 : Int32) from (by decide))).1 (by decide) (by decide) k)
            have k224 : own_To p.tables e below (s₁.setTop (entryFrame m #[(.int p1)] maxLocals)) T220 (mkF m 68 #[.val (.int p1), .val (.int ((p1 &&& (2147483647 : Int32)) % (7 : Int32))), .val (.ref w_LESS_OR_EQUAL), .val (.int (1 : Int32)), .val (.int (1 : Int32)), .val (.ref a211), .unset] [(.ref a211)]) := fun t k => k223 t (XS.aload X220.here hx rfl (hb hby at_66) rfl rfl k)
            obtain ⟨a225, T225, h225, k1225, bs225, kc225, X225, e225, E225, hS225, hk225, hZ, hown, EX225, FC225, FV225, AV225, la225, lb225, CU225, LT225, SX225, st225⟩ := ldcCH X220 hx hZ hown (hw _ (List.mem_of_getElem? (i := 78) rfl)) (own_wS hw) e220 hS211 hk211 (own_EW hw) (List.mem_of_getElem? (i := 7) rfl) CH211 (vs := [(.int (60 : Int32)), (.int (62 : Int32))]) (z := (2 : Int32)) ⟨by decide, by decide⟩ (by decide) (by decide) (g := (mkF m 68 #[.val (.int p1), .val (.int ((p1 &&& (2147483647 : Int32)) % (7 : Int32))), .val (.ref w_LESS_OR_EQUAL), .val (.int (1 : Int32)), .val (.int (1 : Int32)), .val (.ref a211), .unset] [(.ref a211)])) rfl (hb hby at_68) (n := 8) (by decide) (by decide) (by decide) (by decide)
            have Z225 : n0 ≤ h225.size := Nat.le_trans Z211 E225.1
            have K225 : Keep h0 h225 [] := KK211.ext E225
            have CR225 := CR211.trans CU225
            have CH225 := CU225.1
            have k226 : own_To p.tables e below (s₁.setTop (entryFrame m #[(.int p1)] maxLocals)) T225 (mkF m 70 #[.val (.int p1), .val (.int ((p1 &&& (2147483647 : Int32)) % (7 : Int32))), .val (.ref w_LESS_OR_EQUAL), .val (.int (1 : Int32)), .val (.int (1 : Int32)), .val (.ref a211), .unset] [(.ref a225), (.ref a211)]) := fun t k => k224 t (st225 t k)
            obtain ⟨cq227, kq227, q227a, q227b, q227c⟩ := isOf hZ e225 (EX211.ext E225)
            obtain ⟨_, _, ⟨T227, L227, k227, n227⟩, -, X227, ⟨Lc227, hQ227, l227, y227, z227⟩, st227⟩ := X225.virtualBack hx (y := (⟨"java/lang/String", "equals", "(Ljava/lang/Object;)Z"⟩ : MethodName)) (z := (⟨"java/lang/String", "equals", "(Ljava/lang/Object;)Z"⟩ : MethodName)) hown (mvT hZ (hw _ (List.mem_of_getElem? (i := 79) rfl))) (mvT hZ (hw _ (List.mem_of_getElem? (i := 80) rfl))) (notFace_of_selects (args := #[]) (mvT hZ (hw _ (List.mem_of_getElem? (i := 82) rfl)))) (mvT hZ (hw _ (List.mem_of_getElem? (i := 82) rfl))) (mvT hZ (hw _ (List.mem_of_getElem? (i := 81) rfl))) (by decide) (backOf (W := 0) (own_m12_t4 l Z a0 hw [] a211 a225 w_COMPACT_STRINGS bs211 bs225 kc211 kc225 h225 n0 Z225 EX225 ((own_sta_keep S_COMPACT_STRINGS KC211 all0).ext E225) (FC211.ext E225) FC225 (FV211.ext E225) FV225 (AV211.ext E225) AV225 hz (Fld.ne (FV211.ext E225) FV225 (fun q => arv_ne (AV211.ext E225) AV225 (Or.inr ⟨1, by decide, by decide⟩) (Value.ref.inj q)))) hZ (hw _ (List.mem_of_getElem? (i := 83) rfl)) (hw _ (List.mem_of_getElem? (i := 29) rfl)) (by decide) (by decide)) q227a q227c (g := (mkF m 70 #[.val (.int p1), .val (.int ((p1 &&& (2147483647 : Int32)) % (7 : Int32))), .val (.ref w_LESS_OR_EQUAL), .val (.int (1 : Int32)), .val (.int (1 : Int32)), .val (.ref a211), .unset] [(.ref a225), (.ref a211)])) rfl (by rw [hml]; rfl) (Steps.refl _) (argsL := [(.ref a225)]) (rest := []) (lenOf own_pd10 rfl) rfl (by show 2 * 0 + _ ≤ _; exact Nat.le_of_eq rfl) (hb hby at_70) (fun _ _ => ⟨rfl, e225, (by decide : 4 + 0 ≤ _), (by decide : 24 + 0 ≤ _)⟩)
            dsimp only [Pt.U, Pt.locs, Pt.cells, Pt.slots] at X227 l227 y227 z227 st227 hQ227
            subst l227 y227 z227
            rw [show own_f12_t4 = (0 : Int32) from rfl] at hQ227
            obtain ⟨rfl, N227q, e227⟩ := hQ227
            have N227 := Fr.app N220 N227q
            have k228 : own_To p.tables e below (s₁.setTop (entryFrame m #[(.int p1)] maxLocals)) T227 (mkF m 73 #[.val (.int p1), .val (.int ((p1 &&& (2147483647 : Int32)) % (7 : Int32))), .val (.ref w_LESS_OR_EQUAL), .val (.int (1 : Int32)), .val (.int (1 : Int32)), .val (.ref a211), .unset] [(.int (0 : Int32))]) := fun t k => k226 t (st227.trans k)
            have k229 : own_To p.tables e below (s₁.setTop (entryFrame m #[(.int p1)] maxLocals)) T227 (mkF m 76 #[.val (.int p1), .val (.int ((p1 &&& (2147483647 : Int32)) % (7 : Int32))), .val (.ref w_LESS_OR_EQUAL), .val (.int (1 : Int32)), .val (.int (1 : Int32)), .val (.ref a211), .unset] []) := fun t k => k228 t (XS.ifNo X227.here hx rfl (hb hby at_73) rfl ((if0 _ _).trans (teq (show (0 : Int32) = (0 : Int32) from (by decide))).2) k)
            have k230 : own_To p.tables e below (s₁.setTop (entryFrame m #[(.int p1)] maxLocals)) T227 (mkF m 77 #[.val (.int p1), .val (.int ((p1 &&& (2147483647 : Int32)) % (7 : Int32))), .val (.ref w_LESS_OR_EQUAL), .val (.int (1 : Int32)), .val (.int (1 : Int32)), .val (.ref a211), .unset] [(.int (1 : Int32))]) := fun t k => k229 t (XS.iconst X227.here hx rfl (hb hby at_76) k)
            have k231 : own_To p.tables e below (s₁.setTop (entryFrame m #[(.int p1)] maxLocals)) T227 (mkF m 81 #[.val (.int p1), .val (.int ((p1 &&& (2147483647 : Int32)) % (7 : Int32))), .val (.ref w_LESS_OR_EQUAL), .val (.int (1 : Int32)), .val (.int (1 : Int32)), .val (.ref a211), .unset] [(.int (1 : Int32))]) := fun t k => k230 t (XS.goto X227.here hx rfl (pc0 := 77) (pc' := 81) rfl (hb hby at_77) (by decide) (by decide) k)
            have k232 : own_To p.tables e below (s₁.setTop (entryFrame m #[(.int p1)] maxLocals)) T227 (mkF m 83 #[.val (.int p1), .val (.int ((p1 &&& (2147483647 : Int32)) % (7 : Int32))), .val (.ref w_LESS_OR_EQUAL), .val (.int (1 : Int32)), .val (.int (1 : Int32)), .val (.ref a211), .val (.int (1 : Int32))] []) := fun t k => k231 t (XS.istore X227.here hx rfl (hb hby at_81) rfl (l' := #[.val (.int p1), .val (.int ((p1 &&& (2147483647 : Int32)) % (7 : Int32))), .val (.ref w_LESS_OR_EQUAL), .val (.int (1 : Int32)), .val (.int (1 : Int32)), .val (.ref a211), .val (.int (1 : Int32))]) rfl k)
            have k233 : own_To p.tables e below (s₁.setTop (entryFrame m #[(.int p1)] maxLocals)) T227 (mkF m 84 #[.val (.int p1), .val (.int ((p1 &&& (2147483647 : Int32)) % (7 : Int32))), .val (.ref w_LESS_OR_EQUAL), .val (.int (1 : Int32)), .val (.int (1 : Int32)), .val (.ref a211), .val (.int (1 : Int32))] [(.int (1 : Int32))]) := fun t k => k232 t (XS.iloadN X227.here hx rfl (hb hby at_83) rfl k)
            have k234 : own_To p.tables e below (s₁.setTop (entryFrame m #[(.int p1)] maxLocals)) T227 (mkF m 86 #[.val (.int p1), .val (.int ((p1 &&& (2147483647 : Int32)) % (7 : Int32))), .val (.ref w_LESS_OR_EQUAL), .val (.int (1 : Int32)), .val (.int (1 : Int32)), .val (.ref a211), .val (.int (1 : Int32))] [(.int (1 : Int32)), (.int (1 : Int32))]) := fun t k => k233 t (XS.iload X227.here hx rfl (hb hby at_84) rfl k)
            have k235 : own_To p.tables e below (s₁.setTop (entryFrame m #[(.int p1)] maxLocals)) T227 (mkF m 89 #[.val (.int p1), .val (.int ((p1 &&& (2147483647 : Int32)) % (7 : Int32))), .val (.ref w_LESS_OR_EQUAL), .val (.int (1 : Int32)), .val (.int (1 : Int32)), .val (.ref a211), .val (.int (1 : Int32))] []) := fun t k => k234 t (XS.icmpNo X227.here hx rfl (hb hby at_86) rfl (teq (show (1 : Int32) = (1 : Int32) from (by decide))).2 k)
            have k236 : own_To p.tables e below (s₁.setTop (entryFrame m #[(.int p1)] maxLocals)) T227 (mkF m 90 #[.val (.int p1), .val (.int ((p1 &&& (2147483647 : Int32)) % (7 : Int32))), .val (.ref w_LESS_OR_EQUAL), .val (.int (1 : Int32)), .val (.int (1 : Int32)), .val (.ref a211), .val (.int (1 : Int32))] [(.int (1 : Int32))]) := fun t k => k235 t (XS.iloadN X227.here hx rfl (hb hby at_89) rfl k)
            have k237 : own_To p.tables e below (s₁.setTop (entryFrame m #[(.int p1)] maxLocals)) T227 (mkF m 92 #[.val (.int p1), .val (.int ((p1 &&& (2147483647 : Int32)) % (7 : Int32))), .val (.ref w_LESS_OR_EQUAL), .val (.int (1 : Int32)), .val (.int (1 : Int32)), .val (.ref a211), .val (.int (1 : Int32))] [(.int (1 : Int32)), (.int (1 : Int32))]) := fun t k => k236 t (XS.iload X227.here hx rfl (hb hby at_90) rfl k)
            have k238 : own_To p.tables e below (s₁.setTop (entryFrame m #[(.int p1)] maxLocals)) T227 (mkF m 95 #[.val (.int p1), .val (.int ((p1 &&& (2147483647 : Int32)) % (7 : Int32))), .val (.ref w_LESS_OR_EQUAL), .val (.int (1 : Int32)), .val (.int (1 : Int32)), .val (.ref a211), .val (.int (1 : Int32))] []) := fun t k => k237 t (XS.icmpNo X227.here hx rfl (hb hby at_92) rfl (teq (show (1 : Int32) = (1 : Int32) from (by decide))).2 k)
            have k239 : own_To p.tables e below (s₁.setTop (entryFrame m #[(.int p1)] maxLocals)) T227 (mkF m 96 #[.val (.int p1), .val (.int ((p1 &&& (2147483647 : Int32)) % (7 : Int32))), .val (.ref w_LESS_OR_EQUAL), .val (.int (1 : Int32)), .val (.int (1 : Int32)), .val (.ref a211), .val (.int (1 : Int32))] [(.int (1 : Int32))]) := fun t k => k238 t (XS.iconst X227.here hx rfl (hb hby at_95) k)
            have k240 : own_To p.tables e below (s₁.setTop (entryFrame m #[(.int p1)] maxLocals)) T227 (mkF m 100 #[.val (.int p1), .val (.int ((p1 &&& (2147483647 : Int32)) % (7 : Int32))), .val (.ref w_LESS_OR_EQUAL), .val (.int (1 : Int32)), .val (.int (1 : Int32)), .val (.ref a211), .val (.int (1 : Int32))] [(.int (1 : Int32))]) := fun t k => k239 t (XS.goto X227.here hx rfl (pc0 := 96) (pc' := 100) rfl (hb hby at_96) (by decide) (by decide) k)
            obtain ⟨fs, hr, hrun, hended, hEnd⟩ := X227.leaveW hS225 (by rw [e227]; exact hk225) (v := some (.int (1 : Int32))) (fun h => by rw [Bd.returns] at h; cases h)
            have hChr := CR225.trans (CHv.at X227 hZ (own_EW hw) CH225)
            refine ⟨_, _, k240 _ ?_, hrun, hended, _, _, rfl, ?_, ?_, own_monoW hEnd (by decide) (by decide)⟩
            · exact retN X227 hx (t := .boolean) Bd.returns (by simp) (hb hby at_100) hr
            · show own_Q0 n0 _ _
              exact ⟨rfl, N227⟩
            · rw [hh]; show CHr Z consts_1 s.vm h0 T227.vm T227.heap; rw [e227]; exact hChr
          · by_cases hc241 : ((p1 &&& (2147483647 : Int32)) % (7 : Int32)) = (5 : Int32)
            · obtain ⟨_, _, ⟨T242, L242, k242, n242⟩, -, X242, ⟨Lc242, hQ242, l242, y242, z242⟩, st242⟩ := Jvm.LawKit.callS X0 hx (y := (⟨"com/example/grace_period/graceperiod/server/cql/RelationIsOrderingPinLaw", "pick", "(I)Lcom/example/grace_period/graceperiod/server/cql/CqlClause$Relation;"⟩ : MethodName)) hown (mvT hZ (hw _ (List.mem_of_getElem? (i := 1) rfl))) (mvT hZ (hw _ (List.mem_of_getElem? (i := 2) rfl))) (mvT hZ (hw _ (List.mem_of_getElem? (i := 3) rfl))) (mvT hZ (hw _ (List.mem_of_getElem? (i := 4) rfl))) (by decide) (backOf (W := 0) (own_m1 l Z a0 hw [] ((p1 &&& (2147483647 : Int32)) % (7 : Int32)) w_SERVER_CHOICE w_EXACT w_NOT_EQUAL w_LESS w_LESS_OR_EQUAL w_GREATER w_GREATER_OR_EQUAL h0 n0 Z0 S_SERVER_CHOICE S_EXACT S_NOT_EQUAL S_LESS S_LESS_OR_EQUAL S_GREATER S_GREATER_OR_EQUAL) hZ (hw _ (List.mem_of_getElem? (i := 4) rfl)) (hw _ (List.mem_of_getElem? (i := 3) rfl)) (by decide) (by decide)) (g := (mkF m 9 #[.val (.int p1), .val (.int ((p1 &&& (2147483647 : Int32)) % (7 : Int32))), .unset, .unset, .unset, .unset, .unset] [(.int ((p1 &&& (2147483647 : Int32)) % (7 : Int32)))])) rfl (by rw [hml]; rfl) (argsL := [(.int ((p1 &&& (2147483647 : Int32)) % (7 : Int32)))]) (rest := []) (lenOf own_pd7 rfl) rfl (by show 2 * 0 + _ ≤ _; exact Nat.le_of_eq rfl) (hb hby at_9) (fun _ _ => ⟨rfl, e0, (by decide : 0 + 0 ≤ _), (by decide : 0 + 0 ≤ _)⟩)
              dsimp only [Pt.U, Pt.locs, Pt.cells, Pt.slots] at X242 l242 y242 z242 st242 hQ242
              subst l242 y242 z242
              rw [show own_f1 ((p1 &&& (2147483647 : Int32)) % (7 : Int32)) w_SERVER_CHOICE w_EXACT w_NOT_EQUAL w_LESS w_LESS_OR_EQUAL w_GREATER w_GREATER_OR_EQUAL = w_GREATER from by unfold own_f1; rw [if_neg (show ¬ (((p1 &&& (2147483647 : Int32)) % (7 : Int32)) = (0 : Int32)) from hc8), if_neg (show ¬ (((p1 &&& (2147483647 : Int32)) % (7 : Int32)) = (1 : Int32)) from hc51), if_neg (show ¬ (((p1 &&& (2147483647 : Int32)) % (7 : Int32)) = (2 : Int32)) from hc94), if_neg (show ¬ (((p1 &&& (2147483647 : Int32)) % (7 : Int32)) = (3 : Int32)) from hc151), if_neg (show ¬ (((p1 &&& (2147483647 : Int32)) % (7 : Int32)) = (4 : Int32)) from hc196), if_pos (show ((p1 &&& (2147483647 : Int32)) % (7 : Int32)) = (5 : Int32) from hc241)]] at hQ242
              obtain ⟨rfl, N242q, e242⟩ := hQ242
              have N242 := Fr.app N0 N242q
              have k243 : own_To p.tables e below (s₁.setTop (entryFrame m #[(.int p1)] maxLocals)) T242 (mkF m 12 #[.val (.int p1), .val (.int ((p1 &&& (2147483647 : Int32)) % (7 : Int32))), .unset, .unset, .unset, .unset, .unset] [(.ref w_GREATER)]) := fun t k => k7 t (st242 t k)
              have k244 : own_To p.tables e below (s₁.setTop (entryFrame m #[(.int p1)] maxLocals)) T242 (mkF m 13 #[.val (.int p1), .val (.int ((p1 &&& (2147483647 : Int32)) % (7 : Int32))), .val (.ref w_GREATER), .unset, .unset, .unset, .unset] []) := fun t k => k243 t (XS.astoreN X242.here hx rfl (hb hby at_12) rfl rfl (l' := #[.val (.int p1), .val (.int ((p1 &&& (2147483647 : Int32)) % (7 : Int32))), .val (.ref w_GREATER), .unset, .unset, .unset, .unset]) rfl k)
              have k245 : own_To p.tables e below (s₁.setTop (entryFrame m #[(.int p1)] maxLocals)) T242 (mkF m 14 #[.val (.int p1), .val (.int ((p1 &&& (2147483647 : Int32)) % (7 : Int32))), .val (.ref w_GREATER), .unset, .unset, .unset, .unset] [(.ref w_GREATER)]) := fun t k => k244 t (XS.aloadN X242.here hx rfl (hb hby at_13) rfl rfl k)
              obtain ⟨cq246, kq246, q246a, q246b, q246c⟩ := isOf hZ e242 E_w_GREATER
              obtain ⟨_, _, ⟨T246, L246, k246, n246⟩, -, X246, ⟨Lc246, hQ246, l246, y246, z246⟩, st246⟩ := X242.virtualBack hx (y := (⟨"com/example/grace_period/graceperiod/server/cql/CqlClause$Relation", "isOrdering", "()Z"⟩ : MethodName)) (z := (⟨"com/example/grace_period/graceperiod/server/cql/CqlClause$Relation", "isOrdering", "()Z"⟩ : MethodName)) hown (mvT hZ (hw _ (List.mem_of_getElem? (i := 8) rfl))) (mvT hZ (hw _ (List.mem_of_getElem? (i := 9) rfl))) (notFace_of_selects (args := #[]) (mvT hZ (hw _ (List.mem_of_getElem? (i := 11) rfl)))) (mvT hZ (hw _ (List.mem_of_getElem? (i := 11) rfl))) (mvT hZ (hw _ (List.mem_of_getElem? (i := 10) rfl))) (by decide) (backOf (W := 0) (own_m2 l Z a0 hw [] w_GREATER w_SERVER_CHOICE w_EXACT w_NOT_EQUAL h0 n0 Z0 S_SERVER_CHOICE S_EXACT S_NOT_EQUAL) hZ (hw _ (List.mem_of_getElem? (i := 12) rfl)) (hw _ (List.mem_of_getElem? (i := 6) rfl)) (by decide) (by decide)) q246a q246c (g := (mkF m 14 #[.val (.int p1), .val (.int ((p1 &&& (2147483647 : Int32)) % (7 : Int32))), .val (.ref w_GREATER), .unset, .unset, .unset, .unset] [(.ref w_GREATER)])) rfl (by rw [hml]; rfl) (Steps.refl _) (argsL := []) (rest := []) (lenOf own_pd3 rfl) rfl (by show 2 * 0 + _ ≤ _; exact Nat.le_of_eq rfl) (hb hby at_14) (fun _ _ => ⟨rfl, e242, (by decide : 0 + 0 ≤ _), (by decide : 0 + 0 ≤ _)⟩)
              dsimp only [Pt.U, Pt.locs, Pt.cells, Pt.slots] at X246 l246 y246 z246 st246 hQ246
              subst l246 y246 z246
              rw [show own_f2 w_GREATER w_SERVER_CHOICE w_EXACT w_NOT_EQUAL = (1 : Int32) from by unfold own_f2; rw [if_neg (show ¬ (w_GREATER = w_SERVER_CHOICE) from (fun q => ne_SERVER_CHOICE_GREATER (Eq.symm q))), if_neg (show ¬ (w_GREATER = w_EXACT) from (fun q => ne_EXACT_GREATER (Eq.symm q))), if_neg (show ¬ (w_GREATER = w_NOT_EQUAL) from (fun q => ne_NOT_EQUAL_GREATER (Eq.symm q)))]] at hQ246
              obtain ⟨rfl, N246q, e246⟩ := hQ246
              have N246 := Fr.app N242 N246q
              have k247 : own_To p.tables e below (s₁.setTop (entryFrame m #[(.int p1)] maxLocals)) T246 (mkF m 17 #[.val (.int p1), .val (.int ((p1 &&& (2147483647 : Int32)) % (7 : Int32))), .val (.ref w_GREATER), .unset, .unset, .unset, .unset] [(.int (1 : Int32))]) := fun t k => k245 t (st246.trans k)
              have k248 : own_To p.tables e below (s₁.setTop (entryFrame m #[(.int p1)] maxLocals)) T246 (mkF m 18 #[.val (.int p1), .val (.int ((p1 &&& (2147483647 : Int32)) % (7 : Int32))), .val (.ref w_GREATER), .val (.int (1 : Int32)), .unset, .unset, .unset] []) := fun t k => k247 t (XS.istoreN X246.here hx rfl (hb hby at_17) rfl (l' := #[.val (.int p1), .val (.int ((p1 &&& (2147483647 : Int32)) % (7 : Int32))), .val (.ref w_GREATER), .val (.int (1 : Int32)), .unset, .unset, .unset]) rfl k)
              have k249 : own_To p.tables e below (s₁.setTop (entryFrame m #[(.int p1)] maxLocals)) T246 (mkF m 19 #[.val (.int p1), .val (.int ((p1 &&& (2147483647 : Int32)) % (7 : Int32))), .val (.ref w_GREATER), .val (.int (1 : Int32)), .unset, .unset, .unset] [(.int ((p1 &&& (2147483647 : Int32)) % (7 : Int32)))]) := fun t k => k248 t (XS.iloadN X246.here hx rfl (hb hby at_18) rfl k)
              have k250 : own_To p.tables e below (s₁.setTop (entryFrame m #[(.int p1)] maxLocals)) T246 (mkF m 20 #[.val (.int p1), .val (.int ((p1 &&& (2147483647 : Int32)) % (7 : Int32))), .val (.ref w_GREATER), .val (.int (1 : Int32)), .unset, .unset, .unset] [(.int (3 : Int32)), (.int ((p1 &&& (2147483647 : Int32)) % (7 : Int32)))]) := fun t k => k249 t (XS.iconst X246.here hx rfl (hb hby at_19) k)
              have k251 : own_To p.tables e below (s₁.setTop (entryFrame m #[(.int p1)] maxLocals)) T246 (mkF m 23 #[.val (.int p1), .val (.int ((p1 &&& (2147483647 : Int32)) % (7 : Int32))), .val (.ref w_GREATER), .val (.int (1 : Int32)), .unset, .unset, .unset] []) := fun t k => k250 t (XS.icmpNo X246.here hx rfl (hb hby at_20) rfl (flt (show ¬ (((p1 &&& (2147483647 : Int32)) % (7 : Int32)) < (3 : Int32)) from (by rw [hc241]; decide))).1 k)
              have k252 : own_To p.tables e below (s₁.setTop (entryFrame m #[(.int p1)] maxLocals)) T246 (mkF m 24 #[.val (.int p1), .val (.int ((p1 &&& (2147483647 : Int32)) % (7 : Int32))), .val (.ref w_GREATER), .val (.int (1 : Int32)), .unset, .unset, .unset] [(.int (1 : Int32))]) := fun t k => k251 t (XS.iconst X246.here hx rfl (hb hby at_23) k)
              have k253 : own_To p.tables e below (s₁.setTop (entryFrame m #[(.int p1)] maxLocals)) T246 (mkF m 28 #[.val (.int p1), .val (.int ((p1 &&& (2147483647 : Int32)) % (7 : Int32))), .val (.ref w_GREATER), .val (.int (1 : Int32)), .unset, .unset, .unset] [(.int (1 : Int32))]) := fun t k => k252 t (XS.goto X246.here hx rfl (pc0 := 24) (pc' := 28) rfl (hb hby at_24) (by decide) (by decide) k)
              have k254 : own_To p.tables e below (s₁.setTop (entryFrame m #[(.int p1)] maxLocals)) T246 (mkF m 30 #[.val (.int p1), .val (.int ((p1 &&& (2147483647 : Int32)) % (7 : Int32))), .val (.ref w_GREATER), .val (.int (1 : Int32)), .val (.int (1 : Int32)), .unset, .unset] []) := fun t k => k253 t (XS.istore X246.here hx rfl (hb hby at_28) rfl (l' := #[.val (.int p1), .val (.int ((p1 &&& (2147483647 : Int32)) % (7 : Int32))), .val (.ref w_GREATER), .val (.int (1 : Int32)), .val (.int (1 : Int32)), .unset, .unset]) rfl k)
              have k255 : own_To p.tables e below (s₁.setTop (entryFrame m #[(.int p1)] maxLocals)) T246 (mkF m 31 #[.val (.int p1), .val (.int ((p1 &&& (2147483647 : Int32)) % (7 : Int32))), .val (.ref w_GREATER), .val (.int (1 : Int32)), .val (.int (1 : Int32)), .unset, .unset] [(.ref w_GREATER)]) := fun t k => k254 t (XS.aloadN X246.here hx rfl (hb hby at_30) rfl rfl k)
              obtain ⟨cq256, kq256, q256a, q256b, q256c⟩ := isOf hZ e246 E_w_GREATER
              obtain ⟨_, _, ⟨T256, L256, k256, n256⟩, -, X256, hSq256, gr256, ⟨Lc256, hQ256, l256, y256, z256, CU256⟩, st256⟩ := Jvm.Stand.virtualBackS X246 hx (y := (⟨"com/example/grace_period/graceperiod/server/cql/CqlClause$Relation", "symbol", "()Ljava/lang/String;"⟩ : MethodName)) (z := (⟨"com/example/grace_period/graceperiod/server/cql/CqlClause$Relation", "symbol", "()Ljava/lang/String;"⟩ : MethodName)) hown (mvT hZ (hw _ (List.mem_of_getElem? (i := 14) rfl))) (mvT hZ (hw _ (List.mem_of_getElem? (i := 15) rfl))) (notFace_of_selects (args := #[]) (mvT hZ (hw _ (List.mem_of_getElem? (i := 17) rfl)))) (mvT hZ (hw _ (List.mem_of_getElem? (i := 17) rfl))) (mvT hZ (hw _ (List.mem_of_getElem? (i := 16) rfl))) (by decide) (backOfSH (W := 0) (own_m3_GREATER l Z a0 hw [] w_GREATER h0 n0 Z0 F_ordinal_w_GREATER E_w_GREATER) hZ (hw _ (List.mem_of_getElem? (i := 18) rfl)) (hw _ (List.mem_of_getElem? (i := 6) rfl)) (by decide) (by decide) (own_EW hw) CH0) q256a q256c (g := (mkF m 31 #[.val (.int p1), .val (.int ((p1 &&& (2147483647 : Int32)) % (7 : Int32))), .val (.ref w_GREATER), .val (.int (1 : Int32)), .val (.int (1 : Int32)), .unset, .unset] [(.ref w_GREATER)])) rfl (by rw [hml]; rfl) (Steps.refl _) (argsL := []) (rest := []) (lenOf own_pd8 rfl) rfl (by show 2 * 0 + _ ≤ _; exact Nat.le_of_eq rfl) (hb hby at_31) (fun _ _ => ⟨rfl, e246, (by decide : 0 + 2 ≤ _), (by decide : 0 + 8 ≤ _)⟩)
              dsimp only [Pt.U, Pt.locs, Pt.cells, Pt.slots] at X256 l256 y256 z256 st256 hQ256 hSq256 gr256 CU256
              subst l256 y256 z256
              obtain ⟨X256, hS256, hZ, hown⟩ := rebS hS0 (by rw [e246]; exact hk0) X256 hSq256 gr256 hZ hown
              obtain ⟨h256, e256⟩ : ∃ z, T256.heap = z := ⟨_, rfl⟩
              rw [e256] at hQ256 CU256 hS256
              have hk256 : h256.size ≤ h256.size := Nat.le_refl _
              have CR256 := CR0.trans CU256
              have CH256 := CU256.1
              obtain ⟨a256, bs256, kc256, rfl, N256q, KC256, EX256, FC256, FV256, AV256⟩ := hQ256
              have KK256 : Keep h0 h256 [] := (Keep.refl h0 []).trans KC256 all0
              have Z256 : n0 ≤ h256.size := Nat.le_trans Z0 KC256.1
              have N256 := Fr.app N246 N256q
              have k257 : own_To p.tables e below (s₁.setTop (entryFrame m #[(.int p1)] maxLocals)) T256 (mkF m 34 #[.val (.int p1), .val (.int ((p1 &&& (2147483647 : Int32)) % (7 : Int32))), .val (.ref w_GREATER), .val (.int (1 : Int32)), .val (.int (1 : Int32)), .unset, .unset] [(.ref a256)]) := fun t k => k255 t (st256.trans k)
              have k258 : own_To p.tables e below (s₁.setTop (entryFrame m #[(.int p1)] maxLocals)) T256 (mkF m 36 #[.val (.int p1), .val (.int ((p1 &&& (2147483647 : Int32)) % (7 : Int32))), .val (.ref w_GREATER), .val (.int (1 : Int32)), .val (.int (1 : Int32)), .val (.ref a256), .unset] []) := fun t k => k257 t (XS.astore X256.here hx rfl (hb hby at_34) rfl rfl (l' := #[.val (.int p1), .val (.int ((p1 &&& (2147483647 : Int32)) % (7 : Int32))), .val (.ref w_GREATER), .val (.int (1 : Int32)), .val (.int (1 : Int32)), .val (.ref a256), .unset]) rfl k)
              have k259 : own_To p.tables e below (s₁.setTop (entryFrame m #[(.int p1)] maxLocals)) T256 (mkF m 38 #[.val (.int p1), .val (.int ((p1 &&& (2147483647 : Int32)) % (7 : Int32))), .val (.ref w_GREATER), .val (.int (1 : Int32)), .val (.int (1 : Int32)), .val (.ref a256), .unset] [(.ref a256)]) := fun t k => k258 t (XS.aload X256.here hx rfl (hb hby at_36) rfl rfl k)
              obtain ⟨cq260, kq260, q260a, q260b, q260c⟩ := isOf hZ e256 EX256
              obtain ⟨_, _, ⟨T260, L260, k260, n260⟩, -, X260, ⟨Lc260, hQ260, l260, y260, z260⟩, st260⟩ := X256.virtualBack hx (y := (⟨"java/lang/String", "length", "()I"⟩ : MethodName)) (z := (⟨"java/lang/String", "length", "()I"⟩ : MethodName)) hown (mvT hZ (hw _ (List.mem_of_getElem? (i := 36) rfl))) (mvT hZ (hw _ (List.mem_of_getElem? (i := 37) rfl))) (notFace_of_selects (args := #[]) (mvT hZ (hw _ (List.mem_of_getElem? (i := 39) rfl)))) (mvT hZ (hw _ (List.mem_of_getElem? (i := 39) rfl))) (mvT hZ (hw _ (List.mem_of_getElem? (i := 38) rfl))) (by decide) (backOf (W := 0) (own_m5_t5 l Z a0 hw [] a256 bs256 kc256 w_COMPACT_STRINGS h256 n0 Z256 FV256 AV256 (own_sta_keep S_COMPACT_STRINGS KC256 all0) FC256 EX256 hz) hZ (hw _ (List.mem_of_getElem? (i := 40) rfl)) (hw _ (List.mem_of_getElem? (i := 29) rfl)) (by decide) (by decide)) q260a q260c (g := (mkF m 38 #[.val (.int p1), .val (.int ((p1 &&& (2147483647 : Int32)) % (7 : Int32))), .val (.ref w_GREATER), .val (.int (1 : Int32)), .val (.int (1 : Int32)), .val (.ref a256), .unset] [(.ref a256)])) rfl (by rw [hml]; rfl) (Steps.refl _) (argsL := []) (rest := []) (lenOf own_pd6 rfl) rfl (by show 2 * 0 + _ ≤ _; exact Nat.le_of_eq rfl) (hb hby at_38) (fun _ _ => ⟨rfl, e256, (by decide : 2 + 0 ≤ _), (by decide : 8 + 0 ≤ _)⟩)
              dsimp only [Pt.U, Pt.locs, Pt.cells, Pt.slots] at X260 l260 y260 z260 st260 hQ260
              subst l260 y260 z260
              rw [show own_f5_t5 = (1 : Int32) from rfl] at hQ260
              obtain ⟨rfl, N260q, e260⟩ := hQ260
              have N260 := Fr.app N256 N260q
              have k261 : own_To p.tables e below (s₁.setTop (entryFrame m #[(.int p1)] maxLocals)) T260 (mkF m 41 #[.val (.int p1), .val (.int ((p1 &&& (2147483647 : Int32)) % (7 : Int32))), .val (.ref w_GREATER), .val (.int (1 : Int32)), .val (.int (1 : Int32)), .val (.ref a256), .unset] [(.int (1 : Int32))]) := fun t k => k259 t (st260.trans k)
              have k262 : own_To p.tables e below (s₁.setTop (entryFrame m #[(.int p1)] maxLocals)) T260 (mkF m 44 #[.val (.int p1), .val (.int ((p1 &&& (2147483647 : Int32)) % (7 : Int32))), .val (.ref w_GREATER), .val (.int (1 : Int32)), .val (.int (1 : Int32)), .val (.ref a256), .unset] []) := fun t k => k261 t (XS.ifNo X260.here hx rfl (hb hby at_41) rfl ((if0 _ _).trans (tlt (show (0 : Int32) < (1 : Int32) from (by decide))).2.2.2) k)
              have k263 : own_To p.tables e below (s₁.setTop (entryFrame m #[(.int p1)] maxLocals)) T260 (mkF m 46 #[.val (.int p1), .val (.int ((p1 &&& (2147483647 : Int32)) % (7 : Int32))), .val (.ref w_GREATER), .val (.int (1 : Int32)), .val (.int (1 : Int32)), .val (.ref a256), .unset] [(.ref a256)]) := fun t k => k262 t (XS.aload X260.here hx rfl (hb hby at_44) rfl rfl k)
              have k264 : own_To p.tables e below (s₁.setTop (entryFrame m #[(.int p1)] maxLocals)) T260 (mkF m 47 #[.val (.int p1), .val (.int ((p1 &&& (2147483647 : Int32)) % (7 : Int32))), .val (.ref w_GREATER), .val (.int (1 : Int32)), .val (.int (1 : Int32)), .val (.ref a256), .unset] [(.int (0 : Int32)), (.ref a256)]) := fun t k => k263 t (XS.iconst X260.here hx rfl (hb hby at_46) k)
              obtain ⟨cq265, kq265, q265a, q265b, q265c⟩ := isOf hZ e260 EX256
              obtain ⟨_, _, ⟨T265, L265, k265, n265⟩, -, X265, ⟨Lc265, hQ265, l265, y265, z265⟩, st265⟩ := X260.virtualBack hx (y := (⟨"java/lang/String", "charAt", "(I)C"⟩ : MethodName)) (z := (⟨"java/lang/String", "charAt", "(I)C"⟩ : MethodName)) hown (mvT hZ (hw _ (List.mem_of_getElem? (i := 49) rfl))) (mvT hZ (hw _ (List.mem_of_getElem? (i := 50) rfl))) (notFace_of_selects (args := #[]) (mvT hZ (hw _ (List.mem_of_getElem? (i := 52) rfl)))) (mvT hZ (hw _ (List.mem_of_getElem? (i := 52) rfl))) (mvT hZ (hw _ (List.mem_of_getElem? (i := 51) rfl))) (by decide) (backOf (W := 0) (own_m7_t5 l Z a0 hw [] a256 w_COMPACT_STRINGS bs256 kc256 w_SIOOBE_FORMATTER h256 n0 Z256 (own_sta_keep S_COMPACT_STRINGS KC256 all0) FC256 EX256 FV256 AV256 (own_sta_keep S_SIOOBE_FORMATTER KC256 all0) hz hrS) hZ (hw _ (List.mem_of_getElem? (i := 53) rfl)) (hw _ (List.mem_of_getElem? (i := 29) rfl)) (by decide) (by decide)) q265a q265c (g := (mkF m 47 #[.val (.int p1), .val (.int ((p1 &&& (2147483647 : Int32)) % (7 : Int32))), .val (.ref w_GREATER), .val (.int (1 : Int32)), .val (.int (1 : Int32)), .val (.ref a256), .unset] [(.int (0 : Int32)), (.ref a256)])) rfl (by rw [hml]; rfl) (Steps.refl _) (argsL := [(.int (0 : Int32))]) (rest := []) (lenOf own_pd9 rfl) rfl (by show 2 * 0 + _ ≤ _; exact Nat.le_of_eq rfl) (hb hby at_47) (fun _ _ => ⟨rfl, e260, (by decide : 2 + 0 ≤ _), (by decide : 8 + 0 ≤ _)⟩)
              dsimp only [Pt.U, Pt.locs, Pt.cells, Pt.slots] at X265 l265 y265 z265 st265 hQ265
              subst l265 y265 z265
              rw [show own_f7_t5 = (62 : Int32) from rfl] at hQ265
              obtain ⟨rfl, N265q, e265⟩ := hQ265
              have N265 := Fr.app N260 N265q
              have k266 : own_To p.tables e below (s₁.setTop (entryFrame m #[(.int p1)] maxLocals)) T265 (mkF m 50 #[.val (.int p1), .val (.int ((p1 &&& (2147483647 : Int32)) % (7 : Int32))), .val (.ref w_GREATER), .val (.int (1 : Int32)), .val (.int (1 : Int32)), .val (.ref a256), .unset] [(.int (62 : Int32))]) := fun t k => k264 t (st265.trans k)
              have k267 : own_To p.tables e below (s₁.setTop (entryFrame m #[(.int p1)] maxLocals)) T265 (mkF m 52 #[.val (.int p1), .val (.int ((p1 &&& (2147483647 : Int32)) % (7 : Int32))), .val (.ref w_GREATER), .val (.int (1 : Int32)), .val (.int (1 : Int32)), .val (.ref a256), .unset] [(.int (60 : Int32)), (.int (62 : Int32))]) := fun t k => k266 t (XS.bipush X265.here hx rfl (hb hby at_50) k)
              have k268 : own_To p.tables e below (s₁.setTop (entryFrame m #[(.int p1)] maxLocals)) T265 (mkF m 55 #[.val (.int p1), .val (.int ((p1 &&& (2147483647 : Int32)) % (7 : Int32))), .val (.ref w_GREATER), .val (.int (1 : Int32)), .val (.int (1 : Int32)), .val (.ref a256), .unset] []) := fun t k => k267 t (XS.icmpNo X265.here hx rfl (hb hby at_52) rfl (feq (show ¬ ((62 : Int32) = (60 : Int32)) from (by decide))).1 k)
              have k269 : own_To p.tables e below (s₁.setTop (entryFrame m #[(.int p1)] maxLocals)) T265 (mkF m 57 #[.val (.int p1), .val (.int ((p1 &&& (2147483647 : Int32)) % (7 : Int32))), .val (.ref w_GREATER), .val (.int (1 : Int32)), .val (.int (1 : Int32)), .val (.ref a256), .unset] [(.ref a256)]) := fun t k => k268 t (XS.aload X265.here hx rfl (hb hby at_55) rfl rfl k)
              have k270 : own_To p.tables e below (s₁.setTop (entryFrame m #[(.int p1)] maxLocals)) T265 (mkF m 58 #[.val (.int p1), .val (.int ((p1 &&& (2147483647 : Int32)) % (7 : Int32))), .val (.ref w_GREATER), .val (.int (1 : Int32)), .val (.int (1 : Int32)), .val (.ref a256), .unset] [(.int (0 : Int32)), (.ref a256)]) := fun t k => k269 t (XS.iconst X265.here hx rfl (hb hby at_57) k)
              obtain ⟨cq271, kq271, q271a, q271b, q271c⟩ := isOf hZ e265 EX256
              obtain ⟨_, _, ⟨T271, L271, k271, n271⟩, -, X271, ⟨Lc271, hQ271, l271, y271, z271⟩, st271⟩ := X265.virtualBack hx (y := (⟨"java/lang/String", "charAt", "(I)C"⟩ : MethodName)) (z := (⟨"java/lang/String", "charAt", "(I)C"⟩ : MethodName)) hown (mvT hZ (hw _ (List.mem_of_getElem? (i := 49) rfl))) (mvT hZ (hw _ (List.mem_of_getElem? (i := 50) rfl))) (notFace_of_selects (args := #[]) (mvT hZ (hw _ (List.mem_of_getElem? (i := 52) rfl)))) (mvT hZ (hw _ (List.mem_of_getElem? (i := 52) rfl))) (mvT hZ (hw _ (List.mem_of_getElem? (i := 51) rfl))) (by decide) (backOf (W := 0) (own_m7_t5 l Z a0 hw [] a256 w_COMPACT_STRINGS bs256 kc256 w_SIOOBE_FORMATTER h256 n0 Z256 (own_sta_keep S_COMPACT_STRINGS KC256 all0) FC256 EX256 FV256 AV256 (own_sta_keep S_SIOOBE_FORMATTER KC256 all0) hz hrS) hZ (hw _ (List.mem_of_getElem? (i := 53) rfl)) (hw _ (List.mem_of_getElem? (i := 29) rfl)) (by decide) (by decide)) q271a q271c (g := (mkF m 58 #[.val (.int p1), .val (.int ((p1 &&& (2147483647 : Int32)) % (7 : Int32))), .val (.ref w_GREATER), .val (.int (1 : Int32)), .val (.int (1 : Int32)), .val (.ref a256), .unset] [(.int (0 : Int32)), (.ref a256)])) rfl (by rw [hml]; rfl) (Steps.refl _) (argsL := [(.int (0 : Int32))]) (rest := []) (lenOf own_pd9 rfl) rfl (by show 2 * 0 + _ ≤ _; exact Nat.le_of_eq rfl) (hb hby at_58) (fun _ _ => ⟨rfl, e265, (by decide : 2 + 0 ≤ _), (by decide : 8 + 0 ≤ _)⟩)
              dsimp only [Pt.U, Pt.locs, Pt.cells, Pt.slots] at X271 l271 y271 z271 st271 hQ271
              subst l271 y271 z271
              rw [show own_f7_t5 = (62 : Int32) from rfl] at hQ271
              obtain ⟨rfl, N271q, e271⟩ := hQ271
              have N271 := Fr.app N265 N271q
              have k272 : own_To p.tables e below (s₁.setTop (entryFrame m #[(.int p1)] maxLocals)) T271 (mkF m 61 #[.val (.int p1), .val (.int ((p1 &&& (2147483647 : Int32)) % (7 : Int32))), .val (.ref w_GREATER), .val (.int (1 : Int32)), .val (.int (1 : Int32)), .val (.ref a256), .unset] [(.int (62 : Int32))]) := fun t k => k270 t (st271.trans k)
              have k273 : own_To p.tables e below (s₁.setTop (entryFrame m #[(.int p1)] maxLocals)) T271 (mkF m 63 #[.val (.int p1), .val (.int ((p1 &&& (2147483647 : Int32)) % (7 : Int32))), .val (.ref w_GREATER), .val (.int (1 : Int32)), .val (.int (1 : Int32)), .val (.ref a256), .unset] [(.int (62 : Int32)), (.int (62 : Int32))]) := fun t k => k272 t (XS.bipush X271.here hx rfl (hb hby at_61) k)
              have k274 : own_To p.tables e below (s₁.setTop (entryFrame m #[(.int p1)] maxLocals)) T271 (mkF m 66 #[.val (.int p1), .val (.int ((p1 &&& (2147483647 : Int32)) % (7 : Int32))), .val (.ref w_GREATER), .val (.int (1 : Int32)), .val (.int (1 : Int32)), .val (.ref a256), .unset] []) := fun t k => k273 t (XS.icmpNo X271.here hx rfl (hb hby at_63) rfl (teq (show (62 : Int32) = (62 : Int32) from (by decide))).2 k)
              have k275 : own_To p.tables e below (s₁.setTop (entryFrame m #[(.int p1)] maxLocals)) T271 (mkF m 68 #[.val (.int p1), .val (.int ((p1 &&& (2147483647 : Int32)) % (7 : Int32))), .val (.ref w_GREATER), .val (.int (1 : Int32)), .val (.int (1 : Int32)), .val (.ref a256), .unset] [(.ref a256)]) := fun t k => k274 t (XS.aload X271.here hx rfl (hb hby at_66) rfl rfl k)
              obtain ⟨a276, T276, h276, k1276, bs276, kc276, X276, e276, E276, hS276, hk276, hZ, hown, EX276, FC276, FV276, AV276, la276, lb276, CU276, LT276, SX276, st276⟩ := ldcCH X271 hx hZ hown (hw _ (List.mem_of_getElem? (i := 78) rfl)) (own_wS hw) e271 hS256 hk256 (own_EW hw) (List.mem_of_getElem? (i := 7) rfl) CH256 (vs := [(.int (60 : Int32)), (.int (62 : Int32))]) (z := (2 : Int32)) ⟨by decide, by decide⟩ (by decide) (by decide) (g := (mkF m 68 #[.val (.int p1), .val (.int ((p1 &&& (2147483647 : Int32)) % (7 : Int32))), .val (.ref w_GREATER), .val (.int (1 : Int32)), .val (.int (1 : Int32)), .val (.ref a256), .unset] [(.ref a256)])) rfl (hb hby at_68) (n := 8) (by decide) (by decide) (by decide) (by decide)
              have Z276 : n0 ≤ h276.size := Nat.le_trans Z256 E276.1
              have K276 : Keep h0 h276 [] := KK256.ext E276
              have CR276 := CR256.trans CU276
              have CH276 := CU276.1
              have k277 : own_To p.tables e below (s₁.setTop (entryFrame m #[(.int p1)] maxLocals)) T276 (mkF m 70 #[.val (.int p1), .val (.int ((p1 &&& (2147483647 : Int32)) % (7 : Int32))), .val (.ref w_GREATER), .val (.int (1 : Int32)), .val (.int (1 : Int32)), .val (.ref a256), .unset] [(.ref a276), (.ref a256)]) := fun t k => k275 t (st276 t k)
              obtain ⟨cq278, kq278, q278a, q278b, q278c⟩ := isOf hZ e276 (EX256.ext E276)
              obtain ⟨_, _, ⟨T278, L278, k278, n278⟩, -, X278, ⟨Lc278, hQ278, l278, y278, z278⟩, st278⟩ := X276.virtualBack hx (y := (⟨"java/lang/String", "equals", "(Ljava/lang/Object;)Z"⟩ : MethodName)) (z := (⟨"java/lang/String", "equals", "(Ljava/lang/Object;)Z"⟩ : MethodName)) hown (mvT hZ (hw _ (List.mem_of_getElem? (i := 79) rfl))) (mvT hZ (hw _ (List.mem_of_getElem? (i := 80) rfl))) (notFace_of_selects (args := #[]) (mvT hZ (hw _ (List.mem_of_getElem? (i := 82) rfl)))) (mvT hZ (hw _ (List.mem_of_getElem? (i := 82) rfl))) (mvT hZ (hw _ (List.mem_of_getElem? (i := 81) rfl))) (by decide) (backOf (W := 0) (own_m12_t5 l Z a0 hw [] a256 a276 w_COMPACT_STRINGS bs256 bs276 kc256 kc276 h276 n0 Z276 EX276 ((own_sta_keep S_COMPACT_STRINGS KC256 all0).ext E276) (FC256.ext E276) FC276 (FV256.ext E276) FV276 (AV256.ext E276) AV276 hz (Fld.ne (FV256.ext E276) FV276 (fun q => arv_ne (AV256.ext E276) AV276 (Or.inl (by decide)) (Value.ref.inj q)))) hZ (hw _ (List.mem_of_getElem? (i := 83) rfl)) (hw _ (List.mem_of_getElem? (i := 29) rfl)) (by decide) (by decide)) q278a q278c (g := (mkF m 70 #[.val (.int p1), .val (.int ((p1 &&& (2147483647 : Int32)) % (7 : Int32))), .val (.ref w_GREATER), .val (.int (1 : Int32)), .val (.int (1 : Int32)), .val (.ref a256), .unset] [(.ref a276), (.ref a256)])) rfl (by rw [hml]; rfl) (Steps.refl _) (argsL := [(.ref a276)]) (rest := []) (lenOf own_pd10 rfl) rfl (by show 2 * 0 + _ ≤ _; exact Nat.le_of_eq rfl) (hb hby at_70) (fun _ _ => ⟨rfl, e276, (by decide : 4 + 0 ≤ _), (by decide : 20 + 0 ≤ _)⟩)
              dsimp only [Pt.U, Pt.locs, Pt.cells, Pt.slots] at X278 l278 y278 z278 st278 hQ278
              subst l278 y278 z278
              rw [show own_f12_t5 = (0 : Int32) from rfl] at hQ278
              obtain ⟨rfl, N278q, e278⟩ := hQ278
              have N278 := Fr.app N271 N278q
              have k279 : own_To p.tables e below (s₁.setTop (entryFrame m #[(.int p1)] maxLocals)) T278 (mkF m 73 #[.val (.int p1), .val (.int ((p1 &&& (2147483647 : Int32)) % (7 : Int32))), .val (.ref w_GREATER), .val (.int (1 : Int32)), .val (.int (1 : Int32)), .val (.ref a256), .unset] [(.int (0 : Int32))]) := fun t k => k277 t (st278.trans k)
              have k280 : own_To p.tables e below (s₁.setTop (entryFrame m #[(.int p1)] maxLocals)) T278 (mkF m 76 #[.val (.int p1), .val (.int ((p1 &&& (2147483647 : Int32)) % (7 : Int32))), .val (.ref w_GREATER), .val (.int (1 : Int32)), .val (.int (1 : Int32)), .val (.ref a256), .unset] []) := fun t k => k279 t (XS.ifNo X278.here hx rfl (hb hby at_73) rfl ((if0 _ _).trans (teq (show (0 : Int32) = (0 : Int32) from (by decide))).2) k)
              have k281 : own_To p.tables e below (s₁.setTop (entryFrame m #[(.int p1)] maxLocals)) T278 (mkF m 77 #[.val (.int p1), .val (.int ((p1 &&& (2147483647 : Int32)) % (7 : Int32))), .val (.ref w_GREATER), .val (.int (1 : Int32)), .val (.int (1 : Int32)), .val (.ref a256), .unset] [(.int (1 : Int32))]) := fun t k => k280 t (XS.iconst X278.here hx rfl (hb hby at_76) k)
              have k282 : own_To p.tables e below (s₁.setTop (entryFrame m #[(.int p1)] maxLocals)) T278 (mkF m 81 #[.val (.int p1), .val (.int ((p1 &&& (2147483647 : Int32)) % (7 : Int32))), .val (.ref w_GREATER), .val (.int (1 : Int32)), .val (.int (1 : Int32)), .val (.ref a256), .unset] [(.int (1 : Int32))]) := fun t k => k281 t (XS.goto X278.here hx rfl (pc0 := 77) (pc' := 81) rfl (hb hby at_77) (by decide) (by decide) k)
              have k283 : own_To p.tables e below (s₁.setTop (entryFrame m #[(.int p1)] maxLocals)) T278 (mkF m 83 #[.val (.int p1), .val (.int ((p1 &&& (2147483647 : Int32)) % (7 : Int32))), .val (.ref w_GREATER), .val (.int (1 : Int32)), .val (.int (1 : Int32)), .val (.ref a256), .val (.int (1 : Int32))] []) := fun t k => k282 t (XS.istore X278.here hx rfl (hb hby at_81) rfl (l' := #[.val (.int p1), .val (.int ((p1 &&& (2147483647 : Int32)) % (7 : Int32))), .val (.ref w_GREATER), .val (.int (1 : Int32)), .val (.int (1 : Int32)), .val (.ref a256), .val (.int (1 : Int32))]) rfl k)
              have k284 : own_To p.tables e below (s₁.setTop (entryFrame m #[(.int p1)] maxLocals)) T278 (mkF m 84 #[.val (.int p1), .val (.int ((p1 &&& (2147483647 : Int32)) % (7 : Int32))), .val (.ref w_GREATER), .val (.int (1 : Int32)), .val (.int (1 : Int32)), .val (.ref a256), .val (.int (1 : Int32))] [(.int (1 : Int32))]) := fun t k => k283 t (XS.iloadN X278.here hx rfl (hb hby at_83) rfl k)
              have k285 : own_To p.tables e below (s₁.setTop (entryFrame m #[(.int p1)] maxLocals)) T278 (mkF m 86 #[.val (.int p1), .val (.int ((p1 &&& (2147483647 : Int32)) % (7 : Int32))), .val (.ref w_GREATER), .val (.int (1 : Int32)), .val (.int (1 : Int32)), .val (.ref a256), .val (.int (1 : Int32))] [(.int (1 : Int32)), (.int (1 : Int32))]) := fun t k => k284 t (XS.iload X278.here hx rfl (hb hby at_84) rfl k)
              have k286 : own_To p.tables e below (s₁.setTop (entryFrame m #[(.int p1)] maxLocals)) T278 (mkF m 89 #[.val (.int p1), .val (.int ((p1 &&& (2147483647 : Int32)) % (7 : Int32))), .val (.ref w_GREATER), .val (.int (1 : Int32)), .val (.int (1 : Int32)), .val (.ref a256), .val (.int (1 : Int32))] []) := fun t k => k285 t (XS.icmpNo X278.here hx rfl (hb hby at_86) rfl (teq (show (1 : Int32) = (1 : Int32) from (by decide))).2 k)
              have k287 : own_To p.tables e below (s₁.setTop (entryFrame m #[(.int p1)] maxLocals)) T278 (mkF m 90 #[.val (.int p1), .val (.int ((p1 &&& (2147483647 : Int32)) % (7 : Int32))), .val (.ref w_GREATER), .val (.int (1 : Int32)), .val (.int (1 : Int32)), .val (.ref a256), .val (.int (1 : Int32))] [(.int (1 : Int32))]) := fun t k => k286 t (XS.iloadN X278.here hx rfl (hb hby at_89) rfl k)
              have k288 : own_To p.tables e below (s₁.setTop (entryFrame m #[(.int p1)] maxLocals)) T278 (mkF m 92 #[.val (.int p1), .val (.int ((p1 &&& (2147483647 : Int32)) % (7 : Int32))), .val (.ref w_GREATER), .val (.int (1 : Int32)), .val (.int (1 : Int32)), .val (.ref a256), .val (.int (1 : Int32))] [(.int (1 : Int32)), (.int (1 : Int32))]) := fun t k => k287 t (XS.iload X278.here hx rfl (hb hby at_90) rfl k)
              have k289 : own_To p.tables e below (s₁.setTop (entryFrame m #[(.int p1)] maxLocals)) T278 (mkF m 95 #[.val (.int p1), .val (.int ((p1 &&& (2147483647 : Int32)) % (7 : Int32))), .val (.ref w_GREATER), .val (.int (1 : Int32)), .val (.int (1 : Int32)), .val (.ref a256), .val (.int (1 : Int32))] []) := fun t k => k288 t (XS.icmpNo X278.here hx rfl (hb hby at_92) rfl (teq (show (1 : Int32) = (1 : Int32) from (by decide))).2 k)
              have k290 : own_To p.tables e below (s₁.setTop (entryFrame m #[(.int p1)] maxLocals)) T278 (mkF m 96 #[.val (.int p1), .val (.int ((p1 &&& (2147483647 : Int32)) % (7 : Int32))), .val (.ref w_GREATER), .val (.int (1 : Int32)), .val (.int (1 : Int32)), .val (.ref a256), .val (.int (1 : Int32))] [(.int (1 : Int32))]) := fun t k => k289 t (XS.iconst X278.here hx rfl (hb hby at_95) k)
              have k291 : own_To p.tables e below (s₁.setTop (entryFrame m #[(.int p1)] maxLocals)) T278 (mkF m 100 #[.val (.int p1), .val (.int ((p1 &&& (2147483647 : Int32)) % (7 : Int32))), .val (.ref w_GREATER), .val (.int (1 : Int32)), .val (.int (1 : Int32)), .val (.ref a256), .val (.int (1 : Int32))] [(.int (1 : Int32))]) := fun t k => k290 t (XS.goto X278.here hx rfl (pc0 := 96) (pc' := 100) rfl (hb hby at_96) (by decide) (by decide) k)
              obtain ⟨fs, hr, hrun, hended, hEnd⟩ := X278.leaveW hS276 (by rw [e278]; exact hk276) (v := some (.int (1 : Int32))) (fun h => by rw [Bd.returns] at h; cases h)
              have hChr := CR276.trans (CHv.at X278 hZ (own_EW hw) CH276)
              refine ⟨_, _, k291 _ ?_, hrun, hended, _, _, rfl, ?_, ?_, own_monoW hEnd (by decide) (by decide)⟩
              · exact retN X278 hx (t := .boolean) Bd.returns (by simp) (hb hby at_100) hr
              · show own_Q0 n0 _ _
                exact ⟨rfl, N278⟩
              · rw [hh]; show CHr Z consts_1 s.vm h0 T278.vm T278.heap; rw [e278]; exact hChr
            · obtain ⟨_, _, ⟨T292, L292, k292, n292⟩, -, X292, ⟨Lc292, hQ292, l292, y292, z292⟩, st292⟩ := Jvm.LawKit.callS X0 hx (y := (⟨"com/example/grace_period/graceperiod/server/cql/RelationIsOrderingPinLaw", "pick", "(I)Lcom/example/grace_period/graceperiod/server/cql/CqlClause$Relation;"⟩ : MethodName)) hown (mvT hZ (hw _ (List.mem_of_getElem? (i := 1) rfl))) (mvT hZ (hw _ (List.mem_of_getElem? (i := 2) rfl))) (mvT hZ (hw _ (List.mem_of_getElem? (i := 3) rfl))) (mvT hZ (hw _ (List.mem_of_getElem? (i := 4) rfl))) (by decide) (backOf (W := 0) (own_m1 l Z a0 hw [] ((p1 &&& (2147483647 : Int32)) % (7 : Int32)) w_SERVER_CHOICE w_EXACT w_NOT_EQUAL w_LESS w_LESS_OR_EQUAL w_GREATER w_GREATER_OR_EQUAL h0 n0 Z0 S_SERVER_CHOICE S_EXACT S_NOT_EQUAL S_LESS S_LESS_OR_EQUAL S_GREATER S_GREATER_OR_EQUAL) hZ (hw _ (List.mem_of_getElem? (i := 4) rfl)) (hw _ (List.mem_of_getElem? (i := 3) rfl)) (by decide) (by decide)) (g := (mkF m 9 #[.val (.int p1), .val (.int ((p1 &&& (2147483647 : Int32)) % (7 : Int32))), .unset, .unset, .unset, .unset, .unset] [(.int ((p1 &&& (2147483647 : Int32)) % (7 : Int32)))])) rfl (by rw [hml]; rfl) (argsL := [(.int ((p1 &&& (2147483647 : Int32)) % (7 : Int32)))]) (rest := []) (lenOf own_pd7 rfl) rfl (by show 2 * 0 + _ ≤ _; exact Nat.le_of_eq rfl) (hb hby at_9) (fun _ _ => ⟨rfl, e0, (by decide : 0 + 0 ≤ _), (by decide : 0 + 0 ≤ _)⟩)
              dsimp only [Pt.U, Pt.locs, Pt.cells, Pt.slots] at X292 l292 y292 z292 st292 hQ292
              subst l292 y292 z292
              rw [show own_f1 ((p1 &&& (2147483647 : Int32)) % (7 : Int32)) w_SERVER_CHOICE w_EXACT w_NOT_EQUAL w_LESS w_LESS_OR_EQUAL w_GREATER w_GREATER_OR_EQUAL = w_GREATER_OR_EQUAL from by unfold own_f1; rw [if_neg (show ¬ (((p1 &&& (2147483647 : Int32)) % (7 : Int32)) = (0 : Int32)) from hc8), if_neg (show ¬ (((p1 &&& (2147483647 : Int32)) % (7 : Int32)) = (1 : Int32)) from hc51), if_neg (show ¬ (((p1 &&& (2147483647 : Int32)) % (7 : Int32)) = (2 : Int32)) from hc94), if_neg (show ¬ (((p1 &&& (2147483647 : Int32)) % (7 : Int32)) = (3 : Int32)) from hc151), if_neg (show ¬ (((p1 &&& (2147483647 : Int32)) % (7 : Int32)) = (4 : Int32)) from hc196), if_neg (show ¬ (((p1 &&& (2147483647 : Int32)) % (7 : Int32)) = (5 : Int32)) from hc241)]] at hQ292
              obtain ⟨rfl, N292q, e292⟩ := hQ292
              have N292 := Fr.app N0 N292q
              have k293 : own_To p.tables e below (s₁.setTop (entryFrame m #[(.int p1)] maxLocals)) T292 (mkF m 12 #[.val (.int p1), .val (.int ((p1 &&& (2147483647 : Int32)) % (7 : Int32))), .unset, .unset, .unset, .unset, .unset] [(.ref w_GREATER_OR_EQUAL)]) := fun t k => k7 t (st292 t k)
              have k294 : own_To p.tables e below (s₁.setTop (entryFrame m #[(.int p1)] maxLocals)) T292 (mkF m 13 #[.val (.int p1), .val (.int ((p1 &&& (2147483647 : Int32)) % (7 : Int32))), .val (.ref w_GREATER_OR_EQUAL), .unset, .unset, .unset, .unset] []) := fun t k => k293 t (XS.astoreN X292.here hx rfl (hb hby at_12) rfl rfl (l' := #[.val (.int p1), .val (.int ((p1 &&& (2147483647 : Int32)) % (7 : Int32))), .val (.ref w_GREATER_OR_EQUAL), .unset, .unset, .unset, .unset]) rfl k)
              have k295 : own_To p.tables e below (s₁.setTop (entryFrame m #[(.int p1)] maxLocals)) T292 (mkF m 14 #[.val (.int p1), .val (.int ((p1 &&& (2147483647 : Int32)) % (7 : Int32))), .val (.ref w_GREATER_OR_EQUAL), .unset, .unset, .unset, .unset] [(.ref w_GREATER_OR_EQUAL)]) := fun t k => k294 t (XS.aloadN X292.here hx rfl (hb hby at_13) rfl rfl k)
              obtain ⟨cq296, kq296, q296a, q296b, q296c⟩ := isOf hZ e292 E_w_GREATER_OR_EQUAL
              obtain ⟨_, _, ⟨T296, L296, k296, n296⟩, -, X296, ⟨Lc296, hQ296, l296, y296, z296⟩, st296⟩ := X292.virtualBack hx (y := (⟨"com/example/grace_period/graceperiod/server/cql/CqlClause$Relation", "isOrdering", "()Z"⟩ : MethodName)) (z := (⟨"com/example/grace_period/graceperiod/server/cql/CqlClause$Relation", "isOrdering", "()Z"⟩ : MethodName)) hown (mvT hZ (hw _ (List.mem_of_getElem? (i := 8) rfl))) (mvT hZ (hw _ (List.mem_of_getElem? (i := 9) rfl))) (notFace_of_selects (args := #[]) (mvT hZ (hw _ (List.mem_of_getElem? (i := 11) rfl)))) (mvT hZ (hw _ (List.mem_of_getElem? (i := 11) rfl))) (mvT hZ (hw _ (List.mem_of_getElem? (i := 10) rfl))) (by decide) (backOf (W := 0) (own_m2 l Z a0 hw [] w_GREATER_OR_EQUAL w_SERVER_CHOICE w_EXACT w_NOT_EQUAL h0 n0 Z0 S_SERVER_CHOICE S_EXACT S_NOT_EQUAL) hZ (hw _ (List.mem_of_getElem? (i := 12) rfl)) (hw _ (List.mem_of_getElem? (i := 6) rfl)) (by decide) (by decide)) q296a q296c (g := (mkF m 14 #[.val (.int p1), .val (.int ((p1 &&& (2147483647 : Int32)) % (7 : Int32))), .val (.ref w_GREATER_OR_EQUAL), .unset, .unset, .unset, .unset] [(.ref w_GREATER_OR_EQUAL)])) rfl (by rw [hml]; rfl) (Steps.refl _) (argsL := []) (rest := []) (lenOf own_pd3 rfl) rfl (by show 2 * 0 + _ ≤ _; exact Nat.le_of_eq rfl) (hb hby at_14) (fun _ _ => ⟨rfl, e292, (by decide : 0 + 0 ≤ _), (by decide : 0 + 0 ≤ _)⟩)
              dsimp only [Pt.U, Pt.locs, Pt.cells, Pt.slots] at X296 l296 y296 z296 st296 hQ296
              subst l296 y296 z296
              rw [show own_f2 w_GREATER_OR_EQUAL w_SERVER_CHOICE w_EXACT w_NOT_EQUAL = (1 : Int32) from by unfold own_f2; rw [if_neg (show ¬ (w_GREATER_OR_EQUAL = w_SERVER_CHOICE) from (fun q => ne_SERVER_CHOICE_GREATER_OR_EQUAL (Eq.symm q))), if_neg (show ¬ (w_GREATER_OR_EQUAL = w_EXACT) from (fun q => ne_EXACT_GREATER_OR_EQUAL (Eq.symm q))), if_neg (show ¬ (w_GREATER_OR_EQUAL = w_NOT_EQUAL) from (fun q => ne_NOT_EQUAL_GREATER_OR_EQUAL (Eq.symm q)))]] at hQ296
              obtain ⟨rfl, N296q, e296⟩ := hQ296
              have N296 := Fr.app N292 N296q
              have k297 : own_To p.tables e below (s₁.setTop (entryFrame m #[(.int p1)] maxLocals)) T296 (mkF m 17 #[.val (.int p1), .val (.int ((p1 &&& (2147483647 : Int32)) % (7 : Int32))), .val (.ref w_GREATER_OR_EQUAL), .unset, .unset, .unset, .unset] [(.int (1 : Int32))]) := fun t k => k295 t (st296.trans k)
              have k298 : own_To p.tables e below (s₁.setTop (entryFrame m #[(.int p1)] maxLocals)) T296 (mkF m 18 #[.val (.int p1), .val (.int ((p1 &&& (2147483647 : Int32)) % (7 : Int32))), .val (.ref w_GREATER_OR_EQUAL), .val (.int (1 : Int32)), .unset, .unset, .unset] []) := fun t k => k297 t (XS.istoreN X296.here hx rfl (hb hby at_17) rfl (l' := #[.val (.int p1), .val (.int ((p1 &&& (2147483647 : Int32)) % (7 : Int32))), .val (.ref w_GREATER_OR_EQUAL), .val (.int (1 : Int32)), .unset, .unset, .unset]) rfl k)
              have k299 : own_To p.tables e below (s₁.setTop (entryFrame m #[(.int p1)] maxLocals)) T296 (mkF m 19 #[.val (.int p1), .val (.int ((p1 &&& (2147483647 : Int32)) % (7 : Int32))), .val (.ref w_GREATER_OR_EQUAL), .val (.int (1 : Int32)), .unset, .unset, .unset] [(.int ((p1 &&& (2147483647 : Int32)) % (7 : Int32)))]) := fun t k => k298 t (XS.iloadN X296.here hx rfl (hb hby at_18) rfl k)
              have k300 : own_To p.tables e below (s₁.setTop (entryFrame m #[(.int p1)] maxLocals)) T296 (mkF m 20 #[.val (.int p1), .val (.int ((p1 &&& (2147483647 : Int32)) % (7 : Int32))), .val (.ref w_GREATER_OR_EQUAL), .val (.int (1 : Int32)), .unset, .unset, .unset] [(.int (3 : Int32)), (.int ((p1 &&& (2147483647 : Int32)) % (7 : Int32)))]) := fun t k => k299 t (XS.iconst X296.here hx rfl (hb hby at_19) k)
              have k301 : own_To p.tables e below (s₁.setTop (entryFrame m #[(.int p1)] maxLocals)) T296 (mkF m 23 #[.val (.int p1), .val (.int ((p1 &&& (2147483647 : Int32)) % (7 : Int32))), .val (.ref w_GREATER_OR_EQUAL), .val (.int (1 : Int32)), .unset, .unset, .unset] []) := fun t k => k300 t (XS.icmpNo X296.here hx rfl (hb hby at_20) rfl (flt (show ¬ (((p1 &&& (2147483647 : Int32)) % (7 : Int32)) < (3 : Int32)) from (by rw [(own_rem7 p1 hc8 hc51 hc94 hc151 hc196 hc241)]; decide))).1 k)
              have k302 : own_To p.tables e below (s₁.setTop (entryFrame m #[(.int p1)] maxLocals)) T296 (mkF m 24 #[.val (.int p1), .val (.int ((p1 &&& (2147483647 : Int32)) % (7 : Int32))), .val (.ref w_GREATER_OR_EQUAL), .val (.int (1 : Int32)), .unset, .unset, .unset] [(.int (1 : Int32))]) := fun t k => k301 t (XS.iconst X296.here hx rfl (hb hby at_23) k)
              have k303 : own_To p.tables e below (s₁.setTop (entryFrame m #[(.int p1)] maxLocals)) T296 (mkF m 28 #[.val (.int p1), .val (.int ((p1 &&& (2147483647 : Int32)) % (7 : Int32))), .val (.ref w_GREATER_OR_EQUAL), .val (.int (1 : Int32)), .unset, .unset, .unset] [(.int (1 : Int32))]) := fun t k => k302 t (XS.goto X296.here hx rfl (pc0 := 24) (pc' := 28) rfl (hb hby at_24) (by decide) (by decide) k)
              have k304 : own_To p.tables e below (s₁.setTop (entryFrame m #[(.int p1)] maxLocals)) T296 (mkF m 30 #[.val (.int p1), .val (.int ((p1 &&& (2147483647 : Int32)) % (7 : Int32))), .val (.ref w_GREATER_OR_EQUAL), .val (.int (1 : Int32)), .val (.int (1 : Int32)), .unset, .unset] []) := fun t k => k303 t (XS.istore X296.here hx rfl (hb hby at_28) rfl (l' := #[.val (.int p1), .val (.int ((p1 &&& (2147483647 : Int32)) % (7 : Int32))), .val (.ref w_GREATER_OR_EQUAL), .val (.int (1 : Int32)), .val (.int (1 : Int32)), .unset, .unset]) rfl k)
              have k305 : own_To p.tables e below (s₁.setTop (entryFrame m #[(.int p1)] maxLocals)) T296 (mkF m 31 #[.val (.int p1), .val (.int ((p1 &&& (2147483647 : Int32)) % (7 : Int32))), .val (.ref w_GREATER_OR_EQUAL), .val (.int (1 : Int32)), .val (.int (1 : Int32)), .unset, .unset] [(.ref w_GREATER_OR_EQUAL)]) := fun t k => k304 t (XS.aloadN X296.here hx rfl (hb hby at_30) rfl rfl k)
              obtain ⟨cq306, kq306, q306a, q306b, q306c⟩ := isOf hZ e296 E_w_GREATER_OR_EQUAL
              obtain ⟨_, _, ⟨T306, L306, k306, n306⟩, -, X306, hSq306, gr306, ⟨Lc306, hQ306, l306, y306, z306, CU306⟩, st306⟩ := Jvm.Stand.virtualBackS X296 hx (y := (⟨"com/example/grace_period/graceperiod/server/cql/CqlClause$Relation", "symbol", "()Ljava/lang/String;"⟩ : MethodName)) (z := (⟨"com/example/grace_period/graceperiod/server/cql/CqlClause$Relation", "symbol", "()Ljava/lang/String;"⟩ : MethodName)) hown (mvT hZ (hw _ (List.mem_of_getElem? (i := 14) rfl))) (mvT hZ (hw _ (List.mem_of_getElem? (i := 15) rfl))) (notFace_of_selects (args := #[]) (mvT hZ (hw _ (List.mem_of_getElem? (i := 17) rfl)))) (mvT hZ (hw _ (List.mem_of_getElem? (i := 17) rfl))) (mvT hZ (hw _ (List.mem_of_getElem? (i := 16) rfl))) (by decide) (backOfSH (W := 0) (own_m3_GREATER_OR_EQUAL l Z a0 hw [] w_GREATER_OR_EQUAL h0 n0 Z0 F_ordinal_w_GREATER_OR_EQUAL E_w_GREATER_OR_EQUAL) hZ (hw _ (List.mem_of_getElem? (i := 18) rfl)) (hw _ (List.mem_of_getElem? (i := 6) rfl)) (by decide) (by decide) (own_EW hw) CH0) q306a q306c (g := (mkF m 31 #[.val (.int p1), .val (.int ((p1 &&& (2147483647 : Int32)) % (7 : Int32))), .val (.ref w_GREATER_OR_EQUAL), .val (.int (1 : Int32)), .val (.int (1 : Int32)), .unset, .unset] [(.ref w_GREATER_OR_EQUAL)])) rfl (by rw [hml]; rfl) (Steps.refl _) (argsL := []) (rest := []) (lenOf own_pd8 rfl) rfl (by show 2 * 0 + _ ≤ _; exact Nat.le_of_eq rfl) (hb hby at_31) (fun _ _ => ⟨rfl, e296, (by decide : 0 + 2 ≤ _), (by decide : 0 + 12 ≤ _)⟩)
              dsimp only [Pt.U, Pt.locs, Pt.cells, Pt.slots] at X306 l306 y306 z306 st306 hQ306 hSq306 gr306 CU306
              subst l306 y306 z306
              obtain ⟨X306, hS306, hZ, hown⟩ := rebS hS0 (by rw [e296]; exact hk0) X306 hSq306 gr306 hZ hown
              obtain ⟨h306, e306⟩ : ∃ z, T306.heap = z := ⟨_, rfl⟩
              rw [e306] at hQ306 CU306 hS306
              have hk306 : h306.size ≤ h306.size := Nat.le_refl _
              have CR306 := CR0.trans CU306
              have CH306 := CU306.1
              obtain ⟨a306, bs306, kc306, rfl, N306q, KC306, EX306, FC306, FV306, AV306⟩ := hQ306
              have KK306 : Keep h0 h306 [] := (Keep.refl h0 []).trans KC306 all0
              have Z306 : n0 ≤ h306.size := Nat.le_trans Z0 KC306.1
              have N306 := Fr.app N296 N306q
              have k307 : own_To p.tables e below (s₁.setTop (entryFrame m #[(.int p1)] maxLocals)) T306 (mkF m 34 #[.val (.int p1), .val (.int ((p1 &&& (2147483647 : Int32)) % (7 : Int32))), .val (.ref w_GREATER_OR_EQUAL), .val (.int (1 : Int32)), .val (.int (1 : Int32)), .unset, .unset] [(.ref a306)]) := fun t k => k305 t (st306.trans k)
              have k308 : own_To p.tables e below (s₁.setTop (entryFrame m #[(.int p1)] maxLocals)) T306 (mkF m 36 #[.val (.int p1), .val (.int ((p1 &&& (2147483647 : Int32)) % (7 : Int32))), .val (.ref w_GREATER_OR_EQUAL), .val (.int (1 : Int32)), .val (.int (1 : Int32)), .val (.ref a306), .unset] []) := fun t k => k307 t (XS.astore X306.here hx rfl (hb hby at_34) rfl rfl (l' := #[.val (.int p1), .val (.int ((p1 &&& (2147483647 : Int32)) % (7 : Int32))), .val (.ref w_GREATER_OR_EQUAL), .val (.int (1 : Int32)), .val (.int (1 : Int32)), .val (.ref a306), .unset]) rfl k)
              have k309 : own_To p.tables e below (s₁.setTop (entryFrame m #[(.int p1)] maxLocals)) T306 (mkF m 38 #[.val (.int p1), .val (.int ((p1 &&& (2147483647 : Int32)) % (7 : Int32))), .val (.ref w_GREATER_OR_EQUAL), .val (.int (1 : Int32)), .val (.int (1 : Int32)), .val (.ref a306), .unset] [(.ref a306)]) := fun t k => k308 t (XS.aload X306.here hx rfl (hb hby at_36) rfl rfl k)
              obtain ⟨cq310, kq310, q310a, q310b, q310c⟩ := isOf hZ e306 EX306
              obtain ⟨_, _, ⟨T310, L310, k310, n310⟩, -, X310, ⟨Lc310, hQ310, l310, y310, z310⟩, st310⟩ := X306.virtualBack hx (y := (⟨"java/lang/String", "length", "()I"⟩ : MethodName)) (z := (⟨"java/lang/String", "length", "()I"⟩ : MethodName)) hown (mvT hZ (hw _ (List.mem_of_getElem? (i := 36) rfl))) (mvT hZ (hw _ (List.mem_of_getElem? (i := 37) rfl))) (notFace_of_selects (args := #[]) (mvT hZ (hw _ (List.mem_of_getElem? (i := 39) rfl)))) (mvT hZ (hw _ (List.mem_of_getElem? (i := 39) rfl))) (mvT hZ (hw _ (List.mem_of_getElem? (i := 38) rfl))) (by decide) (backOf (W := 0) (own_m5_t6 l Z a0 hw [] a306 bs306 kc306 w_COMPACT_STRINGS h306 n0 Z306 FV306 AV306 (own_sta_keep S_COMPACT_STRINGS KC306 all0) FC306 EX306 hz) hZ (hw _ (List.mem_of_getElem? (i := 40) rfl)) (hw _ (List.mem_of_getElem? (i := 29) rfl)) (by decide) (by decide)) q310a q310c (g := (mkF m 38 #[.val (.int p1), .val (.int ((p1 &&& (2147483647 : Int32)) % (7 : Int32))), .val (.ref w_GREATER_OR_EQUAL), .val (.int (1 : Int32)), .val (.int (1 : Int32)), .val (.ref a306), .unset] [(.ref a306)])) rfl (by rw [hml]; rfl) (Steps.refl _) (argsL := []) (rest := []) (lenOf own_pd6 rfl) rfl (by show 2 * 0 + _ ≤ _; exact Nat.le_of_eq rfl) (hb hby at_38) (fun _ _ => ⟨rfl, e306, (by decide : 2 + 0 ≤ _), (by decide : 12 + 0 ≤ _)⟩)
              dsimp only [Pt.U, Pt.locs, Pt.cells, Pt.slots] at X310 l310 y310 z310 st310 hQ310
              subst l310 y310 z310
              rw [show own_f5_t6 = (2 : Int32) from rfl] at hQ310
              obtain ⟨rfl, N310q, e310⟩ := hQ310
              have N310 := Fr.app N306 N310q
              have k311 : own_To p.tables e below (s₁.setTop (entryFrame m #[(.int p1)] maxLocals)) T310 (mkF m 41 #[.val (.int p1), .val (.int ((p1 &&& (2147483647 : Int32)) % (7 : Int32))), .val (.ref w_GREATER_OR_EQUAL), .val (.int (1 : Int32)), .val (.int (1 : Int32)), .val (.ref a306), .unset] [(.int (2 : Int32))]) := fun t k => k309 t (st310.trans k)
              have k312 : own_To p.tables e below (s₁.setTop (entryFrame m #[(.int p1)] maxLocals)) T310 (mkF m 44 #[.val (.int p1), .val (.int ((p1 &&& (2147483647 : Int32)) % (7 : Int32))), .val (.ref w_GREATER_OR_EQUAL), .val (.int (1 : Int32)), .val (.int (1 : Int32)), .val (.ref a306), .unset] []) := fun t k => k311 t (XS.ifNo X310.here hx rfl (hb hby at_41) rfl ((if0 _ _).trans (tlt (show (0 : Int32) < (2 : Int32) from (by decide))).2.2.2) k)
              have k313 : own_To p.tables e below (s₁.setTop (entryFrame m #[(.int p1)] maxLocals)) T310 (mkF m 46 #[.val (.int p1), .val (.int ((p1 &&& (2147483647 : Int32)) % (7 : Int32))), .val (.ref w_GREATER_OR_EQUAL), .val (.int (1 : Int32)), .val (.int (1 : Int32)), .val (.ref a306), .unset] [(.ref a306)]) := fun t k => k312 t (XS.aload X310.here hx rfl (hb hby at_44) rfl rfl k)
              have k314 : own_To p.tables e below (s₁.setTop (entryFrame m #[(.int p1)] maxLocals)) T310 (mkF m 47 #[.val (.int p1), .val (.int ((p1 &&& (2147483647 : Int32)) % (7 : Int32))), .val (.ref w_GREATER_OR_EQUAL), .val (.int (1 : Int32)), .val (.int (1 : Int32)), .val (.ref a306), .unset] [(.int (0 : Int32)), (.ref a306)]) := fun t k => k313 t (XS.iconst X310.here hx rfl (hb hby at_46) k)
              obtain ⟨cq315, kq315, q315a, q315b, q315c⟩ := isOf hZ e310 EX306
              obtain ⟨_, _, ⟨T315, L315, k315, n315⟩, -, X315, ⟨Lc315, hQ315, l315, y315, z315⟩, st315⟩ := X310.virtualBack hx (y := (⟨"java/lang/String", "charAt", "(I)C"⟩ : MethodName)) (z := (⟨"java/lang/String", "charAt", "(I)C"⟩ : MethodName)) hown (mvT hZ (hw _ (List.mem_of_getElem? (i := 49) rfl))) (mvT hZ (hw _ (List.mem_of_getElem? (i := 50) rfl))) (notFace_of_selects (args := #[]) (mvT hZ (hw _ (List.mem_of_getElem? (i := 52) rfl)))) (mvT hZ (hw _ (List.mem_of_getElem? (i := 52) rfl))) (mvT hZ (hw _ (List.mem_of_getElem? (i := 51) rfl))) (by decide) (backOf (W := 0) (own_m7_t6 l Z a0 hw [] a306 w_COMPACT_STRINGS bs306 kc306 w_SIOOBE_FORMATTER h306 n0 Z306 (own_sta_keep S_COMPACT_STRINGS KC306 all0) FC306 EX306 FV306 AV306 (own_sta_keep S_SIOOBE_FORMATTER KC306 all0) hz hrS) hZ (hw _ (List.mem_of_getElem? (i := 53) rfl)) (hw _ (List.mem_of_getElem? (i := 29) rfl)) (by decide) (by decide)) q315a q315c (g := (mkF m 47 #[.val (.int p1), .val (.int ((p1 &&& (2147483647 : Int32)) % (7 : Int32))), .val (.ref w_GREATER_OR_EQUAL), .val (.int (1 : Int32)), .val (.int (1 : Int32)), .val (.ref a306), .unset] [(.int (0 : Int32)), (.ref a306)])) rfl (by rw [hml]; rfl) (Steps.refl _) (argsL := [(.int (0 : Int32))]) (rest := []) (lenOf own_pd9 rfl) rfl (by show 2 * 0 + _ ≤ _; exact Nat.le_of_eq rfl) (hb hby at_47) (fun _ _ => ⟨rfl, e310, (by decide : 2 + 0 ≤ _), (by decide : 12 + 0 ≤ _)⟩)
              dsimp only [Pt.U, Pt.locs, Pt.cells, Pt.slots] at X315 l315 y315 z315 st315 hQ315
              subst l315 y315 z315
              rw [show own_f7_t6 = (62 : Int32) from rfl] at hQ315
              obtain ⟨rfl, N315q, e315⟩ := hQ315
              have N315 := Fr.app N310 N315q
              have k316 : own_To p.tables e below (s₁.setTop (entryFrame m #[(.int p1)] maxLocals)) T315 (mkF m 50 #[.val (.int p1), .val (.int ((p1 &&& (2147483647 : Int32)) % (7 : Int32))), .val (.ref w_GREATER_OR_EQUAL), .val (.int (1 : Int32)), .val (.int (1 : Int32)), .val (.ref a306), .unset] [(.int (62 : Int32))]) := fun t k => k314 t (st315.trans k)
              have k317 : own_To p.tables e below (s₁.setTop (entryFrame m #[(.int p1)] maxLocals)) T315 (mkF m 52 #[.val (.int p1), .val (.int ((p1 &&& (2147483647 : Int32)) % (7 : Int32))), .val (.ref w_GREATER_OR_EQUAL), .val (.int (1 : Int32)), .val (.int (1 : Int32)), .val (.ref a306), .unset] [(.int (60 : Int32)), (.int (62 : Int32))]) := fun t k => k316 t (XS.bipush X315.here hx rfl (hb hby at_50) k)
              have k318 : own_To p.tables e below (s₁.setTop (entryFrame m #[(.int p1)] maxLocals)) T315 (mkF m 55 #[.val (.int p1), .val (.int ((p1 &&& (2147483647 : Int32)) % (7 : Int32))), .val (.ref w_GREATER_OR_EQUAL), .val (.int (1 : Int32)), .val (.int (1 : Int32)), .val (.ref a306), .unset] []) := fun t k => k317 t (XS.icmpNo X315.here hx rfl (hb hby at_52) rfl (feq (show ¬ ((62 : Int32) = (60 : Int32)) from (by decide))).1 k)
              have k319 : own_To p.tables e below (s₁.setTop (entryFrame m #[(.int p1)] maxLocals)) T315 (mkF m 57 #[.val (.int p1), .val (.int ((p1 &&& (2147483647 : Int32)) % (7 : Int32))), .val (.ref w_GREATER_OR_EQUAL), .val (.int (1 : Int32)), .val (.int (1 : Int32)), .val (.ref a306), .unset] [(.ref a306)]) := fun t k => k318 t (XS.aload X315.here hx rfl (hb hby at_55) rfl rfl k)
              have k320 : own_To p.tables e below (s₁.setTop (entryFrame m #[(.int p1)] maxLocals)) T315 (mkF m 58 #[.val (.int p1), .val (.int ((p1 &&& (2147483647 : Int32)) % (7 : Int32))), .val (.ref w_GREATER_OR_EQUAL), .val (.int (1 : Int32)), .val (.int (1 : Int32)), .val (.ref a306), .unset] [(.int (0 : Int32)), (.ref a306)]) := fun t k => k319 t (XS.iconst X315.here hx rfl (hb hby at_57) k)
              obtain ⟨cq321, kq321, q321a, q321b, q321c⟩ := isOf hZ e315 EX306
              obtain ⟨_, _, ⟨T321, L321, k321, n321⟩, -, X321, ⟨Lc321, hQ321, l321, y321, z321⟩, st321⟩ := X315.virtualBack hx (y := (⟨"java/lang/String", "charAt", "(I)C"⟩ : MethodName)) (z := (⟨"java/lang/String", "charAt", "(I)C"⟩ : MethodName)) hown (mvT hZ (hw _ (List.mem_of_getElem? (i := 49) rfl))) (mvT hZ (hw _ (List.mem_of_getElem? (i := 50) rfl))) (notFace_of_selects (args := #[]) (mvT hZ (hw _ (List.mem_of_getElem? (i := 52) rfl)))) (mvT hZ (hw _ (List.mem_of_getElem? (i := 52) rfl))) (mvT hZ (hw _ (List.mem_of_getElem? (i := 51) rfl))) (by decide) (backOf (W := 0) (own_m7_t6 l Z a0 hw [] a306 w_COMPACT_STRINGS bs306 kc306 w_SIOOBE_FORMATTER h306 n0 Z306 (own_sta_keep S_COMPACT_STRINGS KC306 all0) FC306 EX306 FV306 AV306 (own_sta_keep S_SIOOBE_FORMATTER KC306 all0) hz hrS) hZ (hw _ (List.mem_of_getElem? (i := 53) rfl)) (hw _ (List.mem_of_getElem? (i := 29) rfl)) (by decide) (by decide)) q321a q321c (g := (mkF m 58 #[.val (.int p1), .val (.int ((p1 &&& (2147483647 : Int32)) % (7 : Int32))), .val (.ref w_GREATER_OR_EQUAL), .val (.int (1 : Int32)), .val (.int (1 : Int32)), .val (.ref a306), .unset] [(.int (0 : Int32)), (.ref a306)])) rfl (by rw [hml]; rfl) (Steps.refl _) (argsL := [(.int (0 : Int32))]) (rest := []) (lenOf own_pd9 rfl) rfl (by show 2 * 0 + _ ≤ _; exact Nat.le_of_eq rfl) (hb hby at_58) (fun _ _ => ⟨rfl, e315, (by decide : 2 + 0 ≤ _), (by decide : 12 + 0 ≤ _)⟩)
              dsimp only [Pt.U, Pt.locs, Pt.cells, Pt.slots] at X321 l321 y321 z321 st321 hQ321
              subst l321 y321 z321
              rw [show own_f7_t6 = (62 : Int32) from rfl] at hQ321
              obtain ⟨rfl, N321q, e321⟩ := hQ321
              have N321 := Fr.app N315 N321q
              have k322 : own_To p.tables e below (s₁.setTop (entryFrame m #[(.int p1)] maxLocals)) T321 (mkF m 61 #[.val (.int p1), .val (.int ((p1 &&& (2147483647 : Int32)) % (7 : Int32))), .val (.ref w_GREATER_OR_EQUAL), .val (.int (1 : Int32)), .val (.int (1 : Int32)), .val (.ref a306), .unset] [(.int (62 : Int32))]) := fun t k => k320 t (st321.trans k)
              have k323 : own_To p.tables e below (s₁.setTop (entryFrame m #[(.int p1)] maxLocals)) T321 (mkF m 63 #[.val (.int p1), .val (.int ((p1 &&& (2147483647 : Int32)) % (7 : Int32))), .val (.ref w_GREATER_OR_EQUAL), .val (.int (1 : Int32)), .val (.int (1 : Int32)), .val (.ref a306), .unset] [(.int (62 : Int32)), (.int (62 : Int32))]) := fun t k => k322 t (XS.bipush X321.here hx rfl (hb hby at_61) k)
              have k324 : own_To p.tables e below (s₁.setTop (entryFrame m #[(.int p1)] maxLocals)) T321 (mkF m 66 #[.val (.int p1), .val (.int ((p1 &&& (2147483647 : Int32)) % (7 : Int32))), .val (.ref w_GREATER_OR_EQUAL), .val (.int (1 : Int32)), .val (.int (1 : Int32)), .val (.ref a306), .unset] []) := fun t k => k323 t (XS.icmpNo X321.here hx rfl (hb hby at_63) rfl (teq (show (62 : Int32) = (62 : Int32) from (by decide))).2 k)
              have k325 : own_To p.tables e below (s₁.setTop (entryFrame m #[(.int p1)] maxLocals)) T321 (mkF m 68 #[.val (.int p1), .val (.int ((p1 &&& (2147483647 : Int32)) % (7 : Int32))), .val (.ref w_GREATER_OR_EQUAL), .val (.int (1 : Int32)), .val (.int (1 : Int32)), .val (.ref a306), .unset] [(.ref a306)]) := fun t k => k324 t (XS.aload X321.here hx rfl (hb hby at_66) rfl rfl k)
              obtain ⟨a326, T326, h326, k1326, bs326, kc326, X326, e326, E326, hS326, hk326, hZ, hown, EX326, FC326, FV326, AV326, la326, lb326, CU326, LT326, SX326, st326⟩ := ldcCH X321 hx hZ hown (hw _ (List.mem_of_getElem? (i := 78) rfl)) (own_wS hw) e321 hS306 hk306 (own_EW hw) (List.mem_of_getElem? (i := 7) rfl) CH306 (vs := [(.int (60 : Int32)), (.int (62 : Int32))]) (z := (2 : Int32)) ⟨by decide, by decide⟩ (by decide) (by decide) (g := (mkF m 68 #[.val (.int p1), .val (.int ((p1 &&& (2147483647 : Int32)) % (7 : Int32))), .val (.ref w_GREATER_OR_EQUAL), .val (.int (1 : Int32)), .val (.int (1 : Int32)), .val (.ref a306), .unset] [(.ref a306)])) rfl (hb hby at_68) (n := 8) (by decide) (by decide) (by decide) (by decide)
              have Z326 : n0 ≤ h326.size := Nat.le_trans Z306 E326.1
              have K326 : Keep h0 h326 [] := KK306.ext E326
              have CR326 := CR306.trans CU326
              have CH326 := CU326.1
              have k327 : own_To p.tables e below (s₁.setTop (entryFrame m #[(.int p1)] maxLocals)) T326 (mkF m 70 #[.val (.int p1), .val (.int ((p1 &&& (2147483647 : Int32)) % (7 : Int32))), .val (.ref w_GREATER_OR_EQUAL), .val (.int (1 : Int32)), .val (.int (1 : Int32)), .val (.ref a306), .unset] [(.ref a326), (.ref a306)]) := fun t k => k325 t (st326 t k)
              obtain ⟨cq328, kq328, q328a, q328b, q328c⟩ := isOf hZ e326 (EX306.ext E326)
              obtain ⟨_, _, ⟨T328, L328, k328, n328⟩, -, X328, ⟨Lc328, hQ328, l328, y328, z328⟩, st328⟩ := X326.virtualBack hx (y := (⟨"java/lang/String", "equals", "(Ljava/lang/Object;)Z"⟩ : MethodName)) (z := (⟨"java/lang/String", "equals", "(Ljava/lang/Object;)Z"⟩ : MethodName)) hown (mvT hZ (hw _ (List.mem_of_getElem? (i := 79) rfl))) (mvT hZ (hw _ (List.mem_of_getElem? (i := 80) rfl))) (notFace_of_selects (args := #[]) (mvT hZ (hw _ (List.mem_of_getElem? (i := 82) rfl)))) (mvT hZ (hw _ (List.mem_of_getElem? (i := 82) rfl))) (mvT hZ (hw _ (List.mem_of_getElem? (i := 81) rfl))) (by decide) (backOf (W := 0) (own_m12_t6 l Z a0 hw [] a306 a326 w_COMPACT_STRINGS bs306 bs326 kc306 kc326 h326 n0 Z326 EX326 ((own_sta_keep S_COMPACT_STRINGS KC306 all0).ext E326) (FC306.ext E326) FC326 (FV306.ext E326) FV326 (AV306.ext E326) AV326 hz (Fld.ne (FV306.ext E326) FV326 (fun q => arv_ne (AV306.ext E326) AV326 (Or.inr ⟨0, by decide, by decide⟩) (Value.ref.inj q)))) hZ (hw _ (List.mem_of_getElem? (i := 83) rfl)) (hw _ (List.mem_of_getElem? (i := 29) rfl)) (by decide) (by decide)) q328a q328c (g := (mkF m 70 #[.val (.int p1), .val (.int ((p1 &&& (2147483647 : Int32)) % (7 : Int32))), .val (.ref w_GREATER_OR_EQUAL), .val (.int (1 : Int32)), .val (.int (1 : Int32)), .val (.ref a306), .unset] [(.ref a326), (.ref a306)])) rfl (by rw [hml]; rfl) (Steps.refl _) (argsL := [(.ref a326)]) (rest := []) (lenOf own_pd10 rfl) rfl (by show 2 * 0 + _ ≤ _; exact Nat.le_of_eq rfl) (hb hby at_70) (fun _ _ => ⟨rfl, e326, (by decide : 4 + 0 ≤ _), (by decide : 24 + 0 ≤ _)⟩)
              dsimp only [Pt.U, Pt.locs, Pt.cells, Pt.slots] at X328 l328 y328 z328 st328 hQ328
              subst l328 y328 z328
              rw [show own_f12_t6 = (0 : Int32) from rfl] at hQ328
              obtain ⟨rfl, N328q, e328⟩ := hQ328
              have N328 := Fr.app N321 N328q
              have k329 : own_To p.tables e below (s₁.setTop (entryFrame m #[(.int p1)] maxLocals)) T328 (mkF m 73 #[.val (.int p1), .val (.int ((p1 &&& (2147483647 : Int32)) % (7 : Int32))), .val (.ref w_GREATER_OR_EQUAL), .val (.int (1 : Int32)), .val (.int (1 : Int32)), .val (.ref a306), .unset] [(.int (0 : Int32))]) := fun t k => k327 t (st328.trans k)
              have k330 : own_To p.tables e below (s₁.setTop (entryFrame m #[(.int p1)] maxLocals)) T328 (mkF m 76 #[.val (.int p1), .val (.int ((p1 &&& (2147483647 : Int32)) % (7 : Int32))), .val (.ref w_GREATER_OR_EQUAL), .val (.int (1 : Int32)), .val (.int (1 : Int32)), .val (.ref a306), .unset] []) := fun t k => k329 t (XS.ifNo X328.here hx rfl (hb hby at_73) rfl ((if0 _ _).trans (teq (show (0 : Int32) = (0 : Int32) from (by decide))).2) k)
              have k331 : own_To p.tables e below (s₁.setTop (entryFrame m #[(.int p1)] maxLocals)) T328 (mkF m 77 #[.val (.int p1), .val (.int ((p1 &&& (2147483647 : Int32)) % (7 : Int32))), .val (.ref w_GREATER_OR_EQUAL), .val (.int (1 : Int32)), .val (.int (1 : Int32)), .val (.ref a306), .unset] [(.int (1 : Int32))]) := fun t k => k330 t (XS.iconst X328.here hx rfl (hb hby at_76) k)
              have k332 : own_To p.tables e below (s₁.setTop (entryFrame m #[(.int p1)] maxLocals)) T328 (mkF m 81 #[.val (.int p1), .val (.int ((p1 &&& (2147483647 : Int32)) % (7 : Int32))), .val (.ref w_GREATER_OR_EQUAL), .val (.int (1 : Int32)), .val (.int (1 : Int32)), .val (.ref a306), .unset] [(.int (1 : Int32))]) := fun t k => k331 t (XS.goto X328.here hx rfl (pc0 := 77) (pc' := 81) rfl (hb hby at_77) (by decide) (by decide) k)
              have k333 : own_To p.tables e below (s₁.setTop (entryFrame m #[(.int p1)] maxLocals)) T328 (mkF m 83 #[.val (.int p1), .val (.int ((p1 &&& (2147483647 : Int32)) % (7 : Int32))), .val (.ref w_GREATER_OR_EQUAL), .val (.int (1 : Int32)), .val (.int (1 : Int32)), .val (.ref a306), .val (.int (1 : Int32))] []) := fun t k => k332 t (XS.istore X328.here hx rfl (hb hby at_81) rfl (l' := #[.val (.int p1), .val (.int ((p1 &&& (2147483647 : Int32)) % (7 : Int32))), .val (.ref w_GREATER_OR_EQUAL), .val (.int (1 : Int32)), .val (.int (1 : Int32)), .val (.ref a306), .val (.int (1 : Int32))]) rfl k)
              have k334 : own_To p.tables e below (s₁.setTop (entryFrame m #[(.int p1)] maxLocals)) T328 (mkF m 84 #[.val (.int p1), .val (.int ((p1 &&& (2147483647 : Int32)) % (7 : Int32))), .val (.ref w_GREATER_OR_EQUAL), .val (.int (1 : Int32)), .val (.int (1 : Int32)), .val (.ref a306), .val (.int (1 : Int32))] [(.int (1 : Int32))]) := fun t k => k333 t (XS.iloadN X328.here hx rfl (hb hby at_83) rfl k)
              have k335 : own_To p.tables e below (s₁.setTop (entryFrame m #[(.int p1)] maxLocals)) T328 (mkF m 86 #[.val (.int p1), .val (.int ((p1 &&& (2147483647 : Int32)) % (7 : Int32))), .val (.ref w_GREATER_OR_EQUAL), .val (.int (1 : Int32)), .val (.int (1 : Int32)), .val (.ref a306), .val (.int (1 : Int32))] [(.int (1 : Int32)), (.int (1 : Int32))]) := fun t k => k334 t (XS.iload X328.here hx rfl (hb hby at_84) rfl k)
              have k336 : own_To p.tables e below (s₁.setTop (entryFrame m #[(.int p1)] maxLocals)) T328 (mkF m 89 #[.val (.int p1), .val (.int ((p1 &&& (2147483647 : Int32)) % (7 : Int32))), .val (.ref w_GREATER_OR_EQUAL), .val (.int (1 : Int32)), .val (.int (1 : Int32)), .val (.ref a306), .val (.int (1 : Int32))] []) := fun t k => k335 t (XS.icmpNo X328.here hx rfl (hb hby at_86) rfl (teq (show (1 : Int32) = (1 : Int32) from (by decide))).2 k)
              have k337 : own_To p.tables e below (s₁.setTop (entryFrame m #[(.int p1)] maxLocals)) T328 (mkF m 90 #[.val (.int p1), .val (.int ((p1 &&& (2147483647 : Int32)) % (7 : Int32))), .val (.ref w_GREATER_OR_EQUAL), .val (.int (1 : Int32)), .val (.int (1 : Int32)), .val (.ref a306), .val (.int (1 : Int32))] [(.int (1 : Int32))]) := fun t k => k336 t (XS.iloadN X328.here hx rfl (hb hby at_89) rfl k)
              have k338 : own_To p.tables e below (s₁.setTop (entryFrame m #[(.int p1)] maxLocals)) T328 (mkF m 92 #[.val (.int p1), .val (.int ((p1 &&& (2147483647 : Int32)) % (7 : Int32))), .val (.ref w_GREATER_OR_EQUAL), .val (.int (1 : Int32)), .val (.int (1 : Int32)), .val (.ref a306), .val (.int (1 : Int32))] [(.int (1 : Int32)), (.int (1 : Int32))]) := fun t k => k337 t (XS.iload X328.here hx rfl (hb hby at_90) rfl k)
              have k339 : own_To p.tables e below (s₁.setTop (entryFrame m #[(.int p1)] maxLocals)) T328 (mkF m 95 #[.val (.int p1), .val (.int ((p1 &&& (2147483647 : Int32)) % (7 : Int32))), .val (.ref w_GREATER_OR_EQUAL), .val (.int (1 : Int32)), .val (.int (1 : Int32)), .val (.ref a306), .val (.int (1 : Int32))] []) := fun t k => k338 t (XS.icmpNo X328.here hx rfl (hb hby at_92) rfl (teq (show (1 : Int32) = (1 : Int32) from (by decide))).2 k)
              have k340 : own_To p.tables e below (s₁.setTop (entryFrame m #[(.int p1)] maxLocals)) T328 (mkF m 96 #[.val (.int p1), .val (.int ((p1 &&& (2147483647 : Int32)) % (7 : Int32))), .val (.ref w_GREATER_OR_EQUAL), .val (.int (1 : Int32)), .val (.int (1 : Int32)), .val (.ref a306), .val (.int (1 : Int32))] [(.int (1 : Int32))]) := fun t k => k339 t (XS.iconst X328.here hx rfl (hb hby at_95) k)
              have k341 : own_To p.tables e below (s₁.setTop (entryFrame m #[(.int p1)] maxLocals)) T328 (mkF m 100 #[.val (.int p1), .val (.int ((p1 &&& (2147483647 : Int32)) % (7 : Int32))), .val (.ref w_GREATER_OR_EQUAL), .val (.int (1 : Int32)), .val (.int (1 : Int32)), .val (.ref a306), .val (.int (1 : Int32))] [(.int (1 : Int32))]) := fun t k => k340 t (XS.goto X328.here hx rfl (pc0 := 96) (pc' := 100) rfl (hb hby at_96) (by decide) (by decide) k)
              obtain ⟨fs, hr, hrun, hended, hEnd⟩ := X328.leaveW hS326 (by rw [e328]; exact hk326) (v := some (.int (1 : Int32))) (fun h => by rw [Bd.returns] at h; cases h)
              have hChr := CR326.trans (CHv.at X328 hZ (own_EW hw) CH326)
              refine ⟨_, _, k341 _ ?_, hrun, hended, _, _, rfl, ?_, ?_, own_monoW hEnd (by decide) (by decide)⟩
              · exact retN X328 hx (t := .boolean) Bd.returns (by simp) (hb hby at_100) hr
              · show own_Q0 n0 _ _
                exact ⟨rfl, N328⟩
              · rw [hh]; show CHr Z consts_1 s.vm h0 T328.vm T328.heap; rw [e328]; exact hChr
set_option maxRecDepth 65536 in
set_option maxHeartbeats 40000000 in
theorem comes_1 {Post : Tables → Env → Array Value → State → Outcome → State → Prop} (hpost : ∀ tb e args s v u, (limb_1_1.after args s (.returned v) u = true ∧ limb_1_2.after args s (.returned v) u = true ∧ True) → ReturnedEndW s (.returned v) u (Jvm.fieldLocs frame_1_writes args s ++ Jvm.arrayLocs frame_1_arrays args s ++ Jvm.staticLocs frame_1_statics s) 16 8256 → Post tb e args s (.returned v) u) :
    ArmFor flags0 classFile x code maxLocals ret World_1 tables_1 room_1 Calls_1 rest_1 Pre_1 Post := by
  intro l hfl _ _ p e ha hc hk s m args below hf hA hF happ hP
  obtain ⟨hcalls, hrest, hpre⟩ := hP
  obtain ⟨-, -, -, hnamed, -, -, -, hat⟩ := (Spec.applies_iff hf).mp happ
  obtain ⟨hg, hn⟩ := and_e (Cond.before_iff.mp (show (Jvm.Cond.and given_1 narrow_1).before args s = true from hpre))
  obtain ⟨hg1, hg2⟩ := and_e hg
  obtain ⟨w0, rfl⟩ : ∃ w0 : Value, args = #[w0] := by
    have hs : args.size = 1 := by simpa [Cond.value, given_1] using hg1
    obtain ⟨L⟩ := args
    match L, hs with
    | [w0], _ => exact ⟨w0, rfl⟩
  have hw := fun d (hd : d ∈ tables_1) => atoms_spec (ws := Jvm.Cond.code x code maxLocals ret :: tables_1) hat d (List.mem_cons_of_mem _ hd)
  have hfit : Fit s := fun {y c} hc i hi => by
    obtain ⟨ha, rfl⟩ := Array.getElem?_eq_some_iff.mp hc
    have q := List.all_eq_true.mp ((Array.all_eq_true_iff_forall_mem.mp hF) _ (Array.getElem_mem ha)) i (List.mem_range.mpr hi)
    simpa [Array.getElem?_eq_getElem hi] using q
  obtain ⟨i0, ei0⟩ := is_v hg2
  obtain rfl : w0 = (.int i0) := Option.some.inj ei0
  obtain ⟨hn1, hn2⟩ := and_e hn
  obtain ⟨hn3, hn4⟩ := and_e hn2
  obtain ⟨hn5, hn6⟩ := and_e hn4
  obtain ⟨hn7, hn8⟩ := and_e hn6
  obtain ⟨hn9, hn10⟩ := and_e hn8
  obtain ⟨hn11, hn12⟩ := and_e hn10
  obtain ⟨hn13, hn14⟩ := and_e hn12
  obtain ⟨hn15, hn16⟩ := and_e hn14
  obtain ⟨hn17, hn18⟩ := and_e hn16
  obtain ⟨hn19, hn20⟩ := and_e hn18
  obtain ⟨hn21, hn22⟩ := and_e hn20
  obtain ⟨hn23, hn24⟩ := and_e hn22
  obtain ⟨hn25, hn26⟩ := and_e hn24
  obtain ⟨x_SERVER_CHOICE, ev_SERVER_CHOICE⟩ := exa_v hn1
  have E_SERVER_CHOICE := Exa.start ev_SERVER_CHOICE hn1
  have S_SERVER_CHOICE := Sta.start ev_SERVER_CHOICE (Or.inr ⟨(hw _ (List.mem_of_getElem? (i := 6) rfl)), (hw _ (List.mem_of_getElem? (i := 7) rfl))⟩)
  obtain ⟨x_LESS, ev_LESS⟩ := exa_v hn5
  have E_LESS := Exa.start ev_LESS hn5
  have S_LESS := Sta.start ev_LESS (Or.inr ⟨(hw _ (List.mem_of_getElem? (i := 6) rfl)), (hw _ (List.mem_of_getElem? (i := 72) rfl))⟩)
  obtain ⟨x_EXACT, ev_EXACT⟩ := exa_v hn9
  have E_EXACT := Exa.start ev_EXACT hn9
  have S_EXACT := Sta.start ev_EXACT (Or.inr ⟨(hw _ (List.mem_of_getElem? (i := 6) rfl)), (hw _ (List.mem_of_getElem? (i := 74) rfl))⟩)
  obtain ⟨x_NOT_EQUAL, ev_NOT_EQUAL⟩ := exa_v hn13
  have E_NOT_EQUAL := Exa.start ev_NOT_EQUAL hn13
  have S_NOT_EQUAL := Sta.start ev_NOT_EQUAL (Or.inr ⟨(hw _ (List.mem_of_getElem? (i := 6) rfl)), (hw _ (List.mem_of_getElem? (i := 76) rfl))⟩)
  obtain ⟨x_GREATER, ev_GREATER⟩ := exa_v hn17
  have E_GREATER := Exa.start ev_GREATER hn17
  have S_GREATER := Sta.start ev_GREATER (Or.inr ⟨(hw _ (List.mem_of_getElem? (i := 6) rfl)), (hw _ (List.mem_of_getElem? (i := 90) rfl))⟩)
  obtain ⟨x_GREATER_OR_EQUAL, ev_GREATER_OR_EQUAL⟩ := exa_v hn21
  have E_GREATER_OR_EQUAL := Exa.start ev_GREATER_OR_EQUAL hn21
  have S_GREATER_OR_EQUAL := Sta.start ev_GREATER_OR_EQUAL (Or.inr ⟨(hw _ (List.mem_of_getElem? (i := 6) rfl)), (hw _ (List.mem_of_getElem? (i := 93) rfl))⟩)
  obtain ⟨x_LESS_OR_EQUAL, ev_LESS_OR_EQUAL⟩ := exa_v hn25
  have E_LESS_OR_EQUAL := Exa.start ev_LESS_OR_EQUAL hn25
  have S_LESS_OR_EQUAL := Sta.start ev_LESS_OR_EQUAL (Or.inr ⟨(hw _ (List.mem_of_getElem? (i := 6) rfl)), (hw _ (List.mem_of_getElem? (i := 96) rfl))⟩)
  have F_SERVER_CHOICE := own_fldint ev_SERVER_CHOICE hn3
  have F_LESS := own_fldint ev_LESS hn7
  have F_EXACT := own_fldint ev_EXACT hn11
  have F_NOT_EQUAL := own_fldint ev_NOT_EQUAL hn15
  have F_GREATER := own_fldint ev_GREATER hn19
  have F_GREATER_OR_EQUAL := own_fldint ev_GREATER_OR_EQUAL hn23
  have F_LESS_OR_EQUAL := own_fldint ev_LESS_OR_EQUAL hn26
  obtain ⟨hsets, hown0⟩ := atoms_of _ (rest_1_c_eq ▸ (show rest_1_c.before _ s = true from hrest))
  have n5 := not_v (Cond.before_iff.mp (hsets _ (List.mem_of_getElem? (i := 2) rfl)))
  obtain ⟨x_COMPACT_STRINGS, e10⟩ := is_v (Cond.before_iff.mp (hsets _ (List.mem_of_getElem? (i := 1) rfl)))
  have S_COMPACT_STRINGS := Sta.start e10 (Or.inl (hsets _ (List.mem_of_getElem? (i := 0) rfl)))
  obtain ⟨x_SIOOBE_FORMATTER, e14, hrS⟩ := isR_v (Cond.before_iff.mp (hsets _ (List.mem_of_getElem? (i := 8) rfl)))
  have S_SIOOBE_FORMATTER := Sta.start e14 (Or.inl (hsets _ (List.mem_of_getElem? (i := 7) rfl)))
  have hz : ¬ (x_COMPACT_STRINGS = (0 : Int32)) := gotF (Cond.eq_ints e10 (Term.int_eval (0))) n5
  have hCH : CHv s consts_1 s.vm s.heap := CHv.start (own_EW hw) hcalls.1 (hsets _ (List.mem_of_getElem? (i := 2) rfl)) (hw _ (List.mem_of_getElem? (i := 31) rfl)) (hw _ (List.mem_of_getElem? (i := 30) rfl))
  obtain ⟨n, o, h1, h2, h3, _, L, rfl, ⟨rfl, N⟩, -, hq⟩ := own_m0 l s _ hw tables_1 i0 x_SERVER_CHOICE x_EXACT x_NOT_EQUAL x_LESS x_LESS_OR_EQUAL x_GREATER x_GREATER_OR_EQUAL x_COMPACT_STRINGS x_SIOOBE_FORMATTER s.heap s.heap.size (Nat.le_refl _) S_SERVER_CHOICE S_EXACT S_NOT_EQUAL S_LESS S_LESS_OR_EQUAL S_GREATER S_GREATER_OR_EQUAL E_SERVER_CHOICE F_SERVER_CHOICE S_COMPACT_STRINGS S_SIOOBE_FORMATTER E_EXACT F_EXACT E_NOT_EQUAL F_NOT_EQUAL E_LESS F_LESS E_LESS_OR_EQUAL F_LESS_OR_EQUAL E_GREATER F_GREATER E_GREATER_OR_EQUAL F_GREATER_OR_EQUAL hz hrS (Fld.ne F_SERVER_CHOICE F_EXACT (fun q => absurd (Value.int.inj q) (by decide))) (Fld.ne F_SERVER_CHOICE F_NOT_EQUAL (fun q => absurd (Value.int.inj q) (by decide))) (Fld.ne F_SERVER_CHOICE F_LESS (fun q => absurd (Value.int.inj q) (by decide))) (Fld.ne F_SERVER_CHOICE F_LESS_OR_EQUAL (fun q => absurd (Value.int.inj q) (by decide))) (Fld.ne F_SERVER_CHOICE F_GREATER (fun q => absurd (Value.int.inj q) (by decide))) (Fld.ne F_SERVER_CHOICE F_GREATER_OR_EQUAL (fun q => absurd (Value.int.inj q) (by decide))) (Fld.ne F_EXACT F_NOT_EQUAL (fun q => absurd (Value.int.inj q) (by decide))) (Fld.ne F_EXACT F_LESS (fun q => absurd (Value.int.inj q) (by decide))) (Fld.ne F_EXACT F_LESS_OR_EQUAL (fun q => absurd (Value.int.inj q) (by decide))) (Fld.ne F_EXACT F_GREATER (fun q => absurd (Value.int.inj q) (by decide))) (Fld.ne F_EXACT F_GREATER_OR_EQUAL (fun q => absurd (Value.int.inj q) (by decide))) (Fld.ne F_NOT_EQUAL F_LESS (fun q => absurd (Value.int.inj q) (by decide))) (Fld.ne F_NOT_EQUAL F_LESS_OR_EQUAL (fun q => absurd (Value.int.inj q) (by decide))) (Fld.ne F_NOT_EQUAL F_GREATER (fun q => absurd (Value.int.inj q) (by decide))) (Fld.ne F_NOT_EQUAL F_GREATER_OR_EQUAL (fun q => absurd (Value.int.inj q) (by decide))) (Fld.ne F_LESS F_LESS_OR_EQUAL (fun q => absurd (Value.int.inj q) (by decide))) (Fld.ne F_LESS F_GREATER (fun q => absurd (Value.int.inj q) (by decide))) (Fld.ne F_LESS F_GREATER_OR_EQUAL (fun q => absurd (Value.int.inj q) (by decide))) (Fld.ne F_LESS_OR_EQUAL F_GREATER (fun q => absurd (Value.int.inj q) (by decide))) (Fld.ne F_LESS_OR_EQUAL F_GREATER_OR_EQUAL (fun q => absurd (Value.int.inj q) (by decide))) (Fld.ne F_GREATER F_GREATER_OR_EQUAL (fun q => absurd (Value.int.inj q) (by decide))) p e ha hc hk s m _ below hf ((Spec.applies_iff_loose hf).mp happ).1 ⟨rfl, State.Warmed39.refl s, rfl, hCH⟩ trivial
  refine ⟨n, _, h1, h2, h3, hpost _ _ _ _ _ _ ⟨Cond.after_iff.mpr rfl, Cond.after_iff.mpr (eq_i res_at (Term.int_eval (1)) rfl), trivial⟩ ⟨hq.1, hq.2.1, hq.2.2.1, (hq.2.2.2.sift fun y hy => Or.inr (N y hy)).mono (by decide) (by decide)⟩⟩
theorem main_1_1 : Claimed_1_1 := comes_1 fun _ _ _ _ _ _ h hF => ⟨h.1, hF⟩
theorem main_1_2 : Claimed_1_2 := comes_1 fun _ _ _ _ _ _ h hF => ⟨h.2.1, hF⟩
end Jvm.Pilot.@@N@@
namespace Jvm.Pilot.@@N@@
open Jvm Jvm.ClassFile Sem Op Lib Jvm.Free Jvm.Stand Jvm.Pilot.@@N@@.Jvm.D
/-! MADE BY PROGRAM (witnessworld.py) out of the Statement's table words and the real class files: 18 classes; the members and pool entries that the words name. The judged class is class 1, her method 2. -/
namespace start1
open Jvm.ClassFile
def u (s : String) : CpInfo := .utf8 (stringToUtf16 s)
/-- a pool by its gaps: so many unusable entries, then the entry; so many at the end -/
def gap : Nat → List CpInfo → List CpInfo
  | 0, r => r
  | n + 1, r => .unusable :: gap n r
def poolList (es : List (Nat × CpInfo)) (last : Nat) : List CpInfo := es.foldr (fun e r => gap e.1 (e.2 :: r)) (gap last [])
def pool (es : List (Nat × CpInfo)) (last : Nat) : Array CpInfo := ⟨poolList es last⟩
def fileOf (pool : Array CpInfo) (this : Nat) (attrs : Array Attribute := #[]) (ms : Array MethodInfo := #[]) (fl : Nat := 33) (sup : Nat := 0) (ifs : Array Nat := #[]) (fds : Array FieldInfo := #[]) : ClassFile where
  minorVersion := 0
  majorVersion := 65
  constantPool := pool
  accessFlags := fl
  thisClass := this
  superClass := sup
  interfaces := ifs
  fields := fds
  methods := ms
  attributes := attrs
def plain (name : String) (sup : Option ClassId) : Class where
  name := name
  kind := .ordinary
  loader := none
  accessFlags := 33
  super := sup
  interfaces := #[]
  cf := none
  fields := #[]
  methods := #[]
  instanceTypes := #[]
  staticTypes := #[]
  resolved := #[]
  callSites := []
  init := .initialized
  statics := none
  mirror := none

def pool0 : Array CpInfo := pool [(5, u "<init>"), (0, u "()V"), (1, .class_ 10), (1, u "java/lang/Object")] 113

def k0m0 : Method := { name := "<init>", desc := "()V", sig := { parameters := [], returnType := none }, accessFlags := 1, code := none }
/-- java/lang/Object -/
def k0 : Class := { plain "java/lang/Object" none with
  accessFlags := 33
  interfaces := #[]
  cf := some (fileOf pool0 8 #[] #[{ accessFlags := 1, nameIndex := 5, descriptorIndex := 6, attributes := #[] }] 33 0 #[] #[])
  fields := #[]
  methods := #[k0m0]
  instanceTypes := #[]
  staticTypes := #[]
  resolved := Array.replicate 124 none
  statics := none }

def pool1 : Array CpInfo := pool [(2, .class_ 4), (1, u "java/lang/Object"), (0, u "<init>"), (0, u "()V"), (0, .fieldref 8 9), (0, .class_ 10), (0, .nameAndType 11 12), (0, u "com/example/grace_period/graceperiod/server/cql/CqlClause$Relation"), (0, u "SERVER_CHOICE"), (0, u "Lcom/example/grace_period/graceperiod/server/cql/CqlClause$Relation;"), (0, .fieldref 8 14), (0, .nameAndType 15 12), (0, u "EXACT"), (0, .fieldref 8 17), (0, .nameAndType 18 12), (0, u "NOT_EQUAL"), (0, .fieldref 8 20), (0, .nameAndType 21 12), (0, u "LESS"), (0, .fieldref 8 23), (0, .nameAndType 24 12), (0, u "LESS_OR_EQUAL"), (0, .fieldref 8 26), (0, .nameAndType 27 12), (0, u "GREATER"), (0, .fieldref 8 29), (0, .nameAndType 30 12), (0, u "GREATER_OR_EQUAL"), (0, .integer 2147483647), (0, .methodref 33 34), (0, .class_ 35), (0, .nameAndType 36 37), (0, u "com/example/grace_period/graceperiod/server/cql/RelationIsOrderingPinLaw"), (0, u "pick"), (0, u "(I)Lcom/example/grace_period/graceperiod/server/cql/CqlClause$Relation;"), (0, .methodref 8 39), (0, .nameAndType 40 41), (0, u "isOrdering"), (0, u "()Z"), (0, .methodref 8 43), (0, .nameAndType 44 45), (0, u "symbol"), (0, u "()Ljava/lang/String;"), (0, .methodref 47 48), (0, .class_ 49), (0, .nameAndType 50 51), (0, u "java/lang/String"), (0, u "length"), (0, u "()I"), (0, .methodref 47 53), (0, .nameAndType 54 55), (0, u "charAt"), (0, u "(I)C"), (0, .string 57), (0, u "<>"), (0, .methodref 47 59), (0, .nameAndType 60 61), (0, u "equals"), (0, u "(Ljava/lang/Object;)Z"), (3, u "law"), (0, u "(I)Z")] 6

def k1m0 : Method := { name := "<init>", desc := "()V", sig := { parameters := [], returnType := none }, accessFlags := 2, code := none }
def k1c1 : Code := { maxStack := 2, maxLocals := 1, code := method_2_code, exceptionTable := #[], attributes := #[] }
def k1m1 : Method := { name := "pick", desc := "(I)Lcom/example/grace_period/graceperiod/server/cql/CqlClause$Relation;", sig := { parameters := [.int], returnType := some (.object "com/example/grace_period/graceperiod/server/cql/CqlClause$Relation") }, accessFlags := 10, code := some k1c1 }
def k1c2 : Code := { maxStack := 2, maxLocals := 7, code := code, exceptionTable := #[], attributes := #[] }
def k1m2 : Method := { name := "law", desc := "(I)Z", sig := { parameters := [.int], returnType := some .boolean }, accessFlags := 9, code := some k1c2 }
/-- com/example/grace_period/graceperiod/server/cql/RelationIsOrderingPinLaw -/
def k1 : Class := { plain "com/example/grace_period/graceperiod/server/cql/RelationIsOrderingPinLaw" (some 0) with
  accessFlags := 49
  interfaces := #[]
  cf := some (fileOf pool1 33 #[] #[{ accessFlags := 2, nameIndex := 5, descriptorIndex := 6, attributes := #[] }, { accessFlags := 10, nameIndex := 36, descriptorIndex := 37, attributes := #[] }, { accessFlags := 9, nameIndex := 65, descriptorIndex := 66, attributes := #[] }] 49 2 #[] #[])
  fields := #[]
  methods := #[k1m0, k1m1, k1m2]
  instanceTypes := #[]
  staticTypes := #[]
  resolved := Array.replicate 73 none
  statics := none }

def pool2 : Array CpInfo := pool [(1, .class_ 2), (0, u "java/lang/constant/Constable"), (0, .class_ 4), (0, u "java/lang/Object")] 6

/-- java/lang/constant/Constable -/
def k2 : Class := { plain "java/lang/constant/Constable" (some 0) with
  accessFlags := 1537
  interfaces := #[]
  cf := some (fileOf pool2 1 #[] #[] 1537 3 #[] #[])
  fields := #[]
  methods := #[]
  instanceTypes := #[]
  staticTypes := #[]
  resolved := Array.replicate 11 none
  statics := none }

def pool3 : Array CpInfo := pool [(1, .class_ 2), (0, u "java/lang/Comparable"), (0, .class_ 4), (0, u "java/lang/Object")] 7

/-- java/lang/Comparable -/
def k3 : Class := { plain "java/lang/Comparable" (some 0) with
  accessFlags := 1537
  interfaces := #[]
  cf := some (fileOf pool3 1 #[] #[] 1537 3 #[] #[])
  fields := #[]
  methods := #[]
  instanceTypes := #[]
  staticTypes := #[]
  resolved := Array.replicate 12 none
  statics := none }

def pool4 : Array CpInfo := pool [(1, .class_ 2), (0, u "java/io/Serializable"), (0, .class_ 4), (0, u "java/lang/Object")] 2

/-- java/io/Serializable -/
def k4 : Class := { plain "java/io/Serializable" (some 0) with
  accessFlags := 1537
  interfaces := #[]
  cf := some (fileOf pool4 1 #[] #[] 1537 3 #[] #[])
  fields := #[]
  methods := #[]
  instanceTypes := #[]
  staticTypes := #[]
  resolved := Array.replicate 7 none
  statics := none }

def pool5 : Array CpInfo := pool [(2, .class_ 4), (1, u "java/lang/Enum"), (0, u "name"), (0, u "Ljava/lang/String;"), (0, .fieldref 2 8), (0, .nameAndType 9 10), (0, u "ordinal"), (0, u "I"), (1, .class_ 14), (1, u "java/lang/Object"), (4, u "hash"), (86, .class_ 108), (1, u "java/lang/Enum$EnumDesc"), (2, .class_ 112), (0, u "java/lang/constant/Constable"), (0, .class_ 114), (0, u "java/lang/Comparable"), (0, .class_ 116), (0, u "java/io/Serializable"), (9, u "()I")] 77

def k5c0 : Code := { maxStack := 1, maxLocals := 1, code := jdk_37_method_2_code, exceptionTable := #[], attributes := #[] }
def k5m0 : Method := { name := "ordinal", desc := "()I", sig := { parameters := [], returnType := some .int }, accessFlags := 17, code := some k5c0 }
/-- java/lang/Enum -/
def k5 : Class := { plain "java/lang/Enum" (some 0) with
  accessFlags := 1057
  interfaces := #[2, 3, 4]
  cf := some (fileOf pool5 2 #[.nestMembers #[106]] #[{ accessFlags := 17, nameIndex := 9, descriptorIndex := 126, attributes := #[] }] 1057 12 #[111, 113, 115] #[{ accessFlags := 18, nameIndex := 5, descriptorIndex := 6, attributes := #[] }, { accessFlags := 18, nameIndex := 9, descriptorIndex := 10, attributes := #[] }, { accessFlags := 2, nameIndex := 19, descriptorIndex := 10, attributes := #[] }])
  fields := #[{ name := "name", type := (.object "java/lang/String"), accessFlags := 18, slot := 0, constantValue := 0 }, { name := "ordinal", type := .int, accessFlags := 18, slot := 1, constantValue := 0 }, { name := "hash", type := .int, accessFlags := 2, slot := 2, constantValue := 0 }]
  methods := #[k5m0]
  instanceTypes := #[(.object "java/lang/String"), .int, .int]
  staticTypes := #[]
  resolved := Array.replicate 204 none
  statics := none }

def pool6 : Array CpInfo := pool [(1, .class_ 2), (0, u "com/example/grace_period/graceperiod/server/cql/CqlClause$Relation"), (0, .fieldref 1 4), (0, .nameAndType 5 6), (0, u "SERVER_CHOICE"), (0, u "Lcom/example/grace_period/graceperiod/server/cql/CqlClause$Relation;"), (0, .fieldref 1 8), (0, .nameAndType 9 6), (0, u "EXACT"), (0, .fieldref 1 11), (0, .nameAndType 12 6), (0, u "NOT_EQUAL"), (2, u "LESS"), (2, u "LESS_OR_EQUAL"), (2, u "GREATER"), (2, u "GREATER_OR_EQUAL"), (2, u "$VALUES"), (0, u "[Lcom/example/grace_period/graceperiod/server/cql/CqlClause$Relation;"), (6, .class_ 37), (1, u "java/lang/Enum"), (12, u "symbol"), (0, u "()Ljava/lang/String;"), (6, .methodref 1 59), (0, .nameAndType 60 61), (0, u "ordinal"), (0, u "()I"), (5, .string 68), (0, u "="), (0, .string 70), (0, u "=="), (0, .string 72), (0, u "<>"), (0, .string 74), (0, u "<"), (0, .string 76), (0, u "<="), (0, .string 78), (0, u ">"), (0, .string 80), (0, u ">="), (19, u "isOrdering"), (0, u "()Z"), (5, .class_ 108), (0, u "com/example/grace_period/graceperiod/server/cql/CqlClause")] 2

def k6c0 : Code := { maxStack := 4, maxLocals := 1, code := prog_69_method_5_code, exceptionTable := #[], attributes := #[] }
def k6m0 : Method := { name := "symbol", desc := "()Ljava/lang/String;", sig := { parameters := [], returnType := some (.object "java/lang/String") }, accessFlags := 1, code := some k6c0 }
def k6c1 : Code := { maxStack := 2, maxLocals := 1, code := prog_69_method_6_code, exceptionTable := #[], attributes := #[] }
def k6m1 : Method := { name := "isOrdering", desc := "()Z", sig := { parameters := [], returnType := some .boolean }, accessFlags := 1, code := some k6c1 }
/-- com/example/grace_period/graceperiod/server/cql/CqlClause$Relation -/
def k6 : Class := { plain "com/example/grace_period/graceperiod/server/cql/CqlClause$Relation" (some 5) with
  accessFlags := 16433
  interfaces := #[]
  cf := some (fileOf pool6 1 #[.nestHost 107] #[{ accessFlags := 1, nameIndex := 50, descriptorIndex := 51, attributes := #[] }, { accessFlags := 1, nameIndex := 100, descriptorIndex := 101, attributes := #[] }] 16433 35 #[] #[{ accessFlags := 16409, nameIndex := 5, descriptorIndex := 6, attributes := #[] }, { accessFlags := 16409, nameIndex := 9, descriptorIndex := 6, attributes := #[] }, { accessFlags := 16409, nameIndex := 12, descriptorIndex := 6, attributes := #[] }, { accessFlags := 16409, nameIndex := 15, descriptorIndex := 6, attributes := #[] }, { accessFlags := 16409, nameIndex := 18, descriptorIndex := 6, attributes := #[] }, { accessFlags := 16409, nameIndex := 21, descriptorIndex := 6, attributes := #[] }, { accessFlags := 16409, nameIndex := 24, descriptorIndex := 6, attributes := #[] }, { accessFlags := 4122, nameIndex := 27, descriptorIndex := 28, attributes := #[] }])
  fields := #[{ name := "SERVER_CHOICE", type := (.object "com/example/grace_period/graceperiod/server/cql/CqlClause$Relation"), accessFlags := 16409, slot := 0, constantValue := 0 }, { name := "EXACT", type := (.object "com/example/grace_period/graceperiod/server/cql/CqlClause$Relation"), accessFlags := 16409, slot := 1, constantValue := 0 }, { name := "NOT_EQUAL", type := (.object "com/example/grace_period/graceperiod/server/cql/CqlClause$Relation"), accessFlags := 16409, slot := 2, constantValue := 0 }, { name := "LESS", type := (.object "com/example/grace_period/graceperiod/server/cql/CqlClause$Relation"), accessFlags := 16409, slot := 3, constantValue := 0 }, { name := "LESS_OR_EQUAL", type := (.object "com/example/grace_period/graceperiod/server/cql/CqlClause$Relation"), accessFlags := 16409, slot := 4, constantValue := 0 }, { name := "GREATER", type := (.object "com/example/grace_period/graceperiod/server/cql/CqlClause$Relation"), accessFlags := 16409, slot := 5, constantValue := 0 }, { name := "GREATER_OR_EQUAL", type := (.object "com/example/grace_period/graceperiod/server/cql/CqlClause$Relation"), accessFlags := 16409, slot := 6, constantValue := 0 }, { name := "$VALUES", type := (.array (.object "com/example/grace_period/graceperiod/server/cql/CqlClause$Relation")), accessFlags := 4122, slot := 7, constantValue := 0 }]
  methods := #[k6m0, k6m1]
  instanceTypes := #[(.object "java/lang/String"), .int, .int]
  staticTypes := #[(.object "com/example/grace_period/graceperiod/server/cql/CqlClause$Relation"), (.object "com/example/grace_period/graceperiod/server/cql/CqlClause$Relation"), (.object "com/example/grace_period/graceperiod/server/cql/CqlClause$Relation"), (.object "com/example/grace_period/graceperiod/server/cql/CqlClause$Relation"), (.object "com/example/grace_period/graceperiod/server/cql/CqlClause$Relation"), (.object "com/example/grace_period/graceperiod/server/cql/CqlClause$Relation"), (.object "com/example/grace_period/graceperiod/server/cql/CqlClause$Relation"), (.array (.object "com/example/grace_period/graceperiod/server/cql/CqlClause$Relation"))]
  resolved := Array.replicate 111 none
  statics := some 0 }

def pool7 : Array CpInfo := pool [(2, .class_ 4), (1, u "java/lang/CharSequence"), (42, .class_ 48), (0, u "java/lang/CharSequence$1CodePointIterator"), (10, .class_ 60), (0, u "java/lang/CharSequence$1CharIterator"), (5, .class_ 67), (0, u "java/lang/Object")] 63

/-- java/lang/CharSequence -/
def k7 : Class := { plain "java/lang/CharSequence" (some 0) with
  accessFlags := 1537
  interfaces := #[]
  cf := some (fileOf pool7 2 #[.nestMembers #[47, 59]] #[] 1537 66 #[] #[])
  fields := #[]
  methods := #[]
  instanceTypes := #[]
  staticTypes := #[]
  resolved := Array.replicate 131 none
  statics := none }

def pool8 : Array CpInfo := pool [(1, .class_ 2), (0, u "java/lang/constant/ConstantDesc"), (0, .class_ 4), (0, u "java/lang/Object")] 32

/-- java/lang/constant/ConstantDesc -/
def k8 : Class := { plain "java/lang/constant/ConstantDesc" (some 0) with
  accessFlags := 1537
  interfaces := #[]
  cf := some (fileOf pool8 1 #[] #[] 1537 3 #[] #[])
  fields := #[]
  methods := #[]
  instanceTypes := #[]
  staticTypes := #[]
  resolved := Array.replicate 37 none
  statics := none }

def pool9 : Array CpInfo := pool [(2, .class_ 4), (1, u "java/lang/Object"), (0, u "<init>"), (0, u "()V"), (2, .fieldref 10 11), (0, .class_ 12), (0, .nameAndType 13 14), (0, u "java/lang/String"), (0, u "value"), (0, u "[B"), (0, .fieldref 10 16), (0, .nameAndType 17 18), (0, u "coder"), (0, u "B"), (2, u "hash"), (0, u "I"), (2, u "hashIsZero"), (0, u "Z"), (11, .fieldref 10 39), (0, .nameAndType 40 26), (0, u "COMPACT_STRINGS"), (66, .class_ 109), (1, u "java/lang/StringLatin1"), (32, u "()Z"), (191, u "()I"), (0, .methodref 10 336), (0, .nameAndType 17 337), (0, u "()B"), (25, u "([BI)C"), (27, u "(II)V"), (35, u "(I)C"), (64, .methodref 10 493), (0, .nameAndType 494 142), (0, u "isLatin1"), (0, .methodref 107 496), (0, .nameAndType 497 363), (0, u "charAt"), (3, u "checkIndex"), (5, u "length"), (33, .methodref 107 542), (0, .nameAndType 543 544), (0, u "equals"), (0, u "([B[B)Z"), (28, u "(Ljava/lang/Object;)Z"), (1, .class_ 576), (0, u "java/lang/CharSequence"), (22, u "CASE_INSENSITIVE_ORDER"), (0, u "Ljava/util/Comparator;"), (452, .fieldref 1054 1055), (0, .class_ 1056), (0, .nameAndType 1057 1058), (0, u "jdk/internal/util/Preconditions"), (0, u "SIOOBE_FORMATTER"), (0, u "Ljava/util/function/BiFunction;"), (0, .methodref 1054 1060), (0, .nameAndType 501 1061), (0, u "(IILjava/util/function/BiFunction;)I"), (39, u "serialPersistentFields"), (0, u "[Ljava/io/ObjectStreamField;"), (0, .class_ 1104), (0, u "java/lang/String$CaseInsensitiveComparator"), (1, .class_ 1107), (0, u "java/io/Serializable"), (0, .class_ 1109), (0, u "java/lang/Comparable"), (0, .class_ 1111), (0, u "java/lang/constant/Constable"), (0, .class_ 1113), (0, u "java/lang/constant/ConstantDesc"), (2, u "serialVersionUID"), (0, u "J"), (3, u "REPL"), (0, u "C"), (2, u "LATIN1"), (1, u "UTF16")] 323

def k9m0 : Method := { name := "<init>", desc := "()V", sig := { parameters := [], returnType := none }, accessFlags := 1, code := none }
def k9c1 : Code := { maxStack := 2, maxLocals := 1, code := jdk_42_method_54_code, exceptionTable := #[], attributes := #[] }
def k9m1 : Method := { name := "length", desc := "()I", sig := { parameters := [], returnType := some .int }, accessFlags := 1, code := some k9c1 }
def k9c2 : Code := { maxStack := 2, maxLocals := 2, code := jdk_42_method_56_code, exceptionTable := #[], attributes := #[] }
def k9m2 : Method := { name := "charAt", desc := "(I)C", sig := { parameters := [.int], returnType := some .char }, accessFlags := 1, code := some k9c2 }
def k9c3 : Code := { maxStack := 2, maxLocals := 3, code := jdk_42_method_66_code, exceptionTable := #[], attributes := #[] }
def k9m3 : Method := { name := "equals", desc := "(Ljava/lang/Object;)Z", sig := { parameters := [(.object "java/lang/Object")], returnType := some .boolean }, accessFlags := 1, code := some k9c3 }
def k9c4 : Code := { maxStack := 1, maxLocals := 1, code := jdk_42_method_152_code, exceptionTable := #[], attributes := #[] }
def k9m4 : Method := { name := "coder", desc := "()B", sig := { parameters := [], returnType := some .byte }, accessFlags := 0, code := some k9c4 }
def k9c5 : Code := { maxStack := 1, maxLocals := 1, code := jdk_42_method_154_code, exceptionTable := #[], attributes := #[] }
def k9m5 : Method := { name := "isLatin1", desc := "()Z", sig := { parameters := [], returnType := some .boolean }, accessFlags := 0, code := some k9c5 }
def k9c6 : Code := { maxStack := 3, maxLocals := 2, code := jdk_42_method_155_code, exceptionTable := #[], attributes := #[] }
def k9m6 : Method := { name := "checkIndex", desc := "(II)V", sig := { parameters := [.int, .int], returnType := none }, accessFlags := 8, code := some k9c6 }
/-- java/lang/String -/
def k9 : Class := { plain "java/lang/String" (some 0) with
  accessFlags := 49
  interfaces := #[4, 3, 7, 2, 8]
  cf := some (fileOf pool9 10 #[.nestMembers #[1103]] #[{ accessFlags := 1, nameIndex := 5, descriptorIndex := 6, attributes := #[] }, { accessFlags := 1, nameIndex := 507, descriptorIndex := 334, attributes := #[] }, { accessFlags := 1, nameIndex := 497, descriptorIndex := 427, attributes := #[] }, { accessFlags := 1, nameIndex := 543, descriptorIndex := 573, attributes := #[] }, { accessFlags := 0, nameIndex := 17, descriptorIndex := 337, attributes := #[] }, { accessFlags := 0, nameIndex := 494, descriptorIndex := 142, attributes := #[] }, { accessFlags := 8, nameIndex := 501, descriptorIndex := 391, attributes := #[] }] 49 2 #[1106, 1108, 575, 1110, 1112] #[{ accessFlags := 18, nameIndex := 13, descriptorIndex := 14, attributes := #[] }, { accessFlags := 18, nameIndex := 17, descriptorIndex := 18, attributes := #[] }, { accessFlags := 2, nameIndex := 21, descriptorIndex := 22, attributes := #[] }, { accessFlags := 2, nameIndex := 25, descriptorIndex := 26, attributes := #[] }, { accessFlags := 26, nameIndex := 1116, descriptorIndex := 1117, attributes := #[] }, { accessFlags := 24, nameIndex := 40, descriptorIndex := 26, attributes := #[] }, { accessFlags := 26, nameIndex := 1101, descriptorIndex := 1102, attributes := #[] }, { accessFlags := 26, nameIndex := 1121, descriptorIndex := 1122, attributes := #[] }, { accessFlags := 25, nameIndex := 599, descriptorIndex := 600, attributes := #[] }, { accessFlags := 24, nameIndex := 1125, descriptorIndex := 18, attributes := #[] }, { accessFlags := 24, nameIndex := 1127, descriptorIndex := 18, attributes := #[] }])
  fields := #[{ name := "value", type := (.array .byte), accessFlags := 18, slot := 0, constantValue := 0 }, { name := "coder", type := .byte, accessFlags := 18, slot := 1, constantValue := 0 }, { name := "hash", type := .int, accessFlags := 2, slot := 2, constantValue := 0 }, { name := "hashIsZero", type := .boolean, accessFlags := 2, slot := 3, constantValue := 0 }, { name := "serialVersionUID", type := .long, accessFlags := 26, slot := 0, constantValue := 0 }, { name := "COMPACT_STRINGS", type := .boolean, accessFlags := 24, slot := 1, constantValue := 0 }, { name := "serialPersistentFields", type := (.array (.object "java/io/ObjectStreamField")), accessFlags := 26, slot := 2, constantValue := 0 }, { name := "REPL", type := .char, accessFlags := 26, slot := 3, constantValue := 0 }, { name := "CASE_INSENSITIVE_ORDER", type := (.object "java/util/Comparator"), accessFlags := 25, slot := 4, constantValue := 0 }, { name := "LATIN1", type := .byte, accessFlags := 24, slot := 5, constantValue := 0 }, { name := "UTF16", type := .byte, accessFlags := 24, slot := 6, constantValue := 0 }]
  methods := #[k9m0, k9m1, k9m2, k9m3, k9m4, k9m5, k9m6]
  instanceTypes := #[(.array .byte), .byte, .int, .boolean]
  staticTypes := #[.long, .boolean, (.array (.object "java/io/ObjectStreamField")), .char, (.object "java/util/Comparator"), .byte, .byte]
  resolved := Array.replicate 1451 none
  statics := some 1 }

def pool10 : Array CpInfo := pool [(1, .class_ 2), (0, u "java/lang/String"), (1, .class_ 6), (1, u "java/lang/Object"), (0, u "<init>"), (0, u "()V"), (0, .methodref 1 10), (0, .nameAndType 11 12), (0, u "checkIndex"), (0, u "(II)V"), (1, .class_ 16), (1, u "java/lang/StringLatin1"), (36, u "([BI)C"), (67, u "$assertionsDisabled"), (0, u "Z"), (98, .class_ 223), (1, u "java/lang/StringLatin1$LinesSpliterator"), (28, u "charAt"), (28, u "equals"), (0, u "([B[B)Z"), (107, .class_ 391), (0, u "java/lang/StringLatin1$CharsSpliterator")] 3

def k10m0 : Method := { name := "<init>", desc := "()V", sig := { parameters := [], returnType := none }, accessFlags := 0, code := none }
def k10c1 : Code := { maxStack := 2, maxLocals := 2, code := jdk_43_method_2_code, exceptionTable := #[], attributes := #[] }
def k10m1 : Method := { name := "charAt", desc := "([BI)C", sig := { parameters := [(.array .byte), .int], returnType := some .char }, accessFlags := 9, code := some k10c1 }
def k10c2 : Code := { maxStack := 3, maxLocals := 3, code := jdk_43_method_13_code, exceptionTable := #[], attributes := #[] }
def k10m2 : Method := { name := "equals", desc := "([B[B)Z", sig := { parameters := [(.array .byte), (.array .byte)], returnType := some .boolean }, accessFlags := 9, code := some k10c2 }
/-- java/lang/StringLatin1 -/
def k10 : Class := { plain "java/lang/StringLatin1" (some 0) with
  accessFlags := 48
  interfaces := #[]
  cf := some (fileOf pool10 14 #[.nestMembers #[390, 221]] #[{ accessFlags := 0, nameIndex := 7, descriptorIndex := 8, attributes := #[] }, { accessFlags := 9, nameIndex := 252, descriptorIndex := 53, attributes := #[] }, { accessFlags := 9, nameIndex := 281, descriptorIndex := 282, attributes := #[] }] 48 4 #[] #[{ accessFlags := 4120, nameIndex := 121, descriptorIndex := 122, attributes := #[] }])
  fields := #[{ name := "$assertionsDisabled", type := .boolean, accessFlags := 4120, slot := 0, constantValue := 0 }]
  methods := #[k10m0, k10m1, k10m2]
  instanceTypes := #[]
  staticTypes := #[.boolean]
  resolved := Array.replicate 395 none
  statics := none }

def pool11 : Array CpInfo := pool [(2, .class_ 4), (1, u "java/lang/Object"), (0, u "<init>"), (0, u "()V"), (17, .class_ 26), (1, u "jdk/internal/util/Preconditions"), (6, u "checkIndex"), (21, .class_ 56), (0, u "jdk/internal/util/Preconditions$4"), (57, .class_ 115), (0, u "jdk/internal/util/Preconditions$1"), (7, u "SIOOBE_FORMATTER"), (0, u "Ljava/util/function/BiFunction;"), (0, .class_ 126), (0, u "jdk/internal/util/Preconditions$2"), (3, u "AIOOBE_FORMATTER"), (0, .class_ 132), (0, u "jdk/internal/util/Preconditions$3"), (3, u "IOOBE_FORMATTER"), (41, u "(IILjava/util/function/BiFunction;)I")] 15

def k11m0 : Method := { name := "<init>", desc := "()V", sig := { parameters := [], returnType := none }, accessFlags := 1, code := none }
def k11c1 : Code := { maxStack := 3, maxLocals := 3, code := jdk_41_method_11_code, exceptionTable := #[], attributes := #[] }
def k11m1 : Method := { name := "checkIndex", desc := "(IILjava/util/function/BiFunction;)I", sig := { parameters := [.int, .int, (.object "java/util/function/BiFunction")], returnType := some .int }, accessFlags := 9, code := some k11c1 }
/-- jdk/internal/util/Preconditions -/
def k11 : Class := { plain "jdk/internal/util/Preconditions" (some 0) with
  accessFlags := 33
  interfaces := #[]
  cf := some (fileOf pool11 24 #[.nestMembers #[55, 131, 125, 114]] #[{ accessFlags := 1, nameIndex := 5, descriptorIndex := 6, attributes := #[] }, { accessFlags := 9, nameIndex := 33, descriptorIndex := 178, attributes := #[] }] 33 2 #[] #[{ accessFlags := 25, nameIndex := 123, descriptorIndex := 124, attributes := #[] }, { accessFlags := 25, nameIndex := 130, descriptorIndex := 124, attributes := #[] }, { accessFlags := 25, nameIndex := 136, descriptorIndex := 124, attributes := #[] }])
  fields := #[{ name := "SIOOBE_FORMATTER", type := (.object "java/util/function/BiFunction"), accessFlags := 25, slot := 0, constantValue := 0 }, { name := "AIOOBE_FORMATTER", type := (.object "java/util/function/BiFunction"), accessFlags := 25, slot := 1, constantValue := 0 }, { name := "IOOBE_FORMATTER", type := (.object "java/util/function/BiFunction"), accessFlags := 25, slot := 2, constantValue := 0 }]
  methods := #[k11m0, k11m1]
  instanceTypes := #[]
  staticTypes := #[(.object "java/util/function/BiFunction"), (.object "java/util/function/BiFunction"), (.object "java/util/function/BiFunction")]
  resolved := Array.replicate 194 none
  statics := some 2 }

def pool12 : Array CpInfo := pool [(9, u "<init>"), (6, .class_ 18), (1, u "java/lang/Object"), (0, u "()V"), (1, .class_ 23), (1, u "jdk/internal/util/ArraysSupport"), (0, u "LOG2_ARRAY_LONG_INDEX_SCALE"), (0, u "I"), (2, u "U"), (0, u "Ljdk/internal/misc/Unsafe;"), (8, u "BIG_ENDIAN"), (0, u "Z"), (8, u "LOG2_BYTE_BIT_SIZE"), (4, u "LOG2_ARRAY_INT_INDEX_SCALE"), (54, u "JLA"), (0, u "Ljdk/internal/access/JavaLangAccess;"), (11, u "LOG2_ARRAY_BOOLEAN_INDEX_SCALE"), (9, u "LOG2_ARRAY_BYTE_INDEX_SCALE"), (5, u "LOG2_ARRAY_CHAR_INDEX_SCALE"), (5, u "LOG2_ARRAY_SHORT_INDEX_SCALE"), (18, u "LOG2_ARRAY_FLOAT_INDEX_SCALE"), (24, u "LOG2_ARRAY_DOUBLE_INDEX_SCALE"), (89, u "T_BOOLEAN"), (2, u "T_CHAR"), (1, u "T_FLOAT"), (1, u "T_DOUBLE"), (1, u "T_BYTE"), (1, u "T_SHORT"), (1, u "T_INT"), (1, u "T_LONG"), (1, u "SOFT_MAX_ARRAY_LENGTH")] 83

def k12m0 : Method := { name := "<init>", desc := "()V", sig := { parameters := [], returnType := none }, accessFlags := 2, code := none }
/-- jdk/internal/util/ArraysSupport -/
def k12 : Class := { plain "jdk/internal/util/ArraysSupport" (some 0) with
  accessFlags := 33
  interfaces := #[]
  cf := some (fileOf pool12 21 #[] #[{ accessFlags := 2, nameIndex := 9, descriptorIndex := 19, attributes := #[] }] 33 16 #[] #[{ accessFlags := 24, nameIndex := 28, descriptorIndex := 29, attributes := #[] }, { accessFlags := 26, nameIndex := 38, descriptorIndex := 39, attributes := #[] }, { accessFlags := 25, nameIndex := 121, descriptorIndex := 25, attributes := #[] }, { accessFlags := 25, nameIndex := 131, descriptorIndex := 25, attributes := #[] }, { accessFlags := 25, nameIndex := 137, descriptorIndex := 25, attributes := #[] }, { accessFlags := 25, nameIndex := 143, descriptorIndex := 25, attributes := #[] }, { accessFlags := 25, nameIndex := 53, descriptorIndex := 25, attributes := #[] }, { accessFlags := 25, nameIndex := 24, descriptorIndex := 25, attributes := #[] }, { accessFlags := 25, nameIndex := 162, descriptorIndex := 25, attributes := #[] }, { accessFlags := 25, nameIndex := 187, descriptorIndex := 25, attributes := #[] }, { accessFlags := 26, nameIndex := 48, descriptorIndex := 25, attributes := #[] }, { accessFlags := 25, nameIndex := 277, descriptorIndex := 25, attributes := #[] }, { accessFlags := 25, nameIndex := 280, descriptorIndex := 25, attributes := #[] }, { accessFlags := 25, nameIndex := 282, descriptorIndex := 25, attributes := #[] }, { accessFlags := 25, nameIndex := 284, descriptorIndex := 25, attributes := #[] }, { accessFlags := 25, nameIndex := 286, descriptorIndex := 25, attributes := #[] }, { accessFlags := 25, nameIndex := 288, descriptorIndex := 25, attributes := #[] }, { accessFlags := 25, nameIndex := 290, descriptorIndex := 25, attributes := #[] }, { accessFlags := 25, nameIndex := 292, descriptorIndex := 25, attributes := #[] }, { accessFlags := 26, nameIndex := 108, descriptorIndex := 109, attributes := #[] }, { accessFlags := 25, nameIndex := 294, descriptorIndex := 25, attributes := #[] }])
  fields := #[{ name := "U", type := (.object "jdk/internal/misc/Unsafe"), accessFlags := 24, slot := 0, constantValue := 0 }, { name := "BIG_ENDIAN", type := .boolean, accessFlags := 26, slot := 1, constantValue := 0 }, { name := "LOG2_ARRAY_BOOLEAN_INDEX_SCALE", type := .int, accessFlags := 25, slot := 2, constantValue := 0 }, { name := "LOG2_ARRAY_BYTE_INDEX_SCALE", type := .int, accessFlags := 25, slot := 3, constantValue := 0 }, { name := "LOG2_ARRAY_CHAR_INDEX_SCALE", type := .int, accessFlags := 25, slot := 4, constantValue := 0 }, { name := "LOG2_ARRAY_SHORT_INDEX_SCALE", type := .int, accessFlags := 25, slot := 5, constantValue := 0 }, { name := "LOG2_ARRAY_INT_INDEX_SCALE", type := .int, accessFlags := 25, slot := 6, constantValue := 0 }, { name := "LOG2_ARRAY_LONG_INDEX_SCALE", type := .int, accessFlags := 25, slot := 7, constantValue := 0 }, { name := "LOG2_ARRAY_FLOAT_INDEX_SCALE", type := .int, accessFlags := 25, slot := 8, constantValue := 0 }, { name := "LOG2_ARRAY_DOUBLE_INDEX_SCALE", type := .int, accessFlags := 25, slot := 9, constantValue := 0 }, { name := "LOG2_BYTE_BIT_SIZE", type := .int, accessFlags := 26, slot := 10, constantValue := 0 }, { name := "T_BOOLEAN", type := .int, accessFlags := 25, slot := 11, constantValue := 0 }, { name := "T_CHAR", type := .int, accessFlags := 25, slot := 12, constantValue := 0 }, { name := "T_FLOAT", type := .int, accessFlags := 25, slot := 13, constantValue := 0 }, { name := "T_DOUBLE", type := .int, accessFlags := 25, slot := 14, constantValue := 0 }, { name := "T_BYTE", type := .int, accessFlags := 25, slot := 15, constantValue := 0 }, { name := "T_SHORT", type := .int, accessFlags := 25, slot := 16, constantValue := 0 }, { name := "T_INT", type := .int, accessFlags := 25, slot := 17, constantValue := 0 }, { name := "T_LONG", type := .int, accessFlags := 25, slot := 18, constantValue := 0 }, { name := "JLA", type := (.object "jdk/internal/access/JavaLangAccess"), accessFlags := 26, slot := 19, constantValue := 0 }, { name := "SOFT_MAX_ARRAY_LENGTH", type := .int, accessFlags := 25, slot := 20, constantValue := 0 }]
  methods := #[k12m0]
  instanceTypes := #[]
  staticTypes := #[(.object "jdk/internal/misc/Unsafe"), .boolean, .int, .int, .int, .int, .int, .int, .int, .int, .int, .int, .int, .int, .int, .int, .int, .int, .int, (.object "jdk/internal/access/JavaLangAccess"), .int]
  resolved := Array.replicate 378 none
  statics := none }

def pool13 : Array CpInfo := pool [(1, u "java/lang/Cloneable"), (0, .class_ 1), (0, u "java/lang/Object"), (0, .class_ 3)] 3

/-- java/lang/Cloneable -/
def k13 : Class := { plain "java/lang/Cloneable" (some 0) with
  accessFlags := 1537
  interfaces := #[]
  cf := some (fileOf pool13 2 #[] #[] 1537 4 #[] #[])
  fields := #[]
  methods := #[]
  instanceTypes := #[]
  staticTypes := #[]
  resolved := Array.replicate 8 none
  statics := none }

/-- the primitive byte -/
def k14 : Class := { plain "byte" none with kind := .primitive 'B', accessFlags := 0x411 }
/-- [B -/
def k15 : Class := { plain "[B" (some 0) with kind := .array 14 .byte, interfaces := #[13, 4], accessFlags := 1041 }

/-- the primitive int -/
def k16 : Class := { plain "int" none with kind := .primitive 'I', accessFlags := 0x411 }
/-- [I -/
def k17 : Class := { plain "[I" (some 0) with kind := .array 16 .int, interfaces := #[13, 4], accessFlags := 1041 }

def heap : Heap := #[{ cls := 6, slots := #[.ref 3, .ref 5, .ref 6, .ref 4, .ref 9, .ref 7, .ref 8, .null], vm := .statics 6 },
  { cls := 9, slots := #[.long 0, .int 1, .null, .int 0, .null, .int 0, .int 0], vm := .statics 9 },
  { cls := 11, slots := #[.null, .null, .null], vm := .statics 11 },
  { cls := 6, slots := #[.null, .int 0, .int 0], vm := .none },
  { cls := 6, slots := #[.null, .int 3, .int 0], vm := .none },
  { cls := 6, slots := #[.null, .int 1, .int 0], vm := .none },
  { cls := 6, slots := #[.null, .int 2, .int 0], vm := .none },
  { cls := 6, slots := #[.null, .int 5, .int 0], vm := .none },
  { cls := 6, slots := #[.null, .int 6, .int 0], vm := .none },
  { cls := 6, slots := #[.null, .int 4, .int 0], vm := .none }]
def classes : Array Class := #[k0, k1, k2, k3, k4, k5, k6, k7, k8, k9, k10, k11, k12, k13, k14, k15, k16, k17]
def interned : List (Array UInt16 × Addr) := []
def slotsUsed : Nat := 39
def theMethod : MethodId := ⟨1, 2⟩
def args0 : Array Value := #[.int 5]
def aboutOver (below : List Frame) : State where
  vm := { classes := classes, interned := interned.toArray }
  heap := heap
  slotsUsed := slotsUsed
  threads := #[{ frames := .invoking theMethod args0 :: below }]
def below0 : List Frame := [.native { method := ⟨0, 0⟩, args := #[] }]
def about1 : State := aboutOver below0
def p0 : Program := .bare "" "" ""
def e0 : Env := launch0.env 0 0 0
theorem w_frames : about1.frames = Frame.invoking theMethod args0 :: below0 := rfl
set_option maxRecDepth 65536 in
theorem w_args : argsFit about1.vm theMethod args0 = true := by decide +kernel
set_option maxRecDepth 65536 in
theorem w_heap : heapFits about1 = true := by decide +kernel
set_option maxRecDepth 65536 in
theorem w_runnable : about1.curStatus? = some .runnable := by decide +kernel
set_option maxRecDepth 65536 in
theorem w_alone : about1.alone = true := by decide +kernel
set_option maxRecDepth 65536 in
theorem w_named : about1.methodNamed? x = some theMethod := by decide +kernel
set_option maxRecDepth 65536 in
theorem w_hears : about1.hears theMethod below0 = true := by decide +kernel
set_option maxRecDepth 65536 in
theorem w_ripe : about1.ripe theMethod args0 below0 = true := by decide +kernel
theorem w_running : about1.status = .running := rfl
set_option maxRecDepth 65536 in
theorem w_room : about1.hasRoom e0.platform room_1 = true :=
  launch0.hasRoom_least _ room_1 (by decide +kernel) (by decide +kernel) (by decide +kernel) (by decide +kernel) (by decide +kernel) (by decide +kernel)
theorem allAtoms_all (ts : List Jvm.Cond) (a : Array Jvm.Value) (st : Jvm.State) : (allAtoms ts).before a st = ts.all (fun c => c.before a st) := by
  induction ts with
  | nil => rfl
  | cons c t ih =>
    show (Jvm.Cond.and c (allAtoms t)).before a st = _
    rw [Jvm.Cond.before_and, ih, List.all_cons]
def words1 : List Jvm.Cond := Jvm.Cond.code x code maxLocals ret :: tables_1
/-- a 'code' word, met by the world's own term for the bytes: nothing is compared byte by byte -/
theorem code_word {y : MethodName} {bytes : ByteArray} {mx : Nat} {rt : Option FieldType} {a : Array Value} {s : State} {m : MethodId} {meth : Method} {c : Code} (h1 : s.methodNamed? y = some m) (h2 : s.vm.method? m = some meth) (h3 : meth.code = some c) (h4 : c.code = bytes)
    (h5 : (c.maxLocals == mx && c.exceptionTable.isEmpty && decide (c.maxStack ≤ mostOperands) && decide (meth.sig.returnType = rt) && !meth.locks && decide (parseMethodDescriptor y.desc = some meth.sig)) = true) : (Jvm.Cond.code y bytes mx rt).before a s = true := by
  simp only [Bool.and_eq_true, beq_iff_eq, Bool.not_eq_true', decide_eq_true_eq] at h5
  obtain ⟨⟨⟨⟨⟨g1, g2⟩, g3⟩, g4⟩, g5⟩, g6⟩ := h5
  simp [Cond.before, Cond.holds, Cond.value, h1, h2, h3, h4, g1, g2, g3, g4, g5, g6]
def isCode : Jvm.Cond → Bool
  | .code _ _ _ _ => true
  | _ => false
theorem all_split {L : List Jvm.Cond} {P : Jvm.Cond → Bool} (h1 : L.all (fun c => isCode c || P c) = true) (h2 : ∀ c ∈ L.filter isCode, P c = true) : L.all P = true := by
  refine List.all_eq_true.mpr fun c hc => ?_
  have h := List.all_eq_true.mp h1 c hc
  rcases Bool.eq_false_or_eq_true (isCode c) with hi | hi
  · exact h2 c (List.mem_filter.mpr ⟨hc, hi⟩)
  · simpa [hi] using h
set_option maxRecDepth 65536 in
theorem w_c0 : (Jvm.Cond.code x code maxLocals ret).before args0 about1 = true := code_word (m := ⟨1, 2⟩) (meth := k1m2) (c := k1c2) (by decide +kernel) rfl rfl rfl (by decide +kernel)
set_option maxRecDepth 65536 in
theorem w_c1 : (Jvm.Cond.code ({ cls := "com/example/grace_period/graceperiod/server/cql/RelationIsOrderingPinLaw", name := "pick", desc := "(I)Lcom/example/grace_period/graceperiod/server/cql/CqlClause$Relation;" } : Jvm.MethodName) method_2_code (1 : Nat) (Option.some (Jvm.ClassFile.FieldType.object "com/example/grace_period/graceperiod/server/cql/CqlClause$Relation"))).before args0 about1 = true := code_word (m := ⟨1, 1⟩) (meth := k1m1) (c := k1c1) (by decide +kernel) rfl rfl rfl (by decide +kernel)
set_option maxRecDepth 65536 in
theorem w_c2 : (Jvm.Cond.code ({ cls := "com/example/grace_period/graceperiod/server/cql/CqlClause$Relation", name := "isOrdering", desc := "()Z" } : Jvm.MethodName) prog_69_method_6_code (1 : Nat) (Option.some Jvm.ClassFile.FieldType.boolean)).before args0 about1 = true := code_word (m := ⟨6, 1⟩) (meth := k6m1) (c := k6c1) (by decide +kernel) rfl rfl rfl (by decide +kernel)
set_option maxRecDepth 65536 in
theorem w_c3 : (Jvm.Cond.code ({ cls := "com/example/grace_period/graceperiod/server/cql/CqlClause$Relation", name := "symbol", desc := "()Ljava/lang/String;" } : Jvm.MethodName) prog_69_method_5_code (1 : Nat) (Option.some (Jvm.ClassFile.FieldType.object "java/lang/String"))).before args0 about1 = true := code_word (m := ⟨6, 0⟩) (meth := k6m0) (c := k6c0) (by decide +kernel) rfl rfl rfl (by decide +kernel)
set_option maxRecDepth 65536 in
theorem w_c4 : (Jvm.Cond.code ({ cls := "java/lang/Enum", name := "ordinal", desc := "()I" } : Jvm.MethodName) jdk_37_method_2_code (1 : Nat) (Option.some Jvm.ClassFile.FieldType.int)).before args0 about1 = true := code_word (m := ⟨5, 0⟩) (meth := k5m0) (c := k5c0) (by decide +kernel) rfl rfl rfl (by decide +kernel)
set_option maxRecDepth 65536 in
theorem w_c5 : (Jvm.Cond.code ({ cls := "java/lang/String", name := "length", desc := "()I" } : Jvm.MethodName) jdk_42_method_54_code (1 : Nat) (Option.some Jvm.ClassFile.FieldType.int)).before args0 about1 = true := code_word (m := ⟨9, 1⟩) (meth := k9m1) (c := k9c1) (by decide +kernel) rfl rfl rfl (by decide +kernel)
set_option maxRecDepth 65536 in
theorem w_c6 : (Jvm.Cond.code ({ cls := "java/lang/String", name := "coder", desc := "()B" } : Jvm.MethodName) jdk_42_method_152_code (1 : Nat) (Option.some Jvm.ClassFile.FieldType.byte)).before args0 about1 = true := code_word (m := ⟨9, 4⟩) (meth := k9m4) (c := k9c4) (by decide +kernel) rfl rfl rfl (by decide +kernel)
set_option maxRecDepth 65536 in
theorem w_c7 : (Jvm.Cond.code ({ cls := "java/lang/String", name := "charAt", desc := "(I)C" } : Jvm.MethodName) jdk_42_method_56_code (2 : Nat) (Option.some Jvm.ClassFile.FieldType.char)).before args0 about1 = true := code_word (m := ⟨9, 2⟩) (meth := k9m2) (c := k9c2) (by decide +kernel) rfl rfl rfl (by decide +kernel)
set_option maxRecDepth 65536 in
theorem w_c8 : (Jvm.Cond.code ({ cls := "java/lang/String", name := "isLatin1", desc := "()Z" } : Jvm.MethodName) jdk_42_method_154_code (1 : Nat) (Option.some Jvm.ClassFile.FieldType.boolean)).before args0 about1 = true := code_word (m := ⟨9, 5⟩) (meth := k9m5) (c := k9c5) (by decide +kernel) rfl rfl rfl (by decide +kernel)
set_option maxRecDepth 65536 in
theorem w_c9 : (Jvm.Cond.code ({ cls := "java/lang/StringLatin1", name := "charAt", desc := "([BI)C" } : Jvm.MethodName) jdk_43_method_2_code (2 : Nat) (Option.some Jvm.ClassFile.FieldType.char)).before args0 about1 = true := code_word (m := ⟨10, 1⟩) (meth := k10m1) (c := k10c1) (by decide +kernel) rfl rfl rfl (by decide +kernel)
set_option maxRecDepth 65536 in
theorem w_c10 : (Jvm.Cond.code ({ cls := "java/lang/String", name := "checkIndex", desc := "(II)V" } : Jvm.MethodName) jdk_42_method_155_code (2 : Nat) (Option.none : Option Jvm.ClassFile.FieldType)).before args0 about1 = true := code_word (m := ⟨9, 6⟩) (meth := k9m6) (c := k9c6) (by decide +kernel) rfl rfl rfl (by decide +kernel)
set_option maxRecDepth 65536 in
theorem w_c11 : (Jvm.Cond.code ({ cls := "jdk/internal/util/Preconditions", name := "checkIndex", desc := "(IILjava/util/function/BiFunction;)I" } : Jvm.MethodName) jdk_41_method_11_code (3 : Nat) (Option.some Jvm.ClassFile.FieldType.int)).before args0 about1 = true := code_word (m := ⟨11, 1⟩) (meth := k11m1) (c := k11c1) (by decide +kernel) rfl rfl rfl (by decide +kernel)
set_option maxRecDepth 65536 in
theorem w_c12 : (Jvm.Cond.code ({ cls := "java/lang/String", name := "equals", desc := "(Ljava/lang/Object;)Z" } : Jvm.MethodName) jdk_42_method_66_code (3 : Nat) (Option.some Jvm.ClassFile.FieldType.boolean)).before args0 about1 = true := code_word (m := ⟨9, 3⟩) (meth := k9m3) (c := k9c3) (by decide +kernel) rfl rfl rfl (by decide +kernel)
set_option maxRecDepth 65536 in
theorem w_c13 : (Jvm.Cond.code ({ cls := "java/lang/StringLatin1", name := "equals", desc := "([B[B)Z" } : Jvm.MethodName) jdk_43_method_13_code (3 : Nat) (Option.some Jvm.ClassFile.FieldType.boolean)).before args0 about1 = true := code_word (m := ⟨10, 2⟩) (meth := k10m2) (c := k10c2) (by decide +kernel) rfl rfl rfl (by decide +kernel)
def codes1 : List Jvm.Cond := [Jvm.Cond.code x code maxLocals ret, Jvm.Cond.code ({ cls := "com/example/grace_period/graceperiod/server/cql/RelationIsOrderingPinLaw", name := "pick", desc := "(I)Lcom/example/grace_period/graceperiod/server/cql/CqlClause$Relation;" } : Jvm.MethodName) method_2_code (1 : Nat) (Option.some (Jvm.ClassFile.FieldType.object "com/example/grace_period/graceperiod/server/cql/CqlClause$Relation")), Jvm.Cond.code ({ cls := "com/example/grace_period/graceperiod/server/cql/CqlClause$Relation", name := "isOrdering", desc := "()Z" } : Jvm.MethodName) prog_69_method_6_code (1 : Nat) (Option.some Jvm.ClassFile.FieldType.boolean), Jvm.Cond.code ({ cls := "com/example/grace_period/graceperiod/server/cql/CqlClause$Relation", name := "symbol", desc := "()Ljava/lang/String;" } : Jvm.MethodName) prog_69_method_5_code (1 : Nat) (Option.some (Jvm.ClassFile.FieldType.object "java/lang/String")), Jvm.Cond.code ({ cls := "java/lang/Enum", name := "ordinal", desc := "()I" } : Jvm.MethodName) jdk_37_method_2_code (1 : Nat) (Option.some Jvm.ClassFile.FieldType.int), Jvm.Cond.code ({ cls := "java/lang/String", name := "length", desc := "()I" } : Jvm.MethodName) jdk_42_method_54_code (1 : Nat) (Option.some Jvm.ClassFile.FieldType.int), Jvm.Cond.code ({ cls := "java/lang/String", name := "coder", desc := "()B" } : Jvm.MethodName) jdk_42_method_152_code (1 : Nat) (Option.some Jvm.ClassFile.FieldType.byte), Jvm.Cond.code ({ cls := "java/lang/String", name := "charAt", desc := "(I)C" } : Jvm.MethodName) jdk_42_method_56_code (2 : Nat) (Option.some Jvm.ClassFile.FieldType.char), Jvm.Cond.code ({ cls := "java/lang/String", name := "isLatin1", desc := "()Z" } : Jvm.MethodName) jdk_42_method_154_code (1 : Nat) (Option.some Jvm.ClassFile.FieldType.boolean), Jvm.Cond.code ({ cls := "java/lang/StringLatin1", name := "charAt", desc := "([BI)C" } : Jvm.MethodName) jdk_43_method_2_code (2 : Nat) (Option.some Jvm.ClassFile.FieldType.char), Jvm.Cond.code ({ cls := "java/lang/String", name := "checkIndex", desc := "(II)V" } : Jvm.MethodName) jdk_42_method_155_code (2 : Nat) (Option.none : Option Jvm.ClassFile.FieldType), Jvm.Cond.code ({ cls := "jdk/internal/util/Preconditions", name := "checkIndex", desc := "(IILjava/util/function/BiFunction;)I" } : Jvm.MethodName) jdk_41_method_11_code (3 : Nat) (Option.some Jvm.ClassFile.FieldType.int), Jvm.Cond.code ({ cls := "java/lang/String", name := "equals", desc := "(Ljava/lang/Object;)Z" } : Jvm.MethodName) jdk_42_method_66_code (3 : Nat) (Option.some Jvm.ClassFile.FieldType.boolean), Jvm.Cond.code ({ cls := "java/lang/StringLatin1", name := "equals", desc := "([B[B)Z" } : Jvm.MethodName) jdk_43_method_13_code (3 : Nat) (Option.some Jvm.ClassFile.FieldType.boolean)]
set_option maxRecDepth 65536 in
theorem codes_eq : words1.filter isCode = codes1 := rfl
theorem w_codes : ∀ c ∈ words1.filter isCode, c.before args0 about1 = true := by
  rw [codes_eq]
  intro c hc
  simp only [codes1, List.mem_cons, List.not_mem_nil, or_false] at hc
  rcases hc with rfl | rfl | rfl | rfl | rfl | rfl | rfl | rfl | rfl | rfl | rfl | rfl | rfl | rfl
  · exact w_c0
  · exact w_c1
  · exact w_c2
  · exact w_c3
  · exact w_c4
  · exact w_c5
  · exact w_c6
  · exact w_c7
  · exact w_c8
  · exact w_c9
  · exact w_c10
  · exact w_c11
  · exact w_c12
  · exact w_c13
set_option maxRecDepth 65536 in
theorem w_t1 : (words1.take 24).all (fun c => isCode c || c.before args0 about1) = true := by decide +kernel
set_option maxRecDepth 65536 in
theorem w_t2 : ((words1.drop 24).take 24).all (fun c => isCode c || c.before args0 about1) = true := by decide +kernel
set_option maxRecDepth 65536 in
theorem w_t3 : (((words1.drop 24).drop 24).take 24).all (fun c => isCode c || c.before args0 about1) = true := by decide +kernel
set_option maxRecDepth 65536 in
theorem w_t4 : ((((words1.drop 24).drop 24).drop 24).take 24).all (fun c => isCode c || c.before args0 about1) = true := by decide +kernel
set_option maxRecDepth 65536 in
theorem w_t5 : ((((words1.drop 24).drop 24).drop 24).drop 24).all (fun c => isCode c || c.before args0 about1) = true := by decide +kernel
theorem w_tables : (allAtoms (Jvm.Cond.code x code maxLocals ret :: tables_1)).before args0 about1 = true := by
  rw [allAtoms_all]
  show words1.all (fun c => c.before args0 about1) = true
  refine all_split ?_ w_codes
  rw [← List.take_append_drop 24 words1, List.all_append, w_t1, ← List.take_append_drop 24 (words1.drop 24), List.all_append, w_t2, ← List.take_append_drop 24 ((words1.drop 24).drop 24), List.all_append, w_t3, ← List.take_append_drop 24 (((words1.drop 24).drop 24).drop 24), List.all_append, w_t4, w_t5]
  rfl
set_option maxRecDepth 65536 in
theorem w_rest : rest_1_c.before args0 about1 = true := by decide +kernel
set_option maxRecDepth 65536 in
theorem w_case : (Jvm.Cond.and given_1 narrow_1).before args0 about1 = true := by decide +kernel
set_option maxRecDepth 65536 in
theorem w_consts : constsHeld consts_1 about1 := Jvm.Lit.constsHeldB_iff.mp (by decide +kernel)
theorem w_applies : (headSpec (Jvm.Cond.code x code maxLocals ret :: tables_1) room_1).applies x e0.platform about1 = true :=
  (Spec.applies_iff w_frames).mpr ⟨w_running, w_runnable, w_alone, w_named, w_hears, w_ripe, w_room, w_tables⟩
theorem atStart : AtStart classFile x code maxLocals ret World_1 tables_1 room_1 Calls_1 rest_1 Pre_1 launch0 p0 e0 about1 theMethod args0 below0 :=
  ⟨lists_1, trivial, launch0.admits_env _ _ _, launch0.least_env, fairChoices_fair.cas, fairChoices_fair.clock, w_frames, w_args, w_heap, w_applies, ⟨w_consts, trivial⟩, w_rest, w_case⟩
end start1
theorem witness_1 : WitnessClaimed_1 := ⟨start1.p0, start1.e0, start1.about1, start1.theMethod, start1.args0, start1.below0, start1.atStart⟩
end Jvm.Pilot.@@N@@
