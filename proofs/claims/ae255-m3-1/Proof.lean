import JvmDerived
import JvmDerived.Pilot.@@N@@Statement
import JvmDerived.Pilot.@@N@@Code
set_option linter.unusedVariables false
set_option linter.unusedSimpArgs false
namespace Jvm.RoadKit
open Sem ClassFile Op Lib Jvm.Stand Jvm.Free Jvm.LawKit
section New
variable {p : Program} {l : Launch} {e : Env} {R : Room} {s : State} {m : MethodId} {args : Array Value} {below : List Frame} {meth : Method} {c : Code} {T : State} {locs : List Loc} {cells slots : Nat}
theorem retI (X : Stand p l e R s m args below meth c T locs cells slots) (hx : p.tables.exec = Jvm.exec) {pc : Nat} {Ls : Array Slot} {z : Int32} {rest : List Value} (hret : meth.sig.returnType = some .int) (hd : decode c.code pc = .ok (.ireturn, 1)) {fs : List Frame}
    (hl : ∀ (f : JFrame) (acts : List Action), f.method = m → f.locked = none → f.entered = [] → (doReturn e (T.setTop f) acts (some (.int z))).1 = T.setFrames fs) : Steps p.tables e below (T.setTop (mkF m pc Ls (.int z :: rest))) (T.setFrames fs) := by
  have hm' : T.vm.method? m = some meth := X.method'
  have hn : narrow .int (.int z) = .int z := rfl
  show Steps p.tables e below (T.setTop { method := m, pc := pc, locals := Ls, stack := _ :: rest, locked := none }) _
  jvm_step X.here [X.here.top, hx, hd, hm', hret, hn]
  first | (intro acts; rw [hl _ acts rfl rfl rfl]) | rw [hl _ _ rfl rfl rfl]
  exact Steps.refl _
end New
end Jvm.RoadKit
namespace Jvm.Pilot.@@N@@
open Jvm Jvm.ClassFile Sem Op Lib Jvm.Free Jvm.Stand Jvm.LawKit Jvm.RoadKit Bundle Jvm.Pilot.@@N@@.Jvm.D
/-- the run comes from A to the state U with the frame g on top -/
def own_To (tb : Tables) (e : Env) (below : List Frame) (A U : State) (g : JFrame) : Prop := ∀ t, Steps tb e below (U.setTop g) t → Steps tb e below A t
/-- what a body that writes nothing leaves -/
def own_Q (r : Option Value) (h0 : Heap) (n0 : Nat) (v : Option Value) (h : Heap) (L : List Loc) : Prop := v = r ∧ Fr n0 L ∧ h = h0
theorem own_fldint {args : Array Value} {Z : State} {t : Term} {x : Addr} {C n d : String} {k : Int32} (ht : t.eval args Z none [] Z = some (.ref x)) (h : (Jvm.Cond.eq (.field t C n d) (.int k)).value args Z none Z [] = some true) : Fld Z Z.heap x C n d (.int k) := by
  apply Fld.start
  obtain ⟨u, v, h1, h2, k1, -⟩ := cmp_v (Or.inl h)
  have e2 : v = .int k := (Option.some.inj (h2.symm.trans (Term.int_eval k)))
  subst e2
  cases u with
  | int z => rw [← fld_at ht, h1]; have := gotT (Cond.eq_ints h1 h2) h; rw [this]
  | long z => obtain ⟨_, q⟩ := k1; cases q
  | float z => obtain ⟨_, q⟩ := k1; cases q
  | double z => obtain ⟨_, q⟩ := k1; cases q
  | ref z => exact absurd k1.2 (by simp [Value.isRef])
  | null => exact absurd k1.2 (by simp [Value.isRef])
  | retAddr z => exact absurd k1.2 (by simp [Value.isRef])
theorem own_rem3 (x : Int32) (h0 : ¬ (((x &&& (2147483647 : Int32)) % (3 : Int32)) = (0 : Int32))) (h1 : ¬ (((x &&& (2147483647 : Int32)) % (3 : Int32)) = (1 : Int32))) : ((x &&& (2147483647 : Int32)) % (3 : Int32)) = (2 : Int32) := by
  have e : (x &&& (2147483647 : Int32)).toInt = x.toInt % (2 ^ 31 : Nat) := c_mask x 2147483647 31 (by decide) (by decide)
  have h1 : ((2 ^ 31 : Nat) : Int) = 2147483648 := rfl
  rw [h1] at e
  have r := (c_irem (x &&& (2147483647 : Int32)) (3 : Int32) 3 (by decide)).1 (by omega)
  skip
  simp only [← Int32.toInt_inj] at *
  have c0 : (0 : Int32).toInt = 0 := by decide
  have c1 : (1 : Int32).toInt = 1 := by decide
  have c2 : (2 : Int32).toInt = 2 := by decide
  omega
theorem own_d2_0 : decode jdk_37_method_2_code 0 = .ok (.aload_n 0, 1) := by decide +kernel
theorem own_d2_1 : decode jdk_37_method_2_code 1 = .ok (.getfield 7, 3) := by decide +kernel
theorem own_d2_4 : decode jdk_37_method_2_code 4 = .ok (.ireturn, 1) := by decide +kernel
theorem own_ef2 (m : MethodId) (x0 : Addr) : entryFrame m #[(.ref x0)] 1 = mkF m 0 #[.val (.ref x0)] [] := by first | (simp [entryFrame, mkF, argsToLocals, Value.category]; done) | rfl
theorem own_pn2 : plainName "java/lang/Enum" = true := by first | (simp [plainName, overriddenIn]; done) | decide +kernel
def own_f2 (w_ordinal_a1 : Int32) : Int32 := w_ordinal_a1
set_option maxRecDepth 65536 in
set_option maxHeartbeats 40000000 in
theorem own_m2 (l : Launch) (Z : State) (a0 : Array Value) (hw : ∀ d ∈ tables_1, d.before a0 Z = true) (ws : List Jvm.Cond) (a1 : Addr) (w_ordinal_a1 : Int32) (h0 : Heap) (n0 : Nat) (Z0 : n0 ≤ h0.size) (F_ordinal_a1 : Fld Z h0 a1 "java/lang/Enum" "ordinal" "I" (.int w_ordinal_a1)) :
    MetFree l (⟨"java/lang/Enum", "ordinal", "()I"⟩ : MethodName) (head1 (Jvm.Cond.code (⟨"java/lang/Enum", "ordinal", "()I"⟩ : MethodName) jdk_37_method_2_code 1 (some .int) :: ws) ({ frames := 0, cells := 0, slots := 0, locals := 0 } : Room)) (fun a U => a = #[(.ref a1)] ∧ Z.Warmed39 U.vm ∧ U.heap = h0) (fun _ _ _ _ _ => True) (fun _ U o U' => ∃ v L, o = .returned v ∧ own_Q (some (.int (own_f2 w_ordinal_a1))) h0 n0 v U'.heap L ∧ FrameEnd U o U' L ({ frames := 0, cells := 0, slots := 0, locals := 0 } : Room).cells ({ frames := 0, cells := 0, slots := 0, locals := 0 } : Room).slots) := by
  refine MetFree.of_bodySF (plainFor_of_name own_pn2) hisR ?_
  intro p e s m args below meth c s₁ Bd hml0 hP hK
  obtain ⟨rfl, hZ, hh⟩ := hP
  have hx := Bd.exec
  have hby := Bd.bytes
  have hml : c.maxLocals = 1 := hml0
  have hown : s.vm.findClass "java/lang/Enum" = some m.cls := findClass_of_methodNamed Bd.named
  have hnm := (name_of_methodNamed Bd.named Bd.method).1
  have X0 : Stand p l e ({ frames := 0, cells := 0, slots := 0, locals := 0 } : Room) s m #[(.ref a1)] below meth c s₁ [] 0 0 := Stand.of_body Bd
  have e0 : s₁.heap = h0 := by rw [← hh, Bd.state]; rfl
  have N0 := Fr.nil n0
  have k0 : own_To p.tables e below (s₁.setTop (entryFrame m #[(.ref a1)] 1)) s₁ (mkF m 0 #[.val (.ref a1)] []) := fun t k => castTop (own_ef2 m a1) k
  have k1 : own_To p.tables e below (s₁.setTop (entryFrame m #[(.ref a1)] 1)) s₁ (mkF m 1 #[.val (.ref a1)] [(.ref a1)]) := fun t k => k0 t (XS.aloadN X0.here hx rfl (hb hby own_d2_0) rfl rfl k)
  obtain ⟨T2, X2, e2, st2⟩ := getF X0 hx hZ hown (host := "") (Or.inl (hw _ (List.mem_of_getElem? (i := 16) rfl))) Via.refl e0 F_ordinal_a1 (g := (mkF m 1 #[.val (.ref a1)] [(.ref a1)])) rfl rfl (hb hby own_d2_1)
  have k3 : own_To p.tables e below (s₁.setTop (entryFrame m #[(.ref a1)] 1)) T2 (mkF m 4 #[.val (.ref a1)] [(.int w_ordinal_a1)]) := fun t k => k1 t (st2 t k)
  obtain ⟨fs, hr, hrun, hended, hW, hsame⟩ := X2.leave (v := some (.int w_ordinal_a1)) (fun h => by rw [Bd.returns] at h; cases h)
  refine ⟨_, _, k3 _ ?_, hrun, hended, _, _, rfl, ?_, ⟨_, rfl⟩, hW, hsame.mono (by decide) (by decide)⟩
  · exact retI X2 hx Bd.returns (hb hby own_d2_4) hr
  · refine ⟨?_, N0, e2⟩
    rw [show (own_f2 w_ordinal_a1) = w_ordinal_a1 from by unfold own_f2; rfl]
theorem own_d1_0 : decode prog_15_method_4_code 0 = .ok (.aload_n 0, 1) := by decide +kernel
theorem own_d1_1 : decode prog_15_method_4_code 1 = .ok (.invokevirtual 32, 3) := by decide +kernel
theorem own_pd0 : parseMethodDescriptor "()I" = some ⟨[], some .int⟩ := by decide +kernel
theorem own_d1_4 : decode prog_15_method_4_code 4 = .ok (.tableswitch 28 0 2 #[38, 38, 42], 28) := by decide +kernel
theorem own_d1_42 : decode prog_15_method_4_code 42 = .ok (.iconst 1, 1) := by decide +kernel
theorem own_d1_43 : decode prog_15_method_4_code 43 = .ok (.goto 4, 3) := by decide +kernel
theorem own_d1_47 : decode prog_15_method_4_code 47 = .ok (.ireturn, 1) := by decide +kernel
theorem own_ef1 (m : MethodId) (x0 : Addr) : entryFrame m #[(.ref x0)] 1 = mkF m 0 #[.val (.ref x0)] [] := by first | (simp [entryFrame, mkF, argsToLocals, Value.category]; done) | rfl
theorem own_pn1 : plainName "com/example/whole_roster/wholeroster/model/Role" = true := by first | (simp [plainName, overriddenIn]; done) | decide +kernel
def own_f1_TENANT_ADMIN : Int32 := (1 : Int32)
set_option maxRecDepth 65536 in
set_option maxHeartbeats 40000000 in
theorem own_m1_TENANT_ADMIN (l : Launch) (Z : State) (a0 : Array Value) (hw : ∀ d ∈ tables_1, d.before a0 Z = true) (ws : List Jvm.Cond) (a1 : Addr) (h0 : Heap) (n0 : Nat) (Z0 : n0 ≤ h0.size) (F_ordinal_a1 : Fld Z h0 a1 "java/lang/Enum" "ordinal" "I" (.int (0 : Int32))) (E_a1 : Exa Z h0 a1 "com/example/whole_roster/wholeroster/model/Role") :
    MetFree l (⟨"com/example/whole_roster/wholeroster/model/Role", "reachesTenants", "()Z"⟩ : MethodName) (head1 (Jvm.Cond.code (⟨"com/example/whole_roster/wholeroster/model/Role", "reachesTenants", "()Z"⟩ : MethodName) prog_15_method_4_code 1 (some .boolean) :: ws) ({ frames := 1, cells := 0, slots := 0, locals := 12 } : Room)) (fun a U => a = #[(.ref a1)] ∧ Z.Warmed39 U.vm ∧ U.heap = h0) (fun _ _ _ _ _ => True) (fun _ U o U' => ∃ v L, o = .returned v ∧ own_Q (some (.int own_f1_TENANT_ADMIN)) h0 n0 v U'.heap L ∧ FrameEnd U o U' L ({ frames := 1, cells := 0, slots := 0, locals := 12 } : Room).cells ({ frames := 1, cells := 0, slots := 0, locals := 12 } : Room).slots) := by
  refine MetFree.of_bodySF (plainFor_of_name own_pn1) hisR ?_
  intro p e s m args below meth c s₁ Bd hml0 hP hK
  obtain ⟨rfl, hZ, hh⟩ := hP
  have hx := Bd.exec
  have hby := Bd.bytes
  have hml : c.maxLocals = 1 := hml0
  have hown : s.vm.findClass "com/example/whole_roster/wholeroster/model/Role" = some m.cls := findClass_of_methodNamed Bd.named
  have hnm := (name_of_methodNamed Bd.named Bd.method).1
  have X0 : Stand p l e ({ frames := 1, cells := 0, slots := 0, locals := 12 } : Room) s m #[(.ref a1)] below meth c s₁ [] 0 0 := Stand.of_body Bd
  have e0 : s₁.heap = h0 := by rw [← hh, Bd.state]; rfl
  have N0 := Fr.nil n0
  have k0 : own_To p.tables e below (s₁.setTop (entryFrame m #[(.ref a1)] 1)) s₁ (mkF m 0 #[.val (.ref a1)] []) := fun t k => castTop (own_ef1 m a1) k
  have k1 : own_To p.tables e below (s₁.setTop (entryFrame m #[(.ref a1)] 1)) s₁ (mkF m 1 #[.val (.ref a1)] [(.ref a1)]) := fun t k => k0 t (XS.aloadN X0.here hx rfl (hb hby own_d1_0) rfl rfl k)
  obtain ⟨cq2, kq2, q2a, q2b, q2c⟩ := isOf hZ e0 E_a1
  obtain ⟨_, _, ⟨T2, L2, k2, n2⟩, -, X2, ⟨Lc2, hQ2, l2, y2, z2⟩, st2⟩ := X0.virtualBackUp hx (x := (⟨"com/example/whole_roster/wholeroster/model/Role", "ordinal", "()I"⟩ : MethodName)) (y := (⟨"java/lang/Enum", "ordinal", "()I"⟩ : MethodName)) (owner := "java/lang/Enum") hown (mvT hZ (hw _ (List.mem_of_getElem? (i := 9) rfl))) (mvT hZ (hw _ (List.mem_of_getElem? (i := 10) rfl))) (mvT hZ (hw _ (List.mem_of_getElem? (i := 11) rfl))) (by decide) (mvT hZ (hw _ (List.mem_of_getElem? (i := 13) rfl))) (mvT hZ (hw _ (List.mem_of_getElem? (i := 12) rfl))) (backOf (W := 0) (own_m2 l Z a0 hw [] a1 (0 : Int32) h0 n0 Z0 F_ordinal_a1) hZ (hw _ (List.mem_of_getElem? (i := 15) rfl)) (hw _ (List.mem_of_getElem? (i := 14) rfl)) (by decide) (by decide)) q2a q2c (g := (mkF m 1 #[.val (.ref a1)] [(.ref a1)])) rfl (by rw [hml]; rfl) (Steps.refl _) (argsL := []) (rest := []) (lenOf own_pd0 rfl) rfl (by show 2 * 0 + _ ≤ _; exact Nat.le_of_eq rfl) (hb hby own_d1_1) (fun _ _ => ⟨rfl, e0, (by decide : 0 + 0 ≤ _), (by decide : 0 + 0 ≤ _)⟩)
  dsimp only [Pt.U, Pt.locs, Pt.cells, Pt.slots] at X2 l2 y2 z2 st2 hQ2
  subst l2 y2 z2
  rw [show own_f2 (0 : Int32) = (0 : Int32) from rfl] at hQ2
  obtain ⟨rfl, N2q, e2⟩ := hQ2
  have N2 := Fr.app N0 N2q
  have k3 : own_To p.tables e below (s₁.setTop (entryFrame m #[(.ref a1)] 1)) T2 (mkF m 4 #[.val (.ref a1)] [(.int (0 : Int32))]) := fun t k => k1 t (st2.trans k)
  have k4 : own_To p.tables e below (s₁.setTop (entryFrame m #[(.ref a1)] 1)) T2 (mkF m 42 #[.val (.ref a1)] []) := fun t k => k3 t (XS.tswIn X2.here hx rfl (o := 38) (pc0 := 4) (pc' := 42) rfl (hb hby own_d1_4) rfl (by decide) (by decide) (by decide) (by decide) k)
  have k5 : own_To p.tables e below (s₁.setTop (entryFrame m #[(.ref a1)] 1)) T2 (mkF m 43 #[.val (.ref a1)] [(.int (1 : Int32))]) := fun t k => k4 t (XS.iconst X2.here hx rfl (hb hby own_d1_42) k)
  have k6 : own_To p.tables e below (s₁.setTop (entryFrame m #[(.ref a1)] 1)) T2 (mkF m 47 #[.val (.ref a1)] [(.int (1 : Int32))]) := fun t k => k5 t (XS.goto X2.here hx rfl (pc0 := 43) (pc' := 47) rfl (hb hby own_d1_43) (by decide) (by decide) k)
  obtain ⟨fs, hr, hrun, hended, hW, hsame⟩ := X2.leave (v := some (.int (1 : Int32))) (fun h => by rw [Bd.returns] at h; cases h)
  refine ⟨_, _, k6 _ ?_, hrun, hended, _, _, rfl, ?_, ⟨_, rfl⟩, hW, hsame.mono (by decide) (by decide)⟩
  · exact retN X2 hx (t := .boolean) Bd.returns (by simp) (hb hby own_d1_47) hr
  · refine ⟨?_, N2, e2⟩
    rw [show (own_f1_TENANT_ADMIN) = (1 : Int32) from by unfold own_f1_TENANT_ADMIN; rfl]
def own_f1_TENANT_VIEWER : Int32 := (1 : Int32)
set_option maxRecDepth 65536 in
set_option maxHeartbeats 40000000 in
theorem own_m1_TENANT_VIEWER (l : Launch) (Z : State) (a0 : Array Value) (hw : ∀ d ∈ tables_1, d.before a0 Z = true) (ws : List Jvm.Cond) (a1 : Addr) (h0 : Heap) (n0 : Nat) (Z0 : n0 ≤ h0.size) (F_ordinal_a1 : Fld Z h0 a1 "java/lang/Enum" "ordinal" "I" (.int (1 : Int32))) (E_a1 : Exa Z h0 a1 "com/example/whole_roster/wholeroster/model/Role") :
    MetFree l (⟨"com/example/whole_roster/wholeroster/model/Role", "reachesTenants", "()Z"⟩ : MethodName) (head1 (Jvm.Cond.code (⟨"com/example/whole_roster/wholeroster/model/Role", "reachesTenants", "()Z"⟩ : MethodName) prog_15_method_4_code 1 (some .boolean) :: ws) ({ frames := 1, cells := 0, slots := 0, locals := 12 } : Room)) (fun a U => a = #[(.ref a1)] ∧ Z.Warmed39 U.vm ∧ U.heap = h0) (fun _ _ _ _ _ => True) (fun _ U o U' => ∃ v L, o = .returned v ∧ own_Q (some (.int own_f1_TENANT_VIEWER)) h0 n0 v U'.heap L ∧ FrameEnd U o U' L ({ frames := 1, cells := 0, slots := 0, locals := 12 } : Room).cells ({ frames := 1, cells := 0, slots := 0, locals := 12 } : Room).slots) := by
  refine MetFree.of_bodySF (plainFor_of_name own_pn1) hisR ?_
  intro p e s m args below meth c s₁ Bd hml0 hP hK
  obtain ⟨rfl, hZ, hh⟩ := hP
  have hx := Bd.exec
  have hby := Bd.bytes
  have hml : c.maxLocals = 1 := hml0
  have hown : s.vm.findClass "com/example/whole_roster/wholeroster/model/Role" = some m.cls := findClass_of_methodNamed Bd.named
  have hnm := (name_of_methodNamed Bd.named Bd.method).1
  have X0 : Stand p l e ({ frames := 1, cells := 0, slots := 0, locals := 12 } : Room) s m #[(.ref a1)] below meth c s₁ [] 0 0 := Stand.of_body Bd
  have e0 : s₁.heap = h0 := by rw [← hh, Bd.state]; rfl
  have N0 := Fr.nil n0
  have k0 : own_To p.tables e below (s₁.setTop (entryFrame m #[(.ref a1)] 1)) s₁ (mkF m 0 #[.val (.ref a1)] []) := fun t k => castTop (own_ef1 m a1) k
  have k1 : own_To p.tables e below (s₁.setTop (entryFrame m #[(.ref a1)] 1)) s₁ (mkF m 1 #[.val (.ref a1)] [(.ref a1)]) := fun t k => k0 t (XS.aloadN X0.here hx rfl (hb hby own_d1_0) rfl rfl k)
  obtain ⟨cq2, kq2, q2a, q2b, q2c⟩ := isOf hZ e0 E_a1
  obtain ⟨_, _, ⟨T2, L2, k2, n2⟩, -, X2, ⟨Lc2, hQ2, l2, y2, z2⟩, st2⟩ := X0.virtualBackUp hx (x := (⟨"com/example/whole_roster/wholeroster/model/Role", "ordinal", "()I"⟩ : MethodName)) (y := (⟨"java/lang/Enum", "ordinal", "()I"⟩ : MethodName)) (owner := "java/lang/Enum") hown (mvT hZ (hw _ (List.mem_of_getElem? (i := 9) rfl))) (mvT hZ (hw _ (List.mem_of_getElem? (i := 10) rfl))) (mvT hZ (hw _ (List.mem_of_getElem? (i := 11) rfl))) (by decide) (mvT hZ (hw _ (List.mem_of_getElem? (i := 13) rfl))) (mvT hZ (hw _ (List.mem_of_getElem? (i := 12) rfl))) (backOf (W := 0) (own_m2 l Z a0 hw [] a1 (1 : Int32) h0 n0 Z0 F_ordinal_a1) hZ (hw _ (List.mem_of_getElem? (i := 15) rfl)) (hw _ (List.mem_of_getElem? (i := 14) rfl)) (by decide) (by decide)) q2a q2c (g := (mkF m 1 #[.val (.ref a1)] [(.ref a1)])) rfl (by rw [hml]; rfl) (Steps.refl _) (argsL := []) (rest := []) (lenOf own_pd0 rfl) rfl (by show 2 * 0 + _ ≤ _; exact Nat.le_of_eq rfl) (hb hby own_d1_1) (fun _ _ => ⟨rfl, e0, (by decide : 0 + 0 ≤ _), (by decide : 0 + 0 ≤ _)⟩)
  dsimp only [Pt.U, Pt.locs, Pt.cells, Pt.slots] at X2 l2 y2 z2 st2 hQ2
  subst l2 y2 z2
  rw [show own_f2 (1 : Int32) = (1 : Int32) from rfl] at hQ2
  obtain ⟨rfl, N2q, e2⟩ := hQ2
  have N2 := Fr.app N0 N2q
  have k3 : own_To p.tables e below (s₁.setTop (entryFrame m #[(.ref a1)] 1)) T2 (mkF m 4 #[.val (.ref a1)] [(.int (1 : Int32))]) := fun t k => k1 t (st2.trans k)
  have k4 : own_To p.tables e below (s₁.setTop (entryFrame m #[(.ref a1)] 1)) T2 (mkF m 42 #[.val (.ref a1)] []) := fun t k => k3 t (XS.tswIn X2.here hx rfl (o := 38) (pc0 := 4) (pc' := 42) rfl (hb hby own_d1_4) rfl (by decide) (by decide) (by decide) (by decide) k)
  have k5 : own_To p.tables e below (s₁.setTop (entryFrame m #[(.ref a1)] 1)) T2 (mkF m 43 #[.val (.ref a1)] [(.int (1 : Int32))]) := fun t k => k4 t (XS.iconst X2.here hx rfl (hb hby own_d1_42) k)
  have k6 : own_To p.tables e below (s₁.setTop (entryFrame m #[(.ref a1)] 1)) T2 (mkF m 47 #[.val (.ref a1)] [(.int (1 : Int32))]) := fun t k => k5 t (XS.goto X2.here hx rfl (pc0 := 43) (pc' := 47) rfl (hb hby own_d1_43) (by decide) (by decide) k)
  obtain ⟨fs, hr, hrun, hended, hW, hsame⟩ := X2.leave (v := some (.int (1 : Int32))) (fun h => by rw [Bd.returns] at h; cases h)
  refine ⟨_, _, k6 _ ?_, hrun, hended, _, _, rfl, ?_, ⟨_, rfl⟩, hW, hsame.mono (by decide) (by decide)⟩
  · exact retN X2 hx (t := .boolean) Bd.returns (by simp) (hb hby own_d1_47) hr
  · refine ⟨?_, N2, e2⟩
    rw [show (own_f1_TENANT_VIEWER) = (1 : Int32) from by unfold own_f1_TENANT_VIEWER; rfl]
theorem own_d1_46 : decode prog_15_method_4_code 46 = .ok (.iconst 0, 1) := by decide +kernel
def own_f1_TOKEN_INTROSPECTOR : Int32 := (0 : Int32)
set_option maxRecDepth 65536 in
set_option maxHeartbeats 40000000 in
theorem own_m1_TOKEN_INTROSPECTOR (l : Launch) (Z : State) (a0 : Array Value) (hw : ∀ d ∈ tables_1, d.before a0 Z = true) (ws : List Jvm.Cond) (a1 : Addr) (h0 : Heap) (n0 : Nat) (Z0 : n0 ≤ h0.size) (F_ordinal_a1 : Fld Z h0 a1 "java/lang/Enum" "ordinal" "I" (.int (2 : Int32))) (E_a1 : Exa Z h0 a1 "com/example/whole_roster/wholeroster/model/Role") :
    MetFree l (⟨"com/example/whole_roster/wholeroster/model/Role", "reachesTenants", "()Z"⟩ : MethodName) (head1 (Jvm.Cond.code (⟨"com/example/whole_roster/wholeroster/model/Role", "reachesTenants", "()Z"⟩ : MethodName) prog_15_method_4_code 1 (some .boolean) :: ws) ({ frames := 1, cells := 0, slots := 0, locals := 12 } : Room)) (fun a U => a = #[(.ref a1)] ∧ Z.Warmed39 U.vm ∧ U.heap = h0) (fun _ _ _ _ _ => True) (fun _ U o U' => ∃ v L, o = .returned v ∧ own_Q (some (.int own_f1_TOKEN_INTROSPECTOR)) h0 n0 v U'.heap L ∧ FrameEnd U o U' L ({ frames := 1, cells := 0, slots := 0, locals := 12 } : Room).cells ({ frames := 1, cells := 0, slots := 0, locals := 12 } : Room).slots) := by
  refine MetFree.of_bodySF (plainFor_of_name own_pn1) hisR ?_
  intro p e s m args below meth c s₁ Bd hml0 hP hK
  obtain ⟨rfl, hZ, hh⟩ := hP
  have hx := Bd.exec
  have hby := Bd.bytes
  have hml : c.maxLocals = 1 := hml0
  have hown : s.vm.findClass "com/example/whole_roster/wholeroster/model/Role" = some m.cls := findClass_of_methodNamed Bd.named
  have hnm := (name_of_methodNamed Bd.named Bd.method).1
  have X0 : Stand p l e ({ frames := 1, cells := 0, slots := 0, locals := 12 } : Room) s m #[(.ref a1)] below meth c s₁ [] 0 0 := Stand.of_body Bd
  have e0 : s₁.heap = h0 := by rw [← hh, Bd.state]; rfl
  have N0 := Fr.nil n0
  have k0 : own_To p.tables e below (s₁.setTop (entryFrame m #[(.ref a1)] 1)) s₁ (mkF m 0 #[.val (.ref a1)] []) := fun t k => castTop (own_ef1 m a1) k
  have k1 : own_To p.tables e below (s₁.setTop (entryFrame m #[(.ref a1)] 1)) s₁ (mkF m 1 #[.val (.ref a1)] [(.ref a1)]) := fun t k => k0 t (XS.aloadN X0.here hx rfl (hb hby own_d1_0) rfl rfl k)
  obtain ⟨cq2, kq2, q2a, q2b, q2c⟩ := isOf hZ e0 E_a1
  obtain ⟨_, _, ⟨T2, L2, k2, n2⟩, -, X2, ⟨Lc2, hQ2, l2, y2, z2⟩, st2⟩ := X0.virtualBackUp hx (x := (⟨"com/example/whole_roster/wholeroster/model/Role", "ordinal", "()I"⟩ : MethodName)) (y := (⟨"java/lang/Enum", "ordinal", "()I"⟩ : MethodName)) (owner := "java/lang/Enum") hown (mvT hZ (hw _ (List.mem_of_getElem? (i := 9) rfl))) (mvT hZ (hw _ (List.mem_of_getElem? (i := 10) rfl))) (mvT hZ (hw _ (List.mem_of_getElem? (i := 11) rfl))) (by decide) (mvT hZ (hw _ (List.mem_of_getElem? (i := 13) rfl))) (mvT hZ (hw _ (List.mem_of_getElem? (i := 12) rfl))) (backOf (W := 0) (own_m2 l Z a0 hw [] a1 (2 : Int32) h0 n0 Z0 F_ordinal_a1) hZ (hw _ (List.mem_of_getElem? (i := 15) rfl)) (hw _ (List.mem_of_getElem? (i := 14) rfl)) (by decide) (by decide)) q2a q2c (g := (mkF m 1 #[.val (.ref a1)] [(.ref a1)])) rfl (by rw [hml]; rfl) (Steps.refl _) (argsL := []) (rest := []) (lenOf own_pd0 rfl) rfl (by show 2 * 0 + _ ≤ _; exact Nat.le_of_eq rfl) (hb hby own_d1_1) (fun _ _ => ⟨rfl, e0, (by decide : 0 + 0 ≤ _), (by decide : 0 + 0 ≤ _)⟩)
  dsimp only [Pt.U, Pt.locs, Pt.cells, Pt.slots] at X2 l2 y2 z2 st2 hQ2
  subst l2 y2 z2
  rw [show own_f2 (2 : Int32) = (2 : Int32) from rfl] at hQ2
  obtain ⟨rfl, N2q, e2⟩ := hQ2
  have N2 := Fr.app N0 N2q
  have k3 : own_To p.tables e below (s₁.setTop (entryFrame m #[(.ref a1)] 1)) T2 (mkF m 4 #[.val (.ref a1)] [(.int (2 : Int32))]) := fun t k => k1 t (st2.trans k)
  have k4 : own_To p.tables e below (s₁.setTop (entryFrame m #[(.ref a1)] 1)) T2 (mkF m 46 #[.val (.ref a1)] []) := fun t k => k3 t (XS.tswIn X2.here hx rfl (o := 42) (pc0 := 4) (pc' := 46) rfl (hb hby own_d1_4) rfl (by decide) (by decide) (by decide) (by decide) k)
  have k5 : own_To p.tables e below (s₁.setTop (entryFrame m #[(.ref a1)] 1)) T2 (mkF m 47 #[.val (.ref a1)] [(.int (0 : Int32))]) := fun t k => k4 t (XS.iconst X2.here hx rfl (hb hby own_d1_46) k)
  obtain ⟨fs, hr, hrun, hended, hW, hsame⟩ := X2.leave (v := some (.int (0 : Int32))) (fun h => by rw [Bd.returns] at h; cases h)
  refine ⟨_, _, k5 _ ?_, hrun, hended, _, _, rfl, ?_, ⟨_, rfl⟩, hW, hsame.mono (by decide) (by decide)⟩
  · exact retN X2 hx (t := .boolean) Bd.returns (by simp) (hb hby own_d1_47) hr
  · refine ⟨?_, N2, e2⟩
    rw [show (own_f1_TOKEN_INTROSPECTOR) = (0 : Int32) from by unfold own_f1_TOKEN_INTROSPECTOR; rfl]
theorem own_d3_0 : decode prog_15_method_5_code 0 = .ok (.aload_n 0, 1) := by decide +kernel
theorem own_d3_1 : decode prog_15_method_5_code 1 = .ok (.invokevirtual 32, 3) := by decide +kernel
theorem own_d3_4 : decode prog_15_method_5_code 4 = .ok (.tableswitch 28 0 2 #[38, 42, 42], 28) := by decide +kernel
theorem own_d3_42 : decode prog_15_method_5_code 42 = .ok (.iconst 1, 1) := by decide +kernel
theorem own_d3_43 : decode prog_15_method_5_code 43 = .ok (.goto 4, 3) := by decide +kernel
theorem own_d3_47 : decode prog_15_method_5_code 47 = .ok (.ireturn, 1) := by decide +kernel
theorem own_ef3 (m : MethodId) (x0 : Addr) : entryFrame m #[(.ref x0)] 1 = mkF m 0 #[.val (.ref x0)] [] := by first | (simp [entryFrame, mkF, argsToLocals, Value.category]; done) | rfl
theorem own_pn3 : plainName "com/example/whole_roster/wholeroster/model/Role" = true := by first | (simp [plainName, overriddenIn]; done) | decide +kernel
def own_f3_TENANT_ADMIN : Int32 := (1 : Int32)
set_option maxRecDepth 65536 in
set_option maxHeartbeats 40000000 in
theorem own_m3_TENANT_ADMIN (l : Launch) (Z : State) (a0 : Array Value) (hw : ∀ d ∈ tables_1, d.before a0 Z = true) (ws : List Jvm.Cond) (a1 : Addr) (h0 : Heap) (n0 : Nat) (Z0 : n0 ≤ h0.size) (F_ordinal_a1 : Fld Z h0 a1 "java/lang/Enum" "ordinal" "I" (.int (0 : Int32))) (E_a1 : Exa Z h0 a1 "com/example/whole_roster/wholeroster/model/Role") :
    MetFree l (⟨"com/example/whole_roster/wholeroster/model/Role", "mayChange", "()Z"⟩ : MethodName) (head1 (Jvm.Cond.code (⟨"com/example/whole_roster/wholeroster/model/Role", "mayChange", "()Z"⟩ : MethodName) prog_15_method_5_code 1 (some .boolean) :: ws) ({ frames := 1, cells := 0, slots := 0, locals := 12 } : Room)) (fun a U => a = #[(.ref a1)] ∧ Z.Warmed39 U.vm ∧ U.heap = h0) (fun _ _ _ _ _ => True) (fun _ U o U' => ∃ v L, o = .returned v ∧ own_Q (some (.int own_f3_TENANT_ADMIN)) h0 n0 v U'.heap L ∧ FrameEnd U o U' L ({ frames := 1, cells := 0, slots := 0, locals := 12 } : Room).cells ({ frames := 1, cells := 0, slots := 0, locals := 12 } : Room).slots) := by
  refine MetFree.of_bodySF (plainFor_of_name own_pn3) hisR ?_
  intro p e s m args below meth c s₁ Bd hml0 hP hK
  obtain ⟨rfl, hZ, hh⟩ := hP
  have hx := Bd.exec
  have hby := Bd.bytes
  have hml : c.maxLocals = 1 := hml0
  have hown : s.vm.findClass "com/example/whole_roster/wholeroster/model/Role" = some m.cls := findClass_of_methodNamed Bd.named
  have hnm := (name_of_methodNamed Bd.named Bd.method).1
  have X0 : Stand p l e ({ frames := 1, cells := 0, slots := 0, locals := 12 } : Room) s m #[(.ref a1)] below meth c s₁ [] 0 0 := Stand.of_body Bd
  have e0 : s₁.heap = h0 := by rw [← hh, Bd.state]; rfl
  have N0 := Fr.nil n0
  have k0 : own_To p.tables e below (s₁.setTop (entryFrame m #[(.ref a1)] 1)) s₁ (mkF m 0 #[.val (.ref a1)] []) := fun t k => castTop (own_ef3 m a1) k
  have k1 : own_To p.tables e below (s₁.setTop (entryFrame m #[(.ref a1)] 1)) s₁ (mkF m 1 #[.val (.ref a1)] [(.ref a1)]) := fun t k => k0 t (XS.aloadN X0.here hx rfl (hb hby own_d3_0) rfl rfl k)
  obtain ⟨cq2, kq2, q2a, q2b, q2c⟩ := isOf hZ e0 E_a1
  obtain ⟨_, _, ⟨T2, L2, k2, n2⟩, -, X2, ⟨Lc2, hQ2, l2, y2, z2⟩, st2⟩ := X0.virtualBackUp hx (x := (⟨"com/example/whole_roster/wholeroster/model/Role", "ordinal", "()I"⟩ : MethodName)) (y := (⟨"java/lang/Enum", "ordinal", "()I"⟩ : MethodName)) (owner := "java/lang/Enum") hown (mvT hZ (hw _ (List.mem_of_getElem? (i := 9) rfl))) (mvT hZ (hw _ (List.mem_of_getElem? (i := 10) rfl))) (mvT hZ (hw _ (List.mem_of_getElem? (i := 11) rfl))) (by decide) (mvT hZ (hw _ (List.mem_of_getElem? (i := 13) rfl))) (mvT hZ (hw _ (List.mem_of_getElem? (i := 12) rfl))) (backOf (W := 0) (own_m2 l Z a0 hw [] a1 (0 : Int32) h0 n0 Z0 F_ordinal_a1) hZ (hw _ (List.mem_of_getElem? (i := 15) rfl)) (hw _ (List.mem_of_getElem? (i := 14) rfl)) (by decide) (by decide)) q2a q2c (g := (mkF m 1 #[.val (.ref a1)] [(.ref a1)])) rfl (by rw [hml]; rfl) (Steps.refl _) (argsL := []) (rest := []) (lenOf own_pd0 rfl) rfl (by show 2 * 0 + _ ≤ _; exact Nat.le_of_eq rfl) (hb hby own_d3_1) (fun _ _ => ⟨rfl, e0, (by decide : 0 + 0 ≤ _), (by decide : 0 + 0 ≤ _)⟩)
  dsimp only [Pt.U, Pt.locs, Pt.cells, Pt.slots] at X2 l2 y2 z2 st2 hQ2
  subst l2 y2 z2
  rw [show own_f2 (0 : Int32) = (0 : Int32) from rfl] at hQ2
  obtain ⟨rfl, N2q, e2⟩ := hQ2
  have N2 := Fr.app N0 N2q
  have k3 : own_To p.tables e below (s₁.setTop (entryFrame m #[(.ref a1)] 1)) T2 (mkF m 4 #[.val (.ref a1)] [(.int (0 : Int32))]) := fun t k => k1 t (st2.trans k)
  have k4 : own_To p.tables e below (s₁.setTop (entryFrame m #[(.ref a1)] 1)) T2 (mkF m 42 #[.val (.ref a1)] []) := fun t k => k3 t (XS.tswIn X2.here hx rfl (o := 38) (pc0 := 4) (pc' := 42) rfl (hb hby own_d3_4) rfl (by decide) (by decide) (by decide) (by decide) k)
  have k5 : own_To p.tables e below (s₁.setTop (entryFrame m #[(.ref a1)] 1)) T2 (mkF m 43 #[.val (.ref a1)] [(.int (1 : Int32))]) := fun t k => k4 t (XS.iconst X2.here hx rfl (hb hby own_d3_42) k)
  have k6 : own_To p.tables e below (s₁.setTop (entryFrame m #[(.ref a1)] 1)) T2 (mkF m 47 #[.val (.ref a1)] [(.int (1 : Int32))]) := fun t k => k5 t (XS.goto X2.here hx rfl (pc0 := 43) (pc' := 47) rfl (hb hby own_d3_43) (by decide) (by decide) k)
  obtain ⟨fs, hr, hrun, hended, hW, hsame⟩ := X2.leave (v := some (.int (1 : Int32))) (fun h => by rw [Bd.returns] at h; cases h)
  refine ⟨_, _, k6 _ ?_, hrun, hended, _, _, rfl, ?_, ⟨_, rfl⟩, hW, hsame.mono (by decide) (by decide)⟩
  · exact retN X2 hx (t := .boolean) Bd.returns (by simp) (hb hby own_d3_47) hr
  · refine ⟨?_, N2, e2⟩
    rw [show (own_f3_TENANT_ADMIN) = (1 : Int32) from by unfold own_f3_TENANT_ADMIN; rfl]
theorem own_d3_46 : decode prog_15_method_5_code 46 = .ok (.iconst 0, 1) := by decide +kernel
def own_f3_TENANT_VIEWER : Int32 := (0 : Int32)
set_option maxRecDepth 65536 in
set_option maxHeartbeats 40000000 in
theorem own_m3_TENANT_VIEWER (l : Launch) (Z : State) (a0 : Array Value) (hw : ∀ d ∈ tables_1, d.before a0 Z = true) (ws : List Jvm.Cond) (a1 : Addr) (h0 : Heap) (n0 : Nat) (Z0 : n0 ≤ h0.size) (F_ordinal_a1 : Fld Z h0 a1 "java/lang/Enum" "ordinal" "I" (.int (1 : Int32))) (E_a1 : Exa Z h0 a1 "com/example/whole_roster/wholeroster/model/Role") :
    MetFree l (⟨"com/example/whole_roster/wholeroster/model/Role", "mayChange", "()Z"⟩ : MethodName) (head1 (Jvm.Cond.code (⟨"com/example/whole_roster/wholeroster/model/Role", "mayChange", "()Z"⟩ : MethodName) prog_15_method_5_code 1 (some .boolean) :: ws) ({ frames := 1, cells := 0, slots := 0, locals := 12 } : Room)) (fun a U => a = #[(.ref a1)] ∧ Z.Warmed39 U.vm ∧ U.heap = h0) (fun _ _ _ _ _ => True) (fun _ U o U' => ∃ v L, o = .returned v ∧ own_Q (some (.int own_f3_TENANT_VIEWER)) h0 n0 v U'.heap L ∧ FrameEnd U o U' L ({ frames := 1, cells := 0, slots := 0, locals := 12 } : Room).cells ({ frames := 1, cells := 0, slots := 0, locals := 12 } : Room).slots) := by
  refine MetFree.of_bodySF (plainFor_of_name own_pn3) hisR ?_
  intro p e s m args below meth c s₁ Bd hml0 hP hK
  obtain ⟨rfl, hZ, hh⟩ := hP
  have hx := Bd.exec
  have hby := Bd.bytes
  have hml : c.maxLocals = 1 := hml0
  have hown : s.vm.findClass "com/example/whole_roster/wholeroster/model/Role" = some m.cls := findClass_of_methodNamed Bd.named
  have hnm := (name_of_methodNamed Bd.named Bd.method).1
  have X0 : Stand p l e ({ frames := 1, cells := 0, slots := 0, locals := 12 } : Room) s m #[(.ref a1)] below meth c s₁ [] 0 0 := Stand.of_body Bd
  have e0 : s₁.heap = h0 := by rw [← hh, Bd.state]; rfl
  have N0 := Fr.nil n0
  have k0 : own_To p.tables e below (s₁.setTop (entryFrame m #[(.ref a1)] 1)) s₁ (mkF m 0 #[.val (.ref a1)] []) := fun t k => castTop (own_ef3 m a1) k
  have k1 : own_To p.tables e below (s₁.setTop (entryFrame m #[(.ref a1)] 1)) s₁ (mkF m 1 #[.val (.ref a1)] [(.ref a1)]) := fun t k => k0 t (XS.aloadN X0.here hx rfl (hb hby own_d3_0) rfl rfl k)
  obtain ⟨cq2, kq2, q2a, q2b, q2c⟩ := isOf hZ e0 E_a1
  obtain ⟨_, _, ⟨T2, L2, k2, n2⟩, -, X2, ⟨Lc2, hQ2, l2, y2, z2⟩, st2⟩ := X0.virtualBackUp hx (x := (⟨"com/example/whole_roster/wholeroster/model/Role", "ordinal", "()I"⟩ : MethodName)) (y := (⟨"java/lang/Enum", "ordinal", "()I"⟩ : MethodName)) (owner := "java/lang/Enum") hown (mvT hZ (hw _ (List.mem_of_getElem? (i := 9) rfl))) (mvT hZ (hw _ (List.mem_of_getElem? (i := 10) rfl))) (mvT hZ (hw _ (List.mem_of_getElem? (i := 11) rfl))) (by decide) (mvT hZ (hw _ (List.mem_of_getElem? (i := 13) rfl))) (mvT hZ (hw _ (List.mem_of_getElem? (i := 12) rfl))) (backOf (W := 0) (own_m2 l Z a0 hw [] a1 (1 : Int32) h0 n0 Z0 F_ordinal_a1) hZ (hw _ (List.mem_of_getElem? (i := 15) rfl)) (hw _ (List.mem_of_getElem? (i := 14) rfl)) (by decide) (by decide)) q2a q2c (g := (mkF m 1 #[.val (.ref a1)] [(.ref a1)])) rfl (by rw [hml]; rfl) (Steps.refl _) (argsL := []) (rest := []) (lenOf own_pd0 rfl) rfl (by show 2 * 0 + _ ≤ _; exact Nat.le_of_eq rfl) (hb hby own_d3_1) (fun _ _ => ⟨rfl, e0, (by decide : 0 + 0 ≤ _), (by decide : 0 + 0 ≤ _)⟩)
  dsimp only [Pt.U, Pt.locs, Pt.cells, Pt.slots] at X2 l2 y2 z2 st2 hQ2
  subst l2 y2 z2
  rw [show own_f2 (1 : Int32) = (1 : Int32) from rfl] at hQ2
  obtain ⟨rfl, N2q, e2⟩ := hQ2
  have N2 := Fr.app N0 N2q
  have k3 : own_To p.tables e below (s₁.setTop (entryFrame m #[(.ref a1)] 1)) T2 (mkF m 4 #[.val (.ref a1)] [(.int (1 : Int32))]) := fun t k => k1 t (st2.trans k)
  have k4 : own_To p.tables e below (s₁.setTop (entryFrame m #[(.ref a1)] 1)) T2 (mkF m 46 #[.val (.ref a1)] []) := fun t k => k3 t (XS.tswIn X2.here hx rfl (o := 42) (pc0 := 4) (pc' := 46) rfl (hb hby own_d3_4) rfl (by decide) (by decide) (by decide) (by decide) k)
  have k5 : own_To p.tables e below (s₁.setTop (entryFrame m #[(.ref a1)] 1)) T2 (mkF m 47 #[.val (.ref a1)] [(.int (0 : Int32))]) := fun t k => k4 t (XS.iconst X2.here hx rfl (hb hby own_d3_46) k)
  obtain ⟨fs, hr, hrun, hended, hW, hsame⟩ := X2.leave (v := some (.int (0 : Int32))) (fun h => by rw [Bd.returns] at h; cases h)
  refine ⟨_, _, k5 _ ?_, hrun, hended, _, _, rfl, ?_, ⟨_, rfl⟩, hW, hsame.mono (by decide) (by decide)⟩
  · exact retN X2 hx (t := .boolean) Bd.returns (by simp) (hb hby own_d3_47) hr
  · refine ⟨?_, N2, e2⟩
    rw [show (own_f3_TENANT_VIEWER) = (0 : Int32) from by unfold own_f3_TENANT_VIEWER; rfl]
def own_f3_TOKEN_INTROSPECTOR : Int32 := (0 : Int32)
set_option maxRecDepth 65536 in
set_option maxHeartbeats 40000000 in
theorem own_m3_TOKEN_INTROSPECTOR (l : Launch) (Z : State) (a0 : Array Value) (hw : ∀ d ∈ tables_1, d.before a0 Z = true) (ws : List Jvm.Cond) (a1 : Addr) (h0 : Heap) (n0 : Nat) (Z0 : n0 ≤ h0.size) (F_ordinal_a1 : Fld Z h0 a1 "java/lang/Enum" "ordinal" "I" (.int (2 : Int32))) (E_a1 : Exa Z h0 a1 "com/example/whole_roster/wholeroster/model/Role") :
    MetFree l (⟨"com/example/whole_roster/wholeroster/model/Role", "mayChange", "()Z"⟩ : MethodName) (head1 (Jvm.Cond.code (⟨"com/example/whole_roster/wholeroster/model/Role", "mayChange", "()Z"⟩ : MethodName) prog_15_method_5_code 1 (some .boolean) :: ws) ({ frames := 1, cells := 0, slots := 0, locals := 12 } : Room)) (fun a U => a = #[(.ref a1)] ∧ Z.Warmed39 U.vm ∧ U.heap = h0) (fun _ _ _ _ _ => True) (fun _ U o U' => ∃ v L, o = .returned v ∧ own_Q (some (.int own_f3_TOKEN_INTROSPECTOR)) h0 n0 v U'.heap L ∧ FrameEnd U o U' L ({ frames := 1, cells := 0, slots := 0, locals := 12 } : Room).cells ({ frames := 1, cells := 0, slots := 0, locals := 12 } : Room).slots) := by
  refine MetFree.of_bodySF (plainFor_of_name own_pn3) hisR ?_
  intro p e s m args below meth c s₁ Bd hml0 hP hK
  obtain ⟨rfl, hZ, hh⟩ := hP
  have hx := Bd.exec
  have hby := Bd.bytes
  have hml : c.maxLocals = 1 := hml0
  have hown : s.vm.findClass "com/example/whole_roster/wholeroster/model/Role" = some m.cls := findClass_of_methodNamed Bd.named
  have hnm := (name_of_methodNamed Bd.named Bd.method).1
  have X0 : Stand p l e ({ frames := 1, cells := 0, slots := 0, locals := 12 } : Room) s m #[(.ref a1)] below meth c s₁ [] 0 0 := Stand.of_body Bd
  have e0 : s₁.heap = h0 := by rw [← hh, Bd.state]; rfl
  have N0 := Fr.nil n0
  have k0 : own_To p.tables e below (s₁.setTop (entryFrame m #[(.ref a1)] 1)) s₁ (mkF m 0 #[.val (.ref a1)] []) := fun t k => castTop (own_ef3 m a1) k
  have k1 : own_To p.tables e below (s₁.setTop (entryFrame m #[(.ref a1)] 1)) s₁ (mkF m 1 #[.val (.ref a1)] [(.ref a1)]) := fun t k => k0 t (XS.aloadN X0.here hx rfl (hb hby own_d3_0) rfl rfl k)
  obtain ⟨cq2, kq2, q2a, q2b, q2c⟩ := isOf hZ e0 E_a1
  obtain ⟨_, _, ⟨T2, L2, k2, n2⟩, -, X2, ⟨Lc2, hQ2, l2, y2, z2⟩, st2⟩ := X0.virtualBackUp hx (x := (⟨"com/example/whole_roster/wholeroster/model/Role", "ordinal", "()I"⟩ : MethodName)) (y := (⟨"java/lang/Enum", "ordinal", "()I"⟩ : MethodName)) (owner := "java/lang/Enum") hown (mvT hZ (hw _ (List.mem_of_getElem? (i := 9) rfl))) (mvT hZ (hw _ (List.mem_of_getElem? (i := 10) rfl))) (mvT hZ (hw _ (List.mem_of_getElem? (i := 11) rfl))) (by decide) (mvT hZ (hw _ (List.mem_of_getElem? (i := 13) rfl))) (mvT hZ (hw _ (List.mem_of_getElem? (i := 12) rfl))) (backOf (W := 0) (own_m2 l Z a0 hw [] a1 (2 : Int32) h0 n0 Z0 F_ordinal_a1) hZ (hw _ (List.mem_of_getElem? (i := 15) rfl)) (hw _ (List.mem_of_getElem? (i := 14) rfl)) (by decide) (by decide)) q2a q2c (g := (mkF m 1 #[.val (.ref a1)] [(.ref a1)])) rfl (by rw [hml]; rfl) (Steps.refl _) (argsL := []) (rest := []) (lenOf own_pd0 rfl) rfl (by show 2 * 0 + _ ≤ _; exact Nat.le_of_eq rfl) (hb hby own_d3_1) (fun _ _ => ⟨rfl, e0, (by decide : 0 + 0 ≤ _), (by decide : 0 + 0 ≤ _)⟩)
  dsimp only [Pt.U, Pt.locs, Pt.cells, Pt.slots] at X2 l2 y2 z2 st2 hQ2
  subst l2 y2 z2
  rw [show own_f2 (2 : Int32) = (2 : Int32) from rfl] at hQ2
  obtain ⟨rfl, N2q, e2⟩ := hQ2
  have N2 := Fr.app N0 N2q
  have k3 : own_To p.tables e below (s₁.setTop (entryFrame m #[(.ref a1)] 1)) T2 (mkF m 4 #[.val (.ref a1)] [(.int (2 : Int32))]) := fun t k => k1 t (st2.trans k)
  have k4 : own_To p.tables e below (s₁.setTop (entryFrame m #[(.ref a1)] 1)) T2 (mkF m 46 #[.val (.ref a1)] []) := fun t k => k3 t (XS.tswIn X2.here hx rfl (o := 42) (pc0 := 4) (pc' := 46) rfl (hb hby own_d3_4) rfl (by decide) (by decide) (by decide) (by decide) k)
  have k5 : own_To p.tables e below (s₁.setTop (entryFrame m #[(.ref a1)] 1)) T2 (mkF m 47 #[.val (.ref a1)] [(.int (0 : Int32))]) := fun t k => k4 t (XS.iconst X2.here hx rfl (hb hby own_d3_46) k)
  obtain ⟨fs, hr, hrun, hended, hW, hsame⟩ := X2.leave (v := some (.int (0 : Int32))) (fun h => by rw [Bd.returns] at h; cases h)
  refine ⟨_, _, k5 _ ?_, hrun, hended, _, _, rfl, ?_, ⟨_, rfl⟩, hW, hsame.mono (by decide) (by decide)⟩
  · exact retN X2 hx (t := .boolean) Bd.returns (by simp) (hb hby own_d3_47) hr
  · refine ⟨?_, N2, e2⟩
    rw [show (own_f3_TOKEN_INTROSPECTOR) = (0 : Int32) from by unfold own_f3_TOKEN_INTROSPECTOR; rfl]
theorem own_pd1 : parseMethodDescriptor "()Z" = some ⟨[], some .boolean⟩ := by decide +kernel
theorem own_ef0 (m : MethodId) (x0 : Int32) : entryFrame m #[(.int x0)] maxLocals = mkF m 0 #[.val (.int x0), .unset, .unset, .unset, .unset, .unset] [] := by first | (simp [entryFrame, mkF, argsToLocals, Value.category, maxLocals]; done) | rfl
theorem own_pn0 : plainName "com/example/whole_roster/wholeroster/model/RoleReachesTenantsPinLaw" = true := by first | (simp [plainName, overriddenIn]; done) | decide +kernel
def own_Q0 (n0 : Nat) (v : Option Value) (L : List Loc) : Prop := v = some (.int (1 : Int32)) ∧ Fr n0 L
set_option maxRecDepth 65536 in
set_option maxHeartbeats 40000000 in
theorem own_m0 (l : Launch) (Z : State) (a0 : Array Value) (hw : ∀ d ∈ tables_1, d.before a0 Z = true) (ws : List Jvm.Cond) (p1 : Int32) (w_TENANT_ADMIN : Addr) (w_TENANT_VIEWER : Addr) (w_TOKEN_INTROSPECTOR : Addr) (h0 : Heap) (n0 : Nat) (Z0 : n0 ≤ h0.size) (S_TENANT_ADMIN : Sta Z h0 "com/example/whole_roster/wholeroster/model/Role" "TENANT_ADMIN" "Lcom/example/whole_roster/wholeroster/model/Role;" (.ref w_TENANT_ADMIN)) (F_ordinal_w_TENANT_ADMIN : Fld Z h0 w_TENANT_ADMIN "java/lang/Enum" "ordinal" "I" (.int (0 : Int32))) (E_w_TENANT_ADMIN : Exa Z h0 w_TENANT_ADMIN "com/example/whole_roster/wholeroster/model/Role") (S_TENANT_VIEWER : Sta Z h0 "com/example/whole_roster/wholeroster/model/Role" "TENANT_VIEWER" "Lcom/example/whole_roster/wholeroster/model/Role;" (.ref w_TENANT_VIEWER)) (F_ordinal_w_TENANT_VIEWER : Fld Z h0 w_TENANT_VIEWER "java/lang/Enum" "ordinal" "I" (.int (1 : Int32))) (E_w_TENANT_VIEWER : Exa Z h0 w_TENANT_VIEWER "com/example/whole_roster/wholeroster/model/Role") (S_TOKEN_INTROSPECTOR : Sta Z h0 "com/example/whole_roster/wholeroster/model/Role" "TOKEN_INTROSPECTOR" "Lcom/example/whole_roster/wholeroster/model/Role;" (.ref w_TOKEN_INTROSPECTOR)) (F_ordinal_w_TOKEN_INTROSPECTOR : Fld Z h0 w_TOKEN_INTROSPECTOR "java/lang/Enum" "ordinal" "I" (.int (2 : Int32))) (E_w_TOKEN_INTROSPECTOR : Exa Z h0 w_TOKEN_INTROSPECTOR "com/example/whole_roster/wholeroster/model/Role") (ne_TENANT_ADMIN_TENANT_VIEWER : ¬ (w_TENANT_ADMIN = w_TENANT_VIEWER)) (ne_TENANT_ADMIN_TOKEN_INTROSPECTOR : ¬ (w_TENANT_ADMIN = w_TOKEN_INTROSPECTOR)) (ne_TENANT_VIEWER_TOKEN_INTROSPECTOR : ¬ (w_TENANT_VIEWER = w_TOKEN_INTROSPECTOR)) :
    MetFree l x (head1 (Jvm.Cond.code x code maxLocals ret :: ws) room_1) (fun a U => a = #[(.int p1)] ∧ Z.Warmed39 U.vm ∧ U.heap = h0) (fun _ _ _ _ _ => True) (fun _ U o U' => ∃ v L, o = .returned v ∧ own_Q0 n0 v L ∧ FrameEnd U o U' L room_1.cells room_1.slots) := by
  refine MetFree.of_bodySF (plainFor_of_name own_pn0) hisR ?_
  intro p e s m args below meth c s₁ Bd hml0 hP hK
  obtain ⟨rfl, hZ, hh⟩ := hP
  have hx := Bd.exec
  have hby := Bd.bytes
  have hml : c.maxLocals = 6 := hml0
  have hown : s.vm.findClass "com/example/whole_roster/wholeroster/model/RoleReachesTenantsPinLaw" = some m.cls := findClass_of_methodNamed Bd.named
  have hnm := (name_of_methodNamed Bd.named Bd.method).1
  have X0 : Stand p l e room_1 s m #[(.int p1)] below meth c s₁ [] 0 0 := Stand.of_body Bd
  have e0 : s₁.heap = h0 := by rw [← hh, Bd.state]; rfl
  have N0 := Fr.nil n0
  have k0 : own_To p.tables e below (s₁.setTop (entryFrame m #[(.int p1)] maxLocals)) s₁ (mkF m 0 #[.val (.int p1), .unset, .unset, .unset, .unset, .unset] []) := fun t k => castTop (own_ef0 m p1) k
  have k1 : own_To p.tables e below (s₁.setTop (entryFrame m #[(.int p1)] maxLocals)) s₁ (mkF m 1 #[.val (.int p1), .unset, .unset, .unset, .unset, .unset] [(.int p1)]) := fun t k => k0 t (XS.iloadN X0.here hx rfl (hb hby at_0) rfl k)
  have k2 : own_To p.tables e below (s₁.setTop (entryFrame m #[(.int p1)] maxLocals)) s₁ (mkF m 3 #[.val (.int p1), .unset, .unset, .unset, .unset, .unset] [(.int (2147483647 : Int32)), (.int p1)]) := fun t k => k1 t (X0.ldcInt hx hown (mvT hZ (hw _ (List.mem_of_getElem? (i := 0) rfl))) (g := (mkF m 1 #[.val (.int p1), .unset, .unset, .unset, .unset, .unset] [(.int p1)])) rfl (hb hby at_1) _ k)
  have k3 : own_To p.tables e below (s₁.setTop (entryFrame m #[(.int p1)] maxLocals)) s₁ (mkF m 4 #[.val (.int p1), .unset, .unset, .unset, .unset, .unset] [(.int (p1 &&& (2147483647 : Int32)))]) := fun t k => k2 t (XS.iand X0.here hx rfl (hb hby at_3) rfl k)
  have k4 : own_To p.tables e below (s₁.setTop (entryFrame m #[(.int p1)] maxLocals)) s₁ (mkF m 5 #[.val (.int p1), .unset, .unset, .unset, .unset, .unset] [(.int (3 : Int32)), (.int (p1 &&& (2147483647 : Int32)))]) := fun t k => k3 t (XS.iconst X0.here hx rfl (hb hby at_4) k)
  have k5 : own_To p.tables e below (s₁.setTop (entryFrame m #[(.int p1)] maxLocals)) s₁ (mkF m 6 #[.val (.int p1), .unset, .unset, .unset, .unset, .unset] [(.int ((p1 &&& (2147483647 : Int32)) % (3 : Int32)))]) := fun t k => k4 t (iremM (g := (mkF m 5 #[.val (.int p1), .unset, .unset, .unset, .unset, .unset] [(.int (3 : Int32)), (.int (p1 &&& (2147483647 : Int32)))])) X0 hx rfl (hb hby at_5) rfl (by decide) k)
  have k6 : own_To p.tables e below (s₁.setTop (entryFrame m #[(.int p1)] maxLocals)) s₁ (mkF m 7 #[.val (.int p1), .val (.int ((p1 &&& (2147483647 : Int32)) % (3 : Int32))), .unset, .unset, .unset, .unset] []) := fun t k => k5 t (XS.istoreN X0.here hx rfl (hb hby at_6) rfl (l' := #[.val (.int p1), .val (.int ((p1 &&& (2147483647 : Int32)) % (3 : Int32))), .unset, .unset, .unset, .unset]) rfl k)
  have k7 : own_To p.tables e below (s₁.setTop (entryFrame m #[(.int p1)] maxLocals)) s₁ (mkF m 8 #[.val (.int p1), .val (.int ((p1 &&& (2147483647 : Int32)) % (3 : Int32))), .unset, .unset, .unset, .unset] [(.int ((p1 &&& (2147483647 : Int32)) % (3 : Int32)))]) := fun t k => k6 t (XS.iloadN X0.here hx rfl (hb hby at_7) rfl k)
  by_cases hc8 : ((p1 &&& (2147483647 : Int32)) % (3 : Int32)) = (0 : Int32)
  · have k9 : own_To p.tables e below (s₁.setTop (entryFrame m #[(.int p1)] maxLocals)) s₁ (mkF m 11 #[.val (.int p1), .val (.int ((p1 &&& (2147483647 : Int32)) % (3 : Int32))), .unset, .unset, .unset, .unset] []) := fun t k => k7 t (XS.ifNo X0.here hx rfl (hb hby at_8) rfl ((if0 _ _).trans (teq (show ((p1 &&& (2147483647 : Int32)) % (3 : Int32)) = (0 : Int32) from hc8)).2) k)
    obtain ⟨T10, X10, e10, st10⟩ := getS2 X0 hx hZ hown (host := "") (Or.inl (hw _ (List.mem_of_getElem? (i := 1) rfl))) Via.refl e0 S_TENANT_ADMIN (g := (mkF m 11 #[.val (.int p1), .val (.int ((p1 &&& (2147483647 : Int32)) % (3 : Int32))), .unset, .unset, .unset, .unset] [])) rfl (hb hby at_11)
    have k11 : own_To p.tables e below (s₁.setTop (entryFrame m #[(.int p1)] maxLocals)) T10 (mkF m 14 #[.val (.int p1), .val (.int ((p1 &&& (2147483647 : Int32)) % (3 : Int32))), .unset, .unset, .unset, .unset] [(.ref w_TENANT_ADMIN)]) := fun t k => k9 t (st10 t k)
    have k12 : own_To p.tables e below (s₁.setTop (entryFrame m #[(.int p1)] maxLocals)) T10 (mkF m 15 #[.val (.int p1), .val (.int ((p1 &&& (2147483647 : Int32)) % (3 : Int32))), .val (.ref w_TENANT_ADMIN), .unset, .unset, .unset] []) := fun t k => k11 t (XS.astoreN X10.here hx rfl (hb hby at_14) rfl rfl (l' := #[.val (.int p1), .val (.int ((p1 &&& (2147483647 : Int32)) % (3 : Int32))), .val (.ref w_TENANT_ADMIN), .unset, .unset, .unset]) rfl k)
    have k13 : own_To p.tables e below (s₁.setTop (entryFrame m #[(.int p1)] maxLocals)) T10 (mkF m 34 #[.val (.int p1), .val (.int ((p1 &&& (2147483647 : Int32)) % (3 : Int32))), .val (.ref w_TENANT_ADMIN), .unset, .unset, .unset] []) := fun t k => k12 t (XS.goto X10.here hx rfl (pc0 := 15) (pc' := 34) rfl (hb hby at_15) (by decide) (by decide) k)
    have k14 : own_To p.tables e below (s₁.setTop (entryFrame m #[(.int p1)] maxLocals)) T10 (mkF m 35 #[.val (.int p1), .val (.int ((p1 &&& (2147483647 : Int32)) % (3 : Int32))), .val (.ref w_TENANT_ADMIN), .unset, .unset, .unset] [(.ref w_TENANT_ADMIN)]) := fun t k => k13 t (XS.aloadN X10.here hx rfl (hb hby at_34) rfl rfl k)
    obtain ⟨cq15, kq15, q15a, q15b, q15c⟩ := isOf hZ e10 E_w_TENANT_ADMIN
    obtain ⟨_, _, ⟨T15, L15, k15, n15⟩, -, X15, ⟨Lc15, hQ15, l15, y15, z15⟩, st15⟩ := X10.virtualBack hx (y := (⟨"com/example/whole_roster/wholeroster/model/Role", "reachesTenants", "()Z"⟩ : MethodName)) (z := (⟨"com/example/whole_roster/wholeroster/model/Role", "reachesTenants", "()Z"⟩ : MethodName)) hown (mvT hZ (hw _ (List.mem_of_getElem? (i := 4) rfl))) (mvT hZ (hw _ (List.mem_of_getElem? (i := 5) rfl))) (notFace_of_selects (args := #[]) (mvT hZ (hw _ (List.mem_of_getElem? (i := 7) rfl)))) (mvT hZ (hw _ (List.mem_of_getElem? (i := 7) rfl))) (mvT hZ (hw _ (List.mem_of_getElem? (i := 6) rfl))) (by decide) (backOf (W := 0) (own_m1_TENANT_ADMIN l Z a0 hw [] w_TENANT_ADMIN h0 n0 Z0 F_ordinal_w_TENANT_ADMIN E_w_TENANT_ADMIN) hZ (hw _ (List.mem_of_getElem? (i := 8) rfl)) (hw _ (List.mem_of_getElem? (i := 2) rfl)) (by decide) (by decide)) q15a q15c (g := (mkF m 35 #[.val (.int p1), .val (.int ((p1 &&& (2147483647 : Int32)) % (3 : Int32))), .val (.ref w_TENANT_ADMIN), .unset, .unset, .unset] [(.ref w_TENANT_ADMIN)])) rfl (by rw [hml]; rfl) (Steps.refl _) (argsL := []) (rest := []) (lenOf own_pd1 rfl) rfl (by show 2 * 0 + _ ≤ _; exact Nat.le_of_eq rfl) (hb hby at_35) (fun _ _ => ⟨rfl, e10, (by decide : 0 + 0 ≤ _), (by decide : 0 + 0 ≤ _)⟩)
    dsimp only [Pt.U, Pt.locs, Pt.cells, Pt.slots] at X15 l15 y15 z15 st15 hQ15
    subst l15 y15 z15
    rw [show own_f1_TENANT_ADMIN = (1 : Int32) from rfl] at hQ15
    obtain ⟨rfl, N15q, e15⟩ := hQ15
    have N15 := Fr.app N0 N15q
    have k16 : own_To p.tables e below (s₁.setTop (entryFrame m #[(.int p1)] maxLocals)) T15 (mkF m 38 #[.val (.int p1), .val (.int ((p1 &&& (2147483647 : Int32)) % (3 : Int32))), .val (.ref w_TENANT_ADMIN), .unset, .unset, .unset] [(.int (1 : Int32))]) := fun t k => k14 t (st15.trans k)
    have k17 : own_To p.tables e below (s₁.setTop (entryFrame m #[(.int p1)] maxLocals)) T15 (mkF m 39 #[.val (.int p1), .val (.int ((p1 &&& (2147483647 : Int32)) % (3 : Int32))), .val (.ref w_TENANT_ADMIN), .val (.int (1 : Int32)), .unset, .unset] []) := fun t k => k16 t (XS.istoreN X15.here hx rfl (hb hby at_38) rfl (l' := #[.val (.int p1), .val (.int ((p1 &&& (2147483647 : Int32)) % (3 : Int32))), .val (.ref w_TENANT_ADMIN), .val (.int (1 : Int32)), .unset, .unset]) rfl k)
    have k18 : own_To p.tables e below (s₁.setTop (entryFrame m #[(.int p1)] maxLocals)) T15 (mkF m 40 #[.val (.int p1), .val (.int ((p1 &&& (2147483647 : Int32)) % (3 : Int32))), .val (.ref w_TENANT_ADMIN), .val (.int (1 : Int32)), .unset, .unset] [(.int ((p1 &&& (2147483647 : Int32)) % (3 : Int32)))]) := fun t k => k17 t (XS.iloadN X15.here hx rfl (hb hby at_39) rfl k)
    have k19 : own_To p.tables e below (s₁.setTop (entryFrame m #[(.int p1)] maxLocals)) T15 (mkF m 41 #[.val (.int p1), .val (.int ((p1 &&& (2147483647 : Int32)) % (3 : Int32))), .val (.ref w_TENANT_ADMIN), .val (.int (1 : Int32)), .unset, .unset] [(.int (2 : Int32)), (.int ((p1 &&& (2147483647 : Int32)) % (3 : Int32)))]) := fun t k => k18 t (XS.iconst X15.here hx rfl (hb hby at_40) k)
    have k20 : own_To p.tables e below (s₁.setTop (entryFrame m #[(.int p1)] maxLocals)) T15 (mkF m 44 #[.val (.int p1), .val (.int ((p1 &&& (2147483647 : Int32)) % (3 : Int32))), .val (.ref w_TENANT_ADMIN), .val (.int (1 : Int32)), .unset, .unset] []) := fun t k => k19 t (XS.icmpNo X15.here hx rfl (hb hby at_41) rfl (feq (show ¬ (((p1 &&& (2147483647 : Int32)) % (3 : Int32)) = (2 : Int32)) from (by rw [hc8]; decide))).1 k)
    have k21 : own_To p.tables e below (s₁.setTop (entryFrame m #[(.int p1)] maxLocals)) T15 (mkF m 45 #[.val (.int p1), .val (.int ((p1 &&& (2147483647 : Int32)) % (3 : Int32))), .val (.ref w_TENANT_ADMIN), .val (.int (1 : Int32)), .unset, .unset] [(.int (1 : Int32))]) := fun t k => k20 t (XS.iconst X15.here hx rfl (hb hby at_44) k)
    have k22 : own_To p.tables e below (s₁.setTop (entryFrame m #[(.int p1)] maxLocals)) T15 (mkF m 49 #[.val (.int p1), .val (.int ((p1 &&& (2147483647 : Int32)) % (3 : Int32))), .val (.ref w_TENANT_ADMIN), .val (.int (1 : Int32)), .unset, .unset] [(.int (1 : Int32))]) := fun t k => k21 t (XS.goto X15.here hx rfl (pc0 := 45) (pc' := 49) rfl (hb hby at_45) (by decide) (by decide) k)
    have k23 : own_To p.tables e below (s₁.setTop (entryFrame m #[(.int p1)] maxLocals)) T15 (mkF m 51 #[.val (.int p1), .val (.int ((p1 &&& (2147483647 : Int32)) % (3 : Int32))), .val (.ref w_TENANT_ADMIN), .val (.int (1 : Int32)), .val (.int (1 : Int32)), .unset] []) := fun t k => k22 t (XS.istore X15.here hx rfl (hb hby at_49) rfl (l' := #[.val (.int p1), .val (.int ((p1 &&& (2147483647 : Int32)) % (3 : Int32))), .val (.ref w_TENANT_ADMIN), .val (.int (1 : Int32)), .val (.int (1 : Int32)), .unset]) rfl k)
    have k24 : own_To p.tables e below (s₁.setTop (entryFrame m #[(.int p1)] maxLocals)) T15 (mkF m 52 #[.val (.int p1), .val (.int ((p1 &&& (2147483647 : Int32)) % (3 : Int32))), .val (.ref w_TENANT_ADMIN), .val (.int (1 : Int32)), .val (.int (1 : Int32)), .unset] [(.ref w_TENANT_ADMIN)]) := fun t k => k23 t (XS.aloadN X15.here hx rfl (hb hby at_51) rfl rfl k)
    obtain ⟨cq25, kq25, q25a, q25b, q25c⟩ := isOf hZ e15 E_w_TENANT_ADMIN
    obtain ⟨_, _, ⟨T25, L25, k25, n25⟩, -, X25, ⟨Lc25, hQ25, l25, y25, z25⟩, st25⟩ := X15.virtualBack hx (y := (⟨"com/example/whole_roster/wholeroster/model/Role", "mayChange", "()Z"⟩ : MethodName)) (z := (⟨"com/example/whole_roster/wholeroster/model/Role", "mayChange", "()Z"⟩ : MethodName)) hown (mvT hZ (hw _ (List.mem_of_getElem? (i := 18) rfl))) (mvT hZ (hw _ (List.mem_of_getElem? (i := 19) rfl))) (notFace_of_selects (args := #[]) (mvT hZ (hw _ (List.mem_of_getElem? (i := 21) rfl)))) (mvT hZ (hw _ (List.mem_of_getElem? (i := 21) rfl))) (mvT hZ (hw _ (List.mem_of_getElem? (i := 20) rfl))) (by decide) (backOf (W := 0) (own_m3_TENANT_ADMIN l Z a0 hw [] w_TENANT_ADMIN h0 n0 Z0 F_ordinal_w_TENANT_ADMIN E_w_TENANT_ADMIN) hZ (hw _ (List.mem_of_getElem? (i := 22) rfl)) (hw _ (List.mem_of_getElem? (i := 2) rfl)) (by decide) (by decide)) q25a q25c (g := (mkF m 52 #[.val (.int p1), .val (.int ((p1 &&& (2147483647 : Int32)) % (3 : Int32))), .val (.ref w_TENANT_ADMIN), .val (.int (1 : Int32)), .val (.int (1 : Int32)), .unset] [(.ref w_TENANT_ADMIN)])) rfl (by rw [hml]; rfl) (Steps.refl _) (argsL := []) (rest := []) (lenOf own_pd1 rfl) rfl (by show 2 * 0 + _ ≤ _; exact Nat.le_of_eq rfl) (hb hby at_52) (fun _ _ => ⟨rfl, e15, (by decide : 0 + 0 ≤ _), (by decide : 0 + 0 ≤ _)⟩)
    dsimp only [Pt.U, Pt.locs, Pt.cells, Pt.slots] at X25 l25 y25 z25 st25 hQ25
    subst l25 y25 z25
    rw [show own_f3_TENANT_ADMIN = (1 : Int32) from rfl] at hQ25
    obtain ⟨rfl, N25q, e25⟩ := hQ25
    have N25 := Fr.app N15 N25q
    have k26 : own_To p.tables e below (s₁.setTop (entryFrame m #[(.int p1)] maxLocals)) T25 (mkF m 55 #[.val (.int p1), .val (.int ((p1 &&& (2147483647 : Int32)) % (3 : Int32))), .val (.ref w_TENANT_ADMIN), .val (.int (1 : Int32)), .val (.int (1 : Int32)), .unset] [(.int (1 : Int32))]) := fun t k => k24 t (st25.trans k)
    have k27 : own_To p.tables e below (s₁.setTop (entryFrame m #[(.int p1)] maxLocals)) T25 (mkF m 58 #[.val (.int p1), .val (.int ((p1 &&& (2147483647 : Int32)) % (3 : Int32))), .val (.ref w_TENANT_ADMIN), .val (.int (1 : Int32)), .val (.int (1 : Int32)), .unset] []) := fun t k => k26 t (XS.ifNo X25.here hx rfl (hb hby at_55) rfl ((if0 _ _).trans (feq (show ¬ ((1 : Int32) = (0 : Int32)) from (by decide))).1) k)
    have k28 : own_To p.tables e below (s₁.setTop (entryFrame m #[(.int p1)] maxLocals)) T25 (mkF m 59 #[.val (.int p1), .val (.int ((p1 &&& (2147483647 : Int32)) % (3 : Int32))), .val (.ref w_TENANT_ADMIN), .val (.int (1 : Int32)), .val (.int (1 : Int32)), .unset] [(.int (1 : Int32))]) := fun t k => k27 t (XS.iloadN X25.here hx rfl (hb hby at_58) rfl k)
    have k29 : own_To p.tables e below (s₁.setTop (entryFrame m #[(.int p1)] maxLocals)) T25 (mkF m 62 #[.val (.int p1), .val (.int ((p1 &&& (2147483647 : Int32)) % (3 : Int32))), .val (.ref w_TENANT_ADMIN), .val (.int (1 : Int32)), .val (.int (1 : Int32)), .unset] []) := fun t k => k28 t (XS.ifNo X25.here hx rfl (hb hby at_59) rfl ((if0 _ _).trans (feq (show ¬ ((1 : Int32) = (0 : Int32)) from (by decide))).1) k)
    have k30 : own_To p.tables e below (s₁.setTop (entryFrame m #[(.int p1)] maxLocals)) T25 (mkF m 63 #[.val (.int p1), .val (.int ((p1 &&& (2147483647 : Int32)) % (3 : Int32))), .val (.ref w_TENANT_ADMIN), .val (.int (1 : Int32)), .val (.int (1 : Int32)), .unset] [(.int (1 : Int32))]) := fun t k => k29 t (XS.iconst X25.here hx rfl (hb hby at_62) k)
    have k31 : own_To p.tables e below (s₁.setTop (entryFrame m #[(.int p1)] maxLocals)) T25 (mkF m 67 #[.val (.int p1), .val (.int ((p1 &&& (2147483647 : Int32)) % (3 : Int32))), .val (.ref w_TENANT_ADMIN), .val (.int (1 : Int32)), .val (.int (1 : Int32)), .unset] [(.int (1 : Int32))]) := fun t k => k30 t (XS.goto X25.here hx rfl (pc0 := 63) (pc' := 67) rfl (hb hby at_63) (by decide) (by decide) k)
    have k32 : own_To p.tables e below (s₁.setTop (entryFrame m #[(.int p1)] maxLocals)) T25 (mkF m 69 #[.val (.int p1), .val (.int ((p1 &&& (2147483647 : Int32)) % (3 : Int32))), .val (.ref w_TENANT_ADMIN), .val (.int (1 : Int32)), .val (.int (1 : Int32)), .val (.int (1 : Int32))] []) := fun t k => k31 t (XS.istore X25.here hx rfl (hb hby at_67) rfl (l' := #[.val (.int p1), .val (.int ((p1 &&& (2147483647 : Int32)) % (3 : Int32))), .val (.ref w_TENANT_ADMIN), .val (.int (1 : Int32)), .val (.int (1 : Int32)), .val (.int (1 : Int32))]) rfl k)
    have k33 : own_To p.tables e below (s₁.setTop (entryFrame m #[(.int p1)] maxLocals)) T25 (mkF m 70 #[.val (.int p1), .val (.int ((p1 &&& (2147483647 : Int32)) % (3 : Int32))), .val (.ref w_TENANT_ADMIN), .val (.int (1 : Int32)), .val (.int (1 : Int32)), .val (.int (1 : Int32))] [(.int (1 : Int32))]) := fun t k => k32 t (XS.iloadN X25.here hx rfl (hb hby at_69) rfl k)
    have k34 : own_To p.tables e below (s₁.setTop (entryFrame m #[(.int p1)] maxLocals)) T25 (mkF m 72 #[.val (.int p1), .val (.int ((p1 &&& (2147483647 : Int32)) % (3 : Int32))), .val (.ref w_TENANT_ADMIN), .val (.int (1 : Int32)), .val (.int (1 : Int32)), .val (.int (1 : Int32))] [(.int (1 : Int32)), (.int (1 : Int32))]) := fun t k => k33 t (XS.iload X25.here hx rfl (hb hby at_70) rfl k)
    have k35 : own_To p.tables e below (s₁.setTop (entryFrame m #[(.int p1)] maxLocals)) T25 (mkF m 75 #[.val (.int p1), .val (.int ((p1 &&& (2147483647 : Int32)) % (3 : Int32))), .val (.ref w_TENANT_ADMIN), .val (.int (1 : Int32)), .val (.int (1 : Int32)), .val (.int (1 : Int32))] []) := fun t k => k34 t (XS.icmpNo X25.here hx rfl (hb hby at_72) rfl (teq (show (1 : Int32) = (1 : Int32) from (by decide))).2 k)
    have k36 : own_To p.tables e below (s₁.setTop (entryFrame m #[(.int p1)] maxLocals)) T25 (mkF m 77 #[.val (.int p1), .val (.int ((p1 &&& (2147483647 : Int32)) % (3 : Int32))), .val (.ref w_TENANT_ADMIN), .val (.int (1 : Int32)), .val (.int (1 : Int32)), .val (.int (1 : Int32))] [(.int (1 : Int32))]) := fun t k => k35 t (XS.iload X25.here hx rfl (hb hby at_75) rfl k)
    have k37 : own_To p.tables e below (s₁.setTop (entryFrame m #[(.int p1)] maxLocals)) T25 (mkF m 80 #[.val (.int p1), .val (.int ((p1 &&& (2147483647 : Int32)) % (3 : Int32))), .val (.ref w_TENANT_ADMIN), .val (.int (1 : Int32)), .val (.int (1 : Int32)), .val (.int (1 : Int32))] []) := fun t k => k36 t (XS.ifNo X25.here hx rfl (hb hby at_77) rfl ((if0 _ _).trans (feq (show ¬ ((1 : Int32) = (0 : Int32)) from (by decide))).1) k)
    have k38 : own_To p.tables e below (s₁.setTop (entryFrame m #[(.int p1)] maxLocals)) T25 (mkF m 81 #[.val (.int p1), .val (.int ((p1 &&& (2147483647 : Int32)) % (3 : Int32))), .val (.ref w_TENANT_ADMIN), .val (.int (1 : Int32)), .val (.int (1 : Int32)), .val (.int (1 : Int32))] [(.int (1 : Int32))]) := fun t k => k37 t (XS.iconst X25.here hx rfl (hb hby at_80) k)
    have k39 : own_To p.tables e below (s₁.setTop (entryFrame m #[(.int p1)] maxLocals)) T25 (mkF m 85 #[.val (.int p1), .val (.int ((p1 &&& (2147483647 : Int32)) % (3 : Int32))), .val (.ref w_TENANT_ADMIN), .val (.int (1 : Int32)), .val (.int (1 : Int32)), .val (.int (1 : Int32))] [(.int (1 : Int32))]) := fun t k => k38 t (XS.goto X25.here hx rfl (pc0 := 81) (pc' := 85) rfl (hb hby at_81) (by decide) (by decide) k)
    obtain ⟨fs, hr, hrun, hended, hW, hsame⟩ := X25.leave (v := some (.int (1 : Int32))) (fun h => by rw [Bd.returns] at h; cases h)
    refine ⟨_, _, k39 _ ?_, hrun, hended, _, _, rfl, ?_, ⟨_, rfl⟩, hW, hsame.mono (by decide) (by decide)⟩
    · exact retN X25 hx (t := .boolean) Bd.returns (by simp) (hb hby at_85) hr
    · exact ⟨rfl, N25⟩
  · have k40 : own_To p.tables e below (s₁.setTop (entryFrame m #[(.int p1)] maxLocals)) s₁ (mkF m 18 #[.val (.int p1), .val (.int ((p1 &&& (2147483647 : Int32)) % (3 : Int32))), .unset, .unset, .unset, .unset] []) := fun t k => k7 t (XS.ifYes X0.here hx rfl (pc0 := 8) (pc' := 18) rfl (hb hby at_8) rfl ((if0 _ _).trans (feq (show ¬ (((p1 &&& (2147483647 : Int32)) % (3 : Int32)) = (0 : Int32)) from hc8)).2) (by decide) (by decide) k)
    have k41 : own_To p.tables e below (s₁.setTop (entryFrame m #[(.int p1)] maxLocals)) s₁ (mkF m 19 #[.val (.int p1), .val (.int ((p1 &&& (2147483647 : Int32)) % (3 : Int32))), .unset, .unset, .unset, .unset] [(.int ((p1 &&& (2147483647 : Int32)) % (3 : Int32)))]) := fun t k => k40 t (XS.iloadN X0.here hx rfl (hb hby at_18) rfl k)
    have k42 : own_To p.tables e below (s₁.setTop (entryFrame m #[(.int p1)] maxLocals)) s₁ (mkF m 20 #[.val (.int p1), .val (.int ((p1 &&& (2147483647 : Int32)) % (3 : Int32))), .unset, .unset, .unset, .unset] [(.int (1 : Int32)), (.int ((p1 &&& (2147483647 : Int32)) % (3 : Int32)))]) := fun t k => k41 t (XS.iconst X0.here hx rfl (hb hby at_19) k)
    by_cases hc43 : ((p1 &&& (2147483647 : Int32)) % (3 : Int32)) = (1 : Int32)
    · have k44 : own_To p.tables e below (s₁.setTop (entryFrame m #[(.int p1)] maxLocals)) s₁ (mkF m 23 #[.val (.int p1), .val (.int ((p1 &&& (2147483647 : Int32)) % (3 : Int32))), .unset, .unset, .unset, .unset] []) := fun t k => k42 t (XS.icmpNo X0.here hx rfl (hb hby at_20) rfl (teq (show ((p1 &&& (2147483647 : Int32)) % (3 : Int32)) = (1 : Int32) from hc43)).2 k)
      obtain ⟨T45, X45, e45, st45⟩ := getS2 X0 hx hZ hown (host := "") (Or.inl (hw _ (List.mem_of_getElem? (i := 25) rfl))) Via.refl e0 S_TENANT_VIEWER (g := (mkF m 23 #[.val (.int p1), .val (.int ((p1 &&& (2147483647 : Int32)) % (3 : Int32))), .unset, .unset, .unset, .unset] [])) rfl (hb hby at_23)
      have k46 : own_To p.tables e below (s₁.setTop (entryFrame m #[(.int p1)] maxLocals)) T45 (mkF m 26 #[.val (.int p1), .val (.int ((p1 &&& (2147483647 : Int32)) % (3 : Int32))), .unset, .unset, .unset, .unset] [(.ref w_TENANT_VIEWER)]) := fun t k => k44 t (st45 t k)
      have k47 : own_To p.tables e below (s₁.setTop (entryFrame m #[(.int p1)] maxLocals)) T45 (mkF m 27 #[.val (.int p1), .val (.int ((p1 &&& (2147483647 : Int32)) % (3 : Int32))), .val (.ref w_TENANT_VIEWER), .unset, .unset, .unset] []) := fun t k => k46 t (XS.astoreN X45.here hx rfl (hb hby at_26) rfl rfl (l' := #[.val (.int p1), .val (.int ((p1 &&& (2147483647 : Int32)) % (3 : Int32))), .val (.ref w_TENANT_VIEWER), .unset, .unset, .unset]) rfl k)
      have k48 : own_To p.tables e below (s₁.setTop (entryFrame m #[(.int p1)] maxLocals)) T45 (mkF m 34 #[.val (.int p1), .val (.int ((p1 &&& (2147483647 : Int32)) % (3 : Int32))), .val (.ref w_TENANT_VIEWER), .unset, .unset, .unset] []) := fun t k => k47 t (XS.goto X45.here hx rfl (pc0 := 27) (pc' := 34) rfl (hb hby at_27) (by decide) (by decide) k)
      have k49 : own_To p.tables e below (s₁.setTop (entryFrame m #[(.int p1)] maxLocals)) T45 (mkF m 35 #[.val (.int p1), .val (.int ((p1 &&& (2147483647 : Int32)) % (3 : Int32))), .val (.ref w_TENANT_VIEWER), .unset, .unset, .unset] [(.ref w_TENANT_VIEWER)]) := fun t k => k48 t (XS.aloadN X45.here hx rfl (hb hby at_34) rfl rfl k)
      obtain ⟨cq50, kq50, q50a, q50b, q50c⟩ := isOf hZ e45 E_w_TENANT_VIEWER
      obtain ⟨_, _, ⟨T50, L50, k50, n50⟩, -, X50, ⟨Lc50, hQ50, l50, y50, z50⟩, st50⟩ := X45.virtualBack hx (y := (⟨"com/example/whole_roster/wholeroster/model/Role", "reachesTenants", "()Z"⟩ : MethodName)) (z := (⟨"com/example/whole_roster/wholeroster/model/Role", "reachesTenants", "()Z"⟩ : MethodName)) hown (mvT hZ (hw _ (List.mem_of_getElem? (i := 4) rfl))) (mvT hZ (hw _ (List.mem_of_getElem? (i := 5) rfl))) (notFace_of_selects (args := #[]) (mvT hZ (hw _ (List.mem_of_getElem? (i := 7) rfl)))) (mvT hZ (hw _ (List.mem_of_getElem? (i := 7) rfl))) (mvT hZ (hw _ (List.mem_of_getElem? (i := 6) rfl))) (by decide) (backOf (W := 0) (own_m1_TENANT_VIEWER l Z a0 hw [] w_TENANT_VIEWER h0 n0 Z0 F_ordinal_w_TENANT_VIEWER E_w_TENANT_VIEWER) hZ (hw _ (List.mem_of_getElem? (i := 8) rfl)) (hw _ (List.mem_of_getElem? (i := 2) rfl)) (by decide) (by decide)) q50a q50c (g := (mkF m 35 #[.val (.int p1), .val (.int ((p1 &&& (2147483647 : Int32)) % (3 : Int32))), .val (.ref w_TENANT_VIEWER), .unset, .unset, .unset] [(.ref w_TENANT_VIEWER)])) rfl (by rw [hml]; rfl) (Steps.refl _) (argsL := []) (rest := []) (lenOf own_pd1 rfl) rfl (by show 2 * 0 + _ ≤ _; exact Nat.le_of_eq rfl) (hb hby at_35) (fun _ _ => ⟨rfl, e45, (by decide : 0 + 0 ≤ _), (by decide : 0 + 0 ≤ _)⟩)
      dsimp only [Pt.U, Pt.locs, Pt.cells, Pt.slots] at X50 l50 y50 z50 st50 hQ50
      subst l50 y50 z50
      rw [show own_f1_TENANT_VIEWER = (1 : Int32) from rfl] at hQ50
      obtain ⟨rfl, N50q, e50⟩ := hQ50
      have N50 := Fr.app N0 N50q
      have k51 : own_To p.tables e below (s₁.setTop (entryFrame m #[(.int p1)] maxLocals)) T50 (mkF m 38 #[.val (.int p1), .val (.int ((p1 &&& (2147483647 : Int32)) % (3 : Int32))), .val (.ref w_TENANT_VIEWER), .unset, .unset, .unset] [(.int (1 : Int32))]) := fun t k => k49 t (st50.trans k)
      have k52 : own_To p.tables e below (s₁.setTop (entryFrame m #[(.int p1)] maxLocals)) T50 (mkF m 39 #[.val (.int p1), .val (.int ((p1 &&& (2147483647 : Int32)) % (3 : Int32))), .val (.ref w_TENANT_VIEWER), .val (.int (1 : Int32)), .unset, .unset] []) := fun t k => k51 t (XS.istoreN X50.here hx rfl (hb hby at_38) rfl (l' := #[.val (.int p1), .val (.int ((p1 &&& (2147483647 : Int32)) % (3 : Int32))), .val (.ref w_TENANT_VIEWER), .val (.int (1 : Int32)), .unset, .unset]) rfl k)
      have k53 : own_To p.tables e below (s₁.setTop (entryFrame m #[(.int p1)] maxLocals)) T50 (mkF m 40 #[.val (.int p1), .val (.int ((p1 &&& (2147483647 : Int32)) % (3 : Int32))), .val (.ref w_TENANT_VIEWER), .val (.int (1 : Int32)), .unset, .unset] [(.int ((p1 &&& (2147483647 : Int32)) % (3 : Int32)))]) := fun t k => k52 t (XS.iloadN X50.here hx rfl (hb hby at_39) rfl k)
      have k54 : own_To p.tables e below (s₁.setTop (entryFrame m #[(.int p1)] maxLocals)) T50 (mkF m 41 #[.val (.int p1), .val (.int ((p1 &&& (2147483647 : Int32)) % (3 : Int32))), .val (.ref w_TENANT_VIEWER), .val (.int (1 : Int32)), .unset, .unset] [(.int (2 : Int32)), (.int ((p1 &&& (2147483647 : Int32)) % (3 : Int32)))]) := fun t k => k53 t (XS.iconst X50.here hx rfl (hb hby at_40) k)
      have k55 : own_To p.tables e below (s₁.setTop (entryFrame m #[(.int p1)] maxLocals)) T50 (mkF m 44 #[.val (.int p1), .val (.int ((p1 &&& (2147483647 : Int32)) % (3 : Int32))), .val (.ref w_TENANT_VIEWER), .val (.int (1 : Int32)), .unset, .unset] []) := fun t k => k54 t (XS.icmpNo X50.here hx rfl (hb hby at_41) rfl (feq (show ¬ (((p1 &&& (2147483647 : Int32)) % (3 : Int32)) = (2 : Int32)) from (by rw [hc43]; decide))).1 k)
      have k56 : own_To p.tables e below (s₁.setTop (entryFrame m #[(.int p1)] maxLocals)) T50 (mkF m 45 #[.val (.int p1), .val (.int ((p1 &&& (2147483647 : Int32)) % (3 : Int32))), .val (.ref w_TENANT_VIEWER), .val (.int (1 : Int32)), .unset, .unset] [(.int (1 : Int32))]) := fun t k => k55 t (XS.iconst X50.here hx rfl (hb hby at_44) k)
      have k57 : own_To p.tables e below (s₁.setTop (entryFrame m #[(.int p1)] maxLocals)) T50 (mkF m 49 #[.val (.int p1), .val (.int ((p1 &&& (2147483647 : Int32)) % (3 : Int32))), .val (.ref w_TENANT_VIEWER), .val (.int (1 : Int32)), .unset, .unset] [(.int (1 : Int32))]) := fun t k => k56 t (XS.goto X50.here hx rfl (pc0 := 45) (pc' := 49) rfl (hb hby at_45) (by decide) (by decide) k)
      have k58 : own_To p.tables e below (s₁.setTop (entryFrame m #[(.int p1)] maxLocals)) T50 (mkF m 51 #[.val (.int p1), .val (.int ((p1 &&& (2147483647 : Int32)) % (3 : Int32))), .val (.ref w_TENANT_VIEWER), .val (.int (1 : Int32)), .val (.int (1 : Int32)), .unset] []) := fun t k => k57 t (XS.istore X50.here hx rfl (hb hby at_49) rfl (l' := #[.val (.int p1), .val (.int ((p1 &&& (2147483647 : Int32)) % (3 : Int32))), .val (.ref w_TENANT_VIEWER), .val (.int (1 : Int32)), .val (.int (1 : Int32)), .unset]) rfl k)
      have k59 : own_To p.tables e below (s₁.setTop (entryFrame m #[(.int p1)] maxLocals)) T50 (mkF m 52 #[.val (.int p1), .val (.int ((p1 &&& (2147483647 : Int32)) % (3 : Int32))), .val (.ref w_TENANT_VIEWER), .val (.int (1 : Int32)), .val (.int (1 : Int32)), .unset] [(.ref w_TENANT_VIEWER)]) := fun t k => k58 t (XS.aloadN X50.here hx rfl (hb hby at_51) rfl rfl k)
      obtain ⟨cq60, kq60, q60a, q60b, q60c⟩ := isOf hZ e50 E_w_TENANT_VIEWER
      obtain ⟨_, _, ⟨T60, L60, k60, n60⟩, -, X60, ⟨Lc60, hQ60, l60, y60, z60⟩, st60⟩ := X50.virtualBack hx (y := (⟨"com/example/whole_roster/wholeroster/model/Role", "mayChange", "()Z"⟩ : MethodName)) (z := (⟨"com/example/whole_roster/wholeroster/model/Role", "mayChange", "()Z"⟩ : MethodName)) hown (mvT hZ (hw _ (List.mem_of_getElem? (i := 18) rfl))) (mvT hZ (hw _ (List.mem_of_getElem? (i := 19) rfl))) (notFace_of_selects (args := #[]) (mvT hZ (hw _ (List.mem_of_getElem? (i := 21) rfl)))) (mvT hZ (hw _ (List.mem_of_getElem? (i := 21) rfl))) (mvT hZ (hw _ (List.mem_of_getElem? (i := 20) rfl))) (by decide) (backOf (W := 0) (own_m3_TENANT_VIEWER l Z a0 hw [] w_TENANT_VIEWER h0 n0 Z0 F_ordinal_w_TENANT_VIEWER E_w_TENANT_VIEWER) hZ (hw _ (List.mem_of_getElem? (i := 22) rfl)) (hw _ (List.mem_of_getElem? (i := 2) rfl)) (by decide) (by decide)) q60a q60c (g := (mkF m 52 #[.val (.int p1), .val (.int ((p1 &&& (2147483647 : Int32)) % (3 : Int32))), .val (.ref w_TENANT_VIEWER), .val (.int (1 : Int32)), .val (.int (1 : Int32)), .unset] [(.ref w_TENANT_VIEWER)])) rfl (by rw [hml]; rfl) (Steps.refl _) (argsL := []) (rest := []) (lenOf own_pd1 rfl) rfl (by show 2 * 0 + _ ≤ _; exact Nat.le_of_eq rfl) (hb hby at_52) (fun _ _ => ⟨rfl, e50, (by decide : 0 + 0 ≤ _), (by decide : 0 + 0 ≤ _)⟩)
      dsimp only [Pt.U, Pt.locs, Pt.cells, Pt.slots] at X60 l60 y60 z60 st60 hQ60
      subst l60 y60 z60
      rw [show own_f3_TENANT_VIEWER = (0 : Int32) from rfl] at hQ60
      obtain ⟨rfl, N60q, e60⟩ := hQ60
      have N60 := Fr.app N50 N60q
      have k61 : own_To p.tables e below (s₁.setTop (entryFrame m #[(.int p1)] maxLocals)) T60 (mkF m 55 #[.val (.int p1), .val (.int ((p1 &&& (2147483647 : Int32)) % (3 : Int32))), .val (.ref w_TENANT_VIEWER), .val (.int (1 : Int32)), .val (.int (1 : Int32)), .unset] [(.int (0 : Int32))]) := fun t k => k59 t (st60.trans k)
      have k62 : own_To p.tables e below (s₁.setTop (entryFrame m #[(.int p1)] maxLocals)) T60 (mkF m 62 #[.val (.int p1), .val (.int ((p1 &&& (2147483647 : Int32)) % (3 : Int32))), .val (.ref w_TENANT_VIEWER), .val (.int (1 : Int32)), .val (.int (1 : Int32)), .unset] []) := fun t k => k61 t (XS.ifYes X60.here hx rfl (pc0 := 55) (pc' := 62) rfl (hb hby at_55) rfl ((if0 _ _).trans (teq (show (0 : Int32) = (0 : Int32) from (by decide))).1) (by decide) (by decide) k)
      have k63 : own_To p.tables e below (s₁.setTop (entryFrame m #[(.int p1)] maxLocals)) T60 (mkF m 63 #[.val (.int p1), .val (.int ((p1 &&& (2147483647 : Int32)) % (3 : Int32))), .val (.ref w_TENANT_VIEWER), .val (.int (1 : Int32)), .val (.int (1 : Int32)), .unset] [(.int (1 : Int32))]) := fun t k => k62 t (XS.iconst X60.here hx rfl (hb hby at_62) k)
      have k64 : own_To p.tables e below (s₁.setTop (entryFrame m #[(.int p1)] maxLocals)) T60 (mkF m 67 #[.val (.int p1), .val (.int ((p1 &&& (2147483647 : Int32)) % (3 : Int32))), .val (.ref w_TENANT_VIEWER), .val (.int (1 : Int32)), .val (.int (1 : Int32)), .unset] [(.int (1 : Int32))]) := fun t k => k63 t (XS.goto X60.here hx rfl (pc0 := 63) (pc' := 67) rfl (hb hby at_63) (by decide) (by decide) k)
      have k65 : own_To p.tables e below (s₁.setTop (entryFrame m #[(.int p1)] maxLocals)) T60 (mkF m 69 #[.val (.int p1), .val (.int ((p1 &&& (2147483647 : Int32)) % (3 : Int32))), .val (.ref w_TENANT_VIEWER), .val (.int (1 : Int32)), .val (.int (1 : Int32)), .val (.int (1 : Int32))] []) := fun t k => k64 t (XS.istore X60.here hx rfl (hb hby at_67) rfl (l' := #[.val (.int p1), .val (.int ((p1 &&& (2147483647 : Int32)) % (3 : Int32))), .val (.ref w_TENANT_VIEWER), .val (.int (1 : Int32)), .val (.int (1 : Int32)), .val (.int (1 : Int32))]) rfl k)
      have k66 : own_To p.tables e below (s₁.setTop (entryFrame m #[(.int p1)] maxLocals)) T60 (mkF m 70 #[.val (.int p1), .val (.int ((p1 &&& (2147483647 : Int32)) % (3 : Int32))), .val (.ref w_TENANT_VIEWER), .val (.int (1 : Int32)), .val (.int (1 : Int32)), .val (.int (1 : Int32))] [(.int (1 : Int32))]) := fun t k => k65 t (XS.iloadN X60.here hx rfl (hb hby at_69) rfl k)
      have k67 : own_To p.tables e below (s₁.setTop (entryFrame m #[(.int p1)] maxLocals)) T60 (mkF m 72 #[.val (.int p1), .val (.int ((p1 &&& (2147483647 : Int32)) % (3 : Int32))), .val (.ref w_TENANT_VIEWER), .val (.int (1 : Int32)), .val (.int (1 : Int32)), .val (.int (1 : Int32))] [(.int (1 : Int32)), (.int (1 : Int32))]) := fun t k => k66 t (XS.iload X60.here hx rfl (hb hby at_70) rfl k)
      have k68 : own_To p.tables e below (s₁.setTop (entryFrame m #[(.int p1)] maxLocals)) T60 (mkF m 75 #[.val (.int p1), .val (.int ((p1 &&& (2147483647 : Int32)) % (3 : Int32))), .val (.ref w_TENANT_VIEWER), .val (.int (1 : Int32)), .val (.int (1 : Int32)), .val (.int (1 : Int32))] []) := fun t k => k67 t (XS.icmpNo X60.here hx rfl (hb hby at_72) rfl (teq (show (1 : Int32) = (1 : Int32) from (by decide))).2 k)
      have k69 : own_To p.tables e below (s₁.setTop (entryFrame m #[(.int p1)] maxLocals)) T60 (mkF m 77 #[.val (.int p1), .val (.int ((p1 &&& (2147483647 : Int32)) % (3 : Int32))), .val (.ref w_TENANT_VIEWER), .val (.int (1 : Int32)), .val (.int (1 : Int32)), .val (.int (1 : Int32))] [(.int (1 : Int32))]) := fun t k => k68 t (XS.iload X60.here hx rfl (hb hby at_75) rfl k)
      have k70 : own_To p.tables e below (s₁.setTop (entryFrame m #[(.int p1)] maxLocals)) T60 (mkF m 80 #[.val (.int p1), .val (.int ((p1 &&& (2147483647 : Int32)) % (3 : Int32))), .val (.ref w_TENANT_VIEWER), .val (.int (1 : Int32)), .val (.int (1 : Int32)), .val (.int (1 : Int32))] []) := fun t k => k69 t (XS.ifNo X60.here hx rfl (hb hby at_77) rfl ((if0 _ _).trans (feq (show ¬ ((1 : Int32) = (0 : Int32)) from (by decide))).1) k)
      have k71 : own_To p.tables e below (s₁.setTop (entryFrame m #[(.int p1)] maxLocals)) T60 (mkF m 81 #[.val (.int p1), .val (.int ((p1 &&& (2147483647 : Int32)) % (3 : Int32))), .val (.ref w_TENANT_VIEWER), .val (.int (1 : Int32)), .val (.int (1 : Int32)), .val (.int (1 : Int32))] [(.int (1 : Int32))]) := fun t k => k70 t (XS.iconst X60.here hx rfl (hb hby at_80) k)
      have k72 : own_To p.tables e below (s₁.setTop (entryFrame m #[(.int p1)] maxLocals)) T60 (mkF m 85 #[.val (.int p1), .val (.int ((p1 &&& (2147483647 : Int32)) % (3 : Int32))), .val (.ref w_TENANT_VIEWER), .val (.int (1 : Int32)), .val (.int (1 : Int32)), .val (.int (1 : Int32))] [(.int (1 : Int32))]) := fun t k => k71 t (XS.goto X60.here hx rfl (pc0 := 81) (pc' := 85) rfl (hb hby at_81) (by decide) (by decide) k)
      obtain ⟨fs, hr, hrun, hended, hW, hsame⟩ := X60.leave (v := some (.int (1 : Int32))) (fun h => by rw [Bd.returns] at h; cases h)
      refine ⟨_, _, k72 _ ?_, hrun, hended, _, _, rfl, ?_, ⟨_, rfl⟩, hW, hsame.mono (by decide) (by decide)⟩
      · exact retN X60 hx (t := .boolean) Bd.returns (by simp) (hb hby at_85) hr
      · exact ⟨rfl, N60⟩
    · have k73 : own_To p.tables e below (s₁.setTop (entryFrame m #[(.int p1)] maxLocals)) s₁ (mkF m 30 #[.val (.int p1), .val (.int ((p1 &&& (2147483647 : Int32)) % (3 : Int32))), .unset, .unset, .unset, .unset] []) := fun t k => k42 t (XS.icmpYes X0.here hx rfl (pc0 := 20) (pc' := 30) rfl (hb hby at_20) rfl (feq (show ¬ (((p1 &&& (2147483647 : Int32)) % (3 : Int32)) = (1 : Int32)) from hc43)).2 (by decide) (by decide) k)
      obtain ⟨T74, X74, e74, st74⟩ := getS2 X0 hx hZ hown (host := "") (Or.inl (hw _ (List.mem_of_getElem? (i := 23) rfl))) Via.refl e0 S_TOKEN_INTROSPECTOR (g := (mkF m 30 #[.val (.int p1), .val (.int ((p1 &&& (2147483647 : Int32)) % (3 : Int32))), .unset, .unset, .unset, .unset] [])) rfl (hb hby at_30)
      have k75 : own_To p.tables e below (s₁.setTop (entryFrame m #[(.int p1)] maxLocals)) T74 (mkF m 33 #[.val (.int p1), .val (.int ((p1 &&& (2147483647 : Int32)) % (3 : Int32))), .unset, .unset, .unset, .unset] [(.ref w_TOKEN_INTROSPECTOR)]) := fun t k => k73 t (st74 t k)
      have k76 : own_To p.tables e below (s₁.setTop (entryFrame m #[(.int p1)] maxLocals)) T74 (mkF m 34 #[.val (.int p1), .val (.int ((p1 &&& (2147483647 : Int32)) % (3 : Int32))), .val (.ref w_TOKEN_INTROSPECTOR), .unset, .unset, .unset] []) := fun t k => k75 t (XS.astoreN X74.here hx rfl (hb hby at_33) rfl rfl (l' := #[.val (.int p1), .val (.int ((p1 &&& (2147483647 : Int32)) % (3 : Int32))), .val (.ref w_TOKEN_INTROSPECTOR), .unset, .unset, .unset]) rfl k)
      have k77 : own_To p.tables e below (s₁.setTop (entryFrame m #[(.int p1)] maxLocals)) T74 (mkF m 35 #[.val (.int p1), .val (.int ((p1 &&& (2147483647 : Int32)) % (3 : Int32))), .val (.ref w_TOKEN_INTROSPECTOR), .unset, .unset, .unset] [(.ref w_TOKEN_INTROSPECTOR)]) := fun t k => k76 t (XS.aloadN X74.here hx rfl (hb hby at_34) rfl rfl k)
      obtain ⟨cq78, kq78, q78a, q78b, q78c⟩ := isOf hZ e74 E_w_TOKEN_INTROSPECTOR
      obtain ⟨_, _, ⟨T78, L78, k78, n78⟩, -, X78, ⟨Lc78, hQ78, l78, y78, z78⟩, st78⟩ := X74.virtualBack hx (y := (⟨"com/example/whole_roster/wholeroster/model/Role", "reachesTenants", "()Z"⟩ : MethodName)) (z := (⟨"com/example/whole_roster/wholeroster/model/Role", "reachesTenants", "()Z"⟩ : MethodName)) hown (mvT hZ (hw _ (List.mem_of_getElem? (i := 4) rfl))) (mvT hZ (hw _ (List.mem_of_getElem? (i := 5) rfl))) (notFace_of_selects (args := #[]) (mvT hZ (hw _ (List.mem_of_getElem? (i := 7) rfl)))) (mvT hZ (hw _ (List.mem_of_getElem? (i := 7) rfl))) (mvT hZ (hw _ (List.mem_of_getElem? (i := 6) rfl))) (by decide) (backOf (W := 0) (own_m1_TOKEN_INTROSPECTOR l Z a0 hw [] w_TOKEN_INTROSPECTOR h0 n0 Z0 F_ordinal_w_TOKEN_INTROSPECTOR E_w_TOKEN_INTROSPECTOR) hZ (hw _ (List.mem_of_getElem? (i := 8) rfl)) (hw _ (List.mem_of_getElem? (i := 2) rfl)) (by decide) (by decide)) q78a q78c (g := (mkF m 35 #[.val (.int p1), .val (.int ((p1 &&& (2147483647 : Int32)) % (3 : Int32))), .val (.ref w_TOKEN_INTROSPECTOR), .unset, .unset, .unset] [(.ref w_TOKEN_INTROSPECTOR)])) rfl (by rw [hml]; rfl) (Steps.refl _) (argsL := []) (rest := []) (lenOf own_pd1 rfl) rfl (by show 2 * 0 + _ ≤ _; exact Nat.le_of_eq rfl) (hb hby at_35) (fun _ _ => ⟨rfl, e74, (by decide : 0 + 0 ≤ _), (by decide : 0 + 0 ≤ _)⟩)
      dsimp only [Pt.U, Pt.locs, Pt.cells, Pt.slots] at X78 l78 y78 z78 st78 hQ78
      subst l78 y78 z78
      rw [show own_f1_TOKEN_INTROSPECTOR = (0 : Int32) from rfl] at hQ78
      obtain ⟨rfl, N78q, e78⟩ := hQ78
      have N78 := Fr.app N0 N78q
      have k79 : own_To p.tables e below (s₁.setTop (entryFrame m #[(.int p1)] maxLocals)) T78 (mkF m 38 #[.val (.int p1), .val (.int ((p1 &&& (2147483647 : Int32)) % (3 : Int32))), .val (.ref w_TOKEN_INTROSPECTOR), .unset, .unset, .unset] [(.int (0 : Int32))]) := fun t k => k77 t (st78.trans k)
      have k80 : own_To p.tables e below (s₁.setTop (entryFrame m #[(.int p1)] maxLocals)) T78 (mkF m 39 #[.val (.int p1), .val (.int ((p1 &&& (2147483647 : Int32)) % (3 : Int32))), .val (.ref w_TOKEN_INTROSPECTOR), .val (.int (0 : Int32)), .unset, .unset] []) := fun t k => k79 t (XS.istoreN X78.here hx rfl (hb hby at_38) rfl (l' := #[.val (.int p1), .val (.int ((p1 &&& (2147483647 : Int32)) % (3 : Int32))), .val (.ref w_TOKEN_INTROSPECTOR), .val (.int (0 : Int32)), .unset, .unset]) rfl k)
      have k81 : own_To p.tables e below (s₁.setTop (entryFrame m #[(.int p1)] maxLocals)) T78 (mkF m 40 #[.val (.int p1), .val (.int ((p1 &&& (2147483647 : Int32)) % (3 : Int32))), .val (.ref w_TOKEN_INTROSPECTOR), .val (.int (0 : Int32)), .unset, .unset] [(.int ((p1 &&& (2147483647 : Int32)) % (3 : Int32)))]) := fun t k => k80 t (XS.iloadN X78.here hx rfl (hb hby at_39) rfl k)
      have k82 : own_To p.tables e below (s₁.setTop (entryFrame m #[(.int p1)] maxLocals)) T78 (mkF m 41 #[.val (.int p1), .val (.int ((p1 &&& (2147483647 : Int32)) % (3 : Int32))), .val (.ref w_TOKEN_INTROSPECTOR), .val (.int (0 : Int32)), .unset, .unset] [(.int (2 : Int32)), (.int ((p1 &&& (2147483647 : Int32)) % (3 : Int32)))]) := fun t k => k81 t (XS.iconst X78.here hx rfl (hb hby at_40) k)
      have k83 : own_To p.tables e below (s₁.setTop (entryFrame m #[(.int p1)] maxLocals)) T78 (mkF m 48 #[.val (.int p1), .val (.int ((p1 &&& (2147483647 : Int32)) % (3 : Int32))), .val (.ref w_TOKEN_INTROSPECTOR), .val (.int (0 : Int32)), .unset, .unset] []) := fun t k => k82 t (XS.icmpYes X78.here hx rfl (pc0 := 41) (pc' := 48) rfl (hb hby at_41) rfl (teq (show ((p1 &&& (2147483647 : Int32)) % (3 : Int32)) = (2 : Int32) from (own_rem3 p1 hc8 hc43))).1 (by decide) (by decide) k)
      have k84 : own_To p.tables e below (s₁.setTop (entryFrame m #[(.int p1)] maxLocals)) T78 (mkF m 49 #[.val (.int p1), .val (.int ((p1 &&& (2147483647 : Int32)) % (3 : Int32))), .val (.ref w_TOKEN_INTROSPECTOR), .val (.int (0 : Int32)), .unset, .unset] [(.int (0 : Int32))]) := fun t k => k83 t (XS.iconst X78.here hx rfl (hb hby at_48) k)
      have k85 : own_To p.tables e below (s₁.setTop (entryFrame m #[(.int p1)] maxLocals)) T78 (mkF m 51 #[.val (.int p1), .val (.int ((p1 &&& (2147483647 : Int32)) % (3 : Int32))), .val (.ref w_TOKEN_INTROSPECTOR), .val (.int (0 : Int32)), .val (.int (0 : Int32)), .unset] []) := fun t k => k84 t (XS.istore X78.here hx rfl (hb hby at_49) rfl (l' := #[.val (.int p1), .val (.int ((p1 &&& (2147483647 : Int32)) % (3 : Int32))), .val (.ref w_TOKEN_INTROSPECTOR), .val (.int (0 : Int32)), .val (.int (0 : Int32)), .unset]) rfl k)
      have k86 : own_To p.tables e below (s₁.setTop (entryFrame m #[(.int p1)] maxLocals)) T78 (mkF m 52 #[.val (.int p1), .val (.int ((p1 &&& (2147483647 : Int32)) % (3 : Int32))), .val (.ref w_TOKEN_INTROSPECTOR), .val (.int (0 : Int32)), .val (.int (0 : Int32)), .unset] [(.ref w_TOKEN_INTROSPECTOR)]) := fun t k => k85 t (XS.aloadN X78.here hx rfl (hb hby at_51) rfl rfl k)
      obtain ⟨cq87, kq87, q87a, q87b, q87c⟩ := isOf hZ e78 E_w_TOKEN_INTROSPECTOR
      obtain ⟨_, _, ⟨T87, L87, k87, n87⟩, -, X87, ⟨Lc87, hQ87, l87, y87, z87⟩, st87⟩ := X78.virtualBack hx (y := (⟨"com/example/whole_roster/wholeroster/model/Role", "mayChange", "()Z"⟩ : MethodName)) (z := (⟨"com/example/whole_roster/wholeroster/model/Role", "mayChange", "()Z"⟩ : MethodName)) hown (mvT hZ (hw _ (List.mem_of_getElem? (i := 18) rfl))) (mvT hZ (hw _ (List.mem_of_getElem? (i := 19) rfl))) (notFace_of_selects (args := #[]) (mvT hZ (hw _ (List.mem_of_getElem? (i := 21) rfl)))) (mvT hZ (hw _ (List.mem_of_getElem? (i := 21) rfl))) (mvT hZ (hw _ (List.mem_of_getElem? (i := 20) rfl))) (by decide) (backOf (W := 0) (own_m3_TOKEN_INTROSPECTOR l Z a0 hw [] w_TOKEN_INTROSPECTOR h0 n0 Z0 F_ordinal_w_TOKEN_INTROSPECTOR E_w_TOKEN_INTROSPECTOR) hZ (hw _ (List.mem_of_getElem? (i := 22) rfl)) (hw _ (List.mem_of_getElem? (i := 2) rfl)) (by decide) (by decide)) q87a q87c (g := (mkF m 52 #[.val (.int p1), .val (.int ((p1 &&& (2147483647 : Int32)) % (3 : Int32))), .val (.ref w_TOKEN_INTROSPECTOR), .val (.int (0 : Int32)), .val (.int (0 : Int32)), .unset] [(.ref w_TOKEN_INTROSPECTOR)])) rfl (by rw [hml]; rfl) (Steps.refl _) (argsL := []) (rest := []) (lenOf own_pd1 rfl) rfl (by show 2 * 0 + _ ≤ _; exact Nat.le_of_eq rfl) (hb hby at_52) (fun _ _ => ⟨rfl, e78, (by decide : 0 + 0 ≤ _), (by decide : 0 + 0 ≤ _)⟩)
      dsimp only [Pt.U, Pt.locs, Pt.cells, Pt.slots] at X87 l87 y87 z87 st87 hQ87
      subst l87 y87 z87
      rw [show own_f3_TOKEN_INTROSPECTOR = (0 : Int32) from rfl] at hQ87
      obtain ⟨rfl, N87q, e87⟩ := hQ87
      have N87 := Fr.app N78 N87q
      have k88 : own_To p.tables e below (s₁.setTop (entryFrame m #[(.int p1)] maxLocals)) T87 (mkF m 55 #[.val (.int p1), .val (.int ((p1 &&& (2147483647 : Int32)) % (3 : Int32))), .val (.ref w_TOKEN_INTROSPECTOR), .val (.int (0 : Int32)), .val (.int (0 : Int32)), .unset] [(.int (0 : Int32))]) := fun t k => k86 t (st87.trans k)
      have k89 : own_To p.tables e below (s₁.setTop (entryFrame m #[(.int p1)] maxLocals)) T87 (mkF m 62 #[.val (.int p1), .val (.int ((p1 &&& (2147483647 : Int32)) % (3 : Int32))), .val (.ref w_TOKEN_INTROSPECTOR), .val (.int (0 : Int32)), .val (.int (0 : Int32)), .unset] []) := fun t k => k88 t (XS.ifYes X87.here hx rfl (pc0 := 55) (pc' := 62) rfl (hb hby at_55) rfl ((if0 _ _).trans (teq (show (0 : Int32) = (0 : Int32) from (by decide))).1) (by decide) (by decide) k)
      have k90 : own_To p.tables e below (s₁.setTop (entryFrame m #[(.int p1)] maxLocals)) T87 (mkF m 63 #[.val (.int p1), .val (.int ((p1 &&& (2147483647 : Int32)) % (3 : Int32))), .val (.ref w_TOKEN_INTROSPECTOR), .val (.int (0 : Int32)), .val (.int (0 : Int32)), .unset] [(.int (1 : Int32))]) := fun t k => k89 t (XS.iconst X87.here hx rfl (hb hby at_62) k)
      have k91 : own_To p.tables e below (s₁.setTop (entryFrame m #[(.int p1)] maxLocals)) T87 (mkF m 67 #[.val (.int p1), .val (.int ((p1 &&& (2147483647 : Int32)) % (3 : Int32))), .val (.ref w_TOKEN_INTROSPECTOR), .val (.int (0 : Int32)), .val (.int (0 : Int32)), .unset] [(.int (1 : Int32))]) := fun t k => k90 t (XS.goto X87.here hx rfl (pc0 := 63) (pc' := 67) rfl (hb hby at_63) (by decide) (by decide) k)
      have k92 : own_To p.tables e below (s₁.setTop (entryFrame m #[(.int p1)] maxLocals)) T87 (mkF m 69 #[.val (.int p1), .val (.int ((p1 &&& (2147483647 : Int32)) % (3 : Int32))), .val (.ref w_TOKEN_INTROSPECTOR), .val (.int (0 : Int32)), .val (.int (0 : Int32)), .val (.int (1 : Int32))] []) := fun t k => k91 t (XS.istore X87.here hx rfl (hb hby at_67) rfl (l' := #[.val (.int p1), .val (.int ((p1 &&& (2147483647 : Int32)) % (3 : Int32))), .val (.ref w_TOKEN_INTROSPECTOR), .val (.int (0 : Int32)), .val (.int (0 : Int32)), .val (.int (1 : Int32))]) rfl k)
      have k93 : own_To p.tables e below (s₁.setTop (entryFrame m #[(.int p1)] maxLocals)) T87 (mkF m 70 #[.val (.int p1), .val (.int ((p1 &&& (2147483647 : Int32)) % (3 : Int32))), .val (.ref w_TOKEN_INTROSPECTOR), .val (.int (0 : Int32)), .val (.int (0 : Int32)), .val (.int (1 : Int32))] [(.int (0 : Int32))]) := fun t k => k92 t (XS.iloadN X87.here hx rfl (hb hby at_69) rfl k)
      have k94 : own_To p.tables e below (s₁.setTop (entryFrame m #[(.int p1)] maxLocals)) T87 (mkF m 72 #[.val (.int p1), .val (.int ((p1 &&& (2147483647 : Int32)) % (3 : Int32))), .val (.ref w_TOKEN_INTROSPECTOR), .val (.int (0 : Int32)), .val (.int (0 : Int32)), .val (.int (1 : Int32))] [(.int (0 : Int32)), (.int (0 : Int32))]) := fun t k => k93 t (XS.iload X87.here hx rfl (hb hby at_70) rfl k)
      have k95 : own_To p.tables e below (s₁.setTop (entryFrame m #[(.int p1)] maxLocals)) T87 (mkF m 75 #[.val (.int p1), .val (.int ((p1 &&& (2147483647 : Int32)) % (3 : Int32))), .val (.ref w_TOKEN_INTROSPECTOR), .val (.int (0 : Int32)), .val (.int (0 : Int32)), .val (.int (1 : Int32))] []) := fun t k => k94 t (XS.icmpNo X87.here hx rfl (hb hby at_72) rfl (teq (show (0 : Int32) = (0 : Int32) from (by decide))).2 k)
      have k96 : own_To p.tables e below (s₁.setTop (entryFrame m #[(.int p1)] maxLocals)) T87 (mkF m 77 #[.val (.int p1), .val (.int ((p1 &&& (2147483647 : Int32)) % (3 : Int32))), .val (.ref w_TOKEN_INTROSPECTOR), .val (.int (0 : Int32)), .val (.int (0 : Int32)), .val (.int (1 : Int32))] [(.int (1 : Int32))]) := fun t k => k95 t (XS.iload X87.here hx rfl (hb hby at_75) rfl k)
      have k97 : own_To p.tables e below (s₁.setTop (entryFrame m #[(.int p1)] maxLocals)) T87 (mkF m 80 #[.val (.int p1), .val (.int ((p1 &&& (2147483647 : Int32)) % (3 : Int32))), .val (.ref w_TOKEN_INTROSPECTOR), .val (.int (0 : Int32)), .val (.int (0 : Int32)), .val (.int (1 : Int32))] []) := fun t k => k96 t (XS.ifNo X87.here hx rfl (hb hby at_77) rfl ((if0 _ _).trans (feq (show ¬ ((1 : Int32) = (0 : Int32)) from (by decide))).1) k)
      have k98 : own_To p.tables e below (s₁.setTop (entryFrame m #[(.int p1)] maxLocals)) T87 (mkF m 81 #[.val (.int p1), .val (.int ((p1 &&& (2147483647 : Int32)) % (3 : Int32))), .val (.ref w_TOKEN_INTROSPECTOR), .val (.int (0 : Int32)), .val (.int (0 : Int32)), .val (.int (1 : Int32))] [(.int (1 : Int32))]) := fun t k => k97 t (XS.iconst X87.here hx rfl (hb hby at_80) k)
      have k99 : own_To p.tables e below (s₁.setTop (entryFrame m #[(.int p1)] maxLocals)) T87 (mkF m 85 #[.val (.int p1), .val (.int ((p1 &&& (2147483647 : Int32)) % (3 : Int32))), .val (.ref w_TOKEN_INTROSPECTOR), .val (.int (0 : Int32)), .val (.int (0 : Int32)), .val (.int (1 : Int32))] [(.int (1 : Int32))]) := fun t k => k98 t (XS.goto X87.here hx rfl (pc0 := 81) (pc' := 85) rfl (hb hby at_81) (by decide) (by decide) k)
      obtain ⟨fs, hr, hrun, hended, hW, hsame⟩ := X87.leave (v := some (.int (1 : Int32))) (fun h => by rw [Bd.returns] at h; cases h)
      refine ⟨_, _, k99 _ ?_, hrun, hended, _, _, rfl, ?_, ⟨_, rfl⟩, hW, hsame.mono (by decide) (by decide)⟩
      · exact retN X87 hx (t := .boolean) Bd.returns (by simp) (hb hby at_85) hr
      · exact ⟨rfl, N87⟩
set_option maxRecDepth 65536 in
set_option maxHeartbeats 40000000 in
theorem comes_1 {Post : Tables → Env → Array Value → State → Outcome → State → Prop} (hpost : ∀ tb e args s v u, (limb_1_1.after args s (.returned v) u = true ∧ limb_1_2.after args s (.returned v) u = true ∧ True) → FrameEnd s (.returned v) u (Jvm.fieldLocs frame_1_writes args s ++ Jvm.arrayLocs frame_1_arrays args s ++ Jvm.staticLocs frame_1_statics s) 0 0 → Post tb e args s (.returned v) u) :
    ArmFor flags0 classFile x code maxLocals ret World_1 tables_1 room_1 Calls_1 rest_1 Pre_1 Post := by
  intro l hfl _ _ p e ha hc hk s m args below hf hA hF happ hP
  obtain ⟨hcalls, hrest, hpre⟩ := hP
  obtain ⟨-, -, -, hnamed, -, -, -, hat⟩ := (Spec.applies_iff hf).mp happ
  obtain ⟨hg, hn⟩ := and_e (Cond.before_iff.mp (show (Jvm.Cond.and given_1 narrow_1).before args s = true from hpre))
  obtain ⟨hg1, hg2⟩ := and_e hg
  obtain ⟨w0, rfl⟩ : ∃ w0 : Value, args = #[w0] := by
    have hs : args.size = 1 := by simpa [Cond.value, given_1] using hg1
    obtain ⟨L⟩ := args
    match L, hs with
    | [w0], _ => exact ⟨w0, rfl⟩
  have hw := fun d (hd : d ∈ tables_1) => atoms_spec (ws := Jvm.Cond.code x code maxLocals ret :: tables_1) hat d (List.mem_cons_of_mem _ hd)
  have hfit : Fit s := fun {y c} hc i hi => by
    obtain ⟨ha, rfl⟩ := Array.getElem?_eq_some_iff.mp hc
    have q := List.all_eq_true.mp ((Array.all_eq_true_iff_forall_mem.mp hF) _ (Array.getElem_mem ha)) i (List.mem_range.mpr hi)
    simpa [Array.getElem?_eq_getElem hi] using q
  obtain ⟨i0, ei0⟩ := is_v hg2
  obtain rfl : w0 = (.int i0) := Option.some.inj ei0
  obtain ⟨hn1, hn2⟩ := and_e hn
  obtain ⟨hn3, hn4⟩ := and_e hn2
  obtain ⟨hn5, hn6⟩ := and_e hn4
  obtain ⟨hn7, hn8⟩ := and_e hn6
  obtain ⟨hn9, hn10⟩ := and_e hn8
  obtain ⟨x_TENANT_ADMIN, ev_TENANT_ADMIN⟩ := exa_v hn1
  have E_TENANT_ADMIN := Exa.start ev_TENANT_ADMIN hn1
  have S_TENANT_ADMIN := Sta.start ev_TENANT_ADMIN (Or.inr ⟨(hw _ (List.mem_of_getElem? (i := 2) rfl)), (hw _ (List.mem_of_getElem? (i := 3) rfl))⟩)
  obtain ⟨x_TOKEN_INTROSPECTOR, ev_TOKEN_INTROSPECTOR⟩ := exa_v hn5
  have E_TOKEN_INTROSPECTOR := Exa.start ev_TOKEN_INTROSPECTOR hn5
  have S_TOKEN_INTROSPECTOR := Sta.start ev_TOKEN_INTROSPECTOR (Or.inr ⟨(hw _ (List.mem_of_getElem? (i := 2) rfl)), (hw _ (List.mem_of_getElem? (i := 24) rfl))⟩)
  obtain ⟨x_TENANT_VIEWER, ev_TENANT_VIEWER⟩ := exa_v hn9
  have E_TENANT_VIEWER := Exa.start ev_TENANT_VIEWER hn9
  have S_TENANT_VIEWER := Sta.start ev_TENANT_VIEWER (Or.inr ⟨(hw _ (List.mem_of_getElem? (i := 2) rfl)), (hw _ (List.mem_of_getElem? (i := 26) rfl))⟩)
  have F_TENANT_ADMIN := own_fldint ev_TENANT_ADMIN hn3
  have F_TOKEN_INTROSPECTOR := own_fldint ev_TOKEN_INTROSPECTOR hn7
  have F_TENANT_VIEWER := own_fldint ev_TENANT_VIEWER hn10
  obtain ⟨n, o, h1, h2, h3, _, L, rfl, ⟨rfl, N⟩, hq⟩ := own_m0 l s _ hw tables_1 i0 x_TENANT_ADMIN x_TENANT_VIEWER x_TOKEN_INTROSPECTOR s.heap s.heap.size (Nat.le_refl _) S_TENANT_ADMIN F_TENANT_ADMIN E_TENANT_ADMIN S_TENANT_VIEWER F_TENANT_VIEWER E_TENANT_VIEWER S_TOKEN_INTROSPECTOR F_TOKEN_INTROSPECTOR E_TOKEN_INTROSPECTOR (Fld.ne F_TENANT_ADMIN F_TENANT_VIEWER (fun q => absurd (Value.int.inj q) (by decide))) (Fld.ne F_TENANT_ADMIN F_TOKEN_INTROSPECTOR (fun q => absurd (Value.int.inj q) (by decide))) (Fld.ne F_TENANT_VIEWER F_TOKEN_INTROSPECTOR (fun q => absurd (Value.int.inj q) (by decide))) p e ha hc hk s m _ below hf ((Spec.applies_iff_loose hf).mp happ).1 ⟨rfl, State.Warmed39.refl s, rfl⟩ trivial
  refine ⟨n, _, h1, h2, h3, hpost _ _ _ _ _ _ ⟨Cond.after_iff.mpr rfl, Cond.after_iff.mpr (eq_i res_at (Term.int_eval (1)) rfl), trivial⟩ ⟨hq.1, hq.2.1, (hq.2.2.sift fun y hy => Or.inr (N y hy)).mono (by decide) (by decide)⟩⟩
theorem main_1_1 : Claimed_1_1 := comes_1 fun _ _ _ _ _ _ h hF => ⟨h.1, hF⟩
theorem main_1_2 : Claimed_1_2 := comes_1 fun _ _ _ _ _ _ h hF => ⟨h.2.1, hF⟩
end Jvm.Pilot.@@N@@
namespace Jvm.Pilot.@@N@@
open Jvm Jvm.ClassFile Sem Op Lib Jvm.Free Jvm.Stand Jvm.Pilot.@@N@@.Jvm.D
/-! MADE BY PROGRAM (witnessworld.py) out of the Statement's table words and the real class files: 13 classes; the members and pool entries that the words name. The judged class is class 1, her method 1. -/
namespace start1
open Jvm.ClassFile
def u (s : String) : CpInfo := .utf8 (stringToUtf16 s)
/-- a pool by its gaps: so many unusable entries, then the entry; so many at the end -/
def gap : Nat → List CpInfo → List CpInfo
  | 0, r => r
  | n + 1, r => .unusable :: gap n r
def poolList (es : List (Nat × CpInfo)) (last : Nat) : List CpInfo := es.foldr (fun e r => gap e.1 (e.2 :: r)) (gap last [])
def pool (es : List (Nat × CpInfo)) (last : Nat) : Array CpInfo := ⟨poolList es last⟩
def fileOf (pool : Array CpInfo) (this : Nat) (attrs : Array Attribute := #[]) (ms : Array MethodInfo := #[]) (fl : Nat := 33) (sup : Nat := 0) (ifs : Array Nat := #[]) (fds : Array FieldInfo := #[]) : ClassFile where
  minorVersion := 0
  majorVersion := 65
  constantPool := pool
  accessFlags := fl
  thisClass := this
  superClass := sup
  interfaces := ifs
  fields := fds
  methods := ms
  attributes := attrs
def plain (name : String) (sup : Option ClassId) : Class where
  name := name
  kind := .ordinary
  loader := none
  accessFlags := 33
  super := sup
  interfaces := #[]
  cf := none
  fields := #[]
  methods := #[]
  instanceTypes := #[]
  staticTypes := #[]
  resolved := #[]
  callSites := []
  init := .initialized
  statics := none
  mirror := none

def pool0 : Array CpInfo := pool [(5, u "<init>"), (0, u "()V"), (1, .class_ 10), (1, u "java/lang/Object")] 113

def k0m0 : Method := { name := "<init>", desc := "()V", sig := { parameters := [], returnType := none }, accessFlags := 1, code := none }
/-- java/lang/Object -/
def k0 : Class := { plain "java/lang/Object" none with
  accessFlags := 33
  interfaces := #[]
  cf := some (fileOf pool0 8 #[] #[{ accessFlags := 1, nameIndex := 5, descriptorIndex := 6, attributes := #[] }] 33 0 #[] #[])
  fields := #[]
  methods := #[k0m0]
  instanceTypes := #[]
  staticTypes := #[]
  resolved := Array.replicate 124 none
  statics := none }

def pool1 : Array CpInfo := pool [(2, .class_ 4), (1, u "java/lang/Object"), (0, u "<init>"), (0, u "()V"), (0, .integer 2147483647), (0, .fieldref 9 10), (0, .class_ 11), (0, .nameAndType 12 13), (0, u "com/example/whole_roster/wholeroster/model/Role"), (0, u "TENANT_ADMIN"), (0, u "Lcom/example/whole_roster/wholeroster/model/Role;"), (0, .fieldref 9 15), (0, .nameAndType 16 13), (0, u "TENANT_VIEWER"), (0, .fieldref 9 18), (0, .nameAndType 19 13), (0, u "TOKEN_INTROSPECTOR"), (0, .methodref 9 21), (0, .nameAndType 22 23), (0, u "reachesTenants"), (0, u "()Z"), (0, .methodref 9 25), (0, .nameAndType 26 23), (0, u "mayChange"), (0, .class_ 28), (0, u "com/example/whole_roster/wholeroster/model/RoleReachesTenantsPinLaw"), (2, u "law"), (0, u "(I)Z")] 3

def k1m0 : Method := { name := "<init>", desc := "()V", sig := { parameters := [], returnType := none }, accessFlags := 1, code := none }
def k1c1 : Code := { maxStack := 2, maxLocals := 6, code := code, exceptionTable := #[], attributes := #[] }
def k1m1 : Method := { name := "law", desc := "(I)Z", sig := { parameters := [.int], returnType := some .boolean }, accessFlags := 9, code := some k1c1 }
/-- com/example/whole_roster/wholeroster/model/RoleReachesTenantsPinLaw -/
def k1 : Class := { plain "com/example/whole_roster/wholeroster/model/RoleReachesTenantsPinLaw" (some 0) with
  accessFlags := 49
  interfaces := #[]
  cf := some (fileOf pool1 27 #[] #[{ accessFlags := 1, nameIndex := 5, descriptorIndex := 6, attributes := #[] }, { accessFlags := 9, nameIndex := 31, descriptorIndex := 32, attributes := #[] }] 49 2 #[] #[])
  fields := #[]
  methods := #[k1m0, k1m1]
  instanceTypes := #[]
  staticTypes := #[]
  resolved := Array.replicate 36 none
  statics := none }

def pool2 : Array CpInfo := pool [(1, .class_ 2), (0, u "java/lang/constant/Constable"), (0, .class_ 4), (0, u "java/lang/Object")] 6

/-- java/lang/constant/Constable -/
def k2 : Class := { plain "java/lang/constant/Constable" (some 0) with
  accessFlags := 1537
  interfaces := #[]
  cf := some (fileOf pool2 1 #[] #[] 1537 3 #[] #[])
  fields := #[]
  methods := #[]
  instanceTypes := #[]
  staticTypes := #[]
  resolved := Array.replicate 11 none
  statics := none }

def pool3 : Array CpInfo := pool [(1, .class_ 2), (0, u "java/lang/Comparable"), (0, .class_ 4), (0, u "java/lang/Object")] 7

/-- java/lang/Comparable -/
def k3 : Class := { plain "java/lang/Comparable" (some 0) with
  accessFlags := 1537
  interfaces := #[]
  cf := some (fileOf pool3 1 #[] #[] 1537 3 #[] #[])
  fields := #[]
  methods := #[]
  instanceTypes := #[]
  staticTypes := #[]
  resolved := Array.replicate 12 none
  statics := none }

def pool4 : Array CpInfo := pool [(1, .class_ 2), (0, u "java/io/Serializable"), (0, .class_ 4), (0, u "java/lang/Object")] 2

/-- java/io/Serializable -/
def k4 : Class := { plain "java/io/Serializable" (some 0) with
  accessFlags := 1537
  interfaces := #[]
  cf := some (fileOf pool4 1 #[] #[] 1537 3 #[] #[])
  fields := #[]
  methods := #[]
  instanceTypes := #[]
  staticTypes := #[]
  resolved := Array.replicate 7 none
  statics := none }

def pool5 : Array CpInfo := pool [(2, .class_ 4), (1, u "java/lang/Enum"), (0, u "name"), (0, u "Ljava/lang/String;"), (0, .fieldref 2 8), (0, .nameAndType 9 10), (0, u "ordinal"), (0, u "I"), (1, .class_ 14), (1, u "java/lang/Object"), (4, u "hash"), (86, .class_ 108), (1, u "java/lang/Enum$EnumDesc"), (2, .class_ 112), (0, u "java/lang/constant/Constable"), (0, .class_ 114), (0, u "java/lang/Comparable"), (0, .class_ 116), (0, u "java/io/Serializable"), (9, u "()I")] 77

def k5c0 : Code := { maxStack := 1, maxLocals := 1, code := jdk_37_method_2_code, exceptionTable := #[], attributes := #[] }
def k5m0 : Method := { name := "ordinal", desc := "()I", sig := { parameters := [], returnType := some .int }, accessFlags := 17, code := some k5c0 }
/-- java/lang/Enum -/
def k5 : Class := { plain "java/lang/Enum" (some 0) with
  accessFlags := 1057
  interfaces := #[2, 3, 4]
  cf := some (fileOf pool5 2 #[.nestMembers #[106]] #[{ accessFlags := 17, nameIndex := 9, descriptorIndex := 126, attributes := #[] }] 1057 12 #[111, 113, 115] #[{ accessFlags := 18, nameIndex := 5, descriptorIndex := 6, attributes := #[] }, { accessFlags := 18, nameIndex := 9, descriptorIndex := 10, attributes := #[] }, { accessFlags := 2, nameIndex := 19, descriptorIndex := 10, attributes := #[] }])
  fields := #[{ name := "name", type := (.object "java/lang/String"), accessFlags := 18, slot := 0, constantValue := 0 }, { name := "ordinal", type := .int, accessFlags := 18, slot := 1, constantValue := 0 }, { name := "hash", type := .int, accessFlags := 2, slot := 2, constantValue := 0 }]
  methods := #[k5m0]
  instanceTypes := #[(.object "java/lang/String"), .int, .int]
  staticTypes := #[]
  resolved := Array.replicate 204 none
  statics := none }

def pool6 : Array CpInfo := pool [(2, .class_ 4), (1, u "com/example/whole_roster/wholeroster/model/WireNamed"), (42, .class_ 48), (0, u "java/lang/Object")] 24

/-- com/example/whole_roster/wholeroster/model/WireNamed -/
def k6 : Class := { plain "com/example/whole_roster/wholeroster/model/WireNamed" (some 0) with
  accessFlags := 1537
  interfaces := #[]
  cf := some (fileOf pool6 2 #[] #[] 1537 47 #[] #[])
  fields := #[]
  methods := #[]
  instanceTypes := #[]
  staticTypes := #[]
  resolved := Array.replicate 73 none
  statics := none }

def pool7 : Array CpInfo := pool [(1, .class_ 2), (0, u "com/example/whole_roster/wholeroster/model/Role"), (2, u "TENANT_ADMIN"), (0, u "Lcom/example/whole_roster/wholeroster/model/Role;"), (2, u "TENANT_VIEWER"), (2, u "TOKEN_INTROSPECTOR"), (2, u "$VALUES"), (0, u "[Lcom/example/whole_roster/wholeroster/model/Role;"), (6, .class_ 25), (1, u "java/lang/Enum"), (6, .methodref 1 33), (0, .nameAndType 34 35), (0, u "ordinal"), (0, u "()I"), (13, .class_ 50), (0, u "com/example/whole_roster/wholeroster/model/WireNamed"), (7, u "reachesTenants"), (0, u "()Z"), (1, u "mayChange")] 4

def k7c0 : Code := { maxStack := 4, maxLocals := 1, code := prog_15_method_4_code, exceptionTable := #[], attributes := #[] }
def k7m0 : Method := { name := "reachesTenants", desc := "()Z", sig := { parameters := [], returnType := some .boolean }, accessFlags := 1, code := some k7c0 }
def k7c1 : Code := { maxStack := 4, maxLocals := 1, code := prog_15_method_5_code, exceptionTable := #[], attributes := #[] }
def k7m1 : Method := { name := "mayChange", desc := "()Z", sig := { parameters := [], returnType := some .boolean }, accessFlags := 1, code := some k7c1 }
/-- com/example/whole_roster/wholeroster/model/Role -/
def k7 : Class := { plain "com/example/whole_roster/wholeroster/model/Role" (some 5) with
  accessFlags := 16433
  interfaces := #[6]
  cf := some (fileOf pool7 1 #[] #[{ accessFlags := 1, nameIndex := 58, descriptorIndex := 59, attributes := #[] }, { accessFlags := 1, nameIndex := 61, descriptorIndex := 59, attributes := #[] }] 16433 23 #[49] #[{ accessFlags := 16409, nameIndex := 5, descriptorIndex := 6, attributes := #[] }, { accessFlags := 16409, nameIndex := 9, descriptorIndex := 6, attributes := #[] }, { accessFlags := 16409, nameIndex := 12, descriptorIndex := 6, attributes := #[] }, { accessFlags := 4122, nameIndex := 15, descriptorIndex := 16, attributes := #[] }])
  fields := #[{ name := "TENANT_ADMIN", type := (.object "com/example/whole_roster/wholeroster/model/Role"), accessFlags := 16409, slot := 0, constantValue := 0 }, { name := "TENANT_VIEWER", type := (.object "com/example/whole_roster/wholeroster/model/Role"), accessFlags := 16409, slot := 1, constantValue := 0 }, { name := "TOKEN_INTROSPECTOR", type := (.object "com/example/whole_roster/wholeroster/model/Role"), accessFlags := 16409, slot := 2, constantValue := 0 }, { name := "$VALUES", type := (.array (.object "com/example/whole_roster/wholeroster/model/Role")), accessFlags := 4122, slot := 3, constantValue := 0 }]
  methods := #[k7m0, k7m1]
  instanceTypes := #[(.object "java/lang/String"), .int, .int]
  staticTypes := #[(.object "com/example/whole_roster/wholeroster/model/Role"), (.object "com/example/whole_roster/wholeroster/model/Role"), (.object "com/example/whole_roster/wholeroster/model/Role"), (.array (.object "com/example/whole_roster/wholeroster/model/Role"))]
  resolved := Array.replicate 66 none
  statics := some 0 }

def pool8 : Array CpInfo := pool [(1, u "java/lang/Cloneable"), (0, .class_ 1), (0, u "java/lang/Object"), (0, .class_ 3)] 3

/-- java/lang/Cloneable -/
def k8 : Class := { plain "java/lang/Cloneable" (some 0) with
  accessFlags := 1537
  interfaces := #[]
  cf := some (fileOf pool8 2 #[] #[] 1537 4 #[] #[])
  fields := #[]
  methods := #[]
  instanceTypes := #[]
  staticTypes := #[]
  resolved := Array.replicate 8 none
  statics := none }

/-- the primitive byte -/
def k9 : Class := { plain "byte" none with kind := .primitive 'B', accessFlags := 0x411 }
/-- [B -/
def k10 : Class := { plain "[B" (some 0) with kind := .array 9 .byte, interfaces := #[8, 4], accessFlags := 1041 }

/-- the primitive int -/
def k11 : Class := { plain "int" none with kind := .primitive 'I', accessFlags := 0x411 }
/-- [I -/
def k12 : Class := { plain "[I" (some 0) with kind := .array 11 .int, interfaces := #[8, 4], accessFlags := 1041 }

def heap : Heap := #[{ cls := 7, slots := #[.ref 1, .ref 3, .ref 2, .null], vm := .statics 7 },
  { cls := 7, slots := #[.null, .int 0, .int 0], vm := .none },
  { cls := 7, slots := #[.null, .int 2, .int 0], vm := .none },
  { cls := 7, slots := #[.null, .int 1, .int 0], vm := .none }]
def classes : Array Class := #[k0, k1, k2, k3, k4, k5, k6, k7, k8, k9, k10, k11, k12]
def interned : List (Array UInt16 × Addr) := []
def slotsUsed : Nat := 13
def theMethod : MethodId := ⟨1, 1⟩
def args0 : Array Value := #[.int 5]
def aboutOver (below : List Frame) : State where
  vm := { classes := classes, interned := interned.toArray }
  heap := heap
  slotsUsed := slotsUsed
  threads := #[{ frames := .invoking theMethod args0 :: below }]
def below0 : List Frame := [.native { method := ⟨0, 0⟩, args := #[] }]
def about1 : State := aboutOver below0
def p0 : Program := .bare "" "" ""
def e0 : Env := launch0.env 0 0 0
theorem w_frames : about1.frames = Frame.invoking theMethod args0 :: below0 := rfl
set_option maxRecDepth 65536 in
theorem w_args : argsFit about1.vm theMethod args0 = true := by decide +kernel
set_option maxRecDepth 65536 in
theorem w_heap : heapFits about1 = true := by decide +kernel
set_option maxRecDepth 65536 in
theorem w_runnable : about1.curStatus? = some .runnable := by decide +kernel
set_option maxRecDepth 65536 in
theorem w_alone : about1.alone = true := by decide +kernel
set_option maxRecDepth 65536 in
theorem w_named : about1.methodNamed? x = some theMethod := by decide +kernel
set_option maxRecDepth 65536 in
theorem w_hears : about1.hears theMethod below0 = true := by decide +kernel
set_option maxRecDepth 65536 in
theorem w_ripe : about1.ripe theMethod args0 below0 = true := by decide +kernel
theorem w_running : about1.status = .running := rfl
set_option maxRecDepth 65536 in
theorem w_room : about1.hasRoom e0.platform room_1 = true :=
  launch0.hasRoom_least _ room_1 (by decide +kernel) (by decide +kernel) (by decide +kernel) (by decide +kernel) (by decide +kernel) (by decide +kernel)
theorem allAtoms_all (ts : List Jvm.Cond) (a : Array Jvm.Value) (st : Jvm.State) : (allAtoms ts).before a st = ts.all (fun c => c.before a st) := by
  induction ts with
  | nil => rfl
  | cons c t ih =>
    show (Jvm.Cond.and c (allAtoms t)).before a st = _
    rw [Jvm.Cond.before_and, ih, List.all_cons]
def words1 : List Jvm.Cond := Jvm.Cond.code x code maxLocals ret :: tables_1
/-- a 'code' word, met by the world's own term for the bytes: nothing is compared byte by byte -/
theorem code_word {y : MethodName} {bytes : ByteArray} {mx : Nat} {rt : Option FieldType} {a : Array Value} {s : State} {m : MethodId} {meth : Method} {c : Code} (h1 : s.methodNamed? y = some m) (h2 : s.vm.method? m = some meth) (h3 : meth.code = some c) (h4 : c.code = bytes)
    (h5 : (c.maxLocals == mx && c.exceptionTable.isEmpty && decide (c.maxStack ≤ mostOperands) && decide (meth.sig.returnType = rt) && !meth.locks && decide (parseMethodDescriptor y.desc = some meth.sig)) = true) : (Jvm.Cond.code y bytes mx rt).before a s = true := by
  simp only [Bool.and_eq_true, beq_iff_eq, Bool.not_eq_true', decide_eq_true_eq] at h5
  obtain ⟨⟨⟨⟨⟨g1, g2⟩, g3⟩, g4⟩, g5⟩, g6⟩ := h5
  simp [Cond.before, Cond.holds, Cond.value, h1, h2, h3, h4, g1, g2, g3, g4, g5, g6]
def isCode : Jvm.Cond → Bool
  | .code _ _ _ _ => true
  | _ => false
theorem all_split {L : List Jvm.Cond} {P : Jvm.Cond → Bool} (h1 : L.all (fun c => isCode c || P c) = true) (h2 : ∀ c ∈ L.filter isCode, P c = true) : L.all P = true := by
  refine List.all_eq_true.mpr fun c hc => ?_
  have h := List.all_eq_true.mp h1 c hc
  rcases Bool.eq_false_or_eq_true (isCode c) with hi | hi
  · exact h2 c (List.mem_filter.mpr ⟨hc, hi⟩)
  · simpa [hi] using h
set_option maxRecDepth 65536 in
theorem w_c0 : (Jvm.Cond.code x code maxLocals ret).before args0 about1 = true := code_word (m := ⟨1, 1⟩) (meth := k1m1) (c := k1c1) (by decide +kernel) rfl rfl rfl (by decide +kernel)
set_option maxRecDepth 65536 in
theorem w_c1 : (Jvm.Cond.code ({ cls := "com/example/whole_roster/wholeroster/model/Role", name := "reachesTenants", desc := "()Z" } : Jvm.MethodName) prog_15_method_4_code (1 : Nat) (Option.some Jvm.ClassFile.FieldType.boolean)).before args0 about1 = true := code_word (m := ⟨7, 0⟩) (meth := k7m0) (c := k7c0) (by decide +kernel) rfl rfl rfl (by decide +kernel)
set_option maxRecDepth 65536 in
theorem w_c2 : (Jvm.Cond.code ({ cls := "java/lang/Enum", name := "ordinal", desc := "()I" } : Jvm.MethodName) jdk_37_method_2_code (1 : Nat) (Option.some Jvm.ClassFile.FieldType.int)).before args0 about1 = true := code_word (m := ⟨5, 0⟩) (meth := k5m0) (c := k5c0) (by decide +kernel) rfl rfl rfl (by decide +kernel)
set_option maxRecDepth 65536 in
theorem w_c3 : (Jvm.Cond.code ({ cls := "com/example/whole_roster/wholeroster/model/Role", name := "mayChange", desc := "()Z" } : Jvm.MethodName) prog_15_method_5_code (1 : Nat) (Option.some Jvm.ClassFile.FieldType.boolean)).before args0 about1 = true := code_word (m := ⟨7, 1⟩) (meth := k7m1) (c := k7c1) (by decide +kernel) rfl rfl rfl (by decide +kernel)
def codes1 : List Jvm.Cond := [Jvm.Cond.code x code maxLocals ret, Jvm.Cond.code ({ cls := "com/example/whole_roster/wholeroster/model/Role", name := "reachesTenants", desc := "()Z" } : Jvm.MethodName) prog_15_method_4_code (1 : Nat) (Option.some Jvm.ClassFile.FieldType.boolean), Jvm.Cond.code ({ cls := "java/lang/Enum", name := "ordinal", desc := "()I" } : Jvm.MethodName) jdk_37_method_2_code (1 : Nat) (Option.some Jvm.ClassFile.FieldType.int), Jvm.Cond.code ({ cls := "com/example/whole_roster/wholeroster/model/Role", name := "mayChange", desc := "()Z" } : Jvm.MethodName) prog_15_method_5_code (1 : Nat) (Option.some Jvm.ClassFile.FieldType.boolean)]
set_option maxRecDepth 65536 in
theorem codes_eq : words1.filter isCode = codes1 := rfl
theorem w_codes : ∀ c ∈ words1.filter isCode, c.before args0 about1 = true := by
  rw [codes_eq]
  intro c hc
  simp only [codes1, List.mem_cons, List.not_mem_nil, or_false] at hc
  rcases hc with rfl | rfl | rfl | rfl
  · exact w_c0
  · exact w_c1
  · exact w_c2
  · exact w_c3
set_option maxRecDepth 65536 in
theorem w_t1 : (words1.take 24).all (fun c => isCode c || c.before args0 about1) = true := by decide +kernel
set_option maxRecDepth 65536 in
theorem w_t2 : (words1.drop 24).all (fun c => isCode c || c.before args0 about1) = true := by decide +kernel
theorem w_tables : (allAtoms (Jvm.Cond.code x code maxLocals ret :: tables_1)).before args0 about1 = true := by
  rw [allAtoms_all]
  show words1.all (fun c => c.before args0 about1) = true
  refine all_split ?_ w_codes
  rw [← List.take_append_drop 24 words1, List.all_append, w_t1, w_t2]
  rfl
set_option maxRecDepth 65536 in
theorem w_case : (Jvm.Cond.and given_1 narrow_1).before args0 about1 = true := by decide +kernel
theorem w_applies : (headSpec (Jvm.Cond.code x code maxLocals ret :: tables_1) room_1).applies x e0.platform about1 = true :=
  (Spec.applies_iff w_frames).mpr ⟨w_running, w_runnable, w_alone, w_named, w_hears, w_ripe, w_room, w_tables⟩
theorem atStart : AtStart classFile x code maxLocals ret World_1 tables_1 room_1 Calls_1 rest_1 Pre_1 launch0 p0 e0 about1 theMethod args0 below0 :=
  ⟨lists_1, trivial, launch0.admits_env _ _ _, launch0.least_env, fairChoices_fair.cas, fairChoices_fair.clock, w_frames, w_args, w_heap, w_applies, trivial, trivial, w_case⟩
end start1
theorem witness_1 : WitnessClaimed_1 := ⟨start1.p0, start1.e0, start1.about1, start1.theMethod, start1.args0, start1.below0, start1.atStart⟩
end Jvm.Pilot.@@N@@
