import JvmDerived
import JvmDerived.Pilot.@@N@@Statement
import JvmDerived.Pilot.@@N@@Code
set_option linter.unusedVariables false
set_option linter.unusedSimpArgs false
namespace Jvm.RoadKit
open Sem ClassFile Op Lib Jvm.Stand Jvm.Free Jvm.LawKit
section New
variable {p : Program} {l : Launch} {e : Env} {R : Room} {s : State} {m : MethodId} {args : Array Value} {below : List Frame} {meth : Method} {c : Code} {T : State} {locs : List Loc} {cells slots : Nat}
theorem retI (X : Stand p l e R s m args below meth c T locs cells slots) (hx : p.tables.exec = Jvm.exec) {pc : Nat} {Ls : Array Slot} {z : Int32} {rest : List Value} (hret : meth.sig.returnType = some .int) (hd : decode c.code pc = .ok (.ireturn, 1)) {fs : List Frame}
    (hl : ∀ (f : JFrame) (acts : List Action), f.method = m → f.locked = none → f.entered = [] → (doReturn e (T.setTop f) acts (some (.int z))).1 = T.setFrames fs) : Steps p.tables e below (T.setTop (mkF m pc Ls (.int z :: rest))) (T.setFrames fs) := by
  have hm' : T.vm.method? m = some meth := X.method'
  have hn : narrow .int (.int z) = .int z := rfl
  show Steps p.tables e below (T.setTop { method := m, pc := pc, locals := Ls, stack := _ :: rest, locked := none }) _
  jvm_step X.here [X.here.top, hx, hd, hm', hret, hn]
  first | (intro acts; rw [hl _ acts rfl rfl rfl]) | rw [hl _ _ rfl rfl rfl]
  exact Steps.refl _
end New
end Jvm.RoadKit
namespace Jvm.Pilot.@@N@@
open Jvm Jvm.ClassFile Sem Op Lib Jvm.Free Jvm.Stand Jvm.LawKit Jvm.RoadKit Bundle Jvm.Pilot.@@N@@.Jvm.D
/-- the run comes from A to the state U with the frame g on top -/
def own_To (tb : Tables) (e : Env) (below : List Frame) (A U : State) (g : JFrame) : Prop := ∀ t, Steps tb e below (U.setTop g) t → Steps tb e below A t
/-- what a body that writes nothing leaves -/
def own_Q (r : Option Value) (h0 : Heap) (n0 : Nat) (v : Option Value) (h : Heap) (L : List Loc) : Prop := v = r ∧ Fr n0 L ∧ h = h0
theorem own_fldint {args : Array Value} {Z : State} {t : Term} {x : Addr} {C n d : String} {k : Int32} (ht : t.eval args Z none [] Z = some (.ref x)) (h : (Jvm.Cond.eq (.field t C n d) (.int k)).value args Z none Z [] = some true) : Fld Z Z.heap x C n d (.int k) := by
  apply Fld.start
  obtain ⟨u, v, h1, h2, k1, -⟩ := cmp_v (Or.inl h)
  have e2 : v = .int k := (Option.some.inj (h2.symm.trans (Term.int_eval k)))
  subst e2
  cases u with
  | int z => rw [← fld_at ht, h1]; have := gotT (Cond.eq_ints h1 h2) h; rw [this]
  | long z => obtain ⟨_, q⟩ := k1; cases q
  | float z => obtain ⟨_, q⟩ := k1; cases q
  | double z => obtain ⟨_, q⟩ := k1; cases q
  | ref z => exact absurd k1.2 (by simp [Value.isRef])
  | null => exact absurd k1.2 (by simp [Value.isRef])
  | retAddr z => exact absurd k1.2 (by simp [Value.isRef])
theorem own_d3_0 : decode prog_329_method_1_code 0 = .ok (.aload_n 0, 1) := by decide +kernel
theorem own_d3_1 : decode prog_329_method_1_code 1 = .ok (.invokespecial 1, 3) := by decide +kernel
theorem own_d3_4 : decode prog_329_method_1_code 4 = .ok (.return_, 1) := by decide +kernel
theorem own_ef3 (m : MethodId) (x0 : Addr) : entryFrame m #[(.ref x0)] 1 = mkF m 0 #[.val (.ref x0)] [] := by first | (simp [entryFrame, mkF, argsToLocals, Value.category]; done) | rfl
theorem own_pn3 : plainName "com/example/witness/witness/value/Value" = true := by first | (simp [plainName, overriddenIn]; done) | decide +kernel
set_option maxRecDepth 65536 in
set_option maxHeartbeats 40000000 in
theorem own_m3 (l : Launch) (Z : State) (a0 : Array Value) (hw : ∀ d ∈ tables_1, d.before a0 Z = true) (ws : List Jvm.Cond) (a1 : Addr) (h0 : Heap) (n0 : Nat) (Z0 : n0 ≤ h0.size) :
    MetFree l (⟨"com/example/witness/witness/value/Value", "<init>", "()V"⟩ : MethodName) (head1 (Jvm.Cond.code (⟨"com/example/witness/witness/value/Value", "<init>", "()V"⟩ : MethodName) prog_329_method_1_code 1 none :: ws) ({ frames := 1, cells := 0, slots := 0, locals := 12 } : Room)) (fun a U => a = #[(.ref a1)] ∧ Z.Warmed39 U.vm ∧ U.heap = h0) (fun _ _ _ _ _ => True) (fun _ U o U' => ∃ v L, o = .returned v ∧ own_Q none h0 n0 v U'.heap L ∧ FrameEnd U o U' L ({ frames := 1, cells := 0, slots := 0, locals := 12 } : Room).cells ({ frames := 1, cells := 0, slots := 0, locals := 12 } : Room).slots) := by
  refine MetFree.of_bodySF (plainFor_of_name own_pn3) hisR ?_
  intro p e s m args below meth c s₁ Bd hml0 hP hK
  obtain ⟨rfl, hZ, hh⟩ := hP
  have hx := Bd.exec
  have hby := Bd.bytes
  have hml : c.maxLocals = 1 := hml0
  have hown : s.vm.findClass "com/example/witness/witness/value/Value" = some m.cls := findClass_of_methodNamed Bd.named
  have hnm := (name_of_methodNamed Bd.named Bd.method).1
  have X0 : Stand p l e ({ frames := 1, cells := 0, slots := 0, locals := 12 } : Room) s m #[(.ref a1)] below meth c s₁ [] 0 0 := Stand.of_body Bd
  have e0 : s₁.heap = h0 := by rw [← hh, Bd.state]; rfl
  have N0 := Fr.nil n0
  have k0 : own_To p.tables e below (s₁.setTop (entryFrame m #[(.ref a1)] 1)) s₁ (mkF m 0 #[.val (.ref a1)] []) := fun t k => castTop (own_ef3 m a1) k
  have k1 : own_To p.tables e below (s₁.setTop (entryFrame m #[(.ref a1)] 1)) s₁ (mkF m 1 #[.val (.ref a1)] [(.ref a1)]) := fun t k => k0 t (XS.aloadN X0.here hx rfl (hb hby own_d3_0) rfl rfl k)
  obtain ⟨T2, X2, e2, st2⟩ := initO X0 hx hZ hown (hw _ (List.mem_of_getElem? (i := 16) rfl)) (hw _ (List.mem_of_getElem? (i := 17) rfl)) (hw _ (List.mem_of_getElem? (i := 18) rfl)) e0 (g := (mkF m 1 #[.val (.ref a1)] [(.ref a1)])) rfl (by rw [hml]; rfl) rfl (hb hby own_d3_1) (by decide) (W := 0) (by show 2 * 0 + _ ≤ _; exact Nat.le_of_eq rfl) (by decide)
  have k3 : own_To p.tables e below (s₁.setTop (entryFrame m #[(.ref a1)] 1)) T2 (mkF m 4 #[.val (.ref a1)] []) := fun t k => k1 t (st2 t k)
  obtain ⟨fs, hr, hrun, hended, hW, hsame⟩ := X2.leave (v := none) (fun _ => rfl)
  refine ⟨_, _, k3 _ ?_, hrun, hended, _, _, rfl, ?_, ⟨_, rfl⟩, hW, hsame.mono (by decide) (by decide)⟩
  · exact X2.returnOut hx Bd.returns (hb hby own_d3_4) hr
  · refine ⟨?_, N0, e2⟩
    rfl
theorem own_d2_0 : decode prog_323_method_1_code 0 = .ok (.aload_n 0, 1) := by decide +kernel
theorem own_d2_1 : decode prog_323_method_1_code 1 = .ok (.invokespecial 1, 3) := by decide +kernel
theorem own_pd0 : parseMethodDescriptor "()V" = some ⟨[], none⟩ := by decide +kernel
theorem own_d2_4 : decode prog_323_method_1_code 4 = .ok (.return_, 1) := by decide +kernel
theorem own_ef2 (m : MethodId) (x0 : Addr) : entryFrame m #[(.ref x0)] 1 = mkF m 0 #[.val (.ref x0)] [] := by first | (simp [entryFrame, mkF, argsToLocals, Value.category]; done) | rfl
theorem own_pn2 : plainName "com/example/witness/witness/value/SetValue" = true := by first | (simp [plainName, overriddenIn]; done) | decide +kernel
set_option maxRecDepth 65536 in
set_option maxHeartbeats 40000000 in
theorem own_m2 (l : Launch) (Z : State) (a0 : Array Value) (hw : ∀ d ∈ tables_1, d.before a0 Z = true) (ws : List Jvm.Cond) (a1 : Addr) (h0 : Heap) (n0 : Nat) (Z0 : n0 ≤ h0.size) :
    MetFree l (⟨"com/example/witness/witness/value/SetValue", "<init>", "()V"⟩ : MethodName) (head1 (Jvm.Cond.code (⟨"com/example/witness/witness/value/SetValue", "<init>", "()V"⟩ : MethodName) prog_323_method_1_code 1 none :: ws) ({ frames := 2, cells := 0, slots := 0, locals := 24 } : Room)) (fun a U => a = #[(.ref a1)] ∧ Z.Warmed39 U.vm ∧ U.heap = h0) (fun _ _ _ _ _ => True) (fun _ U o U' => ∃ v L, o = .returned v ∧ own_Q none h0 n0 v U'.heap L ∧ FrameEnd U o U' L ({ frames := 2, cells := 0, slots := 0, locals := 24 } : Room).cells ({ frames := 2, cells := 0, slots := 0, locals := 24 } : Room).slots) := by
  refine MetFree.of_bodySF (plainFor_of_name own_pn2) hisR ?_
  intro p e s m args below meth c s₁ Bd hml0 hP hK
  obtain ⟨rfl, hZ, hh⟩ := hP
  have hx := Bd.exec
  have hby := Bd.bytes
  have hml : c.maxLocals = 1 := hml0
  have hown : s.vm.findClass "com/example/witness/witness/value/SetValue" = some m.cls := findClass_of_methodNamed Bd.named
  have hnm := (name_of_methodNamed Bd.named Bd.method).1
  have X0 : Stand p l e ({ frames := 2, cells := 0, slots := 0, locals := 24 } : Room) s m #[(.ref a1)] below meth c s₁ [] 0 0 := Stand.of_body Bd
  have e0 : s₁.heap = h0 := by rw [← hh, Bd.state]; rfl
  have N0 := Fr.nil n0
  have k0 : own_To p.tables e below (s₁.setTop (entryFrame m #[(.ref a1)] 1)) s₁ (mkF m 0 #[.val (.ref a1)] []) := fun t k => castTop (own_ef2 m a1) k
  have k1 : own_To p.tables e below (s₁.setTop (entryFrame m #[(.ref a1)] 1)) s₁ (mkF m 1 #[.val (.ref a1)] [(.ref a1)]) := fun t k => k0 t (XS.aloadN X0.here hx rfl (hb hby own_d2_0) rfl rfl k)
  obtain ⟨_, _, ⟨T2, L2, k2, n2⟩, -, X2, ⟨Lc2, hQ2, l2, y2, z2⟩, st2⟩ := X0.specialBack hx (y := (⟨"com/example/witness/witness/value/Value", "<init>", "()V"⟩ : MethodName)) rfl hown (mvT hZ (hw _ (List.mem_of_getElem? (i := 11) rfl))) (mvT hZ (hw _ (List.mem_of_getElem? (i := 12) rfl))) (mvT hZ (hw _ (List.mem_of_getElem? (i := 15) rfl))) (by decide) (backOf (W := 0) (own_m3 l Z a0 hw [] a1 h0 n0 Z0 ) hZ (hw _ (List.mem_of_getElem? (i := 15) rfl)) (hw _ (List.mem_of_getElem? (i := 14) rfl)) (by decide) (by decide)) (g := (mkF m 1 #[.val (.ref a1)] [(.ref a1)])) rfl (by rw [hml]; rfl) (Steps.refl _) (a := a1) (argsL := []) (rest := []) (lenOf own_pd0 rfl) rfl (by show 2 * 0 + _ ≤ _; exact Nat.le_of_eq rfl) (hb hby own_d2_1) (fun _ _ => ⟨rfl, e0, (by decide : 0 + 0 ≤ _), (by decide : 0 + 0 ≤ _)⟩)
  dsimp only [Pt.U, Pt.locs, Pt.cells, Pt.slots] at X2 l2 y2 z2 st2 hQ2
  subst l2 y2 z2
  obtain ⟨rfl, N2q, e2⟩ := hQ2
  have N2 := Fr.app N0 N2q
  have k3 : own_To p.tables e below (s₁.setTop (entryFrame m #[(.ref a1)] 1)) T2 (mkF m 4 #[.val (.ref a1)] []) := fun t k => k1 t (st2.trans k)
  obtain ⟨fs, hr, hrun, hended, hW, hsame⟩ := X2.leave (v := none) (fun _ => rfl)
  refine ⟨_, _, k3 _ ?_, hrun, hended, _, _, rfl, ?_, ⟨_, rfl⟩, hW, hsame.mono (by decide) (by decide)⟩
  · exact X2.returnOut hx Bd.returns (hb hby own_d2_4) hr
  · refine ⟨?_, N2, e2⟩
    rfl
theorem own_d1_0 : decode prog_310_method_1_code 0 = .ok (.aload_n 0, 1) := by decide +kernel
theorem own_d1_1 : decode prog_310_method_1_code 1 = .ok (.invokespecial 1, 3) := by decide +kernel
theorem own_d1_4 : decode prog_310_method_1_code 4 = .ok (.aload_n 0, 1) := by decide +kernel
theorem own_d1_5 : decode prog_310_method_1_code 5 = .ok (.lload_n 1, 1) := by decide +kernel
theorem own_d1_6 : decode prog_310_method_1_code 6 = .ok (.putfield 7, 3) := by decide +kernel
theorem own_d1_9 : decode prog_310_method_1_code 9 = .ok (.aload_n 0, 1) := by decide +kernel
theorem own_d1_10 : decode prog_310_method_1_code 10 = .ok (.lload_n 3, 1) := by decide +kernel
theorem own_d1_11 : decode prog_310_method_1_code 11 = .ok (.putfield 13, 3) := by decide +kernel
theorem own_d1_14 : decode prog_310_method_1_code 14 = .ok (.return_, 1) := by decide +kernel
theorem own_ef1 (m : MethodId) (x0 : Addr) (x1 : Int64) (x2 : Int64) : entryFrame m #[(.ref x0), (.long x1), (.long x2)] 5 = mkF m 0 #[.val (.ref x0), .val (.long x1), .second, .val (.long x2), .second] [] := by first | (simp [entryFrame, mkF, argsToLocals, Value.category]; done) | rfl
theorem own_pn1 : plainName "com/example/witness/witness/value/IntervalSet" = true := by first | (simp [plainName, overriddenIn]; done) | decide +kernel
def own_m1_Q (Z : State) (a1 : Addr) (q2 : Int64) (q3 : Int64) (u_low_a1 : Value) (u_high_a1 : Value) (h0 : Heap) (n0 : Nat) (v : Option Value) (h : Heap) (L : List Loc) : Prop := v = none ∧ Fr n0 L ∧ Keep h0 h [a1] ∧ Exa Z h a1 "com/example/witness/witness/value/IntervalSet" ∧ Fld Z h a1 "com/example/witness/witness/value/IntervalSet" "low" "J" (.long q2) ∧ Fld Z h a1 "com/example/witness/witness/value/IntervalSet" "high" "J" (.long q3)
set_option maxRecDepth 65536 in
set_option maxHeartbeats 40000000 in
theorem own_m1 (l : Launch) (Z : State) (a0 : Array Value) (hw : ∀ d ∈ tables_1, d.before a0 Z = true) (ws : List Jvm.Cond) (a1 : Addr) (q2 : Int64) (q3 : Int64) (u_low_a1 : Value) (u_high_a1 : Value) (h0 : Heap) (n0 : Nat) (Z0 : n0 ≤ h0.size) (E_a1 : Exa Z h0 a1 "com/example/witness/witness/value/IntervalSet") (F_low_a1 : Fld Z h0 a1 "com/example/witness/witness/value/IntervalSet" "low" "J" u_low_a1) (g_a1 : n0 ≤ a1) (F_high_a1 : Fld Z h0 a1 "com/example/witness/witness/value/IntervalSet" "high" "J" u_high_a1) :
    MetFree l (⟨"com/example/witness/witness/value/IntervalSet", "<init>", "(JJ)V"⟩ : MethodName) (head1 (Jvm.Cond.code (⟨"com/example/witness/witness/value/IntervalSet", "<init>", "(JJ)V"⟩ : MethodName) prog_310_method_1_code 5 none :: ws) ({ frames := 3, cells := 0, slots := 0, locals := 36 } : Room)) (fun a U => a = #[(.ref a1), (.long q2), (.long q3)] ∧ Z.Warmed39 U.vm ∧ U.heap = h0) (fun _ _ _ _ _ => True) (fun _ U o U' => ∃ v L, o = .returned v ∧ own_m1_Q Z a1 q2 q3 u_low_a1 u_high_a1 h0 n0 v U'.heap L ∧ FrameEnd U o U' L ({ frames := 3, cells := 0, slots := 0, locals := 36 } : Room).cells ({ frames := 3, cells := 0, slots := 0, locals := 36 } : Room).slots) := by
  refine MetFree.of_bodySF (plainFor_of_name own_pn1) hisR ?_
  intro p e s m args below meth c s₁ Bd hml0 hP hK
  obtain ⟨rfl, hZ, hh⟩ := hP
  have hx := Bd.exec
  have hby := Bd.bytes
  have hml : c.maxLocals = 5 := hml0
  have hown : s.vm.findClass "com/example/witness/witness/value/IntervalSet" = some m.cls := findClass_of_methodNamed Bd.named
  have hnm := (name_of_methodNamed Bd.named Bd.method).1
  have X0 : Stand p l e ({ frames := 3, cells := 0, slots := 0, locals := 36 } : Room) s m #[(.ref a1), (.long q2), (.long q3)] below meth c s₁ [] 0 0 := Stand.of_body Bd
  have e0 : s₁.heap = h0 := by rw [← hh, Bd.state]; rfl
  have N0 := Fr.nil n0
  have k0 : own_To p.tables e below (s₁.setTop (entryFrame m #[(.ref a1), (.long q2), (.long q3)] 5)) s₁ (mkF m 0 #[.val (.ref a1), .val (.long q2), .second, .val (.long q3), .second] []) := fun t k => castTop (own_ef1 m a1 q2 q3) k
  have k1 : own_To p.tables e below (s₁.setTop (entryFrame m #[(.ref a1), (.long q2), (.long q3)] 5)) s₁ (mkF m 1 #[.val (.ref a1), .val (.long q2), .second, .val (.long q3), .second] [(.ref a1)]) := fun t k => k0 t (XS.aloadN X0.here hx rfl (hb hby own_d1_0) rfl rfl k)
  obtain ⟨_, _, ⟨T2, L2, k2, n2⟩, -, X2, ⟨Lc2, hQ2, l2, y2, z2⟩, st2⟩ := X0.specialBack hx (y := (⟨"com/example/witness/witness/value/SetValue", "<init>", "()V"⟩ : MethodName)) rfl hown (mvT hZ (hw _ (List.mem_of_getElem? (i := 6) rfl))) (mvT hZ (hw _ (List.mem_of_getElem? (i := 7) rfl))) (mvT hZ (hw _ (List.mem_of_getElem? (i := 10) rfl))) (by decide) (backOf (W := 0) (own_m2 l Z a0 hw [] a1 h0 n0 Z0 ) hZ (hw _ (List.mem_of_getElem? (i := 10) rfl)) (hw _ (List.mem_of_getElem? (i := 9) rfl)) (by decide) (by decide)) (g := (mkF m 1 #[.val (.ref a1), .val (.long q2), .second, .val (.long q3), .second] [(.ref a1)])) rfl (by rw [hml]; rfl) (Steps.refl _) (a := a1) (argsL := []) (rest := []) (lenOf own_pd0 rfl) rfl (by show 2 * 0 + _ ≤ _; exact Nat.le_of_eq rfl) (hb hby own_d1_1) (fun _ _ => ⟨rfl, e0, (by decide : 0 + 0 ≤ _), (by decide : 0 + 0 ≤ _)⟩)
  dsimp only [Pt.U, Pt.locs, Pt.cells, Pt.slots] at X2 l2 y2 z2 st2 hQ2
  subst l2 y2 z2
  obtain ⟨rfl, N2q, e2⟩ := hQ2
  have N2 := Fr.app N0 N2q
  have k3 : own_To p.tables e below (s₁.setTop (entryFrame m #[(.ref a1), (.long q2), (.long q3)] 5)) T2 (mkF m 4 #[.val (.ref a1), .val (.long q2), .second, .val (.long q3), .second] []) := fun t k => k1 t (st2.trans k)
  have k4 : own_To p.tables e below (s₁.setTop (entryFrame m #[(.ref a1), (.long q2), (.long q3)] 5)) T2 (mkF m 5 #[.val (.ref a1), .val (.long q2), .second, .val (.long q3), .second] [(.ref a1)]) := fun t k => k3 t (XS.aloadN X2.here hx rfl (hb hby own_d1_4) rfl rfl k)
  have k5 : own_To p.tables e below (s₁.setTop (entryFrame m #[(.ref a1), (.long q2), (.long q3)] 5)) T2 (mkF m 6 #[.val (.ref a1), .val (.long q2), .second, .val (.long q3), .second] [(.long q2), (.ref a1)]) := fun t k => k4 t (XS.lloadN X2.here hx rfl (hb hby own_d1_5) rfl k)
  obtain ⟨T6, h6, X6, e6, W6, st6⟩ := putF X2 hx hZ hown (host := "") (Or.inl (hw _ (List.mem_of_getElem? (i := 19) rfl))) Via.refl e2 F_low_a1 E_a1 (Or.inr ⟨(hw _ (List.mem_of_getElem? (i := 20) rfl)), rfl, hnm⟩) (hw _ (List.mem_of_getElem? (i := 1) rfl)) (ty := .long) (by decide) rfl rfl (g := (mkF m 6 #[.val (.ref a1), .val (.long q2), .second, .val (.long q3), .second] [(.long q2), (.ref a1)])) rfl rfl (hb hby own_d1_6)
  have Fw6 := F_low_a1.same W6
  have K6 : Keep h0 h6 [a1] := (Keep.refl h0 [a1]).wr W6 (Or.inl (List.mem_of_getElem? (i := 0) rfl))
  have N6 := Fr.snoc X6 N2 g_a1
  have Z6 : n0 ≤ h6.size := Nat.le_trans Z0 (Keep.of_wr W6).1
  have k7 : own_To p.tables e below (s₁.setTop (entryFrame m #[(.ref a1), (.long q2), (.long q3)] 5)) T6 (mkF m 9 #[.val (.ref a1), .val (.long q2), .second, .val (.long q3), .second] []) := fun t k => k5 t (st6 t k)
  have k8 : own_To p.tables e below (s₁.setTop (entryFrame m #[(.ref a1), (.long q2), (.long q3)] 5)) T6 (mkF m 10 #[.val (.ref a1), .val (.long q2), .second, .val (.long q3), .second] [(.ref a1)]) := fun t k => k7 t (XS.aloadN X6.here hx rfl (hb hby own_d1_9) rfl rfl k)
  have k9 : own_To p.tables e below (s₁.setTop (entryFrame m #[(.ref a1), (.long q2), (.long q3)] 5)) T6 (mkF m 11 #[.val (.ref a1), .val (.long q2), .second, .val (.long q3), .second] [(.long q3), (.ref a1)]) := fun t k => k8 t (XS.lloadN X6.here hx rfl (hb hby own_d1_10) rfl k)
  obtain ⟨T10, h10, X10, e10, W10, st10⟩ := putF X6 hx hZ hown (host := "") (Or.inl (hw _ (List.mem_of_getElem? (i := 21) rfl))) Via.refl e6 (F_high_a1.other W6 (Or.inr (slot_ne (Or.inr (hw _ (List.mem_of_getElem? (i := 22) rfl))) (Or.inr (hw _ (List.mem_of_getElem? (i := 20) rfl))) (by decide) (t := .long) (t' := .long) (by decide) (by decide)))) (E_a1.wr W6) (Or.inr ⟨(hw _ (List.mem_of_getElem? (i := 22) rfl)), rfl, hnm⟩) (hw _ (List.mem_of_getElem? (i := 1) rfl)) (ty := .long) (by decide) rfl rfl (g := (mkF m 11 #[.val (.ref a1), .val (.long q2), .second, .val (.long q3), .second] [(.long q3), (.ref a1)])) rfl rfl (hb hby own_d1_11)
  have Fw10 := (F_high_a1.other W6 (Or.inr (slot_ne (Or.inr (hw _ (List.mem_of_getElem? (i := 22) rfl))) (Or.inr (hw _ (List.mem_of_getElem? (i := 20) rfl))) (by decide) (t := .long) (t' := .long) (by decide) (by decide)))).same W10
  have K10 : Keep h0 h10 [a1] := K6.wr W10 (Or.inl (List.mem_of_getElem? (i := 0) rfl))
  have N10 := Fr.snoc X10 N6 g_a1
  have Z10 : n0 ≤ h10.size := Nat.le_trans Z6 (Keep.of_wr W10).1
  have k11 : own_To p.tables e below (s₁.setTop (entryFrame m #[(.ref a1), (.long q2), (.long q3)] 5)) T10 (mkF m 14 #[.val (.ref a1), .val (.long q2), .second, .val (.long q3), .second] []) := fun t k => k9 t (st10 t k)
  obtain ⟨fs, hr, hrun, hended, hW, hsame⟩ := X10.leave (v := none) (fun _ => rfl)
  refine ⟨_, _, k11 _ ?_, hrun, hended, _, _, rfl, ?_, ⟨_, rfl⟩, hW, hsame.mono (by decide) (by decide)⟩
  · exact X10.returnOut hx Bd.returns (hb hby own_d1_14) hr
  · show own_m1_Q Z a1 q2 q3 u_low_a1 u_high_a1 h0 n0 _ T10.heap _
    rw [e10]
    exact ⟨rfl, N10, K10, ((E_a1.wr W6).wr W10), (Fw6.other W10 (Or.inr (slot_ne (Or.inr (hw _ (List.mem_of_getElem? (i := 20) rfl))) (Or.inr (hw _ (List.mem_of_getElem? (i := 22) rfl))) (by decide) (t := .long) (t' := .long) (by decide) (by decide)))), Fw10⟩
theorem own_d5_0 : decode prog_310_method_5_code 0 = .ok (.aload_n 0, 1) := by decide +kernel
theorem own_d5_1 : decode prog_310_method_5_code 1 = .ok (.getfield 13, 3) := by decide +kernel
theorem own_d5_4 : decode prog_310_method_5_code 4 = .ok (.aload_n 0, 1) := by decide +kernel
theorem own_d5_5 : decode prog_310_method_5_code 5 = .ok (.getfield 7, 3) := by decide +kernel
theorem own_d5_8 : decode prog_310_method_5_code 8 = .ok (.lsub, 1) := by decide +kernel
theorem own_d5_9 : decode prog_310_method_5_code 9 = .ok (.lstore_n 1, 1) := by decide +kernel
theorem own_d5_10 : decode prog_310_method_5_code 10 = .ok (.aload_n 0, 1) := by decide +kernel
theorem own_d5_11 : decode prog_310_method_5_code 11 = .ok (.getfield 13, 3) := by decide +kernel
theorem own_d5_14 : decode prog_310_method_5_code 14 = .ok (.aload_n 0, 1) := by decide +kernel
theorem own_d5_15 : decode prog_310_method_5_code 15 = .ok (.getfield 7, 3) := by decide +kernel
theorem own_d5_18 : decode prog_310_method_5_code 18 = .ok (.lcmp, 1) := by decide +kernel
theorem own_d5_19 : decode prog_310_method_5_code 19 = .ok (.ifCond .lt 17, 3) := by decide +kernel
theorem own_d5_36 : decode prog_310_method_5_code 36 = .ok (.iconst 1, 1) := by decide +kernel
theorem own_d5_37 : decode prog_310_method_5_code 37 = .ok (.goto 4, 3) := by decide +kernel
theorem own_d5_41 : decode prog_310_method_5_code 41 = .ok (.ireturn, 1) := by decide +kernel
theorem own_d5_22 : decode prog_310_method_5_code 22 = .ok (.lload_n 1, 1) := by decide +kernel
theorem own_d5_23 : decode prog_310_method_5_code 23 = .ok (.lconst 0, 1) := by decide +kernel
theorem own_d5_24 : decode prog_310_method_5_code 24 = .ok (.lcmp, 1) := by decide +kernel
theorem own_d5_25 : decode prog_310_method_5_code 25 = .ok (.ifCond .lt 15, 3) := by decide +kernel
theorem own_d5_40 : decode prog_310_method_5_code 40 = .ok (.iconst 0, 1) := by decide +kernel
theorem own_d5_28 : decode prog_310_method_5_code 28 = .ok (.lload_n 1, 1) := by decide +kernel
theorem own_d5_29 : decode prog_310_method_5_code 29 = .ok (.ldc2_w 31, 3) := by decide +kernel
theorem own_d5_32 : decode prog_310_method_5_code 32 = .ok (.lcmp, 1) := by decide +kernel
theorem own_d5_33 : decode prog_310_method_5_code 33 = .ok (.ifCond .ge 7, 3) := by decide +kernel
theorem own_ef5 (m : MethodId) (x0 : Addr) : entryFrame m #[(.ref x0)] 3 = mkF m 0 #[.val (.ref x0), .unset, .unset] [] := by first | (simp [entryFrame, mkF, argsToLocals, Value.category]; done) | rfl
theorem own_pn5 : plainName "com/example/witness/witness/value/IntervalSet" = true := by first | (simp [plainName, overriddenIn]; done) | decide +kernel
def own_small (w_high_a1 : Int64) (w_low_a1 : Int64) : Int32 := (if (lcmpW w_high_a1 w_low_a1) < (0 : Int32) then (1 : Int32) else (if (lcmpW (w_high_a1 - w_low_a1) (0 : Int64)) < (0 : Int32) then (0 : Int32) else (if (lcmpW (w_high_a1 - w_low_a1) (65536 : Int64)) < (0 : Int32) then (1 : Int32) else (0 : Int32))))
set_option maxRecDepth 65536 in
set_option maxHeartbeats 40000000 in
theorem own_m5 (l : Launch) (Z : State) (a0 : Array Value) (hw : ∀ d ∈ tables_1, d.before a0 Z = true) (ws : List Jvm.Cond) (a1 : Addr) (w_high_a1 : Int64) (w_low_a1 : Int64) (h0 : Heap) (n0 : Nat) (Z0 : n0 ≤ h0.size) (F_high_a1 : Fld Z h0 a1 "com/example/witness/witness/value/IntervalSet" "high" "J" (.long w_high_a1)) (F_low_a1 : Fld Z h0 a1 "com/example/witness/witness/value/IntervalSet" "low" "J" (.long w_low_a1)) :
    MetFree l (⟨"com/example/witness/witness/value/IntervalSet", "isSmall", "()Z"⟩ : MethodName) (head1 (Jvm.Cond.code (⟨"com/example/witness/witness/value/IntervalSet", "isSmall", "()Z"⟩ : MethodName) prog_310_method_5_code 3 (some .boolean) :: ws) ({ frames := 0, cells := 0, slots := 0, locals := 0 } : Room)) (fun a U => a = #[(.ref a1)] ∧ Z.Warmed39 U.vm ∧ U.heap = h0) (fun _ _ _ _ _ => True) (fun _ U o U' => ∃ v L, o = .returned v ∧ own_Q (some (.int (own_small w_high_a1 w_low_a1))) h0 n0 v U'.heap L ∧ FrameEnd U o U' L ({ frames := 0, cells := 0, slots := 0, locals := 0 } : Room).cells ({ frames := 0, cells := 0, slots := 0, locals := 0 } : Room).slots) := by
  refine MetFree.of_bodySF (plainFor_of_name own_pn5) hisR ?_
  intro p e s m args below meth c s₁ Bd hml0 hP hK
  obtain ⟨rfl, hZ, hh⟩ := hP
  have hx := Bd.exec
  have hby := Bd.bytes
  have hml : c.maxLocals = 3 := hml0
  have hown : s.vm.findClass "com/example/witness/witness/value/IntervalSet" = some m.cls := findClass_of_methodNamed Bd.named
  have hnm := (name_of_methodNamed Bd.named Bd.method).1
  have X0 : Stand p l e ({ frames := 0, cells := 0, slots := 0, locals := 0 } : Room) s m #[(.ref a1)] below meth c s₁ [] 0 0 := Stand.of_body Bd
  have e0 : s₁.heap = h0 := by rw [← hh, Bd.state]; rfl
  have N0 := Fr.nil n0
  have k0 : own_To p.tables e below (s₁.setTop (entryFrame m #[(.ref a1)] 3)) s₁ (mkF m 0 #[.val (.ref a1), .unset, .unset] []) := fun t k => castTop (own_ef5 m a1) k
  have k1 : own_To p.tables e below (s₁.setTop (entryFrame m #[(.ref a1)] 3)) s₁ (mkF m 1 #[.val (.ref a1), .unset, .unset] [(.ref a1)]) := fun t k => k0 t (XS.aloadN X0.here hx rfl (hb hby own_d5_0) rfl rfl k)
  obtain ⟨T2, X2, e2, st2⟩ := getF X0 hx hZ hown (host := "") (Or.inl (hw _ (List.mem_of_getElem? (i := 21) rfl))) Via.refl e0 F_high_a1 (g := (mkF m 1 #[.val (.ref a1), .unset, .unset] [(.ref a1)])) rfl rfl (hb hby own_d5_1)
  have k3 : own_To p.tables e below (s₁.setTop (entryFrame m #[(.ref a1)] 3)) T2 (mkF m 4 #[.val (.ref a1), .unset, .unset] [(.long w_high_a1)]) := fun t k => k1 t (st2 t k)
  have k4 : own_To p.tables e below (s₁.setTop (entryFrame m #[(.ref a1)] 3)) T2 (mkF m 5 #[.val (.ref a1), .unset, .unset] [(.ref a1), (.long w_high_a1)]) := fun t k => k3 t (XS.aloadN X2.here hx rfl (hb hby own_d5_4) rfl rfl k)
  obtain ⟨T5, X5, e5, st5⟩ := getF X2 hx hZ hown (host := "") (Or.inl (hw _ (List.mem_of_getElem? (i := 19) rfl))) Via.refl e2 F_low_a1 (g := (mkF m 5 #[.val (.ref a1), .unset, .unset] [(.ref a1), (.long w_high_a1)])) rfl rfl (hb hby own_d5_5)
  have k6 : own_To p.tables e below (s₁.setTop (entryFrame m #[(.ref a1)] 3)) T5 (mkF m 8 #[.val (.ref a1), .unset, .unset] [(.long w_low_a1), (.long w_high_a1)]) := fun t k => k4 t (st5 t k)
  have k7 : own_To p.tables e below (s₁.setTop (entryFrame m #[(.ref a1)] 3)) T5 (mkF m 9 #[.val (.ref a1), .unset, .unset] [(.long (w_high_a1 - w_low_a1))]) := fun t k => k6 t (XS.lsub X5.here hx rfl (hb hby own_d5_8) rfl k)
  have k8 : own_To p.tables e below (s₁.setTop (entryFrame m #[(.ref a1)] 3)) T5 (mkF m 10 #[.val (.ref a1), .val (.long (w_high_a1 - w_low_a1)), .second] []) := fun t k => k7 t (XS.lstoreN X5.here hx rfl (hb hby own_d5_9) rfl (l' := #[.val (.ref a1), .val (.long (w_high_a1 - w_low_a1)), .second]) rfl k)
  have k9 : own_To p.tables e below (s₁.setTop (entryFrame m #[(.ref a1)] 3)) T5 (mkF m 11 #[.val (.ref a1), .val (.long (w_high_a1 - w_low_a1)), .second] [(.ref a1)]) := fun t k => k8 t (XS.aloadN X5.here hx rfl (hb hby own_d5_10) rfl rfl k)
  obtain ⟨T10, X10, e10, st10⟩ := getF X5 hx hZ hown (host := "") (Or.inl (hw _ (List.mem_of_getElem? (i := 21) rfl))) Via.refl e5 F_high_a1 (g := (mkF m 11 #[.val (.ref a1), .val (.long (w_high_a1 - w_low_a1)), .second] [(.ref a1)])) rfl rfl (hb hby own_d5_11)
  have k11 : own_To p.tables e below (s₁.setTop (entryFrame m #[(.ref a1)] 3)) T10 (mkF m 14 #[.val (.ref a1), .val (.long (w_high_a1 - w_low_a1)), .second] [(.long w_high_a1)]) := fun t k => k9 t (st10 t k)
  have k12 : own_To p.tables e below (s₁.setTop (entryFrame m #[(.ref a1)] 3)) T10 (mkF m 15 #[.val (.ref a1), .val (.long (w_high_a1 - w_low_a1)), .second] [(.ref a1), (.long w_high_a1)]) := fun t k => k11 t (XS.aloadN X10.here hx rfl (hb hby own_d5_14) rfl rfl k)
  obtain ⟨T13, X13, e13, st13⟩ := getF X10 hx hZ hown (host := "") (Or.inl (hw _ (List.mem_of_getElem? (i := 19) rfl))) Via.refl e10 F_low_a1 (g := (mkF m 15 #[.val (.ref a1), .val (.long (w_high_a1 - w_low_a1)), .second] [(.ref a1), (.long w_high_a1)])) rfl rfl (hb hby own_d5_15)
  have k14 : own_To p.tables e below (s₁.setTop (entryFrame m #[(.ref a1)] 3)) T13 (mkF m 18 #[.val (.ref a1), .val (.long (w_high_a1 - w_low_a1)), .second] [(.long w_low_a1), (.long w_high_a1)]) := fun t k => k12 t (st13 t k)
  have k15 : own_To p.tables e below (s₁.setTop (entryFrame m #[(.ref a1)] 3)) T13 (mkF m 19 #[.val (.ref a1), .val (.long (w_high_a1 - w_low_a1)), .second] [(.int (lcmpW w_high_a1 w_low_a1))]) := fun t k => k14 t (XS.lcmp X13.here hx rfl (hb hby own_d5_18) rfl k)
  by_cases hc16 : (lcmpW w_high_a1 w_low_a1) < (0 : Int32)
  · have k17 : own_To p.tables e below (s₁.setTop (entryFrame m #[(.ref a1)] 3)) T13 (mkF m 36 #[.val (.ref a1), .val (.long (w_high_a1 - w_low_a1)), .second] []) := fun t k => k15 t (XS.ifYes X13.here hx rfl (pc0 := 19) (pc' := 36) rfl (hb hby own_d5_19) rfl ((if0 _ _).trans (tlt (show (lcmpW w_high_a1 w_low_a1) < (0 : Int32) from hc16)).1) (by decide) (by decide) k)
    have k18 : own_To p.tables e below (s₁.setTop (entryFrame m #[(.ref a1)] 3)) T13 (mkF m 37 #[.val (.ref a1), .val (.long (w_high_a1 - w_low_a1)), .second] [(.int (1 : Int32))]) := fun t k => k17 t (XS.iconst X13.here hx rfl (hb hby own_d5_36) k)
    have k19 : own_To p.tables e below (s₁.setTop (entryFrame m #[(.ref a1)] 3)) T13 (mkF m 41 #[.val (.ref a1), .val (.long (w_high_a1 - w_low_a1)), .second] [(.int (1 : Int32))]) := fun t k => k18 t (XS.goto X13.here hx rfl (pc0 := 37) (pc' := 41) rfl (hb hby own_d5_37) (by decide) (by decide) k)
    obtain ⟨fs, hr, hrun, hended, hW, hsame⟩ := X13.leave (v := some (.int (1 : Int32))) (fun h => by rw [Bd.returns] at h; cases h)
    refine ⟨_, _, k19 _ ?_, hrun, hended, _, _, rfl, ?_, ⟨_, rfl⟩, hW, hsame.mono (by decide) (by decide)⟩
    · exact retN X13 hx (t := .boolean) Bd.returns (by simp) (hb hby own_d5_41) hr
    · refine ⟨?_, N0, e13⟩
      rw [show (own_small w_high_a1 w_low_a1) = (1 : Int32) from by unfold own_small; rw [if_pos hc16]]
  · have k20 : own_To p.tables e below (s₁.setTop (entryFrame m #[(.ref a1)] 3)) T13 (mkF m 22 #[.val (.ref a1), .val (.long (w_high_a1 - w_low_a1)), .second] []) := fun t k => k15 t (XS.ifNo X13.here hx rfl (hb hby own_d5_19) rfl ((if0 _ _).trans (flt (show ¬ ((lcmpW w_high_a1 w_low_a1) < (0 : Int32)) from hc16)).1) k)
    have k21 : own_To p.tables e below (s₁.setTop (entryFrame m #[(.ref a1)] 3)) T13 (mkF m 23 #[.val (.ref a1), .val (.long (w_high_a1 - w_low_a1)), .second] [(.long (w_high_a1 - w_low_a1))]) := fun t k => k20 t (XS.lloadN X13.here hx rfl (hb hby own_d5_22) rfl k)
    have k22 : own_To p.tables e below (s₁.setTop (entryFrame m #[(.ref a1)] 3)) T13 (mkF m 24 #[.val (.ref a1), .val (.long (w_high_a1 - w_low_a1)), .second] [(.long (0 : Int64)), (.long (w_high_a1 - w_low_a1))]) := fun t k => k21 t (XS.lconst X13.here hx rfl (hb hby own_d5_23) k)
    have k23 : own_To p.tables e below (s₁.setTop (entryFrame m #[(.ref a1)] 3)) T13 (mkF m 25 #[.val (.ref a1), .val (.long (w_high_a1 - w_low_a1)), .second] [(.int (lcmpW (w_high_a1 - w_low_a1) (0 : Int64)))]) := fun t k => k22 t (XS.lcmp X13.here hx rfl (hb hby own_d5_24) rfl k)
    by_cases hc24 : (lcmpW (w_high_a1 - w_low_a1) (0 : Int64)) < (0 : Int32)
    · have k25 : own_To p.tables e below (s₁.setTop (entryFrame m #[(.ref a1)] 3)) T13 (mkF m 40 #[.val (.ref a1), .val (.long (w_high_a1 - w_low_a1)), .second] []) := fun t k => k23 t (XS.ifYes X13.here hx rfl (pc0 := 25) (pc' := 40) rfl (hb hby own_d5_25) rfl ((if0 _ _).trans (tlt (show (lcmpW (w_high_a1 - w_low_a1) (0 : Int64)) < (0 : Int32) from hc24)).1) (by decide) (by decide) k)
      have k26 : own_To p.tables e below (s₁.setTop (entryFrame m #[(.ref a1)] 3)) T13 (mkF m 41 #[.val (.ref a1), .val (.long (w_high_a1 - w_low_a1)), .second] [(.int (0 : Int32))]) := fun t k => k25 t (XS.iconst X13.here hx rfl (hb hby own_d5_40) k)
      obtain ⟨fs, hr, hrun, hended, hW, hsame⟩ := X13.leave (v := some (.int (0 : Int32))) (fun h => by rw [Bd.returns] at h; cases h)
      refine ⟨_, _, k26 _ ?_, hrun, hended, _, _, rfl, ?_, ⟨_, rfl⟩, hW, hsame.mono (by decide) (by decide)⟩
      · exact retN X13 hx (t := .boolean) Bd.returns (by simp) (hb hby own_d5_41) hr
      · refine ⟨?_, N0, e13⟩
        rw [show (own_small w_high_a1 w_low_a1) = (0 : Int32) from by unfold own_small; rw [if_neg hc16, if_pos hc24]]
    · have k27 : own_To p.tables e below (s₁.setTop (entryFrame m #[(.ref a1)] 3)) T13 (mkF m 28 #[.val (.ref a1), .val (.long (w_high_a1 - w_low_a1)), .second] []) := fun t k => k23 t (XS.ifNo X13.here hx rfl (hb hby own_d5_25) rfl ((if0 _ _).trans (flt (show ¬ ((lcmpW (w_high_a1 - w_low_a1) (0 : Int64)) < (0 : Int32)) from hc24)).1) k)
      have k28 : own_To p.tables e below (s₁.setTop (entryFrame m #[(.ref a1)] 3)) T13 (mkF m 29 #[.val (.ref a1), .val (.long (w_high_a1 - w_low_a1)), .second] [(.long (w_high_a1 - w_low_a1))]) := fun t k => k27 t (XS.lloadN X13.here hx rfl (hb hby own_d5_28) rfl k)
      have k29 : own_To p.tables e below (s₁.setTop (entryFrame m #[(.ref a1)] 3)) T13 (mkF m 32 #[.val (.ref a1), .val (.long (w_high_a1 - w_low_a1)), .second] [(.long (65536 : Int64)), (.long (w_high_a1 - w_low_a1))]) := fun t k => k28 t (X13.ldc2Long hx hown (mvT hZ (hw _ (List.mem_of_getElem? (i := 32) rfl))) (g := (mkF m 29 #[.val (.ref a1), .val (.long (w_high_a1 - w_low_a1)), .second] [(.long (w_high_a1 - w_low_a1))])) rfl (hb hby own_d5_29) _ k)
      have k30 : own_To p.tables e below (s₁.setTop (entryFrame m #[(.ref a1)] 3)) T13 (mkF m 33 #[.val (.ref a1), .val (.long (w_high_a1 - w_low_a1)), .second] [(.int (lcmpW (w_high_a1 - w_low_a1) (65536 : Int64)))]) := fun t k => k29 t (XS.lcmp X13.here hx rfl (hb hby own_d5_32) rfl k)
      by_cases hc31 : (lcmpW (w_high_a1 - w_low_a1) (65536 : Int64)) < (0 : Int32)
      · have k32 : own_To p.tables e below (s₁.setTop (entryFrame m #[(.ref a1)] 3)) T13 (mkF m 36 #[.val (.ref a1), .val (.long (w_high_a1 - w_low_a1)), .second] []) := fun t k => k30 t (XS.ifNo X13.here hx rfl (hb hby own_d5_33) rfl ((if0 _ _).trans (tlt (show (lcmpW (w_high_a1 - w_low_a1) (65536 : Int64)) < (0 : Int32) from hc31)).2.1) k)
        have k33 : own_To p.tables e below (s₁.setTop (entryFrame m #[(.ref a1)] 3)) T13 (mkF m 37 #[.val (.ref a1), .val (.long (w_high_a1 - w_low_a1)), .second] [(.int (1 : Int32))]) := fun t k => k32 t (XS.iconst X13.here hx rfl (hb hby own_d5_36) k)
        have k34 : own_To p.tables e below (s₁.setTop (entryFrame m #[(.ref a1)] 3)) T13 (mkF m 41 #[.val (.ref a1), .val (.long (w_high_a1 - w_low_a1)), .second] [(.int (1 : Int32))]) := fun t k => k33 t (XS.goto X13.here hx rfl (pc0 := 37) (pc' := 41) rfl (hb hby own_d5_37) (by decide) (by decide) k)
        obtain ⟨fs, hr, hrun, hended, hW, hsame⟩ := X13.leave (v := some (.int (1 : Int32))) (fun h => by rw [Bd.returns] at h; cases h)
        refine ⟨_, _, k34 _ ?_, hrun, hended, _, _, rfl, ?_, ⟨_, rfl⟩, hW, hsame.mono (by decide) (by decide)⟩
        · exact retN X13 hx (t := .boolean) Bd.returns (by simp) (hb hby own_d5_41) hr
        · refine ⟨?_, N0, e13⟩
          rw [show (own_small w_high_a1 w_low_a1) = (1 : Int32) from by unfold own_small; rw [if_neg hc16, if_neg hc24, if_pos hc31]]
      · have k35 : own_To p.tables e below (s₁.setTop (entryFrame m #[(.ref a1)] 3)) T13 (mkF m 40 #[.val (.ref a1), .val (.long (w_high_a1 - w_low_a1)), .second] []) := fun t k => k30 t (XS.ifYes X13.here hx rfl (pc0 := 33) (pc' := 40) rfl (hb hby own_d5_33) rfl ((if0 _ _).trans (flt (show ¬ ((lcmpW (w_high_a1 - w_low_a1) (65536 : Int64)) < (0 : Int32)) from hc31)).2.1) (by decide) (by decide) k)
        have k36 : own_To p.tables e below (s₁.setTop (entryFrame m #[(.ref a1)] 3)) T13 (mkF m 41 #[.val (.ref a1), .val (.long (w_high_a1 - w_low_a1)), .second] [(.int (0 : Int32))]) := fun t k => k35 t (XS.iconst X13.here hx rfl (hb hby own_d5_40) k)
        obtain ⟨fs, hr, hrun, hended, hW, hsame⟩ := X13.leave (v := some (.int (0 : Int32))) (fun h => by rw [Bd.returns] at h; cases h)
        refine ⟨_, _, k36 _ ?_, hrun, hended, _, _, rfl, ?_, ⟨_, rfl⟩, hW, hsame.mono (by decide) (by decide)⟩
        · exact retN X13 hx (t := .boolean) Bd.returns (by simp) (hb hby own_d5_41) hr
        · refine ⟨?_, N0, e13⟩
          rw [show (own_small w_high_a1 w_low_a1) = (0 : Int32) from by unfold own_small; rw [if_neg hc16, if_neg hc24, if_neg hc31]]
theorem own_d6_0 : decode method_3_code 0 = .ok (.lload_n 2, 1) := by decide +kernel
theorem own_d6_1 : decode method_3_code 1 = .ok (.lload_n 0, 1) := by decide +kernel
theorem own_d6_2 : decode method_3_code 2 = .ok (.lcmp, 1) := by decide +kernel
theorem own_d6_3 : decode method_3_code 3 = .ok (.ifCond .ge 5, 3) := by decide +kernel
theorem own_d6_6 : decode method_3_code 6 = .ok (.iconst 1, 1) := by decide +kernel
theorem own_d6_7 : decode method_3_code 7 = .ok (.ireturn, 1) := by decide +kernel
theorem own_d6_8 : decode method_3_code 8 = .ok (.lload_n 0, 1) := by decide +kernel
theorem own_d6_9 : decode method_3_code 9 = .ok (.ldc2_w 26, 3) := by decide +kernel
theorem own_d6_12 : decode method_3_code 12 = .ok (.lcmp, 1) := by decide +kernel
theorem own_d6_13 : decode method_3_code 13 = .ok (.ifCond .le 5, 3) := by decide +kernel
theorem own_d6_16 : decode method_3_code 16 = .ok (.iconst 1, 1) := by decide +kernel
theorem own_d6_17 : decode method_3_code 17 = .ok (.ireturn, 1) := by decide +kernel
theorem own_d6_18 : decode method_3_code 18 = .ok (.lload_n 2, 1) := by decide +kernel
theorem own_d6_19 : decode method_3_code 19 = .ok (.lload_n 0, 1) := by decide +kernel
theorem own_d6_20 : decode method_3_code 20 = .ok (.ldc2_w 28, 3) := by decide +kernel
theorem own_d6_23 : decode method_3_code 23 = .ok (.ladd, 1) := by decide +kernel
theorem own_d6_24 : decode method_3_code 24 = .ok (.lcmp, 1) := by decide +kernel
theorem own_d6_25 : decode method_3_code 25 = .ok (.ifCond .gt 7, 3) := by decide +kernel
theorem own_d6_32 : decode method_3_code 32 = .ok (.iconst 0, 1) := by decide +kernel
theorem own_d6_33 : decode method_3_code 33 = .ok (.ireturn, 1) := by decide +kernel
theorem own_d6_28 : decode method_3_code 28 = .ok (.iconst 1, 1) := by decide +kernel
theorem own_d6_29 : decode method_3_code 29 = .ok (.goto 4, 3) := by decide +kernel
theorem own_ef6 (m : MethodId) (x0 : Int64) (x1 : Int64) : entryFrame m #[(.long x0), (.long x1)] 4 = mkF m 0 #[.val (.long x0), .second, .val (.long x1), .second] [] := by first | (simp [entryFrame, mkF, argsToLocals, Value.category]; done) | rfl
theorem own_pn6 : plainName "com/example/witness/witness/value/IntervalSetIsSmallPinLaw" = true := by first | (simp [plainName, overriddenIn]; done) | decide +kernel
def own_exp (q1 : Int64) (q2 : Int64) : Int32 := (if (lcmpW q2 q1) < (0 : Int32) then (1 : Int32) else (if (0 : Int32) < (lcmpW q1 (9223372036854710272 : Int64)) then (1 : Int32) else (if (0 : Int32) < (lcmpW q2 (q1 + (65535 : Int64))) then (0 : Int32) else (1 : Int32))))
set_option maxRecDepth 65536 in
set_option maxHeartbeats 40000000 in
theorem own_m6 (l : Launch) (Z : State) (a0 : Array Value) (hw : ∀ d ∈ tables_1, d.before a0 Z = true) (ws : List Jvm.Cond) (q1 : Int64) (q2 : Int64) (h0 : Heap) (n0 : Nat) (Z0 : n0 ≤ h0.size) :
    MetFree l (⟨"com/example/witness/witness/value/IntervalSetIsSmallPinLaw", "expected", "(JJ)Z"⟩ : MethodName) (head1 (Jvm.Cond.code (⟨"com/example/witness/witness/value/IntervalSetIsSmallPinLaw", "expected", "(JJ)Z"⟩ : MethodName) method_3_code 4 (some .boolean) :: ws) ({ frames := 0, cells := 0, slots := 0, locals := 0 } : Room)) (fun a U => a = #[(.long q1), (.long q2)] ∧ Z.Warmed39 U.vm ∧ U.heap = h0) (fun _ _ _ _ _ => True) (fun _ U o U' => ∃ v L, o = .returned v ∧ own_Q (some (.int (own_exp q1 q2))) h0 n0 v U'.heap L ∧ FrameEnd U o U' L ({ frames := 0, cells := 0, slots := 0, locals := 0 } : Room).cells ({ frames := 0, cells := 0, slots := 0, locals := 0 } : Room).slots) := by
  refine MetFree.of_bodySF (plainFor_of_name own_pn6) hisR ?_
  intro p e s m args below meth c s₁ Bd hml0 hP hK
  obtain ⟨rfl, hZ, hh⟩ := hP
  have hx := Bd.exec
  have hby := Bd.bytes
  have hml : c.maxLocals = 4 := hml0
  have hown : s.vm.findClass "com/example/witness/witness/value/IntervalSetIsSmallPinLaw" = some m.cls := findClass_of_methodNamed Bd.named
  have hnm := (name_of_methodNamed Bd.named Bd.method).1
  have X0 : Stand p l e ({ frames := 0, cells := 0, slots := 0, locals := 0 } : Room) s m #[(.long q1), (.long q2)] below meth c s₁ [] 0 0 := Stand.of_body Bd
  have e0 : s₁.heap = h0 := by rw [← hh, Bd.state]; rfl
  have N0 := Fr.nil n0
  have k0 : own_To p.tables e below (s₁.setTop (entryFrame m #[(.long q1), (.long q2)] 4)) s₁ (mkF m 0 #[.val (.long q1), .second, .val (.long q2), .second] []) := fun t k => castTop (own_ef6 m q1 q2) k
  have k1 : own_To p.tables e below (s₁.setTop (entryFrame m #[(.long q1), (.long q2)] 4)) s₁ (mkF m 1 #[.val (.long q1), .second, .val (.long q2), .second] [(.long q2)]) := fun t k => k0 t (XS.lloadN X0.here hx rfl (hb hby own_d6_0) rfl k)
  have k2 : own_To p.tables e below (s₁.setTop (entryFrame m #[(.long q1), (.long q2)] 4)) s₁ (mkF m 2 #[.val (.long q1), .second, .val (.long q2), .second] [(.long q1), (.long q2)]) := fun t k => k1 t (XS.lloadN X0.here hx rfl (hb hby own_d6_1) rfl k)
  have k3 : own_To p.tables e below (s₁.setTop (entryFrame m #[(.long q1), (.long q2)] 4)) s₁ (mkF m 3 #[.val (.long q1), .second, .val (.long q2), .second] [(.int (lcmpW q2 q1))]) := fun t k => k2 t (XS.lcmp X0.here hx rfl (hb hby own_d6_2) rfl k)
  by_cases hc4 : (lcmpW q2 q1) < (0 : Int32)
  · have k5 : own_To p.tables e below (s₁.setTop (entryFrame m #[(.long q1), (.long q2)] 4)) s₁ (mkF m 6 #[.val (.long q1), .second, .val (.long q2), .second] []) := fun t k => k3 t (XS.ifNo X0.here hx rfl (hb hby own_d6_3) rfl ((if0 _ _).trans (tlt (show (lcmpW q2 q1) < (0 : Int32) from hc4)).2.1) k)
    have k6 : own_To p.tables e below (s₁.setTop (entryFrame m #[(.long q1), (.long q2)] 4)) s₁ (mkF m 7 #[.val (.long q1), .second, .val (.long q2), .second] [(.int (1 : Int32))]) := fun t k => k5 t (XS.iconst X0.here hx rfl (hb hby own_d6_6) k)
    obtain ⟨fs, hr, hrun, hended, hW, hsame⟩ := X0.leave (v := some (.int (1 : Int32))) (fun h => by rw [Bd.returns] at h; cases h)
    refine ⟨_, _, k6 _ ?_, hrun, hended, _, _, rfl, ?_, ⟨_, rfl⟩, hW, hsame.mono (by decide) (by decide)⟩
    · exact retN X0 hx (t := .boolean) Bd.returns (by simp) (hb hby own_d6_7) hr
    · refine ⟨?_, N0, e0⟩
      rw [show (own_exp q1 q2) = (1 : Int32) from by unfold own_exp; rw [if_pos hc4]]
  · have k7 : own_To p.tables e below (s₁.setTop (entryFrame m #[(.long q1), (.long q2)] 4)) s₁ (mkF m 8 #[.val (.long q1), .second, .val (.long q2), .second] []) := fun t k => k3 t (XS.ifYes X0.here hx rfl (pc0 := 3) (pc' := 8) rfl (hb hby own_d6_3) rfl ((if0 _ _).trans (flt (show ¬ ((lcmpW q2 q1) < (0 : Int32)) from hc4)).2.1) (by decide) (by decide) k)
    have k8 : own_To p.tables e below (s₁.setTop (entryFrame m #[(.long q1), (.long q2)] 4)) s₁ (mkF m 9 #[.val (.long q1), .second, .val (.long q2), .second] [(.long q1)]) := fun t k => k7 t (XS.lloadN X0.here hx rfl (hb hby own_d6_8) rfl k)
    have k9 : own_To p.tables e below (s₁.setTop (entryFrame m #[(.long q1), (.long q2)] 4)) s₁ (mkF m 12 #[.val (.long q1), .second, .val (.long q2), .second] [(.long (9223372036854710272 : Int64)), (.long q1)]) := fun t k => k8 t (X0.ldc2Long hx hown (mvT hZ (hw _ (List.mem_of_getElem? (i := 33) rfl))) (g := (mkF m 9 #[.val (.long q1), .second, .val (.long q2), .second] [(.long q1)])) rfl (hb hby own_d6_9) _ k)
    have k10 : own_To p.tables e below (s₁.setTop (entryFrame m #[(.long q1), (.long q2)] 4)) s₁ (mkF m 13 #[.val (.long q1), .second, .val (.long q2), .second] [(.int (lcmpW q1 (9223372036854710272 : Int64)))]) := fun t k => k9 t (XS.lcmp X0.here hx rfl (hb hby own_d6_12) rfl k)
    by_cases hc11 : (0 : Int32) < (lcmpW q1 (9223372036854710272 : Int64))
    · have k12 : own_To p.tables e below (s₁.setTop (entryFrame m #[(.long q1), (.long q2)] 4)) s₁ (mkF m 16 #[.val (.long q1), .second, .val (.long q2), .second] []) := fun t k => k10 t (XS.ifNo X0.here hx rfl (hb hby own_d6_13) rfl ((if0 _ _).trans (tlt (show (0 : Int32) < (lcmpW q1 (9223372036854710272 : Int64)) from hc11)).2.2.2) k)
      have k13 : own_To p.tables e below (s₁.setTop (entryFrame m #[(.long q1), (.long q2)] 4)) s₁ (mkF m 17 #[.val (.long q1), .second, .val (.long q2), .second] [(.int (1 : Int32))]) := fun t k => k12 t (XS.iconst X0.here hx rfl (hb hby own_d6_16) k)
      obtain ⟨fs, hr, hrun, hended, hW, hsame⟩ := X0.leave (v := some (.int (1 : Int32))) (fun h => by rw [Bd.returns] at h; cases h)
      refine ⟨_, _, k13 _ ?_, hrun, hended, _, _, rfl, ?_, ⟨_, rfl⟩, hW, hsame.mono (by decide) (by decide)⟩
      · exact retN X0 hx (t := .boolean) Bd.returns (by simp) (hb hby own_d6_17) hr
      · refine ⟨?_, N0, e0⟩
        rw [show (own_exp q1 q2) = (1 : Int32) from by unfold own_exp; rw [if_neg hc4, if_pos hc11]]
    · have k14 : own_To p.tables e below (s₁.setTop (entryFrame m #[(.long q1), (.long q2)] 4)) s₁ (mkF m 18 #[.val (.long q1), .second, .val (.long q2), .second] []) := fun t k => k10 t (XS.ifYes X0.here hx rfl (pc0 := 13) (pc' := 18) rfl (hb hby own_d6_13) rfl ((if0 _ _).trans (flt (show ¬ ((0 : Int32) < (lcmpW q1 (9223372036854710272 : Int64))) from hc11)).2.2.2) (by decide) (by decide) k)
      have k15 : own_To p.tables e below (s₁.setTop (entryFrame m #[(.long q1), (.long q2)] 4)) s₁ (mkF m 19 #[.val (.long q1), .second, .val (.long q2), .second] [(.long q2)]) := fun t k => k14 t (XS.lloadN X0.here hx rfl (hb hby own_d6_18) rfl k)
      have k16 : own_To p.tables e below (s₁.setTop (entryFrame m #[(.long q1), (.long q2)] 4)) s₁ (mkF m 20 #[.val (.long q1), .second, .val (.long q2), .second] [(.long q1), (.long q2)]) := fun t k => k15 t (XS.lloadN X0.here hx rfl (hb hby own_d6_19) rfl k)
      have k17 : own_To p.tables e below (s₁.setTop (entryFrame m #[(.long q1), (.long q2)] 4)) s₁ (mkF m 23 #[.val (.long q1), .second, .val (.long q2), .second] [(.long (65535 : Int64)), (.long q1), (.long q2)]) := fun t k => k16 t (X0.ldc2Long hx hown (mvT hZ (hw _ (List.mem_of_getElem? (i := 34) rfl))) (g := (mkF m 20 #[.val (.long q1), .second, .val (.long q2), .second] [(.long q1), (.long q2)])) rfl (hb hby own_d6_20) _ k)
      have k18 : own_To p.tables e below (s₁.setTop (entryFrame m #[(.long q1), (.long q2)] 4)) s₁ (mkF m 24 #[.val (.long q1), .second, .val (.long q2), .second] [(.long (q1 + (65535 : Int64))), (.long q2)]) := fun t k => k17 t (XS.ladd X0.here hx rfl (hb hby own_d6_23) rfl k)
      have k19 : own_To p.tables e below (s₁.setTop (entryFrame m #[(.long q1), (.long q2)] 4)) s₁ (mkF m 25 #[.val (.long q1), .second, .val (.long q2), .second] [(.int (lcmpW q2 (q1 + (65535 : Int64))))]) := fun t k => k18 t (XS.lcmp X0.here hx rfl (hb hby own_d6_24) rfl k)
      by_cases hc20 : (0 : Int32) < (lcmpW q2 (q1 + (65535 : Int64)))
      · have k21 : own_To p.tables e below (s₁.setTop (entryFrame m #[(.long q1), (.long q2)] 4)) s₁ (mkF m 32 #[.val (.long q1), .second, .val (.long q2), .second] []) := fun t k => k19 t (XS.ifYes X0.here hx rfl (pc0 := 25) (pc' := 32) rfl (hb hby own_d6_25) rfl ((if0 _ _).trans (tlt (show (0 : Int32) < (lcmpW q2 (q1 + (65535 : Int64))) from hc20)).2.2.1) (by decide) (by decide) k)
        have k22 : own_To p.tables e below (s₁.setTop (entryFrame m #[(.long q1), (.long q2)] 4)) s₁ (mkF m 33 #[.val (.long q1), .second, .val (.long q2), .second] [(.int (0 : Int32))]) := fun t k => k21 t (XS.iconst X0.here hx rfl (hb hby own_d6_32) k)
        obtain ⟨fs, hr, hrun, hended, hW, hsame⟩ := X0.leave (v := some (.int (0 : Int32))) (fun h => by rw [Bd.returns] at h; cases h)
        refine ⟨_, _, k22 _ ?_, hrun, hended, _, _, rfl, ?_, ⟨_, rfl⟩, hW, hsame.mono (by decide) (by decide)⟩
        · exact retN X0 hx (t := .boolean) Bd.returns (by simp) (hb hby own_d6_33) hr
        · refine ⟨?_, N0, e0⟩
          rw [show (own_exp q1 q2) = (0 : Int32) from by unfold own_exp; rw [if_neg hc4, if_neg hc11, if_pos hc20]]
      · have k23 : own_To p.tables e below (s₁.setTop (entryFrame m #[(.long q1), (.long q2)] 4)) s₁ (mkF m 28 #[.val (.long q1), .second, .val (.long q2), .second] []) := fun t k => k19 t (XS.ifNo X0.here hx rfl (hb hby own_d6_25) rfl ((if0 _ _).trans (flt (show ¬ ((0 : Int32) < (lcmpW q2 (q1 + (65535 : Int64)))) from hc20)).2.2.1) k)
        have k24 : own_To p.tables e below (s₁.setTop (entryFrame m #[(.long q1), (.long q2)] 4)) s₁ (mkF m 29 #[.val (.long q1), .second, .val (.long q2), .second] [(.int (1 : Int32))]) := fun t k => k23 t (XS.iconst X0.here hx rfl (hb hby own_d6_28) k)
        have k25 : own_To p.tables e below (s₁.setTop (entryFrame m #[(.long q1), (.long q2)] 4)) s₁ (mkF m 33 #[.val (.long q1), .second, .val (.long q2), .second] [(.int (1 : Int32))]) := fun t k => k24 t (XS.goto X0.here hx rfl (pc0 := 29) (pc' := 33) rfl (hb hby own_d6_29) (by decide) (by decide) k)
        obtain ⟨fs, hr, hrun, hended, hW, hsame⟩ := X0.leave (v := some (.int (1 : Int32))) (fun h => by rw [Bd.returns] at h; cases h)
        refine ⟨_, _, k25 _ ?_, hrun, hended, _, _, rfl, ?_, ⟨_, rfl⟩, hW, hsame.mono (by decide) (by decide)⟩
        · exact retN X0 hx (t := .boolean) Bd.returns (by simp) (hb hby own_d6_33) hr
        · refine ⟨?_, N0, e0⟩
          rw [show (own_exp q1 q2) = (1 : Int32) from by unfold own_exp; rw [if_neg hc4, if_neg hc11, if_neg hc20]]
theorem own_same (high low : Int64) : own_small high low = own_exp low high := by
  unfold own_small own_exp
  simp only [lw_lt, lw_gt, Int64.lt_iff_toInt_lt]
  have e0 : (0 : Int64).toInt = 0 := rfl
  have e1 : (65536 : Int64).toInt = 65536 := by decide
  have e2 : (9223372036854710272 : Int64).toInt = 9223372036854710272 := by decide
  have e3 : (65535 : Int64).toInt = 65535 := by decide
  have a1 := c_ladd low (65535 : Int64)
  have a2 := c_lsub high low
  have r1 := rng64 low
  have r2 := rng64 high
  have r3 := rng64 (low + (65535 : Int64))
  have r4 := rng64 (high - low)
  repeat' split
  all_goals first | rfl | (exfalso; omega)
theorem own_pd1 : parseMethodDescriptor "(JJ)V" = some ⟨[.long, .long], none⟩ := by decide +kernel
theorem own_pd2 : parseMethodDescriptor "()Z" = some ⟨[], some .boolean⟩ := by decide +kernel
theorem own_pd3 : parseMethodDescriptor "(JJ)Z" = some ⟨[.long, .long], some .boolean⟩ := by decide +kernel
theorem own_ef0 (m : MethodId) (x0 : Int64) (x1 : Int64) (x2 : Int64) (x3 : Int32) : entryFrame m #[(.long x0), (.long x1), (.long x2), (.int x3)] maxLocals = mkF m 0 #[.val (.long x0), .second, .val (.long x1), .second, .val (.long x2), .second, .val (.int x3), .unset, .unset, .unset, .unset, .unset, .unset] [] := by first | (simp [entryFrame, mkF, argsToLocals, Value.category, maxLocals]; done) | rfl
theorem own_pn0 : plainName "com/example/witness/witness/value/IntervalSetIsSmallPinLaw" = true := by first | (simp [plainName, overriddenIn]; done) | decide +kernel
def own_Q0 (n0 : Nat) (v : Option Value) (L : List Loc) : Prop := v = some (.int (1 : Int32)) ∧ Fr n0 L
set_option maxRecDepth 65536 in
set_option maxHeartbeats 40000000 in
theorem own_m0 (l : Launch) (Z : State) (a0 : Array Value) (hw : ∀ d ∈ tables_1, d.before a0 Z = true) (ws : List Jvm.Cond) (q1 : Int64) (q2 : Int64) (q3 : Int64) (p4 : Int32) (h0 : Heap) (n0 : Nat) (Z0 : n0 ≤ h0.size) :
    MetFree l x (head1 (Jvm.Cond.code x code maxLocals ret :: ws) room_1) (fun a U => a = #[(.long q1), (.long q2), (.long q3), (.int p4)] ∧ Z.Warmed39 U.vm ∧ U.heap = h0) (fun _ _ _ _ _ => True) (fun _ U o U' => ∃ v L, o = .returned v ∧ own_Q0 n0 v L ∧ FrameEnd U o U' L room_1.cells room_1.slots) := by
  refine MetFree.of_bodySF (plainFor_of_name own_pn0) hisR ?_
  intro p e s m args below meth c s₁ Bd hml0 hP hK
  obtain ⟨rfl, hZ, hh⟩ := hP
  have hx := Bd.exec
  have hby := Bd.bytes
  have hml : c.maxLocals = 13 := hml0
  have hown : s.vm.findClass "com/example/witness/witness/value/IntervalSetIsSmallPinLaw" = some m.cls := findClass_of_methodNamed Bd.named
  have hnm := (name_of_methodNamed Bd.named Bd.method).1
  have X0 : Stand p l e room_1 s m #[(.long q1), (.long q2), (.long q3), (.int p4)] below meth c s₁ [] 0 0 := Stand.of_body Bd
  have e0 : s₁.heap = h0 := by rw [← hh, Bd.state]; rfl
  have N0 := Fr.nil n0
  have k0 : own_To p.tables e below (s₁.setTop (entryFrame m #[(.long q1), (.long q2), (.long q3), (.int p4)] maxLocals)) s₁ (mkF m 0 #[.val (.long q1), .second, .val (.long q2), .second, .val (.long q3), .second, .val (.int p4), .unset, .unset, .unset, .unset, .unset, .unset] []) := fun t k => castTop (own_ef0 m q1 q2 q3 p4) k
  have k1 : own_To p.tables e below (s₁.setTop (entryFrame m #[(.long q1), (.long q2), (.long q3), (.int p4)] maxLocals)) s₁ (mkF m 1 #[.val (.long q1), .second, .val (.long q2), .second, .val (.long q3), .second, .val (.int p4), .unset, .unset, .unset, .unset, .unset, .unset] [(.long q1)]) := fun t k => k0 t (XS.lloadN X0.here hx rfl (hb hby at_0) rfl k)
  have k2 : own_To p.tables e below (s₁.setTop (entryFrame m #[(.long q1), (.long q2), (.long q3), (.int p4)] maxLocals)) s₁ (mkF m 3 #[.val (.long q1), .second, .val (.long q2), .second, .val (.long q3), .second, .val (.int p4), .val (.long q1), .second, .unset, .unset, .unset, .unset] []) := fun t k => k1 t (XS.lstore X0.here hx rfl (hb hby at_1) rfl (l' := #[.val (.long q1), .second, .val (.long q2), .second, .val (.long q3), .second, .val (.int p4), .val (.long q1), .second, .unset, .unset, .unset, .unset]) rfl k)
  have k3 : own_To p.tables e below (s₁.setTop (entryFrame m #[(.long q1), (.long q2), (.long q3), (.int p4)] maxLocals)) s₁ (mkF m 4 #[.val (.long q1), .second, .val (.long q2), .second, .val (.long q3), .second, .val (.int p4), .val (.long q1), .second, .unset, .unset, .unset, .unset] [(.long q2)]) := fun t k => k2 t (XS.lloadN X0.here hx rfl (hb hby at_3) rfl k)
  have k4 : own_To p.tables e below (s₁.setTop (entryFrame m #[(.long q1), (.long q2), (.long q3), (.int p4)] maxLocals)) s₁ (mkF m 6 #[.val (.long q1), .second, .val (.long q2), .second, .val (.long q3), .second, .val (.int p4), .val (.long q1), .second, .val (.long q2), .second, .unset, .unset] []) := fun t k => k3 t (XS.lstore X0.here hx rfl (hb hby at_4) rfl (l' := #[.val (.long q1), .second, .val (.long q2), .second, .val (.long q3), .second, .val (.int p4), .val (.long q1), .second, .val (.long q2), .second, .unset, .unset]) rfl k)
  have k5 : own_To p.tables e below (s₁.setTop (entryFrame m #[(.long q1), (.long q2), (.long q3), (.int p4)] maxLocals)) s₁ (mkF m 8 #[.val (.long q1), .second, .val (.long q2), .second, .val (.long q3), .second, .val (.int p4), .val (.long q1), .second, .val (.long q2), .second, .unset, .unset] [(.int p4)]) := fun t k => k4 t (XS.iload X0.here hx rfl (hb hby at_6) rfl k)
  have k6 : own_To p.tables e below (s₁.setTop (entryFrame m #[(.long q1), (.long q2), (.long q3), (.int p4)] maxLocals)) s₁ (mkF m 9 #[.val (.long q1), .second, .val (.long q2), .second, .val (.long q3), .second, .val (.int p4), .val (.long q1), .second, .val (.long q2), .second, .unset, .unset] [(.int (1 : Int32)), (.int p4)]) := fun t k => k5 t (XS.iconst X0.here hx rfl (hb hby at_8) k)
  have k7 : own_To p.tables e below (s₁.setTop (entryFrame m #[(.long q1), (.long q2), (.long q3), (.int p4)] maxLocals)) s₁ (mkF m 10 #[.val (.long q1), .second, .val (.long q2), .second, .val (.long q3), .second, .val (.int p4), .val (.long q1), .second, .val (.long q2), .second, .unset, .unset] [(.int (p4 &&& (1 : Int32)))]) := fun t k => k6 t (XS.iand X0.here hx rfl (hb hby at_9) rfl k)
  by_cases hc8 : (p4 &&& (1 : Int32)) = (0 : Int32)
  · have k9 : own_To p.tables e below (s₁.setTop (entryFrame m #[(.long q1), (.long q2), (.long q3), (.int p4)] maxLocals)) s₁ (mkF m 23 #[.val (.long q1), .second, .val (.long q2), .second, .val (.long q3), .second, .val (.int p4), .val (.long q1), .second, .val (.long q2), .second, .unset, .unset] []) := fun t k => k7 t (XS.ifYes X0.here hx rfl (pc0 := 10) (pc' := 23) rfl (hb hby at_10) rfl ((if0 _ _).trans (teq (show (p4 &&& (1 : Int32)) = (0 : Int32) from hc8)).1) (by decide) (by decide) k)
    obtain ⟨T10, h10, X10, e10, E10, A10, D10, -, st10⟩ := newO X0 hx hZ hown (hw _ (List.mem_of_getElem? (i := 0) rfl)) (hw _ (List.mem_of_getElem? (i := 1) rfl)) (hw _ (List.mem_of_getElem? (i := 2) rfl)) e0 (g := (mkF m 23 #[.val (.long q1), .second, .val (.long q2), .second, .val (.long q3), .second, .val (.int p4), .val (.long q1), .second, .val (.long q2), .second, .unset, .unset] [])) rfl (hb hby at_23) (by decide) (by decide)
    obtain ⟨b10, g10⟩ : ∃ z, z = h0.size := ⟨_, rfl⟩
    rw [← g10] at A10 D10 st10
    have ge_b10 : n0 ≤ b10 := Nat.le_trans Z0 (Nat.le_of_eq g10.symm)
    have sz_b10 : h0.size ≤ b10 := Nat.le_trans (Keep.refl h0 []).1 (Nat.le_of_eq g10.symm)
    have Z10 : n0 ≤ h10.size := Nat.le_trans Z0 E10.1
    have K10 : Keep h0 h10 [] := (Keep.refl h0 []).ext E10
    have F_low_b10 : Fld Z h10 b10 "com/example/witness/witness/value/IntervalSet" "low" "J" (.long (0 : Int64)) := D10 (Or.inr (hw _ (List.mem_of_getElem? (i := 20) rfl))) (ty := .long) (by decide)
    have F_high_b10 : Fld Z h10 b10 "com/example/witness/witness/value/IntervalSet" "high" "J" (.long (0 : Int64)) := D10 (Or.inr (hw _ (List.mem_of_getElem? (i := 22) rfl))) (ty := .long) (by decide)
    have k11 : own_To p.tables e below (s₁.setTop (entryFrame m #[(.long q1), (.long q2), (.long q3), (.int p4)] maxLocals)) T10 (mkF m 26 #[.val (.long q1), .second, .val (.long q2), .second, .val (.long q3), .second, .val (.int p4), .val (.long q1), .second, .val (.long q2), .second, .unset, .unset] [(.ref b10)]) := fun t k => k9 t (st10 t k)
    have k12 : own_To p.tables e below (s₁.setTop (entryFrame m #[(.long q1), (.long q2), (.long q3), (.int p4)] maxLocals)) T10 (mkF m 27 #[.val (.long q1), .second, .val (.long q2), .second, .val (.long q3), .second, .val (.int p4), .val (.long q1), .second, .val (.long q2), .second, .unset, .unset] [(.ref b10), (.ref b10)]) := fun t k => k11 t (XS.dup X10.here hx rfl (hb hby at_26) rfl rfl k)
    have k13 : own_To p.tables e below (s₁.setTop (entryFrame m #[(.long q1), (.long q2), (.long q3), (.int p4)] maxLocals)) T10 (mkF m 29 #[.val (.long q1), .second, .val (.long q2), .second, .val (.long q3), .second, .val (.int p4), .val (.long q1), .second, .val (.long q2), .second, .unset, .unset] [(.long q1), (.ref b10), (.ref b10)]) := fun t k => k12 t (XS.lload X10.here hx rfl (hb hby at_27) rfl k)
    have k14 : own_To p.tables e below (s₁.setTop (entryFrame m #[(.long q1), (.long q2), (.long q3), (.int p4)] maxLocals)) T10 (mkF m 31 #[.val (.long q1), .second, .val (.long q2), .second, .val (.long q3), .second, .val (.int p4), .val (.long q1), .second, .val (.long q2), .second, .unset, .unset] [(.long q2), (.long q1), (.ref b10), (.ref b10)]) := fun t k => k13 t (XS.lload X10.here hx rfl (hb hby at_29) rfl k)
    obtain ⟨_, _, ⟨T15, L15, k15, n15⟩, -, X15, ⟨Lc15, hQ15, l15, y15, z15⟩, st15⟩ := X10.specialBack hx (y := (⟨"com/example/witness/witness/value/IntervalSet", "<init>", "(JJ)V"⟩ : MethodName)) rfl hown (mvT hZ (hw _ (List.mem_of_getElem? (i := 3) rfl))) (mvT hZ (hw _ (List.mem_of_getElem? (i := 4) rfl))) (mvT hZ (hw _ (List.mem_of_getElem? (i := 5) rfl))) (by decide) (backOf (W := 1) (own_m1 l Z a0 hw [] b10 q1 q2 (.long (0 : Int64)) (.long (0 : Int64)) h10 n0 Z10 A10 F_low_b10 ge_b10 F_high_b10) hZ (hw _ (List.mem_of_getElem? (i := 5) rfl)) (hw _ (List.mem_of_getElem? (i := 2) rfl)) (by decide) (by decide)) (g := (mkF m 31 #[.val (.long q1), .second, .val (.long q2), .second, .val (.long q3), .second, .val (.int p4), .val (.long q1), .second, .val (.long q2), .second, .unset, .unset] [(.long q2), (.long q1), (.ref b10), (.ref b10)])) rfl (by rw [hml]; rfl) (Steps.refl _) (a := b10) (argsL := [(.long q1), (.long q2)]) (rest := [(.ref b10)]) (lenOf own_pd1 rfl) rfl (by show 2 * 0 + _ ≤ _; exact Nat.le_of_eq rfl) (hb hby at_31) (fun _ _ => ⟨rfl, e10, (by decide : 1 + 0 ≤ _), (by decide : 3 + 0 ≤ _)⟩)
    dsimp only [Pt.U, Pt.locs, Pt.cells, Pt.slots] at X15 l15 y15 z15 st15 hQ15
    subst l15 y15 z15
    obtain ⟨h15, e15⟩ : ∃ z, T15.heap = z := ⟨_, rfl⟩
    rw [e15] at hQ15
    obtain ⟨rfl, N15q, KC15, EC15_0, FC15_0, FC15_1⟩ := hQ15
    have KK15 : Keep h0 h15 [] := K10.trans KC15 (allS (Or.inr sz_b10) all0)
    have Z15 : n0 ≤ h15.size := Nat.le_trans Z10 KC15.1
    have N15 := Fr.app N0 N15q
    have k16 : own_To p.tables e below (s₁.setTop (entryFrame m #[(.long q1), (.long q2), (.long q3), (.int p4)] maxLocals)) T15 (mkF m 34 #[.val (.long q1), .second, .val (.long q2), .second, .val (.long q3), .second, .val (.int p4), .val (.long q1), .second, .val (.long q2), .second, .unset, .unset] [(.ref b10)]) := fun t k => k14 t (st15.trans k)
    have k17 : own_To p.tables e below (s₁.setTop (entryFrame m #[(.long q1), (.long q2), (.long q3), (.int p4)] maxLocals)) T15 (mkF m 36 #[.val (.long q1), .second, .val (.long q2), .second, .val (.long q3), .second, .val (.int p4), .val (.long q1), .second, .val (.long q2), .second, .val (.ref b10), .unset] []) := fun t k => k16 t (XS.astore X15.here hx rfl (hb hby at_34) rfl rfl (l' := #[.val (.long q1), .second, .val (.long q2), .second, .val (.long q3), .second, .val (.int p4), .val (.long q1), .second, .val (.long q2), .second, .val (.ref b10), .unset]) rfl k)
    have k18 : own_To p.tables e below (s₁.setTop (entryFrame m #[(.long q1), (.long q2), (.long q3), (.int p4)] maxLocals)) T15 (mkF m 38 #[.val (.long q1), .second, .val (.long q2), .second, .val (.long q3), .second, .val (.int p4), .val (.long q1), .second, .val (.long q2), .second, .val (.ref b10), .unset] [(.ref b10)]) := fun t k => k17 t (XS.aload X15.here hx rfl (hb hby at_36) rfl rfl k)
    obtain ⟨cq19, kq19, q19a, q19b, q19c⟩ := isOf hZ e15 EC15_0
    obtain ⟨_, _, ⟨T19, L19, k19, n19⟩, -, X19, ⟨Lc19, hQ19, l19, y19, z19⟩, st19⟩ := X15.virtualBack hx (y := (⟨"com/example/witness/witness/value/IntervalSet", "isSmall", "()Z"⟩ : MethodName)) (z := (⟨"com/example/witness/witness/value/IntervalSet", "isSmall", "()Z"⟩ : MethodName)) hown (mvT hZ (hw _ (List.mem_of_getElem? (i := 23) rfl))) (mvT hZ (hw _ (List.mem_of_getElem? (i := 24) rfl))) (notFace_of_selects (args := #[]) (mvT hZ (hw _ (List.mem_of_getElem? (i := 26) rfl)))) (mvT hZ (hw _ (List.mem_of_getElem? (i := 26) rfl))) (mvT hZ (hw _ (List.mem_of_getElem? (i := 25) rfl))) (by decide) (backOf (W := 0) (own_m5 l Z a0 hw [] b10 q2 q1 h15 n0 Z15 FC15_1 FC15_0) hZ (hw _ (List.mem_of_getElem? (i := 27) rfl)) (hw _ (List.mem_of_getElem? (i := 2) rfl)) (by decide) (by decide)) q19a q19c (g := (mkF m 38 #[.val (.long q1), .second, .val (.long q2), .second, .val (.long q3), .second, .val (.int p4), .val (.long q1), .second, .val (.long q2), .second, .val (.ref b10), .unset] [(.ref b10)])) rfl (by rw [hml]; rfl) (Steps.refl _) (argsL := []) (rest := []) (lenOf own_pd2 rfl) rfl (by show 2 * 0 + _ ≤ _; exact Nat.le_of_eq rfl) (hb hby at_38) (fun _ _ => ⟨rfl, e15, (by decide : 1 + 0 ≤ _), (by decide : 3 + 0 ≤ _)⟩)
    dsimp only [Pt.U, Pt.locs, Pt.cells, Pt.slots] at X19 l19 y19 z19 st19 hQ19
    subst l19 y19 z19
    obtain ⟨rfl, N19q, e19⟩ := hQ19
    have N19 := Fr.app N15 N19q
    have k20 : own_To p.tables e below (s₁.setTop (entryFrame m #[(.long q1), (.long q2), (.long q3), (.int p4)] maxLocals)) T19 (mkF m 41 #[.val (.long q1), .second, .val (.long q2), .second, .val (.long q3), .second, .val (.int p4), .val (.long q1), .second, .val (.long q2), .second, .val (.ref b10), .unset] [(.int (own_small q2 q1))]) := fun t k => k18 t (st19.trans k)
    have k21 : own_To p.tables e below (s₁.setTop (entryFrame m #[(.long q1), (.long q2), (.long q3), (.int p4)] maxLocals)) T19 (mkF m 43 #[.val (.long q1), .second, .val (.long q2), .second, .val (.long q3), .second, .val (.int p4), .val (.long q1), .second, .val (.long q2), .second, .val (.ref b10), .val (.int (own_small q2 q1))] []) := fun t k => k20 t (XS.istore X19.here hx rfl (hb hby at_41) rfl (l' := #[.val (.long q1), .second, .val (.long q2), .second, .val (.long q3), .second, .val (.int p4), .val (.long q1), .second, .val (.long q2), .second, .val (.ref b10), .val (.int (own_small q2 q1))]) rfl k)
    have k22 : own_To p.tables e below (s₁.setTop (entryFrame m #[(.long q1), (.long q2), (.long q3), (.int p4)] maxLocals)) T19 (mkF m 45 #[.val (.long q1), .second, .val (.long q2), .second, .val (.long q3), .second, .val (.int p4), .val (.long q1), .second, .val (.long q2), .second, .val (.ref b10), .val (.int (own_small q2 q1))] [(.int (own_small q2 q1))]) := fun t k => k21 t (XS.iload X19.here hx rfl (hb hby at_43) rfl k)
    have k23 : own_To p.tables e below (s₁.setTop (entryFrame m #[(.long q1), (.long q2), (.long q3), (.int p4)] maxLocals)) T19 (mkF m 47 #[.val (.long q1), .second, .val (.long q2), .second, .val (.long q3), .second, .val (.int p4), .val (.long q1), .second, .val (.long q2), .second, .val (.ref b10), .val (.int (own_small q2 q1))] [(.long q1), (.int (own_small q2 q1))]) := fun t k => k22 t (XS.lload X19.here hx rfl (hb hby at_45) rfl k)
    have k24 : own_To p.tables e below (s₁.setTop (entryFrame m #[(.long q1), (.long q2), (.long q3), (.int p4)] maxLocals)) T19 (mkF m 49 #[.val (.long q1), .second, .val (.long q2), .second, .val (.long q3), .second, .val (.int p4), .val (.long q1), .second, .val (.long q2), .second, .val (.ref b10), .val (.int (own_small q2 q1))] [(.long q2), (.long q1), (.int (own_small q2 q1))]) := fun t k => k23 t (XS.lload X19.here hx rfl (hb hby at_47) rfl k)
    obtain ⟨_, _, ⟨T25, L25, k25, n25⟩, -, X25, ⟨Lc25, hQ25, l25, y25, z25⟩, st25⟩ := Jvm.LawKit.callS X19 hx (y := (⟨"com/example/witness/witness/value/IntervalSetIsSmallPinLaw", "expected", "(JJ)Z"⟩ : MethodName)) hown (mvT hZ (hw _ (List.mem_of_getElem? (i := 28) rfl))) (mvT hZ (hw _ (List.mem_of_getElem? (i := 29) rfl))) (mvT hZ (hw _ (List.mem_of_getElem? (i := 30) rfl))) (mvT hZ (hw _ (List.mem_of_getElem? (i := 31) rfl))) (by decide) (backOf (W := 1) (own_m6 l Z a0 hw [] q1 q2 h15 n0 Z15 ) hZ (hw _ (List.mem_of_getElem? (i := 31) rfl)) (hw _ (List.mem_of_getElem? (i := 30) rfl)) (by decide) (by decide)) (g := (mkF m 49 #[.val (.long q1), .second, .val (.long q2), .second, .val (.long q3), .second, .val (.int p4), .val (.long q1), .second, .val (.long q2), .second, .val (.ref b10), .val (.int (own_small q2 q1))] [(.long q2), (.long q1), (.int (own_small q2 q1))])) rfl (by rw [hml]; rfl) (argsL := [(.long q1), (.long q2)]) (rest := [(.int (own_small q2 q1))]) (lenOf own_pd3 rfl) rfl (by show 2 * 0 + _ ≤ _; exact Nat.le_of_eq rfl) (hb hby at_49) (fun _ _ => ⟨rfl, e19, (by decide : 1 + 0 ≤ _), (by decide : 3 + 0 ≤ _)⟩)
    dsimp only [Pt.U, Pt.locs, Pt.cells, Pt.slots] at X25 l25 y25 z25 st25 hQ25
    subst l25 y25 z25
    obtain ⟨rfl, N25q, e25⟩ := hQ25
    have N25 := Fr.app N19 N25q
    have k26 : own_To p.tables e below (s₁.setTop (entryFrame m #[(.long q1), (.long q2), (.long q3), (.int p4)] maxLocals)) T25 (mkF m 52 #[.val (.long q1), .second, .val (.long q2), .second, .val (.long q3), .second, .val (.int p4), .val (.long q1), .second, .val (.long q2), .second, .val (.ref b10), .val (.int (own_small q2 q1))] [(.int (own_exp q1 q2)), (.int (own_small q2 q1))]) := fun t k => k24 t (st25 t k)
    have k27 : own_To p.tables e below (s₁.setTop (entryFrame m #[(.long q1), (.long q2), (.long q3), (.int p4)] maxLocals)) T25 (mkF m 55 #[.val (.long q1), .second, .val (.long q2), .second, .val (.long q3), .second, .val (.int p4), .val (.long q1), .second, .val (.long q2), .second, .val (.ref b10), .val (.int (own_small q2 q1))] []) := fun t k => k26 t (XS.icmpNo X25.here hx rfl (hb hby at_52) rfl (teq (show (own_small q2 q1) = (own_exp q1 q2) from (own_same _ _))).2 k)
    have k28 : own_To p.tables e below (s₁.setTop (entryFrame m #[(.long q1), (.long q2), (.long q3), (.int p4)] maxLocals)) T25 (mkF m 56 #[.val (.long q1), .second, .val (.long q2), .second, .val (.long q3), .second, .val (.int p4), .val (.long q1), .second, .val (.long q2), .second, .val (.ref b10), .val (.int (own_small q2 q1))] [(.int (1 : Int32))]) := fun t k => k27 t (XS.iconst X25.here hx rfl (hb hby at_55) k)
    have k29 : own_To p.tables e below (s₁.setTop (entryFrame m #[(.long q1), (.long q2), (.long q3), (.int p4)] maxLocals)) T25 (mkF m 60 #[.val (.long q1), .second, .val (.long q2), .second, .val (.long q3), .second, .val (.int p4), .val (.long q1), .second, .val (.long q2), .second, .val (.ref b10), .val (.int (own_small q2 q1))] [(.int (1 : Int32))]) := fun t k => k28 t (XS.goto X25.here hx rfl (pc0 := 56) (pc' := 60) rfl (hb hby at_56) (by decide) (by decide) k)
    obtain ⟨fs, hr, hrun, hended, hW, hsame⟩ := X25.leave (v := some (.int (1 : Int32))) (fun h => by rw [Bd.returns] at h; cases h)
    refine ⟨_, _, k29 _ ?_, hrun, hended, _, _, rfl, ?_, ⟨_, rfl⟩, hW, hsame.mono (by decide) (by decide)⟩
    · exact retN X25 hx (t := .boolean) Bd.returns (by simp) (hb hby at_60) hr
    · exact ⟨rfl, N25⟩
  · have k30 : own_To p.tables e below (s₁.setTop (entryFrame m #[(.long q1), (.long q2), (.long q3), (.int p4)] maxLocals)) s₁ (mkF m 13 #[.val (.long q1), .second, .val (.long q2), .second, .val (.long q3), .second, .val (.int p4), .val (.long q1), .second, .val (.long q2), .second, .unset, .unset] []) := fun t k => k7 t (XS.ifNo X0.here hx rfl (hb hby at_10) rfl ((if0 _ _).trans (feq (show ¬ ((p4 &&& (1 : Int32)) = (0 : Int32)) from hc8)).1) k)
    have k31 : own_To p.tables e below (s₁.setTop (entryFrame m #[(.long q1), (.long q2), (.long q3), (.int p4)] maxLocals)) s₁ (mkF m 14 #[.val (.long q1), .second, .val (.long q2), .second, .val (.long q3), .second, .val (.int p4), .val (.long q1), .second, .val (.long q2), .second, .unset, .unset] [(.long q1)]) := fun t k => k30 t (XS.lloadN X0.here hx rfl (hb hby at_13) rfl k)
    have k32 : own_To p.tables e below (s₁.setTop (entryFrame m #[(.long q1), (.long q2), (.long q3), (.int p4)] maxLocals)) s₁ (mkF m 16 #[.val (.long q1), .second, .val (.long q2), .second, .val (.long q3), .second, .val (.int p4), .val (.long q1), .second, .val (.long q2), .second, .unset, .unset] [(.long q3), (.long q1)]) := fun t k => k31 t (XS.lload X0.here hx rfl (hb hby at_14) rfl k)
    have k33 : own_To p.tables e below (s₁.setTop (entryFrame m #[(.long q1), (.long q2), (.long q3), (.int p4)] maxLocals)) s₁ (mkF m 19 #[.val (.long q1), .second, .val (.long q2), .second, .val (.long q3), .second, .val (.int p4), .val (.long q1), .second, .val (.long q2), .second, .unset, .unset] [(.long (140000 : Int64)), (.long q3), (.long q1)]) := fun t k => k32 t (X0.ldc2Long hx hown (mvT hZ (hw _ (List.mem_of_getElem? (i := 35) rfl))) (g := (mkF m 16 #[.val (.long q1), .second, .val (.long q2), .second, .val (.long q3), .second, .val (.int p4), .val (.long q1), .second, .val (.long q2), .second, .unset, .unset] [(.long q3), (.long q1)])) rfl (hb hby at_16) _ k)
    have k34 : own_To p.tables e below (s₁.setTop (entryFrame m #[(.long q1), (.long q2), (.long q3), (.int p4)] maxLocals)) s₁ (mkF m 20 #[.val (.long q1), .second, .val (.long q2), .second, .val (.long q3), .second, .val (.int p4), .val (.long q1), .second, .val (.long q2), .second, .unset, .unset] [(.long (q3 - (q3 / (140000 : Int64)) * (140000 : Int64))), (.long q1)]) := fun t k => k33 t (XS.lrem X0.here hx rfl (hb hby at_19) rfl (by decide) k)
    have k35 : own_To p.tables e below (s₁.setTop (entryFrame m #[(.long q1), (.long q2), (.long q3), (.int p4)] maxLocals)) s₁ (mkF m 21 #[.val (.long q1), .second, .val (.long q2), .second, .val (.long q3), .second, .val (.int p4), .val (.long q1), .second, .val (.long q2), .second, .unset, .unset] [(.long (q1 + (q3 - (q3 / (140000 : Int64)) * (140000 : Int64))))]) := fun t k => k34 t (XS.ladd X0.here hx rfl (hb hby at_20) rfl k)
    have k36 : own_To p.tables e below (s₁.setTop (entryFrame m #[(.long q1), (.long q2), (.long q3), (.int p4)] maxLocals)) s₁ (mkF m 23 #[.val (.long q1), .second, .val (.long q2), .second, .val (.long q3), .second, .val (.int p4), .val (.long q1), .second, .val (.long (q1 + (q3 - (q3 / (140000 : Int64)) * (140000 : Int64)))), .second, .unset, .unset] []) := fun t k => k35 t (XS.lstore X0.here hx rfl (hb hby at_21) rfl (l' := #[.val (.long q1), .second, .val (.long q2), .second, .val (.long q3), .second, .val (.int p4), .val (.long q1), .second, .val (.long (q1 + (q3 - (q3 / (140000 : Int64)) * (140000 : Int64)))), .second, .unset, .unset]) rfl k)
    obtain ⟨T37, h37, X37, e37, E37, A37, D37, -, st37⟩ := newO X0 hx hZ hown (hw _ (List.mem_of_getElem? (i := 0) rfl)) (hw _ (List.mem_of_getElem? (i := 1) rfl)) (hw _ (List.mem_of_getElem? (i := 2) rfl)) e0 (g := (mkF m 23 #[.val (.long q1), .second, .val (.long q2), .second, .val (.long q3), .second, .val (.int p4), .val (.long q1), .second, .val (.long (q1 + (q3 - (q3 / (140000 : Int64)) * (140000 : Int64)))), .second, .unset, .unset] [])) rfl (hb hby at_23) (by decide) (by decide)
    obtain ⟨b37, g37⟩ : ∃ z, z = h0.size := ⟨_, rfl⟩
    rw [← g37] at A37 D37 st37
    have ge_b37 : n0 ≤ b37 := Nat.le_trans Z0 (Nat.le_of_eq g37.symm)
    have sz_b37 : h0.size ≤ b37 := Nat.le_trans (Keep.refl h0 []).1 (Nat.le_of_eq g37.symm)
    have Z37 : n0 ≤ h37.size := Nat.le_trans Z0 E37.1
    have K37 : Keep h0 h37 [] := (Keep.refl h0 []).ext E37
    have F_low_b37 : Fld Z h37 b37 "com/example/witness/witness/value/IntervalSet" "low" "J" (.long (0 : Int64)) := D37 (Or.inr (hw _ (List.mem_of_getElem? (i := 20) rfl))) (ty := .long) (by decide)
    have F_high_b37 : Fld Z h37 b37 "com/example/witness/witness/value/IntervalSet" "high" "J" (.long (0 : Int64)) := D37 (Or.inr (hw _ (List.mem_of_getElem? (i := 22) rfl))) (ty := .long) (by decide)
    have k38 : own_To p.tables e below (s₁.setTop (entryFrame m #[(.long q1), (.long q2), (.long q3), (.int p4)] maxLocals)) T37 (mkF m 26 #[.val (.long q1), .second, .val (.long q2), .second, .val (.long q3), .second, .val (.int p4), .val (.long q1), .second, .val (.long (q1 + (q3 - (q3 / (140000 : Int64)) * (140000 : Int64)))), .second, .unset, .unset] [(.ref b37)]) := fun t k => k36 t (st37 t k)
    have k39 : own_To p.tables e below (s₁.setTop (entryFrame m #[(.long q1), (.long q2), (.long q3), (.int p4)] maxLocals)) T37 (mkF m 27 #[.val (.long q1), .second, .val (.long q2), .second, .val (.long q3), .second, .val (.int p4), .val (.long q1), .second, .val (.long (q1 + (q3 - (q3 / (140000 : Int64)) * (140000 : Int64)))), .second, .unset, .unset] [(.ref b37), (.ref b37)]) := fun t k => k38 t (XS.dup X37.here hx rfl (hb hby at_26) rfl rfl k)
    have k40 : own_To p.tables e below (s₁.setTop (entryFrame m #[(.long q1), (.long q2), (.long q3), (.int p4)] maxLocals)) T37 (mkF m 29 #[.val (.long q1), .second, .val (.long q2), .second, .val (.long q3), .second, .val (.int p4), .val (.long q1), .second, .val (.long (q1 + (q3 - (q3 / (140000 : Int64)) * (140000 : Int64)))), .second, .unset, .unset] [(.long q1), (.ref b37), (.ref b37)]) := fun t k => k39 t (XS.lload X37.here hx rfl (hb hby at_27) rfl k)
    have k41 : own_To p.tables e below (s₁.setTop (entryFrame m #[(.long q1), (.long q2), (.long q3), (.int p4)] maxLocals)) T37 (mkF m 31 #[.val (.long q1), .second, .val (.long q2), .second, .val (.long q3), .second, .val (.int p4), .val (.long q1), .second, .val (.long (q1 + (q3 - (q3 / (140000 : Int64)) * (140000 : Int64)))), .second, .unset, .unset] [(.long (q1 + (q3 - (q3 / (140000 : Int64)) * (140000 : Int64)))), (.long q1), (.ref b37), (.ref b37)]) := fun t k => k40 t (XS.lload X37.here hx rfl (hb hby at_29) rfl k)
    obtain ⟨_, _, ⟨T42, L42, k42, n42⟩, -, X42, ⟨Lc42, hQ42, l42, y42, z42⟩, st42⟩ := X37.specialBack hx (y := (⟨"com/example/witness/witness/value/IntervalSet", "<init>", "(JJ)V"⟩ : MethodName)) rfl hown (mvT hZ (hw _ (List.mem_of_getElem? (i := 3) rfl))) (mvT hZ (hw _ (List.mem_of_getElem? (i := 4) rfl))) (mvT hZ (hw _ (List.mem_of_getElem? (i := 5) rfl))) (by decide) (backOf (W := 1) (own_m1 l Z a0 hw [] b37 q1 (q1 + (q3 - (q3 / (140000 : Int64)) * (140000 : Int64))) (.long (0 : Int64)) (.long (0 : Int64)) h37 n0 Z37 A37 F_low_b37 ge_b37 F_high_b37) hZ (hw _ (List.mem_of_getElem? (i := 5) rfl)) (hw _ (List.mem_of_getElem? (i := 2) rfl)) (by decide) (by decide)) (g := (mkF m 31 #[.val (.long q1), .second, .val (.long q2), .second, .val (.long q3), .second, .val (.int p4), .val (.long q1), .second, .val (.long (q1 + (q3 - (q3 / (140000 : Int64)) * (140000 : Int64)))), .second, .unset, .unset] [(.long (q1 + (q3 - (q3 / (140000 : Int64)) * (140000 : Int64)))), (.long q1), (.ref b37), (.ref b37)])) rfl (by rw [hml]; rfl) (Steps.refl _) (a := b37) (argsL := [(.long q1), (.long (q1 + (q3 - (q3 / (140000 : Int64)) * (140000 : Int64))))]) (rest := [(.ref b37)]) (lenOf own_pd1 rfl) rfl (by show 2 * 0 + _ ≤ _; exact Nat.le_of_eq rfl) (hb hby at_31) (fun _ _ => ⟨rfl, e37, (by decide : 1 + 0 ≤ _), (by decide : 3 + 0 ≤ _)⟩)
    dsimp only [Pt.U, Pt.locs, Pt.cells, Pt.slots] at X42 l42 y42 z42 st42 hQ42
    subst l42 y42 z42
    obtain ⟨h42, e42⟩ : ∃ z, T42.heap = z := ⟨_, rfl⟩
    rw [e42] at hQ42
    obtain ⟨rfl, N42q, KC42, EC42_0, FC42_0, FC42_1⟩ := hQ42
    have KK42 : Keep h0 h42 [] := K37.trans KC42 (allS (Or.inr sz_b37) all0)
    have Z42 : n0 ≤ h42.size := Nat.le_trans Z37 KC42.1
    have N42 := Fr.app N0 N42q
    have k43 : own_To p.tables e below (s₁.setTop (entryFrame m #[(.long q1), (.long q2), (.long q3), (.int p4)] maxLocals)) T42 (mkF m 34 #[.val (.long q1), .second, .val (.long q2), .second, .val (.long q3), .second, .val (.int p4), .val (.long q1), .second, .val (.long (q1 + (q3 - (q3 / (140000 : Int64)) * (140000 : Int64)))), .second, .unset, .unset] [(.ref b37)]) := fun t k => k41 t (st42.trans k)
    have k44 : own_To p.tables e below (s₁.setTop (entryFrame m #[(.long q1), (.long q2), (.long q3), (.int p4)] maxLocals)) T42 (mkF m 36 #[.val (.long q1), .second, .val (.long q2), .second, .val (.long q3), .second, .val (.int p4), .val (.long q1), .second, .val (.long (q1 + (q3 - (q3 / (140000 : Int64)) * (140000 : Int64)))), .second, .val (.ref b37), .unset] []) := fun t k => k43 t (XS.astore X42.here hx rfl (hb hby at_34) rfl rfl (l' := #[.val (.long q1), .second, .val (.long q2), .second, .val (.long q3), .second, .val (.int p4), .val (.long q1), .second, .val (.long (q1 + (q3 - (q3 / (140000 : Int64)) * (140000 : Int64)))), .second, .val (.ref b37), .unset]) rfl k)
    have k45 : own_To p.tables e below (s₁.setTop (entryFrame m #[(.long q1), (.long q2), (.long q3), (.int p4)] maxLocals)) T42 (mkF m 38 #[.val (.long q1), .second, .val (.long q2), .second, .val (.long q3), .second, .val (.int p4), .val (.long q1), .second, .val (.long (q1 + (q3 - (q3 / (140000 : Int64)) * (140000 : Int64)))), .second, .val (.ref b37), .unset] [(.ref b37)]) := fun t k => k44 t (XS.aload X42.here hx rfl (hb hby at_36) rfl rfl k)
    obtain ⟨cq46, kq46, q46a, q46b, q46c⟩ := isOf hZ e42 EC42_0
    obtain ⟨_, _, ⟨T46, L46, k46, n46⟩, -, X46, ⟨Lc46, hQ46, l46, y46, z46⟩, st46⟩ := X42.virtualBack hx (y := (⟨"com/example/witness/witness/value/IntervalSet", "isSmall", "()Z"⟩ : MethodName)) (z := (⟨"com/example/witness/witness/value/IntervalSet", "isSmall", "()Z"⟩ : MethodName)) hown (mvT hZ (hw _ (List.mem_of_getElem? (i := 23) rfl))) (mvT hZ (hw _ (List.mem_of_getElem? (i := 24) rfl))) (notFace_of_selects (args := #[]) (mvT hZ (hw _ (List.mem_of_getElem? (i := 26) rfl)))) (mvT hZ (hw _ (List.mem_of_getElem? (i := 26) rfl))) (mvT hZ (hw _ (List.mem_of_getElem? (i := 25) rfl))) (by decide) (backOf (W := 0) (own_m5 l Z a0 hw [] b37 (q1 + (q3 - (q3 / (140000 : Int64)) * (140000 : Int64))) q1 h42 n0 Z42 FC42_1 FC42_0) hZ (hw _ (List.mem_of_getElem? (i := 27) rfl)) (hw _ (List.mem_of_getElem? (i := 2) rfl)) (by decide) (by decide)) q46a q46c (g := (mkF m 38 #[.val (.long q1), .second, .val (.long q2), .second, .val (.long q3), .second, .val (.int p4), .val (.long q1), .second, .val (.long (q1 + (q3 - (q3 / (140000 : Int64)) * (140000 : Int64)))), .second, .val (.ref b37), .unset] [(.ref b37)])) rfl (by rw [hml]; rfl) (Steps.refl _) (argsL := []) (rest := []) (lenOf own_pd2 rfl) rfl (by show 2 * 0 + _ ≤ _; exact Nat.le_of_eq rfl) (hb hby at_38) (fun _ _ => ⟨rfl, e42, (by decide : 1 + 0 ≤ _), (by decide : 3 + 0 ≤ _)⟩)
    dsimp only [Pt.U, Pt.locs, Pt.cells, Pt.slots] at X46 l46 y46 z46 st46 hQ46
    subst l46 y46 z46
    obtain ⟨rfl, N46q, e46⟩ := hQ46
    have N46 := Fr.app N42 N46q
    have k47 : own_To p.tables e below (s₁.setTop (entryFrame m #[(.long q1), (.long q2), (.long q3), (.int p4)] maxLocals)) T46 (mkF m 41 #[.val (.long q1), .second, .val (.long q2), .second, .val (.long q3), .second, .val (.int p4), .val (.long q1), .second, .val (.long (q1 + (q3 - (q3 / (140000 : Int64)) * (140000 : Int64)))), .second, .val (.ref b37), .unset] [(.int (own_small (q1 + (q3 - (q3 / (140000 : Int64)) * (140000 : Int64))) q1))]) := fun t k => k45 t (st46.trans k)
    have k48 : own_To p.tables e below (s₁.setTop (entryFrame m #[(.long q1), (.long q2), (.long q3), (.int p4)] maxLocals)) T46 (mkF m 43 #[.val (.long q1), .second, .val (.long q2), .second, .val (.long q3), .second, .val (.int p4), .val (.long q1), .second, .val (.long (q1 + (q3 - (q3 / (140000 : Int64)) * (140000 : Int64)))), .second, .val (.ref b37), .val (.int (own_small (q1 + (q3 - (q3 / (140000 : Int64)) * (140000 : Int64))) q1))] []) := fun t k => k47 t (XS.istore X46.here hx rfl (hb hby at_41) rfl (l' := #[.val (.long q1), .second, .val (.long q2), .second, .val (.long q3), .second, .val (.int p4), .val (.long q1), .second, .val (.long (q1 + (q3 - (q3 / (140000 : Int64)) * (140000 : Int64)))), .second, .val (.ref b37), .val (.int (own_small (q1 + (q3 - (q3 / (140000 : Int64)) * (140000 : Int64))) q1))]) rfl k)
    have k49 : own_To p.tables e below (s₁.setTop (entryFrame m #[(.long q1), (.long q2), (.long q3), (.int p4)] maxLocals)) T46 (mkF m 45 #[.val (.long q1), .second, .val (.long q2), .second, .val (.long q3), .second, .val (.int p4), .val (.long q1), .second, .val (.long (q1 + (q3 - (q3 / (140000 : Int64)) * (140000 : Int64)))), .second, .val (.ref b37), .val (.int (own_small (q1 + (q3 - (q3 / (140000 : Int64)) * (140000 : Int64))) q1))] [(.int (own_small (q1 + (q3 - (q3 / (140000 : Int64)) * (140000 : Int64))) q1))]) := fun t k => k48 t (XS.iload X46.here hx rfl (hb hby at_43) rfl k)
    have k50 : own_To p.tables e below (s₁.setTop (entryFrame m #[(.long q1), (.long q2), (.long q3), (.int p4)] maxLocals)) T46 (mkF m 47 #[.val (.long q1), .second, .val (.long q2), .second, .val (.long q3), .second, .val (.int p4), .val (.long q1), .second, .val (.long (q1 + (q3 - (q3 / (140000 : Int64)) * (140000 : Int64)))), .second, .val (.ref b37), .val (.int (own_small (q1 + (q3 - (q3 / (140000 : Int64)) * (140000 : Int64))) q1))] [(.long q1), (.int (own_small (q1 + (q3 - (q3 / (140000 : Int64)) * (140000 : Int64))) q1))]) := fun t k => k49 t (XS.lload X46.here hx rfl (hb hby at_45) rfl k)
    have k51 : own_To p.tables e below (s₁.setTop (entryFrame m #[(.long q1), (.long q2), (.long q3), (.int p4)] maxLocals)) T46 (mkF m 49 #[.val (.long q1), .second, .val (.long q2), .second, .val (.long q3), .second, .val (.int p4), .val (.long q1), .second, .val (.long (q1 + (q3 - (q3 / (140000 : Int64)) * (140000 : Int64)))), .second, .val (.ref b37), .val (.int (own_small (q1 + (q3 - (q3 / (140000 : Int64)) * (140000 : Int64))) q1))] [(.long (q1 + (q3 - (q3 / (140000 : Int64)) * (140000 : Int64)))), (.long q1), (.int (own_small (q1 + (q3 - (q3 / (140000 : Int64)) * (140000 : Int64))) q1))]) := fun t k => k50 t (XS.lload X46.here hx rfl (hb hby at_47) rfl k)
    obtain ⟨_, _, ⟨T52, L52, k52, n52⟩, -, X52, ⟨Lc52, hQ52, l52, y52, z52⟩, st52⟩ := Jvm.LawKit.callS X46 hx (y := (⟨"com/example/witness/witness/value/IntervalSetIsSmallPinLaw", "expected", "(JJ)Z"⟩ : MethodName)) hown (mvT hZ (hw _ (List.mem_of_getElem? (i := 28) rfl))) (mvT hZ (hw _ (List.mem_of_getElem? (i := 29) rfl))) (mvT hZ (hw _ (List.mem_of_getElem? (i := 30) rfl))) (mvT hZ (hw _ (List.mem_of_getElem? (i := 31) rfl))) (by decide) (backOf (W := 1) (own_m6 l Z a0 hw [] q1 (q1 + (q3 - (q3 / (140000 : Int64)) * (140000 : Int64))) h42 n0 Z42 ) hZ (hw _ (List.mem_of_getElem? (i := 31) rfl)) (hw _ (List.mem_of_getElem? (i := 30) rfl)) (by decide) (by decide)) (g := (mkF m 49 #[.val (.long q1), .second, .val (.long q2), .second, .val (.long q3), .second, .val (.int p4), .val (.long q1), .second, .val (.long (q1 + (q3 - (q3 / (140000 : Int64)) * (140000 : Int64)))), .second, .val (.ref b37), .val (.int (own_small (q1 + (q3 - (q3 / (140000 : Int64)) * (140000 : Int64))) q1))] [(.long (q1 + (q3 - (q3 / (140000 : Int64)) * (140000 : Int64)))), (.long q1), (.int (own_small (q1 + (q3 - (q3 / (140000 : Int64)) * (140000 : Int64))) q1))])) rfl (by rw [hml]; rfl) (argsL := [(.long q1), (.long (q1 + (q3 - (q3 / (140000 : Int64)) * (140000 : Int64))))]) (rest := [(.int (own_small (q1 + (q3 - (q3 / (140000 : Int64)) * (140000 : Int64))) q1))]) (lenOf own_pd3 rfl) rfl (by show 2 * 0 + _ ≤ _; exact Nat.le_of_eq rfl) (hb hby at_49) (fun _ _ => ⟨rfl, e46, (by decide : 1 + 0 ≤ _), (by decide : 3 + 0 ≤ _)⟩)
    dsimp only [Pt.U, Pt.locs, Pt.cells, Pt.slots] at X52 l52 y52 z52 st52 hQ52
    subst l52 y52 z52
    obtain ⟨rfl, N52q, e52⟩ := hQ52
    have N52 := Fr.app N46 N52q
    have k53 : own_To p.tables e below (s₁.setTop (entryFrame m #[(.long q1), (.long q2), (.long q3), (.int p4)] maxLocals)) T52 (mkF m 52 #[.val (.long q1), .second, .val (.long q2), .second, .val (.long q3), .second, .val (.int p4), .val (.long q1), .second, .val (.long (q1 + (q3 - (q3 / (140000 : Int64)) * (140000 : Int64)))), .second, .val (.ref b37), .val (.int (own_small (q1 + (q3 - (q3 / (140000 : Int64)) * (140000 : Int64))) q1))] [(.int (own_exp q1 (q1 + (q3 - (q3 / (140000 : Int64)) * (140000 : Int64))))), (.int (own_small (q1 + (q3 - (q3 / (140000 : Int64)) * (140000 : Int64))) q1))]) := fun t k => k51 t (st52 t k)
    have k54 : own_To p.tables e below (s₁.setTop (entryFrame m #[(.long q1), (.long q2), (.long q3), (.int p4)] maxLocals)) T52 (mkF m 55 #[.val (.long q1), .second, .val (.long q2), .second, .val (.long q3), .second, .val (.int p4), .val (.long q1), .second, .val (.long (q1 + (q3 - (q3 / (140000 : Int64)) * (140000 : Int64)))), .second, .val (.ref b37), .val (.int (own_small (q1 + (q3 - (q3 / (140000 : Int64)) * (140000 : Int64))) q1))] []) := fun t k => k53 t (XS.icmpNo X52.here hx rfl (hb hby at_52) rfl (teq (show (own_small (q1 + (q3 - (q3 / (140000 : Int64)) * (140000 : Int64))) q1) = (own_exp q1 (q1 + (q3 - (q3 / (140000 : Int64)) * (140000 : Int64)))) from (own_same _ _))).2 k)
    have k55 : own_To p.tables e below (s₁.setTop (entryFrame m #[(.long q1), (.long q2), (.long q3), (.int p4)] maxLocals)) T52 (mkF m 56 #[.val (.long q1), .second, .val (.long q2), .second, .val (.long q3), .second, .val (.int p4), .val (.long q1), .second, .val (.long (q1 + (q3 - (q3 / (140000 : Int64)) * (140000 : Int64)))), .second, .val (.ref b37), .val (.int (own_small (q1 + (q3 - (q3 / (140000 : Int64)) * (140000 : Int64))) q1))] [(.int (1 : Int32))]) := fun t k => k54 t (XS.iconst X52.here hx rfl (hb hby at_55) k)
    have k56 : own_To p.tables e below (s₁.setTop (entryFrame m #[(.long q1), (.long q2), (.long q3), (.int p4)] maxLocals)) T52 (mkF m 60 #[.val (.long q1), .second, .val (.long q2), .second, .val (.long q3), .second, .val (.int p4), .val (.long q1), .second, .val (.long (q1 + (q3 - (q3 / (140000 : Int64)) * (140000 : Int64)))), .second, .val (.ref b37), .val (.int (own_small (q1 + (q3 - (q3 / (140000 : Int64)) * (140000 : Int64))) q1))] [(.int (1 : Int32))]) := fun t k => k55 t (XS.goto X52.here hx rfl (pc0 := 56) (pc' := 60) rfl (hb hby at_56) (by decide) (by decide) k)
    obtain ⟨fs, hr, hrun, hended, hW, hsame⟩ := X52.leave (v := some (.int (1 : Int32))) (fun h => by rw [Bd.returns] at h; cases h)
    refine ⟨_, _, k56 _ ?_, hrun, hended, _, _, rfl, ?_, ⟨_, rfl⟩, hW, hsame.mono (by decide) (by decide)⟩
    · exact retN X52 hx (t := .boolean) Bd.returns (by simp) (hb hby at_60) hr
    · exact ⟨rfl, N52⟩
set_option maxRecDepth 65536 in
set_option maxHeartbeats 40000000 in
theorem comes_1 {Post : Tables → Env → Array Value → State → Outcome → State → Prop} (hpost : ∀ tb e args s v u, (limb_1_1.after args s (.returned v) u = true ∧ limb_1_2.after args s (.returned v) u = true ∧ True) → FrameEnd s (.returned v) u (Jvm.fieldLocs frame_1_writes args s ++ Jvm.arrayLocs frame_1_arrays args s ++ Jvm.staticLocs frame_1_statics s) 16 128 → Post tb e args s (.returned v) u) :
    ArmFor flags0 classFile x code maxLocals ret World_1 tables_1 room_1 Calls_1 rest_1 Pre_1 Post := by
  intro l hfl _ _ p e ha hc hk s m args below hf hA hF happ hP
  obtain ⟨hcalls, hrest, hpre⟩ := hP
  obtain ⟨-, -, -, hnamed, -, -, -, hat⟩ := (Spec.applies_iff hf).mp happ
  obtain ⟨hg, hn⟩ := and_e (Cond.before_iff.mp (show (Jvm.Cond.and given_1 narrow_1).before args s = true from hpre))
  obtain ⟨hg1, hg2⟩ := and_e hg
  obtain ⟨hg3, hg4⟩ := and_e hg2
  obtain ⟨hg5, hg6⟩ := and_e hg4
  obtain ⟨hg7, hg8⟩ := and_e hg6
  obtain ⟨w0, w1, w2, w3, rfl⟩ : ∃ w0 w1 w2 w3 : Value, args = #[w0, w1, w2, w3] := by
    have hs : args.size = 4 := by simpa [Cond.value, given_1] using hg1
    obtain ⟨L⟩ := args
    match L, hs with
    | [w0, w1, w2, w3], _ => exact ⟨w0, w1, w2, w3, rfl⟩
  have hw := fun d (hd : d ∈ tables_1) => atoms_spec (ws := Jvm.Cond.code x code maxLocals ret :: tables_1) hat d (List.mem_cons_of_mem _ hd)
  have hfit : Fit s := fun {y c} hc i hi => by
    obtain ⟨ha, rfl⟩ := Array.getElem?_eq_some_iff.mp hc
    have q := List.all_eq_true.mp ((Array.all_eq_true_iff_forall_mem.mp hF) _ (Array.getElem_mem ha)) i (List.mem_range.mpr hi)
    simpa [Array.getElem?_eq_getElem hi] using q
  obtain ⟨i0, ei0⟩ := isL_v hg3
  obtain rfl : w0 = (.long i0) := Option.some.inj ei0
  obtain ⟨i1, ei1⟩ := isL_v hg5
  obtain rfl : w1 = (.long i1) := Option.some.inj ei1
  obtain ⟨i2, ei2⟩ := isL_v hg7
  obtain rfl : w2 = (.long i2) := Option.some.inj ei2
  obtain ⟨i3, ei3⟩ := is_v hg8
  obtain rfl : w3 = (.int i3) := Option.some.inj ei3
  obtain ⟨n, o, h1, h2, h3, _, L, rfl, ⟨rfl, N⟩, hq⟩ := own_m0 l s _ hw tables_1 i0 i1 i2 i3 s.heap s.heap.size (Nat.le_refl _)  p e ha hc hk s m _ below hf ((Spec.applies_iff_loose hf).mp happ).1 ⟨rfl, State.Warmed39.refl s, rfl⟩ trivial
  refine ⟨n, _, h1, h2, h3, hpost _ _ _ _ _ _ ⟨Cond.after_iff.mpr rfl, Cond.after_iff.mpr (eq_i res_at (Term.int_eval (1)) rfl), trivial⟩ ⟨hq.1, hq.2.1, (hq.2.2.sift fun y hy => Or.inr (N y hy)).mono (by decide) (by decide)⟩⟩
theorem main_1_1 : Claimed_1_1 := comes_1 fun _ _ _ _ _ _ h hF => ⟨h.1, hF⟩
theorem main_1_2 : Claimed_1_2 := comes_1 fun _ _ _ _ _ _ h hF => ⟨h.2.1, hF⟩
end Jvm.Pilot.@@N@@
namespace Jvm.Pilot.@@N@@
open Jvm Jvm.ClassFile Sem Op Lib Jvm.Free Jvm.Stand Jvm.Pilot.@@N@@.Jvm.D
/-! MADE BY PROGRAM (witnessworld.py) out of the Statement's table words and the real class files: 12 classes; the members and pool entries that the words name. The judged class is class 1, her method 1. -/
namespace start1
open Jvm.ClassFile
def u (s : String) : CpInfo := .utf8 (stringToUtf16 s)
/-- a pool by its gaps: so many unusable entries, then the entry; so many at the end -/
def gap : Nat → List CpInfo → List CpInfo
  | 0, r => r
  | n + 1, r => .unusable :: gap n r
def poolList (es : List (Nat × CpInfo)) (last : Nat) : List CpInfo := es.foldr (fun e r => gap e.1 (e.2 :: r)) (gap last [])
def pool (es : List (Nat × CpInfo)) (last : Nat) : Array CpInfo := ⟨poolList es last⟩
def fileOf (pool : Array CpInfo) (this : Nat) (attrs : Array Attribute := #[]) (ms : Array MethodInfo := #[]) (fl : Nat := 33) (sup : Nat := 0) (ifs : Array Nat := #[]) (fds : Array FieldInfo := #[]) : ClassFile where
  minorVersion := 0
  majorVersion := 65
  constantPool := pool
  accessFlags := fl
  thisClass := this
  superClass := sup
  interfaces := ifs
  fields := fds
  methods := ms
  attributes := attrs
def plain (name : String) (sup : Option ClassId) : Class where
  name := name
  kind := .ordinary
  loader := none
  accessFlags := 33
  super := sup
  interfaces := #[]
  cf := none
  fields := #[]
  methods := #[]
  instanceTypes := #[]
  staticTypes := #[]
  resolved := #[]
  callSites := []
  init := .initialized
  statics := none
  mirror := none

def pool0 : Array CpInfo := pool [(5, u "<init>"), (0, u "()V"), (1, .class_ 10), (1, u "java/lang/Object")] 113

def k0c0 : Code := { maxStack := 0, maxLocals := 1, code := object_method_1_code, exceptionTable := #[], attributes := #[] }
def k0m0 : Method := { name := "<init>", desc := "()V", sig := { parameters := [], returnType := none }, accessFlags := 1, code := some k0c0 }
/-- java/lang/Object -/
def k0 : Class := { plain "java/lang/Object" none with
  accessFlags := 33
  interfaces := #[]
  cf := some (fileOf pool0 8 #[] #[{ accessFlags := 1, nameIndex := 5, descriptorIndex := 6, attributes := #[] }] 33 0 #[] #[])
  fields := #[]
  methods := #[k0m0]
  instanceTypes := #[]
  staticTypes := #[]
  resolved := Array.replicate 124 none
  statics := none }

def pool1 : Array CpInfo := pool [(2, .class_ 4), (1, u "java/lang/Object"), (0, u "<init>"), (0, u "()V"), (0, .long 140000), (1, .class_ 10), (0, u "com/example/witness/witness/value/IntervalSet"), (0, .methodref 9 12), (0, .nameAndType 5 13), (0, u "(JJ)V"), (0, .methodref 9 15), (0, .nameAndType 16 17), (0, u "isSmall"), (0, u "()Z"), (0, .methodref 19 20), (0, .class_ 21), (0, .nameAndType 22 23), (0, u "com/example/witness/witness/value/IntervalSetIsSmallPinLaw"), (0, u "expected"), (0, u "(JJ)Z"), (2, .long 9223372036854710272), (1, .long 65535), (3, u "law"), (0, u "(JJJI)Z")] 3

def k1m0 : Method := { name := "<init>", desc := "()V", sig := { parameters := [], returnType := none }, accessFlags := 1, code := none }
def k1c1 : Code := { maxStack := 6, maxLocals := 13, code := code, exceptionTable := #[], attributes := #[] }
def k1m1 : Method := { name := "law", desc := "(JJJI)Z", sig := { parameters := [.long, .long, .long, .int], returnType := some .boolean }, accessFlags := 9, code := some k1c1 }
def k1c2 : Code := { maxStack := 6, maxLocals := 4, code := method_3_code, exceptionTable := #[], attributes := #[] }
def k1m2 : Method := { name := "expected", desc := "(JJ)Z", sig := { parameters := [.long, .long], returnType := some .boolean }, accessFlags := 10, code := some k1c2 }
/-- com/example/witness/witness/value/IntervalSetIsSmallPinLaw -/
def k1 : Class := { plain "com/example/witness/witness/value/IntervalSetIsSmallPinLaw" (some 0) with
  accessFlags := 49
  interfaces := #[]
  cf := some (fileOf pool1 19 #[] #[{ accessFlags := 1, nameIndex := 5, descriptorIndex := 6, attributes := #[] }, { accessFlags := 9, nameIndex := 32, descriptorIndex := 33, attributes := #[] }, { accessFlags := 10, nameIndex := 22, descriptorIndex := 23, attributes := #[] }] 49 2 #[] #[])
  fields := #[]
  methods := #[k1m0, k1m1, k1m2]
  instanceTypes := #[]
  staticTypes := #[]
  resolved := Array.replicate 37 none
  statics := none }

def pool2 : Array CpInfo := pool [(1, .class_ 2), (0, u "java/lang/Comparable"), (0, .class_ 4), (0, u "java/lang/Object")] 7

/-- java/lang/Comparable -/
def k2 : Class := { plain "java/lang/Comparable" (some 0) with
  accessFlags := 1537
  interfaces := #[]
  cf := some (fileOf pool2 1 #[] #[] 1537 3 #[] #[])
  fields := #[]
  methods := #[]
  instanceTypes := #[]
  staticTypes := #[]
  resolved := Array.replicate 12 none
  statics := none }

def pool3 : Array CpInfo := pool [(1, .methodref 2 3), (0, .class_ 4), (0, .nameAndType 5 6), (0, u "java/lang/Object"), (0, u "<init>"), (0, u "()V"), (0, .class_ 8), (0, u "com/example/witness/witness/value/Value"), (19, .class_ 30), (1, u "com/example/witness/witness/value/Value$Kind"), (42, .class_ 74), (0, u "java/lang/Comparable")] 65

def k3c0 : Code := { maxStack := 1, maxLocals := 1, code := prog_329_method_1_code, exceptionTable := #[], attributes := #[] }
def k3m0 : Method := { name := "<init>", desc := "()V", sig := { parameters := [], returnType := none }, accessFlags := 1, code := some k3c0 }
/-- com/example/witness/witness/value/Value -/
def k3 : Class := { plain "com/example/witness/witness/value/Value" (some 0) with
  accessFlags := 1057
  interfaces := #[2]
  cf := some (fileOf pool3 7 #[.nestMembers #[28]] #[{ accessFlags := 1, nameIndex := 5, descriptorIndex := 6, attributes := #[] }] 1057 2 #[73] #[])
  fields := #[]
  methods := #[k3m0]
  instanceTypes := #[]
  staticTypes := #[]
  resolved := Array.replicate 140 none
  statics := none }

def pool4 : Array CpInfo := pool [(1, .methodref 2 3), (0, .class_ 4), (0, .nameAndType 5 6), (0, u "com/example/witness/witness/value/Value"), (0, u "<init>"), (0, u "()V"), (1, .class_ 10), (1, u "com/example/witness/witness/value/SetValue"), (85, u "normalForm"), (125, .class_ 223), (0, u "com/example/witness/witness/value/SetValue$Run"), (50, u "Lcom/example/witness/witness/value/NormalForm;"), (28, u "LARGE_HASH"), (0, u "I"), (35, u "SMALL"), (0, u "J"), (3, u "PRINT_WALK_LIMIT"), (0, u "HASHED_AS_LARGE_FROM")] 94

def k4c0 : Code := { maxStack := 1, maxLocals := 1, code := prog_323_method_1_code, exceptionTable := #[], attributes := #[] }
def k4m0 : Method := { name := "<init>", desc := "()V", sig := { parameters := [], returnType := none }, accessFlags := 1, code := some k4c0 }
/-- com/example/witness/witness/value/SetValue -/
def k4 : Class := { plain "com/example/witness/witness/value/SetValue" (some 3) with
  accessFlags := 1057
  interfaces := #[]
  cf := some (fileOf pool4 8 #[.nestMembers #[222]] #[{ accessFlags := 1, nameIndex := 5, descriptorIndex := 6, attributes := #[] }] 1057 2 #[] #[{ accessFlags := 24, nameIndex := 340, descriptorIndex := 341, attributes := #[] }, { accessFlags := 24, nameIndex := 345, descriptorIndex := 341, attributes := #[] }, { accessFlags := 24, nameIndex := 346, descriptorIndex := 341, attributes := #[] }, { accessFlags := 26, nameIndex := 303, descriptorIndex := 304, attributes := #[] }, { accessFlags := 2, nameIndex := 96, descriptorIndex := 274, attributes := #[] }])
  fields := #[{ name := "SMALL", type := .long, accessFlags := 24, slot := 0, constantValue := 0 }, { name := "PRINT_WALK_LIMIT", type := .long, accessFlags := 24, slot := 1, constantValue := 0 }, { name := "HASHED_AS_LARGE_FROM", type := .long, accessFlags := 24, slot := 2, constantValue := 0 }, { name := "LARGE_HASH", type := .int, accessFlags := 26, slot := 3, constantValue := 0 }, { name := "normalForm", type := (.object "com/example/witness/witness/value/NormalForm"), accessFlags := 2, slot := 0, constantValue := 0 }]
  methods := #[k4m0]
  instanceTypes := #[(.object "com/example/witness/witness/value/NormalForm")]
  staticTypes := #[.long, .long, .long, .int]
  resolved := Array.replicate 441 none
  statics := none }

def pool5 : Array CpInfo := pool [(1, .methodref 2 3), (0, .class_ 4), (0, .nameAndType 5 6), (0, u "com/example/witness/witness/value/SetValue"), (0, u "<init>"), (0, u "()V"), (0, .fieldref 8 9), (0, .class_ 10), (0, .nameAndType 11 12), (0, u "com/example/witness/witness/value/IntervalSet"), (0, u "low"), (0, u "J"), (0, .fieldref 8 14), (0, .nameAndType 15 12), (0, u "high"), (15, .long 65536), (96, .class_ 129), (0, u "com/example/witness/witness/value/IntervalSet$1"), (3, u "(JJ)V"), (8, u "()Z"), (0, u "isSmall")] 49

def k5c0 : Code := { maxStack := 3, maxLocals := 5, code := prog_310_method_1_code, exceptionTable := #[], attributes := #[] }
def k5m0 : Method := { name := "<init>", desc := "(JJ)V", sig := { parameters := [.long, .long], returnType := none }, accessFlags := 1, code := some k5c0 }
def k5c1 : Code := { maxStack := 4, maxLocals := 3, code := prog_310_method_5_code, exceptionTable := #[], attributes := #[] }
def k5m1 : Method := { name := "isSmall", desc := "()Z", sig := { parameters := [], returnType := some .boolean }, accessFlags := 0, code := some k5c1 }
/-- com/example/witness/witness/value/IntervalSet -/
def k5 : Class := { plain "com/example/witness/witness/value/IntervalSet" (some 4) with
  accessFlags := 49
  interfaces := #[]
  cf := some (fileOf pool5 8 #[.nestMembers #[128]] #[{ accessFlags := 1, nameIndex := 5, descriptorIndex := 133, attributes := #[] }, { accessFlags := 0, nameIndex := 143, descriptorIndex := 142, attributes := #[] }] 49 2 #[] #[{ accessFlags := 18, nameIndex := 11, descriptorIndex := 12, attributes := #[] }, { accessFlags := 18, nameIndex := 15, descriptorIndex := 12, attributes := #[] }])
  fields := #[{ name := "low", type := .long, accessFlags := 18, slot := 1, constantValue := 0 }, { name := "high", type := .long, accessFlags := 18, slot := 2, constantValue := 0 }]
  methods := #[k5m0, k5m1]
  instanceTypes := #[(.object "com/example/witness/witness/value/NormalForm"), .long, .long]
  staticTypes := #[]
  resolved := Array.replicate 193 none
  statics := none }

def pool6 : Array CpInfo := pool [(1, u "java/lang/Cloneable"), (0, .class_ 1), (0, u "java/lang/Object"), (0, .class_ 3)] 3

/-- java/lang/Cloneable -/
def k6 : Class := { plain "java/lang/Cloneable" (some 0) with
  accessFlags := 1537
  interfaces := #[]
  cf := some (fileOf pool6 2 #[] #[] 1537 4 #[] #[])
  fields := #[]
  methods := #[]
  instanceTypes := #[]
  staticTypes := #[]
  resolved := Array.replicate 8 none
  statics := none }

def pool7 : Array CpInfo := pool [(1, u "java/io/Serializable"), (0, .class_ 1), (0, u "java/lang/Object"), (0, .class_ 3)] 3

/-- java/io/Serializable -/
def k7 : Class := { plain "java/io/Serializable" (some 0) with
  accessFlags := 1537
  interfaces := #[]
  cf := some (fileOf pool7 2 #[] #[] 1537 4 #[] #[])
  fields := #[]
  methods := #[]
  instanceTypes := #[]
  staticTypes := #[]
  resolved := Array.replicate 8 none
  statics := none }

/-- the primitive byte -/
def k8 : Class := { plain "byte" none with kind := .primitive 'B', accessFlags := 0x411 }
/-- [B -/
def k9 : Class := { plain "[B" (some 0) with kind := .array 8 .byte, interfaces := #[6, 7], accessFlags := 1041 }

/-- the primitive int -/
def k10 : Class := { plain "int" none with kind := .primitive 'I', accessFlags := 0x411 }
/-- [I -/
def k11 : Class := { plain "[I" (some 0) with kind := .array 10 .int, interfaces := #[6, 7], accessFlags := 1041 }

def heap : Heap := #[]
def classes : Array Class := #[k0, k1, k2, k3, k4, k5, k6, k7, k8, k9, k10, k11]
def interned : List (Array UInt16 × Addr) := []
def slotsUsed : Nat := 0
def theMethod : MethodId := ⟨1, 1⟩
def args0 : Array Value := #[.long 5, .long 9, .long 7, .int 1]
def aboutOver (below : List Frame) : State where
  vm := { classes := classes, interned := interned.toArray }
  heap := heap
  slotsUsed := slotsUsed
  threads := #[{ frames := .invoking theMethod args0 :: below }]
def below0 : List Frame := [.native { method := ⟨0, 0⟩, args := #[] }]
def about1 : State := aboutOver below0
def p0 : Program := .bare "" "" ""
def e0 : Env := launch0.env 0 0 0
theorem w_frames : about1.frames = Frame.invoking theMethod args0 :: below0 := rfl
set_option maxRecDepth 65536 in
theorem w_args : argsFit about1.vm theMethod args0 = true := by decide +kernel
set_option maxRecDepth 65536 in
theorem w_heap : heapFits about1 = true := by decide +kernel
set_option maxRecDepth 65536 in
theorem w_runnable : about1.curStatus? = some .runnable := by decide +kernel
set_option maxRecDepth 65536 in
theorem w_alone : about1.alone = true := by decide +kernel
set_option maxRecDepth 65536 in
theorem w_named : about1.methodNamed? x = some theMethod := by decide +kernel
set_option maxRecDepth 65536 in
theorem w_hears : about1.hears theMethod below0 = true := by decide +kernel
set_option maxRecDepth 65536 in
theorem w_ripe : about1.ripe theMethod args0 below0 = true := by decide +kernel
theorem w_running : about1.status = .running := rfl
set_option maxRecDepth 65536 in
theorem w_room : about1.hasRoom e0.platform room_1 = true :=
  launch0.hasRoom_least _ room_1 (by decide +kernel) (by decide +kernel) (by decide +kernel) (by decide +kernel) (by decide +kernel) (by decide +kernel)
theorem allAtoms_all (ts : List Jvm.Cond) (a : Array Jvm.Value) (st : Jvm.State) : (allAtoms ts).before a st = ts.all (fun c => c.before a st) := by
  induction ts with
  | nil => rfl
  | cons c t ih =>
    show (Jvm.Cond.and c (allAtoms t)).before a st = _
    rw [Jvm.Cond.before_and, ih, List.all_cons]
def words1 : List Jvm.Cond := Jvm.Cond.code x code maxLocals ret :: tables_1
/-- a 'code' word, met by the world's own term for the bytes: nothing is compared byte by byte -/
theorem code_word {y : MethodName} {bytes : ByteArray} {mx : Nat} {rt : Option FieldType} {a : Array Value} {s : State} {m : MethodId} {meth : Method} {c : Code} (h1 : s.methodNamed? y = some m) (h2 : s.vm.method? m = some meth) (h3 : meth.code = some c) (h4 : c.code = bytes)
    (h5 : (c.maxLocals == mx && c.exceptionTable.isEmpty && decide (c.maxStack ≤ mostOperands) && decide (meth.sig.returnType = rt) && !meth.locks && decide (parseMethodDescriptor y.desc = some meth.sig)) = true) : (Jvm.Cond.code y bytes mx rt).before a s = true := by
  simp only [Bool.and_eq_true, beq_iff_eq, Bool.not_eq_true', decide_eq_true_eq] at h5
  obtain ⟨⟨⟨⟨⟨g1, g2⟩, g3⟩, g4⟩, g5⟩, g6⟩ := h5
  simp [Cond.before, Cond.holds, Cond.value, h1, h2, h3, h4, g1, g2, g3, g4, g5, g6]
def isCode : Jvm.Cond → Bool
  | .code _ _ _ _ => true
  | _ => false
theorem all_split {L : List Jvm.Cond} {P : Jvm.Cond → Bool} (h1 : L.all (fun c => isCode c || P c) = true) (h2 : ∀ c ∈ L.filter isCode, P c = true) : L.all P = true := by
  refine List.all_eq_true.mpr fun c hc => ?_
  have h := List.all_eq_true.mp h1 c hc
  rcases Bool.eq_false_or_eq_true (isCode c) with hi | hi
  · exact h2 c (List.mem_filter.mpr ⟨hc, hi⟩)
  · simpa [hi] using h
set_option maxRecDepth 65536 in
theorem w_c0 : (Jvm.Cond.code x code maxLocals ret).before args0 about1 = true := code_word (m := ⟨1, 1⟩) (meth := k1m1) (c := k1c1) (by decide +kernel) rfl rfl rfl (by decide +kernel)
set_option maxRecDepth 65536 in
theorem w_c1 : (Jvm.Cond.code ({ cls := "com/example/witness/witness/value/IntervalSet", name := "<init>", desc := "(JJ)V" } : Jvm.MethodName) prog_310_method_1_code (5 : Nat) (Option.none : Option Jvm.ClassFile.FieldType)).before args0 about1 = true := code_word (m := ⟨5, 0⟩) (meth := k5m0) (c := k5c0) (by decide +kernel) rfl rfl rfl (by decide +kernel)
set_option maxRecDepth 65536 in
theorem w_c2 : (Jvm.Cond.code ({ cls := "com/example/witness/witness/value/SetValue", name := "<init>", desc := "()V" } : Jvm.MethodName) prog_323_method_1_code (1 : Nat) (Option.none : Option Jvm.ClassFile.FieldType)).before args0 about1 = true := code_word (m := ⟨4, 0⟩) (meth := k4m0) (c := k4c0) (by decide +kernel) rfl rfl rfl (by decide +kernel)
set_option maxRecDepth 65536 in
theorem w_c3 : (Jvm.Cond.code ({ cls := "com/example/witness/witness/value/Value", name := "<init>", desc := "()V" } : Jvm.MethodName) prog_329_method_1_code (1 : Nat) (Option.none : Option Jvm.ClassFile.FieldType)).before args0 about1 = true := code_word (m := ⟨3, 0⟩) (meth := k3m0) (c := k3c0) (by decide +kernel) rfl rfl rfl (by decide +kernel)
set_option maxRecDepth 65536 in
theorem w_c4 : (Jvm.Cond.code ({ cls := "java/lang/Object", name := "<init>", desc := "()V" } : Jvm.MethodName) object_method_1_code (1 : Nat) (Option.none : Option Jvm.ClassFile.FieldType)).before args0 about1 = true := code_word (m := ⟨0, 0⟩) (meth := k0m0) (c := k0c0) (by decide +kernel) rfl rfl rfl (by decide +kernel)
set_option maxRecDepth 65536 in
theorem w_c5 : (Jvm.Cond.code ({ cls := "com/example/witness/witness/value/IntervalSet", name := "isSmall", desc := "()Z" } : Jvm.MethodName) prog_310_method_5_code (3 : Nat) (Option.some Jvm.ClassFile.FieldType.boolean)).before args0 about1 = true := code_word (m := ⟨5, 1⟩) (meth := k5m1) (c := k5c1) (by decide +kernel) rfl rfl rfl (by decide +kernel)
set_option maxRecDepth 65536 in
theorem w_c6 : (Jvm.Cond.code ({ cls := "com/example/witness/witness/value/IntervalSetIsSmallPinLaw", name := "expected", desc := "(JJ)Z" } : Jvm.MethodName) method_3_code (4 : Nat) (Option.some Jvm.ClassFile.FieldType.boolean)).before args0 about1 = true := code_word (m := ⟨1, 2⟩) (meth := k1m2) (c := k1c2) (by decide +kernel) rfl rfl rfl (by decide +kernel)
def codes1 : List Jvm.Cond := [Jvm.Cond.code x code maxLocals ret, Jvm.Cond.code ({ cls := "com/example/witness/witness/value/IntervalSet", name := "<init>", desc := "(JJ)V" } : Jvm.MethodName) prog_310_method_1_code (5 : Nat) (Option.none : Option Jvm.ClassFile.FieldType), Jvm.Cond.code ({ cls := "com/example/witness/witness/value/SetValue", name := "<init>", desc := "()V" } : Jvm.MethodName) prog_323_method_1_code (1 : Nat) (Option.none : Option Jvm.ClassFile.FieldType), Jvm.Cond.code ({ cls := "com/example/witness/witness/value/Value", name := "<init>", desc := "()V" } : Jvm.MethodName) prog_329_method_1_code (1 : Nat) (Option.none : Option Jvm.ClassFile.FieldType), Jvm.Cond.code ({ cls := "java/lang/Object", name := "<init>", desc := "()V" } : Jvm.MethodName) object_method_1_code (1 : Nat) (Option.none : Option Jvm.ClassFile.FieldType), Jvm.Cond.code ({ cls := "com/example/witness/witness/value/IntervalSet", name := "isSmall", desc := "()Z" } : Jvm.MethodName) prog_310_method_5_code (3 : Nat) (Option.some Jvm.ClassFile.FieldType.boolean), Jvm.Cond.code ({ cls := "com/example/witness/witness/value/IntervalSetIsSmallPinLaw", name := "expected", desc := "(JJ)Z" } : Jvm.MethodName) method_3_code (4 : Nat) (Option.some Jvm.ClassFile.FieldType.boolean)]
set_option maxRecDepth 65536 in
theorem codes_eq : words1.filter isCode = codes1 := rfl
theorem w_codes : ∀ c ∈ words1.filter isCode, c.before args0 about1 = true := by
  rw [codes_eq]
  intro c hc
  simp only [codes1, List.mem_cons, List.not_mem_nil, or_false] at hc
  rcases hc with rfl | rfl | rfl | rfl | rfl | rfl | rfl
  · exact w_c0
  · exact w_c1
  · exact w_c2
  · exact w_c3
  · exact w_c4
  · exact w_c5
  · exact w_c6
set_option maxRecDepth 65536 in
theorem w_t1 : (words1.take 24).all (fun c => isCode c || c.before args0 about1) = true := by decide +kernel
set_option maxRecDepth 65536 in
theorem w_t2 : (words1.drop 24).all (fun c => isCode c || c.before args0 about1) = true := by decide +kernel
theorem w_tables : (allAtoms (Jvm.Cond.code x code maxLocals ret :: tables_1)).before args0 about1 = true := by
  rw [allAtoms_all]
  show words1.all (fun c => c.before args0 about1) = true
  refine all_split ?_ w_codes
  rw [← List.take_append_drop 24 words1, List.all_append, w_t1, w_t2]
  rfl
set_option maxRecDepth 65536 in
theorem w_case : (Jvm.Cond.and given_1 narrow_1).before args0 about1 = true := by decide +kernel
theorem w_applies : (headSpec (Jvm.Cond.code x code maxLocals ret :: tables_1) room_1).applies x e0.platform about1 = true :=
  (Spec.applies_iff w_frames).mpr ⟨w_running, w_runnable, w_alone, w_named, w_hears, w_ripe, w_room, w_tables⟩
theorem atStart : AtStart classFile x code maxLocals ret World_1 tables_1 room_1 Calls_1 rest_1 Pre_1 launch0 p0 e0 about1 theMethod args0 below0 :=
  ⟨lists_1, trivial, launch0.admits_env _ _ _, launch0.least_env, fairChoices_fair.cas, fairChoices_fair.clock, w_frames, w_args, w_heap, w_applies, trivial, trivial, w_case⟩
end start1
theorem witness_1 : WitnessClaimed_1 := ⟨start1.p0, start1.e0, start1.about1, start1.theMethod, start1.args0, start1.below0, start1.atStart⟩
end Jvm.Pilot.@@N@@
