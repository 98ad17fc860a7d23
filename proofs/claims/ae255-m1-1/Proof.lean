import JvmDerived
import JvmDerived.Pilot.@@N@@Statement
import JvmDerived.Pilot.@@N@@Code
set_option linter.unusedVariables false
set_option linter.unusedSimpArgs false
namespace Jvm.RoadKit
open Sem ClassFile Op Lib Jvm.Stand Jvm.Free Jvm.LawKit
section New
variable {p : Program} {l : Launch} {e : Env} {R : Room} {s : State} {m : MethodId} {args : Array Value} {below : List Frame} {meth : Method} {c : Code} {T : State} {locs : List Loc} {cells slots : Nat}
theorem retI (X : Stand p l e R s m args below meth c T locs cells slots) (hx : p.tables.exec = Jvm.exec) {pc : Nat} {Ls : Array Slot} {z : Int32} {rest : List Value} (hret : meth.sig.returnType = some .int) (hd : decode c.code pc = .ok (.ireturn, 1)) {fs : List Frame}
    (hl : ∀ (f : JFrame) (acts : List Action), f.method = m → f.locked = none → f.entered = [] → (doReturn e (T.setTop f) acts (some (.int z))).1 = T.setFrames fs) : Steps p.tables e below (T.setTop (mkF m pc Ls (.int z :: rest))) (T.setFrames fs) := by
  have hm' : T.vm.method? m = some meth := X.method'
  have hn : narrow .int (.int z) = .int z := rfl
  show Steps p.tables e below (T.setTop { method := m, pc := pc, locals := Ls, stack := _ :: rest, locked := none }) _
  jvm_step X.here [X.here.top, hx, hd, hm', hret, hn]
  first | (intro acts; rw [hl _ acts rfl rfl rfl]) | rw [hl _ _ rfl rfl rfl]
  exact Steps.refl _
end New
end Jvm.RoadKit
namespace Jvm.Pilot.@@N@@
open Jvm Jvm.ClassFile Sem Op Lib Jvm.Free Jvm.Stand Jvm.LawKit Jvm.RoadKit Bundle Jvm.Pilot.@@N@@.Jvm.D
/-- the run comes from A to the state U with the frame g on top -/
def own_To (tb : Tables) (e : Env) (below : List Frame) (A U : State) (g : JFrame) : Prop := ∀ t, Steps tb e below (U.setTop g) t → Steps tb e below A t
/-- what a body that writes nothing leaves -/
def own_Q (r : Option Value) (h0 : Heap) (n0 : Nat) (v : Option Value) (h : Heap) (L : List Loc) : Prop := v = r ∧ Fr n0 L ∧ h = h0
theorem own_fldint {args : Array Value} {Z : State} {t : Term} {x : Addr} {C n d : String} {k : Int32} (ht : t.eval args Z none [] Z = some (.ref x)) (h : (Jvm.Cond.eq (.field t C n d) (.int k)).value args Z none Z [] = some true) : Fld Z Z.heap x C n d (.int k) := by
  apply Fld.start
  obtain ⟨u, v, h1, h2, k1, -⟩ := cmp_v (Or.inl h)
  have e2 : v = .int k := (Option.some.inj (h2.symm.trans (Term.int_eval k)))
  subst e2
  cases u with
  | int z => rw [← fld_at ht, h1]; have := gotT (Cond.eq_ints h1 h2) h; rw [this]
  | long z => obtain ⟨_, q⟩ := k1; cases q
  | float z => obtain ⟨_, q⟩ := k1; cases q
  | double z => obtain ⟨_, q⟩ := k1; cases q
  | ref z => exact absurd k1.2 (by simp [Value.isRef])
  | null => exact absurd k1.2 (by simp [Value.isRef])
  | retAddr z => exact absurd k1.2 (by simp [Value.isRef])
theorem own_hi (x : Int64) : 0 ≤ (x &&& (9223372036854775807 : Int64)).toInt ∧ (x &&& (9223372036854775807 : Int64)).toInt ≤ 9223372036854775807 := by
  have e : (x &&& (9223372036854775807 : Int64)).toInt = x.toInt % (2 ^ 63 : Nat) := c_maskL x (9223372036854775807 : Int64) 63 (by decide) (by decide)
  rw [e]
  have h1 : ((2 ^ 63 : Nat) : Int) = 9223372036854775808 := rfl
  rw [h1]; omega
theorem own_nn (x : Int64) : ¬ (lcmpW (x &&& (9223372036854775807 : Int64)) (0 : Int64) < (0 : Int32)) := by
  rw [lw_lt, Int64.lt_iff_toInt_lt]
  have := own_hi x
  have e : (0 : Int64).toInt = 0 := rfl
  omega
theorem own_d1_0 : decode prog_14_method_1_code 0 = .ok (.aload_n 0, 1) := by decide +kernel
theorem own_d1_1 : decode prog_14_method_1_code 1 = .ok (.invokespecial 1, 3) := by decide +kernel
theorem own_d1_4 : decode prog_14_method_1_code 4 = .ok (.lload_n 1, 1) := by decide +kernel
theorem own_d1_5 : decode prog_14_method_1_code 5 = .ok (.lconst 0, 1) := by decide +kernel
theorem own_d1_6 : decode prog_14_method_1_code 6 = .ok (.lcmp, 1) := by decide +kernel
theorem own_d1_7 : decode prog_14_method_1_code 7 = .ok (.ifCond .lt 9, 3) := by decide +kernel
theorem own_d1_10 : decode prog_14_method_1_code 10 = .ok (.lload_n 3, 1) := by decide +kernel
theorem own_d1_11 : decode prog_14_method_1_code 11 = .ok (.lconst 0, 1) := by decide +kernel
theorem own_d1_12 : decode prog_14_method_1_code 12 = .ok (.lcmp, 1) := by decide +kernel
theorem own_d1_13 : decode prog_14_method_1_code 13 = .ok (.ifCond .ge 13, 3) := by decide +kernel
theorem own_d1_26 : decode prog_14_method_1_code 26 = .ok (.aload_n 0, 1) := by decide +kernel
theorem own_d1_27 : decode prog_14_method_1_code 27 = .ok (.lload_n 1, 1) := by decide +kernel
theorem own_d1_28 : decode prog_14_method_1_code 28 = .ok (.putfield 14, 3) := by decide +kernel
theorem own_d1_31 : decode prog_14_method_1_code 31 = .ok (.aload_n 0, 1) := by decide +kernel
theorem own_d1_32 : decode prog_14_method_1_code 32 = .ok (.lload_n 3, 1) := by decide +kernel
theorem own_d1_33 : decode prog_14_method_1_code 33 = .ok (.putfield 20, 3) := by decide +kernel
theorem own_d1_36 : decode prog_14_method_1_code 36 = .ok (.return_, 1) := by decide +kernel
theorem own_ef1 (m : MethodId) (x0 : Addr) (x1 : Int64) (x2 : Int64) : entryFrame m #[(.ref x0), (.long x1), (.long x2)] 5 = mkF m 0 #[.val (.ref x0), .val (.long x1), .second, .val (.long x2), .second] [] := by first | (simp [entryFrame, mkF, argsToLocals, Value.category]; done) | rfl
theorem own_pn1 : plainName "com/example/whole_roster/wholeroster/model/Quota" = true := by first | (simp [plainName, overriddenIn]; done) | decide +kernel
def own_m1_Q (Z : State) (a1 : Addr) (q2 : Int64) (q3 : Int64) (u_value_a1 : Value) (u_overage_a1 : Value) (h0 : Heap) (n0 : Nat) (v : Option Value) (h : Heap) (L : List Loc) : Prop := v = none ∧ Fr n0 L ∧ Keep h0 h [a1] ∧ Exa Z h a1 "com/example/whole_roster/wholeroster/model/Quota" ∧ Fld Z h a1 "com/example/whole_roster/wholeroster/model/Quota" "value" "J" (.long q2) ∧ Fld Z h a1 "com/example/whole_roster/wholeroster/model/Quota" "overage" "J" (.long q3)
set_option maxRecDepth 65536 in
set_option maxHeartbeats 40000000 in
theorem own_m1 (l : Launch) (Z : State) (a0 : Array Value) (hw : ∀ d ∈ tables_1, d.before a0 Z = true) (ws : List Jvm.Cond) (a1 : Addr) (q2 : Int64) (q3 : Int64) (u_value_a1 : Value) (u_overage_a1 : Value) (h0 : Heap) (n0 : Nat) (Z0 : n0 ≤ h0.size) (E_a1 : Exa Z h0 a1 "com/example/whole_roster/wholeroster/model/Quota") (F_value_a1 : Fld Z h0 a1 "com/example/whole_roster/wholeroster/model/Quota" "value" "J" u_value_a1) (g_a1 : n0 ≤ a1) (F_overage_a1 : Fld Z h0 a1 "com/example/whole_roster/wholeroster/model/Quota" "overage" "J" u_overage_a1) (hn_q2 : ¬ ((lcmpW q2 (0 : Int64)) < (0 : Int32))) (hn_q3 : ¬ ((lcmpW q3 (0 : Int64)) < (0 : Int32))) :
    MetFree l (⟨"com/example/whole_roster/wholeroster/model/Quota", "<init>", "(JJ)V"⟩ : MethodName) (head1 (Jvm.Cond.code (⟨"com/example/whole_roster/wholeroster/model/Quota", "<init>", "(JJ)V"⟩ : MethodName) prog_14_method_1_code 5 none :: ws) ({ frames := 1, cells := 0, slots := 0, locals := 12 } : Room)) (fun a U => a = #[(.ref a1), (.long q2), (.long q3)] ∧ Z.Warmed39 U.vm ∧ U.heap = h0) (fun _ _ _ _ _ => True) (fun _ U o U' => ∃ v L, o = .returned v ∧ own_m1_Q Z a1 q2 q3 u_value_a1 u_overage_a1 h0 n0 v U'.heap L ∧ FrameEnd U o U' L ({ frames := 1, cells := 0, slots := 0, locals := 12 } : Room).cells ({ frames := 1, cells := 0, slots := 0, locals := 12 } : Room).slots) := by
  refine MetFree.of_bodySF (plainFor_of_name own_pn1) hisR ?_
  intro p e s m args below meth c s₁ Bd hml0 hP hK
  obtain ⟨rfl, hZ, hh⟩ := hP
  have hx := Bd.exec
  have hby := Bd.bytes
  have hml : c.maxLocals = 5 := hml0
  have hown : s.vm.findClass "com/example/whole_roster/wholeroster/model/Quota" = some m.cls := findClass_of_methodNamed Bd.named
  have hnm := (name_of_methodNamed Bd.named Bd.method).1
  have X0 : Stand p l e ({ frames := 1, cells := 0, slots := 0, locals := 12 } : Room) s m #[(.ref a1), (.long q2), (.long q3)] below meth c s₁ [] 0 0 := Stand.of_body Bd
  have e0 : s₁.heap = h0 := by rw [← hh, Bd.state]; rfl
  have N0 := Fr.nil n0
  have k0 : own_To p.tables e below (s₁.setTop (entryFrame m #[(.ref a1), (.long q2), (.long q3)] 5)) s₁ (mkF m 0 #[.val (.ref a1), .val (.long q2), .second, .val (.long q3), .second] []) := fun t k => castTop (own_ef1 m a1 q2 q3) k
  have k1 : own_To p.tables e below (s₁.setTop (entryFrame m #[(.ref a1), (.long q2), (.long q3)] 5)) s₁ (mkF m 1 #[.val (.ref a1), .val (.long q2), .second, .val (.long q3), .second] [(.ref a1)]) := fun t k => k0 t (XS.aloadN X0.here hx rfl (hb hby own_d1_0) rfl rfl k)
  obtain ⟨T2, X2, e2, st2⟩ := initO X0 hx hZ hown (hw _ (List.mem_of_getElem? (i := 7) rfl)) (hw _ (List.mem_of_getElem? (i := 8) rfl)) (hw _ (List.mem_of_getElem? (i := 9) rfl)) e0 (g := (mkF m 1 #[.val (.ref a1), .val (.long q2), .second, .val (.long q3), .second] [(.ref a1)])) rfl (by rw [hml]; rfl) rfl (hb hby own_d1_1) (by decide) (W := 0) (by show 2 * 0 + _ ≤ _; exact Nat.le_of_eq rfl) (by decide)
  have k3 : own_To p.tables e below (s₁.setTop (entryFrame m #[(.ref a1), (.long q2), (.long q3)] 5)) T2 (mkF m 4 #[.val (.ref a1), .val (.long q2), .second, .val (.long q3), .second] []) := fun t k => k1 t (st2 t k)
  have k4 : own_To p.tables e below (s₁.setTop (entryFrame m #[(.ref a1), (.long q2), (.long q3)] 5)) T2 (mkF m 5 #[.val (.ref a1), .val (.long q2), .second, .val (.long q3), .second] [(.long q2)]) := fun t k => k3 t (XS.lloadN X2.here hx rfl (hb hby own_d1_4) rfl k)
  have k5 : own_To p.tables e below (s₁.setTop (entryFrame m #[(.ref a1), (.long q2), (.long q3)] 5)) T2 (mkF m 6 #[.val (.ref a1), .val (.long q2), .second, .val (.long q3), .second] [(.long (0 : Int64)), (.long q2)]) := fun t k => k4 t (XS.lconst X2.here hx rfl (hb hby own_d1_5) k)
  have k6 : own_To p.tables e below (s₁.setTop (entryFrame m #[(.ref a1), (.long q2), (.long q3)] 5)) T2 (mkF m 7 #[.val (.ref a1), .val (.long q2), .second, .val (.long q3), .second] [(.int (lcmpW q2 (0 : Int64)))]) := fun t k => k5 t (XS.lcmp X2.here hx rfl (hb hby own_d1_6) rfl k)
  have k7 : own_To p.tables e below (s₁.setTop (entryFrame m #[(.ref a1), (.long q2), (.long q3)] 5)) T2 (mkF m 10 #[.val (.ref a1), .val (.long q2), .second, .val (.long q3), .second] []) := fun t k => k6 t (XS.ifNo X2.here hx rfl (hb hby own_d1_7) rfl ((if0 _ _).trans (flt (show ¬ ((lcmpW q2 (0 : Int64)) < (0 : Int32)) from hn_q2)).1) k)
  have k8 : own_To p.tables e below (s₁.setTop (entryFrame m #[(.ref a1), (.long q2), (.long q3)] 5)) T2 (mkF m 11 #[.val (.ref a1), .val (.long q2), .second, .val (.long q3), .second] [(.long q3)]) := fun t k => k7 t (XS.lloadN X2.here hx rfl (hb hby own_d1_10) rfl k)
  have k9 : own_To p.tables e below (s₁.setTop (entryFrame m #[(.ref a1), (.long q2), (.long q3)] 5)) T2 (mkF m 12 #[.val (.ref a1), .val (.long q2), .second, .val (.long q3), .second] [(.long (0 : Int64)), (.long q3)]) := fun t k => k8 t (XS.lconst X2.here hx rfl (hb hby own_d1_11) k)
  have k10 : own_To p.tables e below (s₁.setTop (entryFrame m #[(.ref a1), (.long q2), (.long q3)] 5)) T2 (mkF m 13 #[.val (.ref a1), .val (.long q2), .second, .val (.long q3), .second] [(.int (lcmpW q3 (0 : Int64)))]) := fun t k => k9 t (XS.lcmp X2.here hx rfl (hb hby own_d1_12) rfl k)
  have k11 : own_To p.tables e below (s₁.setTop (entryFrame m #[(.ref a1), (.long q2), (.long q3)] 5)) T2 (mkF m 26 #[.val (.ref a1), .val (.long q2), .second, .val (.long q3), .second] []) := fun t k => k10 t (XS.ifYes X2.here hx rfl (pc0 := 13) (pc' := 26) rfl (hb hby own_d1_13) rfl ((if0 _ _).trans (flt (show ¬ ((lcmpW q3 (0 : Int64)) < (0 : Int32)) from hn_q3)).2.1) (by decide) (by decide) k)
  have k12 : own_To p.tables e below (s₁.setTop (entryFrame m #[(.ref a1), (.long q2), (.long q3)] 5)) T2 (mkF m 27 #[.val (.ref a1), .val (.long q2), .second, .val (.long q3), .second] [(.ref a1)]) := fun t k => k11 t (XS.aloadN X2.here hx rfl (hb hby own_d1_26) rfl rfl k)
  have k13 : own_To p.tables e below (s₁.setTop (entryFrame m #[(.ref a1), (.long q2), (.long q3)] 5)) T2 (mkF m 28 #[.val (.ref a1), .val (.long q2), .second, .val (.long q3), .second] [(.long q2), (.ref a1)]) := fun t k => k12 t (XS.lloadN X2.here hx rfl (hb hby own_d1_27) rfl k)
  obtain ⟨T14, h14, X14, e14, W14, st14⟩ := putF X2 hx hZ hown (host := "") (Or.inl (hw _ (List.mem_of_getElem? (i := 10) rfl))) Via.refl e2 F_value_a1 E_a1 (Or.inr ⟨(hw _ (List.mem_of_getElem? (i := 11) rfl)), rfl, hnm⟩) (hw _ (List.mem_of_getElem? (i := 2) rfl)) (ty := .long) (by decide) rfl rfl (g := (mkF m 28 #[.val (.ref a1), .val (.long q2), .second, .val (.long q3), .second] [(.long q2), (.ref a1)])) rfl rfl (hb hby own_d1_28)
  have Fw14 := F_value_a1.same W14
  have K14 : Keep h0 h14 [a1] := (Keep.refl h0 [a1]).wr W14 (Or.inl (List.mem_of_getElem? (i := 0) rfl))
  have N14 := Fr.snoc X14 N0 g_a1
  have Z14 : n0 ≤ h14.size := Nat.le_trans Z0 (Keep.of_wr W14).1
  have k15 : own_To p.tables e below (s₁.setTop (entryFrame m #[(.ref a1), (.long q2), (.long q3)] 5)) T14 (mkF m 31 #[.val (.ref a1), .val (.long q2), .second, .val (.long q3), .second] []) := fun t k => k13 t (st14 t k)
  have k16 : own_To p.tables e below (s₁.setTop (entryFrame m #[(.ref a1), (.long q2), (.long q3)] 5)) T14 (mkF m 32 #[.val (.ref a1), .val (.long q2), .second, .val (.long q3), .second] [(.ref a1)]) := fun t k => k15 t (XS.aloadN X14.here hx rfl (hb hby own_d1_31) rfl rfl k)
  have k17 : own_To p.tables e below (s₁.setTop (entryFrame m #[(.ref a1), (.long q2), (.long q3)] 5)) T14 (mkF m 33 #[.val (.ref a1), .val (.long q2), .second, .val (.long q3), .second] [(.long q3), (.ref a1)]) := fun t k => k16 t (XS.lloadN X14.here hx rfl (hb hby own_d1_32) rfl k)
  obtain ⟨T18, h18, X18, e18, W18, st18⟩ := putF X14 hx hZ hown (host := "") (Or.inl (hw _ (List.mem_of_getElem? (i := 12) rfl))) Via.refl e14 (F_overage_a1.other W14 (Or.inr (slot_ne (Or.inr (hw _ (List.mem_of_getElem? (i := 13) rfl))) (Or.inr (hw _ (List.mem_of_getElem? (i := 11) rfl))) (by decide) (t := .long) (t' := .long) (by decide) (by decide)))) (E_a1.wr W14) (Or.inr ⟨(hw _ (List.mem_of_getElem? (i := 13) rfl)), rfl, hnm⟩) (hw _ (List.mem_of_getElem? (i := 2) rfl)) (ty := .long) (by decide) rfl rfl (g := (mkF m 33 #[.val (.ref a1), .val (.long q2), .second, .val (.long q3), .second] [(.long q3), (.ref a1)])) rfl rfl (hb hby own_d1_33)
  have Fw18 := (F_overage_a1.other W14 (Or.inr (slot_ne (Or.inr (hw _ (List.mem_of_getElem? (i := 13) rfl))) (Or.inr (hw _ (List.mem_of_getElem? (i := 11) rfl))) (by decide) (t := .long) (t' := .long) (by decide) (by decide)))).same W18
  have K18 : Keep h0 h18 [a1] := K14.wr W18 (Or.inl (List.mem_of_getElem? (i := 0) rfl))
  have N18 := Fr.snoc X18 N14 g_a1
  have Z18 : n0 ≤ h18.size := Nat.le_trans Z14 (Keep.of_wr W18).1
  have k19 : own_To p.tables e below (s₁.setTop (entryFrame m #[(.ref a1), (.long q2), (.long q3)] 5)) T18 (mkF m 36 #[.val (.ref a1), .val (.long q2), .second, .val (.long q3), .second] []) := fun t k => k17 t (st18 t k)
  obtain ⟨fs, hr, hrun, hended, hW, hsame⟩ := X18.leave (v := none) (fun _ => rfl)
  refine ⟨_, _, k19 _ ?_, hrun, hended, _, _, rfl, ?_, ⟨_, rfl⟩, hW, hsame.mono (by decide) (by decide)⟩
  · exact X18.returnOut hx Bd.returns (hb hby own_d1_36) hr
  · show own_m1_Q Z a1 q2 q3 u_value_a1 u_overage_a1 h0 n0 _ T18.heap _
    rw [e18]
    exact ⟨rfl, N18, K18, ((E_a1.wr W14).wr W18), (Fw14.other W18 (Or.inr (slot_ne (Or.inr (hw _ (List.mem_of_getElem? (i := 11) rfl))) (Or.inr (hw _ (List.mem_of_getElem? (i := 13) rfl))) (by decide) (t := .long) (t' := .long) (by decide) (by decide)))), Fw18⟩
theorem own_d3_0 : decode prog_14_method_4_code 0 = .ok (.aload_n 0, 1) := by decide +kernel
theorem own_d3_1 : decode prog_14_method_4_code 1 = .ok (.getfield 14, 3) := by decide +kernel
theorem own_d3_4 : decode prog_14_method_4_code 4 = .ok (.ldc2_w 25, 3) := by decide +kernel
theorem own_d3_7 : decode prog_14_method_4_code 7 = .ok (.aload_n 0, 1) := by decide +kernel
theorem own_d3_8 : decode prog_14_method_4_code 8 = .ok (.getfield 20, 3) := by decide +kernel
theorem own_d3_11 : decode prog_14_method_4_code 11 = .ok (.lsub, 1) := by decide +kernel
theorem own_d3_12 : decode prog_14_method_4_code 12 = .ok (.lcmp, 1) := by decide +kernel
theorem own_d3_13 : decode prog_14_method_4_code 13 = .ok (.ifCond .le 9, 3) := by decide +kernel
theorem own_d3_16 : decode prog_14_method_4_code 16 = .ok (.ldc2_w 25, 3) := by decide +kernel
theorem own_d3_19 : decode prog_14_method_4_code 19 = .ok (.goto 12, 3) := by decide +kernel
theorem own_d3_31 : decode prog_14_method_4_code 31 = .ok (.lreturn, 1) := by decide +kernel
theorem own_d3_22 : decode prog_14_method_4_code 22 = .ok (.aload_n 0, 1) := by decide +kernel
theorem own_d3_23 : decode prog_14_method_4_code 23 = .ok (.getfield 14, 3) := by decide +kernel
theorem own_d3_26 : decode prog_14_method_4_code 26 = .ok (.aload_n 0, 1) := by decide +kernel
theorem own_d3_27 : decode prog_14_method_4_code 27 = .ok (.getfield 20, 3) := by decide +kernel
theorem own_d3_30 : decode prog_14_method_4_code 30 = .ok (.ladd, 1) := by decide +kernel
theorem own_ef3 (m : MethodId) (x0 : Addr) : entryFrame m #[(.ref x0)] 1 = mkF m 0 #[.val (.ref x0)] [] := by first | (simp [entryFrame, mkF, argsToLocals, Value.category]; done) | rfl
theorem own_pn3 : plainName "com/example/whole_roster/wholeroster/model/Quota" = true := by first | (simp [plainName, overriddenIn]; done) | decide +kernel
def own_lim (w_value_a1 : Int64) (w_overage_a1 : Int64) : Int64 := (if (0 : Int32) < (lcmpW w_value_a1 ((9223372036854775807 : Int64) - w_overage_a1)) then (9223372036854775807 : Int64) else (w_value_a1 + w_overage_a1))
set_option maxRecDepth 65536 in
set_option maxHeartbeats 40000000 in
theorem own_m3 (l : Launch) (Z : State) (a0 : Array Value) (hw : ∀ d ∈ tables_1, d.before a0 Z = true) (ws : List Jvm.Cond) (a1 : Addr) (w_value_a1 : Int64) (w_overage_a1 : Int64) (h0 : Heap) (n0 : Nat) (Z0 : n0 ≤ h0.size) (F_value_a1 : Fld Z h0 a1 "com/example/whole_roster/wholeroster/model/Quota" "value" "J" (.long w_value_a1)) (F_overage_a1 : Fld Z h0 a1 "com/example/whole_roster/wholeroster/model/Quota" "overage" "J" (.long w_overage_a1)) :
    MetFree l (⟨"com/example/whole_roster/wholeroster/model/Quota", "limit", "()J"⟩ : MethodName) (head1 (Jvm.Cond.code (⟨"com/example/whole_roster/wholeroster/model/Quota", "limit", "()J"⟩ : MethodName) prog_14_method_4_code 1 (some .long) :: ws) ({ frames := 0, cells := 0, slots := 0, locals := 0 } : Room)) (fun a U => a = #[(.ref a1)] ∧ Z.Warmed39 U.vm ∧ U.heap = h0) (fun _ _ _ _ _ => True) (fun _ U o U' => ∃ v L, o = .returned v ∧ own_Q (some (.long (own_lim w_value_a1 w_overage_a1))) h0 n0 v U'.heap L ∧ FrameEnd U o U' L ({ frames := 0, cells := 0, slots := 0, locals := 0 } : Room).cells ({ frames := 0, cells := 0, slots := 0, locals := 0 } : Room).slots) := by
  refine MetFree.of_bodySF (plainFor_of_name own_pn3) hisR ?_
  intro p e s m args below meth c s₁ Bd hml0 hP hK
  obtain ⟨rfl, hZ, hh⟩ := hP
  have hx := Bd.exec
  have hby := Bd.bytes
  have hml : c.maxLocals = 1 := hml0
  have hown : s.vm.findClass "com/example/whole_roster/wholeroster/model/Quota" = some m.cls := findClass_of_methodNamed Bd.named
  have hnm := (name_of_methodNamed Bd.named Bd.method).1
  have X0 : Stand p l e ({ frames := 0, cells := 0, slots := 0, locals := 0 } : Room) s m #[(.ref a1)] below meth c s₁ [] 0 0 := Stand.of_body Bd
  have e0 : s₁.heap = h0 := by rw [← hh, Bd.state]; rfl
  have N0 := Fr.nil n0
  have k0 : own_To p.tables e below (s₁.setTop (entryFrame m #[(.ref a1)] 1)) s₁ (mkF m 0 #[.val (.ref a1)] []) := fun t k => castTop (own_ef3 m a1) k
  have k1 : own_To p.tables e below (s₁.setTop (entryFrame m #[(.ref a1)] 1)) s₁ (mkF m 1 #[.val (.ref a1)] [(.ref a1)]) := fun t k => k0 t (XS.aloadN X0.here hx rfl (hb hby own_d3_0) rfl rfl k)
  obtain ⟨T2, X2, e2, st2⟩ := getF X0 hx hZ hown (host := "") (Or.inl (hw _ (List.mem_of_getElem? (i := 10) rfl))) Via.refl e0 F_value_a1 (g := (mkF m 1 #[.val (.ref a1)] [(.ref a1)])) rfl rfl (hb hby own_d3_1)
  have k3 : own_To p.tables e below (s₁.setTop (entryFrame m #[(.ref a1)] 1)) T2 (mkF m 4 #[.val (.ref a1)] [(.long w_value_a1)]) := fun t k => k1 t (st2 t k)
  have k4 : own_To p.tables e below (s₁.setTop (entryFrame m #[(.ref a1)] 1)) T2 (mkF m 7 #[.val (.ref a1)] [(.long (9223372036854775807 : Int64)), (.long w_value_a1)]) := fun t k => k3 t (X2.ldc2Long hx hown (mvT hZ (hw _ (List.mem_of_getElem? (i := 19) rfl))) (g := (mkF m 4 #[.val (.ref a1)] [(.long w_value_a1)])) rfl (hb hby own_d3_4) _ k)
  have k5 : own_To p.tables e below (s₁.setTop (entryFrame m #[(.ref a1)] 1)) T2 (mkF m 8 #[.val (.ref a1)] [(.ref a1), (.long (9223372036854775807 : Int64)), (.long w_value_a1)]) := fun t k => k4 t (XS.aloadN X2.here hx rfl (hb hby own_d3_7) rfl rfl k)
  obtain ⟨T6, X6, e6, st6⟩ := getF X2 hx hZ hown (host := "") (Or.inl (hw _ (List.mem_of_getElem? (i := 12) rfl))) Via.refl e2 F_overage_a1 (g := (mkF m 8 #[.val (.ref a1)] [(.ref a1), (.long (9223372036854775807 : Int64)), (.long w_value_a1)])) rfl rfl (hb hby own_d3_8)
  have k7 : own_To p.tables e below (s₁.setTop (entryFrame m #[(.ref a1)] 1)) T6 (mkF m 11 #[.val (.ref a1)] [(.long w_overage_a1), (.long (9223372036854775807 : Int64)), (.long w_value_a1)]) := fun t k => k5 t (st6 t k)
  have k8 : own_To p.tables e below (s₁.setTop (entryFrame m #[(.ref a1)] 1)) T6 (mkF m 12 #[.val (.ref a1)] [(.long ((9223372036854775807 : Int64) - w_overage_a1)), (.long w_value_a1)]) := fun t k => k7 t (XS.lsub X6.here hx rfl (hb hby own_d3_11) rfl k)
  have k9 : own_To p.tables e below (s₁.setTop (entryFrame m #[(.ref a1)] 1)) T6 (mkF m 13 #[.val (.ref a1)] [(.int (lcmpW w_value_a1 ((9223372036854775807 : Int64) - w_overage_a1)))]) := fun t k => k8 t (XS.lcmp X6.here hx rfl (hb hby own_d3_12) rfl k)
  by_cases hc10 : (0 : Int32) < (lcmpW w_value_a1 ((9223372036854775807 : Int64) - w_overage_a1))
  · have k11 : own_To p.tables e below (s₁.setTop (entryFrame m #[(.ref a1)] 1)) T6 (mkF m 16 #[.val (.ref a1)] []) := fun t k => k9 t (XS.ifNo X6.here hx rfl (hb hby own_d3_13) rfl ((if0 _ _).trans (tlt (show (0 : Int32) < (lcmpW w_value_a1 ((9223372036854775807 : Int64) - w_overage_a1)) from hc10)).2.2.2) k)
    have k12 : own_To p.tables e below (s₁.setTop (entryFrame m #[(.ref a1)] 1)) T6 (mkF m 19 #[.val (.ref a1)] [(.long (9223372036854775807 : Int64))]) := fun t k => k11 t (X6.ldc2Long hx hown (mvT hZ (hw _ (List.mem_of_getElem? (i := 19) rfl))) (g := (mkF m 16 #[.val (.ref a1)] [])) rfl (hb hby own_d3_16) _ k)
    have k13 : own_To p.tables e below (s₁.setTop (entryFrame m #[(.ref a1)] 1)) T6 (mkF m 31 #[.val (.ref a1)] [(.long (9223372036854775807 : Int64))]) := fun t k => k12 t (XS.goto X6.here hx rfl (pc0 := 19) (pc' := 31) rfl (hb hby own_d3_19) (by decide) (by decide) k)
    obtain ⟨fs, hr, hrun, hended, hW, hsame⟩ := X6.leave (v := some (.long (9223372036854775807 : Int64))) (fun h => by rw [Bd.returns] at h; cases h)
    refine ⟨_, _, k13 _ ?_, hrun, hended, _, _, rfl, ?_, ⟨_, rfl⟩, hW, hsame.mono (by decide) (by decide)⟩
    · jvm_step X6.here [X6.here.top, hx, (hb hby own_d3_31), X6.method', Bd.returns, narrow]
      first | (intro acts; rw [hr _ acts rfl rfl rfl]) | rw [hr _ _ rfl rfl rfl]
      exact Steps.refl _
    · refine ⟨?_, N0, e6⟩
      rw [show (own_lim w_value_a1 w_overage_a1) = (9223372036854775807 : Int64) from by unfold own_lim; rw [if_pos hc10]]
  · have k14 : own_To p.tables e below (s₁.setTop (entryFrame m #[(.ref a1)] 1)) T6 (mkF m 22 #[.val (.ref a1)] []) := fun t k => k9 t (XS.ifYes X6.here hx rfl (pc0 := 13) (pc' := 22) rfl (hb hby own_d3_13) rfl ((if0 _ _).trans (flt (show ¬ ((0 : Int32) < (lcmpW w_value_a1 ((9223372036854775807 : Int64) - w_overage_a1))) from hc10)).2.2.2) (by decide) (by decide) k)
    have k15 : own_To p.tables e below (s₁.setTop (entryFrame m #[(.ref a1)] 1)) T6 (mkF m 23 #[.val (.ref a1)] [(.ref a1)]) := fun t k => k14 t (XS.aloadN X6.here hx rfl (hb hby own_d3_22) rfl rfl k)
    obtain ⟨T16, X16, e16, st16⟩ := getF X6 hx hZ hown (host := "") (Or.inl (hw _ (List.mem_of_getElem? (i := 10) rfl))) Via.refl e6 F_value_a1 (g := (mkF m 23 #[.val (.ref a1)] [(.ref a1)])) rfl rfl (hb hby own_d3_23)
    have k17 : own_To p.tables e below (s₁.setTop (entryFrame m #[(.ref a1)] 1)) T16 (mkF m 26 #[.val (.ref a1)] [(.long w_value_a1)]) := fun t k => k15 t (st16 t k)
    have k18 : own_To p.tables e below (s₁.setTop (entryFrame m #[(.ref a1)] 1)) T16 (mkF m 27 #[.val (.ref a1)] [(.ref a1), (.long w_value_a1)]) := fun t k => k17 t (XS.aloadN X16.here hx rfl (hb hby own_d3_26) rfl rfl k)
    obtain ⟨T19, X19, e19, st19⟩ := getF X16 hx hZ hown (host := "") (Or.inl (hw _ (List.mem_of_getElem? (i := 12) rfl))) Via.refl e16 F_overage_a1 (g := (mkF m 27 #[.val (.ref a1)] [(.ref a1), (.long w_value_a1)])) rfl rfl (hb hby own_d3_27)
    have k20 : own_To p.tables e below (s₁.setTop (entryFrame m #[(.ref a1)] 1)) T19 (mkF m 30 #[.val (.ref a1)] [(.long w_overage_a1), (.long w_value_a1)]) := fun t k => k18 t (st19 t k)
    have k21 : own_To p.tables e below (s₁.setTop (entryFrame m #[(.ref a1)] 1)) T19 (mkF m 31 #[.val (.ref a1)] [(.long (w_value_a1 + w_overage_a1))]) := fun t k => k20 t (XS.ladd X19.here hx rfl (hb hby own_d3_30) rfl k)
    obtain ⟨fs, hr, hrun, hended, hW, hsame⟩ := X19.leave (v := some (.long (w_value_a1 + w_overage_a1))) (fun h => by rw [Bd.returns] at h; cases h)
    refine ⟨_, _, k21 _ ?_, hrun, hended, _, _, rfl, ?_, ⟨_, rfl⟩, hW, hsame.mono (by decide) (by decide)⟩
    · jvm_step X19.here [X19.here.top, hx, (hb hby own_d3_31), X19.method', Bd.returns, narrow]
      first | (intro acts; rw [hr _ acts rfl rfl rfl]) | rw [hr _ _ rfl rfl rfl]
      exact Steps.refl _
    · refine ⟨?_, N0, e19⟩
      rw [show (own_lim w_value_a1 w_overage_a1) = (w_value_a1 + w_overage_a1) from by unfold own_lim; rw [if_neg hc10]]
theorem own_lim_big (v o : Int64) (hv : 0 ≤ v.toInt) (ho : 0 ≤ o.toInt) (h : lcmpW (v + o) (0 : Int64) < (0 : Int32)) : lcmpW (own_lim v o) (9223372036854775807 : Int64) = (0 : Int32) := by
  rw [lw_lt, Int64.lt_iff_toInt_lt] at h
  have e : (0 : Int64).toInt = 0 := rfl
  have eM : (9223372036854775807 : Int64).toInt = 9223372036854775807 := by decide
  have a1 := c_ladd v o
  have a2 := c_lsub (9223372036854775807 : Int64) o
  have r1 := rng64 v
  have r2 := rng64 o
  have r3 := rng64 (v + o)
  have r4 := rng64 ((9223372036854775807 : Int64) - o)
  have p : (0 : Int32) < lcmpW v ((9223372036854775807 : Int64) - o) := by
    rw [lw_gt, Int64.lt_iff_toInt_lt]; omega
  rw [own_lim, if_pos p, lw_eq]
theorem own_lim_fit (v o : Int64) (hv : 0 ≤ v.toInt) (ho : 0 ≤ o.toInt) (h : ¬ (lcmpW (v + o) (0 : Int64) < (0 : Int32))) : lcmpW (own_lim v o) (v + o) = (0 : Int32) := by
  rw [lw_lt, Int64.lt_iff_toInt_lt] at h
  have e : (0 : Int64).toInt = 0 := rfl
  have eM : (9223372036854775807 : Int64).toInt = 9223372036854775807 := by decide
  have a1 := c_ladd v o
  have a2 := c_lsub (9223372036854775807 : Int64) o
  have r1 := rng64 v
  have r2 := rng64 o
  have r3 := rng64 (v + o)
  have r4 := rng64 ((9223372036854775807 : Int64) - o)
  have p : ¬ ((0 : Int32) < lcmpW v ((9223372036854775807 : Int64) - o)) := by
    rw [lw_gt, Int64.lt_iff_toInt_lt]; omega
  rw [own_lim, if_neg p, lw_eq]
theorem own_pd0 : parseMethodDescriptor "(JJ)V" = some ⟨[.long, .long], none⟩ := by decide +kernel
theorem own_pd1 : parseMethodDescriptor "()J" = some ⟨[], some .long⟩ := by decide +kernel
theorem own_ef0 (m : MethodId) (x0 : Int64) (x1 : Int64) : entryFrame m #[(.long x0), (.long x1)] maxLocals = mkF m 0 #[.val (.long x0), .second, .val (.long x1), .second, .unset, .unset, .unset, .unset, .unset, .unset, .unset, .unset, .unset, .unset, .unset] [] := by first | (simp [entryFrame, mkF, argsToLocals, Value.category, maxLocals]; done) | rfl
theorem own_pn0 : plainName "com/example/whole_roster/wholeroster/model/QuotaLimitPinLaw" = true := by first | (simp [plainName, overriddenIn]; done) | decide +kernel
def own_Q0 (n0 : Nat) (v : Option Value) (L : List Loc) : Prop := v = some (.int (1 : Int32)) ∧ Fr n0 L
set_option maxRecDepth 65536 in
set_option maxHeartbeats 40000000 in
theorem own_m0 (l : Launch) (Z : State) (a0 : Array Value) (hw : ∀ d ∈ tables_1, d.before a0 Z = true) (ws : List Jvm.Cond) (q1 : Int64) (q2 : Int64) (h0 : Heap) (n0 : Nat) (Z0 : n0 ≤ h0.size) :
    MetFree l x (head1 (Jvm.Cond.code x code maxLocals ret :: ws) room_1) (fun a U => a = #[(.long q1), (.long q2)] ∧ Z.Warmed39 U.vm ∧ U.heap = h0) (fun _ _ _ _ _ => True) (fun _ U o U' => ∃ v L, o = .returned v ∧ own_Q0 n0 v L ∧ FrameEnd U o U' L room_1.cells room_1.slots) := by
  refine MetFree.of_bodySF (plainFor_of_name own_pn0) hisR ?_
  intro p e s m args below meth c s₁ Bd hml0 hP hK
  obtain ⟨rfl, hZ, hh⟩ := hP
  have hx := Bd.exec
  have hby := Bd.bytes
  have hml : c.maxLocals = 15 := hml0
  have hown : s.vm.findClass "com/example/whole_roster/wholeroster/model/QuotaLimitPinLaw" = some m.cls := findClass_of_methodNamed Bd.named
  have hnm := (name_of_methodNamed Bd.named Bd.method).1
  have X0 : Stand p l e room_1 s m #[(.long q1), (.long q2)] below meth c s₁ [] 0 0 := Stand.of_body Bd
  have e0 : s₁.heap = h0 := by rw [← hh, Bd.state]; rfl
  have N0 := Fr.nil n0
  have k0 : own_To p.tables e below (s₁.setTop (entryFrame m #[(.long q1), (.long q2)] maxLocals)) s₁ (mkF m 0 #[.val (.long q1), .second, .val (.long q2), .second, .unset, .unset, .unset, .unset, .unset, .unset, .unset, .unset, .unset, .unset, .unset] []) := fun t k => castTop (own_ef0 m q1 q2) k
  have k1 : own_To p.tables e below (s₁.setTop (entryFrame m #[(.long q1), (.long q2)] maxLocals)) s₁ (mkF m 1 #[.val (.long q1), .second, .val (.long q2), .second, .unset, .unset, .unset, .unset, .unset, .unset, .unset, .unset, .unset, .unset, .unset] [(.long q1)]) := fun t k => k0 t (XS.lloadN X0.here hx rfl (hb hby at_0) rfl k)
  have k2 : own_To p.tables e below (s₁.setTop (entryFrame m #[(.long q1), (.long q2)] maxLocals)) s₁ (mkF m 4 #[.val (.long q1), .second, .val (.long q2), .second, .unset, .unset, .unset, .unset, .unset, .unset, .unset, .unset, .unset, .unset, .unset] [(.long (9223372036854775807 : Int64)), (.long q1)]) := fun t k => k1 t (X0.ldc2Long hx hown (mvT hZ (hw _ (List.mem_of_getElem? (i := 0) rfl))) (g := (mkF m 1 #[.val (.long q1), .second, .val (.long q2), .second, .unset, .unset, .unset, .unset, .unset, .unset, .unset, .unset, .unset, .unset, .unset] [(.long q1)])) rfl (hb hby at_1) _ k)
  have k3 : own_To p.tables e below (s₁.setTop (entryFrame m #[(.long q1), (.long q2)] maxLocals)) s₁ (mkF m 5 #[.val (.long q1), .second, .val (.long q2), .second, .unset, .unset, .unset, .unset, .unset, .unset, .unset, .unset, .unset, .unset, .unset] [(.long (q1 &&& (9223372036854775807 : Int64)))]) := fun t k => k2 t (XS.land X0.here hx rfl (hb hby at_4) rfl k)
  have k4 : own_To p.tables e below (s₁.setTop (entryFrame m #[(.long q1), (.long q2)] maxLocals)) s₁ (mkF m 7 #[.val (.long q1), .second, .val (.long q2), .second, .val (.long (q1 &&& (9223372036854775807 : Int64))), .second, .unset, .unset, .unset, .unset, .unset, .unset, .unset, .unset, .unset] []) := fun t k => k3 t (XS.lstore X0.here hx rfl (hb hby at_5) rfl (l' := #[.val (.long q1), .second, .val (.long q2), .second, .val (.long (q1 &&& (9223372036854775807 : Int64))), .second, .unset, .unset, .unset, .unset, .unset, .unset, .unset, .unset, .unset]) rfl k)
  have k5 : own_To p.tables e below (s₁.setTop (entryFrame m #[(.long q1), (.long q2)] maxLocals)) s₁ (mkF m 8 #[.val (.long q1), .second, .val (.long q2), .second, .val (.long (q1 &&& (9223372036854775807 : Int64))), .second, .unset, .unset, .unset, .unset, .unset, .unset, .unset, .unset, .unset] [(.long q2)]) := fun t k => k4 t (XS.lloadN X0.here hx rfl (hb hby at_7) rfl k)
  have k6 : own_To p.tables e below (s₁.setTop (entryFrame m #[(.long q1), (.long q2)] maxLocals)) s₁ (mkF m 11 #[.val (.long q1), .second, .val (.long q2), .second, .val (.long (q1 &&& (9223372036854775807 : Int64))), .second, .unset, .unset, .unset, .unset, .unset, .unset, .unset, .unset, .unset] [(.long (9223372036854775807 : Int64)), (.long q2)]) := fun t k => k5 t (X0.ldc2Long hx hown (mvT hZ (hw _ (List.mem_of_getElem? (i := 0) rfl))) (g := (mkF m 8 #[.val (.long q1), .second, .val (.long q2), .second, .val (.long (q1 &&& (9223372036854775807 : Int64))), .second, .unset, .unset, .unset, .unset, .unset, .unset, .unset, .unset, .unset] [(.long q2)])) rfl (hb hby at_8) _ k)
  have k7 : own_To p.tables e below (s₁.setTop (entryFrame m #[(.long q1), (.long q2)] maxLocals)) s₁ (mkF m 12 #[.val (.long q1), .second, .val (.long q2), .second, .val (.long (q1 &&& (9223372036854775807 : Int64))), .second, .unset, .unset, .unset, .unset, .unset, .unset, .unset, .unset, .unset] [(.long (q2 &&& (9223372036854775807 : Int64)))]) := fun t k => k6 t (XS.land X0.here hx rfl (hb hby at_11) rfl k)
  have k8 : own_To p.tables e below (s₁.setTop (entryFrame m #[(.long q1), (.long q2)] maxLocals)) s₁ (mkF m 14 #[.val (.long q1), .second, .val (.long q2), .second, .val (.long (q1 &&& (9223372036854775807 : Int64))), .second, .val (.long (q2 &&& (9223372036854775807 : Int64))), .second, .unset, .unset, .unset, .unset, .unset, .unset, .unset] []) := fun t k => k7 t (XS.lstore X0.here hx rfl (hb hby at_12) rfl (l' := #[.val (.long q1), .second, .val (.long q2), .second, .val (.long (q1 &&& (9223372036854775807 : Int64))), .second, .val (.long (q2 &&& (9223372036854775807 : Int64))), .second, .unset, .unset, .unset, .unset, .unset, .unset, .unset]) rfl k)
  obtain ⟨T9, h9, X9, e9, E9, A9, D9, -, st9⟩ := newO X0 hx hZ hown (hw _ (List.mem_of_getElem? (i := 1) rfl)) (hw _ (List.mem_of_getElem? (i := 2) rfl)) (hw _ (List.mem_of_getElem? (i := 3) rfl)) e0 (g := (mkF m 14 #[.val (.long q1), .second, .val (.long q2), .second, .val (.long (q1 &&& (9223372036854775807 : Int64))), .second, .val (.long (q2 &&& (9223372036854775807 : Int64))), .second, .unset, .unset, .unset, .unset, .unset, .unset, .unset] [])) rfl (hb hby at_14) (by decide) (by decide)
  obtain ⟨b9, g9⟩ : ∃ z, z = h0.size := ⟨_, rfl⟩
  rw [← g9] at A9 D9 st9
  have ge_b9 : n0 ≤ b9 := Nat.le_trans Z0 (Nat.le_of_eq g9.symm)
  have sz_b9 : h0.size ≤ b9 := Nat.le_trans (Keep.refl h0 []).1 (Nat.le_of_eq g9.symm)
  have Z9 : n0 ≤ h9.size := Nat.le_trans Z0 E9.1
  have K9 : Keep h0 h9 [] := (Keep.refl h0 []).ext E9
  have F_value_b9 : Fld Z h9 b9 "com/example/whole_roster/wholeroster/model/Quota" "value" "J" (.long (0 : Int64)) := D9 (Or.inr (hw _ (List.mem_of_getElem? (i := 11) rfl))) (ty := .long) (by decide)
  have F_overage_b9 : Fld Z h9 b9 "com/example/whole_roster/wholeroster/model/Quota" "overage" "J" (.long (0 : Int64)) := D9 (Or.inr (hw _ (List.mem_of_getElem? (i := 13) rfl))) (ty := .long) (by decide)
  have k10 : own_To p.tables e below (s₁.setTop (entryFrame m #[(.long q1), (.long q2)] maxLocals)) T9 (mkF m 17 #[.val (.long q1), .second, .val (.long q2), .second, .val (.long (q1 &&& (9223372036854775807 : Int64))), .second, .val (.long (q2 &&& (9223372036854775807 : Int64))), .second, .unset, .unset, .unset, .unset, .unset, .unset, .unset] [(.ref b9)]) := fun t k => k8 t (st9 t k)
  have k11 : own_To p.tables e below (s₁.setTop (entryFrame m #[(.long q1), (.long q2)] maxLocals)) T9 (mkF m 18 #[.val (.long q1), .second, .val (.long q2), .second, .val (.long (q1 &&& (9223372036854775807 : Int64))), .second, .val (.long (q2 &&& (9223372036854775807 : Int64))), .second, .unset, .unset, .unset, .unset, .unset, .unset, .unset] [(.ref b9), (.ref b9)]) := fun t k => k10 t (XS.dup X9.here hx rfl (hb hby at_17) rfl rfl k)
  have k12 : own_To p.tables e below (s₁.setTop (entryFrame m #[(.long q1), (.long q2)] maxLocals)) T9 (mkF m 20 #[.val (.long q1), .second, .val (.long q2), .second, .val (.long (q1 &&& (9223372036854775807 : Int64))), .second, .val (.long (q2 &&& (9223372036854775807 : Int64))), .second, .unset, .unset, .unset, .unset, .unset, .unset, .unset] [(.long (q1 &&& (9223372036854775807 : Int64))), (.ref b9), (.ref b9)]) := fun t k => k11 t (XS.lload X9.here hx rfl (hb hby at_18) rfl k)
  have k13 : own_To p.tables e below (s₁.setTop (entryFrame m #[(.long q1), (.long q2)] maxLocals)) T9 (mkF m 22 #[.val (.long q1), .second, .val (.long q2), .second, .val (.long (q1 &&& (9223372036854775807 : Int64))), .second, .val (.long (q2 &&& (9223372036854775807 : Int64))), .second, .unset, .unset, .unset, .unset, .unset, .unset, .unset] [(.long (q2 &&& (9223372036854775807 : Int64))), (.long (q1 &&& (9223372036854775807 : Int64))), (.ref b9), (.ref b9)]) := fun t k => k12 t (XS.lload X9.here hx rfl (hb hby at_20) rfl k)
  obtain ⟨_, _, ⟨T14, L14, k14, n14⟩, -, X14, ⟨Lc14, hQ14, l14, y14, z14⟩, st14⟩ := X9.specialBack hx (y := (⟨"com/example/whole_roster/wholeroster/model/Quota", "<init>", "(JJ)V"⟩ : MethodName)) rfl hown (mvT hZ (hw _ (List.mem_of_getElem? (i := 4) rfl))) (mvT hZ (hw _ (List.mem_of_getElem? (i := 5) rfl))) (mvT hZ (hw _ (List.mem_of_getElem? (i := 6) rfl))) (by decide) (backOf (W := 1) (own_m1 l Z a0 hw [] b9 (q1 &&& (9223372036854775807 : Int64)) (q2 &&& (9223372036854775807 : Int64)) (.long (0 : Int64)) (.long (0 : Int64)) h9 n0 Z9 A9 F_value_b9 ge_b9 F_overage_b9 (own_nn _) (own_nn _)) hZ (hw _ (List.mem_of_getElem? (i := 6) rfl)) (hw _ (List.mem_of_getElem? (i := 3) rfl)) (by decide) (by decide)) (g := (mkF m 22 #[.val (.long q1), .second, .val (.long q2), .second, .val (.long (q1 &&& (9223372036854775807 : Int64))), .second, .val (.long (q2 &&& (9223372036854775807 : Int64))), .second, .unset, .unset, .unset, .unset, .unset, .unset, .unset] [(.long (q2 &&& (9223372036854775807 : Int64))), (.long (q1 &&& (9223372036854775807 : Int64))), (.ref b9), (.ref b9)])) rfl (by rw [hml]; rfl) (Steps.refl _) (a := b9) (argsL := [(.long (q1 &&& (9223372036854775807 : Int64))), (.long (q2 &&& (9223372036854775807 : Int64)))]) (rest := [(.ref b9)]) (lenOf own_pd0 rfl) rfl (by show 2 * 0 + _ ≤ _; exact Nat.le_of_eq rfl) (hb hby at_22) (fun _ _ => ⟨rfl, e9, (by decide : 1 + 0 ≤ _), (by decide : 2 + 0 ≤ _)⟩)
  dsimp only [Pt.U, Pt.locs, Pt.cells, Pt.slots] at X14 l14 y14 z14 st14 hQ14
  subst l14 y14 z14
  obtain ⟨h14, e14⟩ : ∃ z, T14.heap = z := ⟨_, rfl⟩
  rw [e14] at hQ14
  obtain ⟨rfl, N14q, KC14, EC14_0, FC14_0, FC14_1⟩ := hQ14
  have KK14 : Keep h0 h14 [] := K9.trans KC14 (allS (Or.inr sz_b9) all0)
  have Z14 : n0 ≤ h14.size := Nat.le_trans Z9 KC14.1
  have N14 := Fr.app N0 N14q
  have k15 : own_To p.tables e below (s₁.setTop (entryFrame m #[(.long q1), (.long q2)] maxLocals)) T14 (mkF m 25 #[.val (.long q1), .second, .val (.long q2), .second, .val (.long (q1 &&& (9223372036854775807 : Int64))), .second, .val (.long (q2 &&& (9223372036854775807 : Int64))), .second, .unset, .unset, .unset, .unset, .unset, .unset, .unset] [(.ref b9)]) := fun t k => k13 t (st14.trans k)
  have k16 : own_To p.tables e below (s₁.setTop (entryFrame m #[(.long q1), (.long q2)] maxLocals)) T14 (mkF m 27 #[.val (.long q1), .second, .val (.long q2), .second, .val (.long (q1 &&& (9223372036854775807 : Int64))), .second, .val (.long (q2 &&& (9223372036854775807 : Int64))), .second, .val (.ref b9), .unset, .unset, .unset, .unset, .unset, .unset] []) := fun t k => k15 t (XS.astore X14.here hx rfl (hb hby at_25) rfl rfl (l' := #[.val (.long q1), .second, .val (.long q2), .second, .val (.long (q1 &&& (9223372036854775807 : Int64))), .second, .val (.long (q2 &&& (9223372036854775807 : Int64))), .second, .val (.ref b9), .unset, .unset, .unset, .unset, .unset, .unset]) rfl k)
  have k17 : own_To p.tables e below (s₁.setTop (entryFrame m #[(.long q1), (.long q2)] maxLocals)) T14 (mkF m 29 #[.val (.long q1), .second, .val (.long q2), .second, .val (.long (q1 &&& (9223372036854775807 : Int64))), .second, .val (.long (q2 &&& (9223372036854775807 : Int64))), .second, .val (.ref b9), .unset, .unset, .unset, .unset, .unset, .unset] [(.ref b9)]) := fun t k => k16 t (XS.aload X14.here hx rfl (hb hby at_27) rfl rfl k)
  obtain ⟨cq18, kq18, q18a, q18b, q18c⟩ := isOf hZ e14 EC14_0
  obtain ⟨_, _, ⟨T18, L18, k18, n18⟩, -, X18, ⟨Lc18, hQ18, l18, y18, z18⟩, st18⟩ := X14.virtualBack hx (y := (⟨"com/example/whole_roster/wholeroster/model/Quota", "limit", "()J"⟩ : MethodName)) (z := (⟨"com/example/whole_roster/wholeroster/model/Quota", "limit", "()J"⟩ : MethodName)) hown (mvT hZ (hw _ (List.mem_of_getElem? (i := 14) rfl))) (mvT hZ (hw _ (List.mem_of_getElem? (i := 15) rfl))) (notFace_of_selects (args := #[]) (mvT hZ (hw _ (List.mem_of_getElem? (i := 17) rfl)))) (mvT hZ (hw _ (List.mem_of_getElem? (i := 17) rfl))) (mvT hZ (hw _ (List.mem_of_getElem? (i := 16) rfl))) (by decide) (backOf (W := 0) (own_m3 l Z a0 hw [] b9 (q1 &&& (9223372036854775807 : Int64)) (q2 &&& (9223372036854775807 : Int64)) h14 n0 Z14 FC14_0 FC14_1) hZ (hw _ (List.mem_of_getElem? (i := 18) rfl)) (hw _ (List.mem_of_getElem? (i := 3) rfl)) (by decide) (by decide)) q18a q18c (g := (mkF m 29 #[.val (.long q1), .second, .val (.long q2), .second, .val (.long (q1 &&& (9223372036854775807 : Int64))), .second, .val (.long (q2 &&& (9223372036854775807 : Int64))), .second, .val (.ref b9), .unset, .unset, .unset, .unset, .unset, .unset] [(.ref b9)])) rfl (by rw [hml]; rfl) (Steps.refl _) (argsL := []) (rest := []) (lenOf own_pd1 rfl) rfl (by show 2 * 0 + _ ≤ _; exact Nat.le_of_eq rfl) (hb hby at_29) (fun _ _ => ⟨rfl, e14, (by decide : 1 + 0 ≤ _), (by decide : 2 + 0 ≤ _)⟩)
  dsimp only [Pt.U, Pt.locs, Pt.cells, Pt.slots] at X18 l18 y18 z18 st18 hQ18
  subst l18 y18 z18
  obtain ⟨rfl, N18q, e18⟩ := hQ18
  have N18 := Fr.app N14 N18q
  have k19 : own_To p.tables e below (s₁.setTop (entryFrame m #[(.long q1), (.long q2)] maxLocals)) T18 (mkF m 32 #[.val (.long q1), .second, .val (.long q2), .second, .val (.long (q1 &&& (9223372036854775807 : Int64))), .second, .val (.long (q2 &&& (9223372036854775807 : Int64))), .second, .val (.ref b9), .unset, .unset, .unset, .unset, .unset, .unset] [(.long (own_lim (q1 &&& (9223372036854775807 : Int64)) (q2 &&& (9223372036854775807 : Int64))))]) := fun t k => k17 t (st18.trans k)
  have k20 : own_To p.tables e below (s₁.setTop (entryFrame m #[(.long q1), (.long q2)] maxLocals)) T18 (mkF m 34 #[.val (.long q1), .second, .val (.long q2), .second, .val (.long (q1 &&& (9223372036854775807 : Int64))), .second, .val (.long (q2 &&& (9223372036854775807 : Int64))), .second, .val (.ref b9), .val (.long (own_lim (q1 &&& (9223372036854775807 : Int64)) (q2 &&& (9223372036854775807 : Int64)))), .second, .unset, .unset, .unset, .unset] []) := fun t k => k19 t (XS.lstore X18.here hx rfl (hb hby at_32) rfl (l' := #[.val (.long q1), .second, .val (.long q2), .second, .val (.long (q1 &&& (9223372036854775807 : Int64))), .second, .val (.long (q2 &&& (9223372036854775807 : Int64))), .second, .val (.ref b9), .val (.long (own_lim (q1 &&& (9223372036854775807 : Int64)) (q2 &&& (9223372036854775807 : Int64)))), .second, .unset, .unset, .unset, .unset]) rfl k)
  have k21 : own_To p.tables e below (s₁.setTop (entryFrame m #[(.long q1), (.long q2)] maxLocals)) T18 (mkF m 36 #[.val (.long q1), .second, .val (.long q2), .second, .val (.long (q1 &&& (9223372036854775807 : Int64))), .second, .val (.long (q2 &&& (9223372036854775807 : Int64))), .second, .val (.ref b9), .val (.long (own_lim (q1 &&& (9223372036854775807 : Int64)) (q2 &&& (9223372036854775807 : Int64)))), .second, .unset, .unset, .unset, .unset] [(.long (q1 &&& (9223372036854775807 : Int64)))]) := fun t k => k20 t (XS.lload X18.here hx rfl (hb hby at_34) rfl k)
  have k22 : own_To p.tables e below (s₁.setTop (entryFrame m #[(.long q1), (.long q2)] maxLocals)) T18 (mkF m 38 #[.val (.long q1), .second, .val (.long q2), .second, .val (.long (q1 &&& (9223372036854775807 : Int64))), .second, .val (.long (q2 &&& (9223372036854775807 : Int64))), .second, .val (.ref b9), .val (.long (own_lim (q1 &&& (9223372036854775807 : Int64)) (q2 &&& (9223372036854775807 : Int64)))), .second, .unset, .unset, .unset, .unset] [(.long (q2 &&& (9223372036854775807 : Int64))), (.long (q1 &&& (9223372036854775807 : Int64)))]) := fun t k => k21 t (XS.lload X18.here hx rfl (hb hby at_36) rfl k)
  have k23 : own_To p.tables e below (s₁.setTop (entryFrame m #[(.long q1), (.long q2)] maxLocals)) T18 (mkF m 39 #[.val (.long q1), .second, .val (.long q2), .second, .val (.long (q1 &&& (9223372036854775807 : Int64))), .second, .val (.long (q2 &&& (9223372036854775807 : Int64))), .second, .val (.ref b9), .val (.long (own_lim (q1 &&& (9223372036854775807 : Int64)) (q2 &&& (9223372036854775807 : Int64)))), .second, .unset, .unset, .unset, .unset] [(.long ((q1 &&& (9223372036854775807 : Int64)) + (q2 &&& (9223372036854775807 : Int64))))]) := fun t k => k22 t (XS.ladd X18.here hx rfl (hb hby at_38) rfl k)
  have k24 : own_To p.tables e below (s₁.setTop (entryFrame m #[(.long q1), (.long q2)] maxLocals)) T18 (mkF m 41 #[.val (.long q1), .second, .val (.long q2), .second, .val (.long (q1 &&& (9223372036854775807 : Int64))), .second, .val (.long (q2 &&& (9223372036854775807 : Int64))), .second, .val (.ref b9), .val (.long (own_lim (q1 &&& (9223372036854775807 : Int64)) (q2 &&& (9223372036854775807 : Int64)))), .second, .val (.long ((q1 &&& (9223372036854775807 : Int64)) + (q2 &&& (9223372036854775807 : Int64)))), .second, .unset, .unset] []) := fun t k => k23 t (XS.lstore X18.here hx rfl (hb hby at_39) rfl (l' := #[.val (.long q1), .second, .val (.long q2), .second, .val (.long (q1 &&& (9223372036854775807 : Int64))), .second, .val (.long (q2 &&& (9223372036854775807 : Int64))), .second, .val (.ref b9), .val (.long (own_lim (q1 &&& (9223372036854775807 : Int64)) (q2 &&& (9223372036854775807 : Int64)))), .second, .val (.long ((q1 &&& (9223372036854775807 : Int64)) + (q2 &&& (9223372036854775807 : Int64)))), .second, .unset, .unset]) rfl k)
  have k25 : own_To p.tables e below (s₁.setTop (entryFrame m #[(.long q1), (.long q2)] maxLocals)) T18 (mkF m 43 #[.val (.long q1), .second, .val (.long q2), .second, .val (.long (q1 &&& (9223372036854775807 : Int64))), .second, .val (.long (q2 &&& (9223372036854775807 : Int64))), .second, .val (.ref b9), .val (.long (own_lim (q1 &&& (9223372036854775807 : Int64)) (q2 &&& (9223372036854775807 : Int64)))), .second, .val (.long ((q1 &&& (9223372036854775807 : Int64)) + (q2 &&& (9223372036854775807 : Int64)))), .second, .unset, .unset] [(.long ((q1 &&& (9223372036854775807 : Int64)) + (q2 &&& (9223372036854775807 : Int64))))]) := fun t k => k24 t (XS.lload X18.here hx rfl (hb hby at_41) rfl k)
  have k26 : own_To p.tables e below (s₁.setTop (entryFrame m #[(.long q1), (.long q2)] maxLocals)) T18 (mkF m 44 #[.val (.long q1), .second, .val (.long q2), .second, .val (.long (q1 &&& (9223372036854775807 : Int64))), .second, .val (.long (q2 &&& (9223372036854775807 : Int64))), .second, .val (.ref b9), .val (.long (own_lim (q1 &&& (9223372036854775807 : Int64)) (q2 &&& (9223372036854775807 : Int64)))), .second, .val (.long ((q1 &&& (9223372036854775807 : Int64)) + (q2 &&& (9223372036854775807 : Int64)))), .second, .unset, .unset] [(.long (0 : Int64)), (.long ((q1 &&& (9223372036854775807 : Int64)) + (q2 &&& (9223372036854775807 : Int64))))]) := fun t k => k25 t (XS.lconst X18.here hx rfl (hb hby at_43) k)
  have k27 : own_To p.tables e below (s₁.setTop (entryFrame m #[(.long q1), (.long q2)] maxLocals)) T18 (mkF m 45 #[.val (.long q1), .second, .val (.long q2), .second, .val (.long (q1 &&& (9223372036854775807 : Int64))), .second, .val (.long (q2 &&& (9223372036854775807 : Int64))), .second, .val (.ref b9), .val (.long (own_lim (q1 &&& (9223372036854775807 : Int64)) (q2 &&& (9223372036854775807 : Int64)))), .second, .val (.long ((q1 &&& (9223372036854775807 : Int64)) + (q2 &&& (9223372036854775807 : Int64)))), .second, .unset, .unset] [(.int (lcmpW ((q1 &&& (9223372036854775807 : Int64)) + (q2 &&& (9223372036854775807 : Int64))) (0 : Int64)))]) := fun t k => k26 t (XS.lcmp X18.here hx rfl (hb hby at_44) rfl k)
  by_cases hc28 : (lcmpW ((q1 &&& (9223372036854775807 : Int64)) + (q2 &&& (9223372036854775807 : Int64))) (0 : Int64)) < (0 : Int32)
  · have k29 : own_To p.tables e below (s₁.setTop (entryFrame m #[(.long q1), (.long q2)] maxLocals)) T18 (mkF m 48 #[.val (.long q1), .second, .val (.long q2), .second, .val (.long (q1 &&& (9223372036854775807 : Int64))), .second, .val (.long (q2 &&& (9223372036854775807 : Int64))), .second, .val (.ref b9), .val (.long (own_lim (q1 &&& (9223372036854775807 : Int64)) (q2 &&& (9223372036854775807 : Int64)))), .second, .val (.long ((q1 &&& (9223372036854775807 : Int64)) + (q2 &&& (9223372036854775807 : Int64)))), .second, .unset, .unset] []) := fun t k => k27 t (XS.ifNo X18.here hx rfl (hb hby at_45) rfl ((if0 _ _).trans (tlt (show (lcmpW ((q1 &&& (9223372036854775807 : Int64)) + (q2 &&& (9223372036854775807 : Int64))) (0 : Int64)) < (0 : Int32) from hc28)).2.1) k)
    have k30 : own_To p.tables e below (s₁.setTop (entryFrame m #[(.long q1), (.long q2)] maxLocals)) T18 (mkF m 51 #[.val (.long q1), .second, .val (.long q2), .second, .val (.long (q1 &&& (9223372036854775807 : Int64))), .second, .val (.long (q2 &&& (9223372036854775807 : Int64))), .second, .val (.ref b9), .val (.long (own_lim (q1 &&& (9223372036854775807 : Int64)) (q2 &&& (9223372036854775807 : Int64)))), .second, .val (.long ((q1 &&& (9223372036854775807 : Int64)) + (q2 &&& (9223372036854775807 : Int64)))), .second, .unset, .unset] [(.long (9223372036854775807 : Int64))]) := fun t k => k29 t (X18.ldc2Long hx hown (mvT hZ (hw _ (List.mem_of_getElem? (i := 0) rfl))) (g := (mkF m 48 #[.val (.long q1), .second, .val (.long q2), .second, .val (.long (q1 &&& (9223372036854775807 : Int64))), .second, .val (.long (q2 &&& (9223372036854775807 : Int64))), .second, .val (.ref b9), .val (.long (own_lim (q1 &&& (9223372036854775807 : Int64)) (q2 &&& (9223372036854775807 : Int64)))), .second, .val (.long ((q1 &&& (9223372036854775807 : Int64)) + (q2 &&& (9223372036854775807 : Int64)))), .second, .unset, .unset] [])) rfl (hb hby at_48) _ k)
    have k31 : own_To p.tables e below (s₁.setTop (entryFrame m #[(.long q1), (.long q2)] maxLocals)) T18 (mkF m 56 #[.val (.long q1), .second, .val (.long q2), .second, .val (.long (q1 &&& (9223372036854775807 : Int64))), .second, .val (.long (q2 &&& (9223372036854775807 : Int64))), .second, .val (.ref b9), .val (.long (own_lim (q1 &&& (9223372036854775807 : Int64)) (q2 &&& (9223372036854775807 : Int64)))), .second, .val (.long ((q1 &&& (9223372036854775807 : Int64)) + (q2 &&& (9223372036854775807 : Int64)))), .second, .unset, .unset] [(.long (9223372036854775807 : Int64))]) := fun t k => k30 t (XS.goto X18.here hx rfl (pc0 := 51) (pc' := 56) rfl (hb hby at_51) (by decide) (by decide) k)
    have k32 : own_To p.tables e below (s₁.setTop (entryFrame m #[(.long q1), (.long q2)] maxLocals)) T18 (mkF m 58 #[.val (.long q1), .second, .val (.long q2), .second, .val (.long (q1 &&& (9223372036854775807 : Int64))), .second, .val (.long (q2 &&& (9223372036854775807 : Int64))), .second, .val (.ref b9), .val (.long (own_lim (q1 &&& (9223372036854775807 : Int64)) (q2 &&& (9223372036854775807 : Int64)))), .second, .val (.long ((q1 &&& (9223372036854775807 : Int64)) + (q2 &&& (9223372036854775807 : Int64)))), .second, .val (.long (9223372036854775807 : Int64)), .second] []) := fun t k => k31 t (XS.lstore X18.here hx rfl (hb hby at_56) rfl (l' := #[.val (.long q1), .second, .val (.long q2), .second, .val (.long (q1 &&& (9223372036854775807 : Int64))), .second, .val (.long (q2 &&& (9223372036854775807 : Int64))), .second, .val (.ref b9), .val (.long (own_lim (q1 &&& (9223372036854775807 : Int64)) (q2 &&& (9223372036854775807 : Int64)))), .second, .val (.long ((q1 &&& (9223372036854775807 : Int64)) + (q2 &&& (9223372036854775807 : Int64)))), .second, .val (.long (9223372036854775807 : Int64)), .second]) rfl k)
    have k33 : own_To p.tables e below (s₁.setTop (entryFrame m #[(.long q1), (.long q2)] maxLocals)) T18 (mkF m 60 #[.val (.long q1), .second, .val (.long q2), .second, .val (.long (q1 &&& (9223372036854775807 : Int64))), .second, .val (.long (q2 &&& (9223372036854775807 : Int64))), .second, .val (.ref b9), .val (.long (own_lim (q1 &&& (9223372036854775807 : Int64)) (q2 &&& (9223372036854775807 : Int64)))), .second, .val (.long ((q1 &&& (9223372036854775807 : Int64)) + (q2 &&& (9223372036854775807 : Int64)))), .second, .val (.long (9223372036854775807 : Int64)), .second] [(.long (own_lim (q1 &&& (9223372036854775807 : Int64)) (q2 &&& (9223372036854775807 : Int64))))]) := fun t k => k32 t (XS.lload X18.here hx rfl (hb hby at_58) rfl k)
    have k34 : own_To p.tables e below (s₁.setTop (entryFrame m #[(.long q1), (.long q2)] maxLocals)) T18 (mkF m 62 #[.val (.long q1), .second, .val (.long q2), .second, .val (.long (q1 &&& (9223372036854775807 : Int64))), .second, .val (.long (q2 &&& (9223372036854775807 : Int64))), .second, .val (.ref b9), .val (.long (own_lim (q1 &&& (9223372036854775807 : Int64)) (q2 &&& (9223372036854775807 : Int64)))), .second, .val (.long ((q1 &&& (9223372036854775807 : Int64)) + (q2 &&& (9223372036854775807 : Int64)))), .second, .val (.long (9223372036854775807 : Int64)), .second] [(.long (9223372036854775807 : Int64)), (.long (own_lim (q1 &&& (9223372036854775807 : Int64)) (q2 &&& (9223372036854775807 : Int64))))]) := fun t k => k33 t (XS.lload X18.here hx rfl (hb hby at_60) rfl k)
    have k35 : own_To p.tables e below (s₁.setTop (entryFrame m #[(.long q1), (.long q2)] maxLocals)) T18 (mkF m 63 #[.val (.long q1), .second, .val (.long q2), .second, .val (.long (q1 &&& (9223372036854775807 : Int64))), .second, .val (.long (q2 &&& (9223372036854775807 : Int64))), .second, .val (.ref b9), .val (.long (own_lim (q1 &&& (9223372036854775807 : Int64)) (q2 &&& (9223372036854775807 : Int64)))), .second, .val (.long ((q1 &&& (9223372036854775807 : Int64)) + (q2 &&& (9223372036854775807 : Int64)))), .second, .val (.long (9223372036854775807 : Int64)), .second] [(.int (lcmpW (own_lim (q1 &&& (9223372036854775807 : Int64)) (q2 &&& (9223372036854775807 : Int64))) (9223372036854775807 : Int64)))]) := fun t k => k34 t (XS.lcmp X18.here hx rfl (hb hby at_62) rfl k)
    have k36 : own_To p.tables e below (s₁.setTop (entryFrame m #[(.long q1), (.long q2)] maxLocals)) T18 (mkF m 66 #[.val (.long q1), .second, .val (.long q2), .second, .val (.long (q1 &&& (9223372036854775807 : Int64))), .second, .val (.long (q2 &&& (9223372036854775807 : Int64))), .second, .val (.ref b9), .val (.long (own_lim (q1 &&& (9223372036854775807 : Int64)) (q2 &&& (9223372036854775807 : Int64)))), .second, .val (.long ((q1 &&& (9223372036854775807 : Int64)) + (q2 &&& (9223372036854775807 : Int64)))), .second, .val (.long (9223372036854775807 : Int64)), .second] []) := fun t k => k35 t (XS.ifNo X18.here hx rfl (hb hby at_63) rfl ((if0 _ _).trans (teq (show (lcmpW (own_lim (q1 &&& (9223372036854775807 : Int64)) (q2 &&& (9223372036854775807 : Int64))) (9223372036854775807 : Int64)) = (0 : Int32) from (own_lim_big _ _ (own_hi _).1 (own_hi _).1 hc28))).2) k)
    have k37 : own_To p.tables e below (s₁.setTop (entryFrame m #[(.long q1), (.long q2)] maxLocals)) T18 (mkF m 67 #[.val (.long q1), .second, .val (.long q2), .second, .val (.long (q1 &&& (9223372036854775807 : Int64))), .second, .val (.long (q2 &&& (9223372036854775807 : Int64))), .second, .val (.ref b9), .val (.long (own_lim (q1 &&& (9223372036854775807 : Int64)) (q2 &&& (9223372036854775807 : Int64)))), .second, .val (.long ((q1 &&& (9223372036854775807 : Int64)) + (q2 &&& (9223372036854775807 : Int64)))), .second, .val (.long (9223372036854775807 : Int64)), .second] [(.int (1 : Int32))]) := fun t k => k36 t (XS.iconst X18.here hx rfl (hb hby at_66) k)
    have k38 : own_To p.tables e below (s₁.setTop (entryFrame m #[(.long q1), (.long q2)] maxLocals)) T18 (mkF m 71 #[.val (.long q1), .second, .val (.long q2), .second, .val (.long (q1 &&& (9223372036854775807 : Int64))), .second, .val (.long (q2 &&& (9223372036854775807 : Int64))), .second, .val (.ref b9), .val (.long (own_lim (q1 &&& (9223372036854775807 : Int64)) (q2 &&& (9223372036854775807 : Int64)))), .second, .val (.long ((q1 &&& (9223372036854775807 : Int64)) + (q2 &&& (9223372036854775807 : Int64)))), .second, .val (.long (9223372036854775807 : Int64)), .second] [(.int (1 : Int32))]) := fun t k => k37 t (XS.goto X18.here hx rfl (pc0 := 67) (pc' := 71) rfl (hb hby at_67) (by decide) (by decide) k)
    obtain ⟨fs, hr, hrun, hended, hW, hsame⟩ := X18.leave (v := some (.int (1 : Int32))) (fun h => by rw [Bd.returns] at h; cases h)
    refine ⟨_, _, k38 _ ?_, hrun, hended, _, _, rfl, ?_, ⟨_, rfl⟩, hW, hsame.mono (by decide) (by decide)⟩
    · exact retN X18 hx (t := .boolean) Bd.returns (by simp) (hb hby at_71) hr
    · exact ⟨rfl, N18⟩
  · have k39 : own_To p.tables e below (s₁.setTop (entryFrame m #[(.long q1), (.long q2)] maxLocals)) T18 (mkF m 54 #[.val (.long q1), .second, .val (.long q2), .second, .val (.long (q1 &&& (9223372036854775807 : Int64))), .second, .val (.long (q2 &&& (9223372036854775807 : Int64))), .second, .val (.ref b9), .val (.long (own_lim (q1 &&& (9223372036854775807 : Int64)) (q2 &&& (9223372036854775807 : Int64)))), .second, .val (.long ((q1 &&& (9223372036854775807 : Int64)) + (q2 &&& (9223372036854775807 : Int64)))), .second, .unset, .unset] []) := fun t k => k27 t (XS.ifYes X18.here hx rfl (pc0 := 45) (pc' := 54) rfl (hb hby at_45) rfl ((if0 _ _).trans (flt (show ¬ ((lcmpW ((q1 &&& (9223372036854775807 : Int64)) + (q2 &&& (9223372036854775807 : Int64))) (0 : Int64)) < (0 : Int32)) from hc28)).2.1) (by decide) (by decide) k)
    have k40 : own_To p.tables e below (s₁.setTop (entryFrame m #[(.long q1), (.long q2)] maxLocals)) T18 (mkF m 56 #[.val (.long q1), .second, .val (.long q2), .second, .val (.long (q1 &&& (9223372036854775807 : Int64))), .second, .val (.long (q2 &&& (9223372036854775807 : Int64))), .second, .val (.ref b9), .val (.long (own_lim (q1 &&& (9223372036854775807 : Int64)) (q2 &&& (9223372036854775807 : Int64)))), .second, .val (.long ((q1 &&& (9223372036854775807 : Int64)) + (q2 &&& (9223372036854775807 : Int64)))), .second, .unset, .unset] [(.long ((q1 &&& (9223372036854775807 : Int64)) + (q2 &&& (9223372036854775807 : Int64))))]) := fun t k => k39 t (XS.lload X18.here hx rfl (hb hby at_54) rfl k)
    have k41 : own_To p.tables e below (s₁.setTop (entryFrame m #[(.long q1), (.long q2)] maxLocals)) T18 (mkF m 58 #[.val (.long q1), .second, .val (.long q2), .second, .val (.long (q1 &&& (9223372036854775807 : Int64))), .second, .val (.long (q2 &&& (9223372036854775807 : Int64))), .second, .val (.ref b9), .val (.long (own_lim (q1 &&& (9223372036854775807 : Int64)) (q2 &&& (9223372036854775807 : Int64)))), .second, .val (.long ((q1 &&& (9223372036854775807 : Int64)) + (q2 &&& (9223372036854775807 : Int64)))), .second, .val (.long ((q1 &&& (9223372036854775807 : Int64)) + (q2 &&& (9223372036854775807 : Int64)))), .second] []) := fun t k => k40 t (XS.lstore X18.here hx rfl (hb hby at_56) rfl (l' := #[.val (.long q1), .second, .val (.long q2), .second, .val (.long (q1 &&& (9223372036854775807 : Int64))), .second, .val (.long (q2 &&& (9223372036854775807 : Int64))), .second, .val (.ref b9), .val (.long (own_lim (q1 &&& (9223372036854775807 : Int64)) (q2 &&& (9223372036854775807 : Int64)))), .second, .val (.long ((q1 &&& (9223372036854775807 : Int64)) + (q2 &&& (9223372036854775807 : Int64)))), .second, .val (.long ((q1 &&& (9223372036854775807 : Int64)) + (q2 &&& (9223372036854775807 : Int64)))), .second]) rfl k)
    have k42 : own_To p.tables e below (s₁.setTop (entryFrame m #[(.long q1), (.long q2)] maxLocals)) T18 (mkF m 60 #[.val (.long q1), .second, .val (.long q2), .second, .val (.long (q1 &&& (9223372036854775807 : Int64))), .second, .val (.long (q2 &&& (9223372036854775807 : Int64))), .second, .val (.ref b9), .val (.long (own_lim (q1 &&& (9223372036854775807 : Int64)) (q2 &&& (9223372036854775807 : Int64)))), .second, .val (.long ((q1 &&& (9223372036854775807 : Int64)) + (q2 &&& (9223372036854775807 : Int64)))), .second, .val (.long ((q1 &&& (9223372036854775807 : Int64)) + (q2 &&& (9223372036854775807 : Int64)))), .second] [(.long (own_lim (q1 &&& (9223372036854775807 : Int64)) (q2 &&& (9223372036854775807 : Int64))))]) := fun t k => k41 t (XS.lload X18.here hx rfl (hb hby at_58) rfl k)
    have k43 : own_To p.tables e below (s₁.setTop (entryFrame m #[(.long q1), (.long q2)] maxLocals)) T18 (mkF m 62 #[.val (.long q1), .second, .val (.long q2), .second, .val (.long (q1 &&& (9223372036854775807 : Int64))), .second, .val (.long (q2 &&& (9223372036854775807 : Int64))), .second, .val (.ref b9), .val (.long (own_lim (q1 &&& (9223372036854775807 : Int64)) (q2 &&& (9223372036854775807 : Int64)))), .second, .val (.long ((q1 &&& (9223372036854775807 : Int64)) + (q2 &&& (9223372036854775807 : Int64)))), .second, .val (.long ((q1 &&& (9223372036854775807 : Int64)) + (q2 &&& (9223372036854775807 : Int64)))), .second] [(.long ((q1 &&& (9223372036854775807 : Int64)) + (q2 &&& (9223372036854775807 : Int64)))), (.long (own_lim (q1 &&& (9223372036854775807 : Int64)) (q2 &&& (9223372036854775807 : Int64))))]) := fun t k => k42 t (XS.lload X18.here hx rfl (hb hby at_60) rfl k)
    have k44 : own_To p.tables e below (s₁.setTop (entryFrame m #[(.long q1), (.long q2)] maxLocals)) T18 (mkF m 63 #[.val (.long q1), .second, .val (.long q2), .second, .val (.long (q1 &&& (9223372036854775807 : Int64))), .second, .val (.long (q2 &&& (9223372036854775807 : Int64))), .second, .val (.ref b9), .val (.long (own_lim (q1 &&& (9223372036854775807 : Int64)) (q2 &&& (9223372036854775807 : Int64)))), .second, .val (.long ((q1 &&& (9223372036854775807 : Int64)) + (q2 &&& (9223372036854775807 : Int64)))), .second, .val (.long ((q1 &&& (9223372036854775807 : Int64)) + (q2 &&& (9223372036854775807 : Int64)))), .second] [(.int (lcmpW (own_lim (q1 &&& (9223372036854775807 : Int64)) (q2 &&& (9223372036854775807 : Int64))) ((q1 &&& (9223372036854775807 : Int64)) + (q2 &&& (9223372036854775807 : Int64)))))]) := fun t k => k43 t (XS.lcmp X18.here hx rfl (hb hby at_62) rfl k)
    have k45 : own_To p.tables e below (s₁.setTop (entryFrame m #[(.long q1), (.long q2)] maxLocals)) T18 (mkF m 66 #[.val (.long q1), .second, .val (.long q2), .second, .val (.long (q1 &&& (9223372036854775807 : Int64))), .second, .val (.long (q2 &&& (9223372036854775807 : Int64))), .second, .val (.ref b9), .val (.long (own_lim (q1 &&& (9223372036854775807 : Int64)) (q2 &&& (9223372036854775807 : Int64)))), .second, .val (.long ((q1 &&& (9223372036854775807 : Int64)) + (q2 &&& (9223372036854775807 : Int64)))), .second, .val (.long ((q1 &&& (9223372036854775807 : Int64)) + (q2 &&& (9223372036854775807 : Int64)))), .second] []) := fun t k => k44 t (XS.ifNo X18.here hx rfl (hb hby at_63) rfl ((if0 _ _).trans (teq (show (lcmpW (own_lim (q1 &&& (9223372036854775807 : Int64)) (q2 &&& (9223372036854775807 : Int64))) ((q1 &&& (9223372036854775807 : Int64)) + (q2 &&& (9223372036854775807 : Int64)))) = (0 : Int32) from (own_lim_fit _ _ (own_hi _).1 (own_hi _).1 hc28))).2) k)
    have k46 : own_To p.tables e below (s₁.setTop (entryFrame m #[(.long q1), (.long q2)] maxLocals)) T18 (mkF m 67 #[.val (.long q1), .second, .val (.long q2), .second, .val (.long (q1 &&& (9223372036854775807 : Int64))), .second, .val (.long (q2 &&& (9223372036854775807 : Int64))), .second, .val (.ref b9), .val (.long (own_lim (q1 &&& (9223372036854775807 : Int64)) (q2 &&& (9223372036854775807 : Int64)))), .second, .val (.long ((q1 &&& (9223372036854775807 : Int64)) + (q2 &&& (9223372036854775807 : Int64)))), .second, .val (.long ((q1 &&& (9223372036854775807 : Int64)) + (q2 &&& (9223372036854775807 : Int64)))), .second] [(.int (1 : Int32))]) := fun t k => k45 t (XS.iconst X18.here hx rfl (hb hby at_66) k)
    have k47 : own_To p.tables e below (s₁.setTop (entryFrame m #[(.long q1), (.long q2)] maxLocals)) T18 (mkF m 71 #[.val (.long q1), .second, .val (.long q2), .second, .val (.long (q1 &&& (9223372036854775807 : Int64))), .second, .val (.long (q2 &&& (9223372036854775807 : Int64))), .second, .val (.ref b9), .val (.long (own_lim (q1 &&& (9223372036854775807 : Int64)) (q2 &&& (9223372036854775807 : Int64)))), .second, .val (.long ((q1 &&& (9223372036854775807 : Int64)) + (q2 &&& (9223372036854775807 : Int64)))), .second, .val (.long ((q1 &&& (9223372036854775807 : Int64)) + (q2 &&& (9223372036854775807 : Int64)))), .second] [(.int (1 : Int32))]) := fun t k => k46 t (XS.goto X18.here hx rfl (pc0 := 67) (pc' := 71) rfl (hb hby at_67) (by decide) (by decide) k)
    obtain ⟨fs, hr, hrun, hended, hW, hsame⟩ := X18.leave (v := some (.int (1 : Int32))) (fun h => by rw [Bd.returns] at h; cases h)
    refine ⟨_, _, k47 _ ?_, hrun, hended, _, _, rfl, ?_, ⟨_, rfl⟩, hW, hsame.mono (by decide) (by decide)⟩
    · exact retN X18 hx (t := .boolean) Bd.returns (by simp) (hb hby at_71) hr
    · exact ⟨rfl, N18⟩
set_option maxRecDepth 65536 in
set_option maxHeartbeats 40000000 in
theorem comes_1 {Post : Tables → Env → Array Value → State → Outcome → State → Prop} (hpost : ∀ tb e args s v u, (limb_1_1.after args s (.returned v) u = true ∧ limb_1_2.after args s (.returned v) u = true ∧ True) → FrameEnd s (.returned v) u (Jvm.fieldLocs frame_1_writes args s ++ Jvm.arrayLocs frame_1_arrays args s ++ Jvm.staticLocs frame_1_statics s) 16 128 → Post tb e args s (.returned v) u) :
    ArmFor flags0 classFile x code maxLocals ret World_1 tables_1 room_1 Calls_1 rest_1 Pre_1 Post := by
  intro l hfl _ _ p e ha hc hk s m args below hf hA hF happ hP
  obtain ⟨hcalls, hrest, hpre⟩ := hP
  obtain ⟨-, -, -, hnamed, -, -, -, hat⟩ := (Spec.applies_iff hf).mp happ
  obtain ⟨hg, hn⟩ := and_e (Cond.before_iff.mp (show (Jvm.Cond.and given_1 narrow_1).before args s = true from hpre))
  obtain ⟨hg1, hg2⟩ := and_e hg
  obtain ⟨hg3, hg4⟩ := and_e hg2
  obtain ⟨w0, w1, rfl⟩ : ∃ w0 w1 : Value, args = #[w0, w1] := by
    have hs : args.size = 2 := by simpa [Cond.value, given_1] using hg1
    obtain ⟨L⟩ := args
    match L, hs with
    | [w0, w1], _ => exact ⟨w0, w1, rfl⟩
  have hw := fun d (hd : d ∈ tables_1) => atoms_spec (ws := Jvm.Cond.code x code maxLocals ret :: tables_1) hat d (List.mem_cons_of_mem _ hd)
  have hfit : Fit s := fun {y c} hc i hi => by
    obtain ⟨ha, rfl⟩ := Array.getElem?_eq_some_iff.mp hc
    have q := List.all_eq_true.mp ((Array.all_eq_true_iff_forall_mem.mp hF) _ (Array.getElem_mem ha)) i (List.mem_range.mpr hi)
    simpa [Array.getElem?_eq_getElem hi] using q
  obtain ⟨i0, ei0⟩ := isL_v hg3
  obtain rfl : w0 = (.long i0) := Option.some.inj ei0
  obtain ⟨i1, ei1⟩ := isL_v hg4
  obtain rfl : w1 = (.long i1) := Option.some.inj ei1
  obtain ⟨n, o, h1, h2, h3, _, L, rfl, ⟨rfl, N⟩, hq⟩ := own_m0 l s _ hw tables_1 i0 i1 s.heap s.heap.size (Nat.le_refl _)  p e ha hc hk s m _ below hf ((Spec.applies_iff_loose hf).mp happ).1 ⟨rfl, State.Warmed39.refl s, rfl⟩ trivial
  refine ⟨n, _, h1, h2, h3, hpost _ _ _ _ _ _ ⟨Cond.after_iff.mpr rfl, Cond.after_iff.mpr (eq_i res_at (Term.int_eval (1)) rfl), trivial⟩ ⟨hq.1, hq.2.1, (hq.2.2.sift fun y hy => Or.inr (N y hy)).mono (by decide) (by decide)⟩⟩
theorem main_1_1 : Claimed_1_1 := comes_1 fun _ _ _ _ _ _ h hF => ⟨h.1, hF⟩
theorem main_1_2 : Claimed_1_2 := comes_1 fun _ _ _ _ _ _ h hF => ⟨h.2.1, hF⟩
end Jvm.Pilot.@@N@@
namespace Jvm.Pilot.@@N@@
open Jvm Jvm.ClassFile Sem Op Lib Jvm.Free Jvm.Stand Jvm.Pilot.@@N@@.Jvm.D
/-! MADE BY PROGRAM (witnessworld.py) out of the Statement's table words and the real class files: 9 classes; the members and pool entries that the words name. The judged class is class 1, her method 1. -/
namespace start1
open Jvm.ClassFile
def u (s : String) : CpInfo := .utf8 (stringToUtf16 s)
/-- a pool by its gaps: so many unusable entries, then the entry; so many at the end -/
def gap : Nat → List CpInfo → List CpInfo
  | 0, r => r
  | n + 1, r => .unusable :: gap n r
def poolList (es : List (Nat × CpInfo)) (last : Nat) : List CpInfo := es.foldr (fun e r => gap e.1 (e.2 :: r)) (gap last [])
def pool (es : List (Nat × CpInfo)) (last : Nat) : Array CpInfo := ⟨poolList es last⟩
def fileOf (pool : Array CpInfo) (this : Nat) (attrs : Array Attribute := #[]) (ms : Array MethodInfo := #[]) (fl : Nat := 33) (sup : Nat := 0) (ifs : Array Nat := #[]) (fds : Array FieldInfo := #[]) : ClassFile where
  minorVersion := 0
  majorVersion := 65
  constantPool := pool
  accessFlags := fl
  thisClass := this
  superClass := sup
  interfaces := ifs
  fields := fds
  methods := ms
  attributes := attrs
def plain (name : String) (sup : Option ClassId) : Class where
  name := name
  kind := .ordinary
  loader := none
  accessFlags := 33
  super := sup
  interfaces := #[]
  cf := none
  fields := #[]
  methods := #[]
  instanceTypes := #[]
  staticTypes := #[]
  resolved := #[]
  callSites := []
  init := .initialized
  statics := none
  mirror := none

def pool0 : Array CpInfo := pool [(5, u "<init>"), (0, u "()V"), (1, .class_ 10), (1, u "java/lang/Object")] 113

def k0c0 : Code := { maxStack := 0, maxLocals := 1, code := object_method_1_code, exceptionTable := #[], attributes := #[] }
def k0m0 : Method := { name := "<init>", desc := "()V", sig := { parameters := [], returnType := none }, accessFlags := 1, code := some k0c0 }
/-- java/lang/Object -/
def k0 : Class := { plain "java/lang/Object" none with
  accessFlags := 33
  interfaces := #[]
  cf := some (fileOf pool0 8 #[] #[{ accessFlags := 1, nameIndex := 5, descriptorIndex := 6, attributes := #[] }] 33 0 #[] #[])
  fields := #[]
  methods := #[k0m0]
  instanceTypes := #[]
  staticTypes := #[]
  resolved := Array.replicate 124 none
  statics := none }

def pool1 : Array CpInfo := pool [(2, .class_ 4), (1, u "java/lang/Object"), (0, u "<init>"), (0, u "()V"), (2, .long 9223372036854775807), (1, .class_ 12), (0, u "com/example/whole_roster/wholeroster/model/Quota"), (0, .methodref 11 14), (0, .nameAndType 5 15), (0, u "(JJ)V"), (0, .methodref 11 17), (0, .nameAndType 18 19), (0, u "limit"), (0, u "()J"), (0, .class_ 21), (0, u "com/example/whole_roster/wholeroster/model/QuotaLimitPinLaw"), (2, u "law"), (0, u "(JJ)Z")] 3

def k1m0 : Method := { name := "<init>", desc := "()V", sig := { parameters := [], returnType := none }, accessFlags := 1, code := none }
def k1c1 : Code := { maxStack := 6, maxLocals := 15, code := code, exceptionTable := #[], attributes := #[] }
def k1m1 : Method := { name := "law", desc := "(JJ)Z", sig := { parameters := [.long, .long], returnType := some .boolean }, accessFlags := 9, code := some k1c1 }
/-- com/example/whole_roster/wholeroster/model/QuotaLimitPinLaw -/
def k1 : Class := { plain "com/example/whole_roster/wholeroster/model/QuotaLimitPinLaw" (some 0) with
  accessFlags := 49
  interfaces := #[]
  cf := some (fileOf pool1 20 #[] #[{ accessFlags := 1, nameIndex := 5, descriptorIndex := 6, attributes := #[] }, { accessFlags := 9, nameIndex := 24, descriptorIndex := 25, attributes := #[] }] 49 2 #[] #[])
  fields := #[]
  methods := #[k1m0, k1m1]
  instanceTypes := #[]
  staticTypes := #[]
  resolved := Array.replicate 29 none
  statics := none }

def pool2 : Array CpInfo := pool [(1, .methodref 2 3), (0, .class_ 4), (0, .nameAndType 5 6), (0, u "java/lang/Object"), (0, u "<init>"), (0, u "()V"), (7, .fieldref 15 16), (0, .class_ 17), (0, .nameAndType 18 19), (0, u "com/example/whole_roster/wholeroster/model/Quota"), (0, u "value"), (0, u "J"), (0, .fieldref 15 21), (0, .nameAndType 22 19), (0, u "overage"), (2, .long 9223372036854775807), (1, u "(JJ)V"), (3, u "()J"), (0, u "limit")] 2

def k2c0 : Code := { maxStack := 4, maxLocals := 5, code := prog_14_method_1_code, exceptionTable := #[], attributes := #[] }
def k2m0 : Method := { name := "<init>", desc := "(JJ)V", sig := { parameters := [.long, .long], returnType := none }, accessFlags := 1, code := some k2c0 }
def k2c1 : Code := { maxStack := 6, maxLocals := 1, code := prog_14_method_4_code, exceptionTable := #[], attributes := #[] }
def k2m1 : Method := { name := "limit", desc := "()J", sig := { parameters := [], returnType := some .long }, accessFlags := 1, code := some k2c1 }
/-- com/example/whole_roster/wholeroster/model/Quota -/
def k2 : Class := { plain "com/example/whole_roster/wholeroster/model/Quota" (some 0) with
  accessFlags := 33
  interfaces := #[]
  cf := some (fileOf pool2 15 #[] #[{ accessFlags := 1, nameIndex := 5, descriptorIndex := 27, attributes := #[] }, { accessFlags := 1, nameIndex := 32, descriptorIndex := 31, attributes := #[] }] 33 2 #[] #[{ accessFlags := 18, nameIndex := 18, descriptorIndex := 19, attributes := #[] }, { accessFlags := 18, nameIndex := 22, descriptorIndex := 19, attributes := #[] }])
  fields := #[{ name := "value", type := .long, accessFlags := 18, slot := 0, constantValue := 0 }, { name := "overage", type := .long, accessFlags := 18, slot := 1, constantValue := 0 }]
  methods := #[k2m0, k2m1]
  instanceTypes := #[.long, .long]
  staticTypes := #[]
  resolved := Array.replicate 35 none
  statics := none }

def pool3 : Array CpInfo := pool [(1, u "java/lang/Cloneable"), (0, .class_ 1), (0, u "java/lang/Object"), (0, .class_ 3)] 3

/-- java/lang/Cloneable -/
def k3 : Class := { plain "java/lang/Cloneable" (some 0) with
  accessFlags := 1537
  interfaces := #[]
  cf := some (fileOf pool3 2 #[] #[] 1537 4 #[] #[])
  fields := #[]
  methods := #[]
  instanceTypes := #[]
  staticTypes := #[]
  resolved := Array.replicate 8 none
  statics := none }

def pool4 : Array CpInfo := pool [(1, u "java/io/Serializable"), (0, .class_ 1), (0, u "java/lang/Object"), (0, .class_ 3)] 3

/-- java/io/Serializable -/
def k4 : Class := { plain "java/io/Serializable" (some 0) with
  accessFlags := 1537
  interfaces := #[]
  cf := some (fileOf pool4 2 #[] #[] 1537 4 #[] #[])
  fields := #[]
  methods := #[]
  instanceTypes := #[]
  staticTypes := #[]
  resolved := Array.replicate 8 none
  statics := none }

/-- the primitive byte -/
def k5 : Class := { plain "byte" none with kind := .primitive 'B', accessFlags := 0x411 }
/-- [B -/
def k6 : Class := { plain "[B" (some 0) with kind := .array 5 .byte, interfaces := #[3, 4], accessFlags := 1041 }

/-- the primitive int -/
def k7 : Class := { plain "int" none with kind := .primitive 'I', accessFlags := 0x411 }
/-- [I -/
def k8 : Class := { plain "[I" (some 0) with kind := .array 7 .int, interfaces := #[3, 4], accessFlags := 1041 }

def heap : Heap := #[]
def classes : Array Class := #[k0, k1, k2, k3, k4, k5, k6, k7, k8]
def interned : List (Array UInt16 × Addr) := []
def slotsUsed : Nat := 0
def theMethod : MethodId := ⟨1, 1⟩
def args0 : Array Value := #[.long 5, .long 7]
def aboutOver (below : List Frame) : State where
  vm := { classes := classes, interned := interned.toArray }
  heap := heap
  slotsUsed := slotsUsed
  threads := #[{ frames := .invoking theMethod args0 :: below }]
def below0 : List Frame := [.native { method := ⟨0, 0⟩, args := #[] }]
def about1 : State := aboutOver below0
def p0 : Program := .bare "" "" ""
def e0 : Env := launch0.env 0 0 0
theorem w_frames : about1.frames = Frame.invoking theMethod args0 :: below0 := rfl
set_option maxRecDepth 65536 in
theorem w_args : argsFit about1.vm theMethod args0 = true := by decide +kernel
set_option maxRecDepth 65536 in
theorem w_heap : heapFits about1 = true := by decide +kernel
set_option maxRecDepth 65536 in
theorem w_runnable : about1.curStatus? = some .runnable := by decide +kernel
set_option maxRecDepth 65536 in
theorem w_alone : about1.alone = true := by decide +kernel
set_option maxRecDepth 65536 in
theorem w_named : about1.methodNamed? x = some theMethod := by decide +kernel
set_option maxRecDepth 65536 in
theorem w_hears : about1.hears theMethod below0 = true := by decide +kernel
set_option maxRecDepth 65536 in
theorem w_ripe : about1.ripe theMethod args0 below0 = true := by decide +kernel
theorem w_running : about1.status = .running := rfl
set_option maxRecDepth 65536 in
theorem w_room : about1.hasRoom e0.platform room_1 = true :=
  launch0.hasRoom_least _ room_1 (by decide +kernel) (by decide +kernel) (by decide +kernel) (by decide +kernel) (by decide +kernel) (by decide +kernel)
theorem allAtoms_all (ts : List Jvm.Cond) (a : Array Jvm.Value) (st : Jvm.State) : (allAtoms ts).before a st = ts.all (fun c => c.before a st) := by
  induction ts with
  | nil => rfl
  | cons c t ih =>
    show (Jvm.Cond.and c (allAtoms t)).before a st = _
    rw [Jvm.Cond.before_and, ih, List.all_cons]
def words1 : List Jvm.Cond := Jvm.Cond.code x code maxLocals ret :: tables_1
/-- a 'code' word, met by the world's own term for the bytes: nothing is compared byte by byte -/
theorem code_word {y : MethodName} {bytes : ByteArray} {mx : Nat} {rt : Option FieldType} {a : Array Value} {s : State} {m : MethodId} {meth : Method} {c : Code} (h1 : s.methodNamed? y = some m) (h2 : s.vm.method? m = some meth) (h3 : meth.code = some c) (h4 : c.code = bytes)
    (h5 : (c.maxLocals == mx && c.exceptionTable.isEmpty && decide (c.maxStack ≤ mostOperands) && decide (meth.sig.returnType = rt) && !meth.locks && decide (parseMethodDescriptor y.desc = some meth.sig)) = true) : (Jvm.Cond.code y bytes mx rt).before a s = true := by
  simp only [Bool.and_eq_true, beq_iff_eq, Bool.not_eq_true', decide_eq_true_eq] at h5
  obtain ⟨⟨⟨⟨⟨g1, g2⟩, g3⟩, g4⟩, g5⟩, g6⟩ := h5
  simp [Cond.before, Cond.holds, Cond.value, h1, h2, h3, h4, g1, g2, g3, g4, g5, g6]
def isCode : Jvm.Cond → Bool
  | .code _ _ _ _ => true
  | _ => false
theorem all_split {L : List Jvm.Cond} {P : Jvm.Cond → Bool} (h1 : L.all (fun c => isCode c || P c) = true) (h2 : ∀ c ∈ L.filter isCode, P c = true) : L.all P = true := by
  refine List.all_eq_true.mpr fun c hc => ?_
  have h := List.all_eq_true.mp h1 c hc
  rcases Bool.eq_false_or_eq_true (isCode c) with hi | hi
  · exact h2 c (List.mem_filter.mpr ⟨hc, hi⟩)
  · simpa [hi] using h
set_option maxRecDepth 65536 in
theorem w_c0 : (Jvm.Cond.code x code maxLocals ret).before args0 about1 = true := code_word (m := ⟨1, 1⟩) (meth := k1m1) (c := k1c1) (by decide +kernel) rfl rfl rfl (by decide +kernel)
set_option maxRecDepth 65536 in
theorem w_c1 : (Jvm.Cond.code ({ cls := "com/example/whole_roster/wholeroster/model/Quota", name := "<init>", desc := "(JJ)V" } : Jvm.MethodName) prog_14_method_1_code (5 : Nat) (Option.none : Option Jvm.ClassFile.FieldType)).before args0 about1 = true := code_word (m := ⟨2, 0⟩) (meth := k2m0) (c := k2c0) (by decide +kernel) rfl rfl rfl (by decide +kernel)
set_option maxRecDepth 65536 in
theorem w_c2 : (Jvm.Cond.code ({ cls := "java/lang/Object", name := "<init>", desc := "()V" } : Jvm.MethodName) object_method_1_code (1 : Nat) (Option.none : Option Jvm.ClassFile.FieldType)).before args0 about1 = true := code_word (m := ⟨0, 0⟩) (meth := k0m0) (c := k0c0) (by decide +kernel) rfl rfl rfl (by decide +kernel)
set_option maxRecDepth 65536 in
theorem w_c3 : (Jvm.Cond.code ({ cls := "com/example/whole_roster/wholeroster/model/Quota", name := "limit", desc := "()J" } : Jvm.MethodName) prog_14_method_4_code (1 : Nat) (Option.some Jvm.ClassFile.FieldType.long)).before args0 about1 = true := code_word (m := ⟨2, 1⟩) (meth := k2m1) (c := k2c1) (by decide +kernel) rfl rfl rfl (by decide +kernel)
def codes1 : List Jvm.Cond := [Jvm.Cond.code x code maxLocals ret, Jvm.Cond.code ({ cls := "com/example/whole_roster/wholeroster/model/Quota", name := "<init>", desc := "(JJ)V" } : Jvm.MethodName) prog_14_method_1_code (5 : Nat) (Option.none : Option Jvm.ClassFile.FieldType), Jvm.Cond.code ({ cls := "java/lang/Object", name := "<init>", desc := "()V" } : Jvm.MethodName) object_method_1_code (1 : Nat) (Option.none : Option Jvm.ClassFile.FieldType), Jvm.Cond.code ({ cls := "com/example/whole_roster/wholeroster/model/Quota", name := "limit", desc := "()J" } : Jvm.MethodName) prog_14_method_4_code (1 : Nat) (Option.some Jvm.ClassFile.FieldType.long)]
set_option maxRecDepth 65536 in
theorem codes_eq : words1.filter isCode = codes1 := rfl
theorem w_codes : ∀ c ∈ words1.filter isCode, c.before args0 about1 = true := by
  rw [codes_eq]
  intro c hc
  simp only [codes1, List.mem_cons, List.not_mem_nil, or_false] at hc
  rcases hc with rfl | rfl | rfl | rfl
  · exact w_c0
  · exact w_c1
  · exact w_c2
  · exact w_c3
set_option maxRecDepth 65536 in
theorem w_t1 : words1.all (fun c => isCode c || c.before args0 about1) = true := by decide +kernel
theorem w_tables : (allAtoms (Jvm.Cond.code x code maxLocals ret :: tables_1)).before args0 about1 = true := by
  rw [allAtoms_all]
  show words1.all (fun c => c.before args0 about1) = true
  refine all_split ?_ w_codes
  rw [w_t1]
set_option maxRecDepth 65536 in
theorem w_case : (Jvm.Cond.and given_1 narrow_1).before args0 about1 = true := by decide +kernel
theorem w_applies : (headSpec (Jvm.Cond.code x code maxLocals ret :: tables_1) room_1).applies x e0.platform about1 = true :=
  (Spec.applies_iff w_frames).mpr ⟨w_running, w_runnable, w_alone, w_named, w_hears, w_ripe, w_room, w_tables⟩
theorem atStart : AtStart classFile x code maxLocals ret World_1 tables_1 room_1 Calls_1 rest_1 Pre_1 launch0 p0 e0 about1 theMethod args0 below0 :=
  ⟨lists_1, trivial, launch0.admits_env _ _ _, launch0.least_env, fairChoices_fair.cas, fairChoices_fair.clock, w_frames, w_args, w_heap, w_applies, trivial, trivial, w_case⟩
end start1
theorem witness_1 : WitnessClaimed_1 := ⟨start1.p0, start1.e0, start1.about1, start1.theMethod, start1.args0, start1.below0, start1.atStart⟩
end Jvm.Pilot.@@N@@
