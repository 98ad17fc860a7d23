import JvmDerived
import JvmDerived.Pilot.@@N@@Statement
import JvmDerived.Pilot.@@N@@Code
set_option linter.unusedVariables false
set_option linter.unusedSimpArgs false
namespace Jvm.RoadKit
open Sem ClassFile Op Lib Jvm.Stand Jvm.Free Jvm.LawKit
section New
variable {p : Program} {l : Launch} {e : Env} {R : Room} {s : State} {m : MethodId} {args : Array Value} {below : List Frame} {meth : Method} {c : Code} {T : State} {locs : List Loc} {cells slots : Nat}
theorem retI (X : Stand p l e R s m args below meth c T locs cells slots) (hx : p.tables.exec = Jvm.exec) {pc : Nat} {Ls : Array Slot} {z : Int32} {rest : List Value} (hret : meth.sig.returnType = some .int) (hd : decode c.code pc = .ok (.ireturn, 1)) {fs : List Frame}
    (hl : ∀ (f : JFrame) (acts : List Action), f.method = m → f.locked = none → f.entered = [] → (doReturn e (T.setTop f) acts (some (.int z))).1 = T.setFrames fs) : Steps p.tables e below (T.setTop (mkF m pc Ls (.int z :: rest))) (T.setFrames fs) := by
  have hm' : T.vm.method? m = some meth := X.method'
  have hn : narrow .int (.int z) = .int z := rfl
  show Steps p.tables e below (T.setTop { method := m, pc := pc, locals := Ls, stack := _ :: rest, locked := none }) _
  jvm_step X.here [X.here.top, hx, hd, hm', hret, hn]
  first | (intro acts; rw [hl _ acts rfl rfl rfl]) | rw [hl _ _ rfl rfl rfl]
  exact Steps.refl _
end New
end Jvm.RoadKit
namespace Jvm.Pilot.@@N@@
open Jvm Jvm.ClassFile Sem Op Lib Jvm.Free Jvm.Stand Jvm.LawKit Jvm.RoadKit Bundle Jvm.Pilot.@@N@@.Jvm.D
/-- the run comes from A to the state U with the frame g on top -/
def own_To (tb : Tables) (e : Env) (below : List Frame) (A U : State) (g : JFrame) : Prop := ∀ t, Steps tb e below (U.setTop g) t → Steps tb e below A t
/-- what a body that writes nothing leaves -/
def own_Q (r : Option Value) (h0 : Heap) (n0 : Nat) (v : Option Value) (h : Heap) (L : List Loc) : Prop := v = r ∧ Fr n0 L ∧ h = h0
theorem own_fldint {args : Array Value} {Z : State} {t : Term} {x : Addr} {C n d : String} {k : Int32} (ht : t.eval args Z none [] Z = some (.ref x)) (h : (Jvm.Cond.eq (.field t C n d) (.int k)).value args Z none Z [] = some true) : Fld Z Z.heap x C n d (.int k) := by
  apply Fld.start
  obtain ⟨u, v, h1, h2, k1, -⟩ := cmp_v (Or.inl h)
  have e2 : v = .int k := (Option.some.inj (h2.symm.trans (Term.int_eval k)))
  subst e2
  cases u with
  | int z => rw [← fld_at ht, h1]; have := gotT (Cond.eq_ints h1 h2) h; rw [this]
  | long z => obtain ⟨_, q⟩ := k1; cases q
  | float z => obtain ⟨_, q⟩ := k1; cases q
  | double z => obtain ⟨_, q⟩ := k1; cases q
  | ref z => exact absurd k1.2 (by simp [Value.isRef])
  | null => exact absurd k1.2 (by simp [Value.isRef])
  | retAddr z => exact absurd k1.2 (by simp [Value.isRef])
theorem own_rem3 (x : Int32) (h0 : ¬ (((x &&& (2147483647 : Int32)) % (3 : Int32)) = (0 : Int32))) (h1 : ¬ (((x &&& (2147483647 : Int32)) % (3 : Int32)) = (1 : Int32))) : ((x &&& (2147483647 : Int32)) % (3 : Int32)) = (2 : Int32) := by
  have e : (x &&& (2147483647 : Int32)).toInt = x.toInt % (2 ^ 31 : Nat) := c_mask x 2147483647 31 (by decide) (by decide)
  have h1 : ((2 ^ 31 : Nat) : Int) = 2147483648 := rfl
  rw [h1] at e
  have r := (c_irem (x &&& (2147483647 : Int32)) (3 : Int32) 3 (by decide)).1 (by omega)
  skip
  simp only [← Int32.toInt_inj] at *
  have c0 : (0 : Int32).toInt = 0 := by decide
  have c1 : (1 : Int32).toInt = 1 := by decide
  have c2 : (2 : Int32).toInt = 2 := by decide
  omega
theorem own_d1_0 : decode method_2_code 0 = .ok (.iload_n 0, 1) := by decide +kernel
theorem own_d1_1 : decode method_2_code 1 = .ok (.ldc 7, 2) := by decide +kernel
theorem own_d1_3 : decode method_2_code 3 = .ok (.iand, 1) := by decide +kernel
theorem own_d1_4 : decode method_2_code 4 = .ok (.iconst 3, 1) := by decide +kernel
theorem own_d1_5 : decode method_2_code 5 = .ok (.irem, 1) := by decide +kernel
theorem own_d1_6 : decode method_2_code 6 = .ok (.istore_n 1, 1) := by decide +kernel
theorem own_d1_7 : decode method_2_code 7 = .ok (.iload_n 1, 1) := by decide +kernel
theorem own_d1_8 : decode method_2_code 8 = .ok (.ifCond .ne 7, 3) := by decide +kernel
theorem own_d1_11 : decode method_2_code 11 = .ok (.getstatic 8, 3) := by decide +kernel
theorem own_d1_14 : decode method_2_code 14 = .ok (.areturn, 1) := by decide +kernel
theorem own_d1_15 : decode method_2_code 15 = .ok (.iload_n 1, 1) := by decide +kernel
theorem own_d1_16 : decode method_2_code 16 = .ok (.iconst 1, 1) := by decide +kernel
theorem own_d1_17 : decode method_2_code 17 = .ok (.if_icmp .ne 7, 3) := by decide +kernel
theorem own_d1_20 : decode method_2_code 20 = .ok (.getstatic 14, 3) := by decide +kernel
theorem own_d1_23 : decode method_2_code 23 = .ok (.areturn, 1) := by decide +kernel
theorem own_d1_24 : decode method_2_code 24 = .ok (.getstatic 17, 3) := by decide +kernel
theorem own_d1_27 : decode method_2_code 27 = .ok (.areturn, 1) := by decide +kernel
theorem own_ef1 (m : MethodId) (x0 : Int32) : entryFrame m #[(.int x0)] 2 = mkF m 0 #[.val (.int x0), .unset] [] := by first | (simp [entryFrame, mkF, argsToLocals, Value.category]; done) | rfl
theorem own_pn1 : plainName "com/example/witness/witness/value/KnownAndPinLaw" = true := by first | (simp [plainName, overriddenIn]; done) | decide +kernel
def own_f1 (p1 : Int32) (w_YES : Addr) (w_NO : Addr) (w_UNKNOWN : Addr) : Addr := (if ((p1 &&& (2147483647 : Int32)) % (3 : Int32)) = (0 : Int32) then w_YES else (if ((p1 &&& (2147483647 : Int32)) % (3 : Int32)) = (1 : Int32) then w_NO else w_UNKNOWN))
set_option maxRecDepth 65536 in
set_option maxHeartbeats 40000000 in
theorem own_m1 (l : Launch) (Z : State) (a0 : Array Value) (hw : ∀ d ∈ tables_1, d.before a0 Z = true) (ws : List Jvm.Cond) (p1 : Int32) (w_YES : Addr) (w_NO : Addr) (w_UNKNOWN : Addr) (h0 : Heap) (n0 : Nat) (Z0 : n0 ≤ h0.size) (S_YES : Sta Z h0 "com/example/witness/witness/value/NormalForm$Known" "YES" "Lcom/example/witness/witness/value/NormalForm$Known;" (.ref w_YES)) (S_NO : Sta Z h0 "com/example/witness/witness/value/NormalForm$Known" "NO" "Lcom/example/witness/witness/value/NormalForm$Known;" (.ref w_NO)) (S_UNKNOWN : Sta Z h0 "com/example/witness/witness/value/NormalForm$Known" "UNKNOWN" "Lcom/example/witness/witness/value/NormalForm$Known;" (.ref w_UNKNOWN)) :
    MetFree l (⟨"com/example/witness/witness/value/KnownAndPinLaw", "pick", "(I)Lcom/example/witness/witness/value/NormalForm$Known;"⟩ : MethodName) (head1 (Jvm.Cond.code (⟨"com/example/witness/witness/value/KnownAndPinLaw", "pick", "(I)Lcom/example/witness/witness/value/NormalForm$Known;"⟩ : MethodName) method_2_code 2 (some (.object "com/example/witness/witness/value/NormalForm$Known")) :: ws) ({ frames := 0, cells := 0, slots := 0, locals := 0 } : Room)) (fun a U => a = #[(.int p1)] ∧ Z.Warmed39 U.vm ∧ U.heap = h0) (fun _ _ _ _ _ => True) (fun _ U o U' => ∃ v L, o = .returned v ∧ own_Q (some (.ref (own_f1 p1 w_YES w_NO w_UNKNOWN))) h0 n0 v U'.heap L ∧ FrameEnd U o U' L ({ frames := 0, cells := 0, slots := 0, locals := 0 } : Room).cells ({ frames := 0, cells := 0, slots := 0, locals := 0 } : Room).slots) := by
  refine MetFree.of_bodySF (plainFor_of_name own_pn1) hisR ?_
  intro p e s m args below meth c s₁ Bd hml0 hP hK
  obtain ⟨rfl, hZ, hh⟩ := hP
  have hx := Bd.exec
  have hby := Bd.bytes
  have hml : c.maxLocals = 2 := hml0
  have hown : s.vm.findClass "com/example/witness/witness/value/KnownAndPinLaw" = some m.cls := findClass_of_methodNamed Bd.named
  have hnm := (name_of_methodNamed Bd.named Bd.method).1
  have X0 : Stand p l e ({ frames := 0, cells := 0, slots := 0, locals := 0 } : Room) s m #[(.int p1)] below meth c s₁ [] 0 0 := Stand.of_body Bd
  have e0 : s₁.heap = h0 := by rw [← hh, Bd.state]; rfl
  have N0 := Fr.nil n0
  have k0 : own_To p.tables e below (s₁.setTop (entryFrame m #[(.int p1)] 2)) s₁ (mkF m 0 #[.val (.int p1), .unset] []) := fun t k => castTop (own_ef1 m p1) k
  have k1 : own_To p.tables e below (s₁.setTop (entryFrame m #[(.int p1)] 2)) s₁ (mkF m 1 #[.val (.int p1), .unset] [(.int p1)]) := fun t k => k0 t (XS.iloadN X0.here hx rfl (hb hby own_d1_0) rfl k)
  have k2 : own_To p.tables e below (s₁.setTop (entryFrame m #[(.int p1)] 2)) s₁ (mkF m 3 #[.val (.int p1), .unset] [(.int (2147483647 : Int32)), (.int p1)]) := fun t k => k1 t (X0.ldcInt hx hown (mvT hZ (hw _ (List.mem_of_getElem? (i := 4) rfl))) (g := (mkF m 1 #[.val (.int p1), .unset] [(.int p1)])) rfl (hb hby own_d1_1) _ k)
  have k3 : own_To p.tables e below (s₁.setTop (entryFrame m #[(.int p1)] 2)) s₁ (mkF m 4 #[.val (.int p1), .unset] [(.int (p1 &&& (2147483647 : Int32)))]) := fun t k => k2 t (XS.iand X0.here hx rfl (hb hby own_d1_3) rfl k)
  have k4 : own_To p.tables e below (s₁.setTop (entryFrame m #[(.int p1)] 2)) s₁ (mkF m 5 #[.val (.int p1), .unset] [(.int (3 : Int32)), (.int (p1 &&& (2147483647 : Int32)))]) := fun t k => k3 t (XS.iconst X0.here hx rfl (hb hby own_d1_4) k)
  have k5 : own_To p.tables e below (s₁.setTop (entryFrame m #[(.int p1)] 2)) s₁ (mkF m 6 #[.val (.int p1), .unset] [(.int ((p1 &&& (2147483647 : Int32)) % (3 : Int32)))]) := fun t k => k4 t (iremM (g := (mkF m 5 #[.val (.int p1), .unset] [(.int (3 : Int32)), (.int (p1 &&& (2147483647 : Int32)))])) X0 hx rfl (hb hby own_d1_5) rfl (by decide) k)
  have k6 : own_To p.tables e below (s₁.setTop (entryFrame m #[(.int p1)] 2)) s₁ (mkF m 7 #[.val (.int p1), .val (.int ((p1 &&& (2147483647 : Int32)) % (3 : Int32)))] []) := fun t k => k5 t (XS.istoreN X0.here hx rfl (hb hby own_d1_6) rfl (l' := #[.val (.int p1), .val (.int ((p1 &&& (2147483647 : Int32)) % (3 : Int32)))]) rfl k)
  have k7 : own_To p.tables e below (s₁.setTop (entryFrame m #[(.int p1)] 2)) s₁ (mkF m 8 #[.val (.int p1), .val (.int ((p1 &&& (2147483647 : Int32)) % (3 : Int32)))] [(.int ((p1 &&& (2147483647 : Int32)) % (3 : Int32)))]) := fun t k => k6 t (XS.iloadN X0.here hx rfl (hb hby own_d1_7) rfl k)
  by_cases hc8 : ((p1 &&& (2147483647 : Int32)) % (3 : Int32)) = (0 : Int32)
  · have k9 : own_To p.tables e below (s₁.setTop (entryFrame m #[(.int p1)] 2)) s₁ (mkF m 11 #[.val (.int p1), .val (.int ((p1 &&& (2147483647 : Int32)) % (3 : Int32)))] []) := fun t k => k7 t (XS.ifNo X0.here hx rfl (hb hby own_d1_8) rfl ((if0 _ _).trans (teq (show ((p1 &&& (2147483647 : Int32)) % (3 : Int32)) = (0 : Int32) from hc8)).2) k)
    obtain ⟨T10, X10, e10, st10⟩ := getS2 X0 hx hZ hown (host := "") (Or.inl (hw _ (List.mem_of_getElem? (i := 5) rfl))) Via.refl e0 S_YES (g := (mkF m 11 #[.val (.int p1), .val (.int ((p1 &&& (2147483647 : Int32)) % (3 : Int32)))] [])) rfl (hb hby own_d1_11)
    have k11 : own_To p.tables e below (s₁.setTop (entryFrame m #[(.int p1)] 2)) T10 (mkF m 14 #[.val (.int p1), .val (.int ((p1 &&& (2147483647 : Int32)) % (3 : Int32)))] [(.ref w_YES)]) := fun t k => k9 t (st10 t k)
    obtain ⟨fs, hr, hrun, hended, hW, hsame⟩ := X10.leave (v := some (.ref w_YES)) (fun h => by rw [Bd.returns] at h; cases h)
    refine ⟨_, _, k11 _ ?_, hrun, hended, _, _, rfl, ?_, ⟨_, rfl⟩, hW, hsame.mono (by decide) (by decide)⟩
    · jvm_step X10.here [X10.here.top, hx, (hb hby own_d1_14), X10.method', Bd.returns, Value.isRef, FieldType.isReference]
      first | (intro acts; rw [hr _ acts rfl rfl rfl]) | rw [hr _ _ rfl rfl rfl]
      exact Steps.refl _
    · refine ⟨?_, N0, e10⟩
      rw [show (own_f1 p1 w_YES w_NO w_UNKNOWN) = w_YES from by unfold own_f1; rw [if_pos hc8]]
  · have k12 : own_To p.tables e below (s₁.setTop (entryFrame m #[(.int p1)] 2)) s₁ (mkF m 15 #[.val (.int p1), .val (.int ((p1 &&& (2147483647 : Int32)) % (3 : Int32)))] []) := fun t k => k7 t (XS.ifYes X0.here hx rfl (pc0 := 8) (pc' := 15) rfl (hb hby own_d1_8) rfl ((if0 _ _).trans (feq (show ¬ (((p1 &&& (2147483647 : Int32)) % (3 : Int32)) = (0 : Int32)) from hc8)).2) (by decide) (by decide) k)
    have k13 : own_To p.tables e below (s₁.setTop (entryFrame m #[(.int p1)] 2)) s₁ (mkF m 16 #[.val (.int p1), .val (.int ((p1 &&& (2147483647 : Int32)) % (3 : Int32)))] [(.int ((p1 &&& (2147483647 : Int32)) % (3 : Int32)))]) := fun t k => k12 t (XS.iloadN X0.here hx rfl (hb hby own_d1_15) rfl k)
    have k14 : own_To p.tables e below (s₁.setTop (entryFrame m #[(.int p1)] 2)) s₁ (mkF m 17 #[.val (.int p1), .val (.int ((p1 &&& (2147483647 : Int32)) % (3 : Int32)))] [(.int (1 : Int32)), (.int ((p1 &&& (2147483647 : Int32)) % (3 : Int32)))]) := fun t k => k13 t (XS.iconst X0.here hx rfl (hb hby own_d1_16) k)
    by_cases hc15 : ((p1 &&& (2147483647 : Int32)) % (3 : Int32)) = (1 : Int32)
    · have k16 : own_To p.tables e below (s₁.setTop (entryFrame m #[(.int p1)] 2)) s₁ (mkF m 20 #[.val (.int p1), .val (.int ((p1 &&& (2147483647 : Int32)) % (3 : Int32)))] []) := fun t k => k14 t (XS.icmpNo X0.here hx rfl (hb hby own_d1_17) rfl (teq (show ((p1 &&& (2147483647 : Int32)) % (3 : Int32)) = (1 : Int32) from hc15)).2 k)
      obtain ⟨T17, X17, e17, st17⟩ := getS2 X0 hx hZ hown (host := "") (Or.inl (hw _ (List.mem_of_getElem? (i := 21) rfl))) Via.refl e0 S_NO (g := (mkF m 20 #[.val (.int p1), .val (.int ((p1 &&& (2147483647 : Int32)) % (3 : Int32)))] [])) rfl (hb hby own_d1_20)
      have k18 : own_To p.tables e below (s₁.setTop (entryFrame m #[(.int p1)] 2)) T17 (mkF m 23 #[.val (.int p1), .val (.int ((p1 &&& (2147483647 : Int32)) % (3 : Int32)))] [(.ref w_NO)]) := fun t k => k16 t (st17 t k)
      obtain ⟨fs, hr, hrun, hended, hW, hsame⟩ := X17.leave (v := some (.ref w_NO)) (fun h => by rw [Bd.returns] at h; cases h)
      refine ⟨_, _, k18 _ ?_, hrun, hended, _, _, rfl, ?_, ⟨_, rfl⟩, hW, hsame.mono (by decide) (by decide)⟩
      · jvm_step X17.here [X17.here.top, hx, (hb hby own_d1_23), X17.method', Bd.returns, Value.isRef, FieldType.isReference]
        first | (intro acts; rw [hr _ acts rfl rfl rfl]) | rw [hr _ _ rfl rfl rfl]
        exact Steps.refl _
      · refine ⟨?_, N0, e17⟩
        rw [show (own_f1 p1 w_YES w_NO w_UNKNOWN) = w_NO from by unfold own_f1; rw [if_neg hc8, if_pos hc15]]
    · have k19 : own_To p.tables e below (s₁.setTop (entryFrame m #[(.int p1)] 2)) s₁ (mkF m 24 #[.val (.int p1), .val (.int ((p1 &&& (2147483647 : Int32)) % (3 : Int32)))] []) := fun t k => k14 t (XS.icmpYes X0.here hx rfl (pc0 := 17) (pc' := 24) rfl (hb hby own_d1_17) rfl (feq (show ¬ (((p1 &&& (2147483647 : Int32)) % (3 : Int32)) = (1 : Int32)) from hc15)).2 (by decide) (by decide) k)
      obtain ⟨T20, X20, e20, st20⟩ := getS2 X0 hx hZ hown (host := "") (Or.inl (hw _ (List.mem_of_getElem? (i := 22) rfl))) Via.refl e0 S_UNKNOWN (g := (mkF m 24 #[.val (.int p1), .val (.int ((p1 &&& (2147483647 : Int32)) % (3 : Int32)))] [])) rfl (hb hby own_d1_24)
      have k21 : own_To p.tables e below (s₁.setTop (entryFrame m #[(.int p1)] 2)) T20 (mkF m 27 #[.val (.int p1), .val (.int ((p1 &&& (2147483647 : Int32)) % (3 : Int32)))] [(.ref w_UNKNOWN)]) := fun t k => k19 t (st20 t k)
      obtain ⟨fs, hr, hrun, hended, hW, hsame⟩ := X20.leave (v := some (.ref w_UNKNOWN)) (fun h => by rw [Bd.returns] at h; cases h)
      refine ⟨_, _, k21 _ ?_, hrun, hended, _, _, rfl, ?_, ⟨_, rfl⟩, hW, hsame.mono (by decide) (by decide)⟩
      · jvm_step X20.here [X20.here.top, hx, (hb hby own_d1_27), X20.method', Bd.returns, Value.isRef, FieldType.isReference]
        first | (intro acts; rw [hr _ acts rfl rfl rfl]) | rw [hr _ _ rfl rfl rfl]
        exact Steps.refl _
      · refine ⟨?_, N0, e20⟩
        rw [show (own_f1 p1 w_YES w_NO w_UNKNOWN) = w_UNKNOWN from by unfold own_f1; rw [if_neg hc8, if_neg hc15]]
theorem own_d2_0 : decode prog_317_method_5_code 0 = .ok (.getstatic 10, 3) := by decide +kernel
theorem own_d2_3 : decode prog_317_method_5_code 3 = .ok (.astore_n 2, 1) := by decide +kernel
theorem own_d2_4 : decode prog_317_method_5_code 4 = .ok (.aload_n 0, 1) := by decide +kernel
theorem own_d2_5 : decode prog_317_method_5_code 5 = .ok (.getstatic 7, 3) := by decide +kernel
theorem own_d2_8 : decode prog_317_method_5_code 8 = .ok (.if_acmp .eq 10, 3) := by decide +kernel
theorem own_d2_18 : decode prog_317_method_5_code 18 = .ok (.getstatic 7, 3) := by decide +kernel
theorem own_d2_21 : decode prog_317_method_5_code 21 = .ok (.astore_n 2, 1) := by decide +kernel
theorem own_d2_22 : decode prog_317_method_5_code 22 = .ok (.goto 21, 3) := by decide +kernel
theorem own_d2_43 : decode prog_317_method_5_code 43 = .ok (.aload_n 2, 1) := by decide +kernel
theorem own_d2_44 : decode prog_317_method_5_code 44 = .ok (.areturn, 1) := by decide +kernel
theorem own_d2_11 : decode prog_317_method_5_code 11 = .ok (.aload_n 1, 1) := by decide +kernel
theorem own_d2_12 : decode prog_317_method_5_code 12 = .ok (.getstatic 7, 3) := by decide +kernel
theorem own_d2_15 : decode prog_317_method_5_code 15 = .ok (.if_acmp .ne 10, 3) := by decide +kernel
theorem own_d2_25 : decode prog_317_method_5_code 25 = .ok (.aload_n 0, 1) := by decide +kernel
theorem own_d2_26 : decode prog_317_method_5_code 26 = .ok (.getstatic 3, 3) := by decide +kernel
theorem own_d2_29 : decode prog_317_method_5_code 29 = .ok (.if_acmp .ne 14, 3) := by decide +kernel
theorem own_d2_32 : decode prog_317_method_5_code 32 = .ok (.aload_n 1, 1) := by decide +kernel
theorem own_d2_33 : decode prog_317_method_5_code 33 = .ok (.getstatic 3, 3) := by decide +kernel
theorem own_d2_36 : decode prog_317_method_5_code 36 = .ok (.if_acmp .ne 7, 3) := by decide +kernel
theorem own_d2_39 : decode prog_317_method_5_code 39 = .ok (.getstatic 3, 3) := by decide +kernel
theorem own_d2_42 : decode prog_317_method_5_code 42 = .ok (.astore_n 2, 1) := by decide +kernel
theorem own_ef2 (m : MethodId) (x0 : Addr) (x1 : Addr) : entryFrame m #[(.ref x0), (.ref x1)] 3 = mkF m 0 #[.val (.ref x0), .val (.ref x1), .unset] [] := by first | (simp [entryFrame, mkF, argsToLocals, Value.category]; done) | rfl
theorem own_pn2 : plainName "com/example/witness/witness/value/NormalForm$Known" = true := by first | (simp [plainName, overriddenIn]; done) | decide +kernel
def own_f2 (a1 : Addr) (a2 : Addr) (w_UNKNOWN : Addr) (w_NO : Addr) (w_YES : Addr) : Addr := (if a1 = w_NO then w_NO else (if a2 = w_NO then w_NO else (if a1 = w_YES then (if a2 = w_YES then w_YES else w_UNKNOWN) else w_UNKNOWN)))
set_option maxRecDepth 65536 in
set_option maxHeartbeats 40000000 in
theorem own_m2 (l : Launch) (Z : State) (a0 : Array Value) (hw : ∀ d ∈ tables_1, d.before a0 Z = true) (ws : List Jvm.Cond) (a1 : Addr) (a2 : Addr) (w_UNKNOWN : Addr) (w_NO : Addr) (w_YES : Addr) (h0 : Heap) (n0 : Nat) (Z0 : n0 ≤ h0.size) (S_UNKNOWN : Sta Z h0 "com/example/witness/witness/value/NormalForm$Known" "UNKNOWN" "Lcom/example/witness/witness/value/NormalForm$Known;" (.ref w_UNKNOWN)) (S_NO : Sta Z h0 "com/example/witness/witness/value/NormalForm$Known" "NO" "Lcom/example/witness/witness/value/NormalForm$Known;" (.ref w_NO)) (S_YES : Sta Z h0 "com/example/witness/witness/value/NormalForm$Known" "YES" "Lcom/example/witness/witness/value/NormalForm$Known;" (.ref w_YES)) :
    MetFree l (⟨"com/example/witness/witness/value/NormalForm$Known", "and", "(Lcom/example/witness/witness/value/NormalForm$Known;)Lcom/example/witness/witness/value/NormalForm$Known;"⟩ : MethodName) (head1 (Jvm.Cond.code (⟨"com/example/witness/witness/value/NormalForm$Known", "and", "(Lcom/example/witness/witness/value/NormalForm$Known;)Lcom/example/witness/witness/value/NormalForm$Known;"⟩ : MethodName) prog_317_method_5_code 3 (some (.object "com/example/witness/witness/value/NormalForm$Known")) :: ws) ({ frames := 0, cells := 0, slots := 0, locals := 0 } : Room)) (fun a U => a = #[(.ref a1), (.ref a2)] ∧ Z.Warmed39 U.vm ∧ U.heap = h0) (fun _ _ _ _ _ => True) (fun _ U o U' => ∃ v L, o = .returned v ∧ own_Q (some (.ref (own_f2 a1 a2 w_UNKNOWN w_NO w_YES))) h0 n0 v U'.heap L ∧ FrameEnd U o U' L ({ frames := 0, cells := 0, slots := 0, locals := 0 } : Room).cells ({ frames := 0, cells := 0, slots := 0, locals := 0 } : Room).slots) := by
  refine MetFree.of_bodySF (plainFor_of_name own_pn2) hisR ?_
  intro p e s m args below meth c s₁ Bd hml0 hP hK
  obtain ⟨rfl, hZ, hh⟩ := hP
  have hx := Bd.exec
  have hby := Bd.bytes
  have hml : c.maxLocals = 3 := hml0
  have hown : s.vm.findClass "com/example/witness/witness/value/NormalForm$Known" = some m.cls := findClass_of_methodNamed Bd.named
  have hnm := (name_of_methodNamed Bd.named Bd.method).1
  have X0 : Stand p l e ({ frames := 0, cells := 0, slots := 0, locals := 0 } : Room) s m #[(.ref a1), (.ref a2)] below meth c s₁ [] 0 0 := Stand.of_body Bd
  have e0 : s₁.heap = h0 := by rw [← hh, Bd.state]; rfl
  have N0 := Fr.nil n0
  have k0 : own_To p.tables e below (s₁.setTop (entryFrame m #[(.ref a1), (.ref a2)] 3)) s₁ (mkF m 0 #[.val (.ref a1), .val (.ref a2), .unset] []) := fun t k => castTop (own_ef2 m a1 a2) k
  obtain ⟨T1, X1, e1, st1⟩ := getS2 X0 hx hZ hown (host := "") (Or.inl (hw _ (List.mem_of_getElem? (i := 13) rfl))) Via.refl e0 S_UNKNOWN (g := (mkF m 0 #[.val (.ref a1), .val (.ref a2), .unset] [])) rfl (hb hby own_d2_0)
  have k2 : own_To p.tables e below (s₁.setTop (entryFrame m #[(.ref a1), (.ref a2)] 3)) T1 (mkF m 3 #[.val (.ref a1), .val (.ref a2), .unset] [(.ref w_UNKNOWN)]) := fun t k => k0 t (st1 t k)
  have k3 : own_To p.tables e below (s₁.setTop (entryFrame m #[(.ref a1), (.ref a2)] 3)) T1 (mkF m 4 #[.val (.ref a1), .val (.ref a2), .val (.ref w_UNKNOWN)] []) := fun t k => k2 t (XS.astoreN X1.here hx rfl (hb hby own_d2_3) rfl rfl (l' := #[.val (.ref a1), .val (.ref a2), .val (.ref w_UNKNOWN)]) rfl k)
  have k4 : own_To p.tables e below (s₁.setTop (entryFrame m #[(.ref a1), (.ref a2)] 3)) T1 (mkF m 5 #[.val (.ref a1), .val (.ref a2), .val (.ref w_UNKNOWN)] [(.ref a1)]) := fun t k => k3 t (XS.aloadN X1.here hx rfl (hb hby own_d2_4) rfl rfl k)
  obtain ⟨T5, X5, e5, st5⟩ := getS2 X1 hx hZ hown (host := "") (Or.inl (hw _ (List.mem_of_getElem? (i := 15) rfl))) Via.refl e1 S_NO (g := (mkF m 5 #[.val (.ref a1), .val (.ref a2), .val (.ref w_UNKNOWN)] [(.ref a1)])) rfl (hb hby own_d2_5)
  have k6 : own_To p.tables e below (s₁.setTop (entryFrame m #[(.ref a1), (.ref a2)] 3)) T5 (mkF m 8 #[.val (.ref a1), .val (.ref a2), .val (.ref w_UNKNOWN)] [(.ref w_NO), (.ref a1)]) := fun t k => k4 t (st5 t k)
  by_cases hc7 : a1 = w_NO
  · have k8 : own_To p.tables e below (s₁.setTop (entryFrame m #[(.ref a1), (.ref a2)] 3)) T5 (mkF m 18 #[.val (.ref a1), .val (.ref a2), .val (.ref w_UNKNOWN)] []) := fun t k => k6 t (Jvm.RoadKit.acmp (g := (mkF m 8 #[.val (.ref a1), .val (.ref a2), .val (.ref w_UNKNOWN)] [(.ref w_NO), (.ref a1)])) X5 hx rfl rfl rfl (pc0 := 8) (pc' := 18) (same := true) rfl (hb hby own_d2_8) rfl (decide_eq_true (congrArg Value.ref hc7)) (by decide) (by decide) k)
    obtain ⟨T9, X9, e9, st9⟩ := getS2 X5 hx hZ hown (host := "") (Or.inl (hw _ (List.mem_of_getElem? (i := 15) rfl))) Via.refl e5 S_NO (g := (mkF m 18 #[.val (.ref a1), .val (.ref a2), .val (.ref w_UNKNOWN)] [])) rfl (hb hby own_d2_18)
    have k10 : own_To p.tables e below (s₁.setTop (entryFrame m #[(.ref a1), (.ref a2)] 3)) T9 (mkF m 21 #[.val (.ref a1), .val (.ref a2), .val (.ref w_UNKNOWN)] [(.ref w_NO)]) := fun t k => k8 t (st9 t k)
    have k11 : own_To p.tables e below (s₁.setTop (entryFrame m #[(.ref a1), (.ref a2)] 3)) T9 (mkF m 22 #[.val (.ref a1), .val (.ref a2), .val (.ref w_NO)] []) := fun t k => k10 t (XS.astoreN X9.here hx rfl (hb hby own_d2_21) rfl rfl (l' := #[.val (.ref a1), .val (.ref a2), .val (.ref w_NO)]) rfl k)
    have k12 : own_To p.tables e below (s₁.setTop (entryFrame m #[(.ref a1), (.ref a2)] 3)) T9 (mkF m 43 #[.val (.ref a1), .val (.ref a2), .val (.ref w_NO)] []) := fun t k => k11 t (XS.goto X9.here hx rfl (pc0 := 22) (pc' := 43) rfl (hb hby own_d2_22) (by decide) (by decide) k)
    have k13 : own_To p.tables e below (s₁.setTop (entryFrame m #[(.ref a1), (.ref a2)] 3)) T9 (mkF m 44 #[.val (.ref a1), .val (.ref a2), .val (.ref w_NO)] [(.ref w_NO)]) := fun t k => k12 t (XS.aloadN X9.here hx rfl (hb hby own_d2_43) rfl rfl k)
    obtain ⟨fs, hr, hrun, hended, hW, hsame⟩ := X9.leave (v := some (.ref w_NO)) (fun h => by rw [Bd.returns] at h; cases h)
    refine ⟨_, _, k13 _ ?_, hrun, hended, _, _, rfl, ?_, ⟨_, rfl⟩, hW, hsame.mono (by decide) (by decide)⟩
    · jvm_step X9.here [X9.here.top, hx, (hb hby own_d2_44), X9.method', Bd.returns, Value.isRef, FieldType.isReference]
      first | (intro acts; rw [hr _ acts rfl rfl rfl]) | rw [hr _ _ rfl rfl rfl]
      exact Steps.refl _
    · refine ⟨?_, N0, e9⟩
      rw [show (own_f2 a1 a2 w_UNKNOWN w_NO w_YES) = w_NO from by unfold own_f2; rw [if_pos hc7]]
  · have k14 : own_To p.tables e below (s₁.setTop (entryFrame m #[(.ref a1), (.ref a2)] 3)) T5 (mkF m 11 #[.val (.ref a1), .val (.ref a2), .val (.ref w_UNKNOWN)] []) := fun t k => k6 t (Jvm.RoadKit.acmp (g := (mkF m 8 #[.val (.ref a1), .val (.ref a2), .val (.ref w_UNKNOWN)] [(.ref w_NO), (.ref a1)])) X5 hx rfl rfl rfl (pc0 := 8) (pc' := 11) (same := false) rfl (hb hby own_d2_8) rfl (decide_eq_false fun q => hc7 (Value.ref.inj q)) (by decide) (by decide) k)
    have k15 : own_To p.tables e below (s₁.setTop (entryFrame m #[(.ref a1), (.ref a2)] 3)) T5 (mkF m 12 #[.val (.ref a1), .val (.ref a2), .val (.ref w_UNKNOWN)] [(.ref a2)]) := fun t k => k14 t (XS.aloadN X5.here hx rfl (hb hby own_d2_11) rfl rfl k)
    obtain ⟨T16, X16, e16, st16⟩ := getS2 X5 hx hZ hown (host := "") (Or.inl (hw _ (List.mem_of_getElem? (i := 15) rfl))) Via.refl e5 S_NO (g := (mkF m 12 #[.val (.ref a1), .val (.ref a2), .val (.ref w_UNKNOWN)] [(.ref a2)])) rfl (hb hby own_d2_12)
    have k17 : own_To p.tables e below (s₁.setTop (entryFrame m #[(.ref a1), (.ref a2)] 3)) T16 (mkF m 15 #[.val (.ref a1), .val (.ref a2), .val (.ref w_UNKNOWN)] [(.ref w_NO), (.ref a2)]) := fun t k => k15 t (st16 t k)
    by_cases hc18 : a2 = w_NO
    · have k19 : own_To p.tables e below (s₁.setTop (entryFrame m #[(.ref a1), (.ref a2)] 3)) T16 (mkF m 18 #[.val (.ref a1), .val (.ref a2), .val (.ref w_UNKNOWN)] []) := fun t k => k17 t (Jvm.RoadKit.acmp (g := (mkF m 15 #[.val (.ref a1), .val (.ref a2), .val (.ref w_UNKNOWN)] [(.ref w_NO), (.ref a2)])) X16 hx rfl rfl rfl (pc0 := 15) (pc' := 18) (same := true) rfl (hb hby own_d2_15) rfl (decide_eq_true (congrArg Value.ref hc18)) (by decide) (by decide) k)
      obtain ⟨T20, X20, e20, st20⟩ := getS2 X16 hx hZ hown (host := "") (Or.inl (hw _ (List.mem_of_getElem? (i := 15) rfl))) Via.refl e16 S_NO (g := (mkF m 18 #[.val (.ref a1), .val (.ref a2), .val (.ref w_UNKNOWN)] [])) rfl (hb hby own_d2_18)
      have k21 : own_To p.tables e below (s₁.setTop (entryFrame m #[(.ref a1), (.ref a2)] 3)) T20 (mkF m 21 #[.val (.ref a1), .val (.ref a2), .val (.ref w_UNKNOWN)] [(.ref w_NO)]) := fun t k => k19 t (st20 t k)
      have k22 : own_To p.tables e below (s₁.setTop (entryFrame m #[(.ref a1), (.ref a2)] 3)) T20 (mkF m 22 #[.val (.ref a1), .val (.ref a2), .val (.ref w_NO)] []) := fun t k => k21 t (XS.astoreN X20.here hx rfl (hb hby own_d2_21) rfl rfl (l' := #[.val (.ref a1), .val (.ref a2), .val (.ref w_NO)]) rfl k)
      have k23 : own_To p.tables e below (s₁.setTop (entryFrame m #[(.ref a1), (.ref a2)] 3)) T20 (mkF m 43 #[.val (.ref a1), .val (.ref a2), .val (.ref w_NO)] []) := fun t k => k22 t (XS.goto X20.here hx rfl (pc0 := 22) (pc' := 43) rfl (hb hby own_d2_22) (by decide) (by decide) k)
      have k24 : own_To p.tables e below (s₁.setTop (entryFrame m #[(.ref a1), (.ref a2)] 3)) T20 (mkF m 44 #[.val (.ref a1), .val (.ref a2), .val (.ref w_NO)] [(.ref w_NO)]) := fun t k => k23 t (XS.aloadN X20.here hx rfl (hb hby own_d2_43) rfl rfl k)
      obtain ⟨fs, hr, hrun, hended, hW, hsame⟩ := X20.leave (v := some (.ref w_NO)) (fun h => by rw [Bd.returns] at h; cases h)
      refine ⟨_, _, k24 _ ?_, hrun, hended, _, _, rfl, ?_, ⟨_, rfl⟩, hW, hsame.mono (by decide) (by decide)⟩
      · jvm_step X20.here [X20.here.top, hx, (hb hby own_d2_44), X20.method', Bd.returns, Value.isRef, FieldType.isReference]
        first | (intro acts; rw [hr _ acts rfl rfl rfl]) | rw [hr _ _ rfl rfl rfl]
        exact Steps.refl _
      · refine ⟨?_, N0, e20⟩
        rw [show (own_f2 a1 a2 w_UNKNOWN w_NO w_YES) = w_NO from by unfold own_f2; rw [if_neg hc7, if_pos hc18]]
    · have k25 : own_To p.tables e below (s₁.setTop (entryFrame m #[(.ref a1), (.ref a2)] 3)) T16 (mkF m 25 #[.val (.ref a1), .val (.ref a2), .val (.ref w_UNKNOWN)] []) := fun t k => k17 t (Jvm.RoadKit.acmp (g := (mkF m 15 #[.val (.ref a1), .val (.ref a2), .val (.ref w_UNKNOWN)] [(.ref w_NO), (.ref a2)])) X16 hx rfl rfl rfl (pc0 := 15) (pc' := 25) (same := false) rfl (hb hby own_d2_15) rfl (decide_eq_false fun q => hc18 (Value.ref.inj q)) (by decide) (by decide) k)
      have k26 : own_To p.tables e below (s₁.setTop (entryFrame m #[(.ref a1), (.ref a2)] 3)) T16 (mkF m 26 #[.val (.ref a1), .val (.ref a2), .val (.ref w_UNKNOWN)] [(.ref a1)]) := fun t k => k25 t (XS.aloadN X16.here hx rfl (hb hby own_d2_25) rfl rfl k)
      obtain ⟨T27, X27, e27, st27⟩ := getS2 X16 hx hZ hown (host := "") (Or.inl (hw _ (List.mem_of_getElem? (i := 17) rfl))) Via.refl e16 S_YES (g := (mkF m 26 #[.val (.ref a1), .val (.ref a2), .val (.ref w_UNKNOWN)] [(.ref a1)])) rfl (hb hby own_d2_26)
      have k28 : own_To p.tables e below (s₁.setTop (entryFrame m #[(.ref a1), (.ref a2)] 3)) T27 (mkF m 29 #[.val (.ref a1), .val (.ref a2), .val (.ref w_UNKNOWN)] [(.ref w_YES), (.ref a1)]) := fun t k => k26 t (st27 t k)
      by_cases hc29 : a1 = w_YES
      · have k30 : own_To p.tables e below (s₁.setTop (entryFrame m #[(.ref a1), (.ref a2)] 3)) T27 (mkF m 32 #[.val (.ref a1), .val (.ref a2), .val (.ref w_UNKNOWN)] []) := fun t k => k28 t (Jvm.RoadKit.acmp (g := (mkF m 29 #[.val (.ref a1), .val (.ref a2), .val (.ref w_UNKNOWN)] [(.ref w_YES), (.ref a1)])) X27 hx rfl rfl rfl (pc0 := 29) (pc' := 32) (same := true) rfl (hb hby own_d2_29) rfl (decide_eq_true (congrArg Value.ref hc29)) (by decide) (by decide) k)
        have k31 : own_To p.tables e below (s₁.setTop (entryFrame m #[(.ref a1), (.ref a2)] 3)) T27 (mkF m 33 #[.val (.ref a1), .val (.ref a2), .val (.ref w_UNKNOWN)] [(.ref a2)]) := fun t k => k30 t (XS.aloadN X27.here hx rfl (hb hby own_d2_32) rfl rfl k)
        obtain ⟨T32, X32, e32, st32⟩ := getS2 X27 hx hZ hown (host := "") (Or.inl (hw _ (List.mem_of_getElem? (i := 17) rfl))) Via.refl e27 S_YES (g := (mkF m 33 #[.val (.ref a1), .val (.ref a2), .val (.ref w_UNKNOWN)] [(.ref a2)])) rfl (hb hby own_d2_33)
        have k33 : own_To p.tables e below (s₁.setTop (entryFrame m #[(.ref a1), (.ref a2)] 3)) T32 (mkF m 36 #[.val (.ref a1), .val (.ref a2), .val (.ref w_UNKNOWN)] [(.ref w_YES), (.ref a2)]) := fun t k => k31 t (st32 t k)
        by_cases hc34 : a2 = w_YES
        · have k35 : own_To p.tables e below (s₁.setTop (entryFrame m #[(.ref a1), (.ref a2)] 3)) T32 (mkF m 39 #[.val (.ref a1), .val (.ref a2), .val (.ref w_UNKNOWN)] []) := fun t k => k33 t (Jvm.RoadKit.acmp (g := (mkF m 36 #[.val (.ref a1), .val (.ref a2), .val (.ref w_UNKNOWN)] [(.ref w_YES), (.ref a2)])) X32 hx rfl rfl rfl (pc0 := 36) (pc' := 39) (same := true) rfl (hb hby own_d2_36) rfl (decide_eq_true (congrArg Value.ref hc34)) (by decide) (by decide) k)
          obtain ⟨T36, X36, e36, st36⟩ := getS2 X32 hx hZ hown (host := "") (Or.inl (hw _ (List.mem_of_getElem? (i := 17) rfl))) Via.refl e32 S_YES (g := (mkF m 39 #[.val (.ref a1), .val (.ref a2), .val (.ref w_UNKNOWN)] [])) rfl (hb hby own_d2_39)
          have k37 : own_To p.tables e below (s₁.setTop (entryFrame m #[(.ref a1), (.ref a2)] 3)) T36 (mkF m 42 #[.val (.ref a1), .val (.ref a2), .val (.ref w_UNKNOWN)] [(.ref w_YES)]) := fun t k => k35 t (st36 t k)
          have k38 : own_To p.tables e below (s₁.setTop (entryFrame m #[(.ref a1), (.ref a2)] 3)) T36 (mkF m 43 #[.val (.ref a1), .val (.ref a2), .val (.ref w_YES)] []) := fun t k => k37 t (XS.astoreN X36.here hx rfl (hb hby own_d2_42) rfl rfl (l' := #[.val (.ref a1), .val (.ref a2), .val (.ref w_YES)]) rfl k)
          have k39 : own_To p.tables e below (s₁.setTop (entryFrame m #[(.ref a1), (.ref a2)] 3)) T36 (mkF m 44 #[.val (.ref a1), .val (.ref a2), .val (.ref w_YES)] [(.ref w_YES)]) := fun t k => k38 t (XS.aloadN X36.here hx rfl (hb hby own_d2_43) rfl rfl k)
          obtain ⟨fs, hr, hrun, hended, hW, hsame⟩ := X36.leave (v := some (.ref w_YES)) (fun h => by rw [Bd.returns] at h; cases h)
          refine ⟨_, _, k39 _ ?_, hrun, hended, _, _, rfl, ?_, ⟨_, rfl⟩, hW, hsame.mono (by decide) (by decide)⟩
          · jvm_step X36.here [X36.here.top, hx, (hb hby own_d2_44), X36.method', Bd.returns, Value.isRef, FieldType.isReference]
            first | (intro acts; rw [hr _ acts rfl rfl rfl]) | rw [hr _ _ rfl rfl rfl]
            exact Steps.refl _
          · refine ⟨?_, N0, e36⟩
            rw [show (own_f2 a1 a2 w_UNKNOWN w_NO w_YES) = w_YES from by unfold own_f2; rw [if_neg hc7, if_neg hc18, if_pos hc29, if_pos hc34]]
        · have k40 : own_To p.tables e below (s₁.setTop (entryFrame m #[(.ref a1), (.ref a2)] 3)) T32 (mkF m 43 #[.val (.ref a1), .val (.ref a2), .val (.ref w_UNKNOWN)] []) := fun t k => k33 t (Jvm.RoadKit.acmp (g := (mkF m 36 #[.val (.ref a1), .val (.ref a2), .val (.ref w_UNKNOWN)] [(.ref w_YES), (.ref a2)])) X32 hx rfl rfl rfl (pc0 := 36) (pc' := 43) (same := false) rfl (hb hby own_d2_36) rfl (decide_eq_false fun q => hc34 (Value.ref.inj q)) (by decide) (by decide) k)
          have k41 : own_To p.tables e below (s₁.setTop (entryFrame m #[(.ref a1), (.ref a2)] 3)) T32 (mkF m 44 #[.val (.ref a1), .val (.ref a2), .val (.ref w_UNKNOWN)] [(.ref w_UNKNOWN)]) := fun t k => k40 t (XS.aloadN X32.here hx rfl (hb hby own_d2_43) rfl rfl k)
          obtain ⟨fs, hr, hrun, hended, hW, hsame⟩ := X32.leave (v := some (.ref w_UNKNOWN)) (fun h => by rw [Bd.returns] at h; cases h)
          refine ⟨_, _, k41 _ ?_, hrun, hended, _, _, rfl, ?_, ⟨_, rfl⟩, hW, hsame.mono (by decide) (by decide)⟩
          · jvm_step X32.here [X32.here.top, hx, (hb hby own_d2_44), X32.method', Bd.returns, Value.isRef, FieldType.isReference]
            first | (intro acts; rw [hr _ acts rfl rfl rfl]) | rw [hr _ _ rfl rfl rfl]
            exact Steps.refl _
          · refine ⟨?_, N0, e32⟩
            rw [show (own_f2 a1 a2 w_UNKNOWN w_NO w_YES) = w_UNKNOWN from by unfold own_f2; rw [if_neg hc7, if_neg hc18, if_pos hc29, if_neg hc34]]
      · have k42 : own_To p.tables e below (s₁.setTop (entryFrame m #[(.ref a1), (.ref a2)] 3)) T27 (mkF m 43 #[.val (.ref a1), .val (.ref a2), .val (.ref w_UNKNOWN)] []) := fun t k => k28 t (Jvm.RoadKit.acmp (g := (mkF m 29 #[.val (.ref a1), .val (.ref a2), .val (.ref w_UNKNOWN)] [(.ref w_YES), (.ref a1)])) X27 hx rfl rfl rfl (pc0 := 29) (pc' := 43) (same := false) rfl (hb hby own_d2_29) rfl (decide_eq_false fun q => hc29 (Value.ref.inj q)) (by decide) (by decide) k)
        have k43 : own_To p.tables e below (s₁.setTop (entryFrame m #[(.ref a1), (.ref a2)] 3)) T27 (mkF m 44 #[.val (.ref a1), .val (.ref a2), .val (.ref w_UNKNOWN)] [(.ref w_UNKNOWN)]) := fun t k => k42 t (XS.aloadN X27.here hx rfl (hb hby own_d2_43) rfl rfl k)
        obtain ⟨fs, hr, hrun, hended, hW, hsame⟩ := X27.leave (v := some (.ref w_UNKNOWN)) (fun h => by rw [Bd.returns] at h; cases h)
        refine ⟨_, _, k43 _ ?_, hrun, hended, _, _, rfl, ?_, ⟨_, rfl⟩, hW, hsame.mono (by decide) (by decide)⟩
        · jvm_step X27.here [X27.here.top, hx, (hb hby own_d2_44), X27.method', Bd.returns, Value.isRef, FieldType.isReference]
          first | (intro acts; rw [hr _ acts rfl rfl rfl]) | rw [hr _ _ rfl rfl rfl]
          exact Steps.refl _
        · refine ⟨?_, N0, e27⟩
          rw [show (own_f2 a1 a2 w_UNKNOWN w_NO w_YES) = w_UNKNOWN from by unfold own_f2; rw [if_neg hc7, if_neg hc18, if_neg hc29]]
theorem own_d3_0 : decode method_3_code 0 = .ok (.aload_n 0, 1) := by decide +kernel
theorem own_d3_1 : decode method_3_code 1 = .ok (.getstatic 14, 3) := by decide +kernel
theorem own_d3_4 : decode method_3_code 4 = .ok (.if_acmp .ne 5, 3) := by decide +kernel
theorem own_d3_7 : decode method_3_code 7 = .ok (.iconst 0, 1) := by decide +kernel
theorem own_d3_8 : decode method_3_code 8 = .ok (.ireturn, 1) := by decide +kernel
theorem own_d3_9 : decode method_3_code 9 = .ok (.aload_n 0, 1) := by decide +kernel
theorem own_d3_10 : decode method_3_code 10 = .ok (.getstatic 17, 3) := by decide +kernel
theorem own_d3_13 : decode method_3_code 13 = .ok (.if_acmp .ne 5, 3) := by decide +kernel
theorem own_d3_16 : decode method_3_code 16 = .ok (.iconst 1, 1) := by decide +kernel
theorem own_d3_17 : decode method_3_code 17 = .ok (.ireturn, 1) := by decide +kernel
theorem own_d3_18 : decode method_3_code 18 = .ok (.aload_n 0, 1) := by decide +kernel
theorem own_d3_19 : decode method_3_code 19 = .ok (.getstatic 8, 3) := by decide +kernel
theorem own_d3_22 : decode method_3_code 22 = .ok (.if_acmp .ne 5, 3) := by decide +kernel
theorem own_d3_25 : decode method_3_code 25 = .ok (.iconst 2, 1) := by decide +kernel
theorem own_d3_26 : decode method_3_code 26 = .ok (.ireturn, 1) := by decide +kernel
theorem own_d3_27 : decode method_3_code 27 = .ok (.iconst (-1), 1) := by decide +kernel
theorem own_d3_28 : decode method_3_code 28 = .ok (.ireturn, 1) := by decide +kernel
theorem own_ef3 (m : MethodId) (x0 : Addr) : entryFrame m #[(.ref x0)] 1 = mkF m 0 #[.val (.ref x0)] [] := by first | (simp [entryFrame, mkF, argsToLocals, Value.category]; done) | rfl
theorem own_pn3 : plainName "com/example/witness/witness/value/KnownAndPinLaw" = true := by first | (simp [plainName, overriddenIn]; done) | decide +kernel
def own_f3 (a1 : Addr) (w_NO : Addr) (w_UNKNOWN : Addr) (w_YES : Addr) : Int32 := (if a1 = w_NO then (0 : Int32) else (if a1 = w_UNKNOWN then (1 : Int32) else (if a1 = w_YES then (2 : Int32) else (-1 : Int32))))
set_option maxRecDepth 65536 in
set_option maxHeartbeats 40000000 in
theorem own_m3 (l : Launch) (Z : State) (a0 : Array Value) (hw : ∀ d ∈ tables_1, d.before a0 Z = true) (ws : List Jvm.Cond) (a1 : Addr) (w_NO : Addr) (w_UNKNOWN : Addr) (w_YES : Addr) (h0 : Heap) (n0 : Nat) (Z0 : n0 ≤ h0.size) (S_NO : Sta Z h0 "com/example/witness/witness/value/NormalForm$Known" "NO" "Lcom/example/witness/witness/value/NormalForm$Known;" (.ref w_NO)) (S_UNKNOWN : Sta Z h0 "com/example/witness/witness/value/NormalForm$Known" "UNKNOWN" "Lcom/example/witness/witness/value/NormalForm$Known;" (.ref w_UNKNOWN)) (S_YES : Sta Z h0 "com/example/witness/witness/value/NormalForm$Known" "YES" "Lcom/example/witness/witness/value/NormalForm$Known;" (.ref w_YES)) :
    MetFree l (⟨"com/example/witness/witness/value/KnownAndPinLaw", "rank", "(Lcom/example/witness/witness/value/NormalForm$Known;)I"⟩ : MethodName) (head1 (Jvm.Cond.code (⟨"com/example/witness/witness/value/KnownAndPinLaw", "rank", "(Lcom/example/witness/witness/value/NormalForm$Known;)I"⟩ : MethodName) method_3_code 1 (some .int) :: ws) ({ frames := 0, cells := 0, slots := 0, locals := 0 } : Room)) (fun a U => a = #[(.ref a1)] ∧ Z.Warmed39 U.vm ∧ U.heap = h0) (fun _ _ _ _ _ => True) (fun _ U o U' => ∃ v L, o = .returned v ∧ own_Q (some (.int (own_f3 a1 w_NO w_UNKNOWN w_YES))) h0 n0 v U'.heap L ∧ FrameEnd U o U' L ({ frames := 0, cells := 0, slots := 0, locals := 0 } : Room).cells ({ frames := 0, cells := 0, slots := 0, locals := 0 } : Room).slots) := by
  refine MetFree.of_bodySF (plainFor_of_name own_pn3) hisR ?_
  intro p e s m args below meth c s₁ Bd hml0 hP hK
  obtain ⟨rfl, hZ, hh⟩ := hP
  have hx := Bd.exec
  have hby := Bd.bytes
  have hml : c.maxLocals = 1 := hml0
  have hown : s.vm.findClass "com/example/witness/witness/value/KnownAndPinLaw" = some m.cls := findClass_of_methodNamed Bd.named
  have hnm := (name_of_methodNamed Bd.named Bd.method).1
  have X0 : Stand p l e ({ frames := 0, cells := 0, slots := 0, locals := 0 } : Room) s m #[(.ref a1)] below meth c s₁ [] 0 0 := Stand.of_body Bd
  have e0 : s₁.heap = h0 := by rw [← hh, Bd.state]; rfl
  have N0 := Fr.nil n0
  have k0 : own_To p.tables e below (s₁.setTop (entryFrame m #[(.ref a1)] 1)) s₁ (mkF m 0 #[.val (.ref a1)] []) := fun t k => castTop (own_ef3 m a1) k
  have k1 : own_To p.tables e below (s₁.setTop (entryFrame m #[(.ref a1)] 1)) s₁ (mkF m 1 #[.val (.ref a1)] [(.ref a1)]) := fun t k => k0 t (XS.aloadN X0.here hx rfl (hb hby own_d3_0) rfl rfl k)
  obtain ⟨T2, X2, e2, st2⟩ := getS2 X0 hx hZ hown (host := "") (Or.inl (hw _ (List.mem_of_getElem? (i := 21) rfl))) Via.refl e0 S_NO (g := (mkF m 1 #[.val (.ref a1)] [(.ref a1)])) rfl (hb hby own_d3_1)
  have k3 : own_To p.tables e below (s₁.setTop (entryFrame m #[(.ref a1)] 1)) T2 (mkF m 4 #[.val (.ref a1)] [(.ref w_NO), (.ref a1)]) := fun t k => k1 t (st2 t k)
  by_cases hc4 : a1 = w_NO
  · have k5 : own_To p.tables e below (s₁.setTop (entryFrame m #[(.ref a1)] 1)) T2 (mkF m 7 #[.val (.ref a1)] []) := fun t k => k3 t (Jvm.RoadKit.acmp (g := (mkF m 4 #[.val (.ref a1)] [(.ref w_NO), (.ref a1)])) X2 hx rfl rfl rfl (pc0 := 4) (pc' := 7) (same := true) rfl (hb hby own_d3_4) rfl (decide_eq_true (congrArg Value.ref hc4)) (by decide) (by decide) k)
    have k6 : own_To p.tables e below (s₁.setTop (entryFrame m #[(.ref a1)] 1)) T2 (mkF m 8 #[.val (.ref a1)] [(.int (0 : Int32))]) := fun t k => k5 t (XS.iconst X2.here hx rfl (hb hby own_d3_7) k)
    obtain ⟨fs, hr, hrun, hended, hW, hsame⟩ := X2.leave (v := some (.int (0 : Int32))) (fun h => by rw [Bd.returns] at h; cases h)
    refine ⟨_, _, k6 _ ?_, hrun, hended, _, _, rfl, ?_, ⟨_, rfl⟩, hW, hsame.mono (by decide) (by decide)⟩
    · exact retI X2 hx Bd.returns (hb hby own_d3_8) hr
    · refine ⟨?_, N0, e2⟩
      rw [show (own_f3 a1 w_NO w_UNKNOWN w_YES) = (0 : Int32) from by unfold own_f3; rw [if_pos hc4]]
  · have k7 : own_To p.tables e below (s₁.setTop (entryFrame m #[(.ref a1)] 1)) T2 (mkF m 9 #[.val (.ref a1)] []) := fun t k => k3 t (Jvm.RoadKit.acmp (g := (mkF m 4 #[.val (.ref a1)] [(.ref w_NO), (.ref a1)])) X2 hx rfl rfl rfl (pc0 := 4) (pc' := 9) (same := false) rfl (hb hby own_d3_4) rfl (decide_eq_false fun q => hc4 (Value.ref.inj q)) (by decide) (by decide) k)
    have k8 : own_To p.tables e below (s₁.setTop (entryFrame m #[(.ref a1)] 1)) T2 (mkF m 10 #[.val (.ref a1)] [(.ref a1)]) := fun t k => k7 t (XS.aloadN X2.here hx rfl (hb hby own_d3_9) rfl rfl k)
    obtain ⟨T9, X9, e9, st9⟩ := getS2 X2 hx hZ hown (host := "") (Or.inl (hw _ (List.mem_of_getElem? (i := 22) rfl))) Via.refl e2 S_UNKNOWN (g := (mkF m 10 #[.val (.ref a1)] [(.ref a1)])) rfl (hb hby own_d3_10)
    have k10 : own_To p.tables e below (s₁.setTop (entryFrame m #[(.ref a1)] 1)) T9 (mkF m 13 #[.val (.ref a1)] [(.ref w_UNKNOWN), (.ref a1)]) := fun t k => k8 t (st9 t k)
    by_cases hc11 : a1 = w_UNKNOWN
    · have k12 : own_To p.tables e below (s₁.setTop (entryFrame m #[(.ref a1)] 1)) T9 (mkF m 16 #[.val (.ref a1)] []) := fun t k => k10 t (Jvm.RoadKit.acmp (g := (mkF m 13 #[.val (.ref a1)] [(.ref w_UNKNOWN), (.ref a1)])) X9 hx rfl rfl rfl (pc0 := 13) (pc' := 16) (same := true) rfl (hb hby own_d3_13) rfl (decide_eq_true (congrArg Value.ref hc11)) (by decide) (by decide) k)
      have k13 : own_To p.tables e below (s₁.setTop (entryFrame m #[(.ref a1)] 1)) T9 (mkF m 17 #[.val (.ref a1)] [(.int (1 : Int32))]) := fun t k => k12 t (XS.iconst X9.here hx rfl (hb hby own_d3_16) k)
      obtain ⟨fs, hr, hrun, hended, hW, hsame⟩ := X9.leave (v := some (.int (1 : Int32))) (fun h => by rw [Bd.returns] at h; cases h)
      refine ⟨_, _, k13 _ ?_, hrun, hended, _, _, rfl, ?_, ⟨_, rfl⟩, hW, hsame.mono (by decide) (by decide)⟩
      · exact retI X9 hx Bd.returns (hb hby own_d3_17) hr
      · refine ⟨?_, N0, e9⟩
        rw [show (own_f3 a1 w_NO w_UNKNOWN w_YES) = (1 : Int32) from by unfold own_f3; rw [if_neg hc4, if_pos hc11]]
    · have k14 : own_To p.tables e below (s₁.setTop (entryFrame m #[(.ref a1)] 1)) T9 (mkF m 18 #[.val (.ref a1)] []) := fun t k => k10 t (Jvm.RoadKit.acmp (g := (mkF m 13 #[.val (.ref a1)] [(.ref w_UNKNOWN), (.ref a1)])) X9 hx rfl rfl rfl (pc0 := 13) (pc' := 18) (same := false) rfl (hb hby own_d3_13) rfl (decide_eq_false fun q => hc11 (Value.ref.inj q)) (by decide) (by decide) k)
      have k15 : own_To p.tables e below (s₁.setTop (entryFrame m #[(.ref a1)] 1)) T9 (mkF m 19 #[.val (.ref a1)] [(.ref a1)]) := fun t k => k14 t (XS.aloadN X9.here hx rfl (hb hby own_d3_18) rfl rfl k)
      obtain ⟨T16, X16, e16, st16⟩ := getS2 X9 hx hZ hown (host := "") (Or.inl (hw _ (List.mem_of_getElem? (i := 5) rfl))) Via.refl e9 S_YES (g := (mkF m 19 #[.val (.ref a1)] [(.ref a1)])) rfl (hb hby own_d3_19)
      have k17 : own_To p.tables e below (s₁.setTop (entryFrame m #[(.ref a1)] 1)) T16 (mkF m 22 #[.val (.ref a1)] [(.ref w_YES), (.ref a1)]) := fun t k => k15 t (st16 t k)
      by_cases hc18 : a1 = w_YES
      · have k19 : own_To p.tables e below (s₁.setTop (entryFrame m #[(.ref a1)] 1)) T16 (mkF m 25 #[.val (.ref a1)] []) := fun t k => k17 t (Jvm.RoadKit.acmp (g := (mkF m 22 #[.val (.ref a1)] [(.ref w_YES), (.ref a1)])) X16 hx rfl rfl rfl (pc0 := 22) (pc' := 25) (same := true) rfl (hb hby own_d3_22) rfl (decide_eq_true (congrArg Value.ref hc18)) (by decide) (by decide) k)
        have k20 : own_To p.tables e below (s₁.setTop (entryFrame m #[(.ref a1)] 1)) T16 (mkF m 26 #[.val (.ref a1)] [(.int (2 : Int32))]) := fun t k => k19 t (XS.iconst X16.here hx rfl (hb hby own_d3_25) k)
        obtain ⟨fs, hr, hrun, hended, hW, hsame⟩ := X16.leave (v := some (.int (2 : Int32))) (fun h => by rw [Bd.returns] at h; cases h)
        refine ⟨_, _, k20 _ ?_, hrun, hended, _, _, rfl, ?_, ⟨_, rfl⟩, hW, hsame.mono (by decide) (by decide)⟩
        · exact retI X16 hx Bd.returns (hb hby own_d3_26) hr
        · refine ⟨?_, N0, e16⟩
          rw [show (own_f3 a1 w_NO w_UNKNOWN w_YES) = (2 : Int32) from by unfold own_f3; rw [if_neg hc4, if_neg hc11, if_pos hc18]]
      · have k21 : own_To p.tables e below (s₁.setTop (entryFrame m #[(.ref a1)] 1)) T16 (mkF m 27 #[.val (.ref a1)] []) := fun t k => k17 t (Jvm.RoadKit.acmp (g := (mkF m 22 #[.val (.ref a1)] [(.ref w_YES), (.ref a1)])) X16 hx rfl rfl rfl (pc0 := 22) (pc' := 27) (same := false) rfl (hb hby own_d3_22) rfl (decide_eq_false fun q => hc18 (Value.ref.inj q)) (by decide) (by decide) k)
        have k22 : own_To p.tables e below (s₁.setTop (entryFrame m #[(.ref a1)] 1)) T16 (mkF m 28 #[.val (.ref a1)] [(.int (-1 : Int32))]) := fun t k => k21 t (XS.iconst X16.here hx rfl (hb hby own_d3_27) k)
        obtain ⟨fs, hr, hrun, hended, hW, hsame⟩ := X16.leave (v := some (.int (-1 : Int32))) (fun h => by rw [Bd.returns] at h; cases h)
        refine ⟨_, _, k22 _ ?_, hrun, hended, _, _, rfl, ?_, ⟨_, rfl⟩, hW, hsame.mono (by decide) (by decide)⟩
        · exact retI X16 hx Bd.returns (hb hby own_d3_28) hr
        · refine ⟨?_, N0, e16⟩
          rw [show (own_f3 a1 w_NO w_UNKNOWN w_YES) = (-1 : Int32) from by unfold own_f3; rw [if_neg hc4, if_neg hc11, if_neg hc18]]
theorem own_d4_0 : decode jdk_29_method_69_code 0 = .ok (.iload_n 0, 1) := by decide +kernel
theorem own_d4_1 : decode jdk_29_method_69_code 1 = .ok (.iload_n 1, 1) := by decide +kernel
theorem own_d4_2 : decode jdk_29_method_69_code 2 = .ok (.if_icmp .gt 7, 3) := by decide +kernel
theorem own_d4_9 : decode jdk_29_method_69_code 9 = .ok (.iload_n 1, 1) := by decide +kernel
theorem own_d4_10 : decode jdk_29_method_69_code 10 = .ok (.ireturn, 1) := by decide +kernel
theorem own_d4_5 : decode jdk_29_method_69_code 5 = .ok (.iload_n 0, 1) := by decide +kernel
theorem own_d4_6 : decode jdk_29_method_69_code 6 = .ok (.goto 4, 3) := by decide +kernel
theorem own_ef4 (m : MethodId) (x0 : Int32) (x1 : Int32) : entryFrame m #[(.int x0), (.int x1)] 2 = mkF m 0 #[.val (.int x0), .val (.int x1)] [] := by first | (simp [entryFrame, mkF, argsToLocals, Value.category]; done) | rfl
def own_f4 (p1 : Int32) (p2 : Int32) : Int32 := (if p2 < p1 then p2 else p1)
set_option maxRecDepth 65536 in
set_option maxHeartbeats 40000000 in
theorem own_m4 (l : Launch) (Z : State) (a0 : Array Value) (hw : ∀ d ∈ tables_1, d.before a0 Z = true) (ws : List Jvm.Cond) (p1 : Int32) (p2 : Int32) (h0 : Heap) (n0 : Nat) (Z0 : n0 ≤ h0.size) :
    MetFree l (⟨"java/lang/Math", "min", "(II)I"⟩ : MethodName) (head1 (Jvm.Cond.code (⟨"java/lang/Math", "min", "(II)I"⟩ : MethodName) jdk_29_method_69_code 2 (some .int) :: ws) ({ frames := 0, cells := 0, slots := 0, locals := 0 } : Room)) (fun a U => a = #[(.int p1), (.int p2)] ∧ Z.Warmed39 U.vm ∧ U.heap = h0) (fun _ _ _ _ _ => True) (fun _ U o U' => ∃ v L, o = .returned v ∧ own_Q (some (.int (own_f4 p1 p2))) h0 n0 v U'.heap L ∧ FrameEnd U o U' L ({ frames := 0, cells := 0, slots := 0, locals := 0 } : Room).cells ({ frames := 0, cells := 0, slots := 0, locals := 0 } : Room).slots) := by
  refine MetFree.of_bodySF (Jvm.Free.JP.mathPlain rfl (by decide +kernel)) hisR ?_
  intro p e s m args below meth c s₁ Bd hml0 hP hK
  obtain ⟨rfl, hZ, hh⟩ := hP
  have hx := Bd.exec
  have hby := Bd.bytes
  have hml : c.maxLocals = 2 := hml0
  have hown : s.vm.findClass "java/lang/Math" = some m.cls := findClass_of_methodNamed Bd.named
  have hnm := (name_of_methodNamed Bd.named Bd.method).1
  have X0 : Stand p l e ({ frames := 0, cells := 0, slots := 0, locals := 0 } : Room) s m #[(.int p1), (.int p2)] below meth c s₁ [] 0 0 := Stand.of_body Bd
  have e0 : s₁.heap = h0 := by rw [← hh, Bd.state]; rfl
  have N0 := Fr.nil n0
  have k0 : own_To p.tables e below (s₁.setTop (entryFrame m #[(.int p1), (.int p2)] 2)) s₁ (mkF m 0 #[.val (.int p1), .val (.int p2)] []) := fun t k => castTop (own_ef4 m p1 p2) k
  have k1 : own_To p.tables e below (s₁.setTop (entryFrame m #[(.int p1), (.int p2)] 2)) s₁ (mkF m 1 #[.val (.int p1), .val (.int p2)] [(.int p1)]) := fun t k => k0 t (XS.iloadN X0.here hx rfl (hb hby own_d4_0) rfl k)
  have k2 : own_To p.tables e below (s₁.setTop (entryFrame m #[(.int p1), (.int p2)] 2)) s₁ (mkF m 2 #[.val (.int p1), .val (.int p2)] [(.int p2), (.int p1)]) := fun t k => k1 t (XS.iloadN X0.here hx rfl (hb hby own_d4_1) rfl k)
  by_cases hc3 : p2 < p1
  · have k4 : own_To p.tables e below (s₁.setTop (entryFrame m #[(.int p1), (.int p2)] 2)) s₁ (mkF m 9 #[.val (.int p1), .val (.int p2)] []) := fun t k => k2 t (XS.icmpYes X0.here hx rfl (pc0 := 2) (pc' := 9) rfl (hb hby own_d4_2) rfl (tlt (show p2 < p1 from hc3)).2.2.1 (by decide) (by decide) k)
    have k5 : own_To p.tables e below (s₁.setTop (entryFrame m #[(.int p1), (.int p2)] 2)) s₁ (mkF m 10 #[.val (.int p1), .val (.int p2)] [(.int p2)]) := fun t k => k4 t (XS.iloadN X0.here hx rfl (hb hby own_d4_9) rfl k)
    obtain ⟨fs, hr, hrun, hended, hW, hsame⟩ := X0.leave (v := some (.int p2)) (fun h => by rw [Bd.returns] at h; cases h)
    refine ⟨_, _, k5 _ ?_, hrun, hended, _, _, rfl, ?_, ⟨_, rfl⟩, hW, hsame.mono (by decide) (by decide)⟩
    · exact retI X0 hx Bd.returns (hb hby own_d4_10) hr
    · refine ⟨?_, N0, e0⟩
      rw [show (own_f4 p1 p2) = p2 from by unfold own_f4; rw [if_pos hc3]]
  · have k6 : own_To p.tables e below (s₁.setTop (entryFrame m #[(.int p1), (.int p2)] 2)) s₁ (mkF m 5 #[.val (.int p1), .val (.int p2)] []) := fun t k => k2 t (XS.icmpNo X0.here hx rfl (hb hby own_d4_2) rfl (flt (show ¬ (p2 < p1) from hc3)).2.2.1 k)
    have k7 : own_To p.tables e below (s₁.setTop (entryFrame m #[(.int p1), (.int p2)] 2)) s₁ (mkF m 6 #[.val (.int p1), .val (.int p2)] [(.int p1)]) := fun t k => k6 t (XS.iloadN X0.here hx rfl (hb hby own_d4_5) rfl k)
    have k8 : own_To p.tables e below (s₁.setTop (entryFrame m #[(.int p1), (.int p2)] 2)) s₁ (mkF m 10 #[.val (.int p1), .val (.int p2)] [(.int p1)]) := fun t k => k7 t (XS.goto X0.here hx rfl (pc0 := 6) (pc' := 10) rfl (hb hby own_d4_6) (by decide) (by decide) k)
    obtain ⟨fs, hr, hrun, hended, hW, hsame⟩ := X0.leave (v := some (.int p1)) (fun h => by rw [Bd.returns] at h; cases h)
    refine ⟨_, _, k8 _ ?_, hrun, hended, _, _, rfl, ?_, ⟨_, rfl⟩, hW, hsame.mono (by decide) (by decide)⟩
    · exact retI X0 hx Bd.returns (hb hby own_d4_10) hr
    · refine ⟨?_, N0, e0⟩
      rw [show (own_f4 p1 p2) = p1 from by unfold own_f4; rw [if_neg hc3]]
theorem own_pd0 : parseMethodDescriptor "(I)Lcom/example/witness/witness/value/NormalForm$Known;" = some ⟨[.int], some (.object "com/example/witness/witness/value/NormalForm$Known")⟩ := by decide +kernel
theorem own_pd1 : parseMethodDescriptor "(Lcom/example/witness/witness/value/NormalForm$Known;)Lcom/example/witness/witness/value/NormalForm$Known;" = some ⟨[(.object "com/example/witness/witness/value/NormalForm$Known")], some (.object "com/example/witness/witness/value/NormalForm$Known")⟩ := by decide +kernel
theorem own_pd2 : parseMethodDescriptor "(Lcom/example/witness/witness/value/NormalForm$Known;)I" = some ⟨[(.object "com/example/witness/witness/value/NormalForm$Known")], some .int⟩ := by decide +kernel
theorem own_pd3 : parseMethodDescriptor "(II)I" = some ⟨[.int, .int], some .int⟩ := by decide +kernel
theorem own_ef0 (m : MethodId) (x0 : Int32) (x1 : Int32) : entryFrame m #[(.int x0), (.int x1)] maxLocals = mkF m 0 #[.val (.int x0), .val (.int x1), .unset, .unset, .unset] [] := by first | (simp [entryFrame, mkF, argsToLocals, Value.category, maxLocals]; done) | rfl
theorem own_pn0 : plainName "com/example/witness/witness/value/KnownAndPinLaw" = true := by first | (simp [plainName, overriddenIn]; done) | decide +kernel
def own_Q0 (n0 : Nat) (v : Option Value) (L : List Loc) : Prop := v = some (.int (1 : Int32)) ∧ Fr n0 L
set_option maxRecDepth 65536 in
set_option maxHeartbeats 40000000 in
theorem own_m0 (l : Launch) (Z : State) (a0 : Array Value) (hw : ∀ d ∈ tables_1, d.before a0 Z = true) (ws : List Jvm.Cond) (p1 : Int32) (p2 : Int32) (w_YES : Addr) (w_NO : Addr) (w_UNKNOWN : Addr) (h0 : Heap) (n0 : Nat) (Z0 : n0 ≤ h0.size) (S_YES : Sta Z h0 "com/example/witness/witness/value/NormalForm$Known" "YES" "Lcom/example/witness/witness/value/NormalForm$Known;" (.ref w_YES)) (S_NO : Sta Z h0 "com/example/witness/witness/value/NormalForm$Known" "NO" "Lcom/example/witness/witness/value/NormalForm$Known;" (.ref w_NO)) (S_UNKNOWN : Sta Z h0 "com/example/witness/witness/value/NormalForm$Known" "UNKNOWN" "Lcom/example/witness/witness/value/NormalForm$Known;" (.ref w_UNKNOWN)) (E_w_YES : Exa Z h0 w_YES "com/example/witness/witness/value/NormalForm$Known") (E_w_NO : Exa Z h0 w_NO "com/example/witness/witness/value/NormalForm$Known") (E_w_UNKNOWN : Exa Z h0 w_UNKNOWN "com/example/witness/witness/value/NormalForm$Known") (ne_YES_NO : ¬ (w_YES = w_NO)) (ne_YES_UNKNOWN : ¬ (w_YES = w_UNKNOWN)) (ne_NO_UNKNOWN : ¬ (w_NO = w_UNKNOWN)) :
    MetFree l x (head1 (Jvm.Cond.code x code maxLocals ret :: ws) room_1) (fun a U => a = #[(.int p1), (.int p2)] ∧ Z.Warmed39 U.vm ∧ U.heap = h0) (fun _ _ _ _ _ => True) (fun _ U o U' => ∃ v L, o = .returned v ∧ own_Q0 n0 v L ∧ FrameEnd U o U' L room_1.cells room_1.slots) := by
  refine MetFree.of_bodySF (plainFor_of_name own_pn0) hisR ?_
  intro p e s m args below meth c s₁ Bd hml0 hP hK
  obtain ⟨rfl, hZ, hh⟩ := hP
  have hx := Bd.exec
  have hby := Bd.bytes
  have hml : c.maxLocals = 5 := hml0
  have hown : s.vm.findClass "com/example/witness/witness/value/KnownAndPinLaw" = some m.cls := findClass_of_methodNamed Bd.named
  have hnm := (name_of_methodNamed Bd.named Bd.method).1
  have X0 : Stand p l e room_1 s m #[(.int p1), (.int p2)] below meth c s₁ [] 0 0 := Stand.of_body Bd
  have e0 : s₁.heap = h0 := by rw [← hh, Bd.state]; rfl
  have N0 := Fr.nil n0
  have k0 : own_To p.tables e below (s₁.setTop (entryFrame m #[(.int p1), (.int p2)] maxLocals)) s₁ (mkF m 0 #[.val (.int p1), .val (.int p2), .unset, .unset, .unset] []) := fun t k => castTop (own_ef0 m p1 p2) k
  have k1 : own_To p.tables e below (s₁.setTop (entryFrame m #[(.int p1), (.int p2)] maxLocals)) s₁ (mkF m 1 #[.val (.int p1), .val (.int p2), .unset, .unset, .unset] [(.int p1)]) := fun t k => k0 t (XS.iloadN X0.here hx rfl (hb hby at_0) rfl k)
  by_cases hc2 : ((p1 &&& (2147483647 : Int32)) % (3 : Int32)) = (0 : Int32)
  · obtain ⟨_, _, ⟨T3, L3, k3, n3⟩, -, X3, ⟨Lc3, hQ3, l3, y3, z3⟩, st3⟩ := Jvm.LawKit.callS X0 hx (y := (⟨"com/example/witness/witness/value/KnownAndPinLaw", "pick", "(I)Lcom/example/witness/witness/value/NormalForm$Known;"⟩ : MethodName)) hown (mvT hZ (hw _ (List.mem_of_getElem? (i := 0) rfl))) (mvT hZ (hw _ (List.mem_of_getElem? (i := 1) rfl))) (mvT hZ (hw _ (List.mem_of_getElem? (i := 2) rfl))) (mvT hZ (hw _ (List.mem_of_getElem? (i := 3) rfl))) (by decide) (backOf (W := 0) (own_m1 l Z a0 hw [] p1 w_YES w_NO w_UNKNOWN h0 n0 Z0 S_YES S_NO S_UNKNOWN) hZ (hw _ (List.mem_of_getElem? (i := 3) rfl)) (hw _ (List.mem_of_getElem? (i := 2) rfl)) (by decide) (by decide)) (g := (mkF m 1 #[.val (.int p1), .val (.int p2), .unset, .unset, .unset] [(.int p1)])) rfl (by rw [hml]; rfl) (argsL := [(.int p1)]) (rest := []) (lenOf own_pd0 rfl) rfl (by show 2 * 0 + _ ≤ _; exact Nat.le_of_eq rfl) (hb hby at_1) (fun _ _ => ⟨rfl, e0, (by decide : 0 + 0 ≤ _), (by decide : 0 + 0 ≤ _)⟩)
    dsimp only [Pt.U, Pt.locs, Pt.cells, Pt.slots] at X3 l3 y3 z3 st3 hQ3
    subst l3 y3 z3
    rw [show own_f1 p1 w_YES w_NO w_UNKNOWN = w_YES from by unfold own_f1; rw [if_pos (show ((p1 &&& (2147483647 : Int32)) % (3 : Int32)) = (0 : Int32) from hc2)]] at hQ3
    obtain ⟨rfl, N3q, e3⟩ := hQ3
    have N3 := Fr.app N0 N3q
    have k4 : own_To p.tables e below (s₁.setTop (entryFrame m #[(.int p1), (.int p2)] maxLocals)) T3 (mkF m 4 #[.val (.int p1), .val (.int p2), .unset, .unset, .unset] [(.ref w_YES)]) := fun t k => k1 t (st3 t k)
    have k5 : own_To p.tables e below (s₁.setTop (entryFrame m #[(.int p1), (.int p2)] maxLocals)) T3 (mkF m 5 #[.val (.int p1), .val (.int p2), .val (.ref w_YES), .unset, .unset] []) := fun t k => k4 t (XS.astoreN X3.here hx rfl (hb hby at_4) rfl rfl (l' := #[.val (.int p1), .val (.int p2), .val (.ref w_YES), .unset, .unset]) rfl k)
    have k6 : own_To p.tables e below (s₁.setTop (entryFrame m #[(.int p1), (.int p2)] maxLocals)) T3 (mkF m 6 #[.val (.int p1), .val (.int p2), .val (.ref w_YES), .unset, .unset] [(.int p2)]) := fun t k => k5 t (XS.iloadN X3.here hx rfl (hb hby at_5) rfl k)
    by_cases hc7 : ((p2 &&& (2147483647 : Int32)) % (3 : Int32)) = (0 : Int32)
    · obtain ⟨_, _, ⟨T8, L8, k8, n8⟩, -, X8, ⟨Lc8, hQ8, l8, y8, z8⟩, st8⟩ := Jvm.LawKit.callS X3 hx (y := (⟨"com/example/witness/witness/value/KnownAndPinLaw", "pick", "(I)Lcom/example/witness/witness/value/NormalForm$Known;"⟩ : MethodName)) hown (mvT hZ (hw _ (List.mem_of_getElem? (i := 0) rfl))) (mvT hZ (hw _ (List.mem_of_getElem? (i := 1) rfl))) (mvT hZ (hw _ (List.mem_of_getElem? (i := 2) rfl))) (mvT hZ (hw _ (List.mem_of_getElem? (i := 3) rfl))) (by decide) (backOf (W := 0) (own_m1 l Z a0 hw [] p2 w_YES w_NO w_UNKNOWN h0 n0 Z0 S_YES S_NO S_UNKNOWN) hZ (hw _ (List.mem_of_getElem? (i := 3) rfl)) (hw _ (List.mem_of_getElem? (i := 2) rfl)) (by decide) (by decide)) (g := (mkF m 6 #[.val (.int p1), .val (.int p2), .val (.ref w_YES), .unset, .unset] [(.int p2)])) rfl (by rw [hml]; rfl) (argsL := [(.int p2)]) (rest := []) (lenOf own_pd0 rfl) rfl (by show 2 * 0 + _ ≤ _; exact Nat.le_of_eq rfl) (hb hby at_6) (fun _ _ => ⟨rfl, e3, (by decide : 0 + 0 ≤ _), (by decide : 0 + 0 ≤ _)⟩)
      dsimp only [Pt.U, Pt.locs, Pt.cells, Pt.slots] at X8 l8 y8 z8 st8 hQ8
      subst l8 y8 z8
      rw [show own_f1 p2 w_YES w_NO w_UNKNOWN = w_YES from by unfold own_f1; rw [if_pos (show ((p2 &&& (2147483647 : Int32)) % (3 : Int32)) = (0 : Int32) from hc7)]] at hQ8
      obtain ⟨rfl, N8q, e8⟩ := hQ8
      have N8 := Fr.app N3 N8q
      have k9 : own_To p.tables e below (s₁.setTop (entryFrame m #[(.int p1), (.int p2)] maxLocals)) T8 (mkF m 9 #[.val (.int p1), .val (.int p2), .val (.ref w_YES), .unset, .unset] [(.ref w_YES)]) := fun t k => k6 t (st8 t k)
      have k10 : own_To p.tables e below (s₁.setTop (entryFrame m #[(.int p1), (.int p2)] maxLocals)) T8 (mkF m 10 #[.val (.int p1), .val (.int p2), .val (.ref w_YES), .val (.ref w_YES), .unset] []) := fun t k => k9 t (XS.astoreN X8.here hx rfl (hb hby at_9) rfl rfl (l' := #[.val (.int p1), .val (.int p2), .val (.ref w_YES), .val (.ref w_YES), .unset]) rfl k)
      have k11 : own_To p.tables e below (s₁.setTop (entryFrame m #[(.int p1), (.int p2)] maxLocals)) T8 (mkF m 11 #[.val (.int p1), .val (.int p2), .val (.ref w_YES), .val (.ref w_YES), .unset] [(.ref w_YES)]) := fun t k => k10 t (XS.aloadN X8.here hx rfl (hb hby at_10) rfl rfl k)
      have k12 : own_To p.tables e below (s₁.setTop (entryFrame m #[(.int p1), (.int p2)] maxLocals)) T8 (mkF m 12 #[.val (.int p1), .val (.int p2), .val (.ref w_YES), .val (.ref w_YES), .unset] [(.ref w_YES), (.ref w_YES)]) := fun t k => k11 t (XS.aloadN X8.here hx rfl (hb hby at_11) rfl rfl k)
      obtain ⟨cq13, kq13, q13a, q13b, q13c⟩ := isOf hZ e8 E_w_YES
      obtain ⟨_, _, ⟨T13, L13, k13, n13⟩, -, X13, ⟨Lc13, hQ13, l13, y13, z13⟩, st13⟩ := X8.virtualBack hx (y := (⟨"com/example/witness/witness/value/NormalForm$Known", "and", "(Lcom/example/witness/witness/value/NormalForm$Known;)Lcom/example/witness/witness/value/NormalForm$Known;"⟩ : MethodName)) (z := (⟨"com/example/witness/witness/value/NormalForm$Known", "and", "(Lcom/example/witness/witness/value/NormalForm$Known;)Lcom/example/witness/witness/value/NormalForm$Known;"⟩ : MethodName)) hown (mvT hZ (hw _ (List.mem_of_getElem? (i := 8) rfl))) (mvT hZ (hw _ (List.mem_of_getElem? (i := 9) rfl))) (notFace_of_selects (args := #[]) (mvT hZ (hw _ (List.mem_of_getElem? (i := 11) rfl)))) (mvT hZ (hw _ (List.mem_of_getElem? (i := 11) rfl))) (mvT hZ (hw _ (List.mem_of_getElem? (i := 10) rfl))) (by decide) (backOf (W := 0) (own_m2 l Z a0 hw [] w_YES w_YES w_UNKNOWN w_NO w_YES h0 n0 Z0 S_UNKNOWN S_NO S_YES) hZ (hw _ (List.mem_of_getElem? (i := 12) rfl)) (hw _ (List.mem_of_getElem? (i := 6) rfl)) (by decide) (by decide)) q13a q13c (g := (mkF m 12 #[.val (.int p1), .val (.int p2), .val (.ref w_YES), .val (.ref w_YES), .unset] [(.ref w_YES), (.ref w_YES)])) rfl (by rw [hml]; rfl) (Steps.refl _) (argsL := [(.ref w_YES)]) (rest := []) (lenOf own_pd1 rfl) rfl (by show 2 * 0 + _ ≤ _; exact Nat.le_of_eq rfl) (hb hby at_12) (fun _ _ => ⟨rfl, e8, (by decide : 0 + 0 ≤ _), (by decide : 0 + 0 ≤ _)⟩)
      dsimp only [Pt.U, Pt.locs, Pt.cells, Pt.slots] at X13 l13 y13 z13 st13 hQ13
      subst l13 y13 z13
      rw [show own_f2 w_YES w_YES w_UNKNOWN w_NO w_YES = w_YES from by unfold own_f2; rw [if_neg (show ¬ (w_YES = w_NO) from ne_YES_NO), if_neg (show ¬ (w_YES = w_NO) from ne_YES_NO), if_pos (show w_YES = w_YES from rfl), if_pos (show w_YES = w_YES from rfl)]] at hQ13
      obtain ⟨rfl, N13q, e13⟩ := hQ13
      have N13 := Fr.app N8 N13q
      have k14 : own_To p.tables e below (s₁.setTop (entryFrame m #[(.int p1), (.int p2)] maxLocals)) T13 (mkF m 15 #[.val (.int p1), .val (.int p2), .val (.ref w_YES), .val (.ref w_YES), .unset] [(.ref w_YES)]) := fun t k => k12 t (st13.trans k)
      have k15 : own_To p.tables e below (s₁.setTop (entryFrame m #[(.int p1), (.int p2)] maxLocals)) T13 (mkF m 17 #[.val (.int p1), .val (.int p2), .val (.ref w_YES), .val (.ref w_YES), .val (.ref w_YES)] []) := fun t k => k14 t (XS.astore X13.here hx rfl (hb hby at_15) rfl rfl (l' := #[.val (.int p1), .val (.int p2), .val (.ref w_YES), .val (.ref w_YES), .val (.ref w_YES)]) rfl k)
      have k16 : own_To p.tables e below (s₁.setTop (entryFrame m #[(.int p1), (.int p2)] maxLocals)) T13 (mkF m 19 #[.val (.int p1), .val (.int p2), .val (.ref w_YES), .val (.ref w_YES), .val (.ref w_YES)] [(.ref w_YES)]) := fun t k => k15 t (XS.aload X13.here hx rfl (hb hby at_17) rfl rfl k)
      obtain ⟨_, _, ⟨T17, L17, k17, n17⟩, -, X17, ⟨Lc17, hQ17, l17, y17, z17⟩, st17⟩ := Jvm.LawKit.callS X13 hx (y := (⟨"com/example/witness/witness/value/KnownAndPinLaw", "rank", "(Lcom/example/witness/witness/value/NormalForm$Known;)I"⟩ : MethodName)) hown (mvT hZ (hw _ (List.mem_of_getElem? (i := 18) rfl))) (mvT hZ (hw _ (List.mem_of_getElem? (i := 19) rfl))) (mvT hZ (hw _ (List.mem_of_getElem? (i := 2) rfl))) (mvT hZ (hw _ (List.mem_of_getElem? (i := 20) rfl))) (by decide) (backOf (W := 0) (own_m3 l Z a0 hw [] w_YES w_NO w_UNKNOWN w_YES h0 n0 Z0 S_NO S_UNKNOWN S_YES) hZ (hw _ (List.mem_of_getElem? (i := 20) rfl)) (hw _ (List.mem_of_getElem? (i := 2) rfl)) (by decide) (by decide)) (g := (mkF m 19 #[.val (.int p1), .val (.int p2), .val (.ref w_YES), .val (.ref w_YES), .val (.ref w_YES)] [(.ref w_YES)])) rfl (by rw [hml]; rfl) (argsL := [(.ref w_YES)]) (rest := []) (lenOf own_pd2 rfl) rfl (by show 2 * 0 + _ ≤ _; exact Nat.le_of_eq rfl) (hb hby at_19) (fun _ _ => ⟨rfl, e13, (by decide : 0 + 0 ≤ _), (by decide : 0 + 0 ≤ _)⟩)
      dsimp only [Pt.U, Pt.locs, Pt.cells, Pt.slots] at X17 l17 y17 z17 st17 hQ17
      subst l17 y17 z17
      rw [show own_f3 w_YES w_NO w_UNKNOWN w_YES = (2 : Int32) from by unfold own_f3; rw [if_neg (show ¬ (w_YES = w_NO) from ne_YES_NO), if_neg (show ¬ (w_YES = w_UNKNOWN) from ne_YES_UNKNOWN), if_pos (show w_YES = w_YES from rfl)]] at hQ17
      obtain ⟨rfl, N17q, e17⟩ := hQ17
      have N17 := Fr.app N13 N17q
      have k18 : own_To p.tables e below (s₁.setTop (entryFrame m #[(.int p1), (.int p2)] maxLocals)) T17 (mkF m 22 #[.val (.int p1), .val (.int p2), .val (.ref w_YES), .val (.ref w_YES), .val (.ref w_YES)] [(.int (2 : Int32))]) := fun t k => k16 t (st17 t k)
      have k19 : own_To p.tables e below (s₁.setTop (entryFrame m #[(.int p1), (.int p2)] maxLocals)) T17 (mkF m 23 #[.val (.int p1), .val (.int p2), .val (.ref w_YES), .val (.ref w_YES), .val (.ref w_YES)] [(.ref w_YES), (.int (2 : Int32))]) := fun t k => k18 t (XS.aloadN X17.here hx rfl (hb hby at_22) rfl rfl k)
      obtain ⟨_, _, ⟨T20, L20, k20, n20⟩, -, X20, ⟨Lc20, hQ20, l20, y20, z20⟩, st20⟩ := Jvm.LawKit.callS X17 hx (y := (⟨"com/example/witness/witness/value/KnownAndPinLaw", "rank", "(Lcom/example/witness/witness/value/NormalForm$Known;)I"⟩ : MethodName)) hown (mvT hZ (hw _ (List.mem_of_getElem? (i := 18) rfl))) (mvT hZ (hw _ (List.mem_of_getElem? (i := 19) rfl))) (mvT hZ (hw _ (List.mem_of_getElem? (i := 2) rfl))) (mvT hZ (hw _ (List.mem_of_getElem? (i := 20) rfl))) (by decide) (backOf (W := 1) (own_m3 l Z a0 hw [] w_YES w_NO w_UNKNOWN w_YES h0 n0 Z0 S_NO S_UNKNOWN S_YES) hZ (hw _ (List.mem_of_getElem? (i := 20) rfl)) (hw _ (List.mem_of_getElem? (i := 2) rfl)) (by decide) (by decide)) (g := (mkF m 23 #[.val (.int p1), .val (.int p2), .val (.ref w_YES), .val (.ref w_YES), .val (.ref w_YES)] [(.ref w_YES), (.int (2 : Int32))])) rfl (by rw [hml]; rfl) (argsL := [(.ref w_YES)]) (rest := [(.int (2 : Int32))]) (lenOf own_pd2 rfl) rfl (by show 2 * 0 + _ ≤ _; exact Nat.le_of_eq rfl) (hb hby at_23) (fun _ _ => ⟨rfl, e17, (by decide : 0 + 0 ≤ _), (by decide : 0 + 0 ≤ _)⟩)
      dsimp only [Pt.U, Pt.locs, Pt.cells, Pt.slots] at X20 l20 y20 z20 st20 hQ20
      subst l20 y20 z20
      rw [show own_f3 w_YES w_NO w_UNKNOWN w_YES = (2 : Int32) from by unfold own_f3; rw [if_neg (show ¬ (w_YES = w_NO) from ne_YES_NO), if_neg (show ¬ (w_YES = w_UNKNOWN) from ne_YES_UNKNOWN), if_pos (show w_YES = w_YES from rfl)]] at hQ20
      obtain ⟨rfl, N20q, e20⟩ := hQ20
      have N20 := Fr.app N17 N20q
      have k21 : own_To p.tables e below (s₁.setTop (entryFrame m #[(.int p1), (.int p2)] maxLocals)) T20 (mkF m 26 #[.val (.int p1), .val (.int p2), .val (.ref w_YES), .val (.ref w_YES), .val (.ref w_YES)] [(.int (2 : Int32)), (.int (2 : Int32))]) := fun t k => k19 t (st20 t k)
      have k22 : own_To p.tables e below (s₁.setTop (entryFrame m #[(.int p1), (.int p2)] maxLocals)) T20 (mkF m 27 #[.val (.int p1), .val (.int p2), .val (.ref w_YES), .val (.ref w_YES), .val (.ref w_YES)] [(.ref w_YES), (.int (2 : Int32)), (.int (2 : Int32))]) := fun t k => k21 t (XS.aloadN X20.here hx rfl (hb hby at_26) rfl rfl k)
      obtain ⟨_, _, ⟨T23, L23, k23, n23⟩, -, X23, ⟨Lc23, hQ23, l23, y23, z23⟩, st23⟩ := Jvm.LawKit.callS X20 hx (y := (⟨"com/example/witness/witness/value/KnownAndPinLaw", "rank", "(Lcom/example/witness/witness/value/NormalForm$Known;)I"⟩ : MethodName)) hown (mvT hZ (hw _ (List.mem_of_getElem? (i := 18) rfl))) (mvT hZ (hw _ (List.mem_of_getElem? (i := 19) rfl))) (mvT hZ (hw _ (List.mem_of_getElem? (i := 2) rfl))) (mvT hZ (hw _ (List.mem_of_getElem? (i := 20) rfl))) (by decide) (backOf (W := 2) (own_m3 l Z a0 hw [] w_YES w_NO w_UNKNOWN w_YES h0 n0 Z0 S_NO S_UNKNOWN S_YES) hZ (hw _ (List.mem_of_getElem? (i := 20) rfl)) (hw _ (List.mem_of_getElem? (i := 2) rfl)) (by decide) (by decide)) (g := (mkF m 27 #[.val (.int p1), .val (.int p2), .val (.ref w_YES), .val (.ref w_YES), .val (.ref w_YES)] [(.ref w_YES), (.int (2 : Int32)), (.int (2 : Int32))])) rfl (by rw [hml]; rfl) (argsL := [(.ref w_YES)]) (rest := [(.int (2 : Int32)), (.int (2 : Int32))]) (lenOf own_pd2 rfl) rfl (by show 2 * 0 + _ ≤ _; exact Nat.le_of_eq rfl) (hb hby at_27) (fun _ _ => ⟨rfl, e20, (by decide : 0 + 0 ≤ _), (by decide : 0 + 0 ≤ _)⟩)
      dsimp only [Pt.U, Pt.locs, Pt.cells, Pt.slots] at X23 l23 y23 z23 st23 hQ23
      subst l23 y23 z23
      rw [show own_f3 w_YES w_NO w_UNKNOWN w_YES = (2 : Int32) from by unfold own_f3; rw [if_neg (show ¬ (w_YES = w_NO) from ne_YES_NO), if_neg (show ¬ (w_YES = w_UNKNOWN) from ne_YES_UNKNOWN), if_pos (show w_YES = w_YES from rfl)]] at hQ23
      obtain ⟨rfl, N23q, e23⟩ := hQ23
      have N23 := Fr.app N20 N23q
      have k24 : own_To p.tables e below (s₁.setTop (entryFrame m #[(.int p1), (.int p2)] maxLocals)) T23 (mkF m 30 #[.val (.int p1), .val (.int p2), .val (.ref w_YES), .val (.ref w_YES), .val (.ref w_YES)] [(.int (2 : Int32)), (.int (2 : Int32)), (.int (2 : Int32))]) := fun t k => k22 t (st23 t k)
      obtain ⟨_, _, ⟨T25, L25, k25, n25⟩, -, X25, ⟨Lc25, hQ25, l25, y25, z25⟩, st25⟩ := Jvm.LawKit.callS X23 hx (y := (⟨"java/lang/Math", "min", "(II)I"⟩ : MethodName)) hown (mvT hZ (hw _ (List.mem_of_getElem? (i := 23) rfl))) (mvT hZ (hw _ (List.mem_of_getElem? (i := 24) rfl))) (mvT hZ (hw _ (List.mem_of_getElem? (i := 25) rfl))) (mvT hZ (hw _ (List.mem_of_getElem? (i := 26) rfl))) (by decide) (backOf (W := 1) (own_m4 l Z a0 hw [] (2 : Int32) (2 : Int32) h0 n0 Z0 ) hZ (hw _ (List.mem_of_getElem? (i := 26) rfl)) (hw _ (List.mem_of_getElem? (i := 25) rfl)) (by decide) (by decide)) (g := (mkF m 30 #[.val (.int p1), .val (.int p2), .val (.ref w_YES), .val (.ref w_YES), .val (.ref w_YES)] [(.int (2 : Int32)), (.int (2 : Int32)), (.int (2 : Int32))])) rfl (by rw [hml]; rfl) (argsL := [(.int (2 : Int32)), (.int (2 : Int32))]) (rest := [(.int (2 : Int32))]) (lenOf own_pd3 rfl) rfl (by show 2 * 0 + _ ≤ _; exact Nat.le_of_eq rfl) (hb hby at_30) (fun _ _ => ⟨rfl, e23, (by decide : 0 + 0 ≤ _), (by decide : 0 + 0 ≤ _)⟩)
      dsimp only [Pt.U, Pt.locs, Pt.cells, Pt.slots] at X25 l25 y25 z25 st25 hQ25
      subst l25 y25 z25
      rw [show own_f4 (2 : Int32) (2 : Int32) = (2 : Int32) from by unfold own_f4; rw [if_neg (show ¬ ((2 : Int32) < (2 : Int32)) from (by decide))]] at hQ25
      obtain ⟨rfl, N25q, e25⟩ := hQ25
      have N25 := Fr.app N23 N25q
      have k26 : own_To p.tables e below (s₁.setTop (entryFrame m #[(.int p1), (.int p2)] maxLocals)) T25 (mkF m 33 #[.val (.int p1), .val (.int p2), .val (.ref w_YES), .val (.ref w_YES), .val (.ref w_YES)] [(.int (2 : Int32)), (.int (2 : Int32))]) := fun t k => k24 t (st25 t k)
      have k27 : own_To p.tables e below (s₁.setTop (entryFrame m #[(.int p1), (.int p2)] maxLocals)) T25 (mkF m 36 #[.val (.int p1), .val (.int p2), .val (.ref w_YES), .val (.ref w_YES), .val (.ref w_YES)] []) := fun t k => k26 t (XS.icmpNo X25.here hx rfl (hb hby at_33) rfl (teq (show (2 : Int32) = (2 : Int32) from (by decide))).2 k)
      have k28 : own_To p.tables e below (s₁.setTop (entryFrame m #[(.int p1), (.int p2)] maxLocals)) T25 (mkF m 37 #[.val (.int p1), .val (.int p2), .val (.ref w_YES), .val (.ref w_YES), .val (.ref w_YES)] [(.int (1 : Int32))]) := fun t k => k27 t (XS.iconst X25.here hx rfl (hb hby at_36) k)
      have k29 : own_To p.tables e below (s₁.setTop (entryFrame m #[(.int p1), (.int p2)] maxLocals)) T25 (mkF m 41 #[.val (.int p1), .val (.int p2), .val (.ref w_YES), .val (.ref w_YES), .val (.ref w_YES)] [(.int (1 : Int32))]) := fun t k => k28 t (XS.goto X25.here hx rfl (pc0 := 37) (pc' := 41) rfl (hb hby at_37) (by decide) (by decide) k)
      obtain ⟨fs, hr, hrun, hended, hW, hsame⟩ := X25.leave (v := some (.int (1 : Int32))) (fun h => by rw [Bd.returns] at h; cases h)
      refine ⟨_, _, k29 _ ?_, hrun, hended, _, _, rfl, ?_, ⟨_, rfl⟩, hW, hsame.mono (by decide) (by decide)⟩
      · exact retN X25 hx (t := .boolean) Bd.returns (by simp) (hb hby at_41) hr
      · exact ⟨rfl, N25⟩
    · by_cases hc30 : ((p2 &&& (2147483647 : Int32)) % (3 : Int32)) = (1 : Int32)
      · obtain ⟨_, _, ⟨T31, L31, k31, n31⟩, -, X31, ⟨Lc31, hQ31, l31, y31, z31⟩, st31⟩ := Jvm.LawKit.callS X3 hx (y := (⟨"com/example/witness/witness/value/KnownAndPinLaw", "pick", "(I)Lcom/example/witness/witness/value/NormalForm$Known;"⟩ : MethodName)) hown (mvT hZ (hw _ (List.mem_of_getElem? (i := 0) rfl))) (mvT hZ (hw _ (List.mem_of_getElem? (i := 1) rfl))) (mvT hZ (hw _ (List.mem_of_getElem? (i := 2) rfl))) (mvT hZ (hw _ (List.mem_of_getElem? (i := 3) rfl))) (by decide) (backOf (W := 0) (own_m1 l Z a0 hw [] p2 w_YES w_NO w_UNKNOWN h0 n0 Z0 S_YES S_NO S_UNKNOWN) hZ (hw _ (List.mem_of_getElem? (i := 3) rfl)) (hw _ (List.mem_of_getElem? (i := 2) rfl)) (by decide) (by decide)) (g := (mkF m 6 #[.val (.int p1), .val (.int p2), .val (.ref w_YES), .unset, .unset] [(.int p2)])) rfl (by rw [hml]; rfl) (argsL := [(.int p2)]) (rest := []) (lenOf own_pd0 rfl) rfl (by show 2 * 0 + _ ≤ _; exact Nat.le_of_eq rfl) (hb hby at_6) (fun _ _ => ⟨rfl, e3, (by decide : 0 + 0 ≤ _), (by decide : 0 + 0 ≤ _)⟩)
        dsimp only [Pt.U, Pt.locs, Pt.cells, Pt.slots] at X31 l31 y31 z31 st31 hQ31
        subst l31 y31 z31
        rw [show own_f1 p2 w_YES w_NO w_UNKNOWN = w_NO from by unfold own_f1; rw [if_neg (show ¬ (((p2 &&& (2147483647 : Int32)) % (3 : Int32)) = (0 : Int32)) from hc7), if_pos (show ((p2 &&& (2147483647 : Int32)) % (3 : Int32)) = (1 : Int32) from hc30)]] at hQ31
        obtain ⟨rfl, N31q, e31⟩ := hQ31
        have N31 := Fr.app N3 N31q
        have k32 : own_To p.tables e below (s₁.setTop (entryFrame m #[(.int p1), (.int p2)] maxLocals)) T31 (mkF m 9 #[.val (.int p1), .val (.int p2), .val (.ref w_YES), .unset, .unset] [(.ref w_NO)]) := fun t k => k6 t (st31 t k)
        have k33 : own_To p.tables e below (s₁.setTop (entryFrame m #[(.int p1), (.int p2)] maxLocals)) T31 (mkF m 10 #[.val (.int p1), .val (.int p2), .val (.ref w_YES), .val (.ref w_NO), .unset] []) := fun t k => k32 t (XS.astoreN X31.here hx rfl (hb hby at_9) rfl rfl (l' := #[.val (.int p1), .val (.int p2), .val (.ref w_YES), .val (.ref w_NO), .unset]) rfl k)
        have k34 : own_To p.tables e below (s₁.setTop (entryFrame m #[(.int p1), (.int p2)] maxLocals)) T31 (mkF m 11 #[.val (.int p1), .val (.int p2), .val (.ref w_YES), .val (.ref w_NO), .unset] [(.ref w_YES)]) := fun t k => k33 t (XS.aloadN X31.here hx rfl (hb hby at_10) rfl rfl k)
        have k35 : own_To p.tables e below (s₁.setTop (entryFrame m #[(.int p1), (.int p2)] maxLocals)) T31 (mkF m 12 #[.val (.int p1), .val (.int p2), .val (.ref w_YES), .val (.ref w_NO), .unset] [(.ref w_NO), (.ref w_YES)]) := fun t k => k34 t (XS.aloadN X31.here hx rfl (hb hby at_11) rfl rfl k)
        obtain ⟨cq36, kq36, q36a, q36b, q36c⟩ := isOf hZ e31 E_w_YES
        obtain ⟨_, _, ⟨T36, L36, k36, n36⟩, -, X36, ⟨Lc36, hQ36, l36, y36, z36⟩, st36⟩ := X31.virtualBack hx (y := (⟨"com/example/witness/witness/value/NormalForm$Known", "and", "(Lcom/example/witness/witness/value/NormalForm$Known;)Lcom/example/witness/witness/value/NormalForm$Known;"⟩ : MethodName)) (z := (⟨"com/example/witness/witness/value/NormalForm$Known", "and", "(Lcom/example/witness/witness/value/NormalForm$Known;)Lcom/example/witness/witness/value/NormalForm$Known;"⟩ : MethodName)) hown (mvT hZ (hw _ (List.mem_of_getElem? (i := 8) rfl))) (mvT hZ (hw _ (List.mem_of_getElem? (i := 9) rfl))) (notFace_of_selects (args := #[]) (mvT hZ (hw _ (List.mem_of_getElem? (i := 11) rfl)))) (mvT hZ (hw _ (List.mem_of_getElem? (i := 11) rfl))) (mvT hZ (hw _ (List.mem_of_getElem? (i := 10) rfl))) (by decide) (backOf (W := 0) (own_m2 l Z a0 hw [] w_YES w_NO w_UNKNOWN w_NO w_YES h0 n0 Z0 S_UNKNOWN S_NO S_YES) hZ (hw _ (List.mem_of_getElem? (i := 12) rfl)) (hw _ (List.mem_of_getElem? (i := 6) rfl)) (by decide) (by decide)) q36a q36c (g := (mkF m 12 #[.val (.int p1), .val (.int p2), .val (.ref w_YES), .val (.ref w_NO), .unset] [(.ref w_NO), (.ref w_YES)])) rfl (by rw [hml]; rfl) (Steps.refl _) (argsL := [(.ref w_NO)]) (rest := []) (lenOf own_pd1 rfl) rfl (by show 2 * 0 + _ ≤ _; exact Nat.le_of_eq rfl) (hb hby at_12) (fun _ _ => ⟨rfl, e31, (by decide : 0 + 0 ≤ _), (by decide : 0 + 0 ≤ _)⟩)
        dsimp only [Pt.U, Pt.locs, Pt.cells, Pt.slots] at X36 l36 y36 z36 st36 hQ36
        subst l36 y36 z36
        rw [show own_f2 w_YES w_NO w_UNKNOWN w_NO w_YES = w_NO from by unfold own_f2; rw [if_neg (show ¬ (w_YES = w_NO) from ne_YES_NO), if_pos (show w_NO = w_NO from rfl)]] at hQ36
        obtain ⟨rfl, N36q, e36⟩ := hQ36
        have N36 := Fr.app N31 N36q
        have k37 : own_To p.tables e below (s₁.setTop (entryFrame m #[(.int p1), (.int p2)] maxLocals)) T36 (mkF m 15 #[.val (.int p1), .val (.int p2), .val (.ref w_YES), .val (.ref w_NO), .unset] [(.ref w_NO)]) := fun t k => k35 t (st36.trans k)
        have k38 : own_To p.tables e below (s₁.setTop (entryFrame m #[(.int p1), (.int p2)] maxLocals)) T36 (mkF m 17 #[.val (.int p1), .val (.int p2), .val (.ref w_YES), .val (.ref w_NO), .val (.ref w_NO)] []) := fun t k => k37 t (XS.astore X36.here hx rfl (hb hby at_15) rfl rfl (l' := #[.val (.int p1), .val (.int p2), .val (.ref w_YES), .val (.ref w_NO), .val (.ref w_NO)]) rfl k)
        have k39 : own_To p.tables e below (s₁.setTop (entryFrame m #[(.int p1), (.int p2)] maxLocals)) T36 (mkF m 19 #[.val (.int p1), .val (.int p2), .val (.ref w_YES), .val (.ref w_NO), .val (.ref w_NO)] [(.ref w_NO)]) := fun t k => k38 t (XS.aload X36.here hx rfl (hb hby at_17) rfl rfl k)
        obtain ⟨_, _, ⟨T40, L40, k40, n40⟩, -, X40, ⟨Lc40, hQ40, l40, y40, z40⟩, st40⟩ := Jvm.LawKit.callS X36 hx (y := (⟨"com/example/witness/witness/value/KnownAndPinLaw", "rank", "(Lcom/example/witness/witness/value/NormalForm$Known;)I"⟩ : MethodName)) hown (mvT hZ (hw _ (List.mem_of_getElem? (i := 18) rfl))) (mvT hZ (hw _ (List.mem_of_getElem? (i := 19) rfl))) (mvT hZ (hw _ (List.mem_of_getElem? (i := 2) rfl))) (mvT hZ (hw _ (List.mem_of_getElem? (i := 20) rfl))) (by decide) (backOf (W := 0) (own_m3 l Z a0 hw [] w_NO w_NO w_UNKNOWN w_YES h0 n0 Z0 S_NO S_UNKNOWN S_YES) hZ (hw _ (List.mem_of_getElem? (i := 20) rfl)) (hw _ (List.mem_of_getElem? (i := 2) rfl)) (by decide) (by decide)) (g := (mkF m 19 #[.val (.int p1), .val (.int p2), .val (.ref w_YES), .val (.ref w_NO), .val (.ref w_NO)] [(.ref w_NO)])) rfl (by rw [hml]; rfl) (argsL := [(.ref w_NO)]) (rest := []) (lenOf own_pd2 rfl) rfl (by show 2 * 0 + _ ≤ _; exact Nat.le_of_eq rfl) (hb hby at_19) (fun _ _ => ⟨rfl, e36, (by decide : 0 + 0 ≤ _), (by decide : 0 + 0 ≤ _)⟩)
        dsimp only [Pt.U, Pt.locs, Pt.cells, Pt.slots] at X40 l40 y40 z40 st40 hQ40
        subst l40 y40 z40
        rw [show own_f3 w_NO w_NO w_UNKNOWN w_YES = (0 : Int32) from by unfold own_f3; rw [if_pos (show w_NO = w_NO from rfl)]] at hQ40
        obtain ⟨rfl, N40q, e40⟩ := hQ40
        have N40 := Fr.app N36 N40q
        have k41 : own_To p.tables e below (s₁.setTop (entryFrame m #[(.int p1), (.int p2)] maxLocals)) T40 (mkF m 22 #[.val (.int p1), .val (.int p2), .val (.ref w_YES), .val (.ref w_NO), .val (.ref w_NO)] [(.int (0 : Int32))]) := fun t k => k39 t (st40 t k)
        have k42 : own_To p.tables e below (s₁.setTop (entryFrame m #[(.int p1), (.int p2)] maxLocals)) T40 (mkF m 23 #[.val (.int p1), .val (.int p2), .val (.ref w_YES), .val (.ref w_NO), .val (.ref w_NO)] [(.ref w_YES), (.int (0 : Int32))]) := fun t k => k41 t (XS.aloadN X40.here hx rfl (hb hby at_22) rfl rfl k)
        obtain ⟨_, _, ⟨T43, L43, k43, n43⟩, -, X43, ⟨Lc43, hQ43, l43, y43, z43⟩, st43⟩ := Jvm.LawKit.callS X40 hx (y := (⟨"com/example/witness/witness/value/KnownAndPinLaw", "rank", "(Lcom/example/witness/witness/value/NormalForm$Known;)I"⟩ : MethodName)) hown (mvT hZ (hw _ (List.mem_of_getElem? (i := 18) rfl))) (mvT hZ (hw _ (List.mem_of_getElem? (i := 19) rfl))) (mvT hZ (hw _ (List.mem_of_getElem? (i := 2) rfl))) (mvT hZ (hw _ (List.mem_of_getElem? (i := 20) rfl))) (by decide) (backOf (W := 1) (own_m3 l Z a0 hw [] w_YES w_NO w_UNKNOWN w_YES h0 n0 Z0 S_NO S_UNKNOWN S_YES) hZ (hw _ (List.mem_of_getElem? (i := 20) rfl)) (hw _ (List.mem_of_getElem? (i := 2) rfl)) (by decide) (by decide)) (g := (mkF m 23 #[.val (.int p1), .val (.int p2), .val (.ref w_YES), .val (.ref w_NO), .val (.ref w_NO)] [(.ref w_YES), (.int (0 : Int32))])) rfl (by rw [hml]; rfl) (argsL := [(.ref w_YES)]) (rest := [(.int (0 : Int32))]) (lenOf own_pd2 rfl) rfl (by show 2 * 0 + _ ≤ _; exact Nat.le_of_eq rfl) (hb hby at_23) (fun _ _ => ⟨rfl, e40, (by decide : 0 + 0 ≤ _), (by decide : 0 + 0 ≤ _)⟩)
        dsimp only [Pt.U, Pt.locs, Pt.cells, Pt.slots] at X43 l43 y43 z43 st43 hQ43
        subst l43 y43 z43
        rw [show own_f3 w_YES w_NO w_UNKNOWN w_YES = (2 : Int32) from by unfold own_f3; rw [if_neg (show ¬ (w_YES = w_NO) from ne_YES_NO), if_neg (show ¬ (w_YES = w_UNKNOWN) from ne_YES_UNKNOWN), if_pos (show w_YES = w_YES from rfl)]] at hQ43
        obtain ⟨rfl, N43q, e43⟩ := hQ43
        have N43 := Fr.app N40 N43q
        have k44 : own_To p.tables e below (s₁.setTop (entryFrame m #[(.int p1), (.int p2)] maxLocals)) T43 (mkF m 26 #[.val (.int p1), .val (.int p2), .val (.ref w_YES), .val (.ref w_NO), .val (.ref w_NO)] [(.int (2 : Int32)), (.int (0 : Int32))]) := fun t k => k42 t (st43 t k)
        have k45 : own_To p.tables e below (s₁.setTop (entryFrame m #[(.int p1), (.int p2)] maxLocals)) T43 (mkF m 27 #[.val (.int p1), .val (.int p2), .val (.ref w_YES), .val (.ref w_NO), .val (.ref w_NO)] [(.ref w_NO), (.int (2 : Int32)), (.int (0 : Int32))]) := fun t k => k44 t (XS.aloadN X43.here hx rfl (hb hby at_26) rfl rfl k)
        obtain ⟨_, _, ⟨T46, L46, k46, n46⟩, -, X46, ⟨Lc46, hQ46, l46, y46, z46⟩, st46⟩ := Jvm.LawKit.callS X43 hx (y := (⟨"com/example/witness/witness/value/KnownAndPinLaw", "rank", "(Lcom/example/witness/witness/value/NormalForm$Known;)I"⟩ : MethodName)) hown (mvT hZ (hw _ (List.mem_of_getElem? (i := 18) rfl))) (mvT hZ (hw _ (List.mem_of_getElem? (i := 19) rfl))) (mvT hZ (hw _ (List.mem_of_getElem? (i := 2) rfl))) (mvT hZ (hw _ (List.mem_of_getElem? (i := 20) rfl))) (by decide) (backOf (W := 2) (own_m3 l Z a0 hw [] w_NO w_NO w_UNKNOWN w_YES h0 n0 Z0 S_NO S_UNKNOWN S_YES) hZ (hw _ (List.mem_of_getElem? (i := 20) rfl)) (hw _ (List.mem_of_getElem? (i := 2) rfl)) (by decide) (by decide)) (g := (mkF m 27 #[.val (.int p1), .val (.int p2), .val (.ref w_YES), .val (.ref w_NO), .val (.ref w_NO)] [(.ref w_NO), (.int (2 : Int32)), (.int (0 : Int32))])) rfl (by rw [hml]; rfl) (argsL := [(.ref w_NO)]) (rest := [(.int (2 : Int32)), (.int (0 : Int32))]) (lenOf own_pd2 rfl) rfl (by show 2 * 0 + _ ≤ _; exact Nat.le_of_eq rfl) (hb hby at_27) (fun _ _ => ⟨rfl, e43, (by decide : 0 + 0 ≤ _), (by decide : 0 + 0 ≤ _)⟩)
        dsimp only [Pt.U, Pt.locs, Pt.cells, Pt.slots] at X46 l46 y46 z46 st46 hQ46
        subst l46 y46 z46
        rw [show own_f3 w_NO w_NO w_UNKNOWN w_YES = (0 : Int32) from by unfold own_f3; rw [if_pos (show w_NO = w_NO from rfl)]] at hQ46
        obtain ⟨rfl, N46q, e46⟩ := hQ46
        have N46 := Fr.app N43 N46q
        have k47 : own_To p.tables e below (s₁.setTop (entryFrame m #[(.int p1), (.int p2)] maxLocals)) T46 (mkF m 30 #[.val (.int p1), .val (.int p2), .val (.ref w_YES), .val (.ref w_NO), .val (.ref w_NO)] [(.int (0 : Int32)), (.int (2 : Int32)), (.int (0 : Int32))]) := fun t k => k45 t (st46 t k)
        obtain ⟨_, _, ⟨T48, L48, k48, n48⟩, -, X48, ⟨Lc48, hQ48, l48, y48, z48⟩, st48⟩ := Jvm.LawKit.callS X46 hx (y := (⟨"java/lang/Math", "min", "(II)I"⟩ : MethodName)) hown (mvT hZ (hw _ (List.mem_of_getElem? (i := 23) rfl))) (mvT hZ (hw _ (List.mem_of_getElem? (i := 24) rfl))) (mvT hZ (hw _ (List.mem_of_getElem? (i := 25) rfl))) (mvT hZ (hw _ (List.mem_of_getElem? (i := 26) rfl))) (by decide) (backOf (W := 1) (own_m4 l Z a0 hw [] (2 : Int32) (0 : Int32) h0 n0 Z0 ) hZ (hw _ (List.mem_of_getElem? (i := 26) rfl)) (hw _ (List.mem_of_getElem? (i := 25) rfl)) (by decide) (by decide)) (g := (mkF m 30 #[.val (.int p1), .val (.int p2), .val (.ref w_YES), .val (.ref w_NO), .val (.ref w_NO)] [(.int (0 : Int32)), (.int (2 : Int32)), (.int (0 : Int32))])) rfl (by rw [hml]; rfl) (argsL := [(.int (2 : Int32)), (.int (0 : Int32))]) (rest := [(.int (0 : Int32))]) (lenOf own_pd3 rfl) rfl (by show 2 * 0 + _ ≤ _; exact Nat.le_of_eq rfl) (hb hby at_30) (fun _ _ => ⟨rfl, e46, (by decide : 0 + 0 ≤ _), (by decide : 0 + 0 ≤ _)⟩)
        dsimp only [Pt.U, Pt.locs, Pt.cells, Pt.slots] at X48 l48 y48 z48 st48 hQ48
        subst l48 y48 z48
        rw [show own_f4 (2 : Int32) (0 : Int32) = (0 : Int32) from by unfold own_f4; rw [if_pos (show (0 : Int32) < (2 : Int32) from (by decide))]] at hQ48
        obtain ⟨rfl, N48q, e48⟩ := hQ48
        have N48 := Fr.app N46 N48q
        have k49 : own_To p.tables e below (s₁.setTop (entryFrame m #[(.int p1), (.int p2)] maxLocals)) T48 (mkF m 33 #[.val (.int p1), .val (.int p2), .val (.ref w_YES), .val (.ref w_NO), .val (.ref w_NO)] [(.int (0 : Int32)), (.int (0 : Int32))]) := fun t k => k47 t (st48 t k)
        have k50 : own_To p.tables e below (s₁.setTop (entryFrame m #[(.int p1), (.int p2)] maxLocals)) T48 (mkF m 36 #[.val (.int p1), .val (.int p2), .val (.ref w_YES), .val (.ref w_NO), .val (.ref w_NO)] []) := fun t k => k49 t (XS.icmpNo X48.here hx rfl (hb hby at_33) rfl (teq (show (0 : Int32) = (0 : Int32) from (by decide))).2 k)
        have k51 : own_To p.tables e below (s₁.setTop (entryFrame m #[(.int p1), (.int p2)] maxLocals)) T48 (mkF m 37 #[.val (.int p1), .val (.int p2), .val (.ref w_YES), .val (.ref w_NO), .val (.ref w_NO)] [(.int (1 : Int32))]) := fun t k => k50 t (XS.iconst X48.here hx rfl (hb hby at_36) k)
        have k52 : own_To p.tables e below (s₁.setTop (entryFrame m #[(.int p1), (.int p2)] maxLocals)) T48 (mkF m 41 #[.val (.int p1), .val (.int p2), .val (.ref w_YES), .val (.ref w_NO), .val (.ref w_NO)] [(.int (1 : Int32))]) := fun t k => k51 t (XS.goto X48.here hx rfl (pc0 := 37) (pc' := 41) rfl (hb hby at_37) (by decide) (by decide) k)
        obtain ⟨fs, hr, hrun, hended, hW, hsame⟩ := X48.leave (v := some (.int (1 : Int32))) (fun h => by rw [Bd.returns] at h; cases h)
        refine ⟨_, _, k52 _ ?_, hrun, hended, _, _, rfl, ?_, ⟨_, rfl⟩, hW, hsame.mono (by decide) (by decide)⟩
        · exact retN X48 hx (t := .boolean) Bd.returns (by simp) (hb hby at_41) hr
        · exact ⟨rfl, N48⟩
      · obtain ⟨_, _, ⟨T53, L53, k53, n53⟩, -, X53, ⟨Lc53, hQ53, l53, y53, z53⟩, st53⟩ := Jvm.LawKit.callS X3 hx (y := (⟨"com/example/witness/witness/value/KnownAndPinLaw", "pick", "(I)Lcom/example/witness/witness/value/NormalForm$Known;"⟩ : MethodName)) hown (mvT hZ (hw _ (List.mem_of_getElem? (i := 0) rfl))) (mvT hZ (hw _ (List.mem_of_getElem? (i := 1) rfl))) (mvT hZ (hw _ (List.mem_of_getElem? (i := 2) rfl))) (mvT hZ (hw _ (List.mem_of_getElem? (i := 3) rfl))) (by decide) (backOf (W := 0) (own_m1 l Z a0 hw [] p2 w_YES w_NO w_UNKNOWN h0 n0 Z0 S_YES S_NO S_UNKNOWN) hZ (hw _ (List.mem_of_getElem? (i := 3) rfl)) (hw _ (List.mem_of_getElem? (i := 2) rfl)) (by decide) (by decide)) (g := (mkF m 6 #[.val (.int p1), .val (.int p2), .val (.ref w_YES), .unset, .unset] [(.int p2)])) rfl (by rw [hml]; rfl) (argsL := [(.int p2)]) (rest := []) (lenOf own_pd0 rfl) rfl (by show 2 * 0 + _ ≤ _; exact Nat.le_of_eq rfl) (hb hby at_6) (fun _ _ => ⟨rfl, e3, (by decide : 0 + 0 ≤ _), (by decide : 0 + 0 ≤ _)⟩)
        dsimp only [Pt.U, Pt.locs, Pt.cells, Pt.slots] at X53 l53 y53 z53 st53 hQ53
        subst l53 y53 z53
        rw [show own_f1 p2 w_YES w_NO w_UNKNOWN = w_UNKNOWN from by unfold own_f1; rw [if_neg (show ¬ (((p2 &&& (2147483647 : Int32)) % (3 : Int32)) = (0 : Int32)) from hc7), if_neg (show ¬ (((p2 &&& (2147483647 : Int32)) % (3 : Int32)) = (1 : Int32)) from hc30)]] at hQ53
        obtain ⟨rfl, N53q, e53⟩ := hQ53
        have N53 := Fr.app N3 N53q
        have k54 : own_To p.tables e below (s₁.setTop (entryFrame m #[(.int p1), (.int p2)] maxLocals)) T53 (mkF m 9 #[.val (.int p1), .val (.int p2), .val (.ref w_YES), .unset, .unset] [(.ref w_UNKNOWN)]) := fun t k => k6 t (st53 t k)
        have k55 : own_To p.tables e below (s₁.setTop (entryFrame m #[(.int p1), (.int p2)] maxLocals)) T53 (mkF m 10 #[.val (.int p1), .val (.int p2), .val (.ref w_YES), .val (.ref w_UNKNOWN), .unset] []) := fun t k => k54 t (XS.astoreN X53.here hx rfl (hb hby at_9) rfl rfl (l' := #[.val (.int p1), .val (.int p2), .val (.ref w_YES), .val (.ref w_UNKNOWN), .unset]) rfl k)
        have k56 : own_To p.tables e below (s₁.setTop (entryFrame m #[(.int p1), (.int p2)] maxLocals)) T53 (mkF m 11 #[.val (.int p1), .val (.int p2), .val (.ref w_YES), .val (.ref w_UNKNOWN), .unset] [(.ref w_YES)]) := fun t k => k55 t (XS.aloadN X53.here hx rfl (hb hby at_10) rfl rfl k)
        have k57 : own_To p.tables e below (s₁.setTop (entryFrame m #[(.int p1), (.int p2)] maxLocals)) T53 (mkF m 12 #[.val (.int p1), .val (.int p2), .val (.ref w_YES), .val (.ref w_UNKNOWN), .unset] [(.ref w_UNKNOWN), (.ref w_YES)]) := fun t k => k56 t (XS.aloadN X53.here hx rfl (hb hby at_11) rfl rfl k)
        obtain ⟨cq58, kq58, q58a, q58b, q58c⟩ := isOf hZ e53 E_w_YES
        obtain ⟨_, _, ⟨T58, L58, k58, n58⟩, -, X58, ⟨Lc58, hQ58, l58, y58, z58⟩, st58⟩ := X53.virtualBack hx (y := (⟨"com/example/witness/witness/value/NormalForm$Known", "and", "(Lcom/example/witness/witness/value/NormalForm$Known;)Lcom/example/witness/witness/value/NormalForm$Known;"⟩ : MethodName)) (z := (⟨"com/example/witness/witness/value/NormalForm$Known", "and", "(Lcom/example/witness/witness/value/NormalForm$Known;)Lcom/example/witness/witness/value/NormalForm$Known;"⟩ : MethodName)) hown (mvT hZ (hw _ (List.mem_of_getElem? (i := 8) rfl))) (mvT hZ (hw _ (List.mem_of_getElem? (i := 9) rfl))) (notFace_of_selects (args := #[]) (mvT hZ (hw _ (List.mem_of_getElem? (i := 11) rfl)))) (mvT hZ (hw _ (List.mem_of_getElem? (i := 11) rfl))) (mvT hZ (hw _ (List.mem_of_getElem? (i := 10) rfl))) (by decide) (backOf (W := 0) (own_m2 l Z a0 hw [] w_YES w_UNKNOWN w_UNKNOWN w_NO w_YES h0 n0 Z0 S_UNKNOWN S_NO S_YES) hZ (hw _ (List.mem_of_getElem? (i := 12) rfl)) (hw _ (List.mem_of_getElem? (i := 6) rfl)) (by decide) (by decide)) q58a q58c (g := (mkF m 12 #[.val (.int p1), .val (.int p2), .val (.ref w_YES), .val (.ref w_UNKNOWN), .unset] [(.ref w_UNKNOWN), (.ref w_YES)])) rfl (by rw [hml]; rfl) (Steps.refl _) (argsL := [(.ref w_UNKNOWN)]) (rest := []) (lenOf own_pd1 rfl) rfl (by show 2 * 0 + _ ≤ _; exact Nat.le_of_eq rfl) (hb hby at_12) (fun _ _ => ⟨rfl, e53, (by decide : 0 + 0 ≤ _), (by decide : 0 + 0 ≤ _)⟩)
        dsimp only [Pt.U, Pt.locs, Pt.cells, Pt.slots] at X58 l58 y58 z58 st58 hQ58
        subst l58 y58 z58
        rw [show own_f2 w_YES w_UNKNOWN w_UNKNOWN w_NO w_YES = w_UNKNOWN from by unfold own_f2; rw [if_neg (show ¬ (w_YES = w_NO) from ne_YES_NO), if_neg (show ¬ (w_UNKNOWN = w_NO) from (fun q => ne_NO_UNKNOWN (Eq.symm q))), if_pos (show w_YES = w_YES from rfl), if_neg (show ¬ (w_UNKNOWN = w_YES) from (fun q => ne_YES_UNKNOWN (Eq.symm q)))]] at hQ58
        obtain ⟨rfl, N58q, e58⟩ := hQ58
        have N58 := Fr.app N53 N58q
        have k59 : own_To p.tables e below (s₁.setTop (entryFrame m #[(.int p1), (.int p2)] maxLocals)) T58 (mkF m 15 #[.val (.int p1), .val (.int p2), .val (.ref w_YES), .val (.ref w_UNKNOWN), .unset] [(.ref w_UNKNOWN)]) := fun t k => k57 t (st58.trans k)
        have k60 : own_To p.tables e below (s₁.setTop (entryFrame m #[(.int p1), (.int p2)] maxLocals)) T58 (mkF m 17 #[.val (.int p1), .val (.int p2), .val (.ref w_YES), .val (.ref w_UNKNOWN), .val (.ref w_UNKNOWN)] []) := fun t k => k59 t (XS.astore X58.here hx rfl (hb hby at_15) rfl rfl (l' := #[.val (.int p1), .val (.int p2), .val (.ref w_YES), .val (.ref w_UNKNOWN), .val (.ref w_UNKNOWN)]) rfl k)
        have k61 : own_To p.tables e below (s₁.setTop (entryFrame m #[(.int p1), (.int p2)] maxLocals)) T58 (mkF m 19 #[.val (.int p1), .val (.int p2), .val (.ref w_YES), .val (.ref w_UNKNOWN), .val (.ref w_UNKNOWN)] [(.ref w_UNKNOWN)]) := fun t k => k60 t (XS.aload X58.here hx rfl (hb hby at_17) rfl rfl k)
        obtain ⟨_, _, ⟨T62, L62, k62, n62⟩, -, X62, ⟨Lc62, hQ62, l62, y62, z62⟩, st62⟩ := Jvm.LawKit.callS X58 hx (y := (⟨"com/example/witness/witness/value/KnownAndPinLaw", "rank", "(Lcom/example/witness/witness/value/NormalForm$Known;)I"⟩ : MethodName)) hown (mvT hZ (hw _ (List.mem_of_getElem? (i := 18) rfl))) (mvT hZ (hw _ (List.mem_of_getElem? (i := 19) rfl))) (mvT hZ (hw _ (List.mem_of_getElem? (i := 2) rfl))) (mvT hZ (hw _ (List.mem_of_getElem? (i := 20) rfl))) (by decide) (backOf (W := 0) (own_m3 l Z a0 hw [] w_UNKNOWN w_NO w_UNKNOWN w_YES h0 n0 Z0 S_NO S_UNKNOWN S_YES) hZ (hw _ (List.mem_of_getElem? (i := 20) rfl)) (hw _ (List.mem_of_getElem? (i := 2) rfl)) (by decide) (by decide)) (g := (mkF m 19 #[.val (.int p1), .val (.int p2), .val (.ref w_YES), .val (.ref w_UNKNOWN), .val (.ref w_UNKNOWN)] [(.ref w_UNKNOWN)])) rfl (by rw [hml]; rfl) (argsL := [(.ref w_UNKNOWN)]) (rest := []) (lenOf own_pd2 rfl) rfl (by show 2 * 0 + _ ≤ _; exact Nat.le_of_eq rfl) (hb hby at_19) (fun _ _ => ⟨rfl, e58, (by decide : 0 + 0 ≤ _), (by decide : 0 + 0 ≤ _)⟩)
        dsimp only [Pt.U, Pt.locs, Pt.cells, Pt.slots] at X62 l62 y62 z62 st62 hQ62
        subst l62 y62 z62
        rw [show own_f3 w_UNKNOWN w_NO w_UNKNOWN w_YES = (1 : Int32) from by unfold own_f3; rw [if_neg (show ¬ (w_UNKNOWN = w_NO) from (fun q => ne_NO_UNKNOWN (Eq.symm q))), if_pos (show w_UNKNOWN = w_UNKNOWN from rfl)]] at hQ62
        obtain ⟨rfl, N62q, e62⟩ := hQ62
        have N62 := Fr.app N58 N62q
        have k63 : own_To p.tables e below (s₁.setTop (entryFrame m #[(.int p1), (.int p2)] maxLocals)) T62 (mkF m 22 #[.val (.int p1), .val (.int p2), .val (.ref w_YES), .val (.ref w_UNKNOWN), .val (.ref w_UNKNOWN)] [(.int (1 : Int32))]) := fun t k => k61 t (st62 t k)
        have k64 : own_To p.tables e below (s₁.setTop (entryFrame m #[(.int p1), (.int p2)] maxLocals)) T62 (mkF m 23 #[.val (.int p1), .val (.int p2), .val (.ref w_YES), .val (.ref w_UNKNOWN), .val (.ref w_UNKNOWN)] [(.ref w_YES), (.int (1 : Int32))]) := fun t k => k63 t (XS.aloadN X62.here hx rfl (hb hby at_22) rfl rfl k)
        obtain ⟨_, _, ⟨T65, L65, k65, n65⟩, -, X65, ⟨Lc65, hQ65, l65, y65, z65⟩, st65⟩ := Jvm.LawKit.callS X62 hx (y := (⟨"com/example/witness/witness/value/KnownAndPinLaw", "rank", "(Lcom/example/witness/witness/value/NormalForm$Known;)I"⟩ : MethodName)) hown (mvT hZ (hw _ (List.mem_of_getElem? (i := 18) rfl))) (mvT hZ (hw _ (List.mem_of_getElem? (i := 19) rfl))) (mvT hZ (hw _ (List.mem_of_getElem? (i := 2) rfl))) (mvT hZ (hw _ (List.mem_of_getElem? (i := 20) rfl))) (by decide) (backOf (W := 1) (own_m3 l Z a0 hw [] w_YES w_NO w_UNKNOWN w_YES h0 n0 Z0 S_NO S_UNKNOWN S_YES) hZ (hw _ (List.mem_of_getElem? (i := 20) rfl)) (hw _ (List.mem_of_getElem? (i := 2) rfl)) (by decide) (by decide)) (g := (mkF m 23 #[.val (.int p1), .val (.int p2), .val (.ref w_YES), .val (.ref w_UNKNOWN), .val (.ref w_UNKNOWN)] [(.ref w_YES), (.int (1 : Int32))])) rfl (by rw [hml]; rfl) (argsL := [(.ref w_YES)]) (rest := [(.int (1 : Int32))]) (lenOf own_pd2 rfl) rfl (by show 2 * 0 + _ ≤ _; exact Nat.le_of_eq rfl) (hb hby at_23) (fun _ _ => ⟨rfl, e62, (by decide : 0 + 0 ≤ _), (by decide : 0 + 0 ≤ _)⟩)
        dsimp only [Pt.U, Pt.locs, Pt.cells, Pt.slots] at X65 l65 y65 z65 st65 hQ65
        subst l65 y65 z65
        rw [show own_f3 w_YES w_NO w_UNKNOWN w_YES = (2 : Int32) from by unfold own_f3; rw [if_neg (show ¬ (w_YES = w_NO) from ne_YES_NO), if_neg (show ¬ (w_YES = w_UNKNOWN) from ne_YES_UNKNOWN), if_pos (show w_YES = w_YES from rfl)]] at hQ65
        obtain ⟨rfl, N65q, e65⟩ := hQ65
        have N65 := Fr.app N62 N65q
        have k66 : own_To p.tables e below (s₁.setTop (entryFrame m #[(.int p1), (.int p2)] maxLocals)) T65 (mkF m 26 #[.val (.int p1), .val (.int p2), .val (.ref w_YES), .val (.ref w_UNKNOWN), .val (.ref w_UNKNOWN)] [(.int (2 : Int32)), (.int (1 : Int32))]) := fun t k => k64 t (st65 t k)
        have k67 : own_To p.tables e below (s₁.setTop (entryFrame m #[(.int p1), (.int p2)] maxLocals)) T65 (mkF m 27 #[.val (.int p1), .val (.int p2), .val (.ref w_YES), .val (.ref w_UNKNOWN), .val (.ref w_UNKNOWN)] [(.ref w_UNKNOWN), (.int (2 : Int32)), (.int (1 : Int32))]) := fun t k => k66 t (XS.aloadN X65.here hx rfl (hb hby at_26) rfl rfl k)
        obtain ⟨_, _, ⟨T68, L68, k68, n68⟩, -, X68, ⟨Lc68, hQ68, l68, y68, z68⟩, st68⟩ := Jvm.LawKit.callS X65 hx (y := (⟨"com/example/witness/witness/value/KnownAndPinLaw", "rank", "(Lcom/example/witness/witness/value/NormalForm$Known;)I"⟩ : MethodName)) hown (mvT hZ (hw _ (List.mem_of_getElem? (i := 18) rfl))) (mvT hZ (hw _ (List.mem_of_getElem? (i := 19) rfl))) (mvT hZ (hw _ (List.mem_of_getElem? (i := 2) rfl))) (mvT hZ (hw _ (List.mem_of_getElem? (i := 20) rfl))) (by decide) (backOf (W := 2) (own_m3 l Z a0 hw [] w_UNKNOWN w_NO w_UNKNOWN w_YES h0 n0 Z0 S_NO S_UNKNOWN S_YES) hZ (hw _ (List.mem_of_getElem? (i := 20) rfl)) (hw _ (List.mem_of_getElem? (i := 2) rfl)) (by decide) (by decide)) (g := (mkF m 27 #[.val (.int p1), .val (.int p2), .val (.ref w_YES), .val (.ref w_UNKNOWN), .val (.ref w_UNKNOWN)] [(.ref w_UNKNOWN), (.int (2 : Int32)), (.int (1 : Int32))])) rfl (by rw [hml]; rfl) (argsL := [(.ref w_UNKNOWN)]) (rest := [(.int (2 : Int32)), (.int (1 : Int32))]) (lenOf own_pd2 rfl) rfl (by show 2 * 0 + _ ≤ _; exact Nat.le_of_eq rfl) (hb hby at_27) (fun _ _ => ⟨rfl, e65, (by decide : 0 + 0 ≤ _), (by decide : 0 + 0 ≤ _)⟩)
        dsimp only [Pt.U, Pt.locs, Pt.cells, Pt.slots] at X68 l68 y68 z68 st68 hQ68
        subst l68 y68 z68
        rw [show own_f3 w_UNKNOWN w_NO w_UNKNOWN w_YES = (1 : Int32) from by unfold own_f3; rw [if_neg (show ¬ (w_UNKNOWN = w_NO) from (fun q => ne_NO_UNKNOWN (Eq.symm q))), if_pos (show w_UNKNOWN = w_UNKNOWN from rfl)]] at hQ68
        obtain ⟨rfl, N68q, e68⟩ := hQ68
        have N68 := Fr.app N65 N68q
        have k69 : own_To p.tables e below (s₁.setTop (entryFrame m #[(.int p1), (.int p2)] maxLocals)) T68 (mkF m 30 #[.val (.int p1), .val (.int p2), .val (.ref w_YES), .val (.ref w_UNKNOWN), .val (.ref w_UNKNOWN)] [(.int (1 : Int32)), (.int (2 : Int32)), (.int (1 : Int32))]) := fun t k => k67 t (st68 t k)
        obtain ⟨_, _, ⟨T70, L70, k70, n70⟩, -, X70, ⟨Lc70, hQ70, l70, y70, z70⟩, st70⟩ := Jvm.LawKit.callS X68 hx (y := (⟨"java/lang/Math", "min", "(II)I"⟩ : MethodName)) hown (mvT hZ (hw _ (List.mem_of_getElem? (i := 23) rfl))) (mvT hZ (hw _ (List.mem_of_getElem? (i := 24) rfl))) (mvT hZ (hw _ (List.mem_of_getElem? (i := 25) rfl))) (mvT hZ (hw _ (List.mem_of_getElem? (i := 26) rfl))) (by decide) (backOf (W := 1) (own_m4 l Z a0 hw [] (2 : Int32) (1 : Int32) h0 n0 Z0 ) hZ (hw _ (List.mem_of_getElem? (i := 26) rfl)) (hw _ (List.mem_of_getElem? (i := 25) rfl)) (by decide) (by decide)) (g := (mkF m 30 #[.val (.int p1), .val (.int p2), .val (.ref w_YES), .val (.ref w_UNKNOWN), .val (.ref w_UNKNOWN)] [(.int (1 : Int32)), (.int (2 : Int32)), (.int (1 : Int32))])) rfl (by rw [hml]; rfl) (argsL := [(.int (2 : Int32)), (.int (1 : Int32))]) (rest := [(.int (1 : Int32))]) (lenOf own_pd3 rfl) rfl (by show 2 * 0 + _ ≤ _; exact Nat.le_of_eq rfl) (hb hby at_30) (fun _ _ => ⟨rfl, e68, (by decide : 0 + 0 ≤ _), (by decide : 0 + 0 ≤ _)⟩)
        dsimp only [Pt.U, Pt.locs, Pt.cells, Pt.slots] at X70 l70 y70 z70 st70 hQ70
        subst l70 y70 z70
        rw [show own_f4 (2 : Int32) (1 : Int32) = (1 : Int32) from by unfold own_f4; rw [if_pos (show (1 : Int32) < (2 : Int32) from (by decide))]] at hQ70
        obtain ⟨rfl, N70q, e70⟩ := hQ70
        have N70 := Fr.app N68 N70q
        have k71 : own_To p.tables e below (s₁.setTop (entryFrame m #[(.int p1), (.int p2)] maxLocals)) T70 (mkF m 33 #[.val (.int p1), .val (.int p2), .val (.ref w_YES), .val (.ref w_UNKNOWN), .val (.ref w_UNKNOWN)] [(.int (1 : Int32)), (.int (1 : Int32))]) := fun t k => k69 t (st70 t k)
        have k72 : own_To p.tables e below (s₁.setTop (entryFrame m #[(.int p1), (.int p2)] maxLocals)) T70 (mkF m 36 #[.val (.int p1), .val (.int p2), .val (.ref w_YES), .val (.ref w_UNKNOWN), .val (.ref w_UNKNOWN)] []) := fun t k => k71 t (XS.icmpNo X70.here hx rfl (hb hby at_33) rfl (teq (show (1 : Int32) = (1 : Int32) from (by decide))).2 k)
        have k73 : own_To p.tables e below (s₁.setTop (entryFrame m #[(.int p1), (.int p2)] maxLocals)) T70 (mkF m 37 #[.val (.int p1), .val (.int p2), .val (.ref w_YES), .val (.ref w_UNKNOWN), .val (.ref w_UNKNOWN)] [(.int (1 : Int32))]) := fun t k => k72 t (XS.iconst X70.here hx rfl (hb hby at_36) k)
        have k74 : own_To p.tables e below (s₁.setTop (entryFrame m #[(.int p1), (.int p2)] maxLocals)) T70 (mkF m 41 #[.val (.int p1), .val (.int p2), .val (.ref w_YES), .val (.ref w_UNKNOWN), .val (.ref w_UNKNOWN)] [(.int (1 : Int32))]) := fun t k => k73 t (XS.goto X70.here hx rfl (pc0 := 37) (pc' := 41) rfl (hb hby at_37) (by decide) (by decide) k)
        obtain ⟨fs, hr, hrun, hended, hW, hsame⟩ := X70.leave (v := some (.int (1 : Int32))) (fun h => by rw [Bd.returns] at h; cases h)
        refine ⟨_, _, k74 _ ?_, hrun, hended, _, _, rfl, ?_, ⟨_, rfl⟩, hW, hsame.mono (by decide) (by decide)⟩
        · exact retN X70 hx (t := .boolean) Bd.returns (by simp) (hb hby at_41) hr
        · exact ⟨rfl, N70⟩
  · by_cases hc75 : ((p1 &&& (2147483647 : Int32)) % (3 : Int32)) = (1 : Int32)
    · obtain ⟨_, _, ⟨T76, L76, k76, n76⟩, -, X76, ⟨Lc76, hQ76, l76, y76, z76⟩, st76⟩ := Jvm.LawKit.callS X0 hx (y := (⟨"com/example/witness/witness/value/KnownAndPinLaw", "pick", "(I)Lcom/example/witness/witness/value/NormalForm$Known;"⟩ : MethodName)) hown (mvT hZ (hw _ (List.mem_of_getElem? (i := 0) rfl))) (mvT hZ (hw _ (List.mem_of_getElem? (i := 1) rfl))) (mvT hZ (hw _ (List.mem_of_getElem? (i := 2) rfl))) (mvT hZ (hw _ (List.mem_of_getElem? (i := 3) rfl))) (by decide) (backOf (W := 0) (own_m1 l Z a0 hw [] p1 w_YES w_NO w_UNKNOWN h0 n0 Z0 S_YES S_NO S_UNKNOWN) hZ (hw _ (List.mem_of_getElem? (i := 3) rfl)) (hw _ (List.mem_of_getElem? (i := 2) rfl)) (by decide) (by decide)) (g := (mkF m 1 #[.val (.int p1), .val (.int p2), .unset, .unset, .unset] [(.int p1)])) rfl (by rw [hml]; rfl) (argsL := [(.int p1)]) (rest := []) (lenOf own_pd0 rfl) rfl (by show 2 * 0 + _ ≤ _; exact Nat.le_of_eq rfl) (hb hby at_1) (fun _ _ => ⟨rfl, e0, (by decide : 0 + 0 ≤ _), (by decide : 0 + 0 ≤ _)⟩)
      dsimp only [Pt.U, Pt.locs, Pt.cells, Pt.slots] at X76 l76 y76 z76 st76 hQ76
      subst l76 y76 z76
      rw [show own_f1 p1 w_YES w_NO w_UNKNOWN = w_NO from by unfold own_f1; rw [if_neg (show ¬ (((p1 &&& (2147483647 : Int32)) % (3 : Int32)) = (0 : Int32)) from hc2), if_pos (show ((p1 &&& (2147483647 : Int32)) % (3 : Int32)) = (1 : Int32) from hc75)]] at hQ76
      obtain ⟨rfl, N76q, e76⟩ := hQ76
      have N76 := Fr.app N0 N76q
      have k77 : own_To p.tables e below (s₁.setTop (entryFrame m #[(.int p1), (.int p2)] maxLocals)) T76 (mkF m 4 #[.val (.int p1), .val (.int p2), .unset, .unset, .unset] [(.ref w_NO)]) := fun t k => k1 t (st76 t k)
      have k78 : own_To p.tables e below (s₁.setTop (entryFrame m #[(.int p1), (.int p2)] maxLocals)) T76 (mkF m 5 #[.val (.int p1), .val (.int p2), .val (.ref w_NO), .unset, .unset] []) := fun t k => k77 t (XS.astoreN X76.here hx rfl (hb hby at_4) rfl rfl (l' := #[.val (.int p1), .val (.int p2), .val (.ref w_NO), .unset, .unset]) rfl k)
      have k79 : own_To p.tables e below (s₁.setTop (entryFrame m #[(.int p1), (.int p2)] maxLocals)) T76 (mkF m 6 #[.val (.int p1), .val (.int p2), .val (.ref w_NO), .unset, .unset] [(.int p2)]) := fun t k => k78 t (XS.iloadN X76.here hx rfl (hb hby at_5) rfl k)
      by_cases hc80 : ((p2 &&& (2147483647 : Int32)) % (3 : Int32)) = (0 : Int32)
      · obtain ⟨_, _, ⟨T81, L81, k81, n81⟩, -, X81, ⟨Lc81, hQ81, l81, y81, z81⟩, st81⟩ := Jvm.LawKit.callS X76 hx (y := (⟨"com/example/witness/witness/value/KnownAndPinLaw", "pick", "(I)Lcom/example/witness/witness/value/NormalForm$Known;"⟩ : MethodName)) hown (mvT hZ (hw _ (List.mem_of_getElem? (i := 0) rfl))) (mvT hZ (hw _ (List.mem_of_getElem? (i := 1) rfl))) (mvT hZ (hw _ (List.mem_of_getElem? (i := 2) rfl))) (mvT hZ (hw _ (List.mem_of_getElem? (i := 3) rfl))) (by decide) (backOf (W := 0) (own_m1 l Z a0 hw [] p2 w_YES w_NO w_UNKNOWN h0 n0 Z0 S_YES S_NO S_UNKNOWN) hZ (hw _ (List.mem_of_getElem? (i := 3) rfl)) (hw _ (List.mem_of_getElem? (i := 2) rfl)) (by decide) (by decide)) (g := (mkF m 6 #[.val (.int p1), .val (.int p2), .val (.ref w_NO), .unset, .unset] [(.int p2)])) rfl (by rw [hml]; rfl) (argsL := [(.int p2)]) (rest := []) (lenOf own_pd0 rfl) rfl (by show 2 * 0 + _ ≤ _; exact Nat.le_of_eq rfl) (hb hby at_6) (fun _ _ => ⟨rfl, e76, (by decide : 0 + 0 ≤ _), (by decide : 0 + 0 ≤ _)⟩)
        dsimp only [Pt.U, Pt.locs, Pt.cells, Pt.slots] at X81 l81 y81 z81 st81 hQ81
        subst l81 y81 z81
        rw [show own_f1 p2 w_YES w_NO w_UNKNOWN = w_YES from by unfold own_f1; rw [if_pos (show ((p2 &&& (2147483647 : Int32)) % (3 : Int32)) = (0 : Int32) from hc80)]] at hQ81
        obtain ⟨rfl, N81q, e81⟩ := hQ81
        have N81 := Fr.app N76 N81q
        have k82 : own_To p.tables e below (s₁.setTop (entryFrame m #[(.int p1), (.int p2)] maxLocals)) T81 (mkF m 9 #[.val (.int p1), .val (.int p2), .val (.ref w_NO), .unset, .unset] [(.ref w_YES)]) := fun t k => k79 t (st81 t k)
        have k83 : own_To p.tables e below (s₁.setTop (entryFrame m #[(.int p1), (.int p2)] maxLocals)) T81 (mkF m 10 #[.val (.int p1), .val (.int p2), .val (.ref w_NO), .val (.ref w_YES), .unset] []) := fun t k => k82 t (XS.astoreN X81.here hx rfl (hb hby at_9) rfl rfl (l' := #[.val (.int p1), .val (.int p2), .val (.ref w_NO), .val (.ref w_YES), .unset]) rfl k)
        have k84 : own_To p.tables e below (s₁.setTop (entryFrame m #[(.int p1), (.int p2)] maxLocals)) T81 (mkF m 11 #[.val (.int p1), .val (.int p2), .val (.ref w_NO), .val (.ref w_YES), .unset] [(.ref w_NO)]) := fun t k => k83 t (XS.aloadN X81.here hx rfl (hb hby at_10) rfl rfl k)
        have k85 : own_To p.tables e below (s₁.setTop (entryFrame m #[(.int p1), (.int p2)] maxLocals)) T81 (mkF m 12 #[.val (.int p1), .val (.int p2), .val (.ref w_NO), .val (.ref w_YES), .unset] [(.ref w_YES), (.ref w_NO)]) := fun t k => k84 t (XS.aloadN X81.here hx rfl (hb hby at_11) rfl rfl k)
        obtain ⟨cq86, kq86, q86a, q86b, q86c⟩ := isOf hZ e81 E_w_NO
        obtain ⟨_, _, ⟨T86, L86, k86, n86⟩, -, X86, ⟨Lc86, hQ86, l86, y86, z86⟩, st86⟩ := X81.virtualBack hx (y := (⟨"com/example/witness/witness/value/NormalForm$Known", "and", "(Lcom/example/witness/witness/value/NormalForm$Known;)Lcom/example/witness/witness/value/NormalForm$Known;"⟩ : MethodName)) (z := (⟨"com/example/witness/witness/value/NormalForm$Known", "and", "(Lcom/example/witness/witness/value/NormalForm$Known;)Lcom/example/witness/witness/value/NormalForm$Known;"⟩ : MethodName)) hown (mvT hZ (hw _ (List.mem_of_getElem? (i := 8) rfl))) (mvT hZ (hw _ (List.mem_of_getElem? (i := 9) rfl))) (notFace_of_selects (args := #[]) (mvT hZ (hw _ (List.mem_of_getElem? (i := 11) rfl)))) (mvT hZ (hw _ (List.mem_of_getElem? (i := 11) rfl))) (mvT hZ (hw _ (List.mem_of_getElem? (i := 10) rfl))) (by decide) (backOf (W := 0) (own_m2 l Z a0 hw [] w_NO w_YES w_UNKNOWN w_NO w_YES h0 n0 Z0 S_UNKNOWN S_NO S_YES) hZ (hw _ (List.mem_of_getElem? (i := 12) rfl)) (hw _ (List.mem_of_getElem? (i := 6) rfl)) (by decide) (by decide)) q86a q86c (g := (mkF m 12 #[.val (.int p1), .val (.int p2), .val (.ref w_NO), .val (.ref w_YES), .unset] [(.ref w_YES), (.ref w_NO)])) rfl (by rw [hml]; rfl) (Steps.refl _) (argsL := [(.ref w_YES)]) (rest := []) (lenOf own_pd1 rfl) rfl (by show 2 * 0 + _ ≤ _; exact Nat.le_of_eq rfl) (hb hby at_12) (fun _ _ => ⟨rfl, e81, (by decide : 0 + 0 ≤ _), (by decide : 0 + 0 ≤ _)⟩)
        dsimp only [Pt.U, Pt.locs, Pt.cells, Pt.slots] at X86 l86 y86 z86 st86 hQ86
        subst l86 y86 z86
        rw [show own_f2 w_NO w_YES w_UNKNOWN w_NO w_YES = w_NO from by unfold own_f2; rw [if_pos (show w_NO = w_NO from rfl)]] at hQ86
        obtain ⟨rfl, N86q, e86⟩ := hQ86
        have N86 := Fr.app N81 N86q
        have k87 : own_To p.tables e below (s₁.setTop (entryFrame m #[(.int p1), (.int p2)] maxLocals)) T86 (mkF m 15 #[.val (.int p1), .val (.int p2), .val (.ref w_NO), .val (.ref w_YES), .unset] [(.ref w_NO)]) := fun t k => k85 t (st86.trans k)
        have k88 : own_To p.tables e below (s₁.setTop (entryFrame m #[(.int p1), (.int p2)] maxLocals)) T86 (mkF m 17 #[.val (.int p1), .val (.int p2), .val (.ref w_NO), .val (.ref w_YES), .val (.ref w_NO)] []) := fun t k => k87 t (XS.astore X86.here hx rfl (hb hby at_15) rfl rfl (l' := #[.val (.int p1), .val (.int p2), .val (.ref w_NO), .val (.ref w_YES), .val (.ref w_NO)]) rfl k)
        have k89 : own_To p.tables e below (s₁.setTop (entryFrame m #[(.int p1), (.int p2)] maxLocals)) T86 (mkF m 19 #[.val (.int p1), .val (.int p2), .val (.ref w_NO), .val (.ref w_YES), .val (.ref w_NO)] [(.ref w_NO)]) := fun t k => k88 t (XS.aload X86.here hx rfl (hb hby at_17) rfl rfl k)
        obtain ⟨_, _, ⟨T90, L90, k90, n90⟩, -, X90, ⟨Lc90, hQ90, l90, y90, z90⟩, st90⟩ := Jvm.LawKit.callS X86 hx (y := (⟨"com/example/witness/witness/value/KnownAndPinLaw", "rank", "(Lcom/example/witness/witness/value/NormalForm$Known;)I"⟩ : MethodName)) hown (mvT hZ (hw _ (List.mem_of_getElem? (i := 18) rfl))) (mvT hZ (hw _ (List.mem_of_getElem? (i := 19) rfl))) (mvT hZ (hw _ (List.mem_of_getElem? (i := 2) rfl))) (mvT hZ (hw _ (List.mem_of_getElem? (i := 20) rfl))) (by decide) (backOf (W := 0) (own_m3 l Z a0 hw [] w_NO w_NO w_UNKNOWN w_YES h0 n0 Z0 S_NO S_UNKNOWN S_YES) hZ (hw _ (List.mem_of_getElem? (i := 20) rfl)) (hw _ (List.mem_of_getElem? (i := 2) rfl)) (by decide) (by decide)) (g := (mkF m 19 #[.val (.int p1), .val (.int p2), .val (.ref w_NO), .val (.ref w_YES), .val (.ref w_NO)] [(.ref w_NO)])) rfl (by rw [hml]; rfl) (argsL := [(.ref w_NO)]) (rest := []) (lenOf own_pd2 rfl) rfl (by show 2 * 0 + _ ≤ _; exact Nat.le_of_eq rfl) (hb hby at_19) (fun _ _ => ⟨rfl, e86, (by decide : 0 + 0 ≤ _), (by decide : 0 + 0 ≤ _)⟩)
        dsimp only [Pt.U, Pt.locs, Pt.cells, Pt.slots] at X90 l90 y90 z90 st90 hQ90
        subst l90 y90 z90
        rw [show own_f3 w_NO w_NO w_UNKNOWN w_YES = (0 : Int32) from by unfold own_f3; rw [if_pos (show w_NO = w_NO from rfl)]] at hQ90
        obtain ⟨rfl, N90q, e90⟩ := hQ90
        have N90 := Fr.app N86 N90q
        have k91 : own_To p.tables e below (s₁.setTop (entryFrame m #[(.int p1), (.int p2)] maxLocals)) T90 (mkF m 22 #[.val (.int p1), .val (.int p2), .val (.ref w_NO), .val (.ref w_YES), .val (.ref w_NO)] [(.int (0 : Int32))]) := fun t k => k89 t (st90 t k)
        have k92 : own_To p.tables e below (s₁.setTop (entryFrame m #[(.int p1), (.int p2)] maxLocals)) T90 (mkF m 23 #[.val (.int p1), .val (.int p2), .val (.ref w_NO), .val (.ref w_YES), .val (.ref w_NO)] [(.ref w_NO), (.int (0 : Int32))]) := fun t k => k91 t (XS.aloadN X90.here hx rfl (hb hby at_22) rfl rfl k)
        obtain ⟨_, _, ⟨T93, L93, k93, n93⟩, -, X93, ⟨Lc93, hQ93, l93, y93, z93⟩, st93⟩ := Jvm.LawKit.callS X90 hx (y := (⟨"com/example/witness/witness/value/KnownAndPinLaw", "rank", "(Lcom/example/witness/witness/value/NormalForm$Known;)I"⟩ : MethodName)) hown (mvT hZ (hw _ (List.mem_of_getElem? (i := 18) rfl))) (mvT hZ (hw _ (List.mem_of_getElem? (i := 19) rfl))) (mvT hZ (hw _ (List.mem_of_getElem? (i := 2) rfl))) (mvT hZ (hw _ (List.mem_of_getElem? (i := 20) rfl))) (by decide) (backOf (W := 1) (own_m3 l Z a0 hw [] w_NO w_NO w_UNKNOWN w_YES h0 n0 Z0 S_NO S_UNKNOWN S_YES) hZ (hw _ (List.mem_of_getElem? (i := 20) rfl)) (hw _ (List.mem_of_getElem? (i := 2) rfl)) (by decide) (by decide)) (g := (mkF m 23 #[.val (.int p1), .val (.int p2), .val (.ref w_NO), .val (.ref w_YES), .val (.ref w_NO)] [(.ref w_NO), (.int (0 : Int32))])) rfl (by rw [hml]; rfl) (argsL := [(.ref w_NO)]) (rest := [(.int (0 : Int32))]) (lenOf own_pd2 rfl) rfl (by show 2 * 0 + _ ≤ _; exact Nat.le_of_eq rfl) (hb hby at_23) (fun _ _ => ⟨rfl, e90, (by decide : 0 + 0 ≤ _), (by decide : 0 + 0 ≤ _)⟩)
        dsimp only [Pt.U, Pt.locs, Pt.cells, Pt.slots] at X93 l93 y93 z93 st93 hQ93
        subst l93 y93 z93
        rw [show own_f3 w_NO w_NO w_UNKNOWN w_YES = (0 : Int32) from by unfold own_f3; rw [if_pos (show w_NO = w_NO from rfl)]] at hQ93
        obtain ⟨rfl, N93q, e93⟩ := hQ93
        have N93 := Fr.app N90 N93q
        have k94 : own_To p.tables e below (s₁.setTop (entryFrame m #[(.int p1), (.int p2)] maxLocals)) T93 (mkF m 26 #[.val (.int p1), .val (.int p2), .val (.ref w_NO), .val (.ref w_YES), .val (.ref w_NO)] [(.int (0 : Int32)), (.int (0 : Int32))]) := fun t k => k92 t (st93 t k)
        have k95 : own_To p.tables e below (s₁.setTop (entryFrame m #[(.int p1), (.int p2)] maxLocals)) T93 (mkF m 27 #[.val (.int p1), .val (.int p2), .val (.ref w_NO), .val (.ref w_YES), .val (.ref w_NO)] [(.ref w_YES), (.int (0 : Int32)), (.int (0 : Int32))]) := fun t k => k94 t (XS.aloadN X93.here hx rfl (hb hby at_26) rfl rfl k)
        obtain ⟨_, _, ⟨T96, L96, k96, n96⟩, -, X96, ⟨Lc96, hQ96, l96, y96, z96⟩, st96⟩ := Jvm.LawKit.callS X93 hx (y := (⟨"com/example/witness/witness/value/KnownAndPinLaw", "rank", "(Lcom/example/witness/witness/value/NormalForm$Known;)I"⟩ : MethodName)) hown (mvT hZ (hw _ (List.mem_of_getElem? (i := 18) rfl))) (mvT hZ (hw _ (List.mem_of_getElem? (i := 19) rfl))) (mvT hZ (hw _ (List.mem_of_getElem? (i := 2) rfl))) (mvT hZ (hw _ (List.mem_of_getElem? (i := 20) rfl))) (by decide) (backOf (W := 2) (own_m3 l Z a0 hw [] w_YES w_NO w_UNKNOWN w_YES h0 n0 Z0 S_NO S_UNKNOWN S_YES) hZ (hw _ (List.mem_of_getElem? (i := 20) rfl)) (hw _ (List.mem_of_getElem? (i := 2) rfl)) (by decide) (by decide)) (g := (mkF m 27 #[.val (.int p1), .val (.int p2), .val (.ref w_NO), .val (.ref w_YES), .val (.ref w_NO)] [(.ref w_YES), (.int (0 : Int32)), (.int (0 : Int32))])) rfl (by rw [hml]; rfl) (argsL := [(.ref w_YES)]) (rest := [(.int (0 : Int32)), (.int (0 : Int32))]) (lenOf own_pd2 rfl) rfl (by show 2 * 0 + _ ≤ _; exact Nat.le_of_eq rfl) (hb hby at_27) (fun _ _ => ⟨rfl, e93, (by decide : 0 + 0 ≤ _), (by decide : 0 + 0 ≤ _)⟩)
        dsimp only [Pt.U, Pt.locs, Pt.cells, Pt.slots] at X96 l96 y96 z96 st96 hQ96
        subst l96 y96 z96
        rw [show own_f3 w_YES w_NO w_UNKNOWN w_YES = (2 : Int32) from by unfold own_f3; rw [if_neg (show ¬ (w_YES = w_NO) from ne_YES_NO), if_neg (show ¬ (w_YES = w_UNKNOWN) from ne_YES_UNKNOWN), if_pos (show w_YES = w_YES from rfl)]] at hQ96
        obtain ⟨rfl, N96q, e96⟩ := hQ96
        have N96 := Fr.app N93 N96q
        have k97 : own_To p.tables e below (s₁.setTop (entryFrame m #[(.int p1), (.int p2)] maxLocals)) T96 (mkF m 30 #[.val (.int p1), .val (.int p2), .val (.ref w_NO), .val (.ref w_YES), .val (.ref w_NO)] [(.int (2 : Int32)), (.int (0 : Int32)), (.int (0 : Int32))]) := fun t k => k95 t (st96 t k)
        obtain ⟨_, _, ⟨T98, L98, k98, n98⟩, -, X98, ⟨Lc98, hQ98, l98, y98, z98⟩, st98⟩ := Jvm.LawKit.callS X96 hx (y := (⟨"java/lang/Math", "min", "(II)I"⟩ : MethodName)) hown (mvT hZ (hw _ (List.mem_of_getElem? (i := 23) rfl))) (mvT hZ (hw _ (List.mem_of_getElem? (i := 24) rfl))) (mvT hZ (hw _ (List.mem_of_getElem? (i := 25) rfl))) (mvT hZ (hw _ (List.mem_of_getElem? (i := 26) rfl))) (by decide) (backOf (W := 1) (own_m4 l Z a0 hw [] (0 : Int32) (2 : Int32) h0 n0 Z0 ) hZ (hw _ (List.mem_of_getElem? (i := 26) rfl)) (hw _ (List.mem_of_getElem? (i := 25) rfl)) (by decide) (by decide)) (g := (mkF m 30 #[.val (.int p1), .val (.int p2), .val (.ref w_NO), .val (.ref w_YES), .val (.ref w_NO)] [(.int (2 : Int32)), (.int (0 : Int32)), (.int (0 : Int32))])) rfl (by rw [hml]; rfl) (argsL := [(.int (0 : Int32)), (.int (2 : Int32))]) (rest := [(.int (0 : Int32))]) (lenOf own_pd3 rfl) rfl (by show 2 * 0 + _ ≤ _; exact Nat.le_of_eq rfl) (hb hby at_30) (fun _ _ => ⟨rfl, e96, (by decide : 0 + 0 ≤ _), (by decide : 0 + 0 ≤ _)⟩)
        dsimp only [Pt.U, Pt.locs, Pt.cells, Pt.slots] at X98 l98 y98 z98 st98 hQ98
        subst l98 y98 z98
        rw [show own_f4 (0 : Int32) (2 : Int32) = (0 : Int32) from by unfold own_f4; rw [if_neg (show ¬ ((2 : Int32) < (0 : Int32)) from (by decide))]] at hQ98
        obtain ⟨rfl, N98q, e98⟩ := hQ98
        have N98 := Fr.app N96 N98q
        have k99 : own_To p.tables e below (s₁.setTop (entryFrame m #[(.int p1), (.int p2)] maxLocals)) T98 (mkF m 33 #[.val (.int p1), .val (.int p2), .val (.ref w_NO), .val (.ref w_YES), .val (.ref w_NO)] [(.int (0 : Int32)), (.int (0 : Int32))]) := fun t k => k97 t (st98 t k)
        have k100 : own_To p.tables e below (s₁.setTop (entryFrame m #[(.int p1), (.int p2)] maxLocals)) T98 (mkF m 36 #[.val (.int p1), .val (.int p2), .val (.ref w_NO), .val (.ref w_YES), .val (.ref w_NO)] []) := fun t k => k99 t (XS.icmpNo X98.here hx rfl (hb hby at_33) rfl (teq (show (0 : Int32) = (0 : Int32) from (by decide))).2 k)
        have k101 : own_To p.tables e below (s₁.setTop (entryFrame m #[(.int p1), (.int p2)] maxLocals)) T98 (mkF m 37 #[.val (.int p1), .val (.int p2), .val (.ref w_NO), .val (.ref w_YES), .val (.ref w_NO)] [(.int (1 : Int32))]) := fun t k => k100 t (XS.iconst X98.here hx rfl (hb hby at_36) k)
        have k102 : own_To p.tables e below (s₁.setTop (entryFrame m #[(.int p1), (.int p2)] maxLocals)) T98 (mkF m 41 #[.val (.int p1), .val (.int p2), .val (.ref w_NO), .val (.ref w_YES), .val (.ref w_NO)] [(.int (1 : Int32))]) := fun t k => k101 t (XS.goto X98.here hx rfl (pc0 := 37) (pc' := 41) rfl (hb hby at_37) (by decide) (by decide) k)
        obtain ⟨fs, hr, hrun, hended, hW, hsame⟩ := X98.leave (v := some (.int (1 : Int32))) (fun h => by rw [Bd.returns] at h; cases h)
        refine ⟨_, _, k102 _ ?_, hrun, hended, _, _, rfl, ?_, ⟨_, rfl⟩, hW, hsame.mono (by decide) (by decide)⟩
        · exact retN X98 hx (t := .boolean) Bd.returns (by simp) (hb hby at_41) hr
        · exact ⟨rfl, N98⟩
      · by_cases hc103 : ((p2 &&& (2147483647 : Int32)) % (3 : Int32)) = (1 : Int32)
        · obtain ⟨_, _, ⟨T104, L104, k104, n104⟩, -, X104, ⟨Lc104, hQ104, l104, y104, z104⟩, st104⟩ := Jvm.LawKit.callS X76 hx (y := (⟨"com/example/witness/witness/value/KnownAndPinLaw", "pick", "(I)Lcom/example/witness/witness/value/NormalForm$Known;"⟩ : MethodName)) hown (mvT hZ (hw _ (List.mem_of_getElem? (i := 0) rfl))) (mvT hZ (hw _ (List.mem_of_getElem? (i := 1) rfl))) (mvT hZ (hw _ (List.mem_of_getElem? (i := 2) rfl))) (mvT hZ (hw _ (List.mem_of_getElem? (i := 3) rfl))) (by decide) (backOf (W := 0) (own_m1 l Z a0 hw [] p2 w_YES w_NO w_UNKNOWN h0 n0 Z0 S_YES S_NO S_UNKNOWN) hZ (hw _ (List.mem_of_getElem? (i := 3) rfl)) (hw _ (List.mem_of_getElem? (i := 2) rfl)) (by decide) (by decide)) (g := (mkF m 6 #[.val (.int p1), .val (.int p2), .val (.ref w_NO), .unset, .unset] [(.int p2)])) rfl (by rw [hml]; rfl) (argsL := [(.int p2)]) (rest := []) (lenOf own_pd0 rfl) rfl (by show 2 * 0 + _ ≤ _; exact Nat.le_of_eq rfl) (hb hby at_6) (fun _ _ => ⟨rfl, e76, (by decide : 0 + 0 ≤ _), (by decide : 0 + 0 ≤ _)⟩)
          dsimp only [Pt.U, Pt.locs, Pt.cells, Pt.slots] at X104 l104 y104 z104 st104 hQ104
          subst l104 y104 z104
          rw [show own_f1 p2 w_YES w_NO w_UNKNOWN = w_NO from by unfold own_f1; rw [if_neg (show ¬ (((p2 &&& (2147483647 : Int32)) % (3 : Int32)) = (0 : Int32)) from hc80), if_pos (show ((p2 &&& (2147483647 : Int32)) % (3 : Int32)) = (1 : Int32) from hc103)]] at hQ104
          obtain ⟨rfl, N104q, e104⟩ := hQ104
          have N104 := Fr.app N76 N104q
          have k105 : own_To p.tables e below (s₁.setTop (entryFrame m #[(.int p1), (.int p2)] maxLocals)) T104 (mkF m 9 #[.val (.int p1), .val (.int p2), .val (.ref w_NO), .unset, .unset] [(.ref w_NO)]) := fun t k => k79 t (st104 t k)
          have k106 : own_To p.tables e below (s₁.setTop (entryFrame m #[(.int p1), (.int p2)] maxLocals)) T104 (mkF m 10 #[.val (.int p1), .val (.int p2), .val (.ref w_NO), .val (.ref w_NO), .unset] []) := fun t k => k105 t (XS.astoreN X104.here hx rfl (hb hby at_9) rfl rfl (l' := #[.val (.int p1), .val (.int p2), .val (.ref w_NO), .val (.ref w_NO), .unset]) rfl k)
          have k107 : own_To p.tables e below (s₁.setTop (entryFrame m #[(.int p1), (.int p2)] maxLocals)) T104 (mkF m 11 #[.val (.int p1), .val (.int p2), .val (.ref w_NO), .val (.ref w_NO), .unset] [(.ref w_NO)]) := fun t k => k106 t (XS.aloadN X104.here hx rfl (hb hby at_10) rfl rfl k)
          have k108 : own_To p.tables e below (s₁.setTop (entryFrame m #[(.int p1), (.int p2)] maxLocals)) T104 (mkF m 12 #[.val (.int p1), .val (.int p2), .val (.ref w_NO), .val (.ref w_NO), .unset] [(.ref w_NO), (.ref w_NO)]) := fun t k => k107 t (XS.aloadN X104.here hx rfl (hb hby at_11) rfl rfl k)
          obtain ⟨cq109, kq109, q109a, q109b, q109c⟩ := isOf hZ e104 E_w_NO
          obtain ⟨_, _, ⟨T109, L109, k109, n109⟩, -, X109, ⟨Lc109, hQ109, l109, y109, z109⟩, st109⟩ := X104.virtualBack hx (y := (⟨"com/example/witness/witness/value/NormalForm$Known", "and", "(Lcom/example/witness/witness/value/NormalForm$Known;)Lcom/example/witness/witness/value/NormalForm$Known;"⟩ : MethodName)) (z := (⟨"com/example/witness/witness/value/NormalForm$Known", "and", "(Lcom/example/witness/witness/value/NormalForm$Known;)Lcom/example/witness/witness/value/NormalForm$Known;"⟩ : MethodName)) hown (mvT hZ (hw _ (List.mem_of_getElem? (i := 8) rfl))) (mvT hZ (hw _ (List.mem_of_getElem? (i := 9) rfl))) (notFace_of_selects (args := #[]) (mvT hZ (hw _ (List.mem_of_getElem? (i := 11) rfl)))) (mvT hZ (hw _ (List.mem_of_getElem? (i := 11) rfl))) (mvT hZ (hw _ (List.mem_of_getElem? (i := 10) rfl))) (by decide) (backOf (W := 0) (own_m2 l Z a0 hw [] w_NO w_NO w_UNKNOWN w_NO w_YES h0 n0 Z0 S_UNKNOWN S_NO S_YES) hZ (hw _ (List.mem_of_getElem? (i := 12) rfl)) (hw _ (List.mem_of_getElem? (i := 6) rfl)) (by decide) (by decide)) q109a q109c (g := (mkF m 12 #[.val (.int p1), .val (.int p2), .val (.ref w_NO), .val (.ref w_NO), .unset] [(.ref w_NO), (.ref w_NO)])) rfl (by rw [hml]; rfl) (Steps.refl _) (argsL := [(.ref w_NO)]) (rest := []) (lenOf own_pd1 rfl) rfl (by show 2 * 0 + _ ≤ _; exact Nat.le_of_eq rfl) (hb hby at_12) (fun _ _ => ⟨rfl, e104, (by decide : 0 + 0 ≤ _), (by decide : 0 + 0 ≤ _)⟩)
          dsimp only [Pt.U, Pt.locs, Pt.cells, Pt.slots] at X109 l109 y109 z109 st109 hQ109
          subst l109 y109 z109
          rw [show own_f2 w_NO w_NO w_UNKNOWN w_NO w_YES = w_NO from by unfold own_f2; rw [if_pos (show w_NO = w_NO from rfl)]] at hQ109
          obtain ⟨rfl, N109q, e109⟩ := hQ109
          have N109 := Fr.app N104 N109q
          have k110 : own_To p.tables e below (s₁.setTop (entryFrame m #[(.int p1), (.int p2)] maxLocals)) T109 (mkF m 15 #[.val (.int p1), .val (.int p2), .val (.ref w_NO), .val (.ref w_NO), .unset] [(.ref w_NO)]) := fun t k => k108 t (st109.trans k)
          have k111 : own_To p.tables e below (s₁.setTop (entryFrame m #[(.int p1), (.int p2)] maxLocals)) T109 (mkF m 17 #[.val (.int p1), .val (.int p2), .val (.ref w_NO), .val (.ref w_NO), .val (.ref w_NO)] []) := fun t k => k110 t (XS.astore X109.here hx rfl (hb hby at_15) rfl rfl (l' := #[.val (.int p1), .val (.int p2), .val (.ref w_NO), .val (.ref w_NO), .val (.ref w_NO)]) rfl k)
          have k112 : own_To p.tables e below (s₁.setTop (entryFrame m #[(.int p1), (.int p2)] maxLocals)) T109 (mkF m 19 #[.val (.int p1), .val (.int p2), .val (.ref w_NO), .val (.ref w_NO), .val (.ref w_NO)] [(.ref w_NO)]) := fun t k => k111 t (XS.aload X109.here hx rfl (hb hby at_17) rfl rfl k)
          obtain ⟨_, _, ⟨T113, L113, k113, n113⟩, -, X113, ⟨Lc113, hQ113, l113, y113, z113⟩, st113⟩ := Jvm.LawKit.callS X109 hx (y := (⟨"com/example/witness/witness/value/KnownAndPinLaw", "rank", "(Lcom/example/witness/witness/value/NormalForm$Known;)I"⟩ : MethodName)) hown (mvT hZ (hw _ (List.mem_of_getElem? (i := 18) rfl))) (mvT hZ (hw _ (List.mem_of_getElem? (i := 19) rfl))) (mvT hZ (hw _ (List.mem_of_getElem? (i := 2) rfl))) (mvT hZ (hw _ (List.mem_of_getElem? (i := 20) rfl))) (by decide) (backOf (W := 0) (own_m3 l Z a0 hw [] w_NO w_NO w_UNKNOWN w_YES h0 n0 Z0 S_NO S_UNKNOWN S_YES) hZ (hw _ (List.mem_of_getElem? (i := 20) rfl)) (hw _ (List.mem_of_getElem? (i := 2) rfl)) (by decide) (by decide)) (g := (mkF m 19 #[.val (.int p1), .val (.int p2), .val (.ref w_NO), .val (.ref w_NO), .val (.ref w_NO)] [(.ref w_NO)])) rfl (by rw [hml]; rfl) (argsL := [(.ref w_NO)]) (rest := []) (lenOf own_pd2 rfl) rfl (by show 2 * 0 + _ ≤ _; exact Nat.le_of_eq rfl) (hb hby at_19) (fun _ _ => ⟨rfl, e109, (by decide : 0 + 0 ≤ _), (by decide : 0 + 0 ≤ _)⟩)
          dsimp only [Pt.U, Pt.locs, Pt.cells, Pt.slots] at X113 l113 y113 z113 st113 hQ113
          subst l113 y113 z113
          rw [show own_f3 w_NO w_NO w_UNKNOWN w_YES = (0 : Int32) from by unfold own_f3; rw [if_pos (show w_NO = w_NO from rfl)]] at hQ113
          obtain ⟨rfl, N113q, e113⟩ := hQ113
          have N113 := Fr.app N109 N113q
          have k114 : own_To p.tables e below (s₁.setTop (entryFrame m #[(.int p1), (.int p2)] maxLocals)) T113 (mkF m 22 #[.val (.int p1), .val (.int p2), .val (.ref w_NO), .val (.ref w_NO), .val (.ref w_NO)] [(.int (0 : Int32))]) := fun t k => k112 t (st113 t k)
          have k115 : own_To p.tables e below (s₁.setTop (entryFrame m #[(.int p1), (.int p2)] maxLocals)) T113 (mkF m 23 #[.val (.int p1), .val (.int p2), .val (.ref w_NO), .val (.ref w_NO), .val (.ref w_NO)] [(.ref w_NO), (.int (0 : Int32))]) := fun t k => k114 t (XS.aloadN X113.here hx rfl (hb hby at_22) rfl rfl k)
          obtain ⟨_, _, ⟨T116, L116, k116, n116⟩, -, X116, ⟨Lc116, hQ116, l116, y116, z116⟩, st116⟩ := Jvm.LawKit.callS X113 hx (y := (⟨"com/example/witness/witness/value/KnownAndPinLaw", "rank", "(Lcom/example/witness/witness/value/NormalForm$Known;)I"⟩ : MethodName)) hown (mvT hZ (hw _ (List.mem_of_getElem? (i := 18) rfl))) (mvT hZ (hw _ (List.mem_of_getElem? (i := 19) rfl))) (mvT hZ (hw _ (List.mem_of_getElem? (i := 2) rfl))) (mvT hZ (hw _ (List.mem_of_getElem? (i := 20) rfl))) (by decide) (backOf (W := 1) (own_m3 l Z a0 hw [] w_NO w_NO w_UNKNOWN w_YES h0 n0 Z0 S_NO S_UNKNOWN S_YES) hZ (hw _ (List.mem_of_getElem? (i := 20) rfl)) (hw _ (List.mem_of_getElem? (i := 2) rfl)) (by decide) (by decide)) (g := (mkF m 23 #[.val (.int p1), .val (.int p2), .val (.ref w_NO), .val (.ref w_NO), .val (.ref w_NO)] [(.ref w_NO), (.int (0 : Int32))])) rfl (by rw [hml]; rfl) (argsL := [(.ref w_NO)]) (rest := [(.int (0 : Int32))]) (lenOf own_pd2 rfl) rfl (by show 2 * 0 + _ ≤ _; exact Nat.le_of_eq rfl) (hb hby at_23) (fun _ _ => ⟨rfl, e113, (by decide : 0 + 0 ≤ _), (by decide : 0 + 0 ≤ _)⟩)
          dsimp only [Pt.U, Pt.locs, Pt.cells, Pt.slots] at X116 l116 y116 z116 st116 hQ116
          subst l116 y116 z116
          rw [show own_f3 w_NO w_NO w_UNKNOWN w_YES = (0 : Int32) from by unfold own_f3; rw [if_pos (show w_NO = w_NO from rfl)]] at hQ116
          obtain ⟨rfl, N116q, e116⟩ := hQ116
          have N116 := Fr.app N113 N116q
          have k117 : own_To p.tables e below (s₁.setTop (entryFrame m #[(.int p1), (.int p2)] maxLocals)) T116 (mkF m 26 #[.val (.int p1), .val (.int p2), .val (.ref w_NO), .val (.ref w_NO), .val (.ref w_NO)] [(.int (0 : Int32)), (.int (0 : Int32))]) := fun t k => k115 t (st116 t k)
          have k118 : own_To p.tables e below (s₁.setTop (entryFrame m #[(.int p1), (.int p2)] maxLocals)) T116 (mkF m 27 #[.val (.int p1), .val (.int p2), .val (.ref w_NO), .val (.ref w_NO), .val (.ref w_NO)] [(.ref w_NO), (.int (0 : Int32)), (.int (0 : Int32))]) := fun t k => k117 t (XS.aloadN X116.here hx rfl (hb hby at_26) rfl rfl k)
          obtain ⟨_, _, ⟨T119, L119, k119, n119⟩, -, X119, ⟨Lc119, hQ119, l119, y119, z119⟩, st119⟩ := Jvm.LawKit.callS X116 hx (y := (⟨"com/example/witness/witness/value/KnownAndPinLaw", "rank", "(Lcom/example/witness/witness/value/NormalForm$Known;)I"⟩ : MethodName)) hown (mvT hZ (hw _ (List.mem_of_getElem? (i := 18) rfl))) (mvT hZ (hw _ (List.mem_of_getElem? (i := 19) rfl))) (mvT hZ (hw _ (List.mem_of_getElem? (i := 2) rfl))) (mvT hZ (hw _ (List.mem_of_getElem? (i := 20) rfl))) (by decide) (backOf (W := 2) (own_m3 l Z a0 hw [] w_NO w_NO w_UNKNOWN w_YES h0 n0 Z0 S_NO S_UNKNOWN S_YES) hZ (hw _ (List.mem_of_getElem? (i := 20) rfl)) (hw _ (List.mem_of_getElem? (i := 2) rfl)) (by decide) (by decide)) (g := (mkF m 27 #[.val (.int p1), .val (.int p2), .val (.ref w_NO), .val (.ref w_NO), .val (.ref w_NO)] [(.ref w_NO), (.int (0 : Int32)), (.int (0 : Int32))])) rfl (by rw [hml]; rfl) (argsL := [(.ref w_NO)]) (rest := [(.int (0 : Int32)), (.int (0 : Int32))]) (lenOf own_pd2 rfl) rfl (by show 2 * 0 + _ ≤ _; exact Nat.le_of_eq rfl) (hb hby at_27) (fun _ _ => ⟨rfl, e116, (by decide : 0 + 0 ≤ _), (by decide : 0 + 0 ≤ _)⟩)
          dsimp only [Pt.U, Pt.locs, Pt.cells, Pt.slots] at X119 l119 y119 z119 st119 hQ119
          subst l119 y119 z119
          rw [show own_f3 w_NO w_NO w_UNKNOWN w_YES = (0 : Int32) from by unfold own_f3; rw [if_pos (show w_NO = w_NO from rfl)]] at hQ119
          obtain ⟨rfl, N119q, e119⟩ := hQ119
          have N119 := Fr.app N116 N119q
          have k120 : own_To p.tables e below (s₁.setTop (entryFrame m #[(.int p1), (.int p2)] maxLocals)) T119 (mkF m 30 #[.val (.int p1), .val (.int p2), .val (.ref w_NO), .val (.ref w_NO), .val (.ref w_NO)] [(.int (0 : Int32)), (.int (0 : Int32)), (.int (0 : Int32))]) := fun t k => k118 t (st119 t k)
          obtain ⟨_, _, ⟨T121, L121, k121, n121⟩, -, X121, ⟨Lc121, hQ121, l121, y121, z121⟩, st121⟩ := Jvm.LawKit.callS X119 hx (y := (⟨"java/lang/Math", "min", "(II)I"⟩ : MethodName)) hown (mvT hZ (hw _ (List.mem_of_getElem? (i := 23) rfl))) (mvT hZ (hw _ (List.mem_of_getElem? (i := 24) rfl))) (mvT hZ (hw _ (List.mem_of_getElem? (i := 25) rfl))) (mvT hZ (hw _ (List.mem_of_getElem? (i := 26) rfl))) (by decide) (backOf (W := 1) (own_m4 l Z a0 hw [] (0 : Int32) (0 : Int32) h0 n0 Z0 ) hZ (hw _ (List.mem_of_getElem? (i := 26) rfl)) (hw _ (List.mem_of_getElem? (i := 25) rfl)) (by decide) (by decide)) (g := (mkF m 30 #[.val (.int p1), .val (.int p2), .val (.ref w_NO), .val (.ref w_NO), .val (.ref w_NO)] [(.int (0 : Int32)), (.int (0 : Int32)), (.int (0 : Int32))])) rfl (by rw [hml]; rfl) (argsL := [(.int (0 : Int32)), (.int (0 : Int32))]) (rest := [(.int (0 : Int32))]) (lenOf own_pd3 rfl) rfl (by show 2 * 0 + _ ≤ _; exact Nat.le_of_eq rfl) (hb hby at_30) (fun _ _ => ⟨rfl, e119, (by decide : 0 + 0 ≤ _), (by decide : 0 + 0 ≤ _)⟩)
          dsimp only [Pt.U, Pt.locs, Pt.cells, Pt.slots] at X121 l121 y121 z121 st121 hQ121
          subst l121 y121 z121
          rw [show own_f4 (0 : Int32) (0 : Int32) = (0 : Int32) from by unfold own_f4; rw [if_neg (show ¬ ((0 : Int32) < (0 : Int32)) from (by decide))]] at hQ121
          obtain ⟨rfl, N121q, e121⟩ := hQ121
          have N121 := Fr.app N119 N121q
          have k122 : own_To p.tables e below (s₁.setTop (entryFrame m #[(.int p1), (.int p2)] maxLocals)) T121 (mkF m 33 #[.val (.int p1), .val (.int p2), .val (.ref w_NO), .val (.ref w_NO), .val (.ref w_NO)] [(.int (0 : Int32)), (.int (0 : Int32))]) := fun t k => k120 t (st121 t k)
          have k123 : own_To p.tables e below (s₁.setTop (entryFrame m #[(.int p1), (.int p2)] maxLocals)) T121 (mkF m 36 #[.val (.int p1), .val (.int p2), .val (.ref w_NO), .val (.ref w_NO), .val (.ref w_NO)] []) := fun t k => k122 t (XS.icmpNo X121.here hx rfl (hb hby at_33) rfl (teq (show (0 : Int32) = (0 : Int32) from (by decide))).2 k)
          have k124 : own_To p.tables e below (s₁.setTop (entryFrame m #[(.int p1), (.int p2)] maxLocals)) T121 (mkF m 37 #[.val (.int p1), .val (.int p2), .val (.ref w_NO), .val (.ref w_NO), .val (.ref w_NO)] [(.int (1 : Int32))]) := fun t k => k123 t (XS.iconst X121.here hx rfl (hb hby at_36) k)
          have k125 : own_To p.tables e below (s₁.setTop (entryFrame m #[(.int p1), (.int p2)] maxLocals)) T121 (mkF m 41 #[.val (.int p1), .val (.int p2), .val (.ref w_NO), .val (.ref w_NO), .val (.ref w_NO)] [(.int (1 : Int32))]) := fun t k => k124 t (XS.goto X121.here hx rfl (pc0 := 37) (pc' := 41) rfl (hb hby at_37) (by decide) (by decide) k)
          obtain ⟨fs, hr, hrun, hended, hW, hsame⟩ := X121.leave (v := some (.int (1 : Int32))) (fun h => by rw [Bd.returns] at h; cases h)
          refine ⟨_, _, k125 _ ?_, hrun, hended, _, _, rfl, ?_, ⟨_, rfl⟩, hW, hsame.mono (by decide) (by decide)⟩
          · exact retN X121 hx (t := .boolean) Bd.returns (by simp) (hb hby at_41) hr
          · exact ⟨rfl, N121⟩
        · obtain ⟨_, _, ⟨T126, L126, k126, n126⟩, -, X126, ⟨Lc126, hQ126, l126, y126, z126⟩, st126⟩ := Jvm.LawKit.callS X76 hx (y := (⟨"com/example/witness/witness/value/KnownAndPinLaw", "pick", "(I)Lcom/example/witness/witness/value/NormalForm$Known;"⟩ : MethodName)) hown (mvT hZ (hw _ (List.mem_of_getElem? (i := 0) rfl))) (mvT hZ (hw _ (List.mem_of_getElem? (i := 1) rfl))) (mvT hZ (hw _ (List.mem_of_getElem? (i := 2) rfl))) (mvT hZ (hw _ (List.mem_of_getElem? (i := 3) rfl))) (by decide) (backOf (W := 0) (own_m1 l Z a0 hw [] p2 w_YES w_NO w_UNKNOWN h0 n0 Z0 S_YES S_NO S_UNKNOWN) hZ (hw _ (List.mem_of_getElem? (i := 3) rfl)) (hw _ (List.mem_of_getElem? (i := 2) rfl)) (by decide) (by decide)) (g := (mkF m 6 #[.val (.int p1), .val (.int p2), .val (.ref w_NO), .unset, .unset] [(.int p2)])) rfl (by rw [hml]; rfl) (argsL := [(.int p2)]) (rest := []) (lenOf own_pd0 rfl) rfl (by show 2 * 0 + _ ≤ _; exact Nat.le_of_eq rfl) (hb hby at_6) (fun _ _ => ⟨rfl, e76, (by decide : 0 + 0 ≤ _), (by decide : 0 + 0 ≤ _)⟩)
          dsimp only [Pt.U, Pt.locs, Pt.cells, Pt.slots] at X126 l126 y126 z126 st126 hQ126
          subst l126 y126 z126
          rw [show own_f1 p2 w_YES w_NO w_UNKNOWN = w_UNKNOWN from by unfold own_f1; rw [if_neg (show ¬ (((p2 &&& (2147483647 : Int32)) % (3 : Int32)) = (0 : Int32)) from hc80), if_neg (show ¬ (((p2 &&& (2147483647 : Int32)) % (3 : Int32)) = (1 : Int32)) from hc103)]] at hQ126
          obtain ⟨rfl, N126q, e126⟩ := hQ126
          have N126 := Fr.app N76 N126q
          have k127 : own_To p.tables e below (s₁.setTop (entryFrame m #[(.int p1), (.int p2)] maxLocals)) T126 (mkF m 9 #[.val (.int p1), .val (.int p2), .val (.ref w_NO), .unset, .unset] [(.ref w_UNKNOWN)]) := fun t k => k79 t (st126 t k)
          have k128 : own_To p.tables e below (s₁.setTop (entryFrame m #[(.int p1), (.int p2)] maxLocals)) T126 (mkF m 10 #[.val (.int p1), .val (.int p2), .val (.ref w_NO), .val (.ref w_UNKNOWN), .unset] []) := fun t k => k127 t (XS.astoreN X126.here hx rfl (hb hby at_9) rfl rfl (l' := #[.val (.int p1), .val (.int p2), .val (.ref w_NO), .val (.ref w_UNKNOWN), .unset]) rfl k)
          have k129 : own_To p.tables e below (s₁.setTop (entryFrame m #[(.int p1), (.int p2)] maxLocals)) T126 (mkF m 11 #[.val (.int p1), .val (.int p2), .val (.ref w_NO), .val (.ref w_UNKNOWN), .unset] [(.ref w_NO)]) := fun t k => k128 t (XS.aloadN X126.here hx rfl (hb hby at_10) rfl rfl k)
          have k130 : own_To p.tables e below (s₁.setTop (entryFrame m #[(.int p1), (.int p2)] maxLocals)) T126 (mkF m 12 #[.val (.int p1), .val (.int p2), .val (.ref w_NO), .val (.ref w_UNKNOWN), .unset] [(.ref w_UNKNOWN), (.ref w_NO)]) := fun t k => k129 t (XS.aloadN X126.here hx rfl (hb hby at_11) rfl rfl k)
          obtain ⟨cq131, kq131, q131a, q131b, q131c⟩ := isOf hZ e126 E_w_NO
          obtain ⟨_, _, ⟨T131, L131, k131, n131⟩, -, X131, ⟨Lc131, hQ131, l131, y131, z131⟩, st131⟩ := X126.virtualBack hx (y := (⟨"com/example/witness/witness/value/NormalForm$Known", "and", "(Lcom/example/witness/witness/value/NormalForm$Known;)Lcom/example/witness/witness/value/NormalForm$Known;"⟩ : MethodName)) (z := (⟨"com/example/witness/witness/value/NormalForm$Known", "and", "(Lcom/example/witness/witness/value/NormalForm$Known;)Lcom/example/witness/witness/value/NormalForm$Known;"⟩ : MethodName)) hown (mvT hZ (hw _ (List.mem_of_getElem? (i := 8) rfl))) (mvT hZ (hw _ (List.mem_of_getElem? (i := 9) rfl))) (notFace_of_selects (args := #[]) (mvT hZ (hw _ (List.mem_of_getElem? (i := 11) rfl)))) (mvT hZ (hw _ (List.mem_of_getElem? (i := 11) rfl))) (mvT hZ (hw _ (List.mem_of_getElem? (i := 10) rfl))) (by decide) (backOf (W := 0) (own_m2 l Z a0 hw [] w_NO w_UNKNOWN w_UNKNOWN w_NO w_YES h0 n0 Z0 S_UNKNOWN S_NO S_YES) hZ (hw _ (List.mem_of_getElem? (i := 12) rfl)) (hw _ (List.mem_of_getElem? (i := 6) rfl)) (by decide) (by decide)) q131a q131c (g := (mkF m 12 #[.val (.int p1), .val (.int p2), .val (.ref w_NO), .val (.ref w_UNKNOWN), .unset] [(.ref w_UNKNOWN), (.ref w_NO)])) rfl (by rw [hml]; rfl) (Steps.refl _) (argsL := [(.ref w_UNKNOWN)]) (rest := []) (lenOf own_pd1 rfl) rfl (by show 2 * 0 + _ ≤ _; exact Nat.le_of_eq rfl) (hb hby at_12) (fun _ _ => ⟨rfl, e126, (by decide : 0 + 0 ≤ _), (by decide : 0 + 0 ≤ _)⟩)
          dsimp only [Pt.U, Pt.locs, Pt.cells, Pt.slots] at X131 l131 y131 z131 st131 hQ131
          subst l131 y131 z131
          rw [show own_f2 w_NO w_UNKNOWN w_UNKNOWN w_NO w_YES = w_NO from by unfold own_f2; rw [if_pos (show w_NO = w_NO from rfl)]] at hQ131
          obtain ⟨rfl, N131q, e131⟩ := hQ131
          have N131 := Fr.app N126 N131q
          have k132 : own_To p.tables e below (s₁.setTop (entryFrame m #[(.int p1), (.int p2)] maxLocals)) T131 (mkF m 15 #[.val (.int p1), .val (.int p2), .val (.ref w_NO), .val (.ref w_UNKNOWN), .unset] [(.ref w_NO)]) := fun t k => k130 t (st131.trans k)
          have k133 : own_To p.tables e below (s₁.setTop (entryFrame m #[(.int p1), (.int p2)] maxLocals)) T131 (mkF m 17 #[.val (.int p1), .val (.int p2), .val (.ref w_NO), .val (.ref w_UNKNOWN), .val (.ref w_NO)] []) := fun t k => k132 t (XS.astore X131.here hx rfl (hb hby at_15) rfl rfl (l' := #[.val (.int p1), .val (.int p2), .val (.ref w_NO), .val (.ref w_UNKNOWN), .val (.ref w_NO)]) rfl k)
          have k134 : own_To p.tables e below (s₁.setTop (entryFrame m #[(.int p1), (.int p2)] maxLocals)) T131 (mkF m 19 #[.val (.int p1), .val (.int p2), .val (.ref w_NO), .val (.ref w_UNKNOWN), .val (.ref w_NO)] [(.ref w_NO)]) := fun t k => k133 t (XS.aload X131.here hx rfl (hb hby at_17) rfl rfl k)
          obtain ⟨_, _, ⟨T135, L135, k135, n135⟩, -, X135, ⟨Lc135, hQ135, l135, y135, z135⟩, st135⟩ := Jvm.LawKit.callS X131 hx (y := (⟨"com/example/witness/witness/value/KnownAndPinLaw", "rank", "(Lcom/example/witness/witness/value/NormalForm$Known;)I"⟩ : MethodName)) hown (mvT hZ (hw _ (List.mem_of_getElem? (i := 18) rfl))) (mvT hZ (hw _ (List.mem_of_getElem? (i := 19) rfl))) (mvT hZ (hw _ (List.mem_of_getElem? (i := 2) rfl))) (mvT hZ (hw _ (List.mem_of_getElem? (i := 20) rfl))) (by decide) (backOf (W := 0) (own_m3 l Z a0 hw [] w_NO w_NO w_UNKNOWN w_YES h0 n0 Z0 S_NO S_UNKNOWN S_YES) hZ (hw _ (List.mem_of_getElem? (i := 20) rfl)) (hw _ (List.mem_of_getElem? (i := 2) rfl)) (by decide) (by decide)) (g := (mkF m 19 #[.val (.int p1), .val (.int p2), .val (.ref w_NO), .val (.ref w_UNKNOWN), .val (.ref w_NO)] [(.ref w_NO)])) rfl (by rw [hml]; rfl) (argsL := [(.ref w_NO)]) (rest := []) (lenOf own_pd2 rfl) rfl (by show 2 * 0 + _ ≤ _; exact Nat.le_of_eq rfl) (hb hby at_19) (fun _ _ => ⟨rfl, e131, (by decide : 0 + 0 ≤ _), (by decide : 0 + 0 ≤ _)⟩)
          dsimp only [Pt.U, Pt.locs, Pt.cells, Pt.slots] at X135 l135 y135 z135 st135 hQ135
          subst l135 y135 z135
          rw [show own_f3 w_NO w_NO w_UNKNOWN w_YES = (0 : Int32) from by unfold own_f3; rw [if_pos (show w_NO = w_NO from rfl)]] at hQ135
          obtain ⟨rfl, N135q, e135⟩ := hQ135
          have N135 := Fr.app N131 N135q
          have k136 : own_To p.tables e below (s₁.setTop (entryFrame m #[(.int p1), (.int p2)] maxLocals)) T135 (mkF m 22 #[.val (.int p1), .val (.int p2), .val (.ref w_NO), .val (.ref w_UNKNOWN), .val (.ref w_NO)] [(.int (0 : Int32))]) := fun t k => k134 t (st135 t k)
          have k137 : own_To p.tables e below (s₁.setTop (entryFrame m #[(.int p1), (.int p2)] maxLocals)) T135 (mkF m 23 #[.val (.int p1), .val (.int p2), .val (.ref w_NO), .val (.ref w_UNKNOWN), .val (.ref w_NO)] [(.ref w_NO), (.int (0 : Int32))]) := fun t k => k136 t (XS.aloadN X135.here hx rfl (hb hby at_22) rfl rfl k)
          obtain ⟨_, _, ⟨T138, L138, k138, n138⟩, -, X138, ⟨Lc138, hQ138, l138, y138, z138⟩, st138⟩ := Jvm.LawKit.callS X135 hx (y := (⟨"com/example/witness/witness/value/KnownAndPinLaw", "rank", "(Lcom/example/witness/witness/value/NormalForm$Known;)I"⟩ : MethodName)) hown (mvT hZ (hw _ (List.mem_of_getElem? (i := 18) rfl))) (mvT hZ (hw _ (List.mem_of_getElem? (i := 19) rfl))) (mvT hZ (hw _ (List.mem_of_getElem? (i := 2) rfl))) (mvT hZ (hw _ (List.mem_of_getElem? (i := 20) rfl))) (by decide) (backOf (W := 1) (own_m3 l Z a0 hw [] w_NO w_NO w_UNKNOWN w_YES h0 n0 Z0 S_NO S_UNKNOWN S_YES) hZ (hw _ (List.mem_of_getElem? (i := 20) rfl)) (hw _ (List.mem_of_getElem? (i := 2) rfl)) (by decide) (by decide)) (g := (mkF m 23 #[.val (.int p1), .val (.int p2), .val (.ref w_NO), .val (.ref w_UNKNOWN), .val (.ref w_NO)] [(.ref w_NO), (.int (0 : Int32))])) rfl (by rw [hml]; rfl) (argsL := [(.ref w_NO)]) (rest := [(.int (0 : Int32))]) (lenOf own_pd2 rfl) rfl (by show 2 * 0 + _ ≤ _; exact Nat.le_of_eq rfl) (hb hby at_23) (fun _ _ => ⟨rfl, e135, (by decide : 0 + 0 ≤ _), (by decide : 0 + 0 ≤ _)⟩)
          dsimp only [Pt.U, Pt.locs, Pt.cells, Pt.slots] at X138 l138 y138 z138 st138 hQ138
          subst l138 y138 z138
          rw [show own_f3 w_NO w_NO w_UNKNOWN w_YES = (0 : Int32) from by unfold own_f3; rw [if_pos (show w_NO = w_NO from rfl)]] at hQ138
          obtain ⟨rfl, N138q, e138⟩ := hQ138
          have N138 := Fr.app N135 N138q
          have k139 : own_To p.tables e below (s₁.setTop (entryFrame m #[(.int p1), (.int p2)] maxLocals)) T138 (mkF m 26 #[.val (.int p1), .val (.int p2), .val (.ref w_NO), .val (.ref w_UNKNOWN), .val (.ref w_NO)] [(.int (0 : Int32)), (.int (0 : Int32))]) := fun t k => k137 t (st138 t k)
          have k140 : own_To p.tables e below (s₁.setTop (entryFrame m #[(.int p1), (.int p2)] maxLocals)) T138 (mkF m 27 #[.val (.int p1), .val (.int p2), .val (.ref w_NO), .val (.ref w_UNKNOWN), .val (.ref w_NO)] [(.ref w_UNKNOWN), (.int (0 : Int32)), (.int (0 : Int32))]) := fun t k => k139 t (XS.aloadN X138.here hx rfl (hb hby at_26) rfl rfl k)
          obtain ⟨_, _, ⟨T141, L141, k141, n141⟩, -, X141, ⟨Lc141, hQ141, l141, y141, z141⟩, st141⟩ := Jvm.LawKit.callS X138 hx (y := (⟨"com/example/witness/witness/value/KnownAndPinLaw", "rank", "(Lcom/example/witness/witness/value/NormalForm$Known;)I"⟩ : MethodName)) hown (mvT hZ (hw _ (List.mem_of_getElem? (i := 18) rfl))) (mvT hZ (hw _ (List.mem_of_getElem? (i := 19) rfl))) (mvT hZ (hw _ (List.mem_of_getElem? (i := 2) rfl))) (mvT hZ (hw _ (List.mem_of_getElem? (i := 20) rfl))) (by decide) (backOf (W := 2) (own_m3 l Z a0 hw [] w_UNKNOWN w_NO w_UNKNOWN w_YES h0 n0 Z0 S_NO S_UNKNOWN S_YES) hZ (hw _ (List.mem_of_getElem? (i := 20) rfl)) (hw _ (List.mem_of_getElem? (i := 2) rfl)) (by decide) (by decide)) (g := (mkF m 27 #[.val (.int p1), .val (.int p2), .val (.ref w_NO), .val (.ref w_UNKNOWN), .val (.ref w_NO)] [(.ref w_UNKNOWN), (.int (0 : Int32)), (.int (0 : Int32))])) rfl (by rw [hml]; rfl) (argsL := [(.ref w_UNKNOWN)]) (rest := [(.int (0 : Int32)), (.int (0 : Int32))]) (lenOf own_pd2 rfl) rfl (by show 2 * 0 + _ ≤ _; exact Nat.le_of_eq rfl) (hb hby at_27) (fun _ _ => ⟨rfl, e138, (by decide : 0 + 0 ≤ _), (by decide : 0 + 0 ≤ _)⟩)
          dsimp only [Pt.U, Pt.locs, Pt.cells, Pt.slots] at X141 l141 y141 z141 st141 hQ141
          subst l141 y141 z141
          rw [show own_f3 w_UNKNOWN w_NO w_UNKNOWN w_YES = (1 : Int32) from by unfold own_f3; rw [if_neg (show ¬ (w_UNKNOWN = w_NO) from (fun q => ne_NO_UNKNOWN (Eq.symm q))), if_pos (show w_UNKNOWN = w_UNKNOWN from rfl)]] at hQ141
          obtain ⟨rfl, N141q, e141⟩ := hQ141
          have N141 := Fr.app N138 N141q
          have k142 : own_To p.tables e below (s₁.setTop (entryFrame m #[(.int p1), (.int p2)] maxLocals)) T141 (mkF m 30 #[.val (.int p1), .val (.int p2), .val (.ref w_NO), .val (.ref w_UNKNOWN), .val (.ref w_NO)] [(.int (1 : Int32)), (.int (0 : Int32)), (.int (0 : Int32))]) := fun t k => k140 t (st141 t k)
          obtain ⟨_, _, ⟨T143, L143, k143, n143⟩, -, X143, ⟨Lc143, hQ143, l143, y143, z143⟩, st143⟩ := Jvm.LawKit.callS X141 hx (y := (⟨"java/lang/Math", "min", "(II)I"⟩ : MethodName)) hown (mvT hZ (hw _ (List.mem_of_getElem? (i := 23) rfl))) (mvT hZ (hw _ (List.mem_of_getElem? (i := 24) rfl))) (mvT hZ (hw _ (List.mem_of_getElem? (i := 25) rfl))) (mvT hZ (hw _ (List.mem_of_getElem? (i := 26) rfl))) (by decide) (backOf (W := 1) (own_m4 l Z a0 hw [] (0 : Int32) (1 : Int32) h0 n0 Z0 ) hZ (hw _ (List.mem_of_getElem? (i := 26) rfl)) (hw _ (List.mem_of_getElem? (i := 25) rfl)) (by decide) (by decide)) (g := (mkF m 30 #[.val (.int p1), .val (.int p2), .val (.ref w_NO), .val (.ref w_UNKNOWN), .val (.ref w_NO)] [(.int (1 : Int32)), (.int (0 : Int32)), (.int (0 : Int32))])) rfl (by rw [hml]; rfl) (argsL := [(.int (0 : Int32)), (.int (1 : Int32))]) (rest := [(.int (0 : Int32))]) (lenOf own_pd3 rfl) rfl (by show 2 * 0 + _ ≤ _; exact Nat.le_of_eq rfl) (hb hby at_30) (fun _ _ => ⟨rfl, e141, (by decide : 0 + 0 ≤ _), (by decide : 0 + 0 ≤ _)⟩)
          dsimp only [Pt.U, Pt.locs, Pt.cells, Pt.slots] at X143 l143 y143 z143 st143 hQ143
          subst l143 y143 z143
          rw [show own_f4 (0 : Int32) (1 : Int32) = (0 : Int32) from by unfold own_f4; rw [if_neg (show ¬ ((1 : Int32) < (0 : Int32)) from (by decide))]] at hQ143
          obtain ⟨rfl, N143q, e143⟩ := hQ143
          have N143 := Fr.app N141 N143q
          have k144 : own_To p.tables e below (s₁.setTop (entryFrame m #[(.int p1), (.int p2)] maxLocals)) T143 (mkF m 33 #[.val (.int p1), .val (.int p2), .val (.ref w_NO), .val (.ref w_UNKNOWN), .val (.ref w_NO)] [(.int (0 : Int32)), (.int (0 : Int32))]) := fun t k => k142 t (st143 t k)
          have k145 : own_To p.tables e below (s₁.setTop (entryFrame m #[(.int p1), (.int p2)] maxLocals)) T143 (mkF m 36 #[.val (.int p1), .val (.int p2), .val (.ref w_NO), .val (.ref w_UNKNOWN), .val (.ref w_NO)] []) := fun t k => k144 t (XS.icmpNo X143.here hx rfl (hb hby at_33) rfl (teq (show (0 : Int32) = (0 : Int32) from (by decide))).2 k)
          have k146 : own_To p.tables e below (s₁.setTop (entryFrame m #[(.int p1), (.int p2)] maxLocals)) T143 (mkF m 37 #[.val (.int p1), .val (.int p2), .val (.ref w_NO), .val (.ref w_UNKNOWN), .val (.ref w_NO)] [(.int (1 : Int32))]) := fun t k => k145 t (XS.iconst X143.here hx rfl (hb hby at_36) k)
          have k147 : own_To p.tables e below (s₁.setTop (entryFrame m #[(.int p1), (.int p2)] maxLocals)) T143 (mkF m 41 #[.val (.int p1), .val (.int p2), .val (.ref w_NO), .val (.ref w_UNKNOWN), .val (.ref w_NO)] [(.int (1 : Int32))]) := fun t k => k146 t (XS.goto X143.here hx rfl (pc0 := 37) (pc' := 41) rfl (hb hby at_37) (by decide) (by decide) k)
          obtain ⟨fs, hr, hrun, hended, hW, hsame⟩ := X143.leave (v := some (.int (1 : Int32))) (fun h => by rw [Bd.returns] at h; cases h)
          refine ⟨_, _, k147 _ ?_, hrun, hended, _, _, rfl, ?_, ⟨_, rfl⟩, hW, hsame.mono (by decide) (by decide)⟩
          · exact retN X143 hx (t := .boolean) Bd.returns (by simp) (hb hby at_41) hr
          · exact ⟨rfl, N143⟩
    · obtain ⟨_, _, ⟨T148, L148, k148, n148⟩, -, X148, ⟨Lc148, hQ148, l148, y148, z148⟩, st148⟩ := Jvm.LawKit.callS X0 hx (y := (⟨"com/example/witness/witness/value/KnownAndPinLaw", "pick", "(I)Lcom/example/witness/witness/value/NormalForm$Known;"⟩ : MethodName)) hown (mvT hZ (hw _ (List.mem_of_getElem? (i := 0) rfl))) (mvT hZ (hw _ (List.mem_of_getElem? (i := 1) rfl))) (mvT hZ (hw _ (List.mem_of_getElem? (i := 2) rfl))) (mvT hZ (hw _ (List.mem_of_getElem? (i := 3) rfl))) (by decide) (backOf (W := 0) (own_m1 l Z a0 hw [] p1 w_YES w_NO w_UNKNOWN h0 n0 Z0 S_YES S_NO S_UNKNOWN) hZ (hw _ (List.mem_of_getElem? (i := 3) rfl)) (hw _ (List.mem_of_getElem? (i := 2) rfl)) (by decide) (by decide)) (g := (mkF m 1 #[.val (.int p1), .val (.int p2), .unset, .unset, .unset] [(.int p1)])) rfl (by rw [hml]; rfl) (argsL := [(.int p1)]) (rest := []) (lenOf own_pd0 rfl) rfl (by show 2 * 0 + _ ≤ _; exact Nat.le_of_eq rfl) (hb hby at_1) (fun _ _ => ⟨rfl, e0, (by decide : 0 + 0 ≤ _), (by decide : 0 + 0 ≤ _)⟩)
      dsimp only [Pt.U, Pt.locs, Pt.cells, Pt.slots] at X148 l148 y148 z148 st148 hQ148
      subst l148 y148 z148
      rw [show own_f1 p1 w_YES w_NO w_UNKNOWN = w_UNKNOWN from by unfold own_f1; rw [if_neg (show ¬ (((p1 &&& (2147483647 : Int32)) % (3 : Int32)) = (0 : Int32)) from hc2), if_neg (show ¬ (((p1 &&& (2147483647 : Int32)) % (3 : Int32)) = (1 : Int32)) from hc75)]] at hQ148
      obtain ⟨rfl, N148q, e148⟩ := hQ148
      have N148 := Fr.app N0 N148q
      have k149 : own_To p.tables e below (s₁.setTop (entryFrame m #[(.int p1), (.int p2)] maxLocals)) T148 (mkF m 4 #[.val (.int p1), .val (.int p2), .unset, .unset, .unset] [(.ref w_UNKNOWN)]) := fun t k => k1 t (st148 t k)
      have k150 : own_To p.tables e below (s₁.setTop (entryFrame m #[(.int p1), (.int p2)] maxLocals)) T148 (mkF m 5 #[.val (.int p1), .val (.int p2), .val (.ref w_UNKNOWN), .unset, .unset] []) := fun t k => k149 t (XS.astoreN X148.here hx rfl (hb hby at_4) rfl rfl (l' := #[.val (.int p1), .val (.int p2), .val (.ref w_UNKNOWN), .unset, .unset]) rfl k)
      have k151 : own_To p.tables e below (s₁.setTop (entryFrame m #[(.int p1), (.int p2)] maxLocals)) T148 (mkF m 6 #[.val (.int p1), .val (.int p2), .val (.ref w_UNKNOWN), .unset, .unset] [(.int p2)]) := fun t k => k150 t (XS.iloadN X148.here hx rfl (hb hby at_5) rfl k)
      by_cases hc152 : ((p2 &&& (2147483647 : Int32)) % (3 : Int32)) = (0 : Int32)
      · obtain ⟨_, _, ⟨T153, L153, k153, n153⟩, -, X153, ⟨Lc153, hQ153, l153, y153, z153⟩, st153⟩ := Jvm.LawKit.callS X148 hx (y := (⟨"com/example/witness/witness/value/KnownAndPinLaw", "pick", "(I)Lcom/example/witness/witness/value/NormalForm$Known;"⟩ : MethodName)) hown (mvT hZ (hw _ (List.mem_of_getElem? (i := 0) rfl))) (mvT hZ (hw _ (List.mem_of_getElem? (i := 1) rfl))) (mvT hZ (hw _ (List.mem_of_getElem? (i := 2) rfl))) (mvT hZ (hw _ (List.mem_of_getElem? (i := 3) rfl))) (by decide) (backOf (W := 0) (own_m1 l Z a0 hw [] p2 w_YES w_NO w_UNKNOWN h0 n0 Z0 S_YES S_NO S_UNKNOWN) hZ (hw _ (List.mem_of_getElem? (i := 3) rfl)) (hw _ (List.mem_of_getElem? (i := 2) rfl)) (by decide) (by decide)) (g := (mkF m 6 #[.val (.int p1), .val (.int p2), .val (.ref w_UNKNOWN), .unset, .unset] [(.int p2)])) rfl (by rw [hml]; rfl) (argsL := [(.int p2)]) (rest := []) (lenOf own_pd0 rfl) rfl (by show 2 * 0 + _ ≤ _; exact Nat.le_of_eq rfl) (hb hby at_6) (fun _ _ => ⟨rfl, e148, (by decide : 0 + 0 ≤ _), (by decide : 0 + 0 ≤ _)⟩)
        dsimp only [Pt.U, Pt.locs, Pt.cells, Pt.slots] at X153 l153 y153 z153 st153 hQ153
        subst l153 y153 z153
        rw [show own_f1 p2 w_YES w_NO w_UNKNOWN = w_YES from by unfold own_f1; rw [if_pos (show ((p2 &&& (2147483647 : Int32)) % (3 : Int32)) = (0 : Int32) from hc152)]] at hQ153
        obtain ⟨rfl, N153q, e153⟩ := hQ153
        have N153 := Fr.app N148 N153q
        have k154 : own_To p.tables e below (s₁.setTop (entryFrame m #[(.int p1), (.int p2)] maxLocals)) T153 (mkF m 9 #[.val (.int p1), .val (.int p2), .val (.ref w_UNKNOWN), .unset, .unset] [(.ref w_YES)]) := fun t k => k151 t (st153 t k)
        have k155 : own_To p.tables e below (s₁.setTop (entryFrame m #[(.int p1), (.int p2)] maxLocals)) T153 (mkF m 10 #[.val (.int p1), .val (.int p2), .val (.ref w_UNKNOWN), .val (.ref w_YES), .unset] []) := fun t k => k154 t (XS.astoreN X153.here hx rfl (hb hby at_9) rfl rfl (l' := #[.val (.int p1), .val (.int p2), .val (.ref w_UNKNOWN), .val (.ref w_YES), .unset]) rfl k)
        have k156 : own_To p.tables e below (s₁.setTop (entryFrame m #[(.int p1), (.int p2)] maxLocals)) T153 (mkF m 11 #[.val (.int p1), .val (.int p2), .val (.ref w_UNKNOWN), .val (.ref w_YES), .unset] [(.ref w_UNKNOWN)]) := fun t k => k155 t (XS.aloadN X153.here hx rfl (hb hby at_10) rfl rfl k)
        have k157 : own_To p.tables e below (s₁.setTop (entryFrame m #[(.int p1), (.int p2)] maxLocals)) T153 (mkF m 12 #[.val (.int p1), .val (.int p2), .val (.ref w_UNKNOWN), .val (.ref w_YES), .unset] [(.ref w_YES), (.ref w_UNKNOWN)]) := fun t k => k156 t (XS.aloadN X153.here hx rfl (hb hby at_11) rfl rfl k)
        obtain ⟨cq158, kq158, q158a, q158b, q158c⟩ := isOf hZ e153 E_w_UNKNOWN
        obtain ⟨_, _, ⟨T158, L158, k158, n158⟩, -, X158, ⟨Lc158, hQ158, l158, y158, z158⟩, st158⟩ := X153.virtualBack hx (y := (⟨"com/example/witness/witness/value/NormalForm$Known", "and", "(Lcom/example/witness/witness/value/NormalForm$Known;)Lcom/example/witness/witness/value/NormalForm$Known;"⟩ : MethodName)) (z := (⟨"com/example/witness/witness/value/NormalForm$Known", "and", "(Lcom/example/witness/witness/value/NormalForm$Known;)Lcom/example/witness/witness/value/NormalForm$Known;"⟩ : MethodName)) hown (mvT hZ (hw _ (List.mem_of_getElem? (i := 8) rfl))) (mvT hZ (hw _ (List.mem_of_getElem? (i := 9) rfl))) (notFace_of_selects (args := #[]) (mvT hZ (hw _ (List.mem_of_getElem? (i := 11) rfl)))) (mvT hZ (hw _ (List.mem_of_getElem? (i := 11) rfl))) (mvT hZ (hw _ (List.mem_of_getElem? (i := 10) rfl))) (by decide) (backOf (W := 0) (own_m2 l Z a0 hw [] w_UNKNOWN w_YES w_UNKNOWN w_NO w_YES h0 n0 Z0 S_UNKNOWN S_NO S_YES) hZ (hw _ (List.mem_of_getElem? (i := 12) rfl)) (hw _ (List.mem_of_getElem? (i := 6) rfl)) (by decide) (by decide)) q158a q158c (g := (mkF m 12 #[.val (.int p1), .val (.int p2), .val (.ref w_UNKNOWN), .val (.ref w_YES), .unset] [(.ref w_YES), (.ref w_UNKNOWN)])) rfl (by rw [hml]; rfl) (Steps.refl _) (argsL := [(.ref w_YES)]) (rest := []) (lenOf own_pd1 rfl) rfl (by show 2 * 0 + _ ≤ _; exact Nat.le_of_eq rfl) (hb hby at_12) (fun _ _ => ⟨rfl, e153, (by decide : 0 + 0 ≤ _), (by decide : 0 + 0 ≤ _)⟩)
        dsimp only [Pt.U, Pt.locs, Pt.cells, Pt.slots] at X158 l158 y158 z158 st158 hQ158
        subst l158 y158 z158
        rw [show own_f2 w_UNKNOWN w_YES w_UNKNOWN w_NO w_YES = w_UNKNOWN from by unfold own_f2; rw [if_neg (show ¬ (w_UNKNOWN = w_NO) from (fun q => ne_NO_UNKNOWN (Eq.symm q))), if_neg (show ¬ (w_YES = w_NO) from ne_YES_NO), if_neg (show ¬ (w_UNKNOWN = w_YES) from (fun q => ne_YES_UNKNOWN (Eq.symm q)))]] at hQ158
        obtain ⟨rfl, N158q, e158⟩ := hQ158
        have N158 := Fr.app N153 N158q
        have k159 : own_To p.tables e below (s₁.setTop (entryFrame m #[(.int p1), (.int p2)] maxLocals)) T158 (mkF m 15 #[.val (.int p1), .val (.int p2), .val (.ref w_UNKNOWN), .val (.ref w_YES), .unset] [(.ref w_UNKNOWN)]) := fun t k => k157 t (st158.trans k)
        have k160 : own_To p.tables e below (s₁.setTop (entryFrame m #[(.int p1), (.int p2)] maxLocals)) T158 (mkF m 17 #[.val (.int p1), .val (.int p2), .val (.ref w_UNKNOWN), .val (.ref w_YES), .val (.ref w_UNKNOWN)] []) := fun t k => k159 t (XS.astore X158.here hx rfl (hb hby at_15) rfl rfl (l' := #[.val (.int p1), .val (.int p2), .val (.ref w_UNKNOWN), .val (.ref w_YES), .val (.ref w_UNKNOWN)]) rfl k)
        have k161 : own_To p.tables e below (s₁.setTop (entryFrame m #[(.int p1), (.int p2)] maxLocals)) T158 (mkF m 19 #[.val (.int p1), .val (.int p2), .val (.ref w_UNKNOWN), .val (.ref w_YES), .val (.ref w_UNKNOWN)] [(.ref w_UNKNOWN)]) := fun t k => k160 t (XS.aload X158.here hx rfl (hb hby at_17) rfl rfl k)
        obtain ⟨_, _, ⟨T162, L162, k162, n162⟩, -, X162, ⟨Lc162, hQ162, l162, y162, z162⟩, st162⟩ := Jvm.LawKit.callS X158 hx (y := (⟨"com/example/witness/witness/value/KnownAndPinLaw", "rank", "(Lcom/example/witness/witness/value/NormalForm$Known;)I"⟩ : MethodName)) hown (mvT hZ (hw _ (List.mem_of_getElem? (i := 18) rfl))) (mvT hZ (hw _ (List.mem_of_getElem? (i := 19) rfl))) (mvT hZ (hw _ (List.mem_of_getElem? (i := 2) rfl))) (mvT hZ (hw _ (List.mem_of_getElem? (i := 20) rfl))) (by decide) (backOf (W := 0) (own_m3 l Z a0 hw [] w_UNKNOWN w_NO w_UNKNOWN w_YES h0 n0 Z0 S_NO S_UNKNOWN S_YES) hZ (hw _ (List.mem_of_getElem? (i := 20) rfl)) (hw _ (List.mem_of_getElem? (i := 2) rfl)) (by decide) (by decide)) (g := (mkF m 19 #[.val (.int p1), .val (.int p2), .val (.ref w_UNKNOWN), .val (.ref w_YES), .val (.ref w_UNKNOWN)] [(.ref w_UNKNOWN)])) rfl (by rw [hml]; rfl) (argsL := [(.ref w_UNKNOWN)]) (rest := []) (lenOf own_pd2 rfl) rfl (by show 2 * 0 + _ ≤ _; exact Nat.le_of_eq rfl) (hb hby at_19) (fun _ _ => ⟨rfl, e158, (by decide : 0 + 0 ≤ _), (by decide : 0 + 0 ≤ _)⟩)
        dsimp only [Pt.U, Pt.locs, Pt.cells, Pt.slots] at X162 l162 y162 z162 st162 hQ162
        subst l162 y162 z162
        rw [show own_f3 w_UNKNOWN w_NO w_UNKNOWN w_YES = (1 : Int32) from by unfold own_f3; rw [if_neg (show ¬ (w_UNKNOWN = w_NO) from (fun q => ne_NO_UNKNOWN (Eq.symm q))), if_pos (show w_UNKNOWN = w_UNKNOWN from rfl)]] at hQ162
        obtain ⟨rfl, N162q, e162⟩ := hQ162
        have N162 := Fr.app N158 N162q
        have k163 : own_To p.tables e below (s₁.setTop (entryFrame m #[(.int p1), (.int p2)] maxLocals)) T162 (mkF m 22 #[.val (.int p1), .val (.int p2), .val (.ref w_UNKNOWN), .val (.ref w_YES), .val (.ref w_UNKNOWN)] [(.int (1 : Int32))]) := fun t k => k161 t (st162 t k)
        have k164 : own_To p.tables e below (s₁.setTop (entryFrame m #[(.int p1), (.int p2)] maxLocals)) T162 (mkF m 23 #[.val (.int p1), .val (.int p2), .val (.ref w_UNKNOWN), .val (.ref w_YES), .val (.ref w_UNKNOWN)] [(.ref w_UNKNOWN), (.int (1 : Int32))]) := fun t k => k163 t (XS.aloadN X162.here hx rfl (hb hby at_22) rfl rfl k)
        obtain ⟨_, _, ⟨T165, L165, k165, n165⟩, -, X165, ⟨Lc165, hQ165, l165, y165, z165⟩, st165⟩ := Jvm.LawKit.callS X162 hx (y := (⟨"com/example/witness/witness/value/KnownAndPinLaw", "rank", "(Lcom/example/witness/witness/value/NormalForm$Known;)I"⟩ : MethodName)) hown (mvT hZ (hw _ (List.mem_of_getElem? (i := 18) rfl))) (mvT hZ (hw _ (List.mem_of_getElem? (i := 19) rfl))) (mvT hZ (hw _ (List.mem_of_getElem? (i := 2) rfl))) (mvT hZ (hw _ (List.mem_of_getElem? (i := 20) rfl))) (by decide) (backOf (W := 1) (own_m3 l Z a0 hw [] w_UNKNOWN w_NO w_UNKNOWN w_YES h0 n0 Z0 S_NO S_UNKNOWN S_YES) hZ (hw _ (List.mem_of_getElem? (i := 20) rfl)) (hw _ (List.mem_of_getElem? (i := 2) rfl)) (by decide) (by decide)) (g := (mkF m 23 #[.val (.int p1), .val (.int p2), .val (.ref w_UNKNOWN), .val (.ref w_YES), .val (.ref w_UNKNOWN)] [(.ref w_UNKNOWN), (.int (1 : Int32))])) rfl (by rw [hml]; rfl) (argsL := [(.ref w_UNKNOWN)]) (rest := [(.int (1 : Int32))]) (lenOf own_pd2 rfl) rfl (by show 2 * 0 + _ ≤ _; exact Nat.le_of_eq rfl) (hb hby at_23) (fun _ _ => ⟨rfl, e162, (by decide : 0 + 0 ≤ _), (by decide : 0 + 0 ≤ _)⟩)
        dsimp only [Pt.U, Pt.locs, Pt.cells, Pt.slots] at X165 l165 y165 z165 st165 hQ165
        subst l165 y165 z165
        rw [show own_f3 w_UNKNOWN w_NO w_UNKNOWN w_YES = (1 : Int32) from by unfold own_f3; rw [if_neg (show ¬ (w_UNKNOWN = w_NO) from (fun q => ne_NO_UNKNOWN (Eq.symm q))), if_pos (show w_UNKNOWN = w_UNKNOWN from rfl)]] at hQ165
        obtain ⟨rfl, N165q, e165⟩ := hQ165
        have N165 := Fr.app N162 N165q
        have k166 : own_To p.tables e below (s₁.setTop (entryFrame m #[(.int p1), (.int p2)] maxLocals)) T165 (mkF m 26 #[.val (.int p1), .val (.int p2), .val (.ref w_UNKNOWN), .val (.ref w_YES), .val (.ref w_UNKNOWN)] [(.int (1 : Int32)), (.int (1 : Int32))]) := fun t k => k164 t (st165 t k)
        have k167 : own_To p.tables e below (s₁.setTop (entryFrame m #[(.int p1), (.int p2)] maxLocals)) T165 (mkF m 27 #[.val (.int p1), .val (.int p2), .val (.ref w_UNKNOWN), .val (.ref w_YES), .val (.ref w_UNKNOWN)] [(.ref w_YES), (.int (1 : Int32)), (.int (1 : Int32))]) := fun t k => k166 t (XS.aloadN X165.here hx rfl (hb hby at_26) rfl rfl k)
        obtain ⟨_, _, ⟨T168, L168, k168, n168⟩, -, X168, ⟨Lc168, hQ168, l168, y168, z168⟩, st168⟩ := Jvm.LawKit.callS X165 hx (y := (⟨"com/example/witness/witness/value/KnownAndPinLaw", "rank", "(Lcom/example/witness/witness/value/NormalForm$Known;)I"⟩ : MethodName)) hown (mvT hZ (hw _ (List.mem_of_getElem? (i := 18) rfl))) (mvT hZ (hw _ (List.mem_of_getElem? (i := 19) rfl))) (mvT hZ (hw _ (List.mem_of_getElem? (i := 2) rfl))) (mvT hZ (hw _ (List.mem_of_getElem? (i := 20) rfl))) (by decide) (backOf (W := 2) (own_m3 l Z a0 hw [] w_YES w_NO w_UNKNOWN w_YES h0 n0 Z0 S_NO S_UNKNOWN S_YES) hZ (hw _ (List.mem_of_getElem? (i := 20) rfl)) (hw _ (List.mem_of_getElem? (i := 2) rfl)) (by decide) (by decide)) (g := (mkF m 27 #[.val (.int p1), .val (.int p2), .val (.ref w_UNKNOWN), .val (.ref w_YES), .val (.ref w_UNKNOWN)] [(.ref w_YES), (.int (1 : Int32)), (.int (1 : Int32))])) rfl (by rw [hml]; rfl) (argsL := [(.ref w_YES)]) (rest := [(.int (1 : Int32)), (.int (1 : Int32))]) (lenOf own_pd2 rfl) rfl (by show 2 * 0 + _ ≤ _; exact Nat.le_of_eq rfl) (hb hby at_27) (fun _ _ => ⟨rfl, e165, (by decide : 0 + 0 ≤ _), (by decide : 0 + 0 ≤ _)⟩)
        dsimp only [Pt.U, Pt.locs, Pt.cells, Pt.slots] at X168 l168 y168 z168 st168 hQ168
        subst l168 y168 z168
        rw [show own_f3 w_YES w_NO w_UNKNOWN w_YES = (2 : Int32) from by unfold own_f3; rw [if_neg (show ¬ (w_YES = w_NO) from ne_YES_NO), if_neg (show ¬ (w_YES = w_UNKNOWN) from ne_YES_UNKNOWN), if_pos (show w_YES = w_YES from rfl)]] at hQ168
        obtain ⟨rfl, N168q, e168⟩ := hQ168
        have N168 := Fr.app N165 N168q
        have k169 : own_To p.tables e below (s₁.setTop (entryFrame m #[(.int p1), (.int p2)] maxLocals)) T168 (mkF m 30 #[.val (.int p1), .val (.int p2), .val (.ref w_UNKNOWN), .val (.ref w_YES), .val (.ref w_UNKNOWN)] [(.int (2 : Int32)), (.int (1 : Int32)), (.int (1 : Int32))]) := fun t k => k167 t (st168 t k)
        obtain ⟨_, _, ⟨T170, L170, k170, n170⟩, -, X170, ⟨Lc170, hQ170, l170, y170, z170⟩, st170⟩ := Jvm.LawKit.callS X168 hx (y := (⟨"java/lang/Math", "min", "(II)I"⟩ : MethodName)) hown (mvT hZ (hw _ (List.mem_of_getElem? (i := 23) rfl))) (mvT hZ (hw _ (List.mem_of_getElem? (i := 24) rfl))) (mvT hZ (hw _ (List.mem_of_getElem? (i := 25) rfl))) (mvT hZ (hw _ (List.mem_of_getElem? (i := 26) rfl))) (by decide) (backOf (W := 1) (own_m4 l Z a0 hw [] (1 : Int32) (2 : Int32) h0 n0 Z0 ) hZ (hw _ (List.mem_of_getElem? (i := 26) rfl)) (hw _ (List.mem_of_getElem? (i := 25) rfl)) (by decide) (by decide)) (g := (mkF m 30 #[.val (.int p1), .val (.int p2), .val (.ref w_UNKNOWN), .val (.ref w_YES), .val (.ref w_UNKNOWN)] [(.int (2 : Int32)), (.int (1 : Int32)), (.int (1 : Int32))])) rfl (by rw [hml]; rfl) (argsL := [(.int (1 : Int32)), (.int (2 : Int32))]) (rest := [(.int (1 : Int32))]) (lenOf own_pd3 rfl) rfl (by show 2 * 0 + _ ≤ _; exact Nat.le_of_eq rfl) (hb hby at_30) (fun _ _ => ⟨rfl, e168, (by decide : 0 + 0 ≤ _), (by decide : 0 + 0 ≤ _)⟩)
        dsimp only [Pt.U, Pt.locs, Pt.cells, Pt.slots] at X170 l170 y170 z170 st170 hQ170
        subst l170 y170 z170
        rw [show own_f4 (1 : Int32) (2 : Int32) = (1 : Int32) from by unfold own_f4; rw [if_neg (show ¬ ((2 : Int32) < (1 : Int32)) from (by decide))]] at hQ170
        obtain ⟨rfl, N170q, e170⟩ := hQ170
        have N170 := Fr.app N168 N170q
        have k171 : own_To p.tables e below (s₁.setTop (entryFrame m #[(.int p1), (.int p2)] maxLocals)) T170 (mkF m 33 #[.val (.int p1), .val (.int p2), .val (.ref w_UNKNOWN), .val (.ref w_YES), .val (.ref w_UNKNOWN)] [(.int (1 : Int32)), (.int (1 : Int32))]) := fun t k => k169 t (st170 t k)
        have k172 : own_To p.tables e below (s₁.setTop (entryFrame m #[(.int p1), (.int p2)] maxLocals)) T170 (mkF m 36 #[.val (.int p1), .val (.int p2), .val (.ref w_UNKNOWN), .val (.ref w_YES), .val (.ref w_UNKNOWN)] []) := fun t k => k171 t (XS.icmpNo X170.here hx rfl (hb hby at_33) rfl (teq (show (1 : Int32) = (1 : Int32) from (by decide))).2 k)
        have k173 : own_To p.tables e below (s₁.setTop (entryFrame m #[(.int p1), (.int p2)] maxLocals)) T170 (mkF m 37 #[.val (.int p1), .val (.int p2), .val (.ref w_UNKNOWN), .val (.ref w_YES), .val (.ref w_UNKNOWN)] [(.int (1 : Int32))]) := fun t k => k172 t (XS.iconst X170.here hx rfl (hb hby at_36) k)
        have k174 : own_To p.tables e below (s₁.setTop (entryFrame m #[(.int p1), (.int p2)] maxLocals)) T170 (mkF m 41 #[.val (.int p1), .val (.int p2), .val (.ref w_UNKNOWN), .val (.ref w_YES), .val (.ref w_UNKNOWN)] [(.int (1 : Int32))]) := fun t k => k173 t (XS.goto X170.here hx rfl (pc0 := 37) (pc' := 41) rfl (hb hby at_37) (by decide) (by decide) k)
        obtain ⟨fs, hr, hrun, hended, hW, hsame⟩ := X170.leave (v := some (.int (1 : Int32))) (fun h => by rw [Bd.returns] at h; cases h)
        refine ⟨_, _, k174 _ ?_, hrun, hended, _, _, rfl, ?_, ⟨_, rfl⟩, hW, hsame.mono (by decide) (by decide)⟩
        · exact retN X170 hx (t := .boolean) Bd.returns (by simp) (hb hby at_41) hr
        · exact ⟨rfl, N170⟩
      · by_cases hc175 : ((p2 &&& (2147483647 : Int32)) % (3 : Int32)) = (1 : Int32)
        · obtain ⟨_, _, ⟨T176, L176, k176, n176⟩, -, X176, ⟨Lc176, hQ176, l176, y176, z176⟩, st176⟩ := Jvm.LawKit.callS X148 hx (y := (⟨"com/example/witness/witness/value/KnownAndPinLaw", "pick", "(I)Lcom/example/witness/witness/value/NormalForm$Known;"⟩ : MethodName)) hown (mvT hZ (hw _ (List.mem_of_getElem? (i := 0) rfl))) (mvT hZ (hw _ (List.mem_of_getElem? (i := 1) rfl))) (mvT hZ (hw _ (List.mem_of_getElem? (i := 2) rfl))) (mvT hZ (hw _ (List.mem_of_getElem? (i := 3) rfl))) (by decide) (backOf (W := 0) (own_m1 l Z a0 hw [] p2 w_YES w_NO w_UNKNOWN h0 n0 Z0 S_YES S_NO S_UNKNOWN) hZ (hw _ (List.mem_of_getElem? (i := 3) rfl)) (hw _ (List.mem_of_getElem? (i := 2) rfl)) (by decide) (by decide)) (g := (mkF m 6 #[.val (.int p1), .val (.int p2), .val (.ref w_UNKNOWN), .unset, .unset] [(.int p2)])) rfl (by rw [hml]; rfl) (argsL := [(.int p2)]) (rest := []) (lenOf own_pd0 rfl) rfl (by show 2 * 0 + _ ≤ _; exact Nat.le_of_eq rfl) (hb hby at_6) (fun _ _ => ⟨rfl, e148, (by decide : 0 + 0 ≤ _), (by decide : 0 + 0 ≤ _)⟩)
          dsimp only [Pt.U, Pt.locs, Pt.cells, Pt.slots] at X176 l176 y176 z176 st176 hQ176
          subst l176 y176 z176
          rw [show own_f1 p2 w_YES w_NO w_UNKNOWN = w_NO from by unfold own_f1; rw [if_neg (show ¬ (((p2 &&& (2147483647 : Int32)) % (3 : Int32)) = (0 : Int32)) from hc152), if_pos (show ((p2 &&& (2147483647 : Int32)) % (3 : Int32)) = (1 : Int32) from hc175)]] at hQ176
          obtain ⟨rfl, N176q, e176⟩ := hQ176
          have N176 := Fr.app N148 N176q
          have k177 : own_To p.tables e below (s₁.setTop (entryFrame m #[(.int p1), (.int p2)] maxLocals)) T176 (mkF m 9 #[.val (.int p1), .val (.int p2), .val (.ref w_UNKNOWN), .unset, .unset] [(.ref w_NO)]) := fun t k => k151 t (st176 t k)
          have k178 : own_To p.tables e below (s₁.setTop (entryFrame m #[(.int p1), (.int p2)] maxLocals)) T176 (mkF m 10 #[.val (.int p1), .val (.int p2), .val (.ref w_UNKNOWN), .val (.ref w_NO), .unset] []) := fun t k => k177 t (XS.astoreN X176.here hx rfl (hb hby at_9) rfl rfl (l' := #[.val (.int p1), .val (.int p2), .val (.ref w_UNKNOWN), .val (.ref w_NO), .unset]) rfl k)
          have k179 : own_To p.tables e below (s₁.setTop (entryFrame m #[(.int p1), (.int p2)] maxLocals)) T176 (mkF m 11 #[.val (.int p1), .val (.int p2), .val (.ref w_UNKNOWN), .val (.ref w_NO), .unset] [(.ref w_UNKNOWN)]) := fun t k => k178 t (XS.aloadN X176.here hx rfl (hb hby at_10) rfl rfl k)
          have k180 : own_To p.tables e below (s₁.setTop (entryFrame m #[(.int p1), (.int p2)] maxLocals)) T176 (mkF m 12 #[.val (.int p1), .val (.int p2), .val (.ref w_UNKNOWN), .val (.ref w_NO), .unset] [(.ref w_NO), (.ref w_UNKNOWN)]) := fun t k => k179 t (XS.aloadN X176.here hx rfl (hb hby at_11) rfl rfl k)
          obtain ⟨cq181, kq181, q181a, q181b, q181c⟩ := isOf hZ e176 E_w_UNKNOWN
          obtain ⟨_, _, ⟨T181, L181, k181, n181⟩, -, X181, ⟨Lc181, hQ181, l181, y181, z181⟩, st181⟩ := X176.virtualBack hx (y := (⟨"com/example/witness/witness/value/NormalForm$Known", "and", "(Lcom/example/witness/witness/value/NormalForm$Known;)Lcom/example/witness/witness/value/NormalForm$Known;"⟩ : MethodName)) (z := (⟨"com/example/witness/witness/value/NormalForm$Known", "and", "(Lcom/example/witness/witness/value/NormalForm$Known;)Lcom/example/witness/witness/value/NormalForm$Known;"⟩ : MethodName)) hown (mvT hZ (hw _ (List.mem_of_getElem? (i := 8) rfl))) (mvT hZ (hw _ (List.mem_of_getElem? (i := 9) rfl))) (notFace_of_selects (args := #[]) (mvT hZ (hw _ (List.mem_of_getElem? (i := 11) rfl)))) (mvT hZ (hw _ (List.mem_of_getElem? (i := 11) rfl))) (mvT hZ (hw _ (List.mem_of_getElem? (i := 10) rfl))) (by decide) (backOf (W := 0) (own_m2 l Z a0 hw [] w_UNKNOWN w_NO w_UNKNOWN w_NO w_YES h0 n0 Z0 S_UNKNOWN S_NO S_YES) hZ (hw _ (List.mem_of_getElem? (i := 12) rfl)) (hw _ (List.mem_of_getElem? (i := 6) rfl)) (by decide) (by decide)) q181a q181c (g := (mkF m 12 #[.val (.int p1), .val (.int p2), .val (.ref w_UNKNOWN), .val (.ref w_NO), .unset] [(.ref w_NO), (.ref w_UNKNOWN)])) rfl (by rw [hml]; rfl) (Steps.refl _) (argsL := [(.ref w_NO)]) (rest := []) (lenOf own_pd1 rfl) rfl (by show 2 * 0 + _ ≤ _; exact Nat.le_of_eq rfl) (hb hby at_12) (fun _ _ => ⟨rfl, e176, (by decide : 0 + 0 ≤ _), (by decide : 0 + 0 ≤ _)⟩)
          dsimp only [Pt.U, Pt.locs, Pt.cells, Pt.slots] at X181 l181 y181 z181 st181 hQ181
          subst l181 y181 z181
          rw [show own_f2 w_UNKNOWN w_NO w_UNKNOWN w_NO w_YES = w_NO from by unfold own_f2; rw [if_neg (show ¬ (w_UNKNOWN = w_NO) from (fun q => ne_NO_UNKNOWN (Eq.symm q))), if_pos (show w_NO = w_NO from rfl)]] at hQ181
          obtain ⟨rfl, N181q, e181⟩ := hQ181
          have N181 := Fr.app N176 N181q
          have k182 : own_To p.tables e below (s₁.setTop (entryFrame m #[(.int p1), (.int p2)] maxLocals)) T181 (mkF m 15 #[.val (.int p1), .val (.int p2), .val (.ref w_UNKNOWN), .val (.ref w_NO), .unset] [(.ref w_NO)]) := fun t k => k180 t (st181.trans k)
          have k183 : own_To p.tables e below (s₁.setTop (entryFrame m #[(.int p1), (.int p2)] maxLocals)) T181 (mkF m 17 #[.val (.int p1), .val (.int p2), .val (.ref w_UNKNOWN), .val (.ref w_NO), .val (.ref w_NO)] []) := fun t k => k182 t (XS.astore X181.here hx rfl (hb hby at_15) rfl rfl (l' := #[.val (.int p1), .val (.int p2), .val (.ref w_UNKNOWN), .val (.ref w_NO), .val (.ref w_NO)]) rfl k)
          have k184 : own_To p.tables e below (s₁.setTop (entryFrame m #[(.int p1), (.int p2)] maxLocals)) T181 (mkF m 19 #[.val (.int p1), .val (.int p2), .val (.ref w_UNKNOWN), .val (.ref w_NO), .val (.ref w_NO)] [(.ref w_NO)]) := fun t k => k183 t (XS.aload X181.here hx rfl (hb hby at_17) rfl rfl k)
          obtain ⟨_, _, ⟨T185, L185, k185, n185⟩, -, X185, ⟨Lc185, hQ185, l185, y185, z185⟩, st185⟩ := Jvm.LawKit.callS X181 hx (y := (⟨"com/example/witness/witness/value/KnownAndPinLaw", "rank", "(Lcom/example/witness/witness/value/NormalForm$Known;)I"⟩ : MethodName)) hown (mvT hZ (hw _ (List.mem_of_getElem? (i := 18) rfl))) (mvT hZ (hw _ (List.mem_of_getElem? (i := 19) rfl))) (mvT hZ (hw _ (List.mem_of_getElem? (i := 2) rfl))) (mvT hZ (hw _ (List.mem_of_getElem? (i := 20) rfl))) (by decide) (backOf (W := 0) (own_m3 l Z a0 hw [] w_NO w_NO w_UNKNOWN w_YES h0 n0 Z0 S_NO S_UNKNOWN S_YES) hZ (hw _ (List.mem_of_getElem? (i := 20) rfl)) (hw _ (List.mem_of_getElem? (i := 2) rfl)) (by decide) (by decide)) (g := (mkF m 19 #[.val (.int p1), .val (.int p2), .val (.ref w_UNKNOWN), .val (.ref w_NO), .val (.ref w_NO)] [(.ref w_NO)])) rfl (by rw [hml]; rfl) (argsL := [(.ref w_NO)]) (rest := []) (lenOf own_pd2 rfl) rfl (by show 2 * 0 + _ ≤ _; exact Nat.le_of_eq rfl) (hb hby at_19) (fun _ _ => ⟨rfl, e181, (by decide : 0 + 0 ≤ _), (by decide : 0 + 0 ≤ _)⟩)
          dsimp only [Pt.U, Pt.locs, Pt.cells, Pt.slots] at X185 l185 y185 z185 st185 hQ185
          subst l185 y185 z185
          rw [show own_f3 w_NO w_NO w_UNKNOWN w_YES = (0 : Int32) from by unfold own_f3; rw [if_pos (show w_NO = w_NO from rfl)]] at hQ185
          obtain ⟨rfl, N185q, e185⟩ := hQ185
          have N185 := Fr.app N181 N185q
          have k186 : own_To p.tables e below (s₁.setTop (entryFrame m #[(.int p1), (.int p2)] maxLocals)) T185 (mkF m 22 #[.val (.int p1), .val (.int p2), .val (.ref w_UNKNOWN), .val (.ref w_NO), .val (.ref w_NO)] [(.int (0 : Int32))]) := fun t k => k184 t (st185 t k)
          have k187 : own_To p.tables e below (s₁.setTop (entryFrame m #[(.int p1), (.int p2)] maxLocals)) T185 (mkF m 23 #[.val (.int p1), .val (.int p2), .val (.ref w_UNKNOWN), .val (.ref w_NO), .val (.ref w_NO)] [(.ref w_UNKNOWN), (.int (0 : Int32))]) := fun t k => k186 t (XS.aloadN X185.here hx rfl (hb hby at_22) rfl rfl k)
          obtain ⟨_, _, ⟨T188, L188, k188, n188⟩, -, X188, ⟨Lc188, hQ188, l188, y188, z188⟩, st188⟩ := Jvm.LawKit.callS X185 hx (y := (⟨"com/example/witness/witness/value/KnownAndPinLaw", "rank", "(Lcom/example/witness/witness/value/NormalForm$Known;)I"⟩ : MethodName)) hown (mvT hZ (hw _ (List.mem_of_getElem? (i := 18) rfl))) (mvT hZ (hw _ (List.mem_of_getElem? (i := 19) rfl))) (mvT hZ (hw _ (List.mem_of_getElem? (i := 2) rfl))) (mvT hZ (hw _ (List.mem_of_getElem? (i := 20) rfl))) (by decide) (backOf (W := 1) (own_m3 l Z a0 hw [] w_UNKNOWN w_NO w_UNKNOWN w_YES h0 n0 Z0 S_NO S_UNKNOWN S_YES) hZ (hw _ (List.mem_of_getElem? (i := 20) rfl)) (hw _ (List.mem_of_getElem? (i := 2) rfl)) (by decide) (by decide)) (g := (mkF m 23 #[.val (.int p1), .val (.int p2), .val (.ref w_UNKNOWN), .val (.ref w_NO), .val (.ref w_NO)] [(.ref w_UNKNOWN), (.int (0 : Int32))])) rfl (by rw [hml]; rfl) (argsL := [(.ref w_UNKNOWN)]) (rest := [(.int (0 : Int32))]) (lenOf own_pd2 rfl) rfl (by show 2 * 0 + _ ≤ _; exact Nat.le_of_eq rfl) (hb hby at_23) (fun _ _ => ⟨rfl, e185, (by decide : 0 + 0 ≤ _), (by decide : 0 + 0 ≤ _)⟩)
          dsimp only [Pt.U, Pt.locs, Pt.cells, Pt.slots] at X188 l188 y188 z188 st188 hQ188
          subst l188 y188 z188
          rw [show own_f3 w_UNKNOWN w_NO w_UNKNOWN w_YES = (1 : Int32) from by unfold own_f3; rw [if_neg (show ¬ (w_UNKNOWN = w_NO) from (fun q => ne_NO_UNKNOWN (Eq.symm q))), if_pos (show w_UNKNOWN = w_UNKNOWN from rfl)]] at hQ188
          obtain ⟨rfl, N188q, e188⟩ := hQ188
          have N188 := Fr.app N185 N188q
          have k189 : own_To p.tables e below (s₁.setTop (entryFrame m #[(.int p1), (.int p2)] maxLocals)) T188 (mkF m 26 #[.val (.int p1), .val (.int p2), .val (.ref w_UNKNOWN), .val (.ref w_NO), .val (.ref w_NO)] [(.int (1 : Int32)), (.int (0 : Int32))]) := fun t k => k187 t (st188 t k)
          have k190 : own_To p.tables e below (s₁.setTop (entryFrame m #[(.int p1), (.int p2)] maxLocals)) T188 (mkF m 27 #[.val (.int p1), .val (.int p2), .val (.ref w_UNKNOWN), .val (.ref w_NO), .val (.ref w_NO)] [(.ref w_NO), (.int (1 : Int32)), (.int (0 : Int32))]) := fun t k => k189 t (XS.aloadN X188.here hx rfl (hb hby at_26) rfl rfl k)
          obtain ⟨_, _, ⟨T191, L191, k191, n191⟩, -, X191, ⟨Lc191, hQ191, l191, y191, z191⟩, st191⟩ := Jvm.LawKit.callS X188 hx (y := (⟨"com/example/witness/witness/value/KnownAndPinLaw", "rank", "(Lcom/example/witness/witness/value/NormalForm$Known;)I"⟩ : MethodName)) hown (mvT hZ (hw _ (List.mem_of_getElem? (i := 18) rfl))) (mvT hZ (hw _ (List.mem_of_getElem? (i := 19) rfl))) (mvT hZ (hw _ (List.mem_of_getElem? (i := 2) rfl))) (mvT hZ (hw _ (List.mem_of_getElem? (i := 20) rfl))) (by decide) (backOf (W := 2) (own_m3 l Z a0 hw [] w_NO w_NO w_UNKNOWN w_YES h0 n0 Z0 S_NO S_UNKNOWN S_YES) hZ (hw _ (List.mem_of_getElem? (i := 20) rfl)) (hw _ (List.mem_of_getElem? (i := 2) rfl)) (by decide) (by decide)) (g := (mkF m 27 #[.val (.int p1), .val (.int p2), .val (.ref w_UNKNOWN), .val (.ref w_NO), .val (.ref w_NO)] [(.ref w_NO), (.int (1 : Int32)), (.int (0 : Int32))])) rfl (by rw [hml]; rfl) (argsL := [(.ref w_NO)]) (rest := [(.int (1 : Int32)), (.int (0 : Int32))]) (lenOf own_pd2 rfl) rfl (by show 2 * 0 + _ ≤ _; exact Nat.le_of_eq rfl) (hb hby at_27) (fun _ _ => ⟨rfl, e188, (by decide : 0 + 0 ≤ _), (by decide : 0 + 0 ≤ _)⟩)
          dsimp only [Pt.U, Pt.locs, Pt.cells, Pt.slots] at X191 l191 y191 z191 st191 hQ191
          subst l191 y191 z191
          rw [show own_f3 w_NO w_NO w_UNKNOWN w_YES = (0 : Int32) from by unfold own_f3; rw [if_pos (show w_NO = w_NO from rfl)]] at hQ191
          obtain ⟨rfl, N191q, e191⟩ := hQ191
          have N191 := Fr.app N188 N191q
          have k192 : own_To p.tables e below (s₁.setTop (entryFrame m #[(.int p1), (.int p2)] maxLocals)) T191 (mkF m 30 #[.val (.int p1), .val (.int p2), .val (.ref w_UNKNOWN), .val (.ref w_NO), .val (.ref w_NO)] [(.int (0 : Int32)), (.int (1 : Int32)), (.int (0 : Int32))]) := fun t k => k190 t (st191 t k)
          obtain ⟨_, _, ⟨T193, L193, k193, n193⟩, -, X193, ⟨Lc193, hQ193, l193, y193, z193⟩, st193⟩ := Jvm.LawKit.callS X191 hx (y := (⟨"java/lang/Math", "min", "(II)I"⟩ : MethodName)) hown (mvT hZ (hw _ (List.mem_of_getElem? (i := 23) rfl))) (mvT hZ (hw _ (List.mem_of_getElem? (i := 24) rfl))) (mvT hZ (hw _ (List.mem_of_getElem? (i := 25) rfl))) (mvT hZ (hw _ (List.mem_of_getElem? (i := 26) rfl))) (by decide) (backOf (W := 1) (own_m4 l Z a0 hw [] (1 : Int32) (0 : Int32) h0 n0 Z0 ) hZ (hw _ (List.mem_of_getElem? (i := 26) rfl)) (hw _ (List.mem_of_getElem? (i := 25) rfl)) (by decide) (by decide)) (g := (mkF m 30 #[.val (.int p1), .val (.int p2), .val (.ref w_UNKNOWN), .val (.ref w_NO), .val (.ref w_NO)] [(.int (0 : Int32)), (.int (1 : Int32)), (.int (0 : Int32))])) rfl (by rw [hml]; rfl) (argsL := [(.int (1 : Int32)), (.int (0 : Int32))]) (rest := [(.int (0 : Int32))]) (lenOf own_pd3 rfl) rfl (by show 2 * 0 + _ ≤ _; exact Nat.le_of_eq rfl) (hb hby at_30) (fun _ _ => ⟨rfl, e191, (by decide : 0 + 0 ≤ _), (by decide : 0 + 0 ≤ _)⟩)
          dsimp only [Pt.U, Pt.locs, Pt.cells, Pt.slots] at X193 l193 y193 z193 st193 hQ193
          subst l193 y193 z193
          rw [show own_f4 (1 : Int32) (0 : Int32) = (0 : Int32) from by unfold own_f4; rw [if_pos (show (0 : Int32) < (1 : Int32) from (by decide))]] at hQ193
          obtain ⟨rfl, N193q, e193⟩ := hQ193
          have N193 := Fr.app N191 N193q
          have k194 : own_To p.tables e below (s₁.setTop (entryFrame m #[(.int p1), (.int p2)] maxLocals)) T193 (mkF m 33 #[.val (.int p1), .val (.int p2), .val (.ref w_UNKNOWN), .val (.ref w_NO), .val (.ref w_NO)] [(.int (0 : Int32)), (.int (0 : Int32))]) := fun t k => k192 t (st193 t k)
          have k195 : own_To p.tables e below (s₁.setTop (entryFrame m #[(.int p1), (.int p2)] maxLocals)) T193 (mkF m 36 #[.val (.int p1), .val (.int p2), .val (.ref w_UNKNOWN), .val (.ref w_NO), .val (.ref w_NO)] []) := fun t k => k194 t (XS.icmpNo X193.here hx rfl (hb hby at_33) rfl (teq (show (0 : Int32) = (0 : Int32) from (by decide))).2 k)
          have k196 : own_To p.tables e below (s₁.setTop (entryFrame m #[(.int p1), (.int p2)] maxLocals)) T193 (mkF m 37 #[.val (.int p1), .val (.int p2), .val (.ref w_UNKNOWN), .val (.ref w_NO), .val (.ref w_NO)] [(.int (1 : Int32))]) := fun t k => k195 t (XS.iconst X193.here hx rfl (hb hby at_36) k)
          have k197 : own_To p.tables e below (s₁.setTop (entryFrame m #[(.int p1), (.int p2)] maxLocals)) T193 (mkF m 41 #[.val (.int p1), .val (.int p2), .val (.ref w_UNKNOWN), .val (.ref w_NO), .val (.ref w_NO)] [(.int (1 : Int32))]) := fun t k => k196 t (XS.goto X193.here hx rfl (pc0 := 37) (pc' := 41) rfl (hb hby at_37) (by decide) (by decide) k)
          obtain ⟨fs, hr, hrun, hended, hW, hsame⟩ := X193.leave (v := some (.int (1 : Int32))) (fun h => by rw [Bd.returns] at h; cases h)
          refine ⟨_, _, k197 _ ?_, hrun, hended, _, _, rfl, ?_, ⟨_, rfl⟩, hW, hsame.mono (by decide) (by decide)⟩
          · exact retN X193 hx (t := .boolean) Bd.returns (by simp) (hb hby at_41) hr
          · exact ⟨rfl, N193⟩
        · obtain ⟨_, _, ⟨T198, L198, k198, n198⟩, -, X198, ⟨Lc198, hQ198, l198, y198, z198⟩, st198⟩ := Jvm.LawKit.callS X148 hx (y := (⟨"com/example/witness/witness/value/KnownAndPinLaw", "pick", "(I)Lcom/example/witness/witness/value/NormalForm$Known;"⟩ : MethodName)) hown (mvT hZ (hw _ (List.mem_of_getElem? (i := 0) rfl))) (mvT hZ (hw _ (List.mem_of_getElem? (i := 1) rfl))) (mvT hZ (hw _ (List.mem_of_getElem? (i := 2) rfl))) (mvT hZ (hw _ (List.mem_of_getElem? (i := 3) rfl))) (by decide) (backOf (W := 0) (own_m1 l Z a0 hw [] p2 w_YES w_NO w_UNKNOWN h0 n0 Z0 S_YES S_NO S_UNKNOWN) hZ (hw _ (List.mem_of_getElem? (i := 3) rfl)) (hw _ (List.mem_of_getElem? (i := 2) rfl)) (by decide) (by decide)) (g := (mkF m 6 #[.val (.int p1), .val (.int p2), .val (.ref w_UNKNOWN), .unset, .unset] [(.int p2)])) rfl (by rw [hml]; rfl) (argsL := [(.int p2)]) (rest := []) (lenOf own_pd0 rfl) rfl (by show 2 * 0 + _ ≤ _; exact Nat.le_of_eq rfl) (hb hby at_6) (fun _ _ => ⟨rfl, e148, (by decide : 0 + 0 ≤ _), (by decide : 0 + 0 ≤ _)⟩)
          dsimp only [Pt.U, Pt.locs, Pt.cells, Pt.slots] at X198 l198 y198 z198 st198 hQ198
          subst l198 y198 z198
          rw [show own_f1 p2 w_YES w_NO w_UNKNOWN = w_UNKNOWN from by unfold own_f1; rw [if_neg (show ¬ (((p2 &&& (2147483647 : Int32)) % (3 : Int32)) = (0 : Int32)) from hc152), if_neg (show ¬ (((p2 &&& (2147483647 : Int32)) % (3 : Int32)) = (1 : Int32)) from hc175)]] at hQ198
          obtain ⟨rfl, N198q, e198⟩ := hQ198
          have N198 := Fr.app N148 N198q
          have k199 : own_To p.tables e below (s₁.setTop (entryFrame m #[(.int p1), (.int p2)] maxLocals)) T198 (mkF m 9 #[.val (.int p1), .val (.int p2), .val (.ref w_UNKNOWN), .unset, .unset] [(.ref w_UNKNOWN)]) := fun t k => k151 t (st198 t k)
          have k200 : own_To p.tables e below (s₁.setTop (entryFrame m #[(.int p1), (.int p2)] maxLocals)) T198 (mkF m 10 #[.val (.int p1), .val (.int p2), .val (.ref w_UNKNOWN), .val (.ref w_UNKNOWN), .unset] []) := fun t k => k199 t (XS.astoreN X198.here hx rfl (hb hby at_9) rfl rfl (l' := #[.val (.int p1), .val (.int p2), .val (.ref w_UNKNOWN), .val (.ref w_UNKNOWN), .unset]) rfl k)
          have k201 : own_To p.tables e below (s₁.setTop (entryFrame m #[(.int p1), (.int p2)] maxLocals)) T198 (mkF m 11 #[.val (.int p1), .val (.int p2), .val (.ref w_UNKNOWN), .val (.ref w_UNKNOWN), .unset] [(.ref w_UNKNOWN)]) := fun t k => k200 t (XS.aloadN X198.here hx rfl (hb hby at_10) rfl rfl k)
          have k202 : own_To p.tables e below (s₁.setTop (entryFrame m #[(.int p1), (.int p2)] maxLocals)) T198 (mkF m 12 #[.val (.int p1), .val (.int p2), .val (.ref w_UNKNOWN), .val (.ref w_UNKNOWN), .unset] [(.ref w_UNKNOWN), (.ref w_UNKNOWN)]) := fun t k => k201 t (XS.aloadN X198.here hx rfl (hb hby at_11) rfl rfl k)
          obtain ⟨cq203, kq203, q203a, q203b, q203c⟩ := isOf hZ e198 E_w_UNKNOWN
          obtain ⟨_, _, ⟨T203, L203, k203, n203⟩, -, X203, ⟨Lc203, hQ203, l203, y203, z203⟩, st203⟩ := X198.virtualBack hx (y := (⟨"com/example/witness/witness/value/NormalForm$Known", "and", "(Lcom/example/witness/witness/value/NormalForm$Known;)Lcom/example/witness/witness/value/NormalForm$Known;"⟩ : MethodName)) (z := (⟨"com/example/witness/witness/value/NormalForm$Known", "and", "(Lcom/example/witness/witness/value/NormalForm$Known;)Lcom/example/witness/witness/value/NormalForm$Known;"⟩ : MethodName)) hown (mvT hZ (hw _ (List.mem_of_getElem? (i := 8) rfl))) (mvT hZ (hw _ (List.mem_of_getElem? (i := 9) rfl))) (notFace_of_selects (args := #[]) (mvT hZ (hw _ (List.mem_of_getElem? (i := 11) rfl)))) (mvT hZ (hw _ (List.mem_of_getElem? (i := 11) rfl))) (mvT hZ (hw _ (List.mem_of_getElem? (i := 10) rfl))) (by decide) (backOf (W := 0) (own_m2 l Z a0 hw [] w_UNKNOWN w_UNKNOWN w_UNKNOWN w_NO w_YES h0 n0 Z0 S_UNKNOWN S_NO S_YES) hZ (hw _ (List.mem_of_getElem? (i := 12) rfl)) (hw _ (List.mem_of_getElem? (i := 6) rfl)) (by decide) (by decide)) q203a q203c (g := (mkF m 12 #[.val (.int p1), .val (.int p2), .val (.ref w_UNKNOWN), .val (.ref w_UNKNOWN), .unset] [(.ref w_UNKNOWN), (.ref w_UNKNOWN)])) rfl (by rw [hml]; rfl) (Steps.refl _) (argsL := [(.ref w_UNKNOWN)]) (rest := []) (lenOf own_pd1 rfl) rfl (by show 2 * 0 + _ ≤ _; exact Nat.le_of_eq rfl) (hb hby at_12) (fun _ _ => ⟨rfl, e198, (by decide : 0 + 0 ≤ _), (by decide : 0 + 0 ≤ _)⟩)
          dsimp only [Pt.U, Pt.locs, Pt.cells, Pt.slots] at X203 l203 y203 z203 st203 hQ203
          subst l203 y203 z203
          rw [show own_f2 w_UNKNOWN w_UNKNOWN w_UNKNOWN w_NO w_YES = w_UNKNOWN from by unfold own_f2; rw [if_neg (show ¬ (w_UNKNOWN = w_NO) from (fun q => ne_NO_UNKNOWN (Eq.symm q))), if_neg (show ¬ (w_UNKNOWN = w_NO) from (fun q => ne_NO_UNKNOWN (Eq.symm q))), if_neg (show ¬ (w_UNKNOWN = w_YES) from (fun q => ne_YES_UNKNOWN (Eq.symm q)))]] at hQ203
          obtain ⟨rfl, N203q, e203⟩ := hQ203
          have N203 := Fr.app N198 N203q
          have k204 : own_To p.tables e below (s₁.setTop (entryFrame m #[(.int p1), (.int p2)] maxLocals)) T203 (mkF m 15 #[.val (.int p1), .val (.int p2), .val (.ref w_UNKNOWN), .val (.ref w_UNKNOWN), .unset] [(.ref w_UNKNOWN)]) := fun t k => k202 t (st203.trans k)
          have k205 : own_To p.tables e below (s₁.setTop (entryFrame m #[(.int p1), (.int p2)] maxLocals)) T203 (mkF m 17 #[.val (.int p1), .val (.int p2), .val (.ref w_UNKNOWN), .val (.ref w_UNKNOWN), .val (.ref w_UNKNOWN)] []) := fun t k => k204 t (XS.astore X203.here hx rfl (hb hby at_15) rfl rfl (l' := #[.val (.int p1), .val (.int p2), .val (.ref w_UNKNOWN), .val (.ref w_UNKNOWN), .val (.ref w_UNKNOWN)]) rfl k)
          have k206 : own_To p.tables e below (s₁.setTop (entryFrame m #[(.int p1), (.int p2)] maxLocals)) T203 (mkF m 19 #[.val (.int p1), .val (.int p2), .val (.ref w_UNKNOWN), .val (.ref w_UNKNOWN), .val (.ref w_UNKNOWN)] [(.ref w_UNKNOWN)]) := fun t k => k205 t (XS.aload X203.here hx rfl (hb hby at_17) rfl rfl k)
          obtain ⟨_, _, ⟨T207, L207, k207, n207⟩, -, X207, ⟨Lc207, hQ207, l207, y207, z207⟩, st207⟩ := Jvm.LawKit.callS X203 hx (y := (⟨"com/example/witness/witness/value/KnownAndPinLaw", "rank", "(Lcom/example/witness/witness/value/NormalForm$Known;)I"⟩ : MethodName)) hown (mvT hZ (hw _ (List.mem_of_getElem? (i := 18) rfl))) (mvT hZ (hw _ (List.mem_of_getElem? (i := 19) rfl))) (mvT hZ (hw _ (List.mem_of_getElem? (i := 2) rfl))) (mvT hZ (hw _ (List.mem_of_getElem? (i := 20) rfl))) (by decide) (backOf (W := 0) (own_m3 l Z a0 hw [] w_UNKNOWN w_NO w_UNKNOWN w_YES h0 n0 Z0 S_NO S_UNKNOWN S_YES) hZ (hw _ (List.mem_of_getElem? (i := 20) rfl)) (hw _ (List.mem_of_getElem? (i := 2) rfl)) (by decide) (by decide)) (g := (mkF m 19 #[.val (.int p1), .val (.int p2), .val (.ref w_UNKNOWN), .val (.ref w_UNKNOWN), .val (.ref w_UNKNOWN)] [(.ref w_UNKNOWN)])) rfl (by rw [hml]; rfl) (argsL := [(.ref w_UNKNOWN)]) (rest := []) (lenOf own_pd2 rfl) rfl (by show 2 * 0 + _ ≤ _; exact Nat.le_of_eq rfl) (hb hby at_19) (fun _ _ => ⟨rfl, e203, (by decide : 0 + 0 ≤ _), (by decide : 0 + 0 ≤ _)⟩)
          dsimp only [Pt.U, Pt.locs, Pt.cells, Pt.slots] at X207 l207 y207 z207 st207 hQ207
          subst l207 y207 z207
          rw [show own_f3 w_UNKNOWN w_NO w_UNKNOWN w_YES = (1 : Int32) from by unfold own_f3; rw [if_neg (show ¬ (w_UNKNOWN = w_NO) from (fun q => ne_NO_UNKNOWN (Eq.symm q))), if_pos (show w_UNKNOWN = w_UNKNOWN from rfl)]] at hQ207
          obtain ⟨rfl, N207q, e207⟩ := hQ207
          have N207 := Fr.app N203 N207q
          have k208 : own_To p.tables e below (s₁.setTop (entryFrame m #[(.int p1), (.int p2)] maxLocals)) T207 (mkF m 22 #[.val (.int p1), .val (.int p2), .val (.ref w_UNKNOWN), .val (.ref w_UNKNOWN), .val (.ref w_UNKNOWN)] [(.int (1 : Int32))]) := fun t k => k206 t (st207 t k)
          have k209 : own_To p.tables e below (s₁.setTop (entryFrame m #[(.int p1), (.int p2)] maxLocals)) T207 (mkF m 23 #[.val (.int p1), .val (.int p2), .val (.ref w_UNKNOWN), .val (.ref w_UNKNOWN), .val (.ref w_UNKNOWN)] [(.ref w_UNKNOWN), (.int (1 : Int32))]) := fun t k => k208 t (XS.aloadN X207.here hx rfl (hb hby at_22) rfl rfl k)
          obtain ⟨_, _, ⟨T210, L210, k210, n210⟩, -, X210, ⟨Lc210, hQ210, l210, y210, z210⟩, st210⟩ := Jvm.LawKit.callS X207 hx (y := (⟨"com/example/witness/witness/value/KnownAndPinLaw", "rank", "(Lcom/example/witness/witness/value/NormalForm$Known;)I"⟩ : MethodName)) hown (mvT hZ (hw _ (List.mem_of_getElem? (i := 18) rfl))) (mvT hZ (hw _ (List.mem_of_getElem? (i := 19) rfl))) (mvT hZ (hw _ (List.mem_of_getElem? (i := 2) rfl))) (mvT hZ (hw _ (List.mem_of_getElem? (i := 20) rfl))) (by decide) (backOf (W := 1) (own_m3 l Z a0 hw [] w_UNKNOWN w_NO w_UNKNOWN w_YES h0 n0 Z0 S_NO S_UNKNOWN S_YES) hZ (hw _ (List.mem_of_getElem? (i := 20) rfl)) (hw _ (List.mem_of_getElem? (i := 2) rfl)) (by decide) (by decide)) (g := (mkF m 23 #[.val (.int p1), .val (.int p2), .val (.ref w_UNKNOWN), .val (.ref w_UNKNOWN), .val (.ref w_UNKNOWN)] [(.ref w_UNKNOWN), (.int (1 : Int32))])) rfl (by rw [hml]; rfl) (argsL := [(.ref w_UNKNOWN)]) (rest := [(.int (1 : Int32))]) (lenOf own_pd2 rfl) rfl (by show 2 * 0 + _ ≤ _; exact Nat.le_of_eq rfl) (hb hby at_23) (fun _ _ => ⟨rfl, e207, (by decide : 0 + 0 ≤ _), (by decide : 0 + 0 ≤ _)⟩)
          dsimp only [Pt.U, Pt.locs, Pt.cells, Pt.slots] at X210 l210 y210 z210 st210 hQ210
          subst l210 y210 z210
          rw [show own_f3 w_UNKNOWN w_NO w_UNKNOWN w_YES = (1 : Int32) from by unfold own_f3; rw [if_neg (show ¬ (w_UNKNOWN = w_NO) from (fun q => ne_NO_UNKNOWN (Eq.symm q))), if_pos (show w_UNKNOWN = w_UNKNOWN from rfl)]] at hQ210
          obtain ⟨rfl, N210q, e210⟩ := hQ210
          have N210 := Fr.app N207 N210q
          have k211 : own_To p.tables e below (s₁.setTop (entryFrame m #[(.int p1), (.int p2)] maxLocals)) T210 (mkF m 26 #[.val (.int p1), .val (.int p2), .val (.ref w_UNKNOWN), .val (.ref w_UNKNOWN), .val (.ref w_UNKNOWN)] [(.int (1 : Int32)), (.int (1 : Int32))]) := fun t k => k209 t (st210 t k)
          have k212 : own_To p.tables e below (s₁.setTop (entryFrame m #[(.int p1), (.int p2)] maxLocals)) T210 (mkF m 27 #[.val (.int p1), .val (.int p2), .val (.ref w_UNKNOWN), .val (.ref w_UNKNOWN), .val (.ref w_UNKNOWN)] [(.ref w_UNKNOWN), (.int (1 : Int32)), (.int (1 : Int32))]) := fun t k => k211 t (XS.aloadN X210.here hx rfl (hb hby at_26) rfl rfl k)
          obtain ⟨_, _, ⟨T213, L213, k213, n213⟩, -, X213, ⟨Lc213, hQ213, l213, y213, z213⟩, st213⟩ := Jvm.LawKit.callS X210 hx (y := (⟨"com/example/witness/witness/value/KnownAndPinLaw", "rank", "(Lcom/example/witness/witness/value/NormalForm$Known;)I"⟩ : MethodName)) hown (mvT hZ (hw _ (List.mem_of_getElem? (i := 18) rfl))) (mvT hZ (hw _ (List.mem_of_getElem? (i := 19) rfl))) (mvT hZ (hw _ (List.mem_of_getElem? (i := 2) rfl))) (mvT hZ (hw _ (List.mem_of_getElem? (i := 20) rfl))) (by decide) (backOf (W := 2) (own_m3 l Z a0 hw [] w_UNKNOWN w_NO w_UNKNOWN w_YES h0 n0 Z0 S_NO S_UNKNOWN S_YES) hZ (hw _ (List.mem_of_getElem? (i := 20) rfl)) (hw _ (List.mem_of_getElem? (i := 2) rfl)) (by decide) (by decide)) (g := (mkF m 27 #[.val (.int p1), .val (.int p2), .val (.ref w_UNKNOWN), .val (.ref w_UNKNOWN), .val (.ref w_UNKNOWN)] [(.ref w_UNKNOWN), (.int (1 : Int32)), (.int (1 : Int32))])) rfl (by rw [hml]; rfl) (argsL := [(.ref w_UNKNOWN)]) (rest := [(.int (1 : Int32)), (.int (1 : Int32))]) (lenOf own_pd2 rfl) rfl (by show 2 * 0 + _ ≤ _; exact Nat.le_of_eq rfl) (hb hby at_27) (fun _ _ => ⟨rfl, e210, (by decide : 0 + 0 ≤ _), (by decide : 0 + 0 ≤ _)⟩)
          dsimp only [Pt.U, Pt.locs, Pt.cells, Pt.slots] at X213 l213 y213 z213 st213 hQ213
          subst l213 y213 z213
          rw [show own_f3 w_UNKNOWN w_NO w_UNKNOWN w_YES = (1 : Int32) from by unfold own_f3; rw [if_neg (show ¬ (w_UNKNOWN = w_NO) from (fun q => ne_NO_UNKNOWN (Eq.symm q))), if_pos (show w_UNKNOWN = w_UNKNOWN from rfl)]] at hQ213
          obtain ⟨rfl, N213q, e213⟩ := hQ213
          have N213 := Fr.app N210 N213q
          have k214 : own_To p.tables e below (s₁.setTop (entryFrame m #[(.int p1), (.int p2)] maxLocals)) T213 (mkF m 30 #[.val (.int p1), .val (.int p2), .val (.ref w_UNKNOWN), .val (.ref w_UNKNOWN), .val (.ref w_UNKNOWN)] [(.int (1 : Int32)), (.int (1 : Int32)), (.int (1 : Int32))]) := fun t k => k212 t (st213 t k)
          obtain ⟨_, _, ⟨T215, L215, k215, n215⟩, -, X215, ⟨Lc215, hQ215, l215, y215, z215⟩, st215⟩ := Jvm.LawKit.callS X213 hx (y := (⟨"java/lang/Math", "min", "(II)I"⟩ : MethodName)) hown (mvT hZ (hw _ (List.mem_of_getElem? (i := 23) rfl))) (mvT hZ (hw _ (List.mem_of_getElem? (i := 24) rfl))) (mvT hZ (hw _ (List.mem_of_getElem? (i := 25) rfl))) (mvT hZ (hw _ (List.mem_of_getElem? (i := 26) rfl))) (by decide) (backOf (W := 1) (own_m4 l Z a0 hw [] (1 : Int32) (1 : Int32) h0 n0 Z0 ) hZ (hw _ (List.mem_of_getElem? (i := 26) rfl)) (hw _ (List.mem_of_getElem? (i := 25) rfl)) (by decide) (by decide)) (g := (mkF m 30 #[.val (.int p1), .val (.int p2), .val (.ref w_UNKNOWN), .val (.ref w_UNKNOWN), .val (.ref w_UNKNOWN)] [(.int (1 : Int32)), (.int (1 : Int32)), (.int (1 : Int32))])) rfl (by rw [hml]; rfl) (argsL := [(.int (1 : Int32)), (.int (1 : Int32))]) (rest := [(.int (1 : Int32))]) (lenOf own_pd3 rfl) rfl (by show 2 * 0 + _ ≤ _; exact Nat.le_of_eq rfl) (hb hby at_30) (fun _ _ => ⟨rfl, e213, (by decide : 0 + 0 ≤ _), (by decide : 0 + 0 ≤ _)⟩)
          dsimp only [Pt.U, Pt.locs, Pt.cells, Pt.slots] at X215 l215 y215 z215 st215 hQ215
          subst l215 y215 z215
          rw [show own_f4 (1 : Int32) (1 : Int32) = (1 : Int32) from by unfold own_f4; rw [if_neg (show ¬ ((1 : Int32) < (1 : Int32)) from (by decide))]] at hQ215
          obtain ⟨rfl, N215q, e215⟩ := hQ215
          have N215 := Fr.app N213 N215q
          have k216 : own_To p.tables e below (s₁.setTop (entryFrame m #[(.int p1), (.int p2)] maxLocals)) T215 (mkF m 33 #[.val (.int p1), .val (.int p2), .val (.ref w_UNKNOWN), .val (.ref w_UNKNOWN), .val (.ref w_UNKNOWN)] [(.int (1 : Int32)), (.int (1 : Int32))]) := fun t k => k214 t (st215 t k)
          have k217 : own_To p.tables e below (s₁.setTop (entryFrame m #[(.int p1), (.int p2)] maxLocals)) T215 (mkF m 36 #[.val (.int p1), .val (.int p2), .val (.ref w_UNKNOWN), .val (.ref w_UNKNOWN), .val (.ref w_UNKNOWN)] []) := fun t k => k216 t (XS.icmpNo X215.here hx rfl (hb hby at_33) rfl (teq (show (1 : Int32) = (1 : Int32) from (by decide))).2 k)
          have k218 : own_To p.tables e below (s₁.setTop (entryFrame m #[(.int p1), (.int p2)] maxLocals)) T215 (mkF m 37 #[.val (.int p1), .val (.int p2), .val (.ref w_UNKNOWN), .val (.ref w_UNKNOWN), .val (.ref w_UNKNOWN)] [(.int (1 : Int32))]) := fun t k => k217 t (XS.iconst X215.here hx rfl (hb hby at_36) k)
          have k219 : own_To p.tables e below (s₁.setTop (entryFrame m #[(.int p1), (.int p2)] maxLocals)) T215 (mkF m 41 #[.val (.int p1), .val (.int p2), .val (.ref w_UNKNOWN), .val (.ref w_UNKNOWN), .val (.ref w_UNKNOWN)] [(.int (1 : Int32))]) := fun t k => k218 t (XS.goto X215.here hx rfl (pc0 := 37) (pc' := 41) rfl (hb hby at_37) (by decide) (by decide) k)
          obtain ⟨fs, hr, hrun, hended, hW, hsame⟩ := X215.leave (v := some (.int (1 : Int32))) (fun h => by rw [Bd.returns] at h; cases h)
          refine ⟨_, _, k219 _ ?_, hrun, hended, _, _, rfl, ?_, ⟨_, rfl⟩, hW, hsame.mono (by decide) (by decide)⟩
          · exact retN X215 hx (t := .boolean) Bd.returns (by simp) (hb hby at_41) hr
          · exact ⟨rfl, N215⟩
set_option maxRecDepth 65536 in
set_option maxHeartbeats 40000000 in
theorem comes_1 {Post : Tables → Env → Array Value → State → Outcome → State → Prop} (hpost : ∀ tb e args s v u, (limb_1_1.after args s (.returned v) u = true ∧ limb_1_2.after args s (.returned v) u = true ∧ True) → FrameEnd s (.returned v) u (Jvm.fieldLocs frame_1_writes args s ++ Jvm.arrayLocs frame_1_arrays args s ++ Jvm.staticLocs frame_1_statics s) 0 0 → Post tb e args s (.returned v) u) :
    ArmFor flags0 classFile x code maxLocals ret World_1 tables_1 room_1 Calls_1 rest_1 Pre_1 Post := by
  intro l hfl _ _ p e ha hc hk s m args below hf hA hF happ hP
  obtain ⟨hcalls, hrest, hpre⟩ := hP
  obtain ⟨-, -, -, hnamed, -, -, -, hat⟩ := (Spec.applies_iff hf).mp happ
  obtain ⟨hg, hn⟩ := and_e (Cond.before_iff.mp (show (Jvm.Cond.and given_1 narrow_1).before args s = true from hpre))
  obtain ⟨hg1, hg2⟩ := and_e hg
  obtain ⟨hg3, hg4⟩ := and_e hg2
  obtain ⟨w0, w1, rfl⟩ : ∃ w0 w1 : Value, args = #[w0, w1] := by
    have hs : args.size = 2 := by simpa [Cond.value, given_1] using hg1
    obtain ⟨L⟩ := args
    match L, hs with
    | [w0, w1], _ => exact ⟨w0, w1, rfl⟩
  have hw := fun d (hd : d ∈ tables_1) => atoms_spec (ws := Jvm.Cond.code x code maxLocals ret :: tables_1) hat d (List.mem_cons_of_mem _ hd)
  have hfit : Fit s := fun {y c} hc i hi => by
    obtain ⟨ha, rfl⟩ := Array.getElem?_eq_some_iff.mp hc
    have q := List.all_eq_true.mp ((Array.all_eq_true_iff_forall_mem.mp hF) _ (Array.getElem_mem ha)) i (List.mem_range.mpr hi)
    simpa [Array.getElem?_eq_getElem hi] using q
  obtain ⟨i0, ei0⟩ := is_v hg3
  obtain rfl : w0 = (.int i0) := Option.some.inj ei0
  obtain ⟨i1, ei1⟩ := is_v hg4
  obtain rfl : w1 = (.int i1) := Option.some.inj ei1
  obtain ⟨hn1, hn2⟩ := and_e hn
  obtain ⟨hn3, hn4⟩ := and_e hn2
  obtain ⟨hn5, hn6⟩ := and_e hn4
  obtain ⟨hn7, hn8⟩ := and_e hn6
  obtain ⟨hn9, hn10⟩ := and_e hn8
  obtain ⟨x_YES, ev_YES⟩ := exa_v hn1
  have E_YES := Exa.start ev_YES hn1
  have S_YES := Sta.start ev_YES (Or.inr ⟨(hw _ (List.mem_of_getElem? (i := 6) rfl)), (hw _ (List.mem_of_getElem? (i := 7) rfl))⟩)
  obtain ⟨x_UNKNOWN, ev_UNKNOWN⟩ := exa_v hn3
  have E_UNKNOWN := Exa.start ev_UNKNOWN hn3
  have S_UNKNOWN := Sta.start ev_UNKNOWN (Or.inr ⟨(hw _ (List.mem_of_getElem? (i := 6) rfl)), (hw _ (List.mem_of_getElem? (i := 14) rfl))⟩)
  obtain ⟨x_NO, ev_NO⟩ := exa_v hn5
  have E_NO := Exa.start ev_NO hn5
  have S_NO := Sta.start ev_NO (Or.inr ⟨(hw _ (List.mem_of_getElem? (i := 6) rfl)), (hw _ (List.mem_of_getElem? (i := 16) rfl))⟩)
  have F_YES := own_fldint ev_YES hn7
  have F_NO := own_fldint ev_NO hn9
  have F_UNKNOWN := own_fldint ev_UNKNOWN hn10
  obtain ⟨n, o, h1, h2, h3, _, L, rfl, ⟨rfl, N⟩, hq⟩ := own_m0 l s _ hw tables_1 i0 i1 x_YES x_NO x_UNKNOWN s.heap s.heap.size (Nat.le_refl _) S_YES S_NO S_UNKNOWN E_YES E_NO E_UNKNOWN (Fld.ne F_YES F_NO (fun q => absurd (Value.int.inj q) (by decide))) (Fld.ne F_YES F_UNKNOWN (fun q => absurd (Value.int.inj q) (by decide))) (Fld.ne F_NO F_UNKNOWN (fun q => absurd (Value.int.inj q) (by decide))) p e ha hc hk s m _ below hf ((Spec.applies_iff_loose hf).mp happ).1 ⟨rfl, State.Warmed39.refl s, rfl⟩ trivial
  refine ⟨n, _, h1, h2, h3, hpost _ _ _ _ _ _ ⟨Cond.after_iff.mpr rfl, Cond.after_iff.mpr (eq_i res_at (Term.int_eval (1)) rfl), trivial⟩ ⟨hq.1, hq.2.1, (hq.2.2.sift fun y hy => Or.inr (N y hy)).mono (by decide) (by decide)⟩⟩
theorem main_1_1 : Claimed_1_1 := comes_1 fun _ _ _ _ _ _ h hF => ⟨h.1, hF⟩
theorem main_1_2 : Claimed_1_2 := comes_1 fun _ _ _ _ _ _ h hF => ⟨h.2.1, hF⟩
end Jvm.Pilot.@@N@@
namespace Jvm.Pilot.@@N@@
open Jvm Jvm.ClassFile Sem Op Lib Jvm.Free Jvm.Stand Jvm.Pilot.@@N@@.Jvm.D
/-! MADE BY PROGRAM (witnessworld.py) out of the Statement's table words and the real class files: 13 classes; the members and pool entries that the words name. The judged class is class 1, her method 3. -/
namespace start1
open Jvm.ClassFile
def u (s : String) : CpInfo := .utf8 (stringToUtf16 s)
/-- a pool by its gaps: so many unusable entries, then the entry; so many at the end -/
def gap : Nat → List CpInfo → List CpInfo
  | 0, r => r
  | n + 1, r => .unusable :: gap n r
def poolList (es : List (Nat × CpInfo)) (last : Nat) : List CpInfo := es.foldr (fun e r => gap e.1 (e.2 :: r)) (gap last [])
def pool (es : List (Nat × CpInfo)) (last : Nat) : Array CpInfo := ⟨poolList es last⟩
def fileOf (pool : Array CpInfo) (this : Nat) (attrs : Array Attribute := #[]) (ms : Array MethodInfo := #[]) (fl : Nat := 33) (sup : Nat := 0) (ifs : Array Nat := #[]) (fds : Array FieldInfo := #[]) : ClassFile where
  minorVersion := 0
  majorVersion := 65
  constantPool := pool
  accessFlags := fl
  thisClass := this
  superClass := sup
  interfaces := ifs
  fields := fds
  methods := ms
  attributes := attrs
def plain (name : String) (sup : Option ClassId) : Class where
  name := name
  kind := .ordinary
  loader := none
  accessFlags := 33
  super := sup
  interfaces := #[]
  cf := none
  fields := #[]
  methods := #[]
  instanceTypes := #[]
  staticTypes := #[]
  resolved := #[]
  callSites := []
  init := .initialized
  statics := none
  mirror := none

def pool0 : Array CpInfo := pool [(5, u "<init>"), (0, u "()V"), (1, .class_ 10), (1, u "java/lang/Object")] 113

def k0m0 : Method := { name := "<init>", desc := "()V", sig := { parameters := [], returnType := none }, accessFlags := 1, code := none }
/-- java/lang/Object -/
def k0 : Class := { plain "java/lang/Object" none with
  accessFlags := 33
  interfaces := #[]
  cf := some (fileOf pool0 8 #[] #[{ accessFlags := 1, nameIndex := 5, descriptorIndex := 6, attributes := #[] }] 33 0 #[] #[])
  fields := #[]
  methods := #[k0m0]
  instanceTypes := #[]
  staticTypes := #[]
  resolved := Array.replicate 124 none
  statics := none }

def pool1 : Array CpInfo := pool [(2, .class_ 4), (1, u "java/lang/Object"), (0, u "<init>"), (0, u "()V"), (0, .integer 2147483647), (0, .fieldref 9 10), (0, .class_ 11), (0, .nameAndType 12 13), (0, u "com/example/witness/witness/value/NormalForm$Known"), (0, u "YES"), (0, u "Lcom/example/witness/witness/value/NormalForm$Known;"), (0, .fieldref 9 15), (0, .nameAndType 16 13), (0, u "NO"), (0, .fieldref 9 18), (0, .nameAndType 19 13), (0, u "UNKNOWN"), (0, .methodref 21 22), (0, .class_ 23), (0, .nameAndType 24 25), (0, u "com/example/witness/witness/value/KnownAndPinLaw"), (0, u "pick"), (0, u "(I)Lcom/example/witness/witness/value/NormalForm$Known;"), (0, .methodref 9 27), (0, .nameAndType 28 29), (0, u "and"), (0, u "(Lcom/example/witness/witness/value/NormalForm$Known;)Lcom/example/witness/witness/value/NormalForm$Known;"), (0, .methodref 21 31), (0, .nameAndType 32 33), (0, u "rank"), (0, u "(Lcom/example/witness/witness/value/NormalForm$Known;)I"), (0, .methodref 35 36), (0, .class_ 37), (0, .nameAndType 38 39), (0, u "java/lang/Math"), (0, u "min"), (0, u "(II)I"), (3, u "law"), (0, u "(II)Z")] 6

def k1m0 : Method := { name := "<init>", desc := "()V", sig := { parameters := [], returnType := none }, accessFlags := 2, code := none }
def k1c1 : Code := { maxStack := 2, maxLocals := 2, code := method_2_code, exceptionTable := #[], attributes := #[] }
def k1m1 : Method := { name := "pick", desc := "(I)Lcom/example/witness/witness/value/NormalForm$Known;", sig := { parameters := [.int], returnType := some (.object "com/example/witness/witness/value/NormalForm$Known") }, accessFlags := 10, code := some k1c1 }
def k1c2 : Code := { maxStack := 2, maxLocals := 1, code := method_3_code, exceptionTable := #[], attributes := #[] }
def k1m2 : Method := { name := "rank", desc := "(Lcom/example/witness/witness/value/NormalForm$Known;)I", sig := { parameters := [(.object "com/example/witness/witness/value/NormalForm$Known")], returnType := some .int }, accessFlags := 10, code := some k1c2 }
def k1c3 : Code := { maxStack := 3, maxLocals := 5, code := code, exceptionTable := #[], attributes := #[] }
def k1m3 : Method := { name := "law", desc := "(II)Z", sig := { parameters := [.int, .int], returnType := some .boolean }, accessFlags := 9, code := some k1c3 }
/-- com/example/witness/witness/value/KnownAndPinLaw -/
def k1 : Class := { plain "com/example/witness/witness/value/KnownAndPinLaw" (some 0) with
  accessFlags := 49
  interfaces := #[]
  cf := some (fileOf pool1 21 #[] #[{ accessFlags := 2, nameIndex := 5, descriptorIndex := 6, attributes := #[] }, { accessFlags := 10, nameIndex := 24, descriptorIndex := 25, attributes := #[] }, { accessFlags := 10, nameIndex := 32, descriptorIndex := 33, attributes := #[] }, { accessFlags := 9, nameIndex := 43, descriptorIndex := 44, attributes := #[] }] 49 2 #[] #[])
  fields := #[]
  methods := #[k1m0, k1m1, k1m2, k1m3]
  instanceTypes := #[]
  staticTypes := #[]
  resolved := Array.replicate 51 none
  statics := none }

def pool2 : Array CpInfo := pool [(1, .class_ 2), (0, u "java/lang/constant/Constable"), (0, .class_ 4), (0, u "java/lang/Object")] 6

/-- java/lang/constant/Constable -/
def k2 : Class := { plain "java/lang/constant/Constable" (some 0) with
  accessFlags := 1537
  interfaces := #[]
  cf := some (fileOf pool2 1 #[] #[] 1537 3 #[] #[])
  fields := #[]
  methods := #[]
  instanceTypes := #[]
  staticTypes := #[]
  resolved := Array.replicate 11 none
  statics := none }

def pool3 : Array CpInfo := pool [(1, .class_ 2), (0, u "java/lang/Comparable"), (0, .class_ 4), (0, u "java/lang/Object")] 7

/-- java/lang/Comparable -/
def k3 : Class := { plain "java/lang/Comparable" (some 0) with
  accessFlags := 1537
  interfaces := #[]
  cf := some (fileOf pool3 1 #[] #[] 1537 3 #[] #[])
  fields := #[]
  methods := #[]
  instanceTypes := #[]
  staticTypes := #[]
  resolved := Array.replicate 12 none
  statics := none }

def pool4 : Array CpInfo := pool [(1, .class_ 2), (0, u "java/io/Serializable"), (0, .class_ 4), (0, u "java/lang/Object")] 2

/-- java/io/Serializable -/
def k4 : Class := { plain "java/io/Serializable" (some 0) with
  accessFlags := 1537
  interfaces := #[]
  cf := some (fileOf pool4 1 #[] #[] 1537 3 #[] #[])
  fields := #[]
  methods := #[]
  instanceTypes := #[]
  staticTypes := #[]
  resolved := Array.replicate 7 none
  statics := none }

def pool5 : Array CpInfo := pool [(2, .class_ 4), (1, u "java/lang/Enum"), (0, u "name"), (0, u "Ljava/lang/String;"), (2, u "ordinal"), (0, u "I"), (1, .class_ 14), (1, u "java/lang/Object"), (4, u "hash"), (86, .class_ 108), (1, u "java/lang/Enum$EnumDesc"), (2, .class_ 112), (0, u "java/lang/constant/Constable"), (0, .class_ 114), (0, u "java/lang/Comparable"), (0, .class_ 116), (0, u "java/io/Serializable")] 87

/-- java/lang/Enum -/
def k5 : Class := { plain "java/lang/Enum" (some 0) with
  accessFlags := 1057
  interfaces := #[2, 3, 4]
  cf := some (fileOf pool5 2 #[.nestMembers #[106]] #[] 1057 12 #[111, 113, 115] #[{ accessFlags := 18, nameIndex := 5, descriptorIndex := 6, attributes := #[] }, { accessFlags := 18, nameIndex := 9, descriptorIndex := 10, attributes := #[] }, { accessFlags := 2, nameIndex := 19, descriptorIndex := 10, attributes := #[] }])
  fields := #[{ name := "name", type := (.object "java/lang/String"), accessFlags := 18, slot := 0, constantValue := 0 }, { name := "ordinal", type := .int, accessFlags := 18, slot := 1, constantValue := 0 }, { name := "hash", type := .int, accessFlags := 2, slot := 2, constantValue := 0 }]
  methods := #[]
  instanceTypes := #[(.object "java/lang/String"), .int, .int]
  staticTypes := #[]
  resolved := Array.replicate 204 none
  statics := none }

def pool6 : Array CpInfo := pool [(1, .class_ 2), (0, u "com/example/witness/witness/value/NormalForm$Known"), (0, .fieldref 1 4), (0, .nameAndType 5 6), (0, u "YES"), (0, u "Lcom/example/witness/witness/value/NormalForm$Known;"), (0, .fieldref 1 8), (0, .nameAndType 9 6), (0, u "NO"), (0, .fieldref 1 11), (0, .nameAndType 12 6), (0, u "UNKNOWN"), (2, u "$VALUES"), (0, u "[Lcom/example/witness/witness/value/NormalForm$Known;"), (6, .class_ 25), (1, u "java/lang/Enum"), (24, u "and"), (0, u "(Lcom/example/witness/witness/value/NormalForm$Known;)Lcom/example/witness/witness/value/NormalForm$Known;"), (6, .class_ 59), (0, u "com/example/witness/witness/value/NormalForm")] 2

def k6c0 : Code := { maxStack := 2, maxLocals := 3, code := prog_317_method_5_code, exceptionTable := #[], attributes := #[] }
def k6m0 : Method := { name := "and", desc := "(Lcom/example/witness/witness/value/NormalForm$Known;)Lcom/example/witness/witness/value/NormalForm$Known;", sig := { parameters := [(.object "com/example/witness/witness/value/NormalForm$Known")], returnType := some (.object "com/example/witness/witness/value/NormalForm$Known") }, accessFlags := 0, code := some k6c0 }
/-- com/example/witness/witness/value/NormalForm$Known -/
def k6 : Class := { plain "com/example/witness/witness/value/NormalForm$Known" (some 5) with
  accessFlags := 16432
  interfaces := #[]
  cf := some (fileOf pool6 1 #[.nestHost 58] #[{ accessFlags := 0, nameIndex := 50, descriptorIndex := 51, attributes := #[] }] 16432 23 #[] #[{ accessFlags := 16409, nameIndex := 5, descriptorIndex := 6, attributes := #[] }, { accessFlags := 16409, nameIndex := 9, descriptorIndex := 6, attributes := #[] }, { accessFlags := 16409, nameIndex := 12, descriptorIndex := 6, attributes := #[] }, { accessFlags := 4122, nameIndex := 15, descriptorIndex := 16, attributes := #[] }])
  fields := #[{ name := "YES", type := (.object "com/example/witness/witness/value/NormalForm$Known"), accessFlags := 16409, slot := 0, constantValue := 0 }, { name := "NO", type := (.object "com/example/witness/witness/value/NormalForm$Known"), accessFlags := 16409, slot := 1, constantValue := 0 }, { name := "UNKNOWN", type := (.object "com/example/witness/witness/value/NormalForm$Known"), accessFlags := 16409, slot := 2, constantValue := 0 }, { name := "$VALUES", type := (.array (.object "com/example/witness/witness/value/NormalForm$Known")), accessFlags := 4122, slot := 3, constantValue := 0 }]
  methods := #[k6m0]
  instanceTypes := #[(.object "java/lang/String"), .int, .int]
  staticTypes := #[(.object "com/example/witness/witness/value/NormalForm$Known"), (.object "com/example/witness/witness/value/NormalForm$Known"), (.object "com/example/witness/witness/value/NormalForm$Known"), (.array (.object "com/example/witness/witness/value/NormalForm$Known"))]
  resolved := Array.replicate 62 none
  statics := some 0 }

def pool7 : Array CpInfo := pool [(1, .class_ 2), (0, u "java/lang/Math"), (1, .class_ 6), (1, u "java/lang/Object"), (0, u "<init>"), (0, u "()V"), (89, .class_ 100), (1, u "java/lang/Math$RandomNumberGeneratorHolder"), (71, u "negativeZeroFloatBits"), (0, u "J"), (2, u "negativeZeroDoubleBits"), (24, u "min"), (43, u "$assertionsDisabled"), (0, u "Z"), (88, u "(II)I"), (2, u "twoToTheDoubleScaleDown"), (0, u "D"), (4, u "twoToTheDoubleScaleUp"), (9, u "E"), (3, u "PI"), (2, u "TAU"), (2, u "DEGREES_TO_RADIANS"), (0, u "RADIANS_TO_DEGREES")] 94

def k7m0 : Method := { name := "<init>", desc := "()V", sig := { parameters := [], returnType := none }, accessFlags := 2, code := none }
def k7c1 : Code := { maxStack := 2, maxLocals := 2, code := jdk_29_method_69_code, exceptionTable := #[], attributes := #[] }
def k7m1 : Method := { name := "min", desc := "(II)I", sig := { parameters := [.int, .int], returnType := some .int }, accessFlags := 9, code := some k7c1 }
/-- java/lang/Math -/
def k7 : Class := { plain "java/lang/Math" (some 0) with
  accessFlags := 49
  interfaces := #[]
  cf := some (fileOf pool7 1 #[.nestMembers #[98]] #[{ accessFlags := 2, nameIndex := 7, descriptorIndex := 8, attributes := #[] }, { accessFlags := 9, nameIndex := 201, descriptorIndex := 335, attributes := #[] }] 49 4 #[] #[{ accessFlags := 25, nameIndex := 354, descriptorIndex := 339, attributes := #[] }, { accessFlags := 25, nameIndex := 358, descriptorIndex := 339, attributes := #[] }, { accessFlags := 25, nameIndex := 361, descriptorIndex := 339, attributes := #[] }, { accessFlags := 26, nameIndex := 364, descriptorIndex := 339, attributes := #[] }, { accessFlags := 26, nameIndex := 365, descriptorIndex := 339, attributes := #[] }, { accessFlags := 26, nameIndex := 172, descriptorIndex := 173, attributes := #[] }, { accessFlags := 26, nameIndex := 176, descriptorIndex := 173, attributes := #[] }, { accessFlags := 8, nameIndex := 344, descriptorIndex := 339, attributes := #[] }, { accessFlags := 8, nameIndex := 338, descriptorIndex := 339, attributes := #[] }, { accessFlags := 4120, nameIndex := 245, descriptorIndex := 246, attributes := #[] }])
  fields := #[{ name := "E", type := .double, accessFlags := 25, slot := 0, constantValue := 0 }, { name := "PI", type := .double, accessFlags := 25, slot := 1, constantValue := 0 }, { name := "TAU", type := .double, accessFlags := 25, slot := 2, constantValue := 0 }, { name := "DEGREES_TO_RADIANS", type := .double, accessFlags := 26, slot := 3, constantValue := 0 }, { name := "RADIANS_TO_DEGREES", type := .double, accessFlags := 26, slot := 4, constantValue := 0 }, { name := "negativeZeroFloatBits", type := .long, accessFlags := 26, slot := 5, constantValue := 0 }, { name := "negativeZeroDoubleBits", type := .long, accessFlags := 26, slot := 6, constantValue := 0 }, { name := "twoToTheDoubleScaleUp", type := .double, accessFlags := 8, slot := 7, constantValue := 0 }, { name := "twoToTheDoubleScaleDown", type := .double, accessFlags := 8, slot := 8, constantValue := 0 }, { name := "$assertionsDisabled", type := .boolean, accessFlags := 4120, slot := 9, constantValue := 0 }]
  methods := #[k7m0, k7m1]
  instanceTypes := #[]
  staticTypes := #[.double, .double, .double, .double, .double, .long, .long, .double, .double, .boolean]
  resolved := Array.replicate 460 none
  statics := none }

def pool8 : Array CpInfo := pool [(1, u "java/lang/Cloneable"), (0, .class_ 1), (0, u "java/lang/Object"), (0, .class_ 3)] 3

/-- java/lang/Cloneable -/
def k8 : Class := { plain "java/lang/Cloneable" (some 0) with
  accessFlags := 1537
  interfaces := #[]
  cf := some (fileOf pool8 2 #[] #[] 1537 4 #[] #[])
  fields := #[]
  methods := #[]
  instanceTypes := #[]
  staticTypes := #[]
  resolved := Array.replicate 8 none
  statics := none }

/-- the primitive byte -/
def k9 : Class := { plain "byte" none with kind := .primitive 'B', accessFlags := 0x411 }
/-- [B -/
def k10 : Class := { plain "[B" (some 0) with kind := .array 9 .byte, interfaces := #[8, 4], accessFlags := 1041 }

/-- the primitive int -/
def k11 : Class := { plain "int" none with kind := .primitive 'I', accessFlags := 0x411 }
/-- [I -/
def k12 : Class := { plain "[I" (some 0) with kind := .array 11 .int, interfaces := #[8, 4], accessFlags := 1041 }

def heap : Heap := #[{ cls := 6, slots := #[.ref 1, .ref 3, .ref 2, .null], vm := .statics 6 },
  { cls := 6, slots := #[.null, .int 0, .int 0], vm := .none },
  { cls := 6, slots := #[.null, .int 2, .int 0], vm := .none },
  { cls := 6, slots := #[.null, .int 1, .int 0], vm := .none }]
def classes : Array Class := #[k0, k1, k2, k3, k4, k5, k6, k7, k8, k9, k10, k11, k12]
def interned : List (Array UInt16 × Addr) := []
def slotsUsed : Nat := 13
def theMethod : MethodId := ⟨1, 3⟩
def args0 : Array Value := #[.int 5, .int 7]
def aboutOver (below : List Frame) : State where
  vm := { classes := classes, interned := interned.toArray }
  heap := heap
  slotsUsed := slotsUsed
  threads := #[{ frames := .invoking theMethod args0 :: below }]
def below0 : List Frame := [.native { method := ⟨0, 0⟩, args := #[] }]
def about1 : State := aboutOver below0
def p0 : Program := .bare "" "" ""
def e0 : Env := launch0.env 0 0 0
theorem w_frames : about1.frames = Frame.invoking theMethod args0 :: below0 := rfl
set_option maxRecDepth 65536 in
theorem w_args : argsFit about1.vm theMethod args0 = true := by decide +kernel
set_option maxRecDepth 65536 in
theorem w_heap : heapFits about1 = true := by decide +kernel
set_option maxRecDepth 65536 in
theorem w_runnable : about1.curStatus? = some .runnable := by decide +kernel
set_option maxRecDepth 65536 in
theorem w_alone : about1.alone = true := by decide +kernel
set_option maxRecDepth 65536 in
theorem w_named : about1.methodNamed? x = some theMethod := by decide +kernel
set_option maxRecDepth 65536 in
theorem w_hears : about1.hears theMethod below0 = true := by decide +kernel
set_option maxRecDepth 65536 in
theorem w_ripe : about1.ripe theMethod args0 below0 = true := by decide +kernel
theorem w_running : about1.status = .running := rfl
set_option maxRecDepth 65536 in
theorem w_room : about1.hasRoom e0.platform room_1 = true :=
  launch0.hasRoom_least _ room_1 (by decide +kernel) (by decide +kernel) (by decide +kernel) (by decide +kernel) (by decide +kernel) (by decide +kernel)
theorem allAtoms_all (ts : List Jvm.Cond) (a : Array Jvm.Value) (st : Jvm.State) : (allAtoms ts).before a st = ts.all (fun c => c.before a st) := by
  induction ts with
  | nil => rfl
  | cons c t ih =>
    show (Jvm.Cond.and c (allAtoms t)).before a st = _
    rw [Jvm.Cond.before_and, ih, List.all_cons]
def words1 : List Jvm.Cond := Jvm.Cond.code x code maxLocals ret :: tables_1
/-- a 'code' word, met by the world's own term for the bytes: nothing is compared byte by byte -/
theorem code_word {y : MethodName} {bytes : ByteArray} {mx : Nat} {rt : Option FieldType} {a : Array Value} {s : State} {m : MethodId} {meth : Method} {c : Code} (h1 : s.methodNamed? y = some m) (h2 : s.vm.method? m = some meth) (h3 : meth.code = some c) (h4 : c.code = bytes)
    (h5 : (c.maxLocals == mx && c.exceptionTable.isEmpty && decide (c.maxStack ≤ mostOperands) && decide (meth.sig.returnType = rt) && !meth.locks && decide (parseMethodDescriptor y.desc = some meth.sig)) = true) : (Jvm.Cond.code y bytes mx rt).before a s = true := by
  simp only [Bool.and_eq_true, beq_iff_eq, Bool.not_eq_true', decide_eq_true_eq] at h5
  obtain ⟨⟨⟨⟨⟨g1, g2⟩, g3⟩, g4⟩, g5⟩, g6⟩ := h5
  simp [Cond.before, Cond.holds, Cond.value, h1, h2, h3, h4, g1, g2, g3, g4, g5, g6]
def isCode : Jvm.Cond → Bool
  | .code _ _ _ _ => true
  | _ => false
theorem all_split {L : List Jvm.Cond} {P : Jvm.Cond → Bool} (h1 : L.all (fun c => isCode c || P c) = true) (h2 : ∀ c ∈ L.filter isCode, P c = true) : L.all P = true := by
  refine List.all_eq_true.mpr fun c hc => ?_
  have h := List.all_eq_true.mp h1 c hc
  rcases Bool.eq_false_or_eq_true (isCode c) with hi | hi
  · exact h2 c (List.mem_filter.mpr ⟨hc, hi⟩)
  · simpa [hi] using h
set_option maxRecDepth 65536 in
theorem w_c0 : (Jvm.Cond.code x code maxLocals ret).before args0 about1 = true := code_word (m := ⟨1, 3⟩) (meth := k1m3) (c := k1c3) (by decide +kernel) rfl rfl rfl (by decide +kernel)
set_option maxRecDepth 65536 in
theorem w_c1 : (Jvm.Cond.code ({ cls := "com/example/witness/witness/value/KnownAndPinLaw", name := "pick", desc := "(I)Lcom/example/witness/witness/value/NormalForm$Known;" } : Jvm.MethodName) method_2_code (2 : Nat) (Option.some (Jvm.ClassFile.FieldType.object "com/example/witness/witness/value/NormalForm$Known"))).before args0 about1 = true := code_word (m := ⟨1, 1⟩) (meth := k1m1) (c := k1c1) (by decide +kernel) rfl rfl rfl (by decide +kernel)
set_option maxRecDepth 65536 in
theorem w_c2 : (Jvm.Cond.code ({ cls := "com/example/witness/witness/value/NormalForm$Known", name := "and", desc := "(Lcom/example/witness/witness/value/NormalForm$Known;)Lcom/example/witness/witness/value/NormalForm$Known;" } : Jvm.MethodName) prog_317_method_5_code (3 : Nat) (Option.some (Jvm.ClassFile.FieldType.object "com/example/witness/witness/value/NormalForm$Known"))).before args0 about1 = true := code_word (m := ⟨6, 0⟩) (meth := k6m0) (c := k6c0) (by decide +kernel) rfl rfl rfl (by decide +kernel)
set_option maxRecDepth 65536 in
theorem w_c3 : (Jvm.Cond.code ({ cls := "com/example/witness/witness/value/KnownAndPinLaw", name := "rank", desc := "(Lcom/example/witness/witness/value/NormalForm$Known;)I" } : Jvm.MethodName) method_3_code (1 : Nat) (Option.some Jvm.ClassFile.FieldType.int)).before args0 about1 = true := code_word (m := ⟨1, 2⟩) (meth := k1m2) (c := k1c2) (by decide +kernel) rfl rfl rfl (by decide +kernel)
set_option maxRecDepth 65536 in
theorem w_c4 : (Jvm.Cond.code ({ cls := "java/lang/Math", name := "min", desc := "(II)I" } : Jvm.MethodName) jdk_29_method_69_code (2 : Nat) (Option.some Jvm.ClassFile.FieldType.int)).before args0 about1 = true := code_word (m := ⟨7, 1⟩) (meth := k7m1) (c := k7c1) (by decide +kernel) rfl rfl rfl (by decide +kernel)
def codes1 : List Jvm.Cond := [Jvm.Cond.code x code maxLocals ret, Jvm.Cond.code ({ cls := "com/example/witness/witness/value/KnownAndPinLaw", name := "pick", desc := "(I)Lcom/example/witness/witness/value/NormalForm$Known;" } : Jvm.MethodName) method_2_code (2 : Nat) (Option.some (Jvm.ClassFile.FieldType.object "com/example/witness/witness/value/NormalForm$Known")), Jvm.Cond.code ({ cls := "com/example/witness/witness/value/NormalForm$Known", name := "and", desc := "(Lcom/example/witness/witness/value/NormalForm$Known;)Lcom/example/witness/witness/value/NormalForm$Known;" } : Jvm.MethodName) prog_317_method_5_code (3 : Nat) (Option.some (Jvm.ClassFile.FieldType.object "com/example/witness/witness/value/NormalForm$Known")), Jvm.Cond.code ({ cls := "com/example/witness/witness/value/KnownAndPinLaw", name := "rank", desc := "(Lcom/example/witness/witness/value/NormalForm$Known;)I" } : Jvm.MethodName) method_3_code (1 : Nat) (Option.some Jvm.ClassFile.FieldType.int), Jvm.Cond.code ({ cls := "java/lang/Math", name := "min", desc := "(II)I" } : Jvm.MethodName) jdk_29_method_69_code (2 : Nat) (Option.some Jvm.ClassFile.FieldType.int)]
set_option maxRecDepth 65536 in
theorem codes_eq : words1.filter isCode = codes1 := rfl
theorem w_codes : ∀ c ∈ words1.filter isCode, c.before args0 about1 = true := by
  rw [codes_eq]
  intro c hc
  simp only [codes1, List.mem_cons, List.not_mem_nil, or_false] at hc
  rcases hc with rfl | rfl | rfl | rfl | rfl
  · exact w_c0
  · exact w_c1
  · exact w_c2
  · exact w_c3
  · exact w_c4
set_option maxRecDepth 65536 in
theorem w_t1 : (words1.take 24).all (fun c => isCode c || c.before args0 about1) = true := by decide +kernel
set_option maxRecDepth 65536 in
theorem w_t2 : (words1.drop 24).all (fun c => isCode c || c.before args0 about1) = true := by decide +kernel
theorem w_tables : (allAtoms (Jvm.Cond.code x code maxLocals ret :: tables_1)).before args0 about1 = true := by
  rw [allAtoms_all]
  show words1.all (fun c => c.before args0 about1) = true
  refine all_split ?_ w_codes
  rw [← List.take_append_drop 24 words1, List.all_append, w_t1, w_t2]
  rfl
set_option maxRecDepth 65536 in
theorem w_case : (Jvm.Cond.and given_1 narrow_1).before args0 about1 = true := by decide +kernel
theorem w_applies : (headSpec (Jvm.Cond.code x code maxLocals ret :: tables_1) room_1).applies x e0.platform about1 = true :=
  (Spec.applies_iff w_frames).mpr ⟨w_running, w_runnable, w_alone, w_named, w_hears, w_ripe, w_room, w_tables⟩
theorem atStart : AtStart classFile x code maxLocals ret World_1 tables_1 room_1 Calls_1 rest_1 Pre_1 launch0 p0 e0 about1 theMethod args0 below0 :=
  ⟨lists_1, trivial, launch0.admits_env _ _ _, launch0.least_env, fairChoices_fair.cas, fairChoices_fair.clock, w_frames, w_args, w_heap, w_applies, trivial, trivial, w_case⟩
end start1
theorem witness_1 : WitnessClaimed_1 := ⟨start1.p0, start1.e0, start1.about1, start1.theMethod, start1.args0, start1.below0, start1.atStart⟩
end Jvm.Pilot.@@N@@
