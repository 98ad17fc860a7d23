import JvmDerived
import JvmDerived.Pilot.@@N@@Statement
import JvmDerived.Pilot.@@N@@Code
set_option linter.unusedVariables false
set_option linter.unusedSimpArgs false
namespace Jvm.RoadKit
open Sem ClassFile Op Lib Jvm.Stand Jvm.Free Jvm.LawKit
section New
variable {p : Program} {l : Launch} {e : Env} {R : Room} {s : State} {m : MethodId} {args : Array Value} {below : List Frame} {meth : Method} {c : Code} {T : State} {locs : List Loc} {cells slots : Nat}
theorem retI (X : Stand p l e R s m args below meth c T locs cells slots) (hx : p.tables.exec = Jvm.exec) {pc : Nat} {Ls : Array Slot} {z : Int32} {rest : List Value} (hret : meth.sig.returnType = some .int) (hd : decode c.code pc = .ok (.ireturn, 1)) {fs : List Frame}
    (hl : ∀ (f : JFrame) (acts : List Action), f.method = m → f.locked = none → f.entered = [] → (doReturn e (T.setTop f) acts (some (.int z))).1 = T.setFrames fs) : Steps p.tables e below (T.setTop (mkF m pc Ls (.int z :: rest))) (T.setFrames fs) := by
  have hm' : T.vm.method? m = some meth := X.method'
  have hn : narrow .int (.int z) = .int z := rfl
  show Steps p.tables e below (T.setTop { method := m, pc := pc, locals := Ls, stack := _ :: rest, locked := none }) _
  jvm_step X.here [X.here.top, hx, hd, hm', hret, hn]
  first | (intro acts; rw [hl _ acts rfl rfl rfl]) | rw [hl _ _ rfl rfl rfl]
  exact Steps.refl _
end New
end Jvm.RoadKit
/- laws to paste: Road.backV, Road.eqW, Road.codOf (cut by pick.py; bodies as the Statement names them) -/
namespace Jvm.Pilot.@@N@@
namespace StrChars
open Jvm Sem ClassFile Op Lib Jvm.Stand Jvm.Free.XT Jvm.Free.ALB Jvm.Free.JM Jvm.Free
open Jvm.Lib.Cold (StaticIs)
/-- a char array whose places are chars -/
def Ch (a : Addr) (A : Cell) (U : State) : Prop := Arr .char a A U ∧ Typed .char A
theorem Ch.mv {a : Addr} {A : Cell} {U U' : State} (h : Ch a A U) (hal : U.vm.Alike U'.vm) (hh : U'.heap = U.heap) : Ch a A U' := ⟨h.1.mv hal hh, h.2⟩
theorem Ch.keep {a : Addr} {A : Cell} {U U' : State} (h : Ch a A U) (hal : U.vm.Alike U'.vm) (hk : U'.heap[a]? = some A) : Ch a A U' := ⟨h.1.keep hal hk, h.2⟩
/-- what place i of a char[]'s cell holds -/
def cv (A : Cell) (i : Nat) : Int32 := match A.slots[i]? with | some (.int x) => x | _ => 0
theorem Ch.get {a : Addr} {A : Cell} {U : State} (h : Ch a A U) {i : Nat} (hi : i < A.slots.size) : A.slots[i]? = some (.int (cv A i)) := by
  have e := Array.getElem?_eq_getElem hi
  have f := h.2 i _ e
  unfold cv; rw [e]
  generalize A.slots[i] = v at f
  cases v <;> simp [fits] at f ⊢
/-- the byte that i2b leaves of a char -/
def lo8 (x : Int32) : Int32 := x.toInt8.toInt32
theorem fits_lo8 (y : Int32) : fits .byte (.int (lo8 y)) = true := by
  have h1 := y.toInt8.le_toInt
  have h2 := y.toInt8.toInt_lt
  simp only [lo8, fits, Bool.and_eq_true, decide_eq_true_eq, Int32.le_iff_toInt_le, Int8.toInt_toInt32, show (-128 : Int32).toInt = -128 from by decide, show (127 : Int32).toInt = 127 from by decide]
  omega
/-- A' is A but that each place j of lo .. hi - 1 holds f j -/
def Laid (A A' : Cell) (lo hi : Nat) (f : Nat → Value) : Prop := A'.cls = A.cls ∧ A'.vm = A.vm ∧ A'.slots.size = A.slots.size ∧ ∀ i, A'.slots[i]? = if lo ≤ i ∧ i < hi then some (f i) else A.slots[i]?
theorem Laid.zero (A : Cell) (lo : Nat) (f : Nat → Value) : Laid A A lo (lo + 0) f := ⟨rfl, rfl, rfl, fun i => by rw [if_neg (by omega)]⟩
theorem Laid.step {A Ak : Cell} {lo k : Nat} {f : Nat → Value} {v : Value} (h : Laid A Ak lo k f) (hlo : lo ≤ k) (hk : k < Ak.slots.size) (hv : v = f k) : Laid A (Ak.setSlot k v) lo (k + 1) f := by
  refine ⟨h.1, h.2.1, by simpa [Cell.setSlot] using h.2.2.1, fun i => ?_⟩
  by_cases e : k = i
  · subst e; rw [Cell.slots_setSlot_self v hk, if_pos (by omega), hv]
  · rw [Cell.slots_setSlot_ne v e, h.2.2.2 i]
    by_cases q : lo ≤ i ∧ i < k
    · rw [if_pos q, if_pos (by omega)]
    · rw [if_neg q, if_neg (by omega)]
def U16 : String := "java/lang/StringUTF16"
namespace Cmp5
def yN : MethodName := ⟨"java/lang/StringUTF16", "compress", "([CI[BII)I"⟩
abbrev yB : ByteArray := jdk_52_method_21_code
theorem d0 : decode yB 0 = .ok (.iconst 0, 1) := by decide +kernel
theorem d1 : decode yB 1 = .ok (.istore 5, 2) := by decide +kernel
theorem d3 : decode yB 3 = .ok (.iload 5, 2) := by decide +kernel
theorem d5 : decode yB 5 = .ok (.iload 4, 2) := by decide +kernel
theorem d7 : decode yB 7 = .ok (.if_icmp (.ge) 37, 3) := by decide +kernel
theorem d10 : decode yB 10 = .ok (.aload_n 0, 1) := by decide +kernel
theorem d11 : decode yB 11 = .ok (.iload_n 1, 1) := by decide +kernel
theorem d12 : decode yB 12 = .ok (.caload, 1) := by decide +kernel
theorem d13 : decode yB 13 = .ok (.istore 6, 2) := by decide +kernel
theorem d15 : decode yB 15 = .ok (.iload 6, 2) := by decide +kernel
theorem d17 : decode yB 17 = .ok (.sipush 255, 3) := by decide +kernel
theorem d20 : decode yB 20 = .ok (.if_icmp (.le) 6, 3) := by decide +kernel
theorem d26 : decode yB 26 = .ok (.aload_n 2, 1) := by decide +kernel
theorem d27 : decode yB 27 = .ok (.iload_n 3, 1) := by decide +kernel
theorem d28 : decode yB 28 = .ok (.iload 6, 2) := by decide +kernel
theorem d30 : decode yB 30 = .ok (.i2b, 1) := by decide +kernel
theorem d31 : decode yB 31 = .ok (.bastore, 1) := by decide +kernel
theorem d32 : decode yB 32 = .ok (.iinc 1 1, 3) := by decide +kernel
theorem d35 : decode yB 35 = .ok (.iinc 3 1, 3) := by decide +kernel
theorem d38 : decode yB 38 = .ok (.iinc 5 1, 3) := by decide +kernel
theorem d41 : decode yB 41 = .ok (.goto (-38), 3) := by decide +kernel
theorem d44 : decode yB 44 = .ok (.iload 4, 2) := by decide +kernel
theorem d46 : decode yB 46 = .ok (.ireturn, 1) := by decide +kernel
def site : List Cond := []
def tab : Cond := tabOf yN yB 7 (some .int) site
def P (b : Addr) (A : Cell) (d : Addr) (B : Cell) (o q len : Nat) (args : Array Value) (s : State) : Prop := args = #[.ref b, .int (Int32.ofNat o), .ref d, .int (Int32.ofNat q), .int (Int32.ofNat len)] ∧ Ch b A s ∧ Arr .byte d B s ∧ b ≠ d ∧ o + len ≤ A.slots.size ∧ q + len ≤ B.slots.size ∧ ∀ i, i < len → ¬ 255 < cv A (o + i)
def E (b : Addr) (A : Cell) (d : Addr) (B : Cell) (o q len : Nat) (r : Option Value) (s u : State) : Prop := r = some (.int (Int32.ofNat len)) ∧ ∃ B', Put d B' s u ∧ Laid B B' q (q + len) (fun j => Value.int (lo8 (cv A (o + (j - q)))))
/-- no char of the range above 255: len; the places written hold each char's low byte -/
theorem law (l : Launch) (b : Addr) (A : Cell) (d : Addr) (B : Cell) (o q len : Nat) : Law l yN 5 5 0 0 yB 7 (some .int) site (P b A d B o q len) (E b A d B o q len) (copyLocs d q len) 0 0 := by
  refine Law.of_walk (plainFor_of_name (by decide +kernel)) (by decide +kernel) (by decide +kernel) (by decide) (fun _ _ h => by rw [h.1]; rfl) (fun _ U U' hal hh h => ⟨h.1, h.2.1.mv hal hh, h.2.2.1.mv hal hh, h.2.2.2⟩) (fun r U U' V V' h1 hal h2 h => ⟨h.1, h.2.elim fun B' q => ⟨B', q.1.mv h1 h2, q.2⟩⟩) ?_
  intro p e s m args below meth c s₁ X0 hexec hbytes hml hret hlk hnm hown hh0 W hP
  obtain ⟨rfl, hA, hB, hne, l1, l2, hp⟩ := hP
  have c1 : Steps p.tables e below (s₁.setTop (entryFrame m #[.ref b, .int (Int32.ofNat o), .ref d, .int (Int32.ofNat q), .int (Int32.ofNat len)] 7)) (s₁.setTop (mkF m 0 #[.val (.ref b), .val (.int (Int32.ofNat o)), .val (.ref d), .val (.int (Int32.ofNat q)), .val (.int (Int32.ofNat len)), .unset, .unset] [])) := entry rfl
  have hA0 := hA.1.mv X0.warmed.alike hh0
  have hB0 := hB.mv X0.warmed.alike hh0
  have a31 := hA.1.2.2.2
  have c2 : Steps p.tables e below (s₁.setTop (entryFrame m #[.ref b, .int (Int32.ofNat o), .ref d, .int (Int32.ofNat q), .int (Int32.ofNat len)] 7)) (s₁.setTop (mkF m 3 #[.val (.ref b), .val (.int (Int32.ofNat o)), .val (.ref d), .val (.int (Int32.ofNat q)), .val (.int (Int32.ofNat len)), .val (.int 0), .unset] [])) := c1.trans (by
    refine iconstV X0.here hexec rfl 0 (hb hbytes d0) (by decide) ?_
    refine XS.istore X0.here hexec rfl (hb hbytes d1) rfl rfl ?_
    exact Steps.refl _)
  have loop : ∀ (r i : Nat), i + r = len → ∀ (z : Slot), (z = .unset ∨ ∃ w, z = .val w ∧ w.category = 1) → ∀ (Tl : State) (Bk : Cell), Stand p l e { frames := 0, locals := 0, cells := 0, slots := 0 } s m #[.ref b, .int (Int32.ofNat o), .ref d, .int (Int32.ofNat q), .int (Int32.ofNat len)] below meth c Tl ([] ++ copyLocs d q i) 0 0 → Put d Bk s₁ Tl → Laid B Bk q (q + i) (fun j => Value.int (lo8 (cv A (o + (j - q))))) →
      Steps p.tables e below (s₁.setTop (entryFrame m #[.ref b, .int (Int32.ofNat o), .ref d, .int (Int32.ofNat q), .int (Int32.ofNat len)] 7)) (Tl.setTop (mkF m 3 #[.val (.ref b), .val (.int (Int32.ofNat (o + i))), .val (.ref d), .val (.int (Int32.ofNat (q + i))), .val (.int (Int32.ofNat len)), .val (.int (Int32.ofNat i)), z] [])) → ∃ (T' : State) (B' : Cell) (z' : Slot), Stand p l e { frames := 0, locals := 0, cells := 0, slots := 0 } s m #[.ref b, .int (Int32.ofNat o), .ref d, .int (Int32.ofNat q), .int (Int32.ofNat len)] below meth c T' ([] ++ copyLocs d q len) 0 0 ∧ Put d B' s₁ T' ∧ Laid B B' q (q + len) (fun j => Value.int (lo8 (cv A (o + (j - q))))) ∧
      Steps p.tables e below (s₁.setTop (entryFrame m #[.ref b, .int (Int32.ofNat o), .ref d, .int (Int32.ofNat q), .int (Int32.ofNat len)] 7)) (T'.setTop (mkF m 3 #[.val (.ref b), .val (.int (Int32.ofNat (o + len))), .val (.ref d), .val (.int (Int32.ofNat (q + len))), .val (.int (Int32.ofNat len)), .val (.int (Int32.ofNat len)), z'] [])) := by
    intro r
    induction r with
    | zero =>
      intro i hi z hz Tl Bk Xl pl fl cl
      have hil : i = len := by omega
      rw [hil] at Xl fl cl
      exact ⟨Tl, Bk, z, Xl, pl, fl, cl⟩
    | succ r ih =>
      intro i hi z hz Tl Bk Xl pl fl cl
      have all := X0.warmed.alike.symm.trans Xl.warmed.alike
      have hAl := hA0.keep all (pl.other hne hA0.1)
      have hBk := hB0.like all pl.1 fl.1 fl.2.1 fl.2.2.1
      have hlt : q + i < Bk.slots.size := by rw [fl.2.2.1]; omega
      have c3 : Steps p.tables e below (s₁.setTop (entryFrame m #[.ref b, .int (Int32.ofNat o), .ref d, .int (Int32.ofNat q), .int (Int32.ofNat len)] 7)) (Tl.setTop (mkF m 12 #[.val (.ref b), .val (.int (Int32.ofNat (o + i))), .val (.ref d), .val (.int (Int32.ofNat (q + i))), .val (.int (Int32.ofNat len)), .val (.int (Int32.ofNat i)), z] [.int (Int32.ofNat (o + i)), .ref b])) := cl.trans (by
        refine XS.iload Xl.here hexec rfl (hb hbytes d3) rfl ?_
        refine XS.iload Xl.here hexec rfl (hb hbytes d5) rfl ?_
        refine XS.icmpNo Xl.here hexec rfl (hb hbytes d7) rfl (ii_ge_f (lt32 (by omega) (by omega))) ?_
        refine XS.aloadN Xl.here hexec rfl (hb hbytes d10) rfl rfl ?_
        refine XS.iloadN Xl.here hexec rfl (hb hbytes d11) rfl ?_
        exact Steps.refl _)
      have c4 : Steps p.tables e below (s₁.setTop (entryFrame m #[.ref b, .int (Int32.ofNat o), .ref d, .int (Int32.ofNat q), .int (Int32.ofNat len)] 7)) (Tl.setTop (mkF m 13 #[.val (.ref b), .val (.int (Int32.ofNat (o + i))), .val (.ref d), .val (.int (Int32.ofNat (q + i))), .val (.int (Int32.ofNat len)), .val (.int (Int32.ofNat i)), z] [.int (cv A (o + i))])) := c3.trans (by
        refine Xl.aget hexec hAl rfl (hA.get (i := o + i) (by omega)) rfl rfl (hb hbytes d12) ?_
        exact Steps.refl _)
      have c5 : Steps p.tables e below (s₁.setTop (entryFrame m #[.ref b, .int (Int32.ofNat o), .ref d, .int (Int32.ofNat q), .int (Int32.ofNat len)] 7)) (Tl.setTop (mkF m 15 #[.val (.ref b), .val (.int (Int32.ofNat (o + i))), .val (.ref d), .val (.int (Int32.ofNat (q + i))), .val (.int (Int32.ofNat len)), .val (.int (Int32.ofNat i)), .val (.int (cv A (o + i)))] [])) := c4.trans (by
        refine XS.istoreS Xl.here hexec rfl (hb hbytes d13) rfl rfl hz ?_
        exact Steps.refl _)
      have c6 : Steps p.tables e below (s₁.setTop (entryFrame m #[.ref b, .int (Int32.ofNat o), .ref d, .int (Int32.ofNat q), .int (Int32.ofNat len)] 7)) (Tl.setTop (mkF m 31 #[.val (.ref b), .val (.int (Int32.ofNat (o + i))), .val (.ref d), .val (.int (Int32.ofNat (q + i))), .val (.int (Int32.ofNat len)), .val (.int (Int32.ofNat i)), .val (.int (cv A (o + i)))] [.int (lo8 (cv A (o + i))), .int (Int32.ofNat (q + i)), .ref d])) := c5.trans (by
        refine XS.iload Xl.here hexec rfl (hb hbytes d15) rfl ?_
        refine sipushV Xl.here hexec rfl 255 (hb hbytes d17) (by decide) ?_
        refine XS.icmpYes Xl.here hexec rfl (pc0 := 20) rfl (hb hbytes d20) rfl (ii_le_t (hp i (by omega))) (by decide) rfl ?_
        refine XS.aloadN Xl.here hexec rfl (hb hbytes d26) rfl rfl ?_
        refine XS.iloadN Xl.here hexec rfl (hb hbytes d27) rfl ?_
        refine XS.iload Xl.here hexec rfl (hb hbytes d28) rfl ?_
        refine i2b Xl.here hexec rfl (hb hbytes d30) rfl ?_
        exact Steps.refl _)
      obtain ⟨T7, X7, p7, st7⟩ := Xl.aput hexec hBk rfl hlt rfl (fits_lo8 (cv A (o + i))) (g := (mkF m 31 #[.val (.ref b), .val (.int (Int32.ofNat (o + i))), .val (.ref d), .val (.int (Int32.ofNat (q + i))), .val (.int (Int32.ofNat len)), .val (.int (Int32.ofNat i)), .val (.int (cv A (o + i)))] [.int (lo8 (cv A (o + i))), .int (Int32.ofNat (q + i)), .ref d])) rfl (rest := []) rfl (hb hbytes d31)
      have c8 : Steps p.tables e below (s₁.setTop (entryFrame m #[.ref b, .int (Int32.ofNat o), .ref d, .int (Int32.ofNat q), .int (Int32.ofNat len)] 7)) (T7.setTop (mkF m 32 #[.val (.ref b), .val (.int (Int32.ofNat (o + i))), .val (.ref d), .val (.int (Int32.ofNat (q + i))), .val (.int (Int32.ofNat len)), .val (.int (Int32.ofNat i)), .val (.int (cv A (o + i)))] [])) := c6.trans (st7 _ (Steps.refl _))
      have c9 : Steps p.tables e below (s₁.setTop (entryFrame m #[.ref b, .int (Int32.ofNat o), .ref d, .int (Int32.ofNat q), .int (Int32.ofNat len)] 7)) (T7.setTop (mkF m 3 #[.val (.ref b), .val (.int (Int32.ofNat (o + i) + 1)), .val (.ref d), .val (.int (Int32.ofNat (q + i) + 1)), .val (.int (Int32.ofNat len)), .val (.int (Int32.ofNat i + 1)), .val (.int (cv A (o + i)))] [])) := c8.trans (by
        refine iincV X7.here hexec rfl 1 (hb hbytes d32) (by decide) rfl rfl ?_
        refine iincV X7.here hexec rfl 1 (hb hbytes d35) (by decide) rfl rfl ?_
        refine iincV X7.here hexec rfl 1 (hb hbytes d38) (by decide) rfl rfl ?_
        refine XS.goto X7.here hexec rfl (pc0 := 41) rfl (hb hbytes d41) (by decide) rfl ?_
        exact Steps.refl _)
      have c10 : Steps p.tables e below (s₁.setTop (entryFrame m #[.ref b, .int (Int32.ofNat o), .ref d, .int (Int32.ofNat q), .int (Int32.ofNat len)] 7)) (T7.setTop (mkF m 3 #[.val (.ref b), .val (.int (Int32.ofNat (o + (i + 1)))), .val (.ref d), .val (.int (Int32.ofNat (q + (i + 1)))), .val (.int (Int32.ofNat len)), .val (.int (Int32.ofNat (i + 1))), .val (.int (cv A (o + i)))] [])) := by
        have := c9
        rw [succ32, succ32, succ32] at this
        exact this
      exact ih (i + 1) (by omega) _ (Or.inr ⟨_, rfl, rfl⟩) T7 _ (by rw [copyLocs_step, ← List.append_assoc]; exact X7) (pl.trans p7) (fl.step (by omega) hlt (by simp)) c10
  obtain ⟨T9, B9, z9, X9, p9, f9, g9⟩ := loop len 0 (by omega) .unset (Or.inl rfl) s₁ B (by simpa [copyLocs] using X0) ⟨hB0.1, fun _ _ => rfl, rfl⟩ (Laid.zero _ _ _) c2
  have c11 : Steps p.tables e below (s₁.setTop (entryFrame m #[.ref b, .int (Int32.ofNat o), .ref d, .int (Int32.ofNat q), .int (Int32.ofNat len)] 7)) (T9.setTop (mkF m 46 #[.val (.ref b), .val (.int (Int32.ofNat (o + len))), .val (.ref d), .val (.int (Int32.ofNat (q + len))), .val (.int (Int32.ofNat len)), .val (.int (Int32.ofNat len)), z9] [.int (Int32.ofNat len)])) := g9.trans (by
    refine XS.iload X9.here hexec rfl (hb hbytes d3) rfl ?_
    refine XS.iload X9.here hexec rfl (hb hbytes d5) rfl ?_
    refine XS.icmpYes X9.here hexec rfl (pc0 := 7) rfl (hb hbytes d7) rfl (ii_ge_t (nlt32 (by omega) (Nat.le_refl _))) (by decide) rfl ?_
    refine XS.iload X9.here hexec rfl (hb hbytes d44) rfl ?_
    exact Steps.refl _)
  exact ⟨T9, some (.int (Int32.ofNat len)), _, _, _, X9, by simp, rfl, rfl, (fun h => by cases h), ⟨rfl, B9, p9.from hh0, f9⟩, fun fs hl => c11.trans (X9.ireturnOut hexec hret rfl (Or.inl rfl) (hb hbytes d46) hl)⟩
end Cmp5
namespace Cmp3
def yN : MethodName := ⟨"java/lang/StringUTF16", "compress", "([CII)[B"⟩
abbrev yB : ByteArray := jdk_52_method_16_code
theorem d0 : decode yB 0 = .ok (.iload_n 2, 1) := by decide +kernel
theorem d1 : decode yB 1 = .ok (.newarray .byte, 2) := by decide +kernel
theorem d3 : decode yB 3 = .ok (.astore_n 3, 1) := by decide +kernel
theorem d4 : decode yB 4 = .ok (.aload_n 0, 1) := by decide +kernel
theorem d5 : decode yB 5 = .ok (.iload_n 1, 1) := by decide +kernel
theorem d6 : decode yB 6 = .ok (.aload_n 3, 1) := by decide +kernel
theorem d7 : decode yB 7 = .ok (.iconst 0, 1) := by decide +kernel
theorem d8 : decode yB 8 = .ok (.iload_n 2, 1) := by decide +kernel
theorem d9 : decode yB 9 = .ok (.invokestatic 115, 3) := by decide +kernel
theorem d12 : decode yB 12 = .ok (.istore 4, 2) := by decide +kernel
theorem d14 : decode yB 14 = .ok (.iload 4, 2) := by decide +kernel
theorem d16 : decode yB 16 = .ok (.iload_n 2, 1) := by decide +kernel
theorem d17 : decode yB 17 = .ok (.if_icmp (.eq) 40, 3) := by decide +kernel
theorem d57 : decode yB 57 = .ok (.aload_n 3, 1) := by decide +kernel
theorem d58 : decode yB 58 = .ok (.areturn, 1) := by decide +kernel
def site : List Cond := [.arrayClass .byte, Cmp5.tab] ++ staticW U16 115 Cmp5.yN
def tab : Cond := tabOf yN yB 6 (some (.array .byte)) site
def P (b : Addr) (A : Cell) (o len : Nat) (args : Array Value) (s : State) : Prop := args = #[.ref b, .int (Int32.ofNat o), .int (Int32.ofNat len)] ∧ Ch b A s ∧ o + len ≤ A.slots.size ∧ len ≤ 536870912 ∧ ∀ i, i < len → ¬ 255 < cv A (o + i)
def E (b : Addr) (A : Cell) (o len : Nat) (r : Option Value) (s u : State) : Prop := NewArr .byte "[B" len (fun j => .int (lo8 (cv A (o + j)))) r s u ∧ u.heap.size = s.heap.size + 1
/-- no char of the range above 255: a new byte[] of their low bytes -/
theorem law (l : Launch) (b : Addr) (A : Cell) (o len : Nat) : Law l yN 3 3 1 18 yB 6 (some (.array .byte)) site (P b A o len) (E b A o len) [] 1 len := by
  refine Law.of_walk (plainFor_of_name (by decide +kernel)) (by decide +kernel) (by decide +kernel) (by decide) (fun _ _ h => by rw [h.1]; rfl) (fun _ U U' hal hh h => ⟨h.1, h.2.1.mv hal hh, h.2.2⟩) (fun r U U' V V' h1 hal h2 h => ⟨NewArr.mv r U U' V V' h1 hal h2 h.1, by rw [h1, h2]; exact h.2⟩) ?_
  intro p e s m args below meth c s₁ X0 hexec hbytes hml hret hlk hnm hown hh0 W hP
  obtain ⟨rfl, hA, l1, l2, hp⟩ := hP
  have a31 := hA.1.2.2.2
  have c1 : Steps p.tables e below (s₁.setTop (entryFrame m #[.ref b, .int (Int32.ofNat o), .int (Int32.ofNat len)] 6)) (s₁.setTop (mkF m 0 #[.val (.ref b), .val (.int (Int32.ofNat o)), .val (.int (Int32.ofNat len)), .unset, .unset, .unset] [])) := entry rfl
  have c2 : Steps p.tables e below (s₁.setTop (entryFrame m #[.ref b, .int (Int32.ofNat o), .int (Int32.ofNat len)] 6)) (s₁.setTop (mkF m 1 #[.val (.ref b), .val (.int (Int32.ofNat o)), .val (.int (Int32.ofNat len)), .unset, .unset, .unset] [.int (Int32.ofNat len)])) := c1.trans (by
    refine XS.iloadN X0.here hexec rfl (hb hbytes d0) rfl ?_
    exact Steps.refl _)
  obtain ⟨T3, B3, X3, ba3, bs3, bv3, bh3, bf3, st3⟩ := X0.anew hexec (atype := .byte) (wk W (.arrayClass .byte)) rfl (by show len * 1 ≤ _; omega) (by omega) (g := (mkF m 1 #[.val (.ref b), .val (.int (Int32.ofNat o)), .val (.int (Int32.ofNat len)), .unset, .unset, .unset] [.int (Int32.ofNat len)])) rfl (hb hbytes d1) (rest := []) rfl (Nat.le_refl _) (by show 0 + len ≤ len; omega)
  rw [hh0] at ba3 st3
  have kp3 : XT.Kept s T3 := (XT.Kept.of_eq hh0).push bh3
  have hA3 := hA.keep X3.warmed.alike (kp3 _ _ hA.1.1)
  have hne : b ≠ s.heap.size := hA.1.ne
  have c4 : Steps p.tables e below (s₁.setTop (entryFrame m #[.ref b, .int (Int32.ofNat o), .int (Int32.ofNat len)] 6)) (T3.setTop (mkF m 3 #[.val (.ref b), .val (.int (Int32.ofNat o)), .val (.int (Int32.ofNat len)), .unset, .unset, .unset] [.ref s.heap.size])) := c2.trans (st3 _ (Steps.refl _))
  have c5 : Steps p.tables e below (s₁.setTop (entryFrame m #[.ref b, .int (Int32.ofNat o), .int (Int32.ofNat len)] 6)) (T3.setTop (mkF m 9 #[.val (.ref b), .val (.int (Int32.ofNat o)), .val (.int (Int32.ofNat len)), .val (.ref s.heap.size), .unset, .unset] [.int (Int32.ofNat len), .int 0, .ref s.heap.size, .int (Int32.ofNat o), .ref b])) := c4.trans (by
    refine XS.astoreN X3.here hexec rfl (hb hbytes d3) rfl rfl rfl ?_
    refine XS.aloadN X3.here hexec rfl (hb hbytes d4) rfl rfl ?_
    refine XS.iloadN X3.here hexec rfl (hb hbytes d5) rfl ?_
    refine XS.aloadN X3.here hexec rfl (hb hbytes d6) rfl rfl ?_
    refine iconstV X3.here hexec rfl 0 (hb hbytes d7) (by decide) ?_
    refine XS.iloadN X3.here hexec rfl (hb hbytes d8) rfl ?_
    exact Steps.refl _)
  obtain ⟨v6, T6, X6, E6, g6⟩ := X3.callS hexec (Cmp5.law l b A s.heap.size B3 o 0 len) hown (wks W (staticW U16 115 Cmp5.yN)) (wk W Cmp5.tab) (W := 0) (Nat.le_of_ble_eq_true rfl) (Nat.le_of_ble_eq_true rfl) (Nat.le_refl _) (by show 0 + len + 0 ≤ len; omega) (g := (mkF m 9 #[.val (.ref b), .val (.int (Int32.ofNat o)), .val (.int (Int32.ofNat len)), .val (.ref s.heap.size), .unset, .unset] [.int (Int32.ofNat len), .int (Int32.ofNat 0), .ref s.heap.size, .int (Int32.ofNat o), .ref b])) rfl (by rw [hml]; rfl) c5 (argsL := [.ref b, .int (Int32.ofNat o), .ref s.heap.size, .int (Int32.ofNat 0), .int (Int32.ofNat len)]) (rest := []) rfl rfl (by show 2 * 0 + 0 ≤ _; decide) (hb hbytes d9) (⟨rfl, hA3, ba3, hne, l1, by rw [bs3]; simp, hp⟩)
  obtain ⟨rfl, B6, p6, f6⟩ := E6
  have c7 : Steps p.tables e below (s₁.setTop (entryFrame m #[.ref b, .int (Int32.ofNat o), .int (Int32.ofNat len)] 6)) (T6.setTop (mkF m 12 #[.val (.ref b), .val (.int (Int32.ofNat o)), .val (.int (Int32.ofNat len)), .val (.ref s.heap.size), .unset, .unset] [.int (Int32.ofNat len)])) := g6
  have c8 : Steps p.tables e below (s₁.setTop (entryFrame m #[.ref b, .int (Int32.ofNat o), .int (Int32.ofNat len)] 6)) (T6.setTop (mkF m 58 #[.val (.ref b), .val (.int (Int32.ofNat o)), .val (.int (Int32.ofNat len)), .val (.ref s.heap.size), .val (.int (Int32.ofNat len)), .unset] [.ref s.heap.size])) := c7.trans (by
    refine XS.istore X6.here hexec rfl (hb hbytes d12) rfl rfl ?_
    refine XS.iload X6.here hexec rfl (hb hbytes d14) rfl ?_
    refine XS.iloadN X6.here hexec rfl (hb hbytes d16) rfl ?_
    refine XS.icmpYes X6.here hexec rfl (pc0 := 17) rfl (hb hbytes d17) rfl (ii_eq_t rfl) (by decide) rfl ?_
    refine XS.aloadN X6.here hexec rfl (hb hbytes d57) rfl rfl ?_
    exact Steps.refl _)
  have X8 := X6.wide (L' := []) (cells' := 1) (slots' := len) (fun x hx hlt => by
    simp only [List.nil_append, copyLocs, List.mem_map, List.mem_range] at hx
    obtain ⟨i, -, rfl⟩ := hx
    exact absurd hlt (Nat.lt_irrefl _)) (Nat.le_refl _) (by omega)
  exact ⟨T6, some (.ref s.heap.size), _, _, _, X8, rfl, rfl, rfl, (fun h => by cases h), ⟨⟨rfl, B6, ba3.like (X3.warmed.alike.symm.trans X6.warmed.alike) p6.1 f6.1 f6.2.1 f6.2.2.1, f6.2.1.trans bv3, by rw [X6.warmed.alike.findClass, f6.1]; exact bf3, by rw [f6.2.2.1, bs3]; simp, fun j hj => by rw [f6.2.2.2 j, if_pos (by omega)]; rfl, kp3.put p6 (Nat.le_refl _)⟩, by rw [p6.2.2, bh3, hh0]; simp⟩, fun fs hl => c8.trans (X8.areturnOut hexec rfl hret rfl (hb hbytes d58) hl)⟩
end Cmp3
namespace CodL
def yN : MethodName := ⟨"java/lang/StringUTF16", "coderFromArrayLen", "([BI)B"⟩
abbrev yB : ByteArray := jdk_52_method_15_code
theorem d0 : decode yB 0 = .ok (.iload_n 1, 1) := by decide +kernel
theorem d1 : decode yB 1 = .ok (.aload_n 0, 1) := by decide +kernel
theorem d2 : decode yB 2 = .ok (.arraylength, 1) := by decide +kernel
theorem d3 : decode yB 3 = .ok (.isub, 1) := by decide +kernel
theorem d4 : decode yB 4 = .ok (.bipush 31, 2) := by decide +kernel
theorem d6 : decode yB 6 = .ok (.iushr, 1) := by decide +kernel
theorem d7 : decode yB 7 = .ok (.i2b, 1) := by decide +kernel
theorem d8 : decode yB 8 = .ok (.ireturn, 1) := by decide +kernel
def site : List Cond := []
def tab : Cond := tabOf yN yB 2 (some .byte) site
def P (d : Addr) (B : Cell) (args : Array Value) (s : State) : Prop := args = #[.ref d, .int (Int32.ofNat B.slots.size)] ∧ Arr .byte d B s
def E (r : Option Value) (s u : State) : Prop := XT.PureE (some (.int 0)) r s u
/-- an array as long as the number of chars: LATIN1 -/
theorem law (l : Launch) (d : Addr) (B : Cell) : Law l yN 2 2 0 0 yB 2 (some .byte) site (P d B) E [] 0 0 := by
  refine Law.of_walk (plainFor_of_name (by decide +kernel)) (by decide +kernel) (by decide +kernel) (by decide) (fun _ _ h => by rw [h.1]; rfl) (fun _ U U' hal hh h => ⟨h.1, h.2.mv hal hh⟩) (fun r U U' V V' h1 hal h2 h => XT.PureE.mv r U U' V V' h1 hal h2 h) ?_
  intro p e s m args below meth c s₁ X0 hexec hbytes hml hret hlk hnm hown hh0 W hP
  obtain ⟨rfl, hB⟩ := hP
  have hB0 := hB.mv X0.warmed.alike hh0
  have c1 : Steps p.tables e below (s₁.setTop (entryFrame m #[.ref d, .int (Int32.ofNat B.slots.size)] 2)) (s₁.setTop (mkF m 0 #[.val (.ref d), .val (.int (Int32.ofNat B.slots.size))] [])) := entry rfl
  have c2 : Steps p.tables e below (s₁.setTop (entryFrame m #[.ref d, .int (Int32.ofNat B.slots.size)] 2)) (s₁.setTop (mkF m 2 #[.val (.ref d), .val (.int (Int32.ofNat B.slots.size))] [.ref d, .int (Int32.ofNat B.slots.size)])) := c1.trans (by
    refine XS.iloadN X0.here hexec rfl (hb hbytes d0) rfl ?_
    refine XS.aloadN X0.here hexec rfl (hb hbytes d1) rfl rfl ?_
    exact Steps.refl _)
  have c3 : Steps p.tables e below (s₁.setTop (entryFrame m #[.ref d, .int (Int32.ofNat B.slots.size)] 2)) (s₁.setTop (mkF m 8 #[.val (.ref d), .val (.int (Int32.ofNat B.slots.size))] [.int (lo8 (ushr (Int32.ofNat B.slots.size - Int32.ofNat B.slots.size) 31))])) := c2.trans (by
    refine X0.alen hexec hB0 rfl rfl (hb hbytes d2) ?_
    refine XS.isub X0.here hexec rfl (hb hbytes d3) rfl ?_
    refine bipushV X0.here hexec rfl 31 (hb hbytes d4) (by decide) ?_
    refine iushr X0.here hexec rfl (hb hbytes d6) rfl ?_
    refine i2b X0.here hexec rfl (hb hbytes d7) rfl ?_
    exact Steps.refl _)
  have e0 : lo8 (ushr (Int32.ofNat B.slots.size - Int32.ofNat B.slots.size) 31) = 0 := by rw [Int32.sub_self]; decide
  rw [e0] at c3
  exact ⟨s₁, some (.int 0), _, _, _, X0, rfl, rfl, rfl, (fun h => by cases h), ⟨rfl, hh0⟩, fun fs hl => c3.trans (X0.ireturnOut hexec hret rfl (Or.inr (Or.inr (Or.inl rfl))) (hb hbytes d8) hl)⟩
end CodL
/-- the String at a is Latin-1 over a new byte[] (the heap's one new cell): the low bytes of the len chars of A from o on; every cell but a is kept -/
def Got (a : Addr) (D : Cell) (fV fC : Field) (A : Cell) (o len : Nat) (r : Option Value) (s u : State) : Prop := r = none ∧ ∃ D' V : Cell, Blank "java/lang/String" a D' u ∧ Same D D' [fV.slot, fC.slot] ∧ D'.slots[fV.slot]? = some (.ref s.heap.size) ∧ D'.slots[fC.slot]? = some (.int 0) ∧ Arr .byte s.heap.size V u ∧ V.vm = .none ∧ u.vm.findClass "[B" = some V.cls ∧ V.slots.size = len ∧ (∀ j, j < len → V.slots[j]? = some (.int (lo8 (cv A (o + j))))) ∧ (∀ (y : Addr) (c : Cell), y ≠ a → s.heap[y]? = some c → u.heap[y]? = some c) ∧ u.heap.size = s.heap.size + 1
theorem Got.mv {a : Addr} {D A : Cell} {fV fC : Field} {o len : Nat} : ∀ r (U U' V V' : State), U'.heap = U.heap → V.vm.Alike V'.vm → V'.heap = V.heap → Got a D fV fC A o len r U V → Got a D fV fC A o len r U' V' :=
  fun r U U' V V' h1 hal h2 ⟨e0, D', X, a1, a2, a3, a4, a5, a6, a7, a8, a9, a10, a11⟩ => ⟨e0, D', X, a1.mv hal h2, a2, by rw [h1]; exact a3, a4, by rw [h1]; exact a5.mv hal h2, a6, by rw [hal.findClass]; exact a7, a8, a9, by rw [h1, h2]; exact a10, by rw [h1, h2]; exact a11⟩
namespace New4
def yN : MethodName := ⟨"java/lang/String", "<init>", "([CIILjava/lang/Void;)V"⟩
abbrev yB : ByteArray := jdk_42_method_149_code
theorem d0 : decode yB 0 = .ok (.aload_n 0, 1) := by decide +kernel
theorem d1 : decode yB 1 = .ok (.invokespecial 1, 3) := by decide +kernel
theorem d4 : decode yB 4 = .ok (.iload_n 3, 1) := by decide +kernel
theorem d5 : decode yB 5 = .ok (.ifCond (.ne) 22, 3) := by decide +kernel
theorem d27 : decode yB 27 = .ok (.getstatic 38, 3) := by decide +kernel
theorem d30 : decode yB 30 = .ok (.ifCond (.eq) 28, 3) := by decide +kernel
theorem d33 : decode yB 33 = .ok (.aload_n 1, 1) := by decide +kernel
theorem d34 : decode yB 34 = .ok (.iload_n 2, 1) := by decide +kernel
theorem d35 : decode yB 35 = .ok (.iload_n 3, 1) := by decide +kernel
theorem d36 : decode yB 36 = .ok (.invokestatic 177, 3) := by decide +kernel
theorem d39 : decode yB 39 = .ok (.astore 5, 2) := by decide +kernel
theorem d41 : decode yB 41 = .ok (.aload_n 0, 1) := by decide +kernel
theorem d42 : decode yB 42 = .ok (.aload 5, 2) := by decide +kernel
theorem d44 : decode yB 44 = .ok (.iload_n 3, 1) := by decide +kernel
theorem d45 : decode yB 45 = .ok (.invokestatic 47, 3) := by decide +kernel
theorem d48 : decode yB 48 = .ok (.putfield 15, 3) := by decide +kernel
theorem d51 : decode yB 51 = .ok (.aload_n 0, 1) := by decide +kernel
theorem d52 : decode yB 52 = .ok (.aload 5, 2) := by decide +kernel
theorem d54 : decode yB 54 = .ok (.putfield 9, 3) := by decide +kernel
theorem d57 : decode yB 57 = .ok (.return_, 1) := by decide +kernel
def site : List Cond := [.fieldLink "java/lang/String" 38 "java/lang/String" "COMPACT_STRINGS" "Z", Cmp3.tab, CodL.tab, .laysFinal "java/lang/String" "java/lang/String" "value" "[B", .fieldLink "java/lang/String" 9 "java/lang/String" "value" "[B", .laysFinal "java/lang/String" "java/lang/String" "coder" "B", .fieldLink "java/lang/String" 15 "java/lang/String" "coder" "B"] ++ objW "java/lang/String" 1 ++ staticW "java/lang/String" 177 Cmp3.yN ++ staticW "java/lang/String" 47 CodL.yN
def tab : Cond := tabOf yN yB 6 none site
def P (a : Addr) (D : Cell) (fV fC : Field) (b : Addr) (A : Cell) (z : Int32) (o len : Nat) (args : Array Value) (s : State) : Prop := args = #[.ref a, .ref b, .int (Int32.ofNat o), .int (Int32.ofNat len), .null] ∧ Blank "java/lang/String" a D s ∧ Found "java/lang/String" "value" "[B" fV s ∧ Found "java/lang/String" "coder" "B" fC s ∧ Ch b A s ∧ StaticIs s "java/lang/String" "COMPACT_STRINGS" "Z" (.int z) ∧ ¬ z = 0 ∧ 0 < len ∧ o + len ≤ A.slots.size ∧ len ≤ 536870912 ∧ ∀ i, i < len → ¬ 255 < cv A (o + i)
def E (a : Addr) (D : Cell) (fV fC : Field) (A : Cell) (o len : Nat) (r : Option Value) (s u : State) : Prop := Got a D fV fC A o len r s u
/-- len > 0, no char of the range above 255: a Latin-1 String of their low bytes -/
theorem law (l : Launch) (a : Addr) (D : Cell) (fV fC : Field) (b : Addr) (A : Cell) (z : Int32) (o len : Nat) : Law l yN 5 4 2 35 yB 6 none site (P a D fV fC b A z o len) (E a D fV fC A o len) [⟨a, fC.slot⟩, ⟨a, fV.slot⟩] 1 len := by
  refine Law.of_walk (plainFor_of_name (by decide +kernel)) (by decide +kernel) (by decide +kernel) (by decide) (fun _ _ h => by rw [h.1]; rfl) (fun _ U U' hal hh h => ⟨h.1, h.2.1.mv hal hh, h.2.2.1.al hal, h.2.2.2.1.al hal, h.2.2.2.2.1.mv hal hh, h.2.2.2.2.2.1.there hal hh, h.2.2.2.2.2.2⟩) (fun r U U' V V' h1 hal h2 h => Got.mv r U U' V V' h1 hal h2 h) ?_
  intro p e s m args below meth c s₁ X0 hexec hbytes hml hret hlk hnm hown hh0 W hP
  obtain ⟨rfl, hB, f1, f2, hA, s1, hz, l0, l1, l2, hp⟩ := hP
  have a31 := hA.1.2.2.2
  have c1 : Steps p.tables e below (s₁.setTop (entryFrame m #[.ref a, .ref b, .int (Int32.ofNat o), .int (Int32.ofNat len), .null] 6)) (s₁.setTop (mkF m 0 #[.val (.ref a), .val (.ref b), .val (.int (Int32.ofNat o)), .val (.int (Int32.ofNat len)), .val .null, .unset] [])) := entry rfl
  have c2 : Steps p.tables e below (s₁.setTop (entryFrame m #[.ref a, .ref b, .int (Int32.ofNat o), .int (Int32.ofNat len), .null] 6)) (s₁.setTop (mkF m 1 #[.val (.ref a), .val (.ref b), .val (.int (Int32.ofNat o)), .val (.int (Int32.ofNat len)), .val .null, .unset] [.ref a])) := c1.trans (by
    refine XS.aloadN X0.here hexec rfl (hb hbytes d0) rfl rfl ?_
    exact Steps.refl _)
  obtain ⟨T3, X3, q3, st3⟩ := X0.oinit hexec hown (wks W (objW "java/lang/String" 1)) (g := (mkF m 1 #[.val (.ref a), .val (.ref b), .val (.int (Int32.ofNat o)), .val (.int (Int32.ofNat len)), .val .null, .unset] [.ref a])) rfl (by rw [hml]; rfl) (rest := []) rfl (hb hbytes d1) (W := 0) (by show 2 * 0 + 0 ≤ _; decide) (Nat.le_of_ble_eq_true rfl) (Nat.le_of_ble_eq_true rfl)
  have hh3 := q3.trans hh0
  have c4 : Steps p.tables e below (s₁.setTop (entryFrame m #[.ref a, .ref b, .int (Int32.ofNat o), .int (Int32.ofNat len), .null] 6)) (T3.setTop (mkF m 27 #[.val (.ref a), .val (.ref b), .val (.int (Int32.ofNat o)), .val (.int (Int32.ofNat len)), .val .null, .unset] [])) := (c2.trans (st3 _ (Steps.refl _))).trans (by
    refine XS.iloadN X3.here hexec rfl (hb hbytes d4) rfl ?_
    refine XS.ifYes X3.here hexec rfl (pc0 := 5) rfl (hb hbytes d5) rfl (i0_ne_t (nz32 (by omega) l0)) (by decide) rfl ?_
    exact Steps.refl _)
  obtain ⟨T5, X5, q5, st5⟩ := X3.sget hexec hown (wk W (.fieldLink "java/lang/String" 38 "java/lang/String" "COMPACT_STRINGS" "Z")) s1 (fun _ _ h => by rw [hh3]; exact h) (g := (mkF m 27 #[.val (.ref a), .val (.ref b), .val (.int (Int32.ofNat o)), .val (.int (Int32.ofNat len)), .val .null, .unset] [])) rfl (hb hbytes d27)
  have hh5 := q5.trans hh3
  have c6 : Steps p.tables e below (s₁.setTop (entryFrame m #[.ref a, .ref b, .int (Int32.ofNat o), .int (Int32.ofNat len), .null] 6)) (T5.setTop (mkF m 30 #[.val (.ref a), .val (.ref b), .val (.int (Int32.ofNat o)), .val (.int (Int32.ofNat len)), .val .null, .unset] [.int z])) := c4.trans (st5 _ (Steps.refl _))
  have c7 : Steps p.tables e below (s₁.setTop (entryFrame m #[.ref a, .ref b, .int (Int32.ofNat o), .int (Int32.ofNat len), .null] 6)) (T5.setTop (mkF m 36 #[.val (.ref a), .val (.ref b), .val (.int (Int32.ofNat o)), .val (.int (Int32.ofNat len)), .val .null, .unset] [.int (Int32.ofNat len), .int (Int32.ofNat o), .ref b])) := c6.trans (by
    refine XS.ifNo X5.here hexec rfl (hb hbytes d30) rfl (i0_eq_f hz) ?_
    refine XS.aloadN X5.here hexec rfl (hb hbytes d33) rfl rfl ?_
    refine XS.iloadN X5.here hexec rfl (hb hbytes d34) rfl ?_
    refine XS.iloadN X5.here hexec rfl (hb hbytes d35) rfl ?_
    exact Steps.refl _)
  obtain ⟨v8, T8, X8, E8, g8⟩ := X5.callS hexec (Cmp3.law l b A o len) hown (wks W (staticW "java/lang/String" 177 Cmp3.yN)) (wk W Cmp3.tab) (W := 0) (Nat.le_of_ble_eq_true rfl) (Nat.le_of_ble_eq_true rfl) (Nat.le_refl _) (by show 0 + len ≤ len; omega) (g := (mkF m 36 #[.val (.ref a), .val (.ref b), .val (.int (Int32.ofNat o)), .val (.int (Int32.ofNat len)), .val .null, .unset] [.int (Int32.ofNat len), .int (Int32.ofNat o), .ref b])) rfl (by rw [hml]; rfl) c7 (argsL := [.ref b, .int (Int32.ofNat o), .int (Int32.ofNat len)]) (rest := []) rfl rfl (by show 2 * 0 + 0 ≤ _; decide) (hb hbytes d36) (⟨rfl, hA.mv X5.warmed.alike hh5, l1, l2, hp⟩)
  obtain ⟨e8, z8⟩ := E8
  obtain ⟨rfl, N, n1, n2, n3, n4, n5, n6⟩ := NewArr.mv _ T5 s _ _ hh5.symm (Vm.Alike.refl _) rfl e8
  rw [hh5] at z8
  have hB1 := hB.keep X8.warmed.alike (n6 _ _ hB.1)
  have hne : s.heap.size ≠ a := (Nat.ne_of_lt (Array.getElem?_eq_some_iff.mp hB.1).1).symm
  have c9 : Steps p.tables e below (s₁.setTop (entryFrame m #[.ref a, .ref b, .int (Int32.ofNat o), .int (Int32.ofNat len), .null] 6)) (T8.setTop (mkF m 39 #[.val (.ref a), .val (.ref b), .val (.int (Int32.ofNat o)), .val (.int (Int32.ofNat len)), .val .null, .unset] [.ref s.heap.size])) := g8
  have c10 : Steps p.tables e below (s₁.setTop (entryFrame m #[.ref a, .ref b, .int (Int32.ofNat o), .int (Int32.ofNat len), .null] 6)) (T8.setTop (mkF m 45 #[.val (.ref a), .val (.ref b), .val (.int (Int32.ofNat o)), .val (.int (Int32.ofNat len)), .val .null, .val (.ref s.heap.size)] [.int (Int32.ofNat N.slots.size), .ref s.heap.size, .ref a])) := by
    have hc : Steps p.tables e below (s₁.setTop (entryFrame m #[.ref a, .ref b, .int (Int32.ofNat o), .int (Int32.ofNat len), .null] 6)) (T8.setTop (mkF m 45 #[.val (.ref a), .val (.ref b), .val (.int (Int32.ofNat o)), .val (.int (Int32.ofNat len)), .val .null, .val (.ref s.heap.size)] [.int (Int32.ofNat len), .ref s.heap.size, .ref a])) := c9.trans (by
      refine XS.astore X8.here hexec rfl (hb hbytes d39) rfl rfl rfl ?_
      refine XS.aloadN X8.here hexec rfl (hb hbytes d41) rfl rfl ?_
      refine XS.aload X8.here hexec rfl (hb hbytes d42) rfl rfl ?_
      refine XS.iloadN X8.here hexec rfl (hb hbytes d44) rfl ?_
      exact Steps.refl _)
    rw [n4]; exact hc
  obtain ⟨v11, T11, X11, E11, g11⟩ := X8.callS hexec (CodL.law l s.heap.size N) hown (wks W (staticW "java/lang/String" 47 CodL.yN)) (wk W CodL.tab) (W := 1) (Nat.le_of_ble_eq_true rfl) (Nat.le_of_ble_eq_true rfl) (Nat.le_refl _) (by show 0 + len + 0 ≤ len; omega) (g := (mkF m 45 #[.val (.ref a), .val (.ref b), .val (.int (Int32.ofNat o)), .val (.int (Int32.ofNat len)), .val .null, .val (.ref s.heap.size)] [.int (Int32.ofNat N.slots.size), .ref s.heap.size, .ref a])) rfl (by rw [hml]; rfl) c10 (argsL := [.ref s.heap.size, .int (Int32.ofNat N.slots.size)]) (rest := [.ref a]) rfl rfl (by show 2 * 0 + (1 + 0) ≤ _; decide) (hb hbytes d45) (⟨rfl, n1⟩)
  obtain ⟨rfl, q11⟩ := E11
  have hB11 := hB1.mv (X8.warmed.alike.symm.trans X11.warmed.alike) q11
  have c12 : Steps p.tables e below (s₁.setTop (entryFrame m #[.ref a, .ref b, .int (Int32.ofNat o), .int (Int32.ofNat len), .null] 6)) (T11.setTop (mkF m 48 #[.val (.ref a), .val (.ref b), .val (.int (Int32.ofNat o)), .val (.int (Int32.ofNat len)), .val .null, .val (.ref s.heap.size)] [.int 0, .ref a])) := g11
  obtain ⟨T13, X13, p13, bl13, sl13, st13⟩ := X11.finit hexec hown (wk W (.fieldLink "java/lang/String" 15 "java/lang/String" "coder" "B")) (Or.inr ⟨_, (wk W (.laysFinal "java/lang/String" "java/lang/String" "coder" "B"))⟩) (Or.inl ⟨rfl, hnm⟩) f2 (Or.inl rfl) hB11 (t := .byte) (by decide +kernel) rfl (g := (mkF m 48 #[.val (.ref a), .val (.ref b), .val (.int (Int32.ofNat o)), .val (.int (Int32.ofNat len)), .val .null, .val (.ref s.heap.size)] [.int 0, .ref a])) rfl (rest := []) rfl (hb hbytes d48)
  have c14 : Steps p.tables e below (s₁.setTop (entryFrame m #[.ref a, .ref b, .int (Int32.ofNat o), .int (Int32.ofNat len), .null] 6)) (T13.setTop (mkF m 54 #[.val (.ref a), .val (.ref b), .val (.int (Int32.ofNat o)), .val (.int (Int32.ofNat len)), .val .null, .val (.ref s.heap.size)] [.ref s.heap.size, .ref a])) := (c12.trans (st13 _ (Steps.refl _))).trans (by
    refine XS.aloadN X13.here hexec rfl (hb hbytes d51) rfl rfl ?_
    refine XS.aload X13.here hexec rfl (hb hbytes d52) rfl rfl ?_
    exact Steps.refl _)
  obtain ⟨T15, X15, p15, bl15, sl15, st15⟩ := X13.finit hexec hown (wk W (.fieldLink "java/lang/String" 9 "java/lang/String" "value" "[B")) (Or.inr ⟨_, (wk W (.laysFinal "java/lang/String" "java/lang/String" "value" "[B"))⟩) (Or.inl ⟨rfl, hnm⟩) f1 (Or.inl rfl) bl13 (t := (.array .byte)) (by decide +kernel) rfl (g := (mkF m 54 #[.val (.ref a), .val (.ref b), .val (.int (Int32.ofNat o)), .val (.int (Int32.ofNat len)), .val .null, .val (.ref s.heap.size)] [.ref s.heap.size, .ref a])) rfl (rest := []) rfl (hb hbytes d54)
  have c16 : Steps p.tables e below (s₁.setTop (entryFrame m #[.ref a, .ref b, .int (Int32.ofNat o), .int (Int32.ofNat len), .null] 6)) (T15.setTop (mkF m 57 #[.val (.ref a), .val (.ref b), .val (.int (Int32.ofNat o)), .val (.int (Int32.ofNat len)), .val .null, .val (.ref s.heap.size)] [])) := c14.trans (st15 _ (Steps.refl _))
  have ap := apart (Or.inr ⟨_, (wk W (.laysFinal "java/lang/String" "java/lang/String" "value" "[B"))⟩) (Or.inr ⟨_, (wk W (.laysFinal "java/lang/String" "java/lang/String" "coder" "B"))⟩) f1 f2 (t₁ := .array .byte) (t₂ := .byte) (by decide +kernel) (by decide +kernel) (by decide)
  have al := X8.warmed.alike.symm.trans X15.warmed.alike
  have n7 : T11.heap[s.heap.size]? = some N := by rw [q11]; exact n1.1
  exact ⟨T15, none, _, _, _, X15, by simp, rfl, by omega, (fun _ => rfl), ⟨rfl, _, N, bl15, ((Same.refl D _).set _ (by simp)).set _ (by simp), sl15, (Cell.slots_setSlot_ne _ ap).trans sl13, n1.keep al (p15.other hne (p13.other hne n7)), n2, by rw [al.findClass]; exact n3, n4, n5, fun y c h1 h2 => p15.other h1 (p13.other h1 (by rw [q11]; exact n6 y c h2)), by rw [p15.2.2, p13.2.2, q11]; exact z8⟩, fun fs hl => c16.trans (X15.returnOut hexec hret (hb hbytes d57) hl)⟩
end New4
namespace New1
def yN : MethodName := ⟨"java/lang/String", "<init>", "([C)V"⟩
abbrev yB : ByteArray := jdk_42_method_3_code
theorem d0 : decode yB 0 = .ok (.aload_n 0, 1) := by decide +kernel
theorem d1 : decode yB 1 = .ok (.aload_n 1, 1) := by decide +kernel
theorem d2 : decode yB 2 = .ok (.iconst 0, 1) := by decide +kernel
theorem d3 : decode yB 3 = .ok (.aload_n 1, 1) := by decide +kernel
theorem d4 : decode yB 4 = .ok (.arraylength, 1) := by decide +kernel
theorem d5 : decode yB 5 = .ok (.aconst_null, 1) := by decide +kernel
theorem d6 : decode yB 6 = .ok (.invokespecial 27, 3) := by decide +kernel
theorem d9 : decode yB 9 = .ok (.return_, 1) := by decide +kernel
def site : List Cond := [New4.tab] ++ initW "java/lang/String" 27 New4.yN
def tab : Cond := tabOf yN yB 2 none site
def P (a : Addr) (D : Cell) (fV fC : Field) (b : Addr) (A : Cell) (z : Int32) (args : Array Value) (s : State) : Prop := args = #[.ref a, .ref b] ∧ Blank "java/lang/String" a D s ∧ Found "java/lang/String" "value" "[B" fV s ∧ Found "java/lang/String" "coder" "B" fC s ∧ Ch b A s ∧ StaticIs s "java/lang/String" "COMPACT_STRINGS" "Z" (.int z) ∧ ¬ z = 0 ∧ 0 < A.slots.size ∧ A.slots.size ≤ 536870912 ∧ ∀ i, i < A.slots.size → ¬ 255 < cv A i
def E (a : Addr) (D : Cell) (fV fC : Field) (A : Cell) (r : Option Value) (s u : State) : Prop := Got a D fV fC A 0 A.slots.size r s u
/-- new String(chars), not empty, no char above 255: a Latin-1 String of their low bytes -/
theorem law (l : Launch) (a : Addr) (D : Cell) (fV fC : Field) (b : Addr) (A : Cell) (z : Int32) : Law l yN 2 1 3 52 yB 2 none site (P a D fV fC b A z) (E a D fV fC A) [⟨a, fC.slot⟩, ⟨a, fV.slot⟩] 1 A.slots.size := by
  refine Law.of_walk (plainFor_of_name (by decide +kernel)) (by decide +kernel) (by decide +kernel) (by decide) (fun _ _ h => by rw [h.1]; rfl) (fun _ U U' hal hh h => ⟨h.1, h.2.1.mv hal hh, h.2.2.1.al hal, h.2.2.2.1.al hal, h.2.2.2.2.1.mv hal hh, h.2.2.2.2.2.1.there hal hh, h.2.2.2.2.2.2⟩) (fun r U U' V V' h1 hal h2 h => Got.mv r U U' V V' h1 hal h2 h) ?_
  intro p e s m args below meth c s₁ X0 hexec hbytes hml hret hlk hnm hown hh0 W hP
  obtain ⟨rfl, hB, f1, f2, hA, s1, hz, l0, l2, hp⟩ := hP
  have c1 : Steps p.tables e below (s₁.setTop (entryFrame m #[.ref a, .ref b] 2)) (s₁.setTop (mkF m 0 #[.val (.ref a), .val (.ref b)] [])) := entry rfl
  have c2 : Steps p.tables e below (s₁.setTop (entryFrame m #[.ref a, .ref b] 2)) (s₁.setTop (mkF m 6 #[.val (.ref a), .val (.ref b)] [.null, .int (Int32.ofNat A.slots.size), .int 0, .ref b, .ref a])) := c1.trans (by
    refine XS.aloadN X0.here hexec rfl (hb hbytes d0) rfl rfl ?_
    refine XS.aloadN X0.here hexec rfl (hb hbytes d1) rfl rfl ?_
    refine iconstV X0.here hexec rfl 0 (hb hbytes d2) (by decide) ?_
    refine XS.aloadN X0.here hexec rfl (hb hbytes d3) rfl rfl ?_
    refine X0.alen hexec (hA.1.mv X0.warmed.alike hh0) rfl rfl (hb hbytes d4) ?_
    refine XS.aconstNull X0.here hexec rfl (hb hbytes d5) ?_
    exact Steps.refl _)
  obtain ⟨v3, T3, X3, E3, g3⟩ := X0.callN hexec (New4.law l a D fV fC b A z 0 A.slots.size) rfl hown (wks W (initW "java/lang/String" 27 New4.yN)) (W New4.tab (by simp only [site, List.mem_cons, List.mem_append, true_or, or_true])) (W := 0) (Nat.le_of_ble_eq_true rfl) (Nat.le_of_ble_eq_true rfl) (Nat.le_refl _) (by show 0 + A.slots.size ≤ A.slots.size; omega) (g := (mkF m 6 #[.val (.ref a), .val (.ref b)] [.null, .int (Int32.ofNat A.slots.size), .int (Int32.ofNat 0), .ref b, .ref a])) rfl (by rw [hml]; rfl) c2 (argsL := [.ref b, .int (Int32.ofNat 0), .int (Int32.ofNat A.slots.size), .null]) (rest := []) rfl rfl (by show 2 * 0 + 0 ≤ _; decide) (hb hbytes d6) (⟨rfl, hB.mv X0.warmed.alike hh0, f1.al X0.warmed.alike, f2.al X0.warmed.alike, hA.mv X0.warmed.alike hh0, s1.there X0.warmed.alike hh0, hz, l0, by omega, l2, fun i hi => by rw [Nat.zero_add]; exact hp i hi⟩)
  have e0 := Got.mv _ s₁ s _ _ hh0.symm (Vm.Alike.refl _) rfl E3
  obtain rfl := e0.1
  have c4 : Steps p.tables e below (s₁.setTop (entryFrame m #[.ref a, .ref b] 2)) (T3.setTop (mkF m 9 #[.val (.ref a), .val (.ref b)] [])) := g3
  exact ⟨T3, none, _, _, _, X3, by simp, rfl, by omega, (fun _ => rfl), e0, fun fs hl => c4.trans (X3.returnOut hexec hret (hb hbytes d9) hl)⟩
theorem pays {l : Launch} {R : Room} {p : Program} {e : Env} {below : List Frame} {s : State} {sargs : Array Value} {len W : Nat} (a : Addr) (D : Cell) (fV fC : Field) (b : Addr) (A : Cell) (z : Int32) (htab : tab.before sargs s = true) (hfr : 4 ≤ R.frames) (hlo : W + 65 ≤ R.locals) :
    Back l R p e below s sargs yN len W (fun A₁ a₁ => A₁.cells + 1 ≤ R.cells ∧ A₁.slots + A.slots.size ≤ R.slots ∧ P a D fV fC b A z a₁ A₁.U) (fun A₁ _ v₁ B₁ => E a D fV fC A v₁ A₁.U B₁.U ∧ B₁.locs = A₁.locs ++ [⟨a, fC.slot⟩, ⟨a, fV.slot⟩] ∧ B₁.cells = A₁.cells + 1 ∧ B₁.slots = A₁.slots + A.slots.size) :=
  (law l a D fV fC b A z).pays htab hfr (by omega)
end New1
/-- the byte, read back as charAt reads it, is the char -/
theorem lo8_mask {x : Int32} (h0 : ¬ x < 0) (h1 : ¬ 255 < x) : lo8 x &&& 255 = x := by
  have t : ∀ k : Fin 256, lo8 (Int32.ofNat k.val) &&& 255 = Int32.ofNat k.val := by decide +kernel
  rw [Int32.lt_iff_toInt_lt] at h0 h1
  have e0 : (0 : Int32).toInt = 0 := rfl
  have e1 : (255 : Int32).toInt = 255 := rfl
  obtain ⟨k, hk⟩ : ∃ k : Nat, x.toInt = k := ⟨x.toInt.toNat, by omega⟩
  have hx : x = Int32.ofNat k := Int32.toInt_inj.mp (by rw [hk, Int32.toInt_ofNat_small (by omega)])
  rw [hx]
  exact t ⟨k, by omega⟩
end StrChars
namespace StrChars.Road
open Jvm Sem ClassFile Op Lib Jvm.Stand Jvm.Free Jvm.Free.XT
open Jvm.Lib.Cold (StaticIs)
abbrev ST : String := "java/lang/String"
/-- every table word that New1's law asks, flat -/
abbrev words : List Jvm.Cond := [.code New1.yN New1.yB 2 none, .initialized ST, .methodLink ST 27 New4.yN, .instanceMethod New4.yN,
  .code New4.yN New4.yB 6 none, .fieldLink ST 38 ST "COMPACT_STRINGS" "Z", .laysFinal ST ST "value" "[B", .fieldLink ST 9 ST "value" "[B", .laysFinal ST ST "coder" "B", .fieldLink ST 15 ST "coder" "B",
  .methodLink ST 1 Lib.objectInit, .instanceMethod Lib.objectInit, .code Lib.objectInit ⟨#[0xb1]⟩ 1 none, .methodLink ST 177 Cmp3.yN, .static Cmp3.yN, .methodLink ST 47 CodL.yN, .static CodL.yN,
  .code Cmp3.yN Cmp3.yB 6 (some (.array .byte)), .initialized U16, .arrayClass .byte, .methodLink U16 115 Cmp5.yN, .static Cmp5.yN, .code Cmp5.yN Cmp5.yB 7 (some .int), .code CodL.yN CodL.yB 2 (some .byte)]
theorem tab_of {a : Array Value} {s : State} (h : ∀ w ∈ words, w.before a s = true) : New1.tab.before a s = true := by
  have h5 : Cmp5.tab.before a s = true := unparts (wk h (.code Cmp5.yN Cmp5.yB 7 (some .int))) (wks h (.initialized Cmp5.yN.cls :: Cmp5.site))
  have hc : CodL.tab.before a s = true := unparts (wk h (.code CodL.yN CodL.yB 2 (some .byte))) (wks h (.initialized CodL.yN.cls :: CodL.site))
  have q5 : ∀ w ∈ Cmp5.tab :: words, w.before a s = true := fun w hw => (List.mem_cons.mp hw).elim (fun e => e ▸ h5) (h w)
  have h3 : Cmp3.tab.before a s = true := unparts (wk q5 (.code Cmp3.yN Cmp3.yB 6 (some (.array .byte)))) (wks q5 (.initialized Cmp3.yN.cls :: Cmp3.site))
  have q3 : ∀ w ∈ Cmp3.tab :: CodL.tab :: words, w.before a s = true := fun w hw => (List.mem_cons.mp hw).elim (fun e => e ▸ h3) fun hw => (List.mem_cons.mp hw).elim (fun e => e ▸ hc) (h w)
  have h4 : New4.tab.before a s = true := unparts (wk q3 (.code New4.yN New4.yB 6 none)) (wks q3 (.initialized New4.yN.cls :: New4.site))
  have q4 : ∀ w ∈ New4.tab :: words, w.before a s = true := fun w hw => (List.mem_cons.mp hw).elim (fun e => e ▸ h4) (h w)
  exact unparts (wk q4 (.code New1.yN New1.yB 2 none)) (wks q4 (.initialized New1.yN.cls :: New1.site))
/-- the words ride from the start Z to the walk's own state -/
theorem moved {Z s : State} {a0 args : Array Value} (hZ : Z.Warmed39 s.vm) (hw : ∀ d ∈ words, d.before a0 Z = true) : ∀ d ∈ words, d.before args s = true := fun d hd => by
  have q := hw d hd
  have t : ∀ d ∈ words, d = .arrayClass .byte ∨ (d.onTables && d.keepsFace) = true := by decide +kernel
  rcases t d hd with rfl | t
  · exact RoadKit.mvA hZ q
  · exact RoadKit.mv hZ q t
/-- WHAT COMES BACK, over the tables of the start Z: h the heap at the call, h' behind it -/
def Q (Z : State) (x : Addr) (A : Cell) (h : Heap) (v : Option Value) (h' : Heap) (L : List Loc) : Prop := v = none ∧ (∀ y ∈ L, y.base = x) ∧ RoadKit.Keep h h' [x] ∧ h'.size = h.size + 1 ∧ RoadKit.Exa Z h' x ST ∧ RoadKit.Fld Z h' x ST "value" "[B" (.ref h.size) ∧ RoadKit.Fld Z h' x ST "coder" "B" (.int 0) ∧
  (∃ V : Cell, RoadKit.Arr Z h' h.size V .byte ∧ V.vm = .none ∧ Z.vm.findClass "[B" = some V.cls ∧ V.slots.size = A.slots.size ∧ ∀ j, j < A.slots.size → V.slots[j]? = some (.int (lo8 (cv A j)))) ∧
  ∀ (O n d : String) (w : Value), RoadKit.Fld Z h x O n d w → RoadKit.slotOf Z O n d ≠ RoadKit.slotOf Z ST "value" "[B" → RoadKit.slotOf Z O n d ≠ RoadKit.slotOf Z ST "coder" "B" → RoadKit.Fld Z h' x O n d w
/-- **new String(chars) AT A CALL, IN THE ROAD'S FORM**: for specialBack behind newO: x the fresh String, b the char[] with the cell A -/
theorem back {p : Program} {l : Launch} {e : Env} {R : Room} {s : State} {args : Array Value} {below : List Frame} {len W : Nat} {Z : State} {a0 : Array Value} {h : Heap} (hZ : Z.Warmed39 s.vm) (hw : ∀ d ∈ words, d.before a0 Z = true) {kI : Nat} (wi : (Jvm.Cond.instantiable ST kI).before a0 Z = true)
    {x b : Addr} {A : Cell} {z : Int32} {v0 c0 : Value} (E : RoadKit.Exa Z h x ST) (V : RoadKit.Fld Z h x ST "value" "[B" v0) (C : RoadKit.Fld Z h x ST "coder" "B" c0) (K : RoadKit.Arr Z h b A .char) (hty : Typed .char A) (S : RoadKit.Sta Z h ST "COMPACT_STRINGS" "Z" (.int z)) (hz : ¬ z = 0)
    (l0 : 0 < A.slots.size) (l2 : A.slots.size ≤ 536870912) (hp : ∀ i, i < A.slots.size → ¬ 255 < cv A i) (hfr : 4 ≤ R.frames) (hlo : W + 65 ≤ R.locals) :
    Back l R p e below s args New1.yN len W (fun P a => a = #[.ref x, .ref b] ∧ P.U.heap = h ∧ P.cells + 1 ≤ R.cells ∧ P.slots + A.slots.size ≤ R.slots)
      (fun P _ v B => ∃ L, Q Z x A h v B.U.heap L ∧ B.locs = P.locs ++ L ∧ B.cells = P.cells + 1 ∧ B.slots = P.slots + A.slots.size) := by
  intro m meth c P g ig mk a X hg hsize hdg hW hn hp'
  obtain ⟨rfl, rfl, r1, r2⟩ := hp'
  have al : Z.vm.Alike P.U.vm := hZ.alike.trans X.warmed.alike
  obtain ⟨D, cfV, kV, iV, fV, hD, gV, stV, knV, obV, asV, slV⟩ := id V
  obtain ⟨D', cfC, kC, iC, fC, hD', gC, stC, -, -, asC, slC⟩ := id C
  cases hD.symm.trans hD'
  obtain ⟨D2, kD, e1, e2, e3, e4, e5⟩ := id E
  cases hD.symm.trans e1
  obtain ⟨c2, k2, i1, i2, i3, -⟩ := Cond.instantiable_spec wi
  cases e2.symm.trans i1
  cases e3.symm.trans i2
  obtain ⟨kU, u1, u2⟩ := al.2.2 _ _ e3
  have hB : Blank ST x D P.U := ⟨hD, ⟨knV, fun q hq => by rw [hq] at obV; cases obV⟩, by rw [al.findClass]; exact e2, kU, u1, by rw [u2]; exact i3, by rw [u2]; exact e5 i3⟩
  have F1 : Found ST "value" "[B" fV P.U := ⟨SBG.found_only al ⟨cfV, kV, iV, gV⟩, stV⟩
  have F2 : Found ST "coder" "B" fC P.U := ⟨SBG.found_only al ⟨cfC, kC, iC, gC⟩, stC⟩
  have hA : Ch b A P.U := ⟨⟨K.1, State.isArrayOf_alike al K.2.1, K.2.2, by omega⟩, hty⟩
  have hS : StaticIs P.U ST "COMPACT_STRINGS" "Z" (.int z) := by
    obtain ⟨cfS, iS, kS, fS, st, cS, t1, t2, t3, t4, t5, t6, t7⟩ := S
    exact StaticIs.there (s := { Z with heap := P.U.heap }) ⟨cfS, iS, kS, fS, st, cS, t1, t2, t3, t4, t5, (fun q => by rw [q] at t6; cases t6), t7⟩ al rfl
  obtain ⟨v, B, X', ⟨⟨hv, E', V', q1, q2, q3, q4, q5, q6, q7, q8, q9, q10, q11⟩, hl, hc, hs⟩, st⟩ := New1.pays x D fV fC b A z (tab_of (moved hZ hw)) hfr hlo m meth c P g ig mk _ X hg hsize hdg hW hn ⟨r1, r2, rfl, hB, F1, F2, hA, hS, hz, l0, l2, hp⟩
  have al' : Z.vm.Alike B.U.vm := hZ.alike.trans X'.warmed.alike
  have hsz : E'.slots.size = D.slots.size := by
    obtain ⟨-, -, -, kB, w1, w2, w3⟩ := q1
    obtain ⟨kB', y1, y2⟩ := al'.2.2 _ _ e3
    rw [q2.2.1] at w1
    cases w1.symm.trans y1
    rw [w3, e5 i3, y2]
  refine ⟨v, B, X', ⟨_, ⟨hv, ?_, ⟨by omega, fun y cy hy hn' => q10 y cy (by simpa using hn') hy, fun y cy hy => ?_⟩, q11, ⟨E', _, q1.1, by rw [q2.2.1]; exact e2, by rw [q2.2.1]; exact e3, by rw [q2.1]; exact obV, fun _ => by rw [hsz]; exact e5 i3⟩,
    ⟨E', cfV, kV, iV, fV, q1.1, gV, stV, by rw [q2.1]; exact knV, by rw [q2.1]; exact obV, by rw [q2.2.1]; exact asV, q3⟩, ⟨E', cfC, kC, iC, fC, q1.1, gC, stC, by rw [q2.1]; exact knV, by rw [q2.1]; exact obV, by rw [q2.2.1]; exact asC, q4⟩,
    ⟨V', ⟨q5.1, State.isArrayOf_alike al'.symm q5.2.1, q5.2.2.1⟩, q6, by rw [← al'.findClass]; exact q7, q8, fun j hj => by have := q9 j hj; rwa [Nat.zero_add] at this⟩, fun O n d w F n1 n2 => ?_⟩, hl, hc, hs⟩, st⟩
  · intro y hy
    simp only [List.mem_cons, List.not_mem_nil, or_false] at hy
    rcases hy with rfl | rfl <;> rfl
  · by_cases q : y = x
    · subst q
      cases hD.symm.trans hy
      exact ⟨E', q1.1, q2.2.1, q2.1, hsz⟩
    · exact ⟨cy, q10 y cy q hy, rfl, rfl, rfl⟩
  · obtain ⟨D3, cf, k, i, f, g1, g2, g3, g4, g5, g6, g7⟩ := F
    cases hD.symm.trans g1
    simp only [RoadKit.slotOf, g2, gV, gC, Option.map_some, Option.getD_some] at n1 n2
    exact ⟨E', cf, k, i, f, q1.1, g2, g3, by rw [q2.1]; exact g4, by rw [q2.1]; exact g5, by rw [q2.2.1]; exact g6, by rw [q2.2.2 f.slot (by simp [n1, n2])]; exact g7⟩
end StrChars.Road
namespace StrChars.Road
open Jvm Sem ClassFile Op Lib Jvm.Stand Jvm.Free Jvm.Free.XT
/-- WHAT COMES BACK, the byte[] as a list of values -/
def QA (Z : State) (x : Addr) (zn : Int32) (cs : List Int32) (h : Heap) (v : Option Value) (h' : Heap) (L : List Loc) : Prop := v = none ∧ (∀ y ∈ L, y.base = x) ∧ RoadKit.Keep h h' [x] ∧ h'.size = h.size + 1 ∧ RoadKit.Exa Z h' x ST ∧ RoadKit.Fld Z h' x ST "value" "[B" (.ref h.size) ∧ RoadKit.Fld Z h' x ST "coder" "B" (.int 0) ∧
  (∃ kb, Z.vm.findClass "[B" = some kb ∧ RoadKit.Arv Z h' h.size kb .byte zn (cs.map fun c => .int (lo8 c)) (.int 0)) ∧
  ∀ (O n d : String) (w : Value), RoadKit.Fld Z h x O n d w → RoadKit.slotOf Z O n d ≠ RoadKit.slotOf Z ST "value" "[B" → RoadKit.slotOf Z O n d ≠ RoadKit.slotOf Z ST "coder" "B" → RoadKit.Fld Z h' x O n d w
/-- **new String(chars) AT A CALL, THE ARRAYS AS LISTS**: the char[] at b holds cs, not empty, no char above 255 -/
theorem backArv {p : Program} {l : Launch} {e : Env} {R : Room} {s : State} {args : Array Value} {below : List Frame} {len W : Nat} {Z : State} {a0 : Array Value} {h : Heap} (hZ : Z.Warmed39 s.vm) (hw : ∀ d ∈ words, d.before a0 Z = true) {kI : Nat} (wi : (Jvm.Cond.instantiable ST kI).before a0 Z = true)
    {x b : Addr} {k : ClassId} {zn z : Int32} {cs : List Int32} {dv v0 c0 : Value} (E : RoadKit.Exa Z h x ST) (V : RoadKit.Fld Z h x ST "value" "[B" v0) (C : RoadKit.Fld Z h x ST "coder" "B" c0) (K : RoadKit.Arv Z h b k .char zn (cs.map Value.int) dv) (S : RoadKit.Sta Z h ST "COMPACT_STRINGS" "Z" (.int z)) (hz : ¬ z = 0)
    (hlen : zn.toNatClampNeg = cs.length) (h0 : 0 < cs.length) (hbig : cs.length ≤ 536870912) (hall : ∀ c ∈ cs, ¬ 255 < c) (hfr : 4 ≤ R.frames) (hlo : W + 65 ≤ R.locals) :
    Back l R p e below s args New1.yN len W (fun P a => a = #[.ref x, .ref b] ∧ P.U.heap = h ∧ P.cells + 1 ≤ R.cells ∧ P.slots + cs.length ≤ R.slots)
      (fun P _ v B => ∃ L, QA Z x zn cs h v B.U.heap L ∧ B.locs = P.locs ++ L ∧ B.cells = P.cells + 1 ∧ B.slots = P.slots + cs.length) := by
  obtain ⟨A, K1, K2, K3, K4, K5, K6⟩ := K
  have e : A.slots.size = cs.length := K3.trans hlen
  have hat : ∀ (i : Nat) (hi : i < cs.length), A.slots[i]? = some (.int cs[i]) := fun i hi => by rw [K5 i (by omega)]; simp [List.getD_eq_getElem?_getD, hi]
  have hcv : ∀ (i : Nat) (hi : i < cs.length), cv A i = cs[i] := fun i hi => by unfold cv; rw [hat i hi]
  have hty : Typed .char A := fun i v hv => by
    have hi : i < A.slots.size := (Array.getElem?_eq_some_iff.mp hv).1
    have q := K5 i hi
    rw [hv] at q
    rw [Option.some.inj q]
    exact K6 i hi
  refine Back.mono (back hZ hw wi E V C K1 hty S hz (by omega) (by omega) (fun i hi => by rw [hcv i (by omega)]; exact hall _ (List.getElem_mem _)) hfr hlo) (fun P a hp => ⟨hp.1, hp.2.1, hp.2.2.1, by rw [e]; exact hp.2.2.2⟩) (fun P a v B hp hq => ?_)
  obtain ⟨L, ⟨q1, q2, q3, q4, q5, q6, q7, ⟨V', v1, v2, v3, v4, v5⟩, q9⟩, hl, hc, hs⟩ := hq
  refine ⟨L, ⟨q1, q2, q3, q4, q5, q6, q7, ⟨V'.cls, v3, V', v1, rfl, by rw [v4, e, hlen], K4, fun i hi => ?_, fun i hi => ?_⟩, q9⟩, hl, hc, by rw [hs, e]⟩
  · have hi' : i < cs.length := by omega
    rw [v5 i (by omega), hcv i hi']; simp [List.getD_eq_getElem?_getD, hi']
  · have hi' : i < cs.length := by omega
    simp only [List.getD_eq_getElem?_getD, List.getElem?_map, List.getElem?_eq_getElem hi', Option.map_some, Option.getD_some]
    exact fits_lo8 _
end StrChars.Road
namespace StrChars.Road
open Jvm Sem ClassFile Op Lib Jvm.Stand Jvm.Free Jvm.Free.XT
/-- WHAT COMES BACK, in the writer's own shape -/
def QV (Z : State) (x : Addr) (N : Int32) (bs : List Int32) (h : Heap) (n0 : Nat) (v : Option Value) (h' : Heap) (L : List Loc) : Prop := v = none ∧ RoadKit.Fr n0 L ∧ RoadKit.Keep h h' [x] ∧ RoadKit.Exa Z h' x ST ∧ RoadKit.Fld Z h' x ST "coder" "B" (.int 0) ∧
  ∃ (t : Addr) (kb : ClassId), n0 ≤ t ∧ h.size ≤ t ∧ ¬ t = x ∧ RoadKit.Fld Z h' x ST "value" "[B" (.ref t) ∧ RoadKit.Arv Z h' t kb .byte N (bs.map Value.int) (.int 0)
/-- **new String(chars) AT A CALL, FOR THE WRITER**: a char[] of n known ints, each 0 to 255 -/
theorem backV {p : Program} {l : Launch} {e : Env} {R : Room} {s : State} {args : Array Value} {below : List Frame} {len W : Nat} {Z : State} {a0 : Array Value} {h : Heap} (hZ : Z.Warmed39 s.vm) (hw : ∀ d ∈ words, d.before a0 Z = true) {kI : Nat} (wi : (Jvm.Cond.instantiable ST kI).before a0 Z = true)
    {x b : Addr} {kC : ClassId} {cs bs : List Int32} {d v0 c0 : Value} {z N : Int32} {n n0 : Nat} (hx0 : n0 ≤ x) (hh0 : n0 ≤ h.size) (E : RoadKit.Exa Z h x ST) (V : RoadKit.Fld Z h x ST "value" "[B" v0) (C : RoadKit.Fld Z h x ST "coder" "B" c0) (K : RoadKit.Arv Z h b kC .char N (cs.map Value.int) d) (S : RoadKit.Sta Z h ST "COMPACT_STRINGS" "Z" (.int z)) (hz : ¬ z = 0)
    (hn : cs.length = n) (hN : N = Int32.ofNat n) (l0 : 0 < n) (l2 : n ≤ 4000) (hp : ∀ c ∈ cs, ¬ c < 0 ∧ ¬ (255 : Int32) < c) (hb : bs = cs.map (fun c => c.toInt8.toInt32)) (hfr : 4 ≤ R.frames) (hlo : W + 65 ≤ R.locals) :
    Back l R p e below s args (⟨"java/lang/String", "<init>", "([C)V"⟩ : MethodName) len W (fun P a => a = #[.ref x, .ref b] ∧ P.U.heap = h ∧ P.cells + 1 ≤ R.cells ∧ P.slots + n ≤ R.slots)
      (fun P _ v B => ∃ L, QV Z x N bs h n0 v B.U.heap L ∧ B.locs = P.locs ++ L ∧ B.cells = P.cells + 1 ∧ B.slots = P.slots + n) := by
  subst hn hN hb
  refine Back.mono (backArv hZ hw wi E V C K S hz (n32 (by omega)) l0 (by omega) (fun c hc => (hp c hc).2) hfr hlo) (fun P a hp => hp) (fun P a v B hp hq => ?_)
  obtain ⟨L, ⟨q1, q2, q3, q4, q5, q6, q7, ⟨kb, v1, v2⟩, q9⟩, hl, hc, hs⟩ := hq
  exact ⟨L, ⟨q1, fun y hy => by rw [q2 y hy]; exact hx0, q3, q5, q7, h.size, kb, hh0, Nat.le_refl _, Nat.ne_of_gt E.lt, q6, by rw [List.map_map]; exact v2⟩, hl, hc, hs⟩
end StrChars.Road
namespace StrChars
open Jvm Sem ClassFile Op Lib Jvm.Stand Jvm.Free.XT Jvm.Free.ALB Jvm.Free.JM Jvm.Free
open Jvm.Lib.Cold (StaticIs)
def hi8 (x : Int32) : Int32 := lo8 (x >>> ((8 : Int32) &&& 31))
/-- what StringUTF16.getChar makes of two bytes -/
def pairCh (u v : Int32) : Int32 := (((u &&& 255) <<< ((0 : Int32) &&& 31)) ||| ((v &&& 255) <<< ((8 : Int32) &&& 31))).toUInt32.toUInt16.toUInt32.toInt32
theorem lo8_and (x : Int32) : (lo8 x &&& 255).toBitVec.toNat = x.toBitVec.toNat % 256 := by
  have h : (lo8 x).toBitVec = (x.toBitVec.signExtend 8).signExtend 32 := by rw [lo8, Int8.toBitVec_toInt32, Int32.toBitVec_toInt8]
  rw [Int32.toBitVec_and, BitVec.toNat_and, h]
  have e : ((x.toBitVec.signExtend 8).signExtend 32).toNat % 256 = x.toBitVec.toNat % 256 := by
    rw [BitVec.toNat_signExtend]
    have hlt := x.toBitVec.isLt
    simp only [BitVec.toNat_setWidth, BitVec.toNat_signExtend]
    split <;> split <;> omega
  rw [← e]
  exact Nat.and_two_pow_sub_one_eq_mod _ 8
theorem pair_says {c : Int32} (h0 : ¬ c < 0) (h1 : ¬ 65535 < c) : pairCh (lo8 c) (hi8 c) = c := by
  rw [Int32.lt_iff_toInt_lt] at h0 h1
  have e0 : (0 : Int32).toInt = 0 := rfl
  have e1 : (65535 : Int32).toInt = 65535 := rfl
  have hc : c.toInt = c.toBitVec.toNat := by
    have := c.toBitVec.isLt
    have e : c.toInt = c.toBitVec.toInt := rfl
    rw [e] at h0 h1
    rw [e]
    rw [BitVec.toInt_eq_toNat_cond] at h0 h1 ⊢
    split at h0 <;> split <;> omega
  have hn : c.toBitVec.toNat < 65536 := by omega
  have a1 := lo8_and c
  have a2 : (hi8 c &&& 255).toBitVec.toNat = c.toBitVec.toNat / 256 := by
    rw [hi8, lo8_and]
    have e : ((8 : Int32) &&& 31) = 8 := by decide
    rw [e, Int32.toBitVec_shiftRight]
    have e2 : ((8 : Int32).toBitVec.smod 32) = 8#32 := by decide
    rw [e2, BitVec.sshiftRight_eq', BitVec.toNat_sshiftRight_of_msb_false (by rw [BitVec.msb_eq_false_iff_two_mul_lt]; omega)]
    show c.toBitVec.toNat >>> 8 % 256 = _
    rw [Nat.shiftRight_eq_div_pow]
    omega
  unfold pairCh
  apply Int32.toBitVec_inj.mp
  apply BitVec.eq_of_toNat_eq
  have f0 : ((0 : Int32) &&& 31) = 0 := by decide
  have f8 : ((8 : Int32) &&& 31) = 8 := by decide
  rw [f0, f8]
  have g : (((lo8 c &&& 255) <<< (0 : Int32)) ||| ((hi8 c &&& 255) <<< (8 : Int32))).toBitVec.toNat = c.toBitVec.toNat := by
    rw [Int32.toBitVec_or, Int32.toBitVec_shiftLeft, Int32.toBitVec_shiftLeft]
    have s0 : ((0 : Int32).toBitVec.smod 32) = 0#32 := by decide
    have s8 : ((8 : Int32).toBitVec.smod 32) = 8#32 := by decide
    rw [s0, s8, BitVec.toNat_or]
    simp only [BitVec.shiftLeft_eq', BitVec.toNat_shiftLeft, a1, a2]
    show (c.toBitVec.toNat % 256) <<< 0 % 2 ^ 32 ||| (c.toBitVec.toNat / 256) <<< 8 % 2 ^ 32 = _
    rw [Nat.shiftLeft_zero, Nat.mod_eq_of_lt (show c.toBitVec.toNat % 256 < 2 ^ 32 by omega), Nat.mod_eq_of_lt (show (c.toBitVec.toNat / 256) <<< 8 < 2 ^ 32 by rw [Nat.shiftLeft_eq]; omega), Nat.or_comm, ← Nat.shiftLeft_add_eq_or_of_lt (by omega), Nat.shiftLeft_eq]
    omega
  show BitVec.toNat (((((lo8 c &&& 255) <<< (0 : Int32)) ||| ((hi8 c &&& 255) <<< (8 : Int32))).toBitVec.setWidth 16).setWidth 32) = _
  rw [BitVec.toNat_setWidth, BitVec.toNat_setWidth, g]
  omega
end StrChars
namespace StrChars
open Jvm Sem ClassFile Op Lib Jvm.Stand Jvm.Free.XT Jvm.Free.ALB Jvm.Free.JM Jvm.Free
open Jvm.Lib.Cold (StaticIs)
/-- the array's cell V codes the n chars f 0 .. f (n - 1) by the coder cd, as the JDK does: coder 1 just where some char is above 255 -/
def Cod (cd : Int32) (n : Nat) (f : Nat → Int32) (V : Cell) : Prop := (cd = 0 ∧ V.slots.size = n ∧ ∀ j, j < n → V.slots[j]? = some (.int (lo8 (f j))) ∧ ¬ 255 < f j) ∨ (cd = 1 ∧ V.slots.size = 2 * n ∧ (∀ j, j < n → V.slots[2 * j]? = some (.int (lo8 (f j))) ∧ V.slots[2 * j + 1]? = some (.int (hi8 (f j)))) ∧ ∃ j, j < n ∧ 255 < f j)
/-- **x is a String of the n chars f 0 .. f (n - 1)**, Latin-1 or UTF-16; its array at t has the cell V -/
def Txt (x t : Addr) (V : Cell) (cd : Int32) (n : Nat) (f : Nat → Int32) (U : State) : Prop := Exact "java/lang/String" x U ∧ Has x "java/lang/String" "value" "[B" (.ref t) U ∧ Has x "java/lang/String" "coder" "B" (.int cd) U ∧ XT.Arr .byte t V U ∧ Cod cd n f V ∧ ∀ j, j < n → ¬ f j < 0 ∧ ¬ 65535 < f j
theorem Txt.mv {x t : Addr} {V : Cell} {cd : Int32} {n : Nat} {f : Nat → Int32} {U U' : State} (h : Txt x t V cd n f U) (hal : U.vm.Alike U'.vm) (hh : U'.heap = U.heap) : Txt x t V cd n f U' := ⟨h.1.mv hal hh, h.2.1.mv hal hh, h.2.2.1.mv hal hh, h.2.2.2.1.mv hal hh, h.2.2.2.2⟩
end StrChars
namespace StrChars.Road
open Jvm Sem ClassFile Op Lib Jvm.Stand Jvm.Free Jvm.Free.XT
open Jvm.Lib.Cold (StaticIs)
theorem consq {a : Array Value} {s : State} {c : Jvm.Cond} {L : List Jvm.Cond} (h0 : c.before a s = true) (h : ∀ w ∈ L, w.before a s = true) : ∀ w ∈ c :: L, w.before a s = true := fun w hw => (List.mem_cons.mp hw).elim (fun e => e ▸ h0) (h w)
/-- the bytes of the chars cs, low before high -/
def wideBytes : List Int32 → List Value
  | [] => []
  | c :: cs => .int (lo8 c) :: .int (hi8 c) :: wideBytes cs
theorem wide_lo (d : Value) : ∀ (cs : List Int32) (j : Nat), j < cs.length → (wideBytes cs).getD (2 * j) d = .int (lo8 (cs.getD j 0))
  | [], j, h => absurd h (Nat.not_lt_zero j)
  | c :: cs, 0, _ => rfl
  | c :: cs, j + 1, h => by
    have q := wide_lo d cs j (by simpa using h)
    rw [show 2 * (j + 1) = 2 * j + 1 + 1 from by omega]
    simpa [wideBytes] using q
theorem wide_hi (d : Value) : ∀ (cs : List Int32) (j : Nat), j < cs.length → (wideBytes cs).getD (2 * j + 1) d = .int (hi8 (cs.getD j 0))
  | [], j, h => absurd h (Nat.not_lt_zero j)
  | c :: cs, 0, _ => rfl
  | c :: cs, j + 1, h => by
    have q := wide_hi d cs j (by simpa using h)
    rw [show 2 * (j + 1) + 1 = 2 * j + 1 + 1 + 1 from by omega]
    simpa [wideBytes] using q
theorem low_at (d : Value) (cs : List Int32) (j : Nat) (h : j < cs.length) : (cs.map fun c => Value.int (lo8 c)).getD j d = .int (lo8 (cs.getD j 0)) := by
  simp [List.getD_eq_getElem?_getD, h]
/-- an array of N2 bytes vs codes the chars cs by the coder cd -/
def CodA (cs : List Int32) (cd N2 : Int32) (vs : List Value) : Prop := (cd = 0 ∧ N2 = Int32.ofNat cs.length ∧ vs = (cs.map fun c => Value.int (lo8 c)) ∧ ∀ c ∈ cs, ¬ 255 < c) ∨ (cd = 1 ∧ N2 = Int32.ofNat (2 * cs.length) ∧ vs = wideBytes cs ∧ ∃ c ∈ cs, 255 < c)
theorem CodA.cod {cs : List Int32} {cd N2 : Int32} {vs : List Value} {V : Cell} (h : CodA cs cd N2 vs) (hn : 2 * cs.length < 2 ^ 31) (hs : V.slots.size = N2.toNatClampNeg) (hv : RoadKit.Has V vs (.int 0)) : Cod cd cs.length (fun j => cs.getD j 0) V := by
  rcases h with ⟨rfl, rfl, rfl, h⟩ | ⟨rfl, rfl, rfl, c, hc, hw⟩
  · rw [n32 (by omega)] at hs
    exact Or.inl ⟨rfl, hs, fun j hj => ⟨by rw [hv j (by omega), low_at _ _ _ hj], by
      have e : cs.getD j 0 = cs[j] := by simp [List.getD_eq_getElem?_getD, hj]
      show ¬ 255 < cs.getD j 0
      rw [e]; exact h _ (List.getElem_mem _)⟩⟩
  · rw [n32 (by omega)] at hs
    obtain ⟨j, hj, rfl⟩ := List.getElem_of_mem hc
    exact Or.inr ⟨rfl, hs, fun j hj => ⟨by rw [hv _ (by omega), wide_lo _ _ _ hj], by rw [hv _ (by omega), wide_hi _ _ _ hj]⟩, j, hj, by
      have e : cs.getD j 0 = cs[j] := by simp [List.getD_eq_getElem?_getD, hj]
      show 255 < cs.getD j 0
      rw [e]; exact hw⟩
/-- an object of exactly java/lang/String, its two fields found: as the laws ask it -/
theorem strObj {Z U : State} {a0 : Array Value} {kI : Nat} (wi : (Jvm.Cond.instantiable ST kI).before a0 Z = true) (al : Z.vm.Alike U.vm) {x : Addr} {v0 c0 : Value} (E : RoadKit.Exa Z U.heap x ST) (V : RoadKit.Fld Z U.heap x ST "value" "[B" v0) (C : RoadKit.Fld Z U.heap x ST "coder" "B" c0) :
    ∃ (D : Cell) (fV fC : Field), Blank ST x D U ∧ Found ST "value" "[B" fV U ∧ Found ST "coder" "B" fC U ∧ D.slots[fV.slot]? = some v0 ∧ D.slots[fC.slot]? = some c0 ∧ RoadKit.slotOf Z ST "value" "[B" = fV.slot ∧ RoadKit.slotOf Z ST "coder" "B" = fC.slot := by
  obtain ⟨D, cfV, kV, iV, fV, hD, gV, stV, knV, obV, asV, slV⟩ := V
  obtain ⟨D', cfC, kC, iC, fC, hD', gC, stC, -, -, asC, slC⟩ := C
  cases hD.symm.trans hD'
  obtain ⟨D2, kD, e1, e2, e3, e4, e5⟩ := E
  cases hD.symm.trans e1
  obtain ⟨c2, k2, i1, i2, i3, -⟩ := Cond.instantiable_spec wi
  cases e2.symm.trans i1
  cases e3.symm.trans i2
  obtain ⟨kU, u1, u2⟩ := al.2.2 _ _ e3
  exact ⟨D, fV, fC, ⟨hD, ⟨knV, fun q hq => by rw [hq] at obV; cases obV⟩, by rw [al.findClass]; exact e2, kU, u1, by rw [u2]; exact i3, by rw [u2]; exact e5 i3⟩, ⟨SBG.found_only al ⟨cfV, kV, iV, gV⟩, stV⟩, ⟨SBG.found_only al ⟨cfC, kC, iC, gC⟩, stC⟩, slV, slC, by simp [RoadKit.slotOf, gV], by simp [RoadKit.slotOf, gC]⟩
theorem sta_is {Z U : State} (al : Z.vm.Alike U.vm) {C n d : String} {v : Value} (S : RoadKit.Sta Z U.heap C n d v) : StaticIs U C n d v := by
  obtain ⟨cfS, iS, kS, fS, st, cS, t1, t2, t3, t4, t5, t6, t7⟩ := S
  exact StaticIs.there (s := { Z with heap := U.heap }) ⟨cfS, iS, kS, fS, st, cS, t1, t2, t3, t4, t5, (fun q => by rw [q] at t6; cases t6), t7⟩ al rfl
end StrChars.Road
namespace StrChars
open Jvm Sem ClassFile Op Lib Jvm.Stand Jvm.Free.XT Jvm.Free.ALB Jvm.Free.JM Jvm.Free
open Jvm.Lib.Cold (StaticIs)
/-- what place i of a byte[]'s cell holds -/
def yv (A : Cell) (i : Nat) : Int32 := match A.slots[i]? with | some (.int x) => x | _ => 0
theorem yv_get {a : Addr} {A : Cell} {U : State} (h : XT.Arr .byte a A U) (ht : Typed .byte A) {i : Nat} (hi : i < A.slots.size) : A.slots[i]? = some (.int (yv A i)) := by
  have e := Array.getElem?_eq_getElem hi
  have f := ht i _ e
  unfold yv; rw [e]
  generalize A.slots[i] = v at f
  cases v <;> simp [fits] at f ⊢
/-- the two arrays are equal, place for place -/
def EqC (A B : Cell) : Prop := A.slots.size = B.slots.size ∧ ∀ i, i < A.slots.size → yv A i = yv B i
/-- a boolean that says whether p -/
def Says01 (q : Prop) (r : Option Value) (s u : State) : Prop := ∃ v : Int32, r = some (.int v) ∧ u.heap = s.heap ∧ ((v = 1 ∧ q) ∨ (v = 0 ∧ ¬ q))
theorem Says01.mv {q : Prop} : ∀ r (U U' V V' : State), U'.heap = U.heap → V.vm.Alike V'.vm → V'.heap = V.heap → Says01 q r U V → Says01 q r U' V' :=
  fun r U U' V V' h1 _ h2 ⟨v, a, b, c⟩ => ⟨v, a, by rw [h1, h2]; exact b, c⟩
namespace LEq
def yN : MethodName := ⟨"java/lang/StringLatin1", "equals", "([B[B)Z"⟩
abbrev yB : ByteArray := jdk_43_method_13_code
theorem d0 : decode yB 0 = .ok (.aload_n 0, 1) := by decide +kernel
theorem d1 : decode yB 1 = .ok (.arraylength, 1) := by decide +kernel
theorem d2 : decode yB 2 = .ok (.aload_n 1, 1) := by decide +kernel
theorem d3 : decode yB 3 = .ok (.arraylength, 1) := by decide +kernel
theorem d4 : decode yB 4 = .ok (.if_icmp (.ne) 30, 3) := by decide +kernel
theorem d7 : decode yB 7 = .ok (.iconst 0, 1) := by decide +kernel
theorem d8 : decode yB 8 = .ok (.istore_n 2, 1) := by decide +kernel
theorem d9 : decode yB 9 = .ok (.iload_n 2, 1) := by decide +kernel
theorem d10 : decode yB 10 = .ok (.aload_n 0, 1) := by decide +kernel
theorem d11 : decode yB 11 = .ok (.arraylength, 1) := by decide +kernel
theorem d12 : decode yB 12 = .ok (.if_icmp (.ge) 20, 3) := by decide +kernel
theorem d15 : decode yB 15 = .ok (.aload_n 0, 1) := by decide +kernel
theorem d16 : decode yB 16 = .ok (.iload_n 2, 1) := by decide +kernel
theorem d17 : decode yB 17 = .ok (.baload, 1) := by decide +kernel
theorem d18 : decode yB 18 = .ok (.aload_n 1, 1) := by decide +kernel
theorem d19 : decode yB 19 = .ok (.iload_n 2, 1) := by decide +kernel
theorem d20 : decode yB 20 = .ok (.baload, 1) := by decide +kernel
theorem d21 : decode yB 21 = .ok (.if_icmp (.eq) 5, 3) := by decide +kernel
theorem d24 : decode yB 24 = .ok (.iconst 0, 1) := by decide +kernel
theorem d25 : decode yB 25 = .ok (.ireturn, 1) := by decide +kernel
theorem d26 : decode yB 26 = .ok (.iinc 2 1, 3) := by decide +kernel
theorem d29 : decode yB 29 = .ok (.goto (-20), 3) := by decide +kernel
theorem d32 : decode yB 32 = .ok (.iconst 1, 1) := by decide +kernel
theorem d33 : decode yB 33 = .ok (.ireturn, 1) := by decide +kernel
theorem d34 : decode yB 34 = .ok (.iconst 0, 1) := by decide +kernel
theorem d35 : decode yB 35 = .ok (.ireturn, 1) := by decide +kernel
def site : List Cond := []
def tab : Cond := tabOf yN yB 3 (some .boolean) site
def P (a : Addr) (A : Cell) (b : Addr) (B : Cell) (args : Array Value) (s : State) : Prop := args = #[.ref a, .ref b] ∧ XT.Arr .byte a A s ∧ Typed .byte A ∧ XT.Arr .byte b B s ∧ Typed .byte B
/-- whether two byte[] are equal, place for place -/
theorem law (l : Launch) (a : Addr) (A : Cell) (b : Addr) (B : Cell) : Law l yN 2 2 0 0 yB 3 (some .boolean) site (P a A b B) (Says01 (EqC A B)) [] 0 0 := by
  refine Law.of_walk (plainFor_of_name (by decide +kernel)) (by decide +kernel) (by decide +kernel) (by decide) (fun _ _ h => by rw [h.1]; rfl) (fun _ U U' hal hh h => ⟨h.1, h.2.1.mv hal hh, h.2.2.1, h.2.2.2.1.mv hal hh, h.2.2.2.2⟩) (fun r U U' V V' h1 hal h2 h => Says01.mv r U U' V V' h1 hal h2 h) ?_
  intro p e s m args below meth c s₁ X0 hexec hbytes hml hret hlk hnm hown hh0 W hP
  obtain ⟨rfl, hA, tA, hB, tB⟩ := hP
  have a31 := hA.2.2.2
  have b31 := hB.2.2.2
  have hA0 := hA.mv X0.warmed.alike hh0
  have hB0 := hB.mv X0.warmed.alike hh0
  have c1 : Steps p.tables e below (s₁.setTop (entryFrame m #[.ref a, .ref b] 3)) (s₁.setTop (mkF m 0 #[.val (.ref a), .val (.ref b), .unset] [])) := entry rfl
  have c2 : Steps p.tables e below (s₁.setTop (entryFrame m #[.ref a, .ref b] 3)) (s₁.setTop (mkF m 4 #[.val (.ref a), .val (.ref b), .unset] [.int (Int32.ofNat B.slots.size), .int (Int32.ofNat A.slots.size)])) := c1.trans (by
    refine XS.aloadN X0.here hexec rfl (hb hbytes d0) rfl rfl ?_
    refine X0.alen hexec hA0 rfl rfl (hb hbytes d1) ?_
    refine XS.aloadN X0.here hexec rfl (hb hbytes d2) rfl rfl ?_
    refine X0.alen hexec hB0 rfl rfl (hb hbytes d3) ?_
    exact Steps.refl _)
  by_cases hs : A.slots.size = B.slots.size
  · have c3 : Steps p.tables e below (s₁.setTop (entryFrame m #[.ref a, .ref b] 3)) (s₁.setTop (mkF m 9 #[.val (.ref a), .val (.ref b), .val (.int 0)] [])) := c2.trans (by
      refine XS.icmpNo X0.here hexec rfl (hb hbytes d4) rfl (ii_ne_f (by rw [hs])) ?_
      refine iconstV X0.here hexec rfl 0 (hb hbytes d7) (by decide) ?_
      refine XS.istoreN X0.here hexec rfl (hb hbytes d8) rfl rfl ?_
      exact Steps.refl _)
    have loop : ∀ (r i : Nat), i + r = A.slots.size → (∀ j, j < i → yv A j = yv B j) → Steps p.tables e below (s₁.setTop (entryFrame m #[.ref a, .ref b] 3)) (s₁.setTop (mkF m 9 #[.val (.ref a), .val (.ref b), .val (.int (Int32.ofNat i))] [])) → ∃ (pc : Nat) (Ls : Array Slot) (v : Int32), (pc = 25 ∨ pc = 33) ∧ ((v = 1 ∧ EqC A B) ∨ (v = 0 ∧ ¬ EqC A B)) ∧ Steps p.tables e below (s₁.setTop (entryFrame m #[.ref a, .ref b] 3)) (s₁.setTop (mkF m pc Ls [.int v])) := by
      intro r
      induction r with
      | zero =>
        intro i hi he cl
        exact ⟨33, _, 1, Or.inr rfl, Or.inl ⟨rfl, hs, fun j hj => he j (by omega)⟩, cl.trans (by
          refine XS.iloadN X0.here hexec rfl (hb hbytes d9) rfl ?_
          refine XS.aloadN X0.here hexec rfl (hb hbytes d10) rfl rfl ?_
          refine X0.alen hexec hA0 rfl rfl (hb hbytes d11) ?_
          refine XS.icmpYes X0.here hexec rfl (pc0 := 12) rfl (hb hbytes d12) rfl (ii_ge_t (nlt32 (by omega) (by omega))) (by decide) rfl ?_
          refine iconstV X0.here hexec rfl 1 (hb hbytes d32) (by decide) ?_
          exact Steps.refl _)⟩
      | succ r ih =>
        intro i hi he cl
        have c4 : Steps p.tables e below (s₁.setTop (entryFrame m #[.ref a, .ref b] 3)) (s₁.setTop (mkF m 21 #[.val (.ref a), .val (.ref b), .val (.int (Int32.ofNat i))] [.int (yv B i), .int (yv A i)])) := cl.trans (by
          refine XS.iloadN X0.here hexec rfl (hb hbytes d9) rfl ?_
          refine XS.aloadN X0.here hexec rfl (hb hbytes d10) rfl rfl ?_
          refine X0.alen hexec hA0 rfl rfl (hb hbytes d11) ?_
          refine XS.icmpNo X0.here hexec rfl (hb hbytes d12) rfl (ii_ge_f (lt32 (by omega) (by omega))) ?_
          refine XS.aloadN X0.here hexec rfl (hb hbytes d15) rfl rfl ?_
          refine XS.iloadN X0.here hexec rfl (hb hbytes d16) rfl ?_
          refine X0.aget hexec hA0 rfl (yv_get hA tA (i := i) (by omega)) rfl rfl (hb hbytes d17) ?_
          refine XS.aloadN X0.here hexec rfl (hb hbytes d18) rfl rfl ?_
          refine XS.iloadN X0.here hexec rfl (hb hbytes d19) rfl ?_
          refine X0.aget hexec hB0 rfl (yv_get hB tB (i := i) (by omega)) rfl rfl (hb hbytes d20) ?_
          exact Steps.refl _)
        by_cases hv : yv A i = yv B i
        · have c5 : Steps p.tables e below (s₁.setTop (entryFrame m #[.ref a, .ref b] 3)) (s₁.setTop (mkF m 9 #[.val (.ref a), .val (.ref b), .val (.int (Int32.ofNat i + 1))] [])) := c4.trans (by
            refine XS.icmpYes X0.here hexec rfl (pc0 := 21) rfl (hb hbytes d21) rfl (ii_eq_t hv) (by decide) rfl ?_
            refine iincV X0.here hexec rfl 1 (hb hbytes d26) (by decide) rfl rfl ?_
            refine XS.goto X0.here hexec rfl (pc0 := 29) rfl (hb hbytes d29) (by decide) rfl ?_
            exact Steps.refl _)
          rw [succ32] at c5
          exact ih (i + 1) (by omega) (fun j hj => by
            by_cases e : j = i
            · rw [e]; exact hv
            · exact he j (by omega)) c5
        · exact ⟨25, _, 0, Or.inl rfl, Or.inr ⟨rfl, fun q => hv (q.2 i (by omega))⟩, c4.trans (by
            refine XS.icmpNo X0.here hexec rfl (hb hbytes d21) rfl (ii_eq_f hv) ?_
            refine iconstV X0.here hexec rfl 0 (hb hbytes d24) (by decide) ?_
            exact Steps.refl _)⟩
    obtain ⟨pc, Ls, v, hpc, hv, cz⟩ := loop A.slots.size 0 (by omega) (fun j hj => absurd hj (Nat.not_lt_zero j)) c3
    have nv : narrow .boolean (.int v) = .int v := by rcases hv with ⟨rfl, -⟩ | ⟨rfl, -⟩ <;> rfl
    rcases hpc with rfl | rfl
    · exact ⟨s₁, some (.int v), _, _, _, X0, rfl, rfl, rfl, (fun h => by cases h), ⟨v, rfl, hh0, hv⟩, fun fs hl => cz.trans (X0.ireturnOut hexec hret nv (Or.inr (Or.inl rfl)) (hb hbytes d25) hl)⟩
    · exact ⟨s₁, some (.int v), _, _, _, X0, rfl, rfl, rfl, (fun h => by cases h), ⟨v, rfl, hh0, hv⟩, fun fs hl => cz.trans (X0.ireturnOut hexec hret nv (Or.inr (Or.inl rfl)) (hb hbytes d33) hl)⟩
  · have c3 : Steps p.tables e below (s₁.setTop (entryFrame m #[.ref a, .ref b] 3)) (s₁.setTop (mkF m 35 #[.val (.ref a), .val (.ref b), .unset] [.int 0])) := c2.trans (by
      refine XS.icmpYes X0.here hexec rfl (pc0 := 4) rfl (hb hbytes d4) rfl (ii_ne_t (ne32 a31 b31 hs)) (by decide) rfl ?_
      refine iconstV X0.here hexec rfl 0 (hb hbytes d34) (by decide) ?_
      exact Steps.refl _)
    exact ⟨s₁, some (.int 0), _, _, _, X0, rfl, rfl, rfl, (fun h => by cases h), ⟨0, rfl, hh0, Or.inr ⟨rfl, fun q => hs q.1⟩⟩, fun fs hl => c3.trans (X0.ireturnOut hexec hret rfl (Or.inr (Or.inl rfl)) (hb hbytes d35) hl)⟩
end LEq
theorem Cod.ty {cd : Int32} {n : Nat} {f : Nat → Int32} {V : Cell} (h : Cod cd n f V) : Typed .byte V := fun i v hv => by
  have hi : i < V.slots.size := (Array.getElem?_eq_some_iff.mp hv).1
  rcases h with ⟨-, k1, k2⟩ | ⟨-, k1, k2, -⟩
  · rw [(k2 i (by omega)).1] at hv; cases hv; exact fits_lo8 _
  · rcases Nat.mod_two_eq_zero_or_one i with e | e
    · obtain ⟨j, rfl⟩ : ∃ j, i = 2 * j := ⟨i / 2, by omega⟩
      rw [(k2 j (by omega)).1] at hv; cases hv; exact fits_lo8 _
    · obtain ⟨j, rfl⟩ : ∃ j, i = 2 * j + 1 := ⟨i / 2, by omega⟩
      rw [(k2 j (by omega)).2] at hv; cases hv; exact fits_lo8 _
/-- the same text -/
def SameT (n : Nat) (f : Nat → Int32) (k : Nat) (g : Nat → Int32) : Prop := n = k ∧ ∀ j, j < n → f j = g j
theorem lo8_inj {x y : Int32} (h0 : ¬ x < 0) (h1 : ¬ 255 < x) (k0 : ¬ y < 0) (k1 : ¬ 255 < y) (h : lo8 x = lo8 y) : x = y := by
  rw [← lo8_mask h0 h1, ← lo8_mask k0 k1, h]
/-- arrays coded by one coder are equal just where the texts are -/
theorem Cod.eqv {cd : Int32} {n k : Nat} {f g : Nat → Int32} {V V' : Cell} (h : Cod cd n f V) (h' : Cod cd k g V') (hf : ∀ j, j < n → ¬ f j < 0 ∧ ¬ 65535 < f j) (hg : ∀ j, j < k → ¬ g j < 0 ∧ ¬ 65535 < g j) : EqC V V' ↔ SameT n f k g := by
  have yvv : ∀ {W : Cell} {i : Nat} {x : Int32}, W.slots[i]? = some (.int x) → yv W i = x := fun q => by unfold yv; rw [q]
  rcases h with ⟨rfl, k1, k2⟩ | ⟨rfl, k1, k2, -⟩
  · rcases h' with ⟨-, m1, m2⟩ | ⟨e, -⟩
    · constructor
      · rintro ⟨e1, e2⟩
        refine ⟨by omega, fun j hj => ?_⟩
        have q := e2 j (by omega)
        rw [yvv (k2 j hj).1, yvv (m2 j (by omega)).1] at q
        exact lo8_inj (hf j hj).1 (k2 j hj).2 (hg j (by omega)).1 (m2 j (by omega)).2 q
      · rintro ⟨rfl, e2⟩
        refine ⟨by omega, fun j hj => ?_⟩
        rw [yvv (k2 j (by omega)).1, yvv (m2 j (by omega)).1, e2 j (by omega)]
    · exact absurd e (by decide)
  · rcases h' with ⟨e, -⟩ | ⟨-, m1, m2, -⟩
    · exact absurd e (by decide)
    · constructor
      · rintro ⟨e1, e2⟩
        refine ⟨by omega, fun j hj => ?_⟩
        have q1 := e2 (2 * j) (by omega)
        have q2 := e2 (2 * j + 1) (by omega)
        rw [yvv (k2 j hj).1, yvv (m2 j (by omega)).1] at q1
        rw [yvv (k2 j hj).2, yvv (m2 j (by omega)).2] at q2
        rw [← pair_says (hf j hj).1 (hf j hj).2, ← pair_says (hg j (by omega)).1 (hg j (by omega)).2, q1, q2]
      · rintro ⟨rfl, e2⟩
        refine ⟨by omega, fun i hi => ?_⟩
        rcases Nat.mod_two_eq_zero_or_one i with e | e
        · obtain ⟨j, rfl⟩ : ∃ j, i = 2 * j := ⟨i / 2, by omega⟩
          rw [yvv (k2 j (by omega)).1, yvv (m2 j (by omega)).1, e2 j (by omega)]
        · obtain ⟨j, rfl⟩ : ∃ j, i = 2 * j + 1 := ⟨i / 2, by omega⟩
          rw [yvv (k2 j (by omega)).2, yvv (m2 j (by omega)).2, e2 j (by omega)]
/-- two codings differ: so do the texts -/
theorem Cod.dif {cd cd' : Int32} {n k : Nat} {f g : Nat → Int32} {V V' : Cell} (h : Cod cd n f V) (h' : Cod cd' k g V') (hne : ¬ cd = cd') : ¬ SameT n f k g := by
  rintro ⟨rfl, e⟩
  rcases h with ⟨rfl, -, k2⟩ | ⟨rfl, -, -, j, hj, hw⟩
  · rcases h' with ⟨rfl, -⟩ | ⟨-, -, -, j, hj, hw⟩
    · exact hne rfl
    · exact (k2 j hj).2 (by rw [e j hj]; exact hw)
  · rcases h' with ⟨-, -, m2⟩ | ⟨rfl, -⟩
    · exact (m2 j hj).2 (by rw [← e j hj]; exact hw)
    · exact hne rfl
/-- an object of exactly C is an instance of C -/
theorem cinst {p : Program} {l : Launch} {e : Env} {R : Room} {s : State} {m : MethodId} {args : Array Value} {below : List Frame} {meth : Method} {c : Code} {T : State} {locs : List Loc} {cells slots : Nat} (X : Stand p l e R s m args below meth c T locs cells slots) (hexec : p.tables.exec = Jvm.exec) {own C : String} {index : Nat} (hown : s.vm.findClass own = some m.cls) (hlink : (Cond.classLink own index C).before args s = true) {a : Addr} (hE : Exact C a T)
    {g : JFrame} (hg : g.method = m) {rest : List Value} (hstack : g.stack = .ref a :: rest) (hdg : decode c.code g.pc = .ok (.instanceof index, 3)) :
    ∃ T', Stand p l e R s m args below meth c T' locs cells slots ∧ T'.heap = T.heap ∧ ∀ target, Steps p.tables e below (T'.setTop { g with pc := g.pc + 3, stack := .int 1 :: rest }) target → Steps p.tables e below (T.setTop g) target := by
  obtain ⟨cB, h1, D, h2, h3, h4⟩ := hE
  have h1' : s.vm.findClass C = some cB := by rw [← X.warmed.alike.findClass]; exact h1
  obtain ⟨vm', X', st⟩ := X.instanceofYes hexec hown hlink h2 h4 h1' (by rw [h3]; exact Jvm.Free.SB.assignable_self _ _) hg hstack hdg
  exact ⟨_, X', rfl, st⟩
theorem cself {p : Program} {l : Launch} {e : Env} {R : Room} {s : State} {m : MethodId} {args : Array Value} {below : List Frame} {meth : Method} {c : Code} {T : State} {locs : List Loc} {cells slots : Nat} (X : Stand p l e R s m args below meth c T locs cells slots) (hexec : p.tables.exec = Jvm.exec) {own C : String} {index : Nat} (hown : s.vm.findClass own = some m.cls) (hlink : (Cond.classLink own index C).before args s = true) {a : Addr} (hE : Exact C a T)
    {g : JFrame} (hg : g.method = m) {rest : List Value} (hstack : g.stack = .ref a :: rest) (hdg : decode c.code g.pc = .ok (.checkcast index, 3)) :
    ∃ T', Stand p l e R s m args below meth c T' locs cells slots ∧ T'.heap = T.heap ∧ ∀ target, Steps p.tables e below (T'.setTop { g with pc := g.pc + 3, stack := .ref a :: rest }) target → Steps p.tables e below (T.setTop g) target := by
  obtain ⟨cB, h1, D, h2, h3, h4⟩ := hE
  have h1' : s.vm.findClass C = some cB := by rw [← X.warmed.alike.findClass]; exact h1
  obtain ⟨vm', X', st⟩ := X.checkcastYes hexec hown hlink h2 h4 h1' (by rw [h3]; exact Jvm.Free.SB.assignable_self _ _) hg hstack hdg
  exact ⟨_, X', rfl, fun t h => st t (by rw [← hstack] at h; exact h)⟩
namespace SEq
def yN : MethodName := ⟨"java/lang/String", "equals", "(Ljava/lang/Object;)Z"⟩
abbrev yB : ByteArray := jdk_42_method_66_code
theorem d0 : decode yB 0 = .ok (.aload_n 0, 1) := by decide +kernel
theorem d1 : decode yB 1 = .ok (.aload_n 1, 1) := by decide +kernel
theorem d2 : decode yB 2 = .ok (.if_acmp (.ne) 5, 3) := by decide +kernel
theorem d5 : decode yB 5 = .ok (.iconst 1, 1) := by decide +kernel
theorem d6 : decode yB 6 = .ok (.ireturn, 1) := by decide +kernel
theorem d7 : decode yB 7 = .ok (.aload_n 1, 1) := by decide +kernel
theorem d8 : decode yB 8 = .ok (.instanceof 10, 3) := by decide +kernel
theorem d11 : decode yB 11 = .ok (.ifCond (.eq) 43, 3) := by decide +kernel
theorem d14 : decode yB 14 = .ok (.aload_n 1, 1) := by decide +kernel
theorem d15 : decode yB 15 = .ok (.checkcast 10, 3) := by decide +kernel
theorem d18 : decode yB 18 = .ok (.astore_n 2, 1) := by decide +kernel
theorem d19 : decode yB 19 = .ok (.getstatic 38, 3) := by decide +kernel
theorem d22 : decode yB 22 = .ok (.ifCond (.eq) 14, 3) := by decide +kernel
theorem d25 : decode yB 25 = .ok (.aload_n 0, 1) := by decide +kernel
theorem d26 : decode yB 26 = .ok (.getfield 15, 3) := by decide +kernel
theorem d29 : decode yB 29 = .ok (.aload_n 2, 1) := by decide +kernel
theorem d30 : decode yB 30 = .ok (.getfield 15, 3) := by decide +kernel
theorem d33 : decode yB 33 = .ok (.if_icmp (.ne) 21, 3) := by decide +kernel
theorem d36 : decode yB 36 = .ok (.aload_n 0, 1) := by decide +kernel
theorem d37 : decode yB 37 = .ok (.getfield 9, 3) := by decide +kernel
theorem d40 : decode yB 40 = .ok (.aload_n 2, 1) := by decide +kernel
theorem d41 : decode yB 41 = .ok (.getfield 9, 3) := by decide +kernel
theorem d44 : decode yB 44 = .ok (.invokestatic 541, 3) := by decide +kernel
theorem d47 : decode yB 47 = .ok (.ifCond (.eq) 7, 3) := by decide +kernel
theorem d50 : decode yB 50 = .ok (.iconst 1, 1) := by decide +kernel
theorem d51 : decode yB 51 = .ok (.goto 4, 3) := by decide +kernel
theorem d54 : decode yB 54 = .ok (.iconst 0, 1) := by decide +kernel
theorem d55 : decode yB 55 = .ok (.ireturn, 1) := by decide +kernel
def site : List Cond := [.classLink "java/lang/String" 10 "java/lang/String", .fieldLink "java/lang/String" 38 "java/lang/String" "COMPACT_STRINGS" "Z", .fieldLink "java/lang/String" 15 "java/lang/String" "coder" "B", .fieldLink "java/lang/String" 9 "java/lang/String" "value" "[B", LEq.tab] ++ staticW "java/lang/String" 541 LEq.yN
def tab : Cond := tabOf yN yB 3 (some .boolean) site
def P (x t : Addr) (V : Cell) (cd : Int32) (n : Nat) (f : Nat → Int32) (y t' : Addr) (V' : Cell) (cd' : Int32) (k : Nat) (g : Nat → Int32) (z : Int32) (args : Array Value) (s : State) : Prop := args = #[.ref x, .ref y] ∧ Txt x t V cd n f s ∧ Txt y t' V' cd' k g s ∧ StaticIs s "java/lang/String" "COMPACT_STRINGS" "Z" (.int z) ∧ ¬ z = 0
/-- equals(Object) of two Strings: whether the texts are the same -/
theorem law (l : Launch) (x t : Addr) (V : Cell) (cd : Int32) (n : Nat) (f : Nat → Int32) (y t' : Addr) (V' : Cell) (cd' : Int32) (k : Nat) (g : Nat → Int32) (z : Int32) : Law l yN 2 1 1 14 yB 3 (some .boolean) site (P x t V cd n f y t' V' cd' k g z) (Says01 (SameT n f k g)) [] 0 0 := by
  refine Law.of_walk (plainFor_of_name (by decide +kernel)) (by decide +kernel) (by decide +kernel) (by decide) (fun _ _ h => by rw [h.1]; rfl) (fun _ U U' hal hh h => ⟨h.1, h.2.1.mv hal hh, h.2.2.1.mv hal hh, h.2.2.2.1.there hal hh, h.2.2.2.2⟩) (fun r U U' V V' h1 hal h2 h => Says01.mv r U U' V V' h1 hal h2 h) ?_
  intro p e s m args below meth c s₁ X0 hexec hbytes hml hret hlk hnm hown hh0 W hP
  obtain ⟨rfl, hx, hy, s1, hz⟩ := hP
  have c1 : Steps p.tables e below (s₁.setTop (entryFrame m #[.ref x, .ref y] 3)) (s₁.setTop (mkF m 2 #[.val (.ref x), .val (.ref y), .unset] [.ref y, .ref x])) := Steps.trans (entry rfl) (by
    show Steps p.tables e below (s₁.setTop (mkF m 0 #[.val (.ref x), .val (.ref y), .unset] [])) _
    refine XS.aloadN X0.here hexec rfl (hb hbytes d0) rfl rfl ?_
    refine XS.aloadN X0.here hexec rfl (hb hbytes d1) rfl rfl ?_
    exact Steps.refl _)
  by_cases hxy : x = y
  · have c2 : Steps p.tables e below (s₁.setTop (entryFrame m #[.ref x, .ref y] 3)) (s₁.setTop (mkF m 6 #[.val (.ref x), .val (.ref y), .unset] [.int 1])) := c1.trans (by
      refine acmpNo X0.here hexec rfl (hb hbytes d2) rfl rfl rfl (by simp [acmp, hxy]) ?_
      refine iconstV X0.here hexec rfl 1 (hb hbytes d5) (by decide) ?_
      exact Steps.refl _)
    subst hxy
    have ec : cd = cd' := by
      obtain ⟨D, fd, a1, a2, a3⟩ := hx.2.2.1
      obtain ⟨D', fd', b1, b2, b3⟩ := hy.2.2.1
      cases a1.symm.trans b1
      obtain ⟨q1, q2, q3, q4⟩ := a2.1
      obtain ⟨r1, r2, r3, r4⟩ := b2.1
      cases q4.symm.trans r4
      cases a3.symm.trans b3; rfl
    have et : t = t' := by
      obtain ⟨D, fd, a1, a2, a3⟩ := hx.2.1
      obtain ⟨D', fd', b1, b2, b3⟩ := hy.2.1
      cases a1.symm.trans b1
      obtain ⟨q1, q2, q3, q4⟩ := a2.1
      obtain ⟨r1, r2, r3, r4⟩ := b2.1
      cases q4.symm.trans r4
      cases a3.symm.trans b3; rfl
    subst ec et
    have ev : V = V' := by cases hx.2.2.2.1.1.symm.trans hy.2.2.2.1.1; rfl
    subst ev
    have hs : SameT n f k g := (Cod.eqv hx.2.2.2.2.1 hy.2.2.2.2.1 hx.2.2.2.2.2 hy.2.2.2.2.2).mp ⟨rfl, fun _ _ => rfl⟩
    exact ⟨s₁, some (.int 1), _, _, _, X0, rfl, rfl, rfl, (fun h => by cases h), ⟨1, rfl, hh0, Or.inl ⟨rfl, hs⟩⟩, fun fs hl => c2.trans (X0.ireturnOut hexec hret rfl (Or.inr (Or.inl rfl)) (hb hbytes d6) hl)⟩
  · have c2 : Steps p.tables e below (s₁.setTop (entryFrame m #[.ref x, .ref y] 3)) (s₁.setTop (mkF m 8 #[.val (.ref x), .val (.ref y), .unset] [.ref y])) := c1.trans (by
      refine acmpYes X0.here hexec rfl (pc0 := 2) rfl (hb hbytes d2) rfl rfl rfl (by simp [acmp, hxy]) (by decide) rfl ?_
      refine XS.aloadN X0.here hexec rfl (hb hbytes d7) rfl rfl ?_
      exact Steps.refl _)
    obtain ⟨T3, X3, q3, st3⟩ := cinst X0 hexec hown (wk W (.classLink "java/lang/String" 10 "java/lang/String")) (hy.mv X0.warmed.alike hh0).1 (g := (mkF m 8 #[.val (.ref x), .val (.ref y), .unset] [.ref y])) rfl (rest := []) rfl (hb hbytes d8)
    have hh3 := q3.trans hh0
    have c4 : Steps p.tables e below (s₁.setTop (entryFrame m #[.ref x, .ref y] 3)) (T3.setTop (mkF m 15 #[.val (.ref x), .val (.ref y), .unset] [.ref y])) := (c2.trans (st3 _ (Steps.refl _))).trans (by
      refine XS.ifNo X3.here hexec rfl (hb hbytes d11) rfl (i0_eq_f (by decide)) ?_
      refine XS.aloadN X3.here hexec rfl (hb hbytes d14) rfl rfl ?_
      exact Steps.refl _)
    obtain ⟨T5, X5, q5, st5⟩ := cself X3 hexec hown (wk W (.classLink "java/lang/String" 10 "java/lang/String")) (hy.mv X3.warmed.alike hh3).1 (g := (mkF m 15 #[.val (.ref x), .val (.ref y), .unset] [.ref y])) rfl (rest := []) rfl (hb hbytes d15)
    have hh5 := q5.trans hh3
    have c6 : Steps p.tables e below (s₁.setTop (entryFrame m #[.ref x, .ref y] 3)) (T5.setTop (mkF m 19 #[.val (.ref x), .val (.ref y), .val (.ref y)] [])) := (c4.trans (st5 _ (Steps.refl _))).trans (by
      refine XS.astoreN X5.here hexec rfl (hb hbytes d18) rfl rfl rfl ?_
      exact Steps.refl _)
    obtain ⟨T7, X7, q7, st7⟩ := X5.sget hexec hown (wk W (.fieldLink "java/lang/String" 38 "java/lang/String" "COMPACT_STRINGS" "Z")) s1 (fun _ _ h => by rw [hh5]; exact h) (g := (mkF m 19 #[.val (.ref x), .val (.ref y), .val (.ref y)] [])) rfl (hb hbytes d19)
    have hh7 := q7.trans hh5
    have c8 : Steps p.tables e below (s₁.setTop (entryFrame m #[.ref x, .ref y] 3)) (T7.setTop (mkF m 26 #[.val (.ref x), .val (.ref y), .val (.ref y)] [.ref x])) := (c6.trans (st7 _ (Steps.refl _))).trans (by
      refine XS.ifNo X7.here hexec rfl (hb hbytes d22) rfl (i0_eq_f hz) ?_
      refine XS.aloadN X7.here hexec rfl (hb hbytes d25) rfl rfl ?_
      exact Steps.refl _)
    obtain ⟨T9, X9, q9, st9⟩ := X7.hget hexec hown (wk W (.fieldLink "java/lang/String" 15 "java/lang/String" "coder" "B")) (hx.mv X7.warmed.alike hh7).2.2.1 (g := (mkF m 26 #[.val (.ref x), .val (.ref y), .val (.ref y)] [.ref x])) rfl (rest := []) rfl (hb hbytes d26)
    have hh9 := q9.trans hh7
    have c10 : Steps p.tables e below (s₁.setTop (entryFrame m #[.ref x, .ref y] 3)) (T9.setTop (mkF m 30 #[.val (.ref x), .val (.ref y), .val (.ref y)] [.ref y, .int cd])) := (c8.trans (st9 _ (Steps.refl _))).trans (by
      refine XS.aloadN X9.here hexec rfl (hb hbytes d29) rfl rfl ?_
      exact Steps.refl _)
    obtain ⟨T11, X11, q11, st11⟩ := X9.hget hexec hown (wk W (.fieldLink "java/lang/String" 15 "java/lang/String" "coder" "B")) (hy.mv X9.warmed.alike hh9).2.2.1 (g := (mkF m 30 #[.val (.ref x), .val (.ref y), .val (.ref y)] [.ref y, .int cd])) rfl (rest := [.int cd]) rfl (hb hbytes d30)
    have hh11 := q11.trans hh9
    have c12 : Steps p.tables e below (s₁.setTop (entryFrame m #[.ref x, .ref y] 3)) (T11.setTop (mkF m 33 #[.val (.ref x), .val (.ref y), .val (.ref y)] [.int cd', .int cd])) := c10.trans (st11 _ (Steps.refl _))
    by_cases hcd : cd = cd'
    · subst hcd
      have c13 : Steps p.tables e below (s₁.setTop (entryFrame m #[.ref x, .ref y] 3)) (T11.setTop (mkF m 37 #[.val (.ref x), .val (.ref y), .val (.ref y)] [.ref x])) := c12.trans (by
        refine XS.icmpNo X11.here hexec rfl (hb hbytes d33) rfl (ii_ne_f rfl) ?_
        refine XS.aloadN X11.here hexec rfl (hb hbytes d36) rfl rfl ?_
        exact Steps.refl _)
      obtain ⟨T14, X14, q14, st14⟩ := X11.hget hexec hown (wk W (.fieldLink "java/lang/String" 9 "java/lang/String" "value" "[B")) (hx.mv X11.warmed.alike hh11).2.1 (g := (mkF m 37 #[.val (.ref x), .val (.ref y), .val (.ref y)] [.ref x])) rfl (rest := []) rfl (hb hbytes d37)
      have hh14 := q14.trans hh11
      have c15 : Steps p.tables e below (s₁.setTop (entryFrame m #[.ref x, .ref y] 3)) (T14.setTop (mkF m 41 #[.val (.ref x), .val (.ref y), .val (.ref y)] [.ref y, .ref t])) := (c13.trans (st14 _ (Steps.refl _))).trans (by
        refine XS.aloadN X14.here hexec rfl (hb hbytes d40) rfl rfl ?_
        exact Steps.refl _)
      obtain ⟨T16, X16, q16, st16⟩ := X14.hget hexec hown (wk W (.fieldLink "java/lang/String" 9 "java/lang/String" "value" "[B")) (hy.mv X14.warmed.alike hh14).2.1 (g := (mkF m 41 #[.val (.ref x), .val (.ref y), .val (.ref y)] [.ref y, .ref t])) rfl (rest := [.ref t]) rfl (hb hbytes d41)
      have hh16 := q16.trans hh14
      have c17 : Steps p.tables e below (s₁.setTop (entryFrame m #[.ref x, .ref y] 3)) (T16.setTop (mkF m 44 #[.val (.ref x), .val (.ref y), .val (.ref y)] [.ref t', .ref t])) := c15.trans (st16 _ (Steps.refl _))
      obtain ⟨v18, T18, X18, E18, g18⟩ := X16.callS hexec (LEq.law l t V t' V') hown (wks W (staticW "java/lang/String" 541 LEq.yN)) (wk W LEq.tab) (W := 0) (Nat.le_of_ble_eq_true rfl) (Nat.le_of_ble_eq_true rfl) (Nat.le_refl _) (Nat.le_refl _) (g := (mkF m 44 #[.val (.ref x), .val (.ref y), .val (.ref y)] [.ref t', .ref t])) rfl (by rw [hml]; rfl) c17 (argsL := [.ref t, .ref t']) (rest := []) rfl rfl (by show 2 * 0 + 0 ≤ _; decide) (hb hbytes d44) (⟨rfl, hx.2.2.2.1.mv X16.warmed.alike hh16, hx.2.2.2.2.1.ty, hy.2.2.2.1.mv X16.warmed.alike hh16, hy.2.2.2.2.1.ty⟩)
      obtain ⟨v, rfl, q18, hv⟩ := E18
      have iff := Cod.eqv hx.2.2.2.2.1 hy.2.2.2.2.1 hx.2.2.2.2.2 hy.2.2.2.2.2
      rcases hv with ⟨rfl, he⟩ | ⟨rfl, he⟩
      · have c19 : Steps p.tables e below (s₁.setTop (entryFrame m #[.ref x, .ref y] 3)) (T18.setTop (mkF m 55 #[.val (.ref x), .val (.ref y), .val (.ref y)] [.int 1])) := Steps.trans g18 (by
          refine XS.ifNo X18.here hexec rfl (hb hbytes d47) rfl (i0_eq_f (by decide)) ?_
          refine iconstV X18.here hexec rfl 1 (hb hbytes d50) (by decide) ?_
          refine XS.goto X18.here hexec rfl (pc0 := 51) rfl (hb hbytes d51) (by decide) rfl ?_
          exact Steps.refl _)
        exact ⟨T18, some (.int 1), _, _, _, X18, rfl, rfl, rfl, (fun h => by cases h), ⟨1, rfl, q18.trans hh16, Or.inl ⟨rfl, iff.mp he⟩⟩, fun fs hl => c19.trans (X18.ireturnOut hexec hret rfl (Or.inr (Or.inl rfl)) (hb hbytes d55) hl)⟩
      · have c19 : Steps p.tables e below (s₁.setTop (entryFrame m #[.ref x, .ref y] 3)) (T18.setTop (mkF m 55 #[.val (.ref x), .val (.ref y), .val (.ref y)] [.int 0])) := Steps.trans g18 (by
          refine XS.ifYes X18.here hexec rfl (pc0 := 47) rfl (hb hbytes d47) rfl (i0_eq_t rfl) (by decide) rfl ?_
          refine iconstV X18.here hexec rfl 0 (hb hbytes d54) (by decide) ?_
          exact Steps.refl _)
        exact ⟨T18, some (.int 0), _, _, _, X18, rfl, rfl, rfl, (fun h => by cases h), ⟨0, rfl, q18.trans hh16, Or.inr ⟨rfl, fun q => he (iff.mpr q)⟩⟩, fun fs hl => c19.trans (X18.ireturnOut hexec hret rfl (Or.inr (Or.inl rfl)) (hb hbytes d55) hl)⟩
    · have c13 : Steps p.tables e below (s₁.setTop (entryFrame m #[.ref x, .ref y] 3)) (T11.setTop (mkF m 55 #[.val (.ref x), .val (.ref y), .val (.ref y)] [.int 0])) := c12.trans (by
        refine XS.icmpYes X11.here hexec rfl (pc0 := 33) rfl (hb hbytes d33) rfl (ii_ne_t hcd) (by decide) rfl ?_
        refine iconstV X11.here hexec rfl 0 (hb hbytes d54) (by decide) ?_
        exact Steps.refl _)
      exact ⟨T11, some (.int 0), _, _, _, X11, rfl, rfl, rfl, (fun h => by cases h), ⟨0, rfl, hh11, Or.inr ⟨rfl, Cod.dif hx.2.2.2.2.1 hy.2.2.2.2.1 hcd⟩⟩, fun fs hl => c13.trans (X11.ireturnOut hexec hret rfl (Or.inr (Or.inl rfl)) (hb hbytes d55) hl)⟩
theorem pays {l : Launch} {R : Room} {p : Program} {e : Env} {below : List Frame} {s : State} {sargs : Array Value} {len W : Nat} (x t : Addr) (V : Cell) (cd : Int32) (n : Nat) (f : Nat → Int32) (y t' : Addr) (V' : Cell) (cd' : Int32) (k : Nat) (g : Nat → Int32) (z : Int32) (htab : tab.before sargs s = true) (hfr : 2 ≤ R.frames) (hlo : W + 28 ≤ R.locals) :
    Back l R p e below s sargs yN len W (fun A₁ a₁ => A₁.cells + 0 ≤ R.cells ∧ A₁.slots + 0 ≤ R.slots ∧ P x t V cd n f y t' V' cd' k g z a₁ A₁.U) (fun A₁ _ v₁ B₁ => Says01 (SameT n f k g) v₁ A₁.U B₁.U ∧ B₁.locs = A₁.locs ++ [] ∧ B₁.cells = A₁.cells + 0 ∧ B₁.slots = A₁.slots + 0) :=
  (law l x t V cd n f y t' V' cd' k g z).pays htab hfr (by omega)
end SEq
end StrChars
namespace StrChars.Road
open Jvm Sem ClassFile Op Lib Jvm.Stand Jvm.Free Jvm.Free.XT
open Jvm.Lib.Cold (StaticIs)
/-- the words of String.equals(Object) -/
abbrev wordsEq : List Jvm.Cond := [.code SEq.yN SEq.yB 3 (some .boolean), .initialized ST, .classLink ST 10 ST, .fieldLink ST 38 ST "COMPACT_STRINGS" "Z", .fieldLink ST 15 ST "coder" "B", .fieldLink ST 9 ST "value" "[B", .methodLink ST 541 LEq.yN, .static LEq.yN, .code LEq.yN LEq.yB 3 (some .boolean), .initialized "java/lang/StringLatin1"]
theorem tabEq_of {a : Array Value} {s : State} (h : ∀ w ∈ wordsEq, w.before a s = true) : SEq.tab.before a s = true := by
  have hl : LEq.tab.before a s = true := unparts (wk h (.code LEq.yN LEq.yB 3 (some .boolean))) (wks h (.initialized LEq.yN.cls :: LEq.site))
  have q := consq hl h
  exact unparts (wk q (.code SEq.yN SEq.yB 3 (some .boolean))) (wks q (.initialized SEq.yN.cls :: SEq.site))
theorem movedEq {Z s : State} {a0 args : Array Value} (hZ : Z.Warmed39 s.vm) (hw : ∀ d ∈ wordsEq, d.before a0 Z = true) : ∀ d ∈ wordsEq, d.before args s = true := fun d hd => by
  have t : ∀ d ∈ wordsEq, (d.onTables && d.keepsFace) = true := by decide +kernel
  exact RoadKit.mv hZ (hw d hd) (t d hd)
/-- the road's facts of a String, as the laws ask it -/
theorem txt_of {Z U : State} {a0 : Array Value} {kI : Nat} (wi : (Jvm.Cond.instantiable ST kI).before a0 Z = true) (al : Z.vm.Alike U.vm) {x t : Addr} {kb : ClassId} {cs : List Int32} {cd N2 : Int32} {vs : List Value} (E : RoadKit.Exa Z U.heap x ST) (V : RoadKit.Fld Z U.heap x ST "value" "[B" (.ref t)) (C : RoadKit.Fld Z U.heap x ST "coder" "B" (.int cd)) (K : RoadKit.Arv Z U.heap t kb .byte N2 vs (.int 0)) (hc : CodA cs cd N2 vs) (hb : ∀ c ∈ cs, ¬ c < 0 ∧ ¬ (65535 : Int32) < c) (l2 : cs.length ≤ 4000) :
    ∃ A, Txt x t A cd cs.length (fun j => cs.getD j 0) U := by
  obtain ⟨A, K1, K2, K3, K4, K5, K6⟩ := K
  have hcod := hc.cod (by omega) K3 K5
  obtain ⟨D, fV, fC, hB, F1, F2, g1, g2, -, -⟩ := strObj wi al E V C
  exact ⟨A, ⟨_, hB.2.2.1, D, hB.1, rfl, by cases q : D.vm <;> first | rfl | exact absurd q (hB.2.1.2 _)⟩, Has.of hB F1 g1, Has.of hB F2 g2, ⟨K1.1, State.isArrayOf_alike al K1.2.1, K1.2.2, by rcases hcod with ⟨-, q, -⟩ | ⟨-, q, -⟩ <;> omega⟩, hcod, fun j hj => by
    have e : cs.getD j 0 = cs[j] := by simp [List.getD_eq_getElem?_getD, hj]
    show ¬ cs.getD j 0 < 0 ∧ ¬ 65535 < cs.getD j 0
    rw [e]; exact hb _ (List.getElem_mem _)⟩
theorem same_list (cs ds : List Int32) : SameT cs.length (fun j => cs.getD j 0) ds.length (fun j => ds.getD j 0) ↔ cs = ds := by
  constructor
  · rintro ⟨e, q⟩
    refine List.ext_getElem e fun j h1 h2 => ?_
    have := q j h1
    simpa [List.getD_eq_getElem?_getD, h1, h2] using this
  · rintro rfl
    exact ⟨rfl, fun _ _ => rfl⟩
/-- **equals(Object) OF TWO SUCH STRINGS**: 1 just where the chars are the same -/
theorem eqW {p : Program} {l : Launch} {e : Env} {R : Room} {s : State} {args : Array Value} {below : List Frame} {len W : Nat} {Z : State} {a0 : Array Value} {h : Heap} (hZ : Z.Warmed39 s.vm) (hw : ∀ d ∈ wordsEq, d.before a0 Z = true) {kI : Nat} (wi : (Jvm.Cond.instantiable ST kI).before a0 Z = true)
    {x t : Addr} {kb : ClassId} {cs : List Int32} {cd N2 : Int32} {vs : List Value} (E : RoadKit.Exa Z h x ST) (V : RoadKit.Fld Z h x ST "value" "[B" (.ref t)) (C : RoadKit.Fld Z h x ST "coder" "B" (.int cd)) (K : RoadKit.Arv Z h t kb .byte N2 vs (.int 0)) (hc : CodA cs cd N2 vs) (hb : ∀ c ∈ cs, ¬ c < 0 ∧ ¬ (65535 : Int32) < c) (l2 : cs.length ≤ 4000)
    {y t' : Addr} {kb' : ClassId} {ds : List Int32} {cd' N2' : Int32} {vs' : List Value} (E' : RoadKit.Exa Z h y ST) (V' : RoadKit.Fld Z h y ST "value" "[B" (.ref t')) (C' : RoadKit.Fld Z h y ST "coder" "B" (.int cd')) (K' : RoadKit.Arv Z h t' kb' .byte N2' vs' (.int 0)) (hc' : CodA ds cd' N2' vs') (hb' : ∀ c ∈ ds, ¬ c < 0 ∧ ¬ (65535 : Int32) < c) (l2' : ds.length ≤ 4000)
    {z : Int32} (S : RoadKit.Sta Z h ST "COMPACT_STRINGS" "Z" (.int z)) (hz : ¬ z = 0) (hfr : 2 ≤ R.frames) (hlo : W + 28 ≤ R.locals) :
    Back l R p e below s args (⟨"java/lang/String", "equals", "(Ljava/lang/Object;)Z"⟩ : MethodName) len W (fun P a => a = #[.ref x, .ref y] ∧ P.U.heap = h ∧ P.cells + 0 ≤ R.cells ∧ P.slots + 0 ≤ R.slots)
      (fun P _ v B => ∃ L, (((v = some (.int 1) ∧ cs = ds) ∨ (v = some (.int 0) ∧ ¬ cs = ds)) ∧ L = [] ∧ B.U.heap = h) ∧ B.locs = P.locs ++ L ∧ B.cells = P.cells + 0 ∧ B.slots = P.slots + 0) := by
  intro m meth c P g ig mk a X hg hsize hdg hW hn hp'
  obtain ⟨rfl, rfl, r1, r2⟩ := hp'
  have al : Z.vm.Alike P.U.vm := hZ.alike.trans X.warmed.alike
  obtain ⟨A, hx⟩ := txt_of wi al E V C K hc hb l2
  obtain ⟨A', hy⟩ := txt_of wi al E' V' C' K' hc' hb' l2'
  obtain ⟨v, B, X', ⟨⟨w, hv, hh, hq⟩, hl, hk, hs⟩, st⟩ := SEq.pays x t A cd cs.length (fun j => cs.getD j 0) y t' A' cd' ds.length (fun j => ds.getD j 0) z (tabEq_of (movedEq hZ hw)) hfr hlo m meth c P g ig mk _ X hg hsize hdg hW hn ⟨r1, r2, rfl, hx, hy, sta_is al S, hz⟩
  refine ⟨v, B, X', ⟨[], ⟨?_, rfl, hh⟩, hl, hk, hs⟩, st⟩
  rcases hq with ⟨rfl, q⟩ | ⟨rfl, q⟩
  · exact Or.inl ⟨hv, (same_list cs ds).mp q⟩
  · exact Or.inr ⟨hv, fun e => q ((same_list cs ds).mpr e)⟩
end StrChars.Road
namespace StrChars.Road
open Jvm Sem ClassFile Op Lib Jvm.Stand Jvm.Free Jvm.Free.XT
open Jvm.Lib.Cold (StaticIs)
/-- what backV says of its String, as the contracts of this text ask it: cs's low bytes, coder 0 -/
theorem codOf {cs : List Int32} {n : Nat} (hn : cs.length = n) (hb : ∀ c ∈ cs, ¬ 255 < c) : CodA cs 0 (Int32.ofNat n) ((cs.map lo8).map Value.int) := Or.inl ⟨rfl, by rw [hn], by simp [List.map_map, Function.comp_def], hb⟩
end StrChars.Road
end Jvm.Pilot.@@N@@
namespace Jvm.Pilot.@@N@@
open Jvm Jvm.ClassFile Sem Op Lib Jvm.Free Jvm.Stand Jvm.LawKit Jvm.RoadKit Bundle Jvm.Pilot.@@N@@.Jvm.D
/-- the run comes from A to the state U with the frame g on top -/
def own_To (tb : Tables) (e : Env) (below : List Frame) (A U : State) (g : JFrame) : Prop := ∀ t, Steps tb e below (U.setTop g) t → Steps tb e below A t
/-- what a body that writes nothing leaves -/
def own_Q (r : Option Value) (h0 : Heap) (n0 : Nat) (v : Option Value) (h : Heap) (L : List Loc) : Prop := v = r ∧ Fr n0 L ∧ h = h0
theorem own_fldint {args : Array Value} {Z : State} {t : Term} {x : Addr} {C n d : String} {k : Int32} (ht : t.eval args Z none [] Z = some (.ref x)) (h : (Jvm.Cond.eq (.field t C n d) (.int k)).value args Z none Z [] = some true) : Fld Z Z.heap x C n d (.int k) := by
  apply Fld.start
  obtain ⟨u, v, h1, h2, k1, -⟩ := cmp_v (Or.inl h)
  have e2 : v = .int k := (Option.some.inj (h2.symm.trans (Term.int_eval k)))
  subst e2
  cases u with
  | int z => rw [← fld_at ht, h1]; have := gotT (Cond.eq_ints h1 h2) h; rw [this]
  | long z => obtain ⟨_, q⟩ := k1; cases q
  | float z => obtain ⟨_, q⟩ := k1; cases q
  | double z => obtain ⟨_, q⟩ := k1; cases q
  | ref z => exact absurd k1.2 (by simp [Value.isRef])
  | null => exact absurd k1.2 (by simp [Value.isRef])
  | retAddr z => exact absurd k1.2 (by simp [Value.isRef])
abbrev ow_i (x : Int32) : Slot := .val (.int x)
abbrev ow_r (x : Addr) : Slot := .val (.ref x)
theorem own_le {n : Nat} : 2 * 0 + n ≤ n := by omega
abbrev ow {tb : Tables} {e : Env} {below : List Frame} {A : State} (U : State) (g : JFrame) : Prop := own_To tb e below A U g
abbrev ow_c (x : Int32) : Int32 := x.toUInt32.toUInt16.toUInt32.toInt32
theorem own_h {Z : State} {a0 : Array Value} (hw : ∀ d ∈ tables_1, d.before a0 Z = true) (i : Nat) {d : Jvm.Cond} (h : tables_1[i]? = some d) : d.before a0 Z = true := hw _ (List.mem_of_getElem? h)
abbrev own_y1 : MethodName := ⟨"com/example/callsite/callsite/bytecode/ClassReadEqualsPinLaw", "str", "(J)Ljava/lang/String;"⟩
abbrev own_y2 : MethodName := ⟨"com/example/callsite/callsite/bytecode/ClassReadEqualsPinLaw", "len", "(J)I"⟩
abbrev own_y3 : MethodName := ⟨"java/lang/Math", "min", "(II)I"⟩
abbrev own_y4 : MethodName := ⟨"java/lang/String", "<init>", "([C)V"⟩
abbrev own_y5 : MethodName := ⟨"java/lang/String", "<init>", "([CIILjava/lang/Void;)V"⟩
abbrev own_y6 : MethodName := ⟨"java/lang/Object", "<init>", "()V"⟩
abbrev own_y7 : MethodName := ⟨"com/example/callsite/callsite/bytecode/ClassReadEqualsPinLaw", "source", "(I)Lcom/example/callsite/callsite/bytecode/ClassRead$Source;"⟩
abbrev own_y8 : MethodName := ⟨"com/example/callsite/callsite/bytecode/ClassReadEqualsPinLaw", "aspect", "(I)Lcom/example/callsite/callsite/bytecode/ClassRead$Aspect;"⟩
abbrev own_y9 : MethodName := ⟨"com/example/callsite/callsite/bytecode/ClassRead", "<init>", "(Ljava/lang/String;Lcom/example/callsite/callsite/bytecode/ClassRead$Source;Lcom/example/callsite/callsite/bytecode/ClassRead$Aspect;Ljava/lang/String;Ljava/lang/String;)V"⟩
abbrev own_y10 : MethodName := ⟨"java/lang/Record", "<init>", "()V"⟩
abbrev own_y11 : MethodName := ⟨"com/example/callsite/callsite/bytecode/ClassReadEqualsPinLaw", "sameStr", "(JJ)Z"⟩
abbrev own_y12 : MethodName := ⟨"com/example/callsite/callsite/bytecode/ClassRead", "equals", "(Ljava/lang/Object;)Z"⟩
abbrev own_y13 : MethodName := ⟨"java/lang/String", "equals", "(Ljava/lang/Object;)Z"⟩
abbrev own_y14 : MethodName := ⟨"java/lang/StringLatin1", "equals", "([B[B)Z"⟩
abbrev own_y15 : MethodName := ⟨"com/example/callsite/callsite/bytecode/ClassReadEqualsPinLaw", "c0", "(J)C"⟩
abbrev own_y16 : MethodName := ⟨"com/example/callsite/callsite/bytecode/ClassReadEqualsPinLaw", "c1", "(J)C"⟩
abbrev own_y17 : MethodName := ⟨"java/lang/StringUTF16", "compress", "([CII)[B"⟩
abbrev own_y18 : MethodName := ⟨"java/lang/StringUTF16", "compress", "([CI[BII)I"⟩
abbrev own_y19 : MethodName := ⟨"java/lang/StringUTF16", "coderFromArrayLen", "([BI)B"⟩
/-- x is a compact String whose chars are cs (each 0 to 255) -/
def own_Str (Z : State) (h : Heap) (x : Addr) (cs : List Int32) : Prop := ∃ (t : Addr) (kb : ClassId) (N : Int32) (vs : List Value), Exa Z h x "java/lang/String" ∧ Fld Z h x "java/lang/String" "value" "[B" (.ref t) ∧ Fld Z h x "java/lang/String" "coder" "B" (.int 0) ∧ Arv Z h t kb .byte N vs (.int 0) ∧ StrChars.Road.CodA cs 0 N vs ∧ (∀ c ∈ cs, ¬ c < 0 ∧ ¬ (65535 : Int32) < c) ∧ cs.length ≤ 4000
theorem own_Str.exa {Z : State} {h : Heap} {x : Addr} {cs : List Int32} (S : own_Str Z h x cs) : Exa Z h x "java/lang/String" := by obtain ⟨_, _, _, _, E, _⟩ := S; exact E
theorem own_Str.lt {Z : State} {h : Heap} {x : Addr} {cs : List Int32} (S : own_Str Z h x cs) : x < h.size := S.exa.lt
theorem own_Str.ext {Z : State} {h h' : Heap} {x : Addr} {cs : List Int32} (S : own_Str Z h x cs) (E : Ext h h') : own_Str Z h' x cs := by
  obtain ⟨t, kb, N, vs, a, b, c, d, r⟩ := S
  exact ⟨t, kb, N, vs, a.ext E, b.ext E, c.ext E, d.ext E, r⟩
/-- an object of another class than String -/
def own_Oth (Z : State) (a0 : Array Value) (h : Heap) (y : Addr) : Prop := ∃ (C : String) (n : Nat), C ≠ "java/lang/String" ∧ Exa Z h y C ∧ (Jvm.Cond.instantiable C n).before a0 Z = true
theorem own_Str.keep {Z : State} {a0 : Array Value} {h h' : Heap} {x : Addr} {cs : List Int32} {ws : List Addr} (S : own_Str Z h x cs) (K : Keep h h' ws) (q : ∀ y ∈ ws, own_Oth Z a0 h y) : own_Str Z h' x cs := by
  obtain ⟨t, kb, N, vs, a, b, c, d, r⟩ := S
  have n1 : x ∉ ws := fun hm => by
    obtain ⟨C, n, hC, E, w⟩ := q x hm
    exact (Exa.ne E a hC) rfl
  have n2 : t ∉ ws := fun hm => by
    obtain ⟨C, n, hC, E, w⟩ := q t hm
    exact (Exa.neArv E d w) rfl
  exact ⟨t, kb, N, vs, a.keep K, b.keep K n1, c.keep K n1, d.keep K n2, r⟩
theorem own_notinst {Z : State} {a0 : Array Value} {K : String} {n : Nat} (w1 : (Jvm.Cond.superclass "java/lang/String" "java/lang/Object").before a0 Z = true) (w0 : (Jvm.Cond.noSuperclass "java/lang/Object").before a0 Z = true) (wk : (Jvm.Cond.instantiable K n).before a0 Z = true)
    (h1 : "java/lang/String" ≠ K) (h2 : "java/lang/Object" ≠ K) : ∃ c t, Z.vm.findClass "java/lang/String" = some c ∧ Z.vm.findClass K = some t ∧ Z.vm.assignable c t = false := by
  obtain ⟨t, kt, g0, g2, g5, gI, -⟩ := Cond.instantiable_spec wk
  have g7 : kt.isInterface = false := (Bool.or_eq_false_iff.mp gI).1
  obtain ⟨o, ko, o1, o2, o3, -, -⟩ := Cond.noSuperclass_spec w0
  obtain ⟨c, h0⟩ := found_sup w1
  obtain ⟨p, k, kp, p1, p2, p3, p4, p5, -, -⟩ := Cond.superclass_spec h0 w1
  cases o1.symm.trans p1
  have ne := ids_ne h0 g0 h1
  have ne2 := ids_ne o1 g0 h2
  have so : ∀ fuel, Z.vm.isSubclassAux fuel o t = false := fun fuel => by
    cases fuel with
    | zero => rfl
    | succ f => simp [Vm.isSubclassAux, ne2, o2, o3]
  have sc : ∀ fuel, Z.vm.isSubclassAux fuel c t = false := fun fuel => by
    cases fuel with
    | zero => rfl
    | succ f => simp [Vm.isSubclassAux, ne, p2, p4, so]
  refine ⟨c, t, h0, g0, ?_⟩
  show Z.vm.assignableAux (255 + 1) c t = false
  simp [Vm.assignableAux, ne, p2, g2, p5, g5, g7, Vm.isSubclass, sc]
/-- a String under construction, its value null yet, is no booked one -/
theorem own_safe_null {Z : State} {EL : List (String × Nat)} {vm : Vm} {h : Heap} {x : Addr} (hal : Z.vm.Alike vm) (E : Exa Z h x "java/lang/String") (F : Fld Z h x "java/lang/String" "value" "[B" .null) : Safe Z EL vm h x := fun B => by
  obtain ⟨cell, k, e1, e2, e3, -, -⟩ := E
  obtain ⟨cell', cf, kf, i, f, f1, f2, f3, f4, f5, f6, f7⟩ := F
  cases e1.symm.trans f1
  obtain ⟨p, -, u, a, -, q, -, G, rfl | rfl⟩ := B
  · cases (show h[q.sa]? = some q.sC from G.ha).symm.trans e1
    obtain ⟨cS, ⟨⟨-, -, -, ⟨c1, k1, i1, g1, -⟩, -, -, -, v1, -⟩, -⟩, -⟩ := G
    obtain ⟨k3, e3', -⟩ := State.fieldFound?_setVm (s := Z) hal f2
    have e4 := (show (Wst Z vm h).fieldFound? _ _ _ = _ from e3').symm.trans g1
    simp only [Option.some.injEq, Prod.mk.injEq] at e4
    rw [← e4.2.2.2, f7] at v1
    cases v1
  · cases (show h[q.sd]? = some q.SA from G.hd).symm.trans e1
    obtain ⟨cS, -, -, g, -⟩ := G
    have g' : vm.findClass "[B" = some q.SA.cls := g
    rw [hal.findClass] at g'
    obtain ⟨k1, q1, q2⟩ := Vm.findClass_spec g'
    obtain ⟨k2, q3, q4⟩ := Vm.findClass_spec e2
    cases q1.symm.trans q3
    exact absurd (q2.symm.trans q4) (by decide)
theorem own_up {c : Int32} (h : ¬ (255 : Int32) < c) : ¬ (65535 : Int32) < c := by
  rw [Int32.lt_iff_toInt_lt] at *
  have e1 : (255 : Int32).toInt = 255 := by decide
  have e2 : (65535 : Int32).toInt = 65535 := by decide
  omega
theorem own_mkStr {Z : State} {h : Heap} {x t : Addr} {kb : ClassId} {cs : List Int32} {n : Nat} (E : Exa Z h x "java/lang/String") (V : Fld Z h x "java/lang/String" "value" "[B" (.ref t)) (C : Fld Z h x "java/lang/String" "coder" "B" (.int 0)) (A : Arv Z h t kb .byte (Int32.ofNat n) ((cs.map (fun c => c.toInt8.toInt32)).map Value.int) (.int 0))
    (hn : cs.length = n) (hp : ∀ c ∈ cs, ¬ c < 0 ∧ ¬ (255 : Int32) < c) (l : n ≤ 4000) : own_Str Z h x cs :=
  ⟨t, kb, _, _, E, V, C, A, StrChars.Road.codOf hn (fun c hc => (hp c hc).2), fun c hc => ⟨(hp c hc).1, own_up (hp c hc).2⟩, by rw [hn]; exact l⟩
theorem own_wEq {Z : State} {a0 : Array Value} (hw : ∀ d ∈ tables_1, d.before a0 Z = true) : ∀ d ∈ StrChars.Road.wordsEq, d.before a0 Z = true := fun d hd => hw d ((by decide +kernel : ∀ d ∈ StrChars.Road.wordsEq, d ∈ tables_1) d hd)
theorem own_wNew {Z : State} {a0 : Array Value} (hw : ∀ d ∈ tables_1, d.before a0 Z = true) : ∀ d ∈ StrChars.Road.words, d.before a0 Z = true := fun d hd => hw d ((by decide +kernel : ∀ d ∈ StrChars.Road.words, d ∈ tables_1) d hd)
theorem own_clamp {i : Nat} (h : i < 2 ^ 31) : (Nat.toInt32 i).toNatClampNeg = i := by
  simp only [Int32.toNatClampNeg, len_toInt h]; rfl
theorem own_inb {c : Cell} {n j : Int32} {i : Nat} (S : c.slots.size = n.toNatClampNeg) (hj : j = Nat.toInt32 i) (hi : i < n.toNatClampNeg) : ¬ (j < 0 ∨ c.slots.size ≤ j.toNatClampNeg) := by
  subst hj; rw [S]; refine idx_in hi ?_
  have := n.toInt_lt
  simp only [Int32.toNatClampNeg]; omega
theorem own_idx {j : Int32} {i : Nat} (hj : j = Nat.toInt32 i) (h : i < 64) : j.toNatClampNeg = i := by subst hj; exact own_clamp (by omega)
theorem own_monoW {s t : State} {o : Outcome} {L : List Loc} {k n k' n' : Nat} (h : ReturnedEndW s o t L k n) (hk : k ≤ k') (hn : n ≤ n') : ReturnedEndW s o t L k' n' := ⟨h.1, h.2.1, h.2.2.1, h.2.2.2.mono hk hn⟩
abbrev own_all (b : ByteArray) (l : List (Nat × Instr × Nat)) : Prop := ∀ q ∈ l, decode b q.1 = .ok q.2
theorem own_at {c : Code} {b : ByteArray} {dl : List (Nat × Instr × Nat)} (hb : c.code = b) (hd : own_all b dl) (i : Nat) {pc : Nat} {x : Instr × Nat} (h : dl[i]? = some (pc, x)) : decode c.code pc = .ok x := by
  have q := hd (pc, x) (List.mem_of_getElem? h)
  rw [hb]; exact q
abbrev own_MF (l : Launch) (Z : State) (y : MethodName) (ws : List Jvm.Cond) (b : ByteArray) (ml : Nat) (rt : Option FieldType) (rm : Room) (A : Array Value) (h0 : Heap) (Q : Option Value → Heap → List Loc → Prop) : Prop :=
  MetFree l y (head1 (Jvm.Cond.code y b ml rt :: ws) rm) (fun a U => a = A ∧ Z.Warmed39 U.vm ∧ U.heap = h0) (fun _ _ _ _ _ => True) (fun _ U o U' => ∃ v L, o = .returned v ∧ Q v U'.heap L ∧ FrameEnd U o U' L rm.cells rm.slots)
abbrev own_MS (l : Launch) (Z : State) (y : MethodName) (ws : List Jvm.Cond) (b : ByteArray) (ml : Nat) (rt : Option FieldType) (rm : Room) (A : Array Value) (h0 : Heap) (CP : Vm → Heap → Vm → Heap → Prop) (Q : Option Value → Heap → List Loc → Prop) : Prop :=
  MetFree l y (head1 (Jvm.Cond.code y b ml rt :: ws) rm) (fun a U => a = A ∧ Z.Warmed39 U.vm ∧ U.heap = h0 ∧ CHv Z consts_1 U.vm h0) (fun _ _ _ _ _ => True) (fun _ U o U' => ∃ v L, o = .returned v ∧ Q v U'.heap L ∧ CP U.vm U.heap U'.vm U'.heap ∧ ReturnedEndW U o U' L rm.cells rm.slots)
/-- the run from A0 ends as a body's contract says -/
def own_G (tb : Tables) (e : Env) (below : List Frame) (A0 s : State) (rm : Room) (Q : Option Value → Heap → List Loc → Prop) : Prop :=
  ∃ s₂ o, Steps tb e below A0 s₂ ∧ s₂.status = .running ∧ Ended s₂ below o ∧ ∃ v L, o = .returned v ∧ Q v s₂.heap L ∧ FrameEnd s o s₂ L rm.cells rm.slots
def own_GS (tb : Tables) (e : Env) (below : List Frame) (A0 s : State) (rm : Room) (CP : Vm → Heap → Vm → Heap → Prop) (Q : Option Value → Heap → List Loc → Prop) : Prop :=
  ∃ s₂ o, Steps tb e below A0 s₂ ∧ s₂.status = .running ∧ Ended s₂ below o ∧ ∃ v L, o = .returned v ∧ Q v s₂.heap L ∧ CP s.vm s.heap s₂.vm s₂.heap ∧ ReturnedEndW s o s₂ L rm.cells rm.slots
theorem own_go {l : Launch} {Z : State} {y : MethodName} {ws : List Jvm.Cond} {b : ByteArray} {ml : Nat} {rt : Option FieldType} {rm : Room} {A : Array Value} {h0 : Heap} {Q : Option Value → Heap → List Loc → Prop} {F : MethodId → JFrame} {dl : List (Nat × Instr × Nat)} (C : String) (hC : y.cls = C) (hpl : plainFor y = true) (hF : ∀ m, entryFrame m A ml = F m) (hd : own_all b dl) (n0 : Nat)
    (body : ∀ (p : Program) (e : Env) (s : State) (m : MethodId) (below : List Frame) (meth : Method) (c : Code) (s₁ A0 : State), BodyLoose p l y (head1 (Jvm.Cond.code y b ml rt :: ws) rm) b ml rt e s m A below meth c s₁ → p.tables.exec = Jvm.exec → (∀ (i : Nat) {pc : Nat} {x : Instr × Nat}, dl[i]? = some (pc, x) → decode c.code pc = .ok x) → c.maxLocals = ml → s.vm.findClass C = some m.cls → meth.name = y.name →
      Stand p l e rm s m A below meth c s₁ [] 0 0 → Z.Warmed39 s.vm → s₁.heap = h0 → Fr n0 [] → own_To p.tables e below A0 s₁ (F m) → own_G p.tables e below A0 s rm Q) : own_MF l Z y ws b ml rt rm A h0 Q := by
  refine MetFree.of_bodySF hpl hisR ?_
  intro p e s m args below meth c s₁ Bd hml0 hP hK
  obtain ⟨rfl, hZ, hh⟩ := hP
  subst hC
  exact body p e s m below meth c s₁ _ Bd Bd.exec (own_at Bd.bytes hd) hml0 (findClass_of_methodNamed Bd.named) (name_of_methodNamed Bd.named Bd.method).1 (Stand.of_body Bd) hZ (by rw [← hh, Bd.state]; rfl) (Fr.nil n0) (fun t k => castTop (hF m) k)
theorem own_goS {l : Launch} {Z : State} {y : MethodName} {ws : List Jvm.Cond} {b : ByteArray} {ml : Nat} {rt : Option FieldType} {rm : Room} {A : Array Value} {h0 : Heap} {CP : Vm → Heap → Vm → Heap → Prop} {Q : Option Value → Heap → List Loc → Prop} {F : MethodId → JFrame} {dl : List (Nat × Instr × Nat)} (hCP : ∀ {vm : Vm} {h : Heap}, CHv Z consts_1 vm h → CP vm h vm h) (C : String) (hC : y.cls = C) (hpl : plainFor y = true) (hF : ∀ m, entryFrame m A ml = F m) (hd : own_all b dl) (n0 : Nat)
    (body : ∀ (p : Program) (e : Env) (s : State) (m : MethodId) (below : List Frame) (meth : Method) (c : Code) (s₁ A0 : State), BodyLoose p l y (head1 (Jvm.Cond.code y b ml rt :: ws) rm) b ml rt e s m A below meth c s₁ → p.tables.exec = Jvm.exec → (∀ (i : Nat) {pc : Nat} {x : Instr × Nat}, dl[i]? = some (pc, x) → decode c.code pc = .ok x) → c.maxLocals = ml → (s.setVm s.vm).vm.findClass C = some m.cls → meth.name = y.name →
      Stand p l e rm (s.setVm s.vm) m A below meth c s₁ [] 0 0 → Z.Warmed39 (s.setVm s.vm).vm → s₁.heap = h0 → Fr n0 [] → s.heap = h0 → CHv Z consts_1 s.vm h0 → s.Since s.vm 0 → 0 ≤ h0.size → CP s.vm h0 s.vm h0 → own_To p.tables e below A0 s₁ (F m) → own_GS p.tables e below A0 s rm CP Q) : own_MS l Z y ws b ml rt rm A h0 CP Q := by
  refine MetFree.of_bodySF hpl hisR ?_
  intro p e s m args below meth c s₁ Bd hml0 hP hK
  obtain ⟨rfl, hZ, hh, CH0⟩ := hP
  subst hC
  exact body p e s m below meth c s₁ _ Bd Bd.exec (own_at Bd.bytes hd) hml0 (findClass_of_methodNamed Bd.named) (name_of_methodNamed Bd.named Bd.method).1 (Stand.of_body Bd) hZ (by rw [← hh, Bd.state]; rfl) (Fr.nil n0) hh CH0 ((State.WarmedH.refl s).since _) (Nat.zero_le _) (hCP CH0) (fun t k => castTop (hF m) k)
section OwnEnd
variable {p : Program} {l : Launch} {e : Env} {R : Room} {s : State} {m : MethodId} {args : Array Value} {below : List Frame} {meth : Method} {c : Code} {T A0 : State} {locs : List Loc} {cells slots : Nat} {h h0 : Heap} {g : JFrame} {v : Option Value} {Q : Option Value → Heap → List Loc → Prop} {rm : Room}
theorem own_end (X : Stand p l e R s m args below meth c T locs cells slots) (hE : T.heap = h) (hlk : meth.locks = false) (hv : meth.sig.returnType = none → v = none) (k : own_To p.tables e below A0 T g) (st : ∀ fs, (∀ (f : JFrame) (acts : List Action), f.method = m → f.locked = none → f.entered = [] → (doReturn e (T.setTop f) acts v).1 = T.setFrames fs) → Steps p.tables e below (T.setTop g) (T.setFrames fs))
    (hQ : Q v h locs) (hc : cells ≤ rm.cells) (hs : slots ≤ rm.slots) : own_G p.tables e below A0 s rm Q := by
  obtain ⟨fs, hr, hrun, hended, hW, hsame⟩ := X.leave hv hlk
  exact ⟨_, _, k _ (st fs hr), hrun, hended, _, _, rfl, (by show Q v T.heap locs; rw [hE]; exact hQ), ⟨_, rfl⟩, hW, hsame.mono hc hs⟩
theorem own_endS {vm1 : Vm} {n : Nat} {CP : Vm → Heap → Vm → Heap → Prop} (X : Stand p l e R (s.setVm vm1) m args below meth c T locs cells slots) (hE : T.heap = h) (hS : s.Since vm1 n) (hn : n ≤ h.size) (hh : s.heap = h0) (hlk : meth.locks = false) (hv : meth.sig.returnType = none → v = none) (k : own_To p.tables e below A0 T g) (st : ∀ fs, (∀ (f : JFrame) (acts : List Action), f.method = m → f.locked = none → f.entered = [] → (doReturn e (T.setTop f) acts v).1 = T.setFrames fs) → Steps p.tables e below (T.setTop g) (T.setFrames fs))
    (hQ : Q v h locs) (C : CP s.vm h0 T.vm h) (hc : cells ≤ rm.cells) (hs : slots ≤ rm.slots) : own_GS p.tables e below A0 s rm CP Q := by
  obtain ⟨fs, hr, hrun, hended, hEnd⟩ := X.leaveW hS (by rw [hE]; exact hn) (v := v) hv hlk
  exact ⟨_, _, k _ (st fs hr), hrun, hended, _, _, rfl, (by show Q v T.heap locs; rw [hE]; exact hQ), (by show CP s.vm s.heap T.vm T.heap; rw [hh, hE]; exact C), own_monoW hEnd hc hs⟩
theorem own_vn {t : FieldType} (h : meth.sig.returnType = some t) : meth.sig.returnType = none → v = none := fun q => by rw [h] at q; cases q
theorem own_retA (X : Stand p l e R s m args below meth c T locs cells slots) (hx : p.tables.exec = Jvm.exec) {pc : Nat} {Ls : Array Slot} {a : Addr} {rest : List Value} {t : FieldType} (hret : meth.sig.returnType = some t) (ht : t.isReference = true) (hd : decode c.code pc = .ok (.areturn, 1)) {fs : List Frame}
    (hl : ∀ (f : JFrame) (acts : List Action), f.method = m → f.locked = none → f.entered = [] → (doReturn e (T.setTop f) acts (some (.ref a))).1 = T.setFrames fs) : Steps p.tables e below (T.setTop (mkF m pc Ls (.ref a :: rest))) (T.setFrames fs) := by
  have hm' : T.vm.method? m = some meth := X.method'
  show Steps p.tables e below (T.setTop { method := m, pc := pc, locals := Ls, stack := _ :: rest, locked := none }) _
  jvm_step X.here [X.here.top, hx, hd, hm', hret, ht, Value.isRef]
  first | (intro acts; rw [hl _ acts rfl rfl rfl]) | rw [hl _ _ rfl rfl rfl]
  exact Steps.refl _
theorem own_ret0 (X : Stand p l e R s m args below meth c T locs cells slots) (hx : p.tables.exec = Jvm.exec) {pc : Nat} {Ls : Array Slot} {rest : List Value} {t : FieldType} (hret : meth.sig.returnType = some t) (ht : t.isReference = true) (hd : decode c.code pc = .ok (.areturn, 1)) {fs : List Frame}
    (hl : ∀ (f : JFrame) (acts : List Action), f.method = m → f.locked = none → f.entered = [] → (doReturn e (T.setTop f) acts (some .null)).1 = T.setFrames fs) : Steps p.tables e below (T.setTop (mkF m pc Ls (.null :: rest))) (T.setFrames fs) := by
  have hm' : T.vm.method? m = some meth := X.method'
  show Steps p.tables e below (T.setTop { method := m, pc := pc, locals := Ls, stack := _ :: rest, locked := none }) _
  jvm_step X.here [X.here.top, hx, hd, hm', hret, ht, Value.isRef]
  first | (intro acts; rw [hl _ acts rfl rfl rfl]) | rw [hl _ _ rfl rfl rfl]
  exact Steps.refl _
end OwnEnd
theorem own_sta_keep {Z : State} {h h' : Heap} {C n d : String} {v : Value} {ws : List Addr} (F : Sta Z h C n d v) (K : Keep h h' ws) (q : ∀ x ∈ ws, ∀ cell : Cell, h[x]? = some cell → cell.vm.isStatics = false) : Sta Z h' C n d v := by
  obtain ⟨cf, i, k, f, st, cell, h1, h2, h3, h4, h5, h6, h7⟩ := F
  exact ⟨cf, i, k, f, st, cell, h1, h2, h3, h4, K.2.1 _ _ h5 (fun hm => by have := q st hm cell h5; rw [h6] at this; cases this), h6, h7⟩
theorem own_EW {Z : State} {a0 : Array Value} (hw : ∀ d ∈ tables_1, d.before a0 Z = true) : EW Z a0 consts_1 := (EW.cons (own_h hw 27 rfl) (by decide) EW.nil)
theorem own_wS {Z : State} {a0 : Array Value} (hw : ∀ d ∈ tables_1, d.before a0 Z = true) : ∀ a ∈ Bundle.stringAtoms, a.before a0 Z = true := fun d hd => hw d ((by decide +kernel : ∀ d ∈ Bundle.stringAtoms, d ∈ tables_1) d hd)
theorem own_pdc : parseMethodDescriptor "(I)C" = some ⟨[.int], some .char⟩ := by decide +kernel
theorem own_pde : parseMethodDescriptor "(Ljava/lang/Object;)Z" = some ⟨[.object "java/lang/Object"], some .boolean⟩ := by decide +kernel
section OwnCall
variable {p : Program} {l : Launch} {e : Env} {R : Room} {s : State} {m : MethodId} {args : Array Value} {below : List Frame} {meth : Method} {c : Code} {T A0 : State} {locs : List Loc} {cells slots : Nat} {Z : State} {a0 : Array Value} {h : Heap} {g : JFrame} {own C : String} {index : Nat} {y : MethodName} {bytes : ByteArray} {maxL : Nat} {ret : Option FieldType} {rm : Room} {as' : Array Value} {Q : Option Value → Heap → List Loc → Prop} {b : Addr} {W : Nat} {cs ds : List Int32} {z : Int32} {fm : Value}
/-- a virtual call by a body's contract -/
theorem own_cV (X : Stand p l e R s m args below meth c T locs cells slots) (hx : p.tables.exec = Jvm.exec) (hw : ∀ d ∈ tables_1, d.before a0 Z = true) (hZ : Z.Warmed39 s.vm) (hown : s.vm.findClass own = some m.cls) (eT : T.heap = h) (k : own_To p.tables e below A0 T g) (hM : own_MF l Z y [] bytes maxL ret rm as' h Q)
    (i1 i2 i3 i4 i5 i6 : Nat) (e1 : tables_1[i1]? = some (.methodLink own index y)) (e2 : tables_1[i2]? = some (.declares y)) (e3 : tables_1[i3]? = some (.selects C y y)) (e4 : tables_1[i4]? = some (.instanceMethod y)) (e5 : tables_1[i5]? = some (.code y bytes maxL ret)) (e6 : tables_1[i6]? = some (.initialized y.cls)) (Ex : Exa Z h b C)
    (hy : y.cls ≠ "java/lang/invoke/MethodHandle" ∧ y.cls ≠ "java/lang/invoke/VarHandle") (hg : g.method = m) (hsize : g.locals.size = c.maxLocals) (argsL rest : List Value) (hlen : ∀ sig, parseMethodDescriptor y.desc = some sig → argsL.length = sig.parameters.length) (hstack : g.stack = argsL.reverse ++ .ref b :: rest) (ha : (.ref b :: argsL).toArray = as') (hW : 2 * g.monitorRoom + (rest.map fun v => v.category).sum ≤ W)
    (hdg : decode c.code g.pc = .ok (.invokevirtual index, 3)) (hf : rm.frames + 1 ≤ R.frames) (hl : W + (maxL + 11) + rm.locals ≤ R.locals) (hc : cells + rm.cells ≤ R.cells) (hs : slots + rm.slots ≤ R.slots) :
    ∃ v T' L, Stand p l e R s m args below meth c T' (locs ++ L) (cells + rm.cells) (slots + rm.slots) ∧ Q v T'.heap L ∧ own_To p.tables e below A0 T' { g with pc := g.pc + 3, stack := v.toList ++ rest } := by
  obtain ⟨cB, kB, qa, qb, qc⟩ := isOf hZ eT Ex
  obtain ⟨v, vm₁, ⟨T', L', k', n'⟩, -, X', ⟨L, hQ, l1, l2, l3⟩, st⟩ := X.virtualBack hx (y := y) (z := y) hown (mvT hZ (own_h hw i1 e1)) (mvT hZ (own_h hw i2 e2)) (notFace_of_selects (args := #[]) (mvT hZ (own_h hw i3 e3))) (mvT hZ (own_h hw i3 e3)) (mvT hZ (own_h hw i4 e4)) hy (backOf (W := W) hM hZ (own_h hw i5 e5) (own_h hw i6 e6) hf hl) qa qc hg hsize (Steps.refl _) hlen hstack hW hdg (fun _ _ => ⟨ha, eT, hc, hs⟩)
  dsimp only [Pt.U, Pt.locs, Pt.cells, Pt.slots] at X' l1 l2 l3 st hQ
  subst l1 l2 l3
  exact ⟨v, T', L, X', hQ, fun t q => k t (st.trans q)⟩
/-- a static call that may intern -/
theorem own_cSS {vm0 : Vm} {k0 rc rs : Nat} {CP : Vm → Heap → Vm → Heap → Prop} (X : Stand p l e R (s.setVm vm0) m args below meth c T locs cells slots) (hx : p.tables.exec = Jvm.exec) (hw : ∀ d ∈ tables_1, d.before a0 Z = true) (hZ : Z.Warmed39 (s.setVm vm0).vm) (hown : (s.setVm vm0).vm.findClass own = some m.cls) (eT : T.heap = h) (hS : s.Since vm0 k0) (hk : k0 ≤ h.size) (k : own_To p.tables e below A0 T g)
    (hK : BackS l R p e below (s.setVm vm0) args y 3 W (fun A a => a = as' ∧ A.U.heap = h ∧ A.cells + rc ≤ R.cells ∧ A.slots + rs ≤ R.slots) (fun A _ v B => ∃ L, Q v B.U.heap L ∧ B.locs = A.locs ++ L ∧ B.cells = A.cells + rc ∧ B.slots = A.slots + rs ∧ CP vm0 h B.U.vm B.U.heap))
    (i1 i2 i3 i4 : Nat) (e1 : tables_1[i1]? = some (.methodLink own index y)) (e2 : tables_1[i2]? = some (.static y)) (e3 : tables_1[i3]? = some (.initialized y.cls)) (e4 : tables_1[i4]? = some (.code y bytes maxL ret))
    (hy : y.cls ≠ "java/lang/invoke/MethodHandle" ∧ y.cls ≠ "java/lang/invoke/VarHandle") (hg : g.method = m) (hsize : g.locals.size = c.maxLocals) (argsL rest : List Value) (hlen : ∀ sig, parseMethodDescriptor y.desc = some sig → argsL.length = sig.parameters.length) (hstack : g.stack = argsL.reverse ++ rest) (ha : argsL.toArray = as') (hW : 2 * g.monitorRoom + (rest.map fun v => v.category).sum ≤ W)
    (hdg : decode c.code g.pc = .ok (.invokestatic index, 3)) (hc : cells + rc ≤ R.cells) (hs : slots + rs ≤ R.slots) :
    ∃ v T' L h', Stand p l e R (s.setVm T'.vm) m args below meth c T' (locs ++ L) (cells + rc) (slots + rs) ∧ s.Since T'.vm h'.size ∧ Z.Warmed39 (s.setVm T'.vm).vm ∧ (s.setVm T'.vm).vm.findClass own = some m.cls ∧ T'.heap = h' ∧ Q v h' L ∧ CP vm0 h T'.vm h' ∧ own_To p.tables e below A0 T' { g with pc := g.pc + 3, stack := v.toList ++ rest } := by
  obtain ⟨v, vm₁, ⟨T', L', k', n'⟩, -, X', hS', gr, ⟨L, hQ, l1, l2, l3, CU⟩, st⟩ := callSS X hx (y := y) hown (mvT hZ (own_h hw i1 e1)) (mvT hZ (own_h hw i2 e2)) (mvT hZ (own_h hw i3 e3)) (mvT hZ (own_h hw i4 e4)) hy hK hg hsize hlen hstack hW hdg (fun _ _ => ⟨ha, eT, hc, hs⟩)
  dsimp only [Pt.U, Pt.locs, Pt.cells, Pt.slots] at X' l1 l2 l3 st hQ hS' gr CU
  subst l1 l2 l3
  obtain ⟨X', hS', hZ', hown'⟩ := rebS hS (by rw [eT]; exact hk) X' hS' gr hZ hown
  exact ⟨v, T', L, T'.heap, X', hS', hZ', hown', rfl, hQ, CU, fun t q => k t (st.trans q)⟩
/-- String.equals -/
theorem own_cEq {b' : Addr} (X : Stand p l e R s m args below meth c T locs cells slots) (hx : p.tables.exec = Jvm.exec) (hw : ∀ d ∈ tables_1, d.before a0 Z = true) (hZ : Z.Warmed39 s.vm) (hown : s.vm.findClass own = some m.cls) (eT : T.heap = h) (k : own_To p.tables e below A0 T g) (St : own_Str Z h b cs) (St' : own_Str Z h b' ds)
    (S1 : Sta Z h "java/lang/String" "COMPACT_STRINGS" "Z" (.int z)) (hz : ¬ z = 0) (r : Int32) (hr : (r = 1 ∧ cs = ds) ∨ (r = 0 ∧ ¬ cs = ds)) {kI : Nat}
    (i1 i2 i3 i4 i5 : Nat) (hy : y = ⟨"java/lang/String", "equals", "(Ljava/lang/Object;)Z"⟩) (e1 : tables_1[i1]? = some (.methodLink own index y)) (e2 : tables_1[i2]? = some (.declares y)) (e3 : tables_1[i3]? = some (.selects "java/lang/String" y y)) (e4 : tables_1[i4]? = some (.instanceMethod y)) (e5 : tables_1[i5]? = some (.instantiable "java/lang/String" kI))
    (hg : g.method = m) (hsize : g.locals.size = c.maxLocals) (rest : List Value) (hstack : g.stack = .ref b' :: .ref b :: rest) (hW : 2 * g.monitorRoom + (rest.map fun v => v.category).sum ≤ W) (hdg : decode c.code g.pc = .ok (.invokevirtual index, 3)) (hf : 2 ≤ R.frames) (hl : W + 28 ≤ R.locals) (hc : cells ≤ R.cells) (hs : slots ≤ R.slots) :
    ∃ T', Stand p l e R s m args below meth c T' locs cells slots ∧ T'.heap = h ∧ own_To p.tables e below A0 T' { g with pc := g.pc + 3, stack := .int r :: rest } := by
  subst hy
  obtain ⟨ta, ka, na, va, Ea, Va, Ca, Aa, ha, ba, la⟩ := St
  obtain ⟨tb, kb, nb, vb, Eb, Vb, Cb, Ab, hb, bb, lb⟩ := St'
  obtain ⟨cB, kB, qa, qb, qc⟩ := isOf hZ eT Ea
  obtain ⟨v, vm₁, ⟨T', L', k', n'⟩, -, X', ⟨L, hQ, l1, l2, l3⟩, st⟩ := X.virtualBack hx (y := ⟨"java/lang/String", "equals", "(Ljava/lang/Object;)Z"⟩) (z := ⟨"java/lang/String", "equals", "(Ljava/lang/Object;)Z"⟩) hown (mvT hZ (own_h hw i1 e1)) (mvT hZ (own_h hw i2 e2)) (notFace_of_selects (args := #[]) (mvT hZ (own_h hw i3 e3))) (mvT hZ (own_h hw i3 e3)) (mvT hZ (own_h hw i4 e4)) (by decide) (StrChars.Road.eqW (W := W) hZ (own_wEq hw) (kI := kI) (own_h hw i5 e5) Ea Va Ca Aa ha ba la Eb Vb Cb Ab hb bb lb S1 hz hf hl) qa qc hg hsize (Steps.refl _) (argsL := [.ref b']) (rest := rest) (lenOf own_pde rfl) hstack hW hdg (fun _ _ => ⟨rfl, eT, hc, hs⟩)
  dsimp only [Pt.U, Pt.locs, Pt.cells, Pt.slots] at X' l1 l2 l3 st hQ
  obtain ⟨hv, rfl, e'⟩ := hQ
  have hv : v = some (.int r) := by
    rcases hr with ⟨rfl, a⟩ | ⟨rfl, a⟩
    · exact hv.elim (fun q => q.1) (fun q => absurd a q.2)
    · exact hv.elim (fun q => absurd q.2 a) (fun q => q.1)
  subst hv
  rw [List.append_nil] at l1
  subst l1 l2 l3
  exact ⟨T', X', e', fun t q => k t (st.trans q)⟩
end OwnCall
theorem own_d3 : own_all jdk_29_method_69_code [(0, .iload_n 0, 1), (1, .iload_n 1, 1), (2, .if_icmp .gt 7, 3), (9, .iload_n 1, 1), (10, .ireturn, 1), (5, .iload_n 0, 1), (6, .goto 4, 3)] := by decide +kernel
theorem own_ef3 (m : MethodId) (x0 : Int32) (x1 : Int32) : entryFrame m #[(.int x0), (.int x1)] 2 = mkF m 0 #[ow_i x0, ow_i x1] [] := by first | (simp [entryFrame, mkF, argsToLocals, Value.category]; done) | rfl
def own_min (p1 : Int32) (p2 : Int32) : Int32 := (if p2 < p1 then p2 else p1)
set_option maxRecDepth 65536 in
set_option maxHeartbeats 40000000 in
theorem own_m3 (l : Launch) (Z : State) (a0 : Array Value) (hw : ∀ d ∈ tables_1, d.before a0 Z = true) (ws : List Jvm.Cond) (p1 : Int32) (p2 : Int32) (h0 : Heap) (n0 : Nat) (Z0 : n0 ≤ h0.size) :
    own_MF l Z own_y3 ws jdk_29_method_69_code 2 (some .int) ({ frames := 0, cells := 0, slots := 0, locals := 0 } : Room) #[(.int p1), (.int p2)] h0 (own_Q (some (.int (own_min p1 p2))) h0 n0) := by
  refine own_go "java/lang/Math" rfl (Jvm.Free.JP.mathPlain rfl (by decide +kernel)) (fun m => own_ef3 m p1 p2) own_d3 n0 fun p e s m below meth c s₁ A0 Bd hx D hml hown hnm X0 hZ e0 N0 k => ?_
  by_cases hc1 : p2 < p1
  · replace k : ow s₁ (mkF m 9 #[ow_i p1, ow_i p2] []) := fun t q => k t (XS.iloadN X0.here hx rfl (D 0 rfl) rfl (XS.iloadN X0.here hx rfl (D 1 rfl) rfl (XS.icmpYes X0.here hx rfl (pc0 := 2) (pc' := 9) rfl (D 2 rfl) rfl (tlt (show p2 < p1 from hc1)).2.2.1 (by decide) (by decide) q)))
    replace k : ow s₁ (mkF m 10 #[ow_i p1, ow_i p2] [(.int p2)]) := fun t q => k t (XS.iloadN X0.here hx rfl (D 3 rfl) rfl q)
    exact own_end (v := some (.int p2)) X0 e0 Bd.notSynchronized (own_vn Bd.returns) k (fun _ hr => retI X0 hx Bd.returns (D 4 rfl) hr) ⟨by rw [show (own_min p1 p2) = p2 from by unfold own_min; rw [if_pos hc1]], N0, rfl⟩ (by decide) (by decide)
  · replace k : ow s₁ (mkF m 5 #[ow_i p1, ow_i p2] []) := fun t q => k t (XS.iloadN X0.here hx rfl (D 0 rfl) rfl (XS.iloadN X0.here hx rfl (D 1 rfl) rfl (XS.icmpNo X0.here hx rfl (D 2 rfl) rfl (flt (show ¬ (p2 < p1) from hc1)).2.2.1 q)))
    replace k : ow s₁ (mkF m 10 #[ow_i p1, ow_i p2] [(.int p1)]) := fun t q => k t (XS.iloadN X0.here hx rfl (D 5 rfl) rfl (XS.goto X0.here hx rfl (pc0 := 6) (pc' := 10) rfl (D 6 rfl) (by decide) (by decide) q))
    exact own_end (v := some (.int p1)) X0 e0 Bd.notSynchronized (own_vn Bd.returns) k (fun _ hr => retI X0 hx Bd.returns (D 4 rfl) hr) ⟨by rw [show (own_min p1 p2) = p1 from by unfold own_min; rw [if_neg hc1]], N0, rfl⟩ (by decide) (by decide)
theorem own_d2 : own_all method_2_code [(0, .lload_n 0, 1), (1, .bipush 16, 2), (3, .lushr, 1), (4, .ldc2_w 7, 3), (7, .land, 1), (8, .l2i, 1), (9, .iconst 2, 1), (10, .invokestatic 9, 3), (13, .ireturn, 1)] := by decide +kernel
theorem own_pd0 : parseMethodDescriptor "(II)I" = some ⟨[.int, .int], some .int⟩ := by decide +kernel
theorem own_ef2 (m : MethodId) (x0 : Int64) : entryFrame m #[(.long x0)] 2 = mkF m 0 #[.val (.long x0), .second] [] := by first | (simp [entryFrame, mkF, argsToLocals, Value.category]; done) | rfl
theorem own_pn2 : plainName "com/example/callsite/callsite/bytecode/ClassReadEqualsPinLaw" = true := by first | (simp [plainName, overriddenIn]; done) | decide +kernel
def own_len (q1 : Int64) : Int32 := (own_min ((((q1.toUInt64 >>> ((16 : Int32) &&& 0x3f).toInt64.toUInt64).toInt64) &&& (3 : Int64)).toInt32) (2 : Int32))
set_option maxRecDepth 65536 in
set_option maxHeartbeats 40000000 in
theorem own_m2 (l : Launch) (Z : State) (a0 : Array Value) (hw : ∀ d ∈ tables_1, d.before a0 Z = true) (ws : List Jvm.Cond) (q1 : Int64) (h0 : Heap) (n0 : Nat) (Z0 : n0 ≤ h0.size) :
    own_MF l Z own_y2 ws method_2_code 2 (some .int) ({ frames := 1, cells := 0, slots := 0, locals := 13 } : Room) #[(.long q1)] h0 (own_Q (some (.int (own_len q1))) h0 n0) := by
  refine own_go "com/example/callsite/callsite/bytecode/ClassReadEqualsPinLaw" rfl (plainFor_of_name own_pn2) (fun m => own_ef2 m q1) own_d2 n0 fun p e s m below meth c s₁ A0 Bd hx D hml hown hnm X0 hZ e0 N0 k => ?_
  replace k : ow s₁ (mkF m 3 #[.val (.long q1), .second] [(.int 16), (.long q1)]) := fun t q => k t (XS.lloadN X0.here hx rfl (D 0 rfl) rfl (XS.bipush X0.here hx rfl (D 1 rfl) q))
  replace k : ow s₁ (mkF m 4 #[.val (.long q1), .second] [(.long ((q1.toUInt64 >>> ((16 : Int32) &&& 0x3f).toInt64.toUInt64).toInt64))]) := fun t q => k t (XS.lushr X0.here hx rfl (D 2 rfl) rfl q)
  replace k : ow s₁ (mkF m 7 #[.val (.long q1), .second] [(.long (3 : Int64)), (.long ((q1.toUInt64 >>> ((16 : Int32) &&& 0x3f).toInt64.toUInt64).toInt64))]) := fun t q => k t (X0.ldc2Long hx hown (mvT hZ (own_h hw 8 rfl)) (g := (mkF m 4 #[.val (.long q1), .second] [(.long ((q1.toUInt64 >>> ((16 : Int32) &&& 0x3f).toInt64.toUInt64).toInt64))])) rfl (D 3 rfl) _ q)
  replace k : ow s₁ (mkF m 8 #[.val (.long q1), .second] [(.long (((q1.toUInt64 >>> ((16 : Int32) &&& 0x3f).toInt64.toUInt64).toInt64) &&& (3 : Int64)))]) := fun t q => k t (XS.land X0.here hx rfl (D 4 rfl) rfl q)
  replace k : ow s₁ (mkF m 9 #[.val (.long q1), .second] [(.int ((((q1.toUInt64 >>> ((16 : Int32) &&& 0x3f).toInt64.toUInt64).toInt64) &&& (3 : Int64)).toInt32))]) := fun t q => k t (XS.l2i X0.here hx rfl (D 5 rfl) rfl q)
  obtain ⟨_, _, ⟨T1, L1, k1, n1⟩, -, X1, ⟨Lc1, hQ1, l1, y1, z1⟩, st1⟩ := Jvm.LawKit.callS X0 hx (y := own_y3) hown (mvT hZ (own_h hw 9 rfl)) (mvT hZ (own_h hw 10 rfl)) (mvT hZ (own_h hw 11 rfl)) (mvT hZ (own_h hw 12 rfl)) (by decide) (backOf (W := 0) (own_m3 l Z a0 hw [] ((((q1.toUInt64 >>> ((16 : Int32) &&& 0x3f).toInt64.toUInt64).toInt64) &&& (3 : Int64)).toInt32) (2 : Int32) h0 n0 Z0 ) hZ (own_h hw 12 rfl) (own_h hw 11 rfl) (by decide) (by decide)) (g := (mkF m 10 #[.val (.long q1), .second] [(.int 2), (.int ((((q1.toUInt64 >>> ((16 : Int32) &&& 0x3f).toInt64.toUInt64).toInt64) &&& (3 : Int64)).toInt32))])) rfl (by rw [hml]; rfl) (argsL := [(.int ((((q1.toUInt64 >>> ((16 : Int32) &&& 0x3f).toInt64.toUInt64).toInt64) &&& (3 : Int64)).toInt32)), (.int 2)]) (rest := []) (lenOf own_pd0 rfl) rfl own_le (D 7 rfl) (fun _ _ => ⟨rfl, e0, (by decide : 0 + 0 ≤ _), (by decide : 0 + 0 ≤ _)⟩)
  dsimp only [Pt.U, Pt.locs, Pt.cells, Pt.slots] at X1 l1 y1 z1 st1 hQ1
  subst l1 y1 z1
  obtain ⟨rfl, N1q, e1⟩ := hQ1
  have N1 := Fr.app N0 N1q
  replace k : ow T1 (mkF m 13 #[.val (.long q1), .second] [(.int (own_min ((((q1.toUInt64 >>> ((16 : Int32) &&& 0x3f).toInt64.toUInt64).toInt64) &&& (3 : Int64)).toInt32) (2 : Int32)))]) := fun t q => k t (XS.iconst X0.here hx rfl (D 6 rfl) (st1 t q))
  clear st1
  exact own_end (v := some (.int (own_min ((((q1.toUInt64 >>> ((16 : Int32) &&& 0x3f).toInt64.toUInt64).toInt64) &&& (3 : Int64)).toInt32) (2 : Int32)))) X1 e1 Bd.notSynchronized (own_vn Bd.returns) k (fun _ hr => retI X1 hx Bd.returns (D 8 rfl) hr) ⟨by rw [show (own_len q1) = (own_min ((((q1.toUInt64 >>> ((16 : Int32) &&& 0x3f).toInt64.toUInt64).toInt64) &&& (3 : Int64)).toInt32) (2 : Int32)) from by unfold own_len; rfl], N1, rfl⟩ (by decide) (by decide)
theorem own_d15 : own_all method_3_code [(0, .lload_n 0, 1), (1, .ldc2_w 15, 3), (4, .land, 1), (5, .l2i, 1), (6, .i2c, 1), (7, .ireturn, 1)] := by decide +kernel
theorem own_ef15 (m : MethodId) (x0 : Int64) : entryFrame m #[(.long x0)] 2 = mkF m 0 #[.val (.long x0), .second] [] := by first | (simp [entryFrame, mkF, argsToLocals, Value.category]; done) | rfl
theorem own_pn15 : plainName "com/example/callsite/callsite/bytecode/ClassReadEqualsPinLaw" = true := by first | (simp [plainName, overriddenIn]; done) | decide +kernel
def own_c0 (q1 : Int64) : Int32 := ((((q1 &&& (255 : Int64)).toInt32).toUInt32.toUInt16.toUInt32.toInt32).toUInt32.toUInt16.toUInt32.toInt32)
set_option maxRecDepth 65536 in
set_option maxHeartbeats 40000000 in
theorem own_m15 (l : Launch) (Z : State) (a0 : Array Value) (hw : ∀ d ∈ tables_1, d.before a0 Z = true) (ws : List Jvm.Cond) (q1 : Int64) (h0 : Heap) (n0 : Nat) (Z0 : n0 ≤ h0.size) :
    own_MF l Z own_y15 ws method_3_code 2 (some .char) ({ frames := 0, cells := 0, slots := 0, locals := 0 } : Room) #[(.long q1)] h0 (own_Q (some (.int (own_c0 q1))) h0 n0) := by
  refine own_go "com/example/callsite/callsite/bytecode/ClassReadEqualsPinLaw" rfl (plainFor_of_name own_pn15) (fun m => own_ef15 m q1) own_d15 n0 fun p e s m below meth c s₁ A0 Bd hx D hml hown hnm X0 hZ e0 N0 k => ?_
  replace k : ow s₁ (mkF m 4 #[.val (.long q1), .second] [(.long (255 : Int64)), (.long q1)]) := fun t q => k t (XS.lloadN X0.here hx rfl (D 0 rfl) rfl (X0.ldc2Long hx hown (mvT hZ (own_h hw 95 rfl)) (g := (mkF m 1 #[.val (.long q1), .second] [(.long q1)])) rfl (D 1 rfl) _ q))
  replace k : ow s₁ (mkF m 5 #[.val (.long q1), .second] [(.long (q1 &&& (255 : Int64)))]) := fun t q => k t (XS.land X0.here hx rfl (D 2 rfl) rfl q)
  replace k : ow s₁ (mkF m 6 #[.val (.long q1), .second] [(.int ((q1 &&& (255 : Int64)).toInt32))]) := fun t q => k t (XS.l2i X0.here hx rfl (D 3 rfl) rfl q)
  replace k : ow s₁ (mkF m 7 #[.val (.long q1), .second] [(.int (((q1 &&& (255 : Int64)).toInt32).toUInt32.toUInt16.toUInt32.toInt32))]) := fun t q => k t (XS.i2c X0.here hx rfl (D 4 rfl) rfl q)
  exact own_end (v := some (.int ((((q1 &&& (255 : Int64)).toInt32).toUInt32.toUInt16.toUInt32.toInt32).toUInt32.toUInt16.toUInt32.toInt32))) X0 e0 Bd.notSynchronized (own_vn Bd.returns) k (fun _ hr => retN X0 hx (t := .char) Bd.returns (by simp) (D 5 rfl) hr) ⟨by rw [show (own_c0 q1) = ((((q1 &&& (255 : Int64)).toInt32).toUInt32.toUInt16.toUInt32.toInt32).toUInt32.toUInt16.toUInt32.toInt32) from by unfold own_c0; rfl], N0, rfl⟩ (by decide) (by decide)
theorem own_d16 : own_all method_4_code [(0, .lload_n 0, 1), (1, .bipush 8, 2), (3, .lushr, 1), (4, .ldc2_w 15, 3), (7, .land, 1), (8, .l2i, 1), (9, .i2c, 1), (10, .ireturn, 1)] := by decide +kernel
theorem own_ef16 (m : MethodId) (x0 : Int64) : entryFrame m #[(.long x0)] 2 = mkF m 0 #[.val (.long x0), .second] [] := by first | (simp [entryFrame, mkF, argsToLocals, Value.category]; done) | rfl
theorem own_pn16 : plainName "com/example/callsite/callsite/bytecode/ClassReadEqualsPinLaw" = true := by first | (simp [plainName, overriddenIn]; done) | decide +kernel
def own_c1 (q1 : Int64) : Int32 := ((((((q1.toUInt64 >>> ((8 : Int32) &&& 0x3f).toInt64.toUInt64).toInt64) &&& (255 : Int64)).toInt32).toUInt32.toUInt16.toUInt32.toInt32).toUInt32.toUInt16.toUInt32.toInt32)
set_option maxRecDepth 65536 in
set_option maxHeartbeats 40000000 in
theorem own_m16 (l : Launch) (Z : State) (a0 : Array Value) (hw : ∀ d ∈ tables_1, d.before a0 Z = true) (ws : List Jvm.Cond) (q1 : Int64) (h0 : Heap) (n0 : Nat) (Z0 : n0 ≤ h0.size) :
    own_MF l Z own_y16 ws method_4_code 2 (some .char) ({ frames := 0, cells := 0, slots := 0, locals := 0 } : Room) #[(.long q1)] h0 (own_Q (some (.int (own_c1 q1))) h0 n0) := by
  refine own_go "com/example/callsite/callsite/bytecode/ClassReadEqualsPinLaw" rfl (plainFor_of_name own_pn16) (fun m => own_ef16 m q1) own_d16 n0 fun p e s m below meth c s₁ A0 Bd hx D hml hown hnm X0 hZ e0 N0 k => ?_
  replace k : ow s₁ (mkF m 3 #[.val (.long q1), .second] [(.int 8), (.long q1)]) := fun t q => k t (XS.lloadN X0.here hx rfl (D 0 rfl) rfl (XS.bipush X0.here hx rfl (D 1 rfl) q))
  replace k : ow s₁ (mkF m 4 #[.val (.long q1), .second] [(.long ((q1.toUInt64 >>> ((8 : Int32) &&& 0x3f).toInt64.toUInt64).toInt64))]) := fun t q => k t (XS.lushr X0.here hx rfl (D 2 rfl) rfl q)
  replace k : ow s₁ (mkF m 7 #[.val (.long q1), .second] [(.long (255 : Int64)), (.long ((q1.toUInt64 >>> ((8 : Int32) &&& 0x3f).toInt64.toUInt64).toInt64))]) := fun t q => k t (X0.ldc2Long hx hown (mvT hZ (own_h hw 95 rfl)) (g := (mkF m 4 #[.val (.long q1), .second] [(.long ((q1.toUInt64 >>> ((8 : Int32) &&& 0x3f).toInt64.toUInt64).toInt64))])) rfl (D 3 rfl) _ q)
  replace k : ow s₁ (mkF m 8 #[.val (.long q1), .second] [(.long (((q1.toUInt64 >>> ((8 : Int32) &&& 0x3f).toInt64.toUInt64).toInt64) &&& (255 : Int64)))]) := fun t q => k t (XS.land X0.here hx rfl (D 4 rfl) rfl q)
  replace k : ow s₁ (mkF m 9 #[.val (.long q1), .second] [(.int ((((q1.toUInt64 >>> ((8 : Int32) &&& 0x3f).toInt64.toUInt64).toInt64) &&& (255 : Int64)).toInt32))]) := fun t q => k t (XS.l2i X0.here hx rfl (D 5 rfl) rfl q)
  replace k : ow s₁ (mkF m 10 #[.val (.long q1), .second] [(.int (((((q1.toUInt64 >>> ((8 : Int32) &&& 0x3f).toInt64.toUInt64).toInt64) &&& (255 : Int64)).toInt32).toUInt32.toUInt16.toUInt32.toInt32))]) := fun t q => k t (XS.i2c X0.here hx rfl (D 6 rfl) rfl q)
  exact own_end (v := some (.int ((((((q1.toUInt64 >>> ((8 : Int32) &&& 0x3f).toInt64.toUInt64).toInt64) &&& (255 : Int64)).toInt32).toUInt32.toUInt16.toUInt32.toInt32).toUInt32.toUInt16.toUInt32.toInt32))) X0 e0 Bd.notSynchronized (own_vn Bd.returns) k (fun _ hr => retN X0 hx (t := .char) Bd.returns (by simp) (D 7 rfl) hr) ⟨by rw [show (own_c1 q1) = ((((((q1.toUInt64 >>> ((8 : Int32) &&& 0x3f).toInt64.toUInt64).toInt64) &&& (255 : Int64)).toInt32).toUInt32.toUInt16.toUInt32.toInt32).toUInt32.toUInt16.toUInt32.toInt32) from by unfold own_c1; rfl], N0, rfl⟩ (by decide) (by decide)
theorem own_d11 : own_all method_6_code [(0, .lload_n 0, 1), (1, .invokestatic 17, 3), (4, .istore 4, 2), (6, .iload 4, 2), (8, .lload_n 2, 1), (9, .invokestatic 17, 3), (12, .if_icmp .eq 5, 3), (17, .iload 4, 2), (19, .iconst 1, 1), (20, .if_icmp .lt 16, 3), (36, .iload 4, 2), (38, .iconst 2, 1), (39, .if_icmp .lt 16, 3), (55, .iconst 1, 1), (56, .ireturn, 1), (42, .lload_n 0, 1), (43, .invokestatic 32, 3), (46, .lload_n 2, 1), (47, .invokestatic 32, 3), (50, .if_icmp .eq 5, 3), (53, .iconst 0, 1), (54, .ireturn, 1), (23, .lload_n 0, 1), (24, .invokestatic 28, 3), (27, .lload_n 2, 1), (28, .invokestatic 28, 3), (31, .if_icmp .eq 5, 3), (34, .iconst 0, 1), (35, .ireturn, 1), (15, .iconst 0, 1), (16, .ireturn, 1)] := by decide +kernel
theorem own_pd1 : parseMethodDescriptor "(J)I" = some ⟨[.long], some .int⟩ := by decide +kernel
theorem own_pd2 : parseMethodDescriptor "(J)C" = some ⟨[.long], some .char⟩ := by decide +kernel
theorem own_ef11 (m : MethodId) (x0 : Int64) (x1 : Int64) : entryFrame m #[(.long x0), (.long x1)] 5 = mkF m 0 #[.val (.long x0), .second, .val (.long x1), .second, .unset] [] := by first | (simp [entryFrame, mkF, argsToLocals, Value.category]; done) | rfl
theorem own_pn11 : plainName "com/example/callsite/callsite/bytecode/ClassReadEqualsPinLaw" = true := by first | (simp [plainName, overriddenIn]; done) | decide +kernel
def own_same (q1 : Int64) (q2 : Int64) : Int32 := (if (own_len q1) = (own_len q2) then (if (own_len q1) < (1 : Int32) then (if (own_len q1) < (2 : Int32) then (1 : Int32) else (if (own_c1 q1) = (own_c1 q2) then (1 : Int32) else (0 : Int32))) else (if (own_c0 q1) = (own_c0 q2) then (if (own_len q1) < (2 : Int32) then (1 : Int32) else (if (own_c1 q1) = (own_c1 q2) then (1 : Int32) else (0 : Int32))) else (0 : Int32))) else (0 : Int32))
set_option maxRecDepth 65536 in
set_option maxHeartbeats 40000000 in
theorem own_m11 (l : Launch) (Z : State) (a0 : Array Value) (hw : ∀ d ∈ tables_1, d.before a0 Z = true) (ws : List Jvm.Cond) (q1 : Int64) (q2 : Int64) (h0 : Heap) (n0 : Nat) (Z0 : n0 ≤ h0.size) :
    own_MF l Z own_y11 ws method_6_code 5 (some .boolean) ({ frames := 2, cells := 0, slots := 0, locals := 27 } : Room) #[(.long q1), (.long q2)] h0 (own_Q (some (.int (own_same q1 q2))) h0 n0) := by
  refine own_go "com/example/callsite/callsite/bytecode/ClassReadEqualsPinLaw" rfl (plainFor_of_name own_pn11) (fun m => own_ef11 m q1 q2) own_d11 n0 fun p e s m below meth c s₁ A0 Bd hx D hml hown hnm X0 hZ e0 N0 k => ?_
  obtain ⟨_, _, ⟨T1, L1, k1, n1⟩, -, X1, ⟨Lc1, hQ1, l1, y1, z1⟩, st1⟩ := Jvm.LawKit.callS X0 hx (y := own_y2) hown (mvT hZ (own_h hw 5 rfl)) (mvT hZ (own_h hw 6 rfl)) (mvT hZ (own_h hw 3 rfl)) (mvT hZ (own_h hw 7 rfl)) (by decide) (backOf (W := 0) (own_m2 l Z a0 hw [] q1 h0 n0 Z0 ) hZ (own_h hw 7 rfl) (own_h hw 3 rfl) (by decide) (by decide)) (g := (mkF m 1 #[.val (.long q1), .second, .val (.long q2), .second, .unset] [(.long q1)])) rfl (by rw [hml]; rfl) (argsL := [(.long q1)]) (rest := []) (lenOf own_pd1 rfl) rfl own_le (D 1 rfl) (fun _ _ => ⟨rfl, e0, (by decide : 0 + 0 ≤ _), (by decide : 0 + 0 ≤ _)⟩)
  dsimp only [Pt.U, Pt.locs, Pt.cells, Pt.slots] at X1 l1 y1 z1 st1 hQ1
  subst l1 y1 z1
  obtain ⟨rfl, N1q, e1⟩ := hQ1
  have N1 := Fr.app N0 N1q
  replace k : ow T1 (mkF m 4 #[.val (.long q1), .second, .val (.long q2), .second, .unset] [(.int (own_len q1))]) := fun t q => k t (XS.lloadN X0.here hx rfl (D 0 rfl) rfl (st1 t q))
  clear st1
  replace k : ow T1 (mkF m 9 #[.val (.long q1), .second, .val (.long q2), .second, ow_i (own_len q1)] [(.long q2), (.int (own_len q1))]) := fun t q => k t (XS.istore X1.here hx rfl (D 2 rfl) rfl (l' := #[.val (.long q1), .second, .val (.long q2), .second, ow_i (own_len q1)]) rfl (XS.iload X1.here hx rfl (D 3 rfl) rfl (XS.lloadN X1.here hx rfl (D 4 rfl) rfl q)))
  obtain ⟨_, _, ⟨T2, L2, k2, n2⟩, -, X2, ⟨Lc2, hQ2, l2, y2, z2⟩, st2⟩ := Jvm.LawKit.callS X1 hx (y := own_y2) hown (mvT hZ (own_h hw 5 rfl)) (mvT hZ (own_h hw 6 rfl)) (mvT hZ (own_h hw 3 rfl)) (mvT hZ (own_h hw 7 rfl)) (by decide) (backOf (W := 1) (own_m2 l Z a0 hw [] q2 h0 n0 Z0 ) hZ (own_h hw 7 rfl) (own_h hw 3 rfl) (by decide) (by decide)) (g := (mkF m 9 #[.val (.long q1), .second, .val (.long q2), .second, ow_i (own_len q1)] [(.long q2), (.int (own_len q1))])) rfl (by rw [hml]; rfl) (argsL := [(.long q2)]) (rest := [(.int (own_len q1))]) (lenOf own_pd1 rfl) rfl own_le (D 5 rfl) (fun _ _ => ⟨rfl, e1, (by decide : 0 + 0 ≤ _), (by decide : 0 + 0 ≤ _)⟩)
  dsimp only [Pt.U, Pt.locs, Pt.cells, Pt.slots] at X2 l2 y2 z2 st2 hQ2
  subst l2 y2 z2
  obtain ⟨rfl, N2q, e2⟩ := hQ2
  have N2 := Fr.app N1 N2q
  replace k : ow T2 (mkF m 12 #[.val (.long q1), .second, .val (.long q2), .second, ow_i (own_len q1)] [(.int (own_len q2)), (.int (own_len q1))]) := fun t q => k t (st2 t q)
  clear st2
  by_cases hc3 : (own_len q1) = (own_len q2)
  · replace k : ow T2 (mkF m 17 #[.val (.long q1), .second, .val (.long q2), .second, ow_i (own_len q1)] []) := fun t q => k t (XS.icmpYes X2.here hx rfl (pc0 := 12) (pc' := 17) rfl (D 6 rfl) rfl (teq (show (own_len q1) = (own_len q2) from hc3)).1 (by decide) (by decide) q)
    by_cases hc4 : (own_len q1) < (1 : Int32)
    · replace k : ow T2 (mkF m 36 #[.val (.long q1), .second, .val (.long q2), .second, ow_i (own_len q1)] []) := fun t q => k t (XS.iload X2.here hx rfl (D 7 rfl) rfl (XS.iconst X2.here hx rfl (D 8 rfl) (XS.icmpYes X2.here hx rfl (pc0 := 20) (pc' := 36) rfl (D 9 rfl) rfl (tlt (show (own_len q1) < (1 : Int32) from hc4)).1 (by decide) (by decide) q)))
      by_cases hc5 : (own_len q1) < (2 : Int32)
      · replace k : ow T2 (mkF m 55 #[.val (.long q1), .second, .val (.long q2), .second, ow_i (own_len q1)] []) := fun t q => k t (XS.iload X2.here hx rfl (D 10 rfl) rfl (XS.iconst X2.here hx rfl (D 11 rfl) (XS.icmpYes X2.here hx rfl (pc0 := 39) (pc' := 55) rfl (D 12 rfl) rfl (tlt (show (own_len q1) < (2 : Int32) from hc5)).1 (by decide) (by decide) q)))
        replace k : ow T2 (mkF m 56 #[.val (.long q1), .second, .val (.long q2), .second, ow_i (own_len q1)] [(.int 1)]) := fun t q => k t (XS.iconst X2.here hx rfl (D 13 rfl) q)
        exact own_end (v := some (.int 1)) X2 e2 Bd.notSynchronized (own_vn Bd.returns) k (fun _ hr => retN X2 hx (t := .boolean) Bd.returns (by simp) (D 14 rfl) (by first | exact hr | (rw [show nar .boolean (1 : Int32) = (1 : Int32) from by decide]; exact hr))) ⟨by rw [show (own_same q1 q2) = (1 : Int32) from by unfold own_same; rw [if_pos hc3, if_pos hc4, if_pos hc5]], N2, rfl⟩ (by decide) (by decide)
      · replace k : ow T2 (mkF m 42 #[.val (.long q1), .second, .val (.long q2), .second, ow_i (own_len q1)] []) := fun t q => k t (XS.iload X2.here hx rfl (D 10 rfl) rfl (XS.iconst X2.here hx rfl (D 11 rfl) (XS.icmpNo X2.here hx rfl (D 12 rfl) rfl (flt (show ¬ ((own_len q1) < (2 : Int32)) from hc5)).1 q)))
        obtain ⟨_, _, ⟨T6, L6, k6, n6⟩, -, X6, ⟨Lc6, hQ6, l6, y6, z6⟩, st6⟩ := Jvm.LawKit.callS X2 hx (y := own_y16) hown (mvT hZ (own_h hw 96 rfl)) (mvT hZ (own_h hw 97 rfl)) (mvT hZ (own_h hw 3 rfl)) (mvT hZ (own_h hw 98 rfl)) (by decide) (backOf (W := 0) (own_m16 l Z a0 hw [] q1 h0 n0 Z0 ) hZ (own_h hw 98 rfl) (own_h hw 3 rfl) (by decide) (by decide)) (g := (mkF m 43 #[.val (.long q1), .second, .val (.long q2), .second, ow_i (own_len q1)] [(.long q1)])) rfl (by rw [hml]; rfl) (argsL := [(.long q1)]) (rest := []) (lenOf own_pd2 rfl) rfl own_le (D 16 rfl) (fun _ _ => ⟨rfl, e2, (by decide : 0 + 0 ≤ _), (by decide : 0 + 0 ≤ _)⟩)
        dsimp only [Pt.U, Pt.locs, Pt.cells, Pt.slots] at X6 l6 y6 z6 st6 hQ6
        subst l6 y6 z6
        obtain ⟨rfl, N6q, e6⟩ := hQ6
        have N6 := Fr.app N2 N6q
        replace k : ow T6 (mkF m 46 #[.val (.long q1), .second, .val (.long q2), .second, ow_i (own_len q1)] [(.int (own_c1 q1))]) := fun t q => k t (XS.lloadN X2.here hx rfl (D 15 rfl) rfl (st6 t q))
        clear st6
        obtain ⟨_, _, ⟨T7, L7, k7, n7⟩, -, X7, ⟨Lc7, hQ7, l7, y7, z7⟩, st7⟩ := Jvm.LawKit.callS X6 hx (y := own_y16) hown (mvT hZ (own_h hw 96 rfl)) (mvT hZ (own_h hw 97 rfl)) (mvT hZ (own_h hw 3 rfl)) (mvT hZ (own_h hw 98 rfl)) (by decide) (backOf (W := 1) (own_m16 l Z a0 hw [] q2 h0 n0 Z0 ) hZ (own_h hw 98 rfl) (own_h hw 3 rfl) (by decide) (by decide)) (g := (mkF m 47 #[.val (.long q1), .second, .val (.long q2), .second, ow_i (own_len q1)] [(.long q2), (.int (own_c1 q1))])) rfl (by rw [hml]; rfl) (argsL := [(.long q2)]) (rest := [(.int (own_c1 q1))]) (lenOf own_pd2 rfl) rfl own_le (D 18 rfl) (fun _ _ => ⟨rfl, e6, (by decide : 0 + 0 ≤ _), (by decide : 0 + 0 ≤ _)⟩)
        dsimp only [Pt.U, Pt.locs, Pt.cells, Pt.slots] at X7 l7 y7 z7 st7 hQ7
        subst l7 y7 z7
        obtain ⟨rfl, N7q, e7⟩ := hQ7
        have N7 := Fr.app N6 N7q
        replace k : ow T7 (mkF m 50 #[.val (.long q1), .second, .val (.long q2), .second, ow_i (own_len q1)] [(.int (own_c1 q2)), (.int (own_c1 q1))]) := fun t q => k t (XS.lloadN X6.here hx rfl (D 17 rfl) rfl (st7 t q))
        clear st7
        by_cases hc8 : (own_c1 q1) = (own_c1 q2)
        · replace k : ow T7 (mkF m 55 #[.val (.long q1), .second, .val (.long q2), .second, ow_i (own_len q1)] []) := fun t q => k t (XS.icmpYes X7.here hx rfl (pc0 := 50) (pc' := 55) rfl (D 19 rfl) rfl (teq (show (own_c1 q1) = (own_c1 q2) from hc8)).1 (by decide) (by decide) q)
          replace k : ow T7 (mkF m 56 #[.val (.long q1), .second, .val (.long q2), .second, ow_i (own_len q1)] [(.int 1)]) := fun t q => k t (XS.iconst X7.here hx rfl (D 13 rfl) q)
          exact own_end (v := some (.int 1)) X7 e7 Bd.notSynchronized (own_vn Bd.returns) k (fun _ hr => retN X7 hx (t := .boolean) Bd.returns (by simp) (D 14 rfl) (by first | exact hr | (rw [show nar .boolean (1 : Int32) = (1 : Int32) from by decide]; exact hr))) ⟨by rw [show (own_same q1 q2) = (1 : Int32) from by unfold own_same; rw [if_pos hc3, if_pos hc4, if_neg hc5, if_pos hc8]], N7, rfl⟩ (by decide) (by decide)
        · replace k : ow T7 (mkF m 53 #[.val (.long q1), .second, .val (.long q2), .second, ow_i (own_len q1)] []) := fun t q => k t (XS.icmpNo X7.here hx rfl (D 19 rfl) rfl (feq (show ¬ ((own_c1 q1) = (own_c1 q2)) from hc8)).1 q)
          replace k : ow T7 (mkF m 54 #[.val (.long q1), .second, .val (.long q2), .second, ow_i (own_len q1)] [(.int 0)]) := fun t q => k t (XS.iconst X7.here hx rfl (D 20 rfl) q)
          exact own_end (v := some (.int 0)) X7 e7 Bd.notSynchronized (own_vn Bd.returns) k (fun _ hr => retN X7 hx (t := .boolean) Bd.returns (by simp) (D 21 rfl) (by first | exact hr | (rw [show nar .boolean (0 : Int32) = (0 : Int32) from by decide]; exact hr))) ⟨by rw [show (own_same q1 q2) = (0 : Int32) from by unfold own_same; rw [if_pos hc3, if_pos hc4, if_neg hc5, if_neg hc8]], N7, rfl⟩ (by decide) (by decide)
    · replace k : ow T2 (mkF m 23 #[.val (.long q1), .second, .val (.long q2), .second, ow_i (own_len q1)] []) := fun t q => k t (XS.iload X2.here hx rfl (D 7 rfl) rfl (XS.iconst X2.here hx rfl (D 8 rfl) (XS.icmpNo X2.here hx rfl (D 9 rfl) rfl (flt (show ¬ ((own_len q1) < (1 : Int32)) from hc4)).1 q)))
      obtain ⟨_, _, ⟨T9, L9, k9, n9⟩, -, X9, ⟨Lc9, hQ9, l9, y9, z9⟩, st9⟩ := Jvm.LawKit.callS X2 hx (y := own_y15) hown (mvT hZ (own_h hw 92 rfl)) (mvT hZ (own_h hw 93 rfl)) (mvT hZ (own_h hw 3 rfl)) (mvT hZ (own_h hw 94 rfl)) (by decide) (backOf (W := 0) (own_m15 l Z a0 hw [] q1 h0 n0 Z0 ) hZ (own_h hw 94 rfl) (own_h hw 3 rfl) (by decide) (by decide)) (g := (mkF m 24 #[.val (.long q1), .second, .val (.long q2), .second, ow_i (own_len q1)] [(.long q1)])) rfl (by rw [hml]; rfl) (argsL := [(.long q1)]) (rest := []) (lenOf own_pd2 rfl) rfl own_le (D 23 rfl) (fun _ _ => ⟨rfl, e2, (by decide : 0 + 0 ≤ _), (by decide : 0 + 0 ≤ _)⟩)
      dsimp only [Pt.U, Pt.locs, Pt.cells, Pt.slots] at X9 l9 y9 z9 st9 hQ9
      subst l9 y9 z9
      obtain ⟨rfl, N9q, e9⟩ := hQ9
      have N9 := Fr.app N2 N9q
      replace k : ow T9 (mkF m 27 #[.val (.long q1), .second, .val (.long q2), .second, ow_i (own_len q1)] [(.int (own_c0 q1))]) := fun t q => k t (XS.lloadN X2.here hx rfl (D 22 rfl) rfl (st9 t q))
      clear st9
      obtain ⟨_, _, ⟨T10, L10, k10, n10⟩, -, X10, ⟨Lc10, hQ10, l10, y10, z10⟩, st10⟩ := Jvm.LawKit.callS X9 hx (y := own_y15) hown (mvT hZ (own_h hw 92 rfl)) (mvT hZ (own_h hw 93 rfl)) (mvT hZ (own_h hw 3 rfl)) (mvT hZ (own_h hw 94 rfl)) (by decide) (backOf (W := 1) (own_m15 l Z a0 hw [] q2 h0 n0 Z0 ) hZ (own_h hw 94 rfl) (own_h hw 3 rfl) (by decide) (by decide)) (g := (mkF m 28 #[.val (.long q1), .second, .val (.long q2), .second, ow_i (own_len q1)] [(.long q2), (.int (own_c0 q1))])) rfl (by rw [hml]; rfl) (argsL := [(.long q2)]) (rest := [(.int (own_c0 q1))]) (lenOf own_pd2 rfl) rfl own_le (D 25 rfl) (fun _ _ => ⟨rfl, e9, (by decide : 0 + 0 ≤ _), (by decide : 0 + 0 ≤ _)⟩)
      dsimp only [Pt.U, Pt.locs, Pt.cells, Pt.slots] at X10 l10 y10 z10 st10 hQ10
      subst l10 y10 z10
      obtain ⟨rfl, N10q, e10⟩ := hQ10
      have N10 := Fr.app N9 N10q
      replace k : ow T10 (mkF m 31 #[.val (.long q1), .second, .val (.long q2), .second, ow_i (own_len q1)] [(.int (own_c0 q2)), (.int (own_c0 q1))]) := fun t q => k t (XS.lloadN X9.here hx rfl (D 24 rfl) rfl (st10 t q))
      clear st10
      by_cases hc11 : (own_c0 q1) = (own_c0 q2)
      · replace k : ow T10 (mkF m 36 #[.val (.long q1), .second, .val (.long q2), .second, ow_i (own_len q1)] []) := fun t q => k t (XS.icmpYes X10.here hx rfl (pc0 := 31) (pc' := 36) rfl (D 26 rfl) rfl (teq (show (own_c0 q1) = (own_c0 q2) from hc11)).1 (by decide) (by decide) q)
        by_cases hc12 : (own_len q1) < (2 : Int32)
        · replace k : ow T10 (mkF m 55 #[.val (.long q1), .second, .val (.long q2), .second, ow_i (own_len q1)] []) := fun t q => k t (XS.iload X10.here hx rfl (D 10 rfl) rfl (XS.iconst X10.here hx rfl (D 11 rfl) (XS.icmpYes X10.here hx rfl (pc0 := 39) (pc' := 55) rfl (D 12 rfl) rfl (tlt (show (own_len q1) < (2 : Int32) from hc12)).1 (by decide) (by decide) q)))
          replace k : ow T10 (mkF m 56 #[.val (.long q1), .second, .val (.long q2), .second, ow_i (own_len q1)] [(.int 1)]) := fun t q => k t (XS.iconst X10.here hx rfl (D 13 rfl) q)
          exact own_end (v := some (.int 1)) X10 e10 Bd.notSynchronized (own_vn Bd.returns) k (fun _ hr => retN X10 hx (t := .boolean) Bd.returns (by simp) (D 14 rfl) (by first | exact hr | (rw [show nar .boolean (1 : Int32) = (1 : Int32) from by decide]; exact hr))) ⟨by rw [show (own_same q1 q2) = (1 : Int32) from by unfold own_same; rw [if_pos hc3, if_neg hc4, if_pos hc11, if_pos hc12]], N10, rfl⟩ (by decide) (by decide)
        · replace k : ow T10 (mkF m 42 #[.val (.long q1), .second, .val (.long q2), .second, ow_i (own_len q1)] []) := fun t q => k t (XS.iload X10.here hx rfl (D 10 rfl) rfl (XS.iconst X10.here hx rfl (D 11 rfl) (XS.icmpNo X10.here hx rfl (D 12 rfl) rfl (flt (show ¬ ((own_len q1) < (2 : Int32)) from hc12)).1 q)))
          obtain ⟨_, _, ⟨T13, L13, k13, n13⟩, -, X13, ⟨Lc13, hQ13, l13, y13, z13⟩, st13⟩ := Jvm.LawKit.callS X10 hx (y := own_y16) hown (mvT hZ (own_h hw 96 rfl)) (mvT hZ (own_h hw 97 rfl)) (mvT hZ (own_h hw 3 rfl)) (mvT hZ (own_h hw 98 rfl)) (by decide) (backOf (W := 0) (own_m16 l Z a0 hw [] q1 h0 n0 Z0 ) hZ (own_h hw 98 rfl) (own_h hw 3 rfl) (by decide) (by decide)) (g := (mkF m 43 #[.val (.long q1), .second, .val (.long q2), .second, ow_i (own_len q1)] [(.long q1)])) rfl (by rw [hml]; rfl) (argsL := [(.long q1)]) (rest := []) (lenOf own_pd2 rfl) rfl own_le (D 16 rfl) (fun _ _ => ⟨rfl, e10, (by decide : 0 + 0 ≤ _), (by decide : 0 + 0 ≤ _)⟩)
          dsimp only [Pt.U, Pt.locs, Pt.cells, Pt.slots] at X13 l13 y13 z13 st13 hQ13
          subst l13 y13 z13
          obtain ⟨rfl, N13q, e13⟩ := hQ13
          have N13 := Fr.app N10 N13q
          replace k : ow T13 (mkF m 46 #[.val (.long q1), .second, .val (.long q2), .second, ow_i (own_len q1)] [(.int (own_c1 q1))]) := fun t q => k t (XS.lloadN X10.here hx rfl (D 15 rfl) rfl (st13 t q))
          clear st13
          obtain ⟨_, _, ⟨T14, L14, k14, n14⟩, -, X14, ⟨Lc14, hQ14, l14, y14, z14⟩, st14⟩ := Jvm.LawKit.callS X13 hx (y := own_y16) hown (mvT hZ (own_h hw 96 rfl)) (mvT hZ (own_h hw 97 rfl)) (mvT hZ (own_h hw 3 rfl)) (mvT hZ (own_h hw 98 rfl)) (by decide) (backOf (W := 1) (own_m16 l Z a0 hw [] q2 h0 n0 Z0 ) hZ (own_h hw 98 rfl) (own_h hw 3 rfl) (by decide) (by decide)) (g := (mkF m 47 #[.val (.long q1), .second, .val (.long q2), .second, ow_i (own_len q1)] [(.long q2), (.int (own_c1 q1))])) rfl (by rw [hml]; rfl) (argsL := [(.long q2)]) (rest := [(.int (own_c1 q1))]) (lenOf own_pd2 rfl) rfl own_le (D 18 rfl) (fun _ _ => ⟨rfl, e13, (by decide : 0 + 0 ≤ _), (by decide : 0 + 0 ≤ _)⟩)
          dsimp only [Pt.U, Pt.locs, Pt.cells, Pt.slots] at X14 l14 y14 z14 st14 hQ14
          subst l14 y14 z14
          obtain ⟨rfl, N14q, e14⟩ := hQ14
          have N14 := Fr.app N13 N14q
          replace k : ow T14 (mkF m 50 #[.val (.long q1), .second, .val (.long q2), .second, ow_i (own_len q1)] [(.int (own_c1 q2)), (.int (own_c1 q1))]) := fun t q => k t (XS.lloadN X13.here hx rfl (D 17 rfl) rfl (st14 t q))
          clear st14
          by_cases hc15 : (own_c1 q1) = (own_c1 q2)
          · replace k : ow T14 (mkF m 55 #[.val (.long q1), .second, .val (.long q2), .second, ow_i (own_len q1)] []) := fun t q => k t (XS.icmpYes X14.here hx rfl (pc0 := 50) (pc' := 55) rfl (D 19 rfl) rfl (teq (show (own_c1 q1) = (own_c1 q2) from hc15)).1 (by decide) (by decide) q)
            replace k : ow T14 (mkF m 56 #[.val (.long q1), .second, .val (.long q2), .second, ow_i (own_len q1)] [(.int 1)]) := fun t q => k t (XS.iconst X14.here hx rfl (D 13 rfl) q)
            exact own_end (v := some (.int 1)) X14 e14 Bd.notSynchronized (own_vn Bd.returns) k (fun _ hr => retN X14 hx (t := .boolean) Bd.returns (by simp) (D 14 rfl) (by first | exact hr | (rw [show nar .boolean (1 : Int32) = (1 : Int32) from by decide]; exact hr))) ⟨by rw [show (own_same q1 q2) = (1 : Int32) from by unfold own_same; rw [if_pos hc3, if_neg hc4, if_pos hc11, if_neg hc12, if_pos hc15]], N14, rfl⟩ (by decide) (by decide)
          · replace k : ow T14 (mkF m 53 #[.val (.long q1), .second, .val (.long q2), .second, ow_i (own_len q1)] []) := fun t q => k t (XS.icmpNo X14.here hx rfl (D 19 rfl) rfl (feq (show ¬ ((own_c1 q1) = (own_c1 q2)) from hc15)).1 q)
            replace k : ow T14 (mkF m 54 #[.val (.long q1), .second, .val (.long q2), .second, ow_i (own_len q1)] [(.int 0)]) := fun t q => k t (XS.iconst X14.here hx rfl (D 20 rfl) q)
            exact own_end (v := some (.int 0)) X14 e14 Bd.notSynchronized (own_vn Bd.returns) k (fun _ hr => retN X14 hx (t := .boolean) Bd.returns (by simp) (D 21 rfl) (by first | exact hr | (rw [show nar .boolean (0 : Int32) = (0 : Int32) from by decide]; exact hr))) ⟨by rw [show (own_same q1 q2) = (0 : Int32) from by unfold own_same; rw [if_pos hc3, if_neg hc4, if_pos hc11, if_neg hc12, if_neg hc15]], N14, rfl⟩ (by decide) (by decide)
      · replace k : ow T10 (mkF m 34 #[.val (.long q1), .second, .val (.long q2), .second, ow_i (own_len q1)] []) := fun t q => k t (XS.icmpNo X10.here hx rfl (D 26 rfl) rfl (feq (show ¬ ((own_c0 q1) = (own_c0 q2)) from hc11)).1 q)
        replace k : ow T10 (mkF m 35 #[.val (.long q1), .second, .val (.long q2), .second, ow_i (own_len q1)] [(.int 0)]) := fun t q => k t (XS.iconst X10.here hx rfl (D 27 rfl) q)
        exact own_end (v := some (.int 0)) X10 e10 Bd.notSynchronized (own_vn Bd.returns) k (fun _ hr => retN X10 hx (t := .boolean) Bd.returns (by simp) (D 28 rfl) (by first | exact hr | (rw [show nar .boolean (0 : Int32) = (0 : Int32) from by decide]; exact hr))) ⟨by rw [show (own_same q1 q2) = (0 : Int32) from by unfold own_same; rw [if_pos hc3, if_neg hc4, if_neg hc11]], N10, rfl⟩ (by decide) (by decide)
  · replace k : ow T2 (mkF m 15 #[.val (.long q1), .second, .val (.long q2), .second, ow_i (own_len q1)] []) := fun t q => k t (XS.icmpNo X2.here hx rfl (D 6 rfl) rfl (feq (show ¬ ((own_len q1) = (own_len q2)) from hc3)).1 q)
    replace k : ow T2 (mkF m 16 #[.val (.long q1), .second, .val (.long q2), .second, ow_i (own_len q1)] [(.int 0)]) := fun t q => k t (XS.iconst X2.here hx rfl (D 29 rfl) q)
    exact own_end (v := some (.int 0)) X2 e2 Bd.notSynchronized (own_vn Bd.returns) k (fun _ hr => retN X2 hx (t := .boolean) Bd.returns (by simp) (D 30 rfl) (by first | exact hr | (rw [show nar .boolean (0 : Int32) = (0 : Int32) from by decide]; exact hr))) ⟨by rw [show (own_same q1 q2) = (0 : Int32) from by unfold own_same; rw [if_neg hc3]], N2, rfl⟩ (by decide) (by decide)
theorem own_i2c (x : Int32) (h0 : 0 ≤ x.toInt) (h1 : x.toInt < 65536) : x.toUInt32.toUInt16.toUInt32.toInt32 = x := by
  have q := c_i2c x
  rw [← Int32.toInt_inj]; omega
theorem own_l2i (x : Int64) (h0 : 0 ≤ x.toInt) (h1 : x.toInt < 65536) : x.toInt32.toInt = x.toInt := by
  have q := c_l2i x
  have r := rng32 x.toInt32
  omega
theorem own_m255 (x : Int64) : 0 ≤ (x &&& (255 : Int64)).toInt ∧ (x &&& (255 : Int64)).toInt < 256 := by
  have e := c_maskL x (255 : Int64) 8 (by decide) (by decide)
  have h2 : ((2 ^ 8 : Nat) : Int) = 256 := rfl
  rw [h2] at e; omega
theorem own_c255 (x : Int64) : 0 ≤ (((x &&& (255 : Int64)).toInt32).toUInt32.toUInt16.toUInt32.toInt32.toUInt32.toUInt16.toUInt32.toInt32).toInt ∧ (((x &&& (255 : Int64)).toInt32).toUInt32.toUInt16.toUInt32.toInt32.toUInt32.toUInt16.toUInt32.toInt32).toInt < 256 := by
  have a := own_m255 x
  have b := own_l2i _ a.1 (by omega)
  have i := own_i2c (x &&& (255 : Int64)).toInt32 (by omega) (by omega)
  rw [i, i]; omega
theorem own_c0_r (x : Int64) : 0 ≤ (own_c0 x).toInt ∧ (own_c0 x).toInt < 256 := own_c255 x
theorem own_c1_r (x : Int64) : 0 ≤ (own_c1 x).toInt ∧ (own_c1 x).toInt < 256 := own_c255 _
theorem own_n0 (x : Int64) : (own_c0 x).toUInt32.toUInt16.toUInt32.toInt32 = own_c0 x := own_i2c _ (own_c0_r x).1 (by have := own_c0_r x; omega)
theorem own_n1 (x : Int64) : (own_c1 x).toUInt32.toUInt16.toUInt32.toInt32 = own_c1 x := own_i2c _ (own_c1_r x).1 (by have := own_c1_r x; omega)
theorem own_ch {c : Int32} (h : 0 ≤ c.toInt ∧ c.toInt < 256) : ¬ c < 0 ∧ ¬ (255 : Int32) < c := by
  have e1 : (255 : Int32).toInt = 255 := by decide
  have e0 : (0 : Int32).toInt = 0 := rfl
  simp only [Int32.lt_iff_toInt_lt]; omega
theorem own_r0 (x : Int64) : ¬ ow_c (own_c0 x) < 0 ∧ ¬ (255 : Int32) < ow_c (own_c0 x) := by show ¬ (own_c0 x).toUInt32.toUInt16.toUInt32.toInt32 < 0 ∧ ¬ (255 : Int32) < (own_c0 x).toUInt32.toUInt16.toUInt32.toInt32; rw [own_n0]; exact own_ch (own_c0_r _)
theorem own_r1 (x : Int64) : ¬ ow_c (own_c1 x) < 0 ∧ ¬ (255 : Int32) < ow_c (own_c1 x) := by show ¬ (own_c1 x).toUInt32.toUInt16.toUInt32.toInt32 < 0 ∧ ¬ (255 : Int32) < (own_c1 x).toUInt32.toUInt16.toUInt32.toInt32; rw [own_n1]; exact own_ch (own_c1_r _)
theorem own_len_r (x : Int64) : 0 ≤ (own_len x).toInt ∧ (own_len x).toInt ≤ 2 := by
  unfold own_len own_min
  have e2 : (2 : Int32).toInt = 2 := by decide
  generalize hy : ((x.toUInt64 >>> ((16 : Int32) &&& 0x3f).toInt64.toUInt64).toInt64) = y
  have e := c_maskL y (3 : Int64) 2 (by decide) (by decide)
  have h4 : ((2 ^ 2 : Nat) : Int) = 4 := rfl
  rw [h4] at e
  have b := own_l2i (y &&& (3 : Int64)) (by omega) (by omega)
  split <;> rename_i q <;> rw [Int32.lt_iff_toInt_lt] at q <;> omega
/-- the chars of str(f) -/
def own_cs (f : Int64) : List Int32 := if own_len f = (0 : Int32) then [] else if own_len f = (1 : Int32) then [(own_c0 f).toUInt32.toUInt16.toUInt32.toInt32] else [(own_c0 f).toUInt32.toUInt16.toUInt32.toInt32, (own_c1 f).toUInt32.toUInt16.toUInt32.toInt32]
theorem own_same_ne (x y : Int64) (h : own_same x y = (0 : Int32)) : ¬ (own_cs x = own_cs y) := by
  have rx := own_len_r x
  have ry := own_len_r y
  have e0 : (0 : Int32).toInt = 0 := rfl
  have e1 : (1 : Int32).toInt = 1 := by decide
  have e2 : (2 : Int32).toInt = 2 := by decide
  unfold own_same at h
  unfold own_cs
  simp only [own_n0, own_n1]
  simp only [← Int32.toInt_inj, Int32.lt_iff_toInt_lt] at h ⊢
  generalize (own_len x).toInt = a at *
  generalize (own_len y).toInt = b at *
  intro q
  repeat' split at h
  all_goals repeat' split at q
  all_goals first | omega | (simp at q; done) | (simp only [List.cons.injEq, and_true] at q; simp_all; done) | (simp_all; omega)
theorem own_same_eq (x y : Int64) (h : ¬ (own_same x y = (0 : Int32))) : own_cs x = own_cs y := by
  have rx := own_len_r x
  have ry := own_len_r y
  have e0 : (0 : Int32).toInt = 0 := rfl
  have e1 : (1 : Int32).toInt = 1 := by decide
  have e2 : (2 : Int32).toInt = 2 := by decide
  unfold own_same at h
  unfold own_cs
  simp only [own_n0, own_n1]
  by_cases g : own_len x = own_len y
  · rw [if_pos g] at h
    rw [← g]
    by_cases g1 : own_len x < (1 : Int32)
    · have : own_len x = (0 : Int32) := by rw [← Int32.toInt_inj]; rw [Int32.lt_iff_toInt_lt] at g1; omega
      rw [if_pos this, if_pos this]
    · rw [if_neg g1] at h
      have n0 : ¬ (own_len x = (0 : Int32)) := fun q => g1 (by rw [q]; decide)
      rw [if_neg n0, if_neg n0]
      by_cases c0 : own_c0 x = own_c0 y
      · rw [if_pos c0] at h
        by_cases g2 : own_len x < (2 : Int32)
        · have : own_len x = (1 : Int32) := by rw [← Int32.toInt_inj]; rw [Int32.lt_iff_toInt_lt] at g1 g2; omega
          rw [if_pos this, if_pos this, c0]
        · rw [if_neg g2] at h
          have n1 : ¬ (own_len x = (1 : Int32)) := fun q => g2 (by rw [q]; decide)
          rw [if_neg n1, if_neg n1]
          by_cases c1 : own_c1 x = own_c1 y
          · rw [c0, c1]
          · rw [if_neg c1] at h; exact absurd rfl h
      · rw [if_neg c0] at h; exact absurd rfl h
  · rw [if_neg g] at h; exact absurd rfl h
theorem own_d5 : own_all jdk_42_method_149_code [(0, .aload_n 0, 1), (1, .invokespecial 1, 3), (4, .iload_n 3, 1), (5, .ifCond .ne 22, 3), (8, .aload_n 0, 1), (9, .ldc 7, 2), (11, .getfield 9, 3), (14, .putfield 9, 3), (17, .aload_n 0, 1), (18, .ldc 7, 2), (20, .getfield 15, 3), (23, .putfield 15, 3), (26, .return_, 1)] := by decide +kernel
theorem own_ef5n_20_30 (m : MethodId) (x0 : Addr) (x1 : Addr) : entryFrame m #[(.ref x0), (.ref x1), (.int 0), (.int 0), .null] 6 = mkF m 0 #[ow_r x0, ow_r x1, ow_i 0, ow_i 0, .val .null, .unset] [] := by first | (simp [entryFrame, mkF, argsToLocals, Value.category]; done) | rfl
theorem own_pn5 : plainName "java/lang/String" = true := by first | (simp [plainName, overriddenIn]; done) | decide +kernel
def own_m5_Q (Z : State) (a1 : Addr) (a2 : Addr) (h0 : Heap) (n0 : Nat) (v : Option Value) (h : Heap) (L : List Loc) : Prop := v = none ∧ Fr n0 L ∧ Keep h0 h [a1] ∧ own_Str Z h a1 []
set_option maxRecDepth 65536 in
set_option maxHeartbeats 40000000 in
theorem own_m5 (l : Launch) (Z : State) (a0 : Array Value) (hw : ∀ d ∈ tables_1, d.before a0 Z = true) (ws : List Jvm.Cond) (a1 : Addr) (a2 : Addr) (h0 : Heap) (n0 : Nat) (Z0 : n0 ≤ h0.size) (E_a1 : Exa Z h0 a1 "java/lang/String") (F_value_a1 : Fld Z h0 a1 "java/lang/String" "value" "[B" .null) (F_coder_a1 : Fld Z h0 a1 "java/lang/String" "coder" "B" (.int 0)) (g_a1 : n0 ≤ a1) :
    own_MS l Z own_y5 ws jdk_42_method_149_code 6 none ({ frames := 1, cells := 4, slots := 8, locals := 12 } : Room) #[(.ref a1), (.ref a2), (.int 0), (.int 0), .null] h0 (CHr Z consts_1) (own_m5_Q Z a1 a2 h0 n0) := by
  refine own_goS CHr.refl "java/lang/String" rfl (plainFor_of_name own_pn5) (fun m => own_ef5n_20_30 m a1 a2) own_d5 n0 fun p e s m below meth c s₁ A0 Bd hx D hml hown hnm X0 hZ e0 N0 hh CH0 hS0 hk0 CR0 k => ?_
  have SF0_a1 : Safe Z consts_1 s.vm h0 a1 := own_safe_null hZ.alike E_a1 F_value_a1
  obtain ⟨T21, X21, e21, st21⟩ := initO X0 hx hZ hown (own_h hw 24 rfl) (own_h hw 25 rfl) (own_h hw 26 rfl) e0 (g := (mkF m 1 #[ow_r a1, ow_r a2, ow_i 0, ow_i 0, .val .null, .unset] [(.ref a1)])) rfl (by rw [hml]; rfl) rfl (D 1 rfl) (by decide) (W := 0) own_le (by decide)
  replace k : ow T21 (mkF m 4 #[ow_r a1, ow_r a2, ow_i 0, ow_i 0, .val .null, .unset] []) := fun t q => k t (XS.aloadN X0.here hx rfl (D 0 rfl) rfl rfl (st21 t q))
  clear st21
  replace k : ow T21 (mkF m 8 #[ow_r a1, ow_r a2, ow_i 0, ow_i 0, .val .null, .unset] []) := fun t q => k t (XS.iloadN X21.here hx rfl (D 2 rfl) rfl (XS.ifNo X21.here hx rfl (D 3 rfl) rfl ((if0 _ _).trans (teq (show (0 : Int32) = (0 : Int32) from (by decide))).2) q))
  obtain ⟨a22, T22, h22, k122, bs22, kc22, X22, e22, E22, hS22, hk22, hZ, hown, EX22, FC22, FV22, AV22, la22, lb22, CU22, LT22, SX22, st22⟩ := ldcCH X21 hx hZ hown (own_h hw 27 rfl) (own_wS hw) e21 hS0 hk0 (own_EW hw) (List.mem_of_getElem? (i := 0) rfl) CH0 (vs := []) (z := (0 : Int32)) ⟨by decide, by decide⟩ (by decide) (by decide) (g := (mkF m 9 #[ow_r a1, ow_r a2, ow_i 0, ow_i 0, .val .null, .unset] [(.ref a1)])) rfl (D 5 rfl) (n := 0) (by decide) (by decide) (by decide) (by decide)
  have Z22 : n0 ≤ h22.size := Nat.le_trans Z0 E22.1
  have K22 : Keep h0 h22 [a1] := (Keep.refl h0 [a1]).ext E22
  have CR22 := CR0.trans CU22
  have CH22 := CU22.1
  have SF22_a1 := CU22.safe E_a1.lt SF0_a1
  replace k : ow T22 (mkF m 11 #[ow_r a1, ow_r a2, ow_i 0, ow_i 0, .val .null, .unset] [(.ref a22), (.ref a1)]) := fun t q => k t (XS.aloadN X21.here hx rfl (D 4 rfl) rfl rfl (st22 t q))
  clear st22
  obtain ⟨T23, X23, e23, st23⟩ := getF X22 hx hZ hown (host := "") (Or.inl (own_h hw 33 rfl)) Via.refl e22 FV22 (g := (mkF m 11 #[ow_r a1, ow_r a2, ow_i 0, ow_i 0, .val .null, .unset] [(.ref a22), (.ref a1)])) rfl rfl (D 6 rfl)
  replace k : ow T23 (mkF m 14 #[ow_r a1, ow_r a2, ow_i 0, ow_i 0, .val .null, .unset] [(.ref bs22), (.ref a1)]) := fun t q => k t (st23 t q)
  clear st23
  obtain ⟨T24, h24, X24, e24, W24, st24⟩ := putF X23 hx hZ hown (host := "") (Or.inl (own_h hw 33 rfl)) Via.refl e23 (F_value_a1.ext E22) (E_a1.ext E22) (Or.inr ⟨(own_h hw 29 rfl), rfl, hnm⟩) (own_h hw 14 rfl) (ty := (.array .byte)) (by decide) rfl rfl (g := (mkF m 14 #[ow_r a1, ow_r a2, ow_i 0, ow_i 0, .val .null, .unset] [(.ref bs22), (.ref a1)])) rfl rfl (D 7 rfl)
  have Fw24 := (F_value_a1.ext E22).same W24
  have K24 : Keep h0 h24 [a1] := K22.wr W24 (Or.inl (List.mem_of_getElem? (i := 0) rfl))
  have N24 := Fr.snoc X24 N0 g_a1
  have Z24 : n0 ≤ h24.size := Nat.le_trans Z22 (Keep.of_wr W24).1
  have CU24 := CHr.wr W24 SF22_a1 CH22
  have CR24 := CR22.trans CU24
  have CH24 := CU24.1
  have hk24 := Nat.le_trans hk22 (Keep.of_wr W24).1
  have SF24_a1 := Safe.wr W24 SF22_a1 CH22 SF22_a1
  replace k : ow T24 (mkF m 17 #[ow_r a1, ow_r a2, ow_i 0, ow_i 0, .val .null, .unset] []) := fun t q => k t (st24 t q)
  clear st24
  obtain ⟨a25, T25, h25, k125, bs25, kc25, X25, e25, E25, hS25, hk25, hZ, hown, EX25, FC25, FV25, AV25, la25, lb25, CU25, LT25, SX25, st25⟩ := ldcCH X24 hx hZ hown (own_h hw 27 rfl) (own_wS hw) e24 hS22 hk24 (own_EW hw) (List.mem_of_getElem? (i := 0) rfl) CH24 (vs := []) (z := (0 : Int32)) ⟨by decide, by decide⟩ (by decide) (by decide) (g := (mkF m 18 #[ow_r a1, ow_r a2, ow_i 0, ow_i 0, .val .null, .unset] [(.ref a1)])) rfl (D 9 rfl) (n := 0) (by decide) (by decide) (by decide) (by decide)
  have Z25 : n0 ≤ h25.size := Nat.le_trans Z24 E25.1
  have K25 : Keep h0 h25 [a1] := K24.ext E25
  have CR25 := CR24.trans CU25
  have CH25 := CU25.1
  have SF25_a1 := CU25.safe ((E_a1.ext E22).wr W24).lt SF24_a1
  replace k : ow T25 (mkF m 20 #[ow_r a1, ow_r a2, ow_i 0, ow_i 0, .val .null, .unset] [(.ref a25), (.ref a1)]) := fun t q => k t (XS.aloadN X24.here hx rfl (D 8 rfl) rfl rfl (st25 t q))
  clear st25
  obtain ⟨T26, X26, e26, st26⟩ := getF X25 hx hZ hown (host := "") (Or.inl (own_h hw 34 rfl)) Via.refl e25 FC25 (g := (mkF m 20 #[ow_r a1, ow_r a2, ow_i 0, ow_i 0, .val .null, .unset] [(.ref a25), (.ref a1)])) rfl rfl (D 10 rfl)
  replace k : ow T26 (mkF m 23 #[ow_r a1, ow_r a2, ow_i 0, ow_i 0, .val .null, .unset] [(.int 0), (.ref a1)]) := fun t q => k t (st26 t q)
  clear st26
  obtain ⟨T27, h27, X27, e27, W27, st27⟩ := putFN X26 hx hZ hown (own_h hw 34 rfl) Via.refl e26 (((F_coder_a1.ext E22).other W24 (Or.inr (slot_ne (Or.inr (own_h hw 30 rfl)) (Or.inr (own_h hw 29 rfl)) (by decide) (t := .byte) (t' := (.array .byte)) (by decide) (by decide)))).ext E25) (((E_a1.ext E22).wr W24).ext E25) (Or.inr ⟨(own_h hw 30 rfl), rfl, hnm⟩) (own_h hw 14 rfl) (ty := .byte) (v' := (.int 0)) (by decide) rfl (by decide) (g := (mkF m 23 #[ow_r a1, ow_r a2, ow_i 0, ow_i 0, .val .null, .unset] [(.int 0), (.ref a1)])) rfl rfl (D 11 rfl)
  have Fw27 := (((F_coder_a1.ext E22).other W24 (Or.inr (slot_ne (Or.inr (own_h hw 30 rfl)) (Or.inr (own_h hw 29 rfl)) (by decide) (t := .byte) (t' := (.array .byte)) (by decide) (by decide)))).ext E25).same W27
  have K27 : Keep h0 h27 [a1] := K25.wr W27 (Or.inl (List.mem_of_getElem? (i := 0) rfl))
  have N27 := Fr.snoc X27 N24 g_a1
  have Z27 : n0 ≤ h27.size := Nat.le_trans Z25 (Keep.of_wr W27).1
  have CU27 := CHr.wr W27 SF25_a1 CH25
  have CR27 := CR25.trans CU27
  have CH27 := CU27.1
  have hk27 := Nat.le_trans hk25 (Keep.of_wr W27).1
  have SF27_a1 := Safe.wr W27 SF25_a1 CH25 SF25_a1
  replace k : ow T27 (mkF m 26 #[ow_r a1, ow_r a2, ow_i 0, ow_i 0, .val .null, .unset] []) := fun t q => k t (st27 t q)
  clear st27
  exact own_endS (v := none) X27 e27 hS25 hk27 hh Bd.notSynchronized (fun _ => rfl) k (fun _ hr => X27.returnOut hx Bd.returns (D 12 rfl) hr) ⟨rfl, N27, K27, ⟨bs22, kc22, _, _, ((((E_a1.ext E22).wr W24).ext E25).wr W27), ((Fw24.ext E25).other W27 (Or.inr (slot_ne (Or.inr (own_h hw 29 rfl)) (Or.inr (own_h hw 30 rfl)) (by decide) (t := (.array .byte)) (t' := .byte) (by decide) (by decide)))), Fw27, (((AV22.other W24 (Ne.symm (SX22 _ SF22_a1).2)).ext E25).other W27 (Ne.symm (SX22 _ SF22_a1).2)), Or.inl ⟨rfl, rfl, rfl, fun c hc => nomatch hc⟩, (fun c hc => nomatch hc), by decide⟩⟩ (CR27.trans (CHv.at X27 hZ (own_EW hw) CH27)) (by decide) (by decide)
theorem own_d4 : own_all jdk_42_method_3_code [(0, .aload_n 0, 1), (1, .aload_n 1, 1), (2, .iconst 0, 1), (3, .aload_n 1, 1), (4, .arraylength, 1), (5, .aconst_null, 1), (6, .invokespecial 27, 3), (9, .return_, 1)] := by decide +kernel
theorem own_pd3 : parseMethodDescriptor "([CIILjava/lang/Void;)V" = some ⟨[(.array .char), .int, .int, (.object "java/lang/Void")], none⟩ := by decide +kernel
theorem own_ef4 (m : MethodId) (x0 : Addr) (x1 : Addr) : entryFrame m #[(.ref x0), (.ref x1)] 2 = mkF m 0 #[ow_r x0, ow_r x1] [] := by first | (simp [entryFrame, mkF, argsToLocals, Value.category]; done) | rfl
theorem own_pn4 : plainName "java/lang/String" = true := by first | (simp [plainName, overriddenIn]; done) | decide +kernel
def own_m4_Q (Z : State) (a1 : Addr) (a2 : Addr) (kc_a2 : ClassId) (h0 : Heap) (n0 : Nat) (v : Option Value) (h : Heap) (L : List Loc) : Prop := v = none ∧ Fr n0 L ∧ Keep h0 h [a1] ∧ own_Str Z h a1 []
set_option maxRecDepth 65536 in
set_option maxHeartbeats 40000000 in
theorem own_m4 (l : Launch) (Z : State) (a0 : Array Value) (hw : ∀ d ∈ tables_1, d.before a0 Z = true) (ws : List Jvm.Cond) (a1 : Addr) (a2 : Addr) (kc_a2 : ClassId) (h0 : Heap) (n0 : Nat) (Z0 : n0 ≤ h0.size) (V_a2 : Arv Z h0 a2 kc_a2 .char (0 : Int32) [] (.int 0)) (E_a1 : Exa Z h0 a1 "java/lang/String") (F_value_a1 : Fld Z h0 a1 "java/lang/String" "value" "[B" .null) (F_coder_a1 : Fld Z h0 a1 "java/lang/String" "coder" "B" (.int 0)) (g_a1 : n0 ≤ a1) :
    own_MS l Z own_y4 ws jdk_42_method_3_code 2 none ({ frames := 2, cells := 4, slots := 8, locals := 29 } : Room) #[(.ref a1), (.ref a2)] h0 (CHr Z consts_1) (own_m4_Q Z a1 a2 kc_a2 h0 n0) := by
  refine own_goS CHr.refl "java/lang/String" rfl (plainFor_of_name own_pn4) (fun m => own_ef4 m a1 a2) own_d4 n0 fun p e s m below meth c s₁ A0 Bd hx D hml hown hnm X0 hZ e0 N0 hh CH0 hS0 hk0 CR0 k => ?_
  replace k : ow s₁ (mkF m 3 #[ow_r a1, ow_r a2] [(.int 0), (.ref a2), (.ref a1)]) := fun t q => k t (XS.aloadN X0.here hx rfl (D 0 rfl) rfl rfl (XS.aloadN X0.here hx rfl (D 1 rfl) rfl rfl (XS.iconst X0.here hx rfl (D 2 rfl) q)))
  obtain ⟨cl21, Ar21, qa21, Sa21, Na21, Ha21, Ga21⟩ := id V_a2
  replace k : ow s₁ (mkF m 5 #[ow_r a1, ow_r a2] [(.int 0), (.int 0), (.ref a2), (.ref a1)]) := fun t q => k t (XS.aloadN X0.here hx rfl (D 3 rfl) rfl rfl (X0.arraylength hx (by rw [e0]; exact Ar21.1) (State.isArrayOf_alike hZ.alike Ar21.2.1) (g := (mkF m 4 #[ow_r a1, ow_r a2] [(.ref a2), (.int 0), (.ref a2), (.ref a1)])) rfl rfl (D 4 rfl) _ (by rw [len_of Sa21 Na21]; exact q)))
  obtain ⟨_, _, ⟨T22, L22, k22, n22⟩, -, X22, hSq22, gr22, ⟨Lc22, hQ22, l22, y22, z22, CU22⟩, st22⟩ := Jvm.Stand.specialBackS X0 hx (y := own_y5) rfl hown (mvT hZ (own_h hw 20 rfl)) (mvT hZ (own_h hw 21 rfl)) (mvT hZ (own_h hw 23 rfl)) (by decide) (backOfSH (W := 0) (own_m5 l Z a0 hw [] a1 a2 h0 n0 Z0 E_a1 F_value_a1 F_coder_a1 g_a1) hZ (own_h hw 23 rfl) (own_h hw 15 rfl) (by decide) (by decide) (own_EW hw) CH0) (g := (mkF m 6 #[ow_r a1, ow_r a2] [.null, (.int 0), (.int 0), (.ref a2), (.ref a1)])) rfl (by rw [hml]; rfl) (Steps.refl _) (a := a1) (argsL := [(.ref a2), (.int 0), (.int 0), .null]) (rest := []) (lenOf own_pd3 rfl) rfl own_le (D 6 rfl) (fun _ _ => ⟨rfl, e0, (by decide : 0 + 4 ≤ _), (by decide : 0 + 8 ≤ _)⟩)
  dsimp only [Pt.U, Pt.locs, Pt.cells, Pt.slots] at X22 l22 y22 z22 st22 hQ22 hSq22 gr22 CU22
  subst l22 y22 z22
  obtain ⟨X22, hS22, hZ, hown⟩ := rebS hS0 (by rw [e0]; exact hk0) X22 hSq22 gr22 hZ hown
  obtain ⟨h22, e22⟩ : ∃ z, T22.heap = z := ⟨_, rfl⟩
  rw [e22] at hQ22 CU22 hS22
  have hk22 : h22.size ≤ h22.size := Nat.le_refl _
  have CR22 := CR0.trans CU22
  have CH22 := CU22.1
  obtain ⟨rfl, N22q, KC22, TX22⟩ := hQ22
  have KK22 : Keep h0 h22 [a1] := (Keep.refl h0 [a1]).trans KC22 (allS (Or.inl (List.mem_of_getElem? (i := 0) rfl)) all0)
  have Z22 : n0 ≤ h22.size := Nat.le_trans Z0 KC22.1
  have EC22 := TX22.exa
  have N22 := Fr.app N0 N22q
  replace k : ow T22 (mkF m 9 #[ow_r a1, ow_r a2] []) := fun t q => k t (XS.aconstNull X0.here hx rfl (D 5 rfl) (st22.trans q))
  clear st22
  exact own_endS (v := none) X22 e22 hS22 hk22 hh Bd.notSynchronized (fun _ => rfl) k (fun _ hr => X22.returnOut hx Bd.returns (D 7 rfl) hr) ⟨rfl, N22, KK22, TX22⟩ (CR22.trans (CHv.at X22 hZ (own_EW hw) CH22)) (by decide) (by decide)
theorem own_d1 : own_all method_5_code [(0, .lload_n 0, 1), (1, .invokestatic 17, 3), (4, .istore_n 2, 1), (5, .iload_n 2, 1), (6, .ifCond .ne 14, 3), (9, .new 23, 3), (12, .dup, 1), (13, .iconst 0, 1), (14, .newarray .char, 2), (16, .invokespecial 25, 3), (19, .areturn, 1), (20, .iload_n 2, 1), (21, .iconst 1, 1), (22, .if_icmp .ne 23, 3), (25, .iconst 1, 1), (26, .newarray .char, 2), (28, .astore_n 3, 1), (29, .aload_n 3, 1), (30, .iconst 0, 1), (31, .lload_n 0, 1), (32, .invokestatic 28, 3), (35, .castore, 1), (36, .new 23, 3), (39, .dup, 1), (40, .aload_n 3, 1), (41, .invokespecial 25, 3), (44, .areturn, 1), (45, .iconst 2, 1), (46, .newarray .char, 2), (48, .astore_n 3, 1), (49, .aload_n 3, 1), (50, .iconst 0, 1), (51, .lload_n 0, 1), (52, .invokestatic 28, 3), (55, .castore, 1), (56, .aload_n 3, 1), (57, .iconst 1, 1), (58, .lload_n 0, 1), (59, .invokestatic 32, 3), (62, .castore, 1), (63, .new 23, 3), (66, .dup, 1), (67, .aload_n 3, 1), (68, .invokespecial 25, 3), (71, .areturn, 1)] := by decide +kernel
theorem own_pd4 : parseMethodDescriptor "([C)V" = some ⟨[(.array .char)], none⟩ := by decide +kernel
theorem own_ef1 (m : MethodId) (x0 : Int64) : entryFrame m #[(.long x0)] 4 = mkF m 0 #[.val (.long x0), .second, .unset, .unset] [] := by first | (simp [entryFrame, mkF, argsToLocals, Value.category]; done) | rfl
theorem own_pn1 : plainName "com/example/callsite/callsite/bytecode/ClassReadEqualsPinLaw" = true := by first | (simp [plainName, overriddenIn]; done) | decide +kernel
def own_m1_Q (Z : State) (q1 : Int64) (w_COMPACT_STRINGS : Int32) (h0 : Heap) (n0 : Nat) (v : Option Value) (h : Heap) (L : List Loc) : Prop := ∃ a : Addr, v = some (.ref a) ∧ Fr n0 L ∧ Keep h0 h [] ∧ own_Str Z h a (own_cs q1)
set_option maxRecDepth 65536 in
set_option maxHeartbeats 40000000 in
theorem own_m1 (l : Launch) (Z : State) (a0 : Array Value) (hw : ∀ d ∈ tables_1, d.before a0 Z = true) (ws : List Jvm.Cond) (q1 : Int64) (w_COMPACT_STRINGS : Int32) (h0 : Heap) (n0 : Nat) (Z0 : n0 ≤ h0.size) (S_COMPACT_STRINGS : Sta Z h0 "java/lang/String" "COMPACT_STRINGS" "Z" (.int w_COMPACT_STRINGS)) (hz : ¬ (w_COMPACT_STRINGS = (0 : Int32))) :
    own_MS l Z own_y1 ws method_5_code 4 (some (.object "java/lang/String")) ({ frames := 4, cells := 6, slots := 12, locals := 66 } : Room) #[(.long q1)] h0 (CHr Z consts_1) (own_m1_Q Z q1 w_COMPACT_STRINGS h0 n0) := by
  refine own_goS CHr.refl "com/example/callsite/callsite/bytecode/ClassReadEqualsPinLaw" rfl (plainFor_of_name own_pn1) (fun m => own_ef1 m q1) own_d1 n0 fun p e s m below meth c s₁ A0 Bd hx D hml hown hnm X0 hZ e0 N0 hh CH0 hS0 hk0 CR0 k => ?_
  obtain ⟨_, _, ⟨T21, L21, k21, n21⟩, -, X21, ⟨Lc21, hQ21, l21, y21, z21⟩, st21⟩ := Jvm.LawKit.callS X0 hx (y := own_y2) hown (mvT hZ (own_h hw 5 rfl)) (mvT hZ (own_h hw 6 rfl)) (mvT hZ (own_h hw 3 rfl)) (mvT hZ (own_h hw 7 rfl)) (by decide) (backOf (W := 0) (own_m2 l Z a0 hw [] q1 h0 n0 Z0 ) hZ (own_h hw 7 rfl) (own_h hw 3 rfl) (by decide) (by decide)) (g := (mkF m 1 #[.val (.long q1), .second, .unset, .unset] [(.long q1)])) rfl (by rw [hml]; rfl) (argsL := [(.long q1)]) (rest := []) (lenOf own_pd1 rfl) rfl own_le (D 1 rfl) (fun _ _ => ⟨rfl, e0, (by decide : 0 + 0 ≤ _), (by decide : 0 + 0 ≤ _)⟩)
  dsimp only [Pt.U, Pt.locs, Pt.cells, Pt.slots] at X21 l21 y21 z21 st21 hQ21
  subst l21 y21 z21
  obtain ⟨rfl, N21q, e21⟩ := hQ21
  have N21 := Fr.app N0 N21q
  replace k : ow T21 (mkF m 4 #[.val (.long q1), .second, .unset, .unset] [(.int (own_len q1))]) := fun t q => k t (XS.lloadN X0.here hx rfl (D 0 rfl) rfl (st21 t q))
  clear st21
  by_cases hc22 : (own_len q1) = (0 : Int32)
  · replace k : ow T21 (mkF m 9 #[.val (.long q1), .second, ow_i (own_len q1), .unset] []) := fun t q => k t (XS.istoreN X21.here hx rfl (D 2 rfl) rfl (l' := #[.val (.long q1), .second, ow_i (own_len q1), .unset]) rfl (XS.iloadN X21.here hx rfl (D 3 rfl) rfl (XS.ifNo X21.here hx rfl (D 4 rfl) rfl ((if0 _ _).trans (teq (show (own_len q1) = (0 : Int32) from hc22)).2) q)))
    obtain ⟨T23, h23, X23, e23, E23, A23, D23, -, st23⟩ := newO X21 hx hZ hown (own_h hw 13 rfl) (own_h hw 14 rfl) (own_h hw 15 rfl) e21 (g := (mkF m 9 #[.val (.long q1), .second, ow_i (own_len q1), .unset] [])) rfl (D 5 rfl) (by decide) (by decide)
    obtain ⟨b23, g23⟩ : ∃ z, z = h0.size := ⟨_, rfl⟩
    rw [← g23] at A23 D23 st23
    have ge_b23 : n0 ≤ b23 := Nat.le_trans Z0 (Nat.le_of_eq g23.symm)
    have sz_b23 : h0.size ≤ b23 := Nat.le_trans (Keep.refl h0 []).1 (Nat.le_of_eq g23.symm)
    have Z23 : n0 ≤ h23.size := Nat.le_trans Z0 E23.1
    have K23 : Keep h0 h23 [] := (Keep.refl h0 []).ext E23
    have CU23 := CHr.ext E23 CH0
    have CR23 := CR0.trans CU23
    have CH23 := CU23.1
    have hk23 := Nat.le_trans hk0 E23.1
    have F_value_b23 : Fld Z h23 b23 "java/lang/String" "value" "[B" .null := D23 (Or.inr (own_h hw 29 rfl)) (ty := (.array .byte)) (by decide)
    have F_coder_b23 : Fld Z h23 b23 "java/lang/String" "coder" "B" (.int 0) := D23 (Or.inr (own_h hw 30 rfl)) (ty := .byte) (by decide)
    replace k : ow T23 (mkF m 12 #[.val (.long q1), .second, ow_i (own_len q1), .unset] [(.ref b23)]) := fun t q => k t (st23 t q)
    clear st23
    obtain ⟨T24, h24, kc24, X24, e24, E24, A24, st24⟩ := newP X23 hx hZ (own_h hw 16 rfl) e23 (g := (mkF m 14 #[.val (.long q1), .second, ow_i (own_len q1), .unset] [(.int 0), (.ref b23), (.ref b23)])) rfl (D 8 rfl) rfl (by decide) (cap := 0) (by decide) (by decide) (by decide) (by decide)
    obtain ⟨b24, g24⟩ : ∃ z, z = h23.size := ⟨_, rfl⟩
    rw [← g24] at A24 st24
    have ge_b24 : n0 ≤ b24 := Nat.le_trans Z23 (Nat.le_of_eq g24.symm)
    have sz_b24 : h0.size ≤ b24 := Nat.le_trans K23.1 (Nat.le_of_eq g24.symm)
    have Z24 : n0 ≤ h24.size := Nat.le_trans Z23 E24.1
    have K24 : Keep h0 h24 [] := K23.ext E24
    have CU24 := CHr.ext E24 CH23
    have CR24 := CR23.trans CU24
    have CH24 := CU24.1
    have hk24 := Nat.le_trans hk23 E24.1
    have V_b24 : Arv Z h24 b24 kc24 .char (0 : Int32) [] (.int 0) := (Arv.new A24 (by decide)).pad (pad_rep [] (.int 0) 0)
    replace k : ow T24 (mkF m 16 #[.val (.long q1), .second, ow_i (own_len q1), .unset] [(.ref b24), (.ref b23), (.ref b23)]) := fun t q => k t (XS.dup X23.here hx rfl (D 6 rfl) rfl rfl (XS.iconst X23.here hx rfl (D 7 rfl) (st24 t q)))
    clear st24
    obtain ⟨_, _, ⟨T25, L25, k25, n25⟩, -, X25, hSq25, gr25, ⟨Lc25, hQ25, l25, y25, z25, CU25⟩, st25⟩ := Jvm.Stand.specialBackS X24 hx (y := own_y4) rfl hown (mvT hZ (own_h hw 17 rfl)) (mvT hZ (own_h hw 18 rfl)) (mvT hZ (own_h hw 19 rfl)) (by decide) (backOfSH (W := 1) (own_m4 l Z a0 hw [] b23 b24 kc24 h24 n0 Z24 V_b24 (A23.ext E24) (F_value_b23.ext E24) (F_coder_b23.ext E24) ge_b23) hZ (own_h hw 19 rfl) (own_h hw 15 rfl) (by decide) (by decide) (own_EW hw) CH24) (g := (mkF m 16 #[.val (.long q1), .second, ow_i (own_len q1), .unset] [(.ref b24), (.ref b23), (.ref b23)])) rfl (by rw [hml]; rfl) (Steps.refl _) (a := b23) (argsL := [(.ref b24)]) (rest := [(.ref b23)]) (lenOf own_pd4 rfl) rfl own_le (D 9 rfl) (fun _ _ => ⟨rfl, e24, (by decide : 2 + 4 ≤ _), (by decide : 4 + 8 ≤ _)⟩)
    dsimp only [Pt.U, Pt.locs, Pt.cells, Pt.slots] at X25 l25 y25 z25 st25 hQ25 hSq25 gr25 CU25
    subst l25 y25 z25
    obtain ⟨X25, hS25, hZ, hown⟩ := rebS hS0 (by rw [e24]; exact hk24) X25 hSq25 gr25 hZ hown
    obtain ⟨h25, e25⟩ : ∃ z, T25.heap = z := ⟨_, rfl⟩
    rw [e25] at hQ25 CU25 hS25
    have hk25 : h25.size ≤ h25.size := Nat.le_refl _
    have CR25 := CR24.trans CU25
    have CH25 := CU25.1
    obtain ⟨rfl, N25q, KC25, TX25⟩ := hQ25
    have KK25 : Keep h0 h25 [] := K24.trans KC25 (allS (Or.inr sz_b23) all0)
    have Z25 : n0 ≤ h25.size := Nat.le_trans Z24 KC25.1
    have EC25 := TX25.exa
    have N25 := Fr.app N21 N25q
    replace k : ow T25 (mkF m 19 #[.val (.long q1), .second, ow_i (own_len q1), .unset] [(.ref b23)]) := fun t q => k t (st25.trans q)
    clear st25
    exact own_endS (v := some (.ref b23)) X25 e25 hS25 hk25 hh Bd.notSynchronized (own_vn Bd.returns) k (fun _ hr => own_retA X25 hx Bd.returns rfl (D 10 rfl) hr) ⟨b23, rfl, N25, KK25, by rw [show own_cs q1 = [] from by unfold own_cs; rw [if_pos hc22]]; exact TX25⟩ (CR25.trans (CHv.at X25 hZ (own_EW hw) CH25)) (by decide) (by decide)
  · replace k : ow T21 (mkF m 20 #[.val (.long q1), .second, ow_i (own_len q1), .unset] []) := fun t q => k t (XS.istoreN X21.here hx rfl (D 2 rfl) rfl (l' := #[.val (.long q1), .second, ow_i (own_len q1), .unset]) rfl (XS.iloadN X21.here hx rfl (D 3 rfl) rfl (XS.ifYes X21.here hx rfl (pc0 := 6) (pc' := 20) rfl (D 4 rfl) rfl ((if0 _ _).trans (feq (show ¬ ((own_len q1) = (0 : Int32)) from hc22)).2) (by decide) (by decide) q)))
    by_cases hc26 : (own_len q1) = (1 : Int32)
    · replace k : ow T21 (mkF m 25 #[.val (.long q1), .second, ow_i (own_len q1), .unset] []) := fun t q => k t (XS.iloadN X21.here hx rfl (D 11 rfl) rfl (XS.iconst X21.here hx rfl (D 12 rfl) (XS.icmpNo X21.here hx rfl (D 13 rfl) rfl (teq (show (own_len q1) = (1 : Int32) from hc26)).2 q)))
      obtain ⟨T27, h27, kc27, X27, e27, E27, A27, st27⟩ := newP X21 hx hZ (own_h hw 16 rfl) e21 (g := (mkF m 26 #[.val (.long q1), .second, ow_i (own_len q1), .unset] [(.int 1)])) rfl (D 15 rfl) rfl (by decide) (cap := 1) (by decide) (by decide) (by decide) (by decide)
      obtain ⟨b27, g27⟩ : ∃ z, z = h0.size := ⟨_, rfl⟩
      rw [← g27] at A27 st27
      have ge_b27 : n0 ≤ b27 := Nat.le_trans Z0 (Nat.le_of_eq g27.symm)
      have sz_b27 : h0.size ≤ b27 := Nat.le_trans (Keep.refl h0 []).1 (Nat.le_of_eq g27.symm)
      have Z27 : n0 ≤ h27.size := Nat.le_trans Z0 E27.1
      have K27 : Keep h0 h27 [] := (Keep.refl h0 []).ext E27
      have CU27 := CHr.ext E27 CH0
      have CR27 := CR0.trans CU27
      have CH27 := CU27.1
      have hk27 := Nat.le_trans hk0 E27.1
      have V_b27 : Arv Z h27 b27 kc27 .char (1 : Int32) [(.int 0)] (.int 0) := (Arv.new A27 (by decide)).pad (pad_rep [] (.int 0) 1)
      replace k : ow T27 (mkF m 28 #[.val (.long q1), .second, ow_i (own_len q1), .unset] [(.ref b27)]) := fun t q => k t (XS.iconst X21.here hx rfl (D 14 rfl) (st27 t q))
      clear st27
      replace k : ow T27 (mkF m 31 #[.val (.long q1), .second, ow_i (own_len q1), ow_r b27] [(.int 0), (.ref b27)]) := fun t q => k t (XS.astoreN X27.here hx rfl (D 16 rfl) rfl rfl (l' := #[.val (.long q1), .second, ow_i (own_len q1), ow_r b27]) rfl (XS.aloadN X27.here hx rfl (D 17 rfl) rfl rfl (XS.iconst X27.here hx rfl (D 18 rfl) q)))
      obtain ⟨_, _, ⟨T28, L28, k28, n28⟩, -, X28, ⟨Lc28, hQ28, l28, y28, z28⟩, st28⟩ := Jvm.LawKit.callS X27 hx (y := own_y15) hown (mvT hZ (own_h hw 92 rfl)) (mvT hZ (own_h hw 93 rfl)) (mvT hZ (own_h hw 3 rfl)) (mvT hZ (own_h hw 94 rfl)) (by decide) (backOf (W := 2) (own_m15 l Z a0 hw [] q1 h27 n0 Z27 ) hZ (own_h hw 94 rfl) (own_h hw 3 rfl) (by decide) (by decide)) (g := (mkF m 32 #[.val (.long q1), .second, ow_i (own_len q1), ow_r b27] [(.long q1), (.int 0), (.ref b27)])) rfl (by rw [hml]; rfl) (argsL := [(.long q1)]) (rest := [(.int 0), (.ref b27)]) (lenOf own_pd2 rfl) rfl own_le (D 20 rfl) (fun _ _ => ⟨rfl, e27, (by decide : 1 + 0 ≤ _), (by decide : 1 + 0 ≤ _)⟩)
      dsimp only [Pt.U, Pt.locs, Pt.cells, Pt.slots] at X28 l28 y28 z28 st28 hQ28
      subst l28 y28 z28
      obtain ⟨rfl, N28q, e28⟩ := hQ28
      have N28 := Fr.app N21 N28q
      replace k : ow T28 (mkF m 35 #[.val (.long q1), .second, ow_i (own_len q1), ow_r b27] [(.int (own_c0 q1)), (.int 0), (.ref b27)]) := fun t q => k t (XS.lloadN X27.here hx rfl (D 19 rfl) rfl (st28 t q))
      clear st28
      obtain ⟨cl29, Ar29, qa29, Sa29, Na29, Ha29, Ga29⟩ := id V_b27
      obtain ⟨T29, h29, X29, e29, W29, st29⟩ := stC X28 hx hZ e28 Ar29 (j := (0 : Int32)) (own_inb Sa29 (show (0 : Int32) = Nat.toInt32 0 from by decide) (show 0 < ((1 : Int32)).toNatClampNeg from by decide)) (g := (mkF m 35 #[.val (.long q1), .second, ow_i (own_len q1), ow_r b27] [(.int (own_c0 q1)), (.int 0), (.ref b27)])) rfl rfl (D 21 rfl)
      have V29 : Arv Z h29 b27 kc27 .char (1 : Int32) [(.int (ow_c (own_c0 q1)))] (.int 0) := Arv.set Ar29 qa29 Sa29 Na29 Ha29 Ga29 (fits_nar_char _) W29 0 (own_idx (show (0 : Int32) = Nat.toInt32 0 from by decide) (by omega)) (Nat.le_of_ble_eq_true rfl)
      have K29 : Keep h0 h29 [] := K27.wr W29 (Or.inr sz_b27)
      have N29 := Fr.snoc X29 N28 ge_b27
      have Z29 : n0 ≤ h29.size := Nat.le_trans Z27 (Keep.of_wr W29).1
      have CU29 := CHr.wr W29 (Safe.arv hZ.alike V_b27 (by decide)) CH27
      have CR29 := CR27.trans CU29
      have CH29 := CU29.1
      have hk29 := Nat.le_trans hk27 (Keep.of_wr W29).1
      replace k : ow T29 (mkF m 36 #[.val (.long q1), .second, ow_i (own_len q1), ow_r b27] []) := fun t q => k t (st29 t q)
      clear st29
      obtain ⟨T30, h30, X30, e30, E30, A30, D30, -, st30⟩ := newO X29 hx hZ hown (own_h hw 13 rfl) (own_h hw 14 rfl) (own_h hw 15 rfl) e29 (g := (mkF m 36 #[.val (.long q1), .second, ow_i (own_len q1), ow_r b27] [])) rfl (D 22 rfl) (by decide) (by decide)
      obtain ⟨b30, g30⟩ : ∃ z, z = h29.size := ⟨_, rfl⟩
      rw [← g30] at A30 D30 st30
      have ge_b30 : n0 ≤ b30 := Nat.le_trans Z29 (Nat.le_of_eq g30.symm)
      have sz_b30 : h0.size ≤ b30 := Nat.le_trans K29.1 (Nat.le_of_eq g30.symm)
      have Z30 : n0 ≤ h30.size := Nat.le_trans Z29 E30.1
      have K30 : Keep h0 h30 [] := K29.ext E30
      have CU30 := CHr.ext E30 CH29
      have CR30 := CR29.trans CU30
      have CH30 := CU30.1
      have hk30 := Nat.le_trans hk29 E30.1
      have F_value_b30 : Fld Z h30 b30 "java/lang/String" "value" "[B" .null := D30 (Or.inr (own_h hw 29 rfl)) (ty := (.array .byte)) (by decide)
      have F_coder_b30 : Fld Z h30 b30 "java/lang/String" "coder" "B" (.int 0) := D30 (Or.inr (own_h hw 30 rfl)) (ty := .byte) (by decide)
      replace k : ow T30 (mkF m 39 #[.val (.long q1), .second, ow_i (own_len q1), ow_r b27] [(.ref b30)]) := fun t q => k t (st30 t q)
      clear st30
      have hp31 : ∀ c ∈ ([(ow_c (own_c0 q1))] : List Int32), ¬ c < 0 ∧ ¬ (255 : Int32) < c := (List.forall_mem_cons.mpr ⟨own_r0 _, (fun c hc => nomatch hc)⟩)
      obtain ⟨_, _, ⟨T31, L31, k31, n31⟩, -, X31, ⟨Lc31, hQ31, l31, y31, z31⟩, st31⟩ := X30.specialBack hx (y := own_y4) rfl hown (mvT hZ (own_h hw 17 rfl)) (mvT hZ (own_h hw 18 rfl)) (mvT hZ (own_h hw 19 rfl)) (by decide) (StrChars.Road.backV (W := 1) hZ (own_wNew hw) (kI := 4) (own_h hw 14 rfl) (cs := ([(ow_c (own_c0 q1))] : List Int32)) (bs := ([(ow_c (own_c0 q1))] : List Int32).map (fun c => c.toInt8.toInt32)) (n := 1) ge_b30 Z30 A30 F_value_b30 F_coder_b30 (V29.ext E30) (((S_COMPACT_STRINGS.ext E27).wr W29).ext E30) hz rfl rfl (by decide) (by decide) hp31 rfl (by decide) (by decide)) (g := (mkF m 41 #[.val (.long q1), .second, ow_i (own_len q1), ow_r b27] [(.ref b27), (.ref b30), (.ref b30)])) rfl (by rw [hml]; rfl) (Steps.refl _) (a := b30) (argsL := [(.ref b27)]) (rest := [(.ref b30)]) (lenOf own_pd4 rfl) rfl own_le (D 25 rfl) (fun _ _ => ⟨rfl, e30, (by decide : 2 + 1 ≤ _), (by decide : 5 + 1 ≤ _)⟩)
      dsimp only [Pt.U, Pt.locs, Pt.cells, Pt.slots] at X31 l31 y31 z31 st31 hQ31
      subst l31 y31 z31
      obtain ⟨h31, e31⟩ : ∃ z, T31.heap = z := ⟨_, rfl⟩
      rw [e31] at hQ31
      obtain ⟨rfl, N31q, KC31, EC31, FC31, tt31, kt31, -, -, -, FV31, AV31⟩ := hQ31
      have KK31 : Keep h0 h31 [] := K30.trans KC31 (allS (Or.inr sz_b30) all0)
      have Z31 : n0 ≤ h31.size := Nat.le_trans Z30 KC31.1
      have CU31 := CHr.keep KC31 (sfS (own_safe_null hZ.alike A30 F_value_b30) sf0) CH30
      have CR31 := CR30.trans CU31
      have CH31 := CU31.1
      have hk31 := Nat.le_trans hk30 KC31.1
      have TX31 : own_Str Z h31 b30 ([(ow_c (own_c0 q1))] : List Int32) := own_mkStr EC31 FV31 FC31 AV31 rfl hp31 (by decide)
      have N31 := Fr.app N29 N31q
      replace k : ow T31 (mkF m 44 #[.val (.long q1), .second, ow_i (own_len q1), ow_r b27] [(.ref b30)]) := fun t q => k t (XS.dup X30.here hx rfl (D 23 rfl) rfl rfl (XS.aloadN X30.here hx rfl (D 24 rfl) rfl rfl (st31.trans q)))
      clear st31
      exact own_endS (v := some (.ref b30)) X31 e31 hS0 hk31 hh Bd.notSynchronized (own_vn Bd.returns) k (fun _ hr => own_retA X31 hx Bd.returns rfl (D 26 rfl) hr) ⟨b30, rfl, N31, KK31, by rw [show own_cs q1 = ([(ow_c (own_c0 q1))] : List Int32) from by unfold own_cs; rw [if_neg hc22, if_pos hc26]]; exact TX31⟩ (CR31.trans (CHv.at X31 hZ (own_EW hw) CH31)) (by decide) (by decide)
    · replace k : ow T21 (mkF m 45 #[.val (.long q1), .second, ow_i (own_len q1), .unset] []) := fun t q => k t (XS.iloadN X21.here hx rfl (D 11 rfl) rfl (XS.iconst X21.here hx rfl (D 12 rfl) (XS.icmpYes X21.here hx rfl (pc0 := 22) (pc' := 45) rfl (D 13 rfl) rfl (feq (show ¬ ((own_len q1) = (1 : Int32)) from hc26)).2 (by decide) (by decide) q)))
      obtain ⟨T32, h32, kc32, X32, e32, E32, A32, st32⟩ := newP X21 hx hZ (own_h hw 16 rfl) e21 (g := (mkF m 46 #[.val (.long q1), .second, ow_i (own_len q1), .unset] [(.int 2)])) rfl (D 28 rfl) rfl (by decide) (cap := 2) (by decide) (by decide) (by decide) (by decide)
      obtain ⟨b32, g32⟩ : ∃ z, z = h0.size := ⟨_, rfl⟩
      rw [← g32] at A32 st32
      have ge_b32 : n0 ≤ b32 := Nat.le_trans Z0 (Nat.le_of_eq g32.symm)
      have sz_b32 : h0.size ≤ b32 := Nat.le_trans (Keep.refl h0 []).1 (Nat.le_of_eq g32.symm)
      have Z32 : n0 ≤ h32.size := Nat.le_trans Z0 E32.1
      have K32 : Keep h0 h32 [] := (Keep.refl h0 []).ext E32
      have CU32 := CHr.ext E32 CH0
      have CR32 := CR0.trans CU32
      have CH32 := CU32.1
      have hk32 := Nat.le_trans hk0 E32.1
      have V_b32 : Arv Z h32 b32 kc32 .char (2 : Int32) [(.int 0), (.int 0)] (.int 0) := (Arv.new A32 (by decide)).pad (pad_rep [] (.int 0) 2)
      replace k : ow T32 (mkF m 48 #[.val (.long q1), .second, ow_i (own_len q1), .unset] [(.ref b32)]) := fun t q => k t (XS.iconst X21.here hx rfl (D 27 rfl) (st32 t q))
      clear st32
      replace k : ow T32 (mkF m 51 #[.val (.long q1), .second, ow_i (own_len q1), ow_r b32] [(.int 0), (.ref b32)]) := fun t q => k t (XS.astoreN X32.here hx rfl (D 29 rfl) rfl rfl (l' := #[.val (.long q1), .second, ow_i (own_len q1), ow_r b32]) rfl (XS.aloadN X32.here hx rfl (D 30 rfl) rfl rfl (XS.iconst X32.here hx rfl (D 31 rfl) q)))
      obtain ⟨_, _, ⟨T33, L33, k33, n33⟩, -, X33, ⟨Lc33, hQ33, l33, y33, z33⟩, st33⟩ := Jvm.LawKit.callS X32 hx (y := own_y15) hown (mvT hZ (own_h hw 92 rfl)) (mvT hZ (own_h hw 93 rfl)) (mvT hZ (own_h hw 3 rfl)) (mvT hZ (own_h hw 94 rfl)) (by decide) (backOf (W := 2) (own_m15 l Z a0 hw [] q1 h32 n0 Z32 ) hZ (own_h hw 94 rfl) (own_h hw 3 rfl) (by decide) (by decide)) (g := (mkF m 52 #[.val (.long q1), .second, ow_i (own_len q1), ow_r b32] [(.long q1), (.int 0), (.ref b32)])) rfl (by rw [hml]; rfl) (argsL := [(.long q1)]) (rest := [(.int 0), (.ref b32)]) (lenOf own_pd2 rfl) rfl own_le (D 33 rfl) (fun _ _ => ⟨rfl, e32, (by decide : 1 + 0 ≤ _), (by decide : 2 + 0 ≤ _)⟩)
      dsimp only [Pt.U, Pt.locs, Pt.cells, Pt.slots] at X33 l33 y33 z33 st33 hQ33
      subst l33 y33 z33
      obtain ⟨rfl, N33q, e33⟩ := hQ33
      have N33 := Fr.app N21 N33q
      replace k : ow T33 (mkF m 55 #[.val (.long q1), .second, ow_i (own_len q1), ow_r b32] [(.int (own_c0 q1)), (.int 0), (.ref b32)]) := fun t q => k t (XS.lloadN X32.here hx rfl (D 32 rfl) rfl (st33 t q))
      clear st33
      obtain ⟨cl34, Ar34, qa34, Sa34, Na34, Ha34, Ga34⟩ := id V_b32
      obtain ⟨T34, h34, X34, e34, W34, st34⟩ := stC X33 hx hZ e33 Ar34 (j := (0 : Int32)) (own_inb Sa34 (show (0 : Int32) = Nat.toInt32 0 from by decide) (show 0 < ((2 : Int32)).toNatClampNeg from by decide)) (g := (mkF m 55 #[.val (.long q1), .second, ow_i (own_len q1), ow_r b32] [(.int (own_c0 q1)), (.int 0), (.ref b32)])) rfl rfl (D 34 rfl)
      have V34 : Arv Z h34 b32 kc32 .char (2 : Int32) [(.int (ow_c (own_c0 q1))), (.int 0)] (.int 0) := Arv.set Ar34 qa34 Sa34 Na34 Ha34 Ga34 (fits_nar_char _) W34 0 (own_idx (show (0 : Int32) = Nat.toInt32 0 from by decide) (by omega)) (Nat.le_of_ble_eq_true rfl)
      have K34 : Keep h0 h34 [] := K32.wr W34 (Or.inr sz_b32)
      have N34 := Fr.snoc X34 N33 ge_b32
      have Z34 : n0 ≤ h34.size := Nat.le_trans Z32 (Keep.of_wr W34).1
      have CU34 := CHr.wr W34 (Safe.arv hZ.alike V_b32 (by decide)) CH32
      have CR34 := CR32.trans CU34
      have CH34 := CU34.1
      have hk34 := Nat.le_trans hk32 (Keep.of_wr W34).1
      replace k : ow T34 (mkF m 56 #[.val (.long q1), .second, ow_i (own_len q1), ow_r b32] []) := fun t q => k t (st34 t q)
      clear st34
      replace k : ow T34 (mkF m 59 #[.val (.long q1), .second, ow_i (own_len q1), ow_r b32] [(.long q1), (.int 1), (.ref b32)]) := fun t q => k t (XS.aloadN X34.here hx rfl (D 35 rfl) rfl rfl (XS.iconst X34.here hx rfl (D 36 rfl) (XS.lloadN X34.here hx rfl (D 37 rfl) rfl q)))
      obtain ⟨_, _, ⟨T35, L35, k35, n35⟩, -, X35, ⟨Lc35, hQ35, l35, y35, z35⟩, st35⟩ := Jvm.LawKit.callS X34 hx (y := own_y16) hown (mvT hZ (own_h hw 96 rfl)) (mvT hZ (own_h hw 97 rfl)) (mvT hZ (own_h hw 3 rfl)) (mvT hZ (own_h hw 98 rfl)) (by decide) (backOf (W := 2) (own_m16 l Z a0 hw [] q1 h34 n0 Z34 ) hZ (own_h hw 98 rfl) (own_h hw 3 rfl) (by decide) (by decide)) (g := (mkF m 59 #[.val (.long q1), .second, ow_i (own_len q1), ow_r b32] [(.long q1), (.int 1), (.ref b32)])) rfl (by rw [hml]; rfl) (argsL := [(.long q1)]) (rest := [(.int 1), (.ref b32)]) (lenOf own_pd2 rfl) rfl own_le (D 38 rfl) (fun _ _ => ⟨rfl, e34, (by decide : 1 + 0 ≤ _), (by decide : 2 + 0 ≤ _)⟩)
      dsimp only [Pt.U, Pt.locs, Pt.cells, Pt.slots] at X35 l35 y35 z35 st35 hQ35
      subst l35 y35 z35
      obtain ⟨rfl, N35q, e35⟩ := hQ35
      have N35 := Fr.app N34 N35q
      replace k : ow T35 (mkF m 62 #[.val (.long q1), .second, ow_i (own_len q1), ow_r b32] [(.int (own_c1 q1)), (.int 1), (.ref b32)]) := fun t q => k t (st35 t q)
      clear st35
      obtain ⟨cl36, Ar36, qa36, Sa36, Na36, Ha36, Ga36⟩ := id V34
      obtain ⟨T36, h36, X36, e36, W36, st36⟩ := stC X35 hx hZ e35 Ar36 (j := (1 : Int32)) (own_inb Sa36 (show (1 : Int32) = Nat.toInt32 1 from by decide) (show 1 < ((2 : Int32)).toNatClampNeg from by decide)) (g := (mkF m 62 #[.val (.long q1), .second, ow_i (own_len q1), ow_r b32] [(.int (own_c1 q1)), (.int 1), (.ref b32)])) rfl rfl (D 39 rfl)
      have V36 : Arv Z h36 b32 kc32 .char (2 : Int32) [(.int (ow_c (own_c0 q1))), (.int (ow_c (own_c1 q1)))] (.int 0) := Arv.set Ar36 qa36 Sa36 Na36 Ha36 Ga36 (fits_nar_char _) W36 1 (own_idx (show (1 : Int32) = Nat.toInt32 1 from by decide) (by omega)) (Nat.le_of_ble_eq_true rfl)
      have K36 : Keep h0 h36 [] := K34.wr W36 (Or.inr sz_b32)
      have N36 := Fr.snoc X36 N35 ge_b32
      have Z36 : n0 ≤ h36.size := Nat.le_trans Z34 (Keep.of_wr W36).1
      have CU36 := CHr.wr W36 (Safe.arv hZ.alike V34 (by decide)) CH34
      have CR36 := CR34.trans CU36
      have CH36 := CU36.1
      have hk36 := Nat.le_trans hk34 (Keep.of_wr W36).1
      replace k : ow T36 (mkF m 63 #[.val (.long q1), .second, ow_i (own_len q1), ow_r b32] []) := fun t q => k t (st36 t q)
      clear st36
      obtain ⟨T37, h37, X37, e37, E37, A37, D37, -, st37⟩ := newO X36 hx hZ hown (own_h hw 13 rfl) (own_h hw 14 rfl) (own_h hw 15 rfl) e36 (g := (mkF m 63 #[.val (.long q1), .second, ow_i (own_len q1), ow_r b32] [])) rfl (D 40 rfl) (by decide) (by decide)
      obtain ⟨b37, g37⟩ : ∃ z, z = h36.size := ⟨_, rfl⟩
      rw [← g37] at A37 D37 st37
      have ge_b37 : n0 ≤ b37 := Nat.le_trans Z36 (Nat.le_of_eq g37.symm)
      have sz_b37 : h0.size ≤ b37 := Nat.le_trans K36.1 (Nat.le_of_eq g37.symm)
      have Z37 : n0 ≤ h37.size := Nat.le_trans Z36 E37.1
      have K37 : Keep h0 h37 [] := K36.ext E37
      have CU37 := CHr.ext E37 CH36
      have CR37 := CR36.trans CU37
      have CH37 := CU37.1
      have hk37 := Nat.le_trans hk36 E37.1
      have F_value_b37 : Fld Z h37 b37 "java/lang/String" "value" "[B" .null := D37 (Or.inr (own_h hw 29 rfl)) (ty := (.array .byte)) (by decide)
      have F_coder_b37 : Fld Z h37 b37 "java/lang/String" "coder" "B" (.int 0) := D37 (Or.inr (own_h hw 30 rfl)) (ty := .byte) (by decide)
      replace k : ow T37 (mkF m 66 #[.val (.long q1), .second, ow_i (own_len q1), ow_r b32] [(.ref b37)]) := fun t q => k t (st37 t q)
      clear st37
      have hp38 : ∀ c ∈ ([(ow_c (own_c0 q1)), (ow_c (own_c1 q1))] : List Int32), ¬ c < 0 ∧ ¬ (255 : Int32) < c := (List.forall_mem_cons.mpr ⟨own_r0 _, (List.forall_mem_cons.mpr ⟨own_r1 _, (fun c hc => nomatch hc)⟩)⟩)
      obtain ⟨_, _, ⟨T38, L38, k38, n38⟩, -, X38, ⟨Lc38, hQ38, l38, y38, z38⟩, st38⟩ := X37.specialBack hx (y := own_y4) rfl hown (mvT hZ (own_h hw 17 rfl)) (mvT hZ (own_h hw 18 rfl)) (mvT hZ (own_h hw 19 rfl)) (by decide) (StrChars.Road.backV (W := 1) hZ (own_wNew hw) (kI := 4) (own_h hw 14 rfl) (cs := ([(ow_c (own_c0 q1)), (ow_c (own_c1 q1))] : List Int32)) (bs := ([(ow_c (own_c0 q1)), (ow_c (own_c1 q1))] : List Int32).map (fun c => c.toInt8.toInt32)) (n := 2) ge_b37 Z37 A37 F_value_b37 F_coder_b37 (V36.ext E37) ((((S_COMPACT_STRINGS.ext E32).wr W34).wr W36).ext E37) hz rfl rfl (by decide) (by decide) hp38 rfl (by decide) (by decide)) (g := (mkF m 68 #[.val (.long q1), .second, ow_i (own_len q1), ow_r b32] [(.ref b32), (.ref b37), (.ref b37)])) rfl (by rw [hml]; rfl) (Steps.refl _) (a := b37) (argsL := [(.ref b32)]) (rest := [(.ref b37)]) (lenOf own_pd4 rfl) rfl own_le (D 43 rfl) (fun _ _ => ⟨rfl, e37, (by decide : 2 + 1 ≤ _), (by decide : 6 + 2 ≤ _)⟩)
      dsimp only [Pt.U, Pt.locs, Pt.cells, Pt.slots] at X38 l38 y38 z38 st38 hQ38
      subst l38 y38 z38
      obtain ⟨h38, e38⟩ : ∃ z, T38.heap = z := ⟨_, rfl⟩
      rw [e38] at hQ38
      obtain ⟨rfl, N38q, KC38, EC38, FC38, tt38, kt38, -, -, -, FV38, AV38⟩ := hQ38
      have KK38 : Keep h0 h38 [] := K37.trans KC38 (allS (Or.inr sz_b37) all0)
      have Z38 : n0 ≤ h38.size := Nat.le_trans Z37 KC38.1
      have CU38 := CHr.keep KC38 (sfS (own_safe_null hZ.alike A37 F_value_b37) sf0) CH37
      have CR38 := CR37.trans CU38
      have CH38 := CU38.1
      have hk38 := Nat.le_trans hk37 KC38.1
      have TX38 : own_Str Z h38 b37 ([(ow_c (own_c0 q1)), (ow_c (own_c1 q1))] : List Int32) := own_mkStr EC38 FV38 FC38 AV38 rfl hp38 (by decide)
      have N38 := Fr.app N36 N38q
      replace k : ow T38 (mkF m 71 #[.val (.long q1), .second, ow_i (own_len q1), ow_r b32] [(.ref b37)]) := fun t q => k t (XS.dup X37.here hx rfl (D 41 rfl) rfl rfl (XS.aloadN X37.here hx rfl (D 42 rfl) rfl rfl (st38.trans q)))
      clear st38
      exact own_endS (v := some (.ref b37)) X38 e38 hS0 hk38 hh Bd.notSynchronized (own_vn Bd.returns) k (fun _ hr => own_retA X38 hx Bd.returns rfl (D 44 rfl) hr) ⟨b37, rfl, N38, KK38, by rw [show own_cs q1 = ([(ow_c (own_c0 q1)), (ow_c (own_c1 q1))] : List Int32) from by unfold own_cs; rw [if_neg hc22, if_neg hc26]]; exact TX38⟩ (CR38.trans (CHv.at X38 hZ (own_EW hw) CH38)) (by decide) (by decide)
theorem own_d7 : own_all method_7_code [(0, .iload_n 0, 1), (1, .ifCond .ne 7, 3), (4, .getstatic 35, 3), (7, .areturn, 1), (8, .iload_n 0, 1), (9, .iconst 1, 1), (10, .if_icmp .ne 7, 3), (13, .getstatic 41, 3), (16, .areturn, 1), (17, .iload_n 0, 1), (18, .iconst 2, 1), (19, .if_icmp .ne 7, 3), (22, .getstatic 44, 3), (25, .areturn, 1), (26, .iload_n 0, 1), (27, .iconst 3, 1), (28, .if_icmp .ne 7, 3), (31, .getstatic 47, 3), (34, .areturn, 1), (35, .getstatic 50, 3), (38, .areturn, 1)] := by decide +kernel
theorem own_ef7 (m : MethodId) (x0 : Int32) : entryFrame m #[(.int x0)] 1 = mkF m 0 #[ow_i x0] [] := by first | (simp [entryFrame, mkF, argsToLocals, Value.category]; done) | rfl
theorem own_pn7 : plainName "com/example/callsite/callsite/bytecode/ClassReadEqualsPinLaw" = true := by first | (simp [plainName, overriddenIn]; done) | decide +kernel
def own_src (p1 : Int32) (w_Source_PROGRAM : Addr) (w_JDK : Addr) (w_LIBRARY : Addr) (w_UNKNOWN : Addr) (w_NOT_PROGRAM : Addr) : Addr := (if p1 = (0 : Int32) then w_Source_PROGRAM else (if p1 = (1 : Int32) then w_JDK else (if p1 = (2 : Int32) then w_LIBRARY else (if p1 = (3 : Int32) then w_UNKNOWN else w_NOT_PROGRAM))))
set_option maxRecDepth 65536 in
set_option maxHeartbeats 40000000 in
theorem own_m7 (l : Launch) (Z : State) (a0 : Array Value) (hw : ∀ d ∈ tables_1, d.before a0 Z = true) (ws : List Jvm.Cond) (p1 : Int32) (w_Source_PROGRAM : Addr) (w_JDK : Addr) (w_LIBRARY : Addr) (w_UNKNOWN : Addr) (w_NOT_PROGRAM : Addr) (h0 : Heap) (n0 : Nat) (Z0 : n0 ≤ h0.size) (S_Source_PROGRAM : Sta Z h0 "com/example/callsite/callsite/bytecode/ClassRead$Source" "PROGRAM" "Lcom/example/callsite/callsite/bytecode/ClassRead$Source;" (.ref w_Source_PROGRAM)) (S_JDK : Sta Z h0 "com/example/callsite/callsite/bytecode/ClassRead$Source" "JDK" "Lcom/example/callsite/callsite/bytecode/ClassRead$Source;" (.ref w_JDK)) (S_LIBRARY : Sta Z h0 "com/example/callsite/callsite/bytecode/ClassRead$Source" "LIBRARY" "Lcom/example/callsite/callsite/bytecode/ClassRead$Source;" (.ref w_LIBRARY)) (S_UNKNOWN : Sta Z h0 "com/example/callsite/callsite/bytecode/ClassRead$Source" "UNKNOWN" "Lcom/example/callsite/callsite/bytecode/ClassRead$Source;" (.ref w_UNKNOWN)) (S_NOT_PROGRAM : Sta Z h0 "com/example/callsite/callsite/bytecode/ClassRead$Source" "NOT_PROGRAM" "Lcom/example/callsite/callsite/bytecode/ClassRead$Source;" (.ref w_NOT_PROGRAM)) :
    own_MF l Z own_y7 ws method_7_code 1 (some (.object "com/example/callsite/callsite/bytecode/ClassRead$Source")) ({ frames := 0, cells := 0, slots := 0, locals := 0 } : Room) #[(.int p1)] h0 (own_Q (some (.ref (own_src p1 w_Source_PROGRAM w_JDK w_LIBRARY w_UNKNOWN w_NOT_PROGRAM))) h0 n0) := by
  refine own_go "com/example/callsite/callsite/bytecode/ClassReadEqualsPinLaw" rfl (plainFor_of_name own_pn7) (fun m => own_ef7 m p1) own_d7 n0 fun p e s m below meth c s₁ A0 Bd hx D hml hown hnm X0 hZ e0 N0 k => ?_
  by_cases hc1 : p1 = (0 : Int32)
  · replace k : ow s₁ (mkF m 4 #[ow_i p1] []) := fun t q => k t (XS.iloadN X0.here hx rfl (D 0 rfl) rfl (XS.ifNo X0.here hx rfl (D 1 rfl) rfl ((if0 _ _).trans (teq (show p1 = (0 : Int32) from hc1)).2) q))
    obtain ⟨T2, X2, e2, st2⟩ := getS2 X0 hx hZ hown (host := "") (Or.inl (own_h hw 41 rfl)) Via.refl e0 S_Source_PROGRAM (g := (mkF m 4 #[ow_i p1] [])) rfl (D 2 rfl)
    replace k : ow T2 (mkF m 7 #[ow_i p1] [(.ref w_Source_PROGRAM)]) := fun t q => k t (st2 t q)
    clear st2
    exact own_end (v := some (.ref w_Source_PROGRAM)) X2 e2 Bd.notSynchronized (own_vn Bd.returns) k (fun _ hr => own_retA X2 hx Bd.returns rfl (D 3 rfl) hr) ⟨by rw [show (own_src p1 w_Source_PROGRAM w_JDK w_LIBRARY w_UNKNOWN w_NOT_PROGRAM) = w_Source_PROGRAM from by unfold own_src; rw [if_pos hc1]], N0, rfl⟩ (by decide) (by decide)
  · replace k : ow s₁ (mkF m 8 #[ow_i p1] []) := fun t q => k t (XS.iloadN X0.here hx rfl (D 0 rfl) rfl (XS.ifYes X0.here hx rfl (pc0 := 1) (pc' := 8) rfl (D 1 rfl) rfl ((if0 _ _).trans (feq (show ¬ (p1 = (0 : Int32)) from hc1)).2) (by decide) (by decide) q))
    by_cases hc3 : p1 = (1 : Int32)
    · replace k : ow s₁ (mkF m 13 #[ow_i p1] []) := fun t q => k t (XS.iloadN X0.here hx rfl (D 4 rfl) rfl (XS.iconst X0.here hx rfl (D 5 rfl) (XS.icmpNo X0.here hx rfl (D 6 rfl) rfl (teq (show p1 = (1 : Int32) from hc3)).2 q)))
      obtain ⟨T4, X4, e4, st4⟩ := getS2 X0 hx hZ hown (host := "") (Or.inl (own_h hw 113 rfl)) Via.refl e0 S_JDK (g := (mkF m 13 #[ow_i p1] [])) rfl (D 7 rfl)
      replace k : ow T4 (mkF m 16 #[ow_i p1] [(.ref w_JDK)]) := fun t q => k t (st4 t q)
      clear st4
      exact own_end (v := some (.ref w_JDK)) X4 e4 Bd.notSynchronized (own_vn Bd.returns) k (fun _ hr => own_retA X4 hx Bd.returns rfl (D 8 rfl) hr) ⟨by rw [show (own_src p1 w_Source_PROGRAM w_JDK w_LIBRARY w_UNKNOWN w_NOT_PROGRAM) = w_JDK from by unfold own_src; rw [if_neg hc1, if_pos hc3]], N0, rfl⟩ (by decide) (by decide)
    · replace k : ow s₁ (mkF m 17 #[ow_i p1] []) := fun t q => k t (XS.iloadN X0.here hx rfl (D 4 rfl) rfl (XS.iconst X0.here hx rfl (D 5 rfl) (XS.icmpYes X0.here hx rfl (pc0 := 10) (pc' := 17) rfl (D 6 rfl) rfl (feq (show ¬ (p1 = (1 : Int32)) from hc3)).2 (by decide) (by decide) q)))
      by_cases hc5 : p1 = (2 : Int32)
      · replace k : ow s₁ (mkF m 22 #[ow_i p1] []) := fun t q => k t (XS.iloadN X0.here hx rfl (D 9 rfl) rfl (XS.iconst X0.here hx rfl (D 10 rfl) (XS.icmpNo X0.here hx rfl (D 11 rfl) rfl (teq (show p1 = (2 : Int32) from hc5)).2 q)))
        obtain ⟨T6, X6, e6, st6⟩ := getS2 X0 hx hZ hown (host := "") (Or.inl (own_h hw 115 rfl)) Via.refl e0 S_LIBRARY (g := (mkF m 22 #[ow_i p1] [])) rfl (D 12 rfl)
        replace k : ow T6 (mkF m 25 #[ow_i p1] [(.ref w_LIBRARY)]) := fun t q => k t (st6 t q)
        clear st6
        exact own_end (v := some (.ref w_LIBRARY)) X6 e6 Bd.notSynchronized (own_vn Bd.returns) k (fun _ hr => own_retA X6 hx Bd.returns rfl (D 13 rfl) hr) ⟨by rw [show (own_src p1 w_Source_PROGRAM w_JDK w_LIBRARY w_UNKNOWN w_NOT_PROGRAM) = w_LIBRARY from by unfold own_src; rw [if_neg hc1, if_neg hc3, if_pos hc5]], N0, rfl⟩ (by decide) (by decide)
      · replace k : ow s₁ (mkF m 26 #[ow_i p1] []) := fun t q => k t (XS.iloadN X0.here hx rfl (D 9 rfl) rfl (XS.iconst X0.here hx rfl (D 10 rfl) (XS.icmpYes X0.here hx rfl (pc0 := 19) (pc' := 26) rfl (D 11 rfl) rfl (feq (show ¬ (p1 = (2 : Int32)) from hc5)).2 (by decide) (by decide) q)))
        by_cases hc7 : p1 = (3 : Int32)
        · replace k : ow s₁ (mkF m 31 #[ow_i p1] []) := fun t q => k t (XS.iloadN X0.here hx rfl (D 14 rfl) rfl (XS.iconst X0.here hx rfl (D 15 rfl) (XS.icmpNo X0.here hx rfl (D 16 rfl) rfl (teq (show p1 = (3 : Int32) from hc7)).2 q)))
          obtain ⟨T8, X8, e8, st8⟩ := getS2 X0 hx hZ hown (host := "") (Or.inl (own_h hw 119 rfl)) Via.refl e0 S_UNKNOWN (g := (mkF m 31 #[ow_i p1] [])) rfl (D 17 rfl)
          replace k : ow T8 (mkF m 34 #[ow_i p1] [(.ref w_UNKNOWN)]) := fun t q => k t (st8 t q)
          clear st8
          exact own_end (v := some (.ref w_UNKNOWN)) X8 e8 Bd.notSynchronized (own_vn Bd.returns) k (fun _ hr => own_retA X8 hx Bd.returns rfl (D 18 rfl) hr) ⟨by rw [show (own_src p1 w_Source_PROGRAM w_JDK w_LIBRARY w_UNKNOWN w_NOT_PROGRAM) = w_UNKNOWN from by unfold own_src; rw [if_neg hc1, if_neg hc3, if_neg hc5, if_pos hc7]], N0, rfl⟩ (by decide) (by decide)
        · replace k : ow s₁ (mkF m 35 #[ow_i p1] []) := fun t q => k t (XS.iloadN X0.here hx rfl (D 14 rfl) rfl (XS.iconst X0.here hx rfl (D 15 rfl) (XS.icmpYes X0.here hx rfl (pc0 := 28) (pc' := 35) rfl (D 16 rfl) rfl (feq (show ¬ (p1 = (3 : Int32)) from hc7)).2 (by decide) (by decide) q)))
          obtain ⟨T9, X9, e9, st9⟩ := getS2 X0 hx hZ hown (host := "") (Or.inl (own_h hw 127 rfl)) Via.refl e0 S_NOT_PROGRAM (g := (mkF m 35 #[ow_i p1] [])) rfl (D 19 rfl)
          replace k : ow T9 (mkF m 38 #[ow_i p1] [(.ref w_NOT_PROGRAM)]) := fun t q => k t (st9 t q)
          clear st9
          exact own_end (v := some (.ref w_NOT_PROGRAM)) X9 e9 Bd.notSynchronized (own_vn Bd.returns) k (fun _ hr => own_retA X9 hx Bd.returns rfl (D 20 rfl) hr) ⟨by rw [show (own_src p1 w_Source_PROGRAM w_JDK w_LIBRARY w_UNKNOWN w_NOT_PROGRAM) = w_NOT_PROGRAM from by unfold own_src; rw [if_neg hc1, if_neg hc3, if_neg hc5, if_neg hc7]], N0, rfl⟩ (by decide) (by decide)
theorem own_d8 : own_all method_8_code [(0, .iload_n 0, 1), (1, .ifCond .ne 7, 3), (4, .getstatic 53, 3), (7, .areturn, 1), (8, .iload_n 0, 1), (9, .iconst 1, 1), (10, .if_icmp .ne 7, 3), (13, .getstatic 58, 3), (16, .areturn, 1), (17, .iload_n 0, 1), (18, .iconst 2, 1), (19, .if_icmp .ne 7, 3), (22, .getstatic 61, 3), (25, .areturn, 1), (26, .iload_n 0, 1), (27, .iconst 3, 1), (28, .if_icmp .ne 7, 3), (31, .getstatic 64, 3), (34, .areturn, 1), (35, .iload_n 0, 1), (36, .iconst 4, 1), (37, .if_icmp .ne 7, 3), (40, .getstatic 67, 3), (43, .areturn, 1), (44, .iload_n 0, 1), (45, .iconst 5, 1), (46, .if_icmp .ne 7, 3), (49, .getstatic 70, 3), (52, .areturn, 1), (53, .iload_n 0, 1), (54, .bipush 6, 2), (56, .if_icmp .ne 7, 3), (59, .getstatic 73, 3), (62, .areturn, 1), (63, .iload_n 0, 1), (64, .bipush 7, 2), (66, .if_icmp .ne 7, 3), (69, .getstatic 76, 3), (72, .areturn, 1), (73, .iload_n 0, 1), (74, .bipush 8, 2), (76, .if_icmp .ne 7, 3), (79, .getstatic 79, 3), (82, .areturn, 1), (83, .iload_n 0, 1), (84, .bipush 9, 2), (86, .if_icmp .ne 7, 3), (89, .getstatic 82, 3), (92, .areturn, 1), (93, .iload_n 0, 1), (94, .bipush 10, 2), (96, .if_icmp .ne 7, 3), (99, .getstatic 85, 3), (102, .areturn, 1), (103, .getstatic 88, 3), (106, .areturn, 1)] := by decide +kernel
theorem own_ef8 (m : MethodId) (x0 : Int32) : entryFrame m #[(.int x0)] 1 = mkF m 0 #[ow_i x0] [] := by first | (simp [entryFrame, mkF, argsToLocals, Value.category]; done) | rfl
theorem own_pn8 : plainName "com/example/callsite/callsite/bytecode/ClassReadEqualsPinLaw" = true := by first | (simp [plainName, overriddenIn]; done) | decide +kernel
def own_asp (p1 : Int32) (w_Aspect_PROGRAM : Addr) (w_SOURCE : Addr) (w_SUPERCLASS : Addr) (w_INTERFACES : Addr) (w_INTERFACE : Addr) (w_DECLARES_METHOD : Addr) (w_FLAGS : Addr) (w_THROWS : Addr) (w_PROGRAM_METHOD : Addr) (w_FIELD : Addr) (w_CONCRETE_METHOD : Addr) (w_METHODS : Addr) : Addr := (if p1 = (0 : Int32) then w_Aspect_PROGRAM else (if p1 = (1 : Int32) then w_SOURCE else (if p1 = (2 : Int32) then w_SUPERCLASS else (if p1 = (3 : Int32) then w_INTERFACES else (if p1 = (4 : Int32) then w_INTERFACE else (if p1 = (5 : Int32) then w_DECLARES_METHOD else (if p1 = (6 : Int32) then w_FLAGS else (if p1 = (7 : Int32) then w_THROWS else (if p1 = (8 : Int32) then w_PROGRAM_METHOD else (if p1 = (9 : Int32) then w_FIELD else (if p1 = (10 : Int32) then w_CONCRETE_METHOD else w_METHODS)))))))))))
set_option maxRecDepth 65536 in
set_option maxHeartbeats 40000000 in
theorem own_m8 (l : Launch) (Z : State) (a0 : Array Value) (hw : ∀ d ∈ tables_1, d.before a0 Z = true) (ws : List Jvm.Cond) (p1 : Int32) (w_Aspect_PROGRAM : Addr) (w_SOURCE : Addr) (w_SUPERCLASS : Addr) (w_INTERFACES : Addr) (w_INTERFACE : Addr) (w_DECLARES_METHOD : Addr) (w_FLAGS : Addr) (w_THROWS : Addr) (w_PROGRAM_METHOD : Addr) (w_FIELD : Addr) (w_CONCRETE_METHOD : Addr) (w_METHODS : Addr) (h0 : Heap) (n0 : Nat) (Z0 : n0 ≤ h0.size) (S_Aspect_PROGRAM : Sta Z h0 "com/example/callsite/callsite/bytecode/ClassRead$Aspect" "PROGRAM" "Lcom/example/callsite/callsite/bytecode/ClassRead$Aspect;" (.ref w_Aspect_PROGRAM)) (S_SOURCE : Sta Z h0 "com/example/callsite/callsite/bytecode/ClassRead$Aspect" "SOURCE" "Lcom/example/callsite/callsite/bytecode/ClassRead$Aspect;" (.ref w_SOURCE)) (S_SUPERCLASS : Sta Z h0 "com/example/callsite/callsite/bytecode/ClassRead$Aspect" "SUPERCLASS" "Lcom/example/callsite/callsite/bytecode/ClassRead$Aspect;" (.ref w_SUPERCLASS)) (S_INTERFACES : Sta Z h0 "com/example/callsite/callsite/bytecode/ClassRead$Aspect" "INTERFACES" "Lcom/example/callsite/callsite/bytecode/ClassRead$Aspect;" (.ref w_INTERFACES)) (S_INTERFACE : Sta Z h0 "com/example/callsite/callsite/bytecode/ClassRead$Aspect" "INTERFACE" "Lcom/example/callsite/callsite/bytecode/ClassRead$Aspect;" (.ref w_INTERFACE)) (S_DECLARES_METHOD : Sta Z h0 "com/example/callsite/callsite/bytecode/ClassRead$Aspect" "DECLARES_METHOD" "Lcom/example/callsite/callsite/bytecode/ClassRead$Aspect;" (.ref w_DECLARES_METHOD)) (S_FLAGS : Sta Z h0 "com/example/callsite/callsite/bytecode/ClassRead$Aspect" "FLAGS" "Lcom/example/callsite/callsite/bytecode/ClassRead$Aspect;" (.ref w_FLAGS)) (S_THROWS : Sta Z h0 "com/example/callsite/callsite/bytecode/ClassRead$Aspect" "THROWS" "Lcom/example/callsite/callsite/bytecode/ClassRead$Aspect;" (.ref w_THROWS)) (S_PROGRAM_METHOD : Sta Z h0 "com/example/callsite/callsite/bytecode/ClassRead$Aspect" "PROGRAM_METHOD" "Lcom/example/callsite/callsite/bytecode/ClassRead$Aspect;" (.ref w_PROGRAM_METHOD)) (S_FIELD : Sta Z h0 "com/example/callsite/callsite/bytecode/ClassRead$Aspect" "FIELD" "Lcom/example/callsite/callsite/bytecode/ClassRead$Aspect;" (.ref w_FIELD)) (S_CONCRETE_METHOD : Sta Z h0 "com/example/callsite/callsite/bytecode/ClassRead$Aspect" "CONCRETE_METHOD" "Lcom/example/callsite/callsite/bytecode/ClassRead$Aspect;" (.ref w_CONCRETE_METHOD)) (S_METHODS : Sta Z h0 "com/example/callsite/callsite/bytecode/ClassRead$Aspect" "METHODS" "Lcom/example/callsite/callsite/bytecode/ClassRead$Aspect;" (.ref w_METHODS)) :
    own_MF l Z own_y8 ws method_8_code 1 (some (.object "com/example/callsite/callsite/bytecode/ClassRead$Aspect")) ({ frames := 0, cells := 0, slots := 0, locals := 0 } : Room) #[(.int p1)] h0 (own_Q (some (.ref (own_asp p1 w_Aspect_PROGRAM w_SOURCE w_SUPERCLASS w_INTERFACES w_INTERFACE w_DECLARES_METHOD w_FLAGS w_THROWS w_PROGRAM_METHOD w_FIELD w_CONCRETE_METHOD w_METHODS))) h0 n0) := by
  refine own_go "com/example/callsite/callsite/bytecode/ClassReadEqualsPinLaw" rfl (plainFor_of_name own_pn8) (fun m => own_ef8 m p1) own_d8 n0 fun p e s m below meth c s₁ A0 Bd hx D hml hown hnm X0 hZ e0 N0 k => ?_
  by_cases hc1 : p1 = (0 : Int32)
  · replace k : ow s₁ (mkF m 4 #[ow_i p1] []) := fun t q => k t (XS.iloadN X0.here hx rfl (D 0 rfl) rfl (XS.ifNo X0.here hx rfl (D 1 rfl) rfl ((if0 _ _).trans (teq (show p1 = (0 : Int32) from hc1)).2) q))
    obtain ⟨T2, X2, e2, st2⟩ := getS2 X0 hx hZ hown (host := "") (Or.inl (own_h hw 47 rfl)) Via.refl e0 S_Aspect_PROGRAM (g := (mkF m 4 #[ow_i p1] [])) rfl (D 2 rfl)
    replace k : ow T2 (mkF m 7 #[ow_i p1] [(.ref w_Aspect_PROGRAM)]) := fun t q => k t (st2 t q)
    clear st2
    exact own_end (v := some (.ref w_Aspect_PROGRAM)) X2 e2 Bd.notSynchronized (own_vn Bd.returns) k (fun _ hr => own_retA X2 hx Bd.returns rfl (D 3 rfl) hr) ⟨by rw [show (own_asp p1 w_Aspect_PROGRAM w_SOURCE w_SUPERCLASS w_INTERFACES w_INTERFACE w_DECLARES_METHOD w_FLAGS w_THROWS w_PROGRAM_METHOD w_FIELD w_CONCRETE_METHOD w_METHODS) = w_Aspect_PROGRAM from by unfold own_asp; rw [if_pos hc1]], N0, rfl⟩ (by decide) (by decide)
  · replace k : ow s₁ (mkF m 8 #[ow_i p1] []) := fun t q => k t (XS.iloadN X0.here hx rfl (D 0 rfl) rfl (XS.ifYes X0.here hx rfl (pc0 := 1) (pc' := 8) rfl (D 1 rfl) rfl ((if0 _ _).trans (feq (show ¬ (p1 = (0 : Int32)) from hc1)).2) (by decide) (by decide) q))
    by_cases hc3 : p1 = (1 : Int32)
    · replace k : ow s₁ (mkF m 13 #[ow_i p1] []) := fun t q => k t (XS.iloadN X0.here hx rfl (D 4 rfl) rfl (XS.iconst X0.here hx rfl (D 5 rfl) (XS.icmpNo X0.here hx rfl (D 6 rfl) rfl (teq (show p1 = (1 : Int32) from hc3)).2 q)))
      obtain ⟨T4, X4, e4, st4⟩ := getS2 X0 hx hZ hown (host := "") (Or.inl (own_h hw 90 rfl)) Via.refl e0 S_SOURCE (g := (mkF m 13 #[ow_i p1] [])) rfl (D 7 rfl)
      replace k : ow T4 (mkF m 16 #[ow_i p1] [(.ref w_SOURCE)]) := fun t q => k t (st4 t q)
      clear st4
      exact own_end (v := some (.ref w_SOURCE)) X4 e4 Bd.notSynchronized (own_vn Bd.returns) k (fun _ hr => own_retA X4 hx Bd.returns rfl (D 8 rfl) hr) ⟨by rw [show (own_asp p1 w_Aspect_PROGRAM w_SOURCE w_SUPERCLASS w_INTERFACES w_INTERFACE w_DECLARES_METHOD w_FLAGS w_THROWS w_PROGRAM_METHOD w_FIELD w_CONCRETE_METHOD w_METHODS) = w_SOURCE from by unfold own_asp; rw [if_neg hc1, if_pos hc3]], N0, rfl⟩ (by decide) (by decide)
    · replace k : ow s₁ (mkF m 17 #[ow_i p1] []) := fun t q => k t (XS.iloadN X0.here hx rfl (D 4 rfl) rfl (XS.iconst X0.here hx rfl (D 5 rfl) (XS.icmpYes X0.here hx rfl (pc0 := 10) (pc' := 17) rfl (D 6 rfl) rfl (feq (show ¬ (p1 = (1 : Int32)) from hc3)).2 (by decide) (by decide) q)))
      by_cases hc5 : p1 = (2 : Int32)
      · replace k : ow s₁ (mkF m 22 #[ow_i p1] []) := fun t q => k t (XS.iloadN X0.here hx rfl (D 9 rfl) rfl (XS.iconst X0.here hx rfl (D 10 rfl) (XS.icmpNo X0.here hx rfl (D 11 rfl) rfl (teq (show p1 = (2 : Int32) from hc5)).2 q)))
        obtain ⟨T6, X6, e6, st6⟩ := getS2 X0 hx hZ hown (host := "") (Or.inl (own_h hw 117 rfl)) Via.refl e0 S_SUPERCLASS (g := (mkF m 22 #[ow_i p1] [])) rfl (D 12 rfl)
        replace k : ow T6 (mkF m 25 #[ow_i p1] [(.ref w_SUPERCLASS)]) := fun t q => k t (st6 t q)
        clear st6
        exact own_end (v := some (.ref w_SUPERCLASS)) X6 e6 Bd.notSynchronized (own_vn Bd.returns) k (fun _ hr => own_retA X6 hx Bd.returns rfl (D 13 rfl) hr) ⟨by rw [show (own_asp p1 w_Aspect_PROGRAM w_SOURCE w_SUPERCLASS w_INTERFACES w_INTERFACE w_DECLARES_METHOD w_FLAGS w_THROWS w_PROGRAM_METHOD w_FIELD w_CONCRETE_METHOD w_METHODS) = w_SUPERCLASS from by unfold own_asp; rw [if_neg hc1, if_neg hc3, if_pos hc5]], N0, rfl⟩ (by decide) (by decide)
      · replace k : ow s₁ (mkF m 26 #[ow_i p1] []) := fun t q => k t (XS.iloadN X0.here hx rfl (D 9 rfl) rfl (XS.iconst X0.here hx rfl (D 10 rfl) (XS.icmpYes X0.here hx rfl (pc0 := 19) (pc' := 26) rfl (D 11 rfl) rfl (feq (show ¬ (p1 = (2 : Int32)) from hc5)).2 (by decide) (by decide) q)))
        by_cases hc7 : p1 = (3 : Int32)
        · replace k : ow s₁ (mkF m 31 #[ow_i p1] []) := fun t q => k t (XS.iloadN X0.here hx rfl (D 14 rfl) rfl (XS.iconst X0.here hx rfl (D 15 rfl) (XS.icmpNo X0.here hx rfl (D 16 rfl) rfl (teq (show p1 = (3 : Int32) from hc7)).2 q)))
          obtain ⟨T8, X8, e8, st8⟩ := getS2 X0 hx hZ hown (host := "") (Or.inl (own_h hw 111 rfl)) Via.refl e0 S_INTERFACES (g := (mkF m 31 #[ow_i p1] [])) rfl (D 17 rfl)
          replace k : ow T8 (mkF m 34 #[ow_i p1] [(.ref w_INTERFACES)]) := fun t q => k t (st8 t q)
          clear st8
          exact own_end (v := some (.ref w_INTERFACES)) X8 e8 Bd.notSynchronized (own_vn Bd.returns) k (fun _ hr => own_retA X8 hx Bd.returns rfl (D 18 rfl) hr) ⟨by rw [show (own_asp p1 w_Aspect_PROGRAM w_SOURCE w_SUPERCLASS w_INTERFACES w_INTERFACE w_DECLARES_METHOD w_FLAGS w_THROWS w_PROGRAM_METHOD w_FIELD w_CONCRETE_METHOD w_METHODS) = w_INTERFACES from by unfold own_asp; rw [if_neg hc1, if_neg hc3, if_neg hc5, if_pos hc7]], N0, rfl⟩ (by decide) (by decide)
        · replace k : ow s₁ (mkF m 35 #[ow_i p1] []) := fun t q => k t (XS.iloadN X0.here hx rfl (D 14 rfl) rfl (XS.iconst X0.here hx rfl (D 15 rfl) (XS.icmpYes X0.here hx rfl (pc0 := 28) (pc' := 35) rfl (D 16 rfl) rfl (feq (show ¬ (p1 = (3 : Int32)) from hc7)).2 (by decide) (by decide) q)))
          by_cases hc9 : p1 = (4 : Int32)
          · replace k : ow s₁ (mkF m 40 #[ow_i p1] []) := fun t q => k t (XS.iloadN X0.here hx rfl (D 19 rfl) rfl (XS.iconst X0.here hx rfl (D 20 rfl) (XS.icmpNo X0.here hx rfl (D 21 rfl) rfl (teq (show p1 = (4 : Int32) from hc9)).2 q)))
            obtain ⟨T10, X10, e10, st10⟩ := getS2 X0 hx hZ hown (host := "") (Or.inl (own_h hw 137 rfl)) Via.refl e0 S_INTERFACE (g := (mkF m 40 #[ow_i p1] [])) rfl (D 22 rfl)
            replace k : ow T10 (mkF m 43 #[ow_i p1] [(.ref w_INTERFACE)]) := fun t q => k t (st10 t q)
            clear st10
            exact own_end (v := some (.ref w_INTERFACE)) X10 e10 Bd.notSynchronized (own_vn Bd.returns) k (fun _ hr => own_retA X10 hx Bd.returns rfl (D 23 rfl) hr) ⟨by rw [show (own_asp p1 w_Aspect_PROGRAM w_SOURCE w_SUPERCLASS w_INTERFACES w_INTERFACE w_DECLARES_METHOD w_FLAGS w_THROWS w_PROGRAM_METHOD w_FIELD w_CONCRETE_METHOD w_METHODS) = w_INTERFACE from by unfold own_asp; rw [if_neg hc1, if_neg hc3, if_neg hc5, if_neg hc7, if_pos hc9]], N0, rfl⟩ (by decide) (by decide)
          · replace k : ow s₁ (mkF m 44 #[ow_i p1] []) := fun t q => k t (XS.iloadN X0.here hx rfl (D 19 rfl) rfl (XS.iconst X0.here hx rfl (D 20 rfl) (XS.icmpYes X0.here hx rfl (pc0 := 37) (pc' := 44) rfl (D 21 rfl) rfl (feq (show ¬ (p1 = (4 : Int32)) from hc9)).2 (by decide) (by decide) q)))
            by_cases hc11 : p1 = (5 : Int32)
            · replace k : ow s₁ (mkF m 49 #[ow_i p1] []) := fun t q => k t (XS.iloadN X0.here hx rfl (D 24 rfl) rfl (XS.iconst X0.here hx rfl (D 25 rfl) (XS.icmpNo X0.here hx rfl (D 26 rfl) rfl (teq (show p1 = (5 : Int32) from hc11)).2 q)))
              obtain ⟨T12, X12, e12, st12⟩ := getS2 X0 hx hZ hown (host := "") (Or.inl (own_h hw 129 rfl)) Via.refl e0 S_DECLARES_METHOD (g := (mkF m 49 #[ow_i p1] [])) rfl (D 27 rfl)
              replace k : ow T12 (mkF m 52 #[ow_i p1] [(.ref w_DECLARES_METHOD)]) := fun t q => k t (st12 t q)
              clear st12
              exact own_end (v := some (.ref w_DECLARES_METHOD)) X12 e12 Bd.notSynchronized (own_vn Bd.returns) k (fun _ hr => own_retA X12 hx Bd.returns rfl (D 28 rfl) hr) ⟨by rw [show (own_asp p1 w_Aspect_PROGRAM w_SOURCE w_SUPERCLASS w_INTERFACES w_INTERFACE w_DECLARES_METHOD w_FLAGS w_THROWS w_PROGRAM_METHOD w_FIELD w_CONCRETE_METHOD w_METHODS) = w_DECLARES_METHOD from by unfold own_asp; rw [if_neg hc1, if_neg hc3, if_neg hc5, if_neg hc7, if_neg hc9, if_pos hc11]], N0, rfl⟩ (by decide) (by decide)
            · replace k : ow s₁ (mkF m 53 #[ow_i p1] []) := fun t q => k t (XS.iloadN X0.here hx rfl (D 24 rfl) rfl (XS.iconst X0.here hx rfl (D 25 rfl) (XS.icmpYes X0.here hx rfl (pc0 := 46) (pc' := 53) rfl (D 26 rfl) rfl (feq (show ¬ (p1 = (5 : Int32)) from hc11)).2 (by decide) (by decide) q)))
              by_cases hc13 : p1 = (6 : Int32)
              · replace k : ow s₁ (mkF m 59 #[ow_i p1] []) := fun t q => k t (XS.iloadN X0.here hx rfl (D 29 rfl) rfl (XS.bipush X0.here hx rfl (D 30 rfl) (XS.icmpNo X0.here hx rfl (D 31 rfl) rfl (teq (show p1 = (6 : Int32) from hc13)).2 q)))
                obtain ⟨T14, X14, e14, st14⟩ := getS2 X0 hx hZ hown (host := "") (Or.inl (own_h hw 133 rfl)) Via.refl e0 S_FLAGS (g := (mkF m 59 #[ow_i p1] [])) rfl (D 32 rfl)
                replace k : ow T14 (mkF m 62 #[ow_i p1] [(.ref w_FLAGS)]) := fun t q => k t (st14 t q)
                clear st14
                exact own_end (v := some (.ref w_FLAGS)) X14 e14 Bd.notSynchronized (own_vn Bd.returns) k (fun _ hr => own_retA X14 hx Bd.returns rfl (D 33 rfl) hr) ⟨by rw [show (own_asp p1 w_Aspect_PROGRAM w_SOURCE w_SUPERCLASS w_INTERFACES w_INTERFACE w_DECLARES_METHOD w_FLAGS w_THROWS w_PROGRAM_METHOD w_FIELD w_CONCRETE_METHOD w_METHODS) = w_FLAGS from by unfold own_asp; rw [if_neg hc1, if_neg hc3, if_neg hc5, if_neg hc7, if_neg hc9, if_neg hc11, if_pos hc13]], N0, rfl⟩ (by decide) (by decide)
              · replace k : ow s₁ (mkF m 63 #[ow_i p1] []) := fun t q => k t (XS.iloadN X0.here hx rfl (D 29 rfl) rfl (XS.bipush X0.here hx rfl (D 30 rfl) (XS.icmpYes X0.here hx rfl (pc0 := 56) (pc' := 63) rfl (D 31 rfl) rfl (feq (show ¬ (p1 = (6 : Int32)) from hc13)).2 (by decide) (by decide) q)))
                by_cases hc15 : p1 = (7 : Int32)
                · replace k : ow s₁ (mkF m 69 #[ow_i p1] []) := fun t q => k t (XS.iloadN X0.here hx rfl (D 34 rfl) rfl (XS.bipush X0.here hx rfl (D 35 rfl) (XS.icmpNo X0.here hx rfl (D 36 rfl) rfl (teq (show p1 = (7 : Int32) from hc15)).2 q)))
                  obtain ⟨T16, X16, e16, st16⟩ := getS2 X0 hx hZ hown (host := "") (Or.inl (own_h hw 109 rfl)) Via.refl e0 S_THROWS (g := (mkF m 69 #[ow_i p1] [])) rfl (D 37 rfl)
                  replace k : ow T16 (mkF m 72 #[ow_i p1] [(.ref w_THROWS)]) := fun t q => k t (st16 t q)
                  clear st16
                  exact own_end (v := some (.ref w_THROWS)) X16 e16 Bd.notSynchronized (own_vn Bd.returns) k (fun _ hr => own_retA X16 hx Bd.returns rfl (D 38 rfl) hr) ⟨by rw [show (own_asp p1 w_Aspect_PROGRAM w_SOURCE w_SUPERCLASS w_INTERFACES w_INTERFACE w_DECLARES_METHOD w_FLAGS w_THROWS w_PROGRAM_METHOD w_FIELD w_CONCRETE_METHOD w_METHODS) = w_THROWS from by unfold own_asp; rw [if_neg hc1, if_neg hc3, if_neg hc5, if_neg hc7, if_neg hc9, if_neg hc11, if_neg hc13, if_pos hc15]], N0, rfl⟩ (by decide) (by decide)
                · replace k : ow s₁ (mkF m 73 #[ow_i p1] []) := fun t q => k t (XS.iloadN X0.here hx rfl (D 34 rfl) rfl (XS.bipush X0.here hx rfl (D 35 rfl) (XS.icmpYes X0.here hx rfl (pc0 := 66) (pc' := 73) rfl (D 36 rfl) rfl (feq (show ¬ (p1 = (7 : Int32)) from hc15)).2 (by decide) (by decide) q)))
                  by_cases hc17 : p1 = (8 : Int32)
                  · replace k : ow s₁ (mkF m 79 #[ow_i p1] []) := fun t q => k t (XS.iloadN X0.here hx rfl (D 39 rfl) rfl (XS.bipush X0.here hx rfl (D 40 rfl) (XS.icmpNo X0.here hx rfl (D 41 rfl) rfl (teq (show p1 = (8 : Int32) from hc17)).2 q)))
                    obtain ⟨T18, X18, e18, st18⟩ := getS2 X0 hx hZ hown (host := "") (Or.inl (own_h hw 135 rfl)) Via.refl e0 S_PROGRAM_METHOD (g := (mkF m 79 #[ow_i p1] [])) rfl (D 42 rfl)
                    replace k : ow T18 (mkF m 82 #[ow_i p1] [(.ref w_PROGRAM_METHOD)]) := fun t q => k t (st18 t q)
                    clear st18
                    exact own_end (v := some (.ref w_PROGRAM_METHOD)) X18 e18 Bd.notSynchronized (own_vn Bd.returns) k (fun _ hr => own_retA X18 hx Bd.returns rfl (D 43 rfl) hr) ⟨by rw [show (own_asp p1 w_Aspect_PROGRAM w_SOURCE w_SUPERCLASS w_INTERFACES w_INTERFACE w_DECLARES_METHOD w_FLAGS w_THROWS w_PROGRAM_METHOD w_FIELD w_CONCRETE_METHOD w_METHODS) = w_PROGRAM_METHOD from by unfold own_asp; rw [if_neg hc1, if_neg hc3, if_neg hc5, if_neg hc7, if_neg hc9, if_neg hc11, if_neg hc13, if_neg hc15, if_pos hc17]], N0, rfl⟩ (by decide) (by decide)
                  · replace k : ow s₁ (mkF m 83 #[ow_i p1] []) := fun t q => k t (XS.iloadN X0.here hx rfl (D 39 rfl) rfl (XS.bipush X0.here hx rfl (D 40 rfl) (XS.icmpYes X0.here hx rfl (pc0 := 76) (pc' := 83) rfl (D 41 rfl) rfl (feq (show ¬ (p1 = (8 : Int32)) from hc17)).2 (by decide) (by decide) q)))
                    by_cases hc19 : p1 = (9 : Int32)
                    · replace k : ow s₁ (mkF m 89 #[ow_i p1] []) := fun t q => k t (XS.iloadN X0.here hx rfl (D 44 rfl) rfl (XS.bipush X0.here hx rfl (D 45 rfl) (XS.icmpNo X0.here hx rfl (D 46 rfl) rfl (teq (show p1 = (9 : Int32) from hc19)).2 q)))
                      obtain ⟨T20, X20, e20, st20⟩ := getS2 X0 hx hZ hown (host := "") (Or.inl (own_h hw 121 rfl)) Via.refl e0 S_FIELD (g := (mkF m 89 #[ow_i p1] [])) rfl (D 47 rfl)
                      replace k : ow T20 (mkF m 92 #[ow_i p1] [(.ref w_FIELD)]) := fun t q => k t (st20 t q)
                      clear st20
                      exact own_end (v := some (.ref w_FIELD)) X20 e20 Bd.notSynchronized (own_vn Bd.returns) k (fun _ hr => own_retA X20 hx Bd.returns rfl (D 48 rfl) hr) ⟨by rw [show (own_asp p1 w_Aspect_PROGRAM w_SOURCE w_SUPERCLASS w_INTERFACES w_INTERFACE w_DECLARES_METHOD w_FLAGS w_THROWS w_PROGRAM_METHOD w_FIELD w_CONCRETE_METHOD w_METHODS) = w_FIELD from by unfold own_asp; rw [if_neg hc1, if_neg hc3, if_neg hc5, if_neg hc7, if_neg hc9, if_neg hc11, if_neg hc13, if_neg hc15, if_neg hc17, if_pos hc19]], N0, rfl⟩ (by decide) (by decide)
                    · replace k : ow s₁ (mkF m 93 #[ow_i p1] []) := fun t q => k t (XS.iloadN X0.here hx rfl (D 44 rfl) rfl (XS.bipush X0.here hx rfl (D 45 rfl) (XS.icmpYes X0.here hx rfl (pc0 := 86) (pc' := 93) rfl (D 46 rfl) rfl (feq (show ¬ (p1 = (9 : Int32)) from hc19)).2 (by decide) (by decide) q)))
                      by_cases hc21 : p1 = (10 : Int32)
                      · replace k : ow s₁ (mkF m 99 #[ow_i p1] []) := fun t q => k t (XS.iloadN X0.here hx rfl (D 49 rfl) rfl (XS.bipush X0.here hx rfl (D 50 rfl) (XS.icmpNo X0.here hx rfl (D 51 rfl) rfl (teq (show p1 = (10 : Int32) from hc21)).2 q)))
                        obtain ⟨T22, X22, e22, st22⟩ := getS2 X0 hx hZ hown (host := "") (Or.inl (own_h hw 125 rfl)) Via.refl e0 S_CONCRETE_METHOD (g := (mkF m 99 #[ow_i p1] [])) rfl (D 52 rfl)
                        replace k : ow T22 (mkF m 102 #[ow_i p1] [(.ref w_CONCRETE_METHOD)]) := fun t q => k t (st22 t q)
                        clear st22
                        exact own_end (v := some (.ref w_CONCRETE_METHOD)) X22 e22 Bd.notSynchronized (own_vn Bd.returns) k (fun _ hr => own_retA X22 hx Bd.returns rfl (D 53 rfl) hr) ⟨by rw [show (own_asp p1 w_Aspect_PROGRAM w_SOURCE w_SUPERCLASS w_INTERFACES w_INTERFACE w_DECLARES_METHOD w_FLAGS w_THROWS w_PROGRAM_METHOD w_FIELD w_CONCRETE_METHOD w_METHODS) = w_CONCRETE_METHOD from by unfold own_asp; rw [if_neg hc1, if_neg hc3, if_neg hc5, if_neg hc7, if_neg hc9, if_neg hc11, if_neg hc13, if_neg hc15, if_neg hc17, if_neg hc19, if_pos hc21]], N0, rfl⟩ (by decide) (by decide)
                      · replace k : ow s₁ (mkF m 103 #[ow_i p1] []) := fun t q => k t (XS.iloadN X0.here hx rfl (D 49 rfl) rfl (XS.bipush X0.here hx rfl (D 50 rfl) (XS.icmpYes X0.here hx rfl (pc0 := 96) (pc' := 103) rfl (D 51 rfl) rfl (feq (show ¬ (p1 = (10 : Int32)) from hc21)).2 (by decide) (by decide) q)))
                        obtain ⟨T23, X23, e23, st23⟩ := getS2 X0 hx hZ hown (host := "") (Or.inl (own_h hw 131 rfl)) Via.refl e0 S_METHODS (g := (mkF m 103 #[ow_i p1] [])) rfl (D 54 rfl)
                        replace k : ow T23 (mkF m 106 #[ow_i p1] [(.ref w_METHODS)]) := fun t q => k t (st23 t q)
                        clear st23
                        exact own_end (v := some (.ref w_METHODS)) X23 e23 Bd.notSynchronized (own_vn Bd.returns) k (fun _ hr => own_retA X23 hx Bd.returns rfl (D 55 rfl) hr) ⟨by rw [show (own_asp p1 w_Aspect_PROGRAM w_SOURCE w_SUPERCLASS w_INTERFACES w_INTERFACE w_DECLARES_METHOD w_FLAGS w_THROWS w_PROGRAM_METHOD w_FIELD w_CONCRETE_METHOD w_METHODS) = w_METHODS from by unfold own_asp; rw [if_neg hc1, if_neg hc3, if_neg hc5, if_neg hc7, if_neg hc9, if_neg hc11, if_neg hc13, if_neg hc15, if_neg hc17, if_neg hc19, if_neg hc21]], N0, rfl⟩ (by decide) (by decide)
theorem own_d10 : own_all jdk_30_method_1_code [(0, .aload_n 0, 1), (1, .invokespecial 1, 3), (4, .return_, 1)] := by decide +kernel
theorem own_ef10 (m : MethodId) (x0 : Addr) : entryFrame m #[(.ref x0)] 1 = mkF m 0 #[ow_r x0] [] := by first | (simp [entryFrame, mkF, argsToLocals, Value.category]; done) | rfl
theorem own_pn10 : plainName "java/lang/Record" = true := by first | (simp [plainName, overriddenIn]; done) | decide +kernel
set_option maxRecDepth 65536 in
set_option maxHeartbeats 40000000 in
theorem own_m10 (l : Launch) (Z : State) (a0 : Array Value) (hw : ∀ d ∈ tables_1, d.before a0 Z = true) (ws : List Jvm.Cond) (a1 : Addr) (h0 : Heap) (n0 : Nat) (Z0 : n0 ≤ h0.size) :
    own_MF l Z own_y10 ws jdk_30_method_1_code 1 none ({ frames := 1, cells := 0, slots := 0, locals := 12 } : Room) #[(.ref a1)] h0 (own_Q none h0 n0) := by
  refine own_go "java/lang/Record" rfl (plainFor_of_name own_pn10) (fun m => own_ef10 m a1) own_d10 n0 fun p e s m below meth c s₁ A0 Bd hx D hml hown hnm X0 hZ e0 N0 k => ?_
  obtain ⟨T1, X1, e1, st1⟩ := initO X0 hx hZ hown (own_h hw 58 rfl) (own_h hw 25 rfl) (own_h hw 26 rfl) e0 (g := (mkF m 1 #[ow_r a1] [(.ref a1)])) rfl (by rw [hml]; rfl) rfl (D 1 rfl) (by decide) (W := 0) own_le (by decide)
  replace k : ow T1 (mkF m 4 #[ow_r a1] []) := fun t q => k t (XS.aloadN X0.here hx rfl (D 0 rfl) rfl rfl (st1 t q))
  clear st1
  exact own_end (v := none) X1 e1 Bd.notSynchronized (fun _ => rfl) k (fun _ hr => X1.returnOut hx Bd.returns (D 2 rfl) hr) ⟨rfl, N0, rfl⟩ (by decide) (by decide)
theorem own_d9 : own_all prog_76_method_1_code [(0, .aload_n 0, 1), (1, .invokespecial 1, 3), (4, .aload_n 0, 1), (5, .aload_n 1, 1), (6, .putfield 7, 3), (9, .aload_n 0, 1), (10, .aload_n 2, 1), (11, .putfield 13, 3), (14, .aload_n 0, 1), (15, .aload_n 3, 1), (16, .putfield 17, 3), (19, .aload_n 0, 1), (20, .aload 4, 2), (22, .putfield 21, 3), (25, .aload_n 0, 1), (26, .aload 5, 2), (28, .putfield 24, 3), (31, .return_, 1)] := by decide +kernel
theorem own_pd5 : parseMethodDescriptor "()V" = some ⟨[], none⟩ := by decide +kernel
theorem own_ef9 (m : MethodId) (x0 : Addr) (x1 : Addr) (x2 : Addr) (x3 : Addr) (x4 : Addr) (x5 : Addr) : entryFrame m #[(.ref x0), (.ref x1), (.ref x2), (.ref x3), (.ref x4), (.ref x5)] 6 = mkF m 0 #[ow_r x0, ow_r x1, ow_r x2, ow_r x3, ow_r x4, ow_r x5] [] := by first | (simp [entryFrame, mkF, argsToLocals, Value.category]; done) | rfl
theorem own_pn9 : plainName "com/example/callsite/callsite/bytecode/ClassRead" = true := by first | (simp [plainName, overriddenIn]; done) | decide +kernel
def own_m9_Q (Z : State) (a1 : Addr) (a2 : Addr) (a3 : Addr) (a4 : Addr) (a5 : Addr) (a6 : Addr) (u_name_a1 : Value) (u_source_a1 : Value) (u_aspect_a1 : Value) (u_member_a1 : Value) (u_answer_a1 : Value) (h0 : Heap) (n0 : Nat) (v : Option Value) (h : Heap) (L : List Loc) : Prop := v = none ∧ Fr n0 L ∧ Keep h0 h [a1] ∧ Exa Z h a1 "com/example/callsite/callsite/bytecode/ClassRead" ∧ Fld Z h a1 "com/example/callsite/callsite/bytecode/ClassRead" "name" "Ljava/lang/String;" (.ref a2) ∧ Fld Z h a1 "com/example/callsite/callsite/bytecode/ClassRead" "source" "Lcom/example/callsite/callsite/bytecode/ClassRead$Source;" (.ref a3) ∧ Fld Z h a1 "com/example/callsite/callsite/bytecode/ClassRead" "aspect" "Lcom/example/callsite/callsite/bytecode/ClassRead$Aspect;" (.ref a4) ∧ Fld Z h a1 "com/example/callsite/callsite/bytecode/ClassRead" "member" "Ljava/lang/String;" (.ref a5) ∧ Fld Z h a1 "com/example/callsite/callsite/bytecode/ClassRead" "answer" "Ljava/lang/String;" (.ref a6)
set_option maxRecDepth 65536 in
set_option maxHeartbeats 40000000 in
theorem own_m9 (l : Launch) (Z : State) (a0 : Array Value) (hw : ∀ d ∈ tables_1, d.before a0 Z = true) (ws : List Jvm.Cond) (a1 : Addr) (a2 : Addr) (a3 : Addr) (a4 : Addr) (a5 : Addr) (a6 : Addr) (u_name_a1 : Value) (u_source_a1 : Value) (u_aspect_a1 : Value) (u_member_a1 : Value) (u_answer_a1 : Value) (h0 : Heap) (n0 : Nat) (Z0 : n0 ≤ h0.size) (E_a1 : Exa Z h0 a1 "com/example/callsite/callsite/bytecode/ClassRead") (F_name_a1 : Fld Z h0 a1 "com/example/callsite/callsite/bytecode/ClassRead" "name" "Ljava/lang/String;" u_name_a1) (g_a1 : n0 ≤ a1) (F_source_a1 : Fld Z h0 a1 "com/example/callsite/callsite/bytecode/ClassRead" "source" "Lcom/example/callsite/callsite/bytecode/ClassRead$Source;" u_source_a1) (F_aspect_a1 : Fld Z h0 a1 "com/example/callsite/callsite/bytecode/ClassRead" "aspect" "Lcom/example/callsite/callsite/bytecode/ClassRead$Aspect;" u_aspect_a1) (F_member_a1 : Fld Z h0 a1 "com/example/callsite/callsite/bytecode/ClassRead" "member" "Ljava/lang/String;" u_member_a1) (F_answer_a1 : Fld Z h0 a1 "com/example/callsite/callsite/bytecode/ClassRead" "answer" "Ljava/lang/String;" u_answer_a1) :
    own_MF l Z own_y9 ws prog_76_method_1_code 6 none ({ frames := 2, cells := 0, slots := 0, locals := 24 } : Room) #[(.ref a1), (.ref a2), (.ref a3), (.ref a4), (.ref a5), (.ref a6)] h0 (own_m9_Q Z a1 a2 a3 a4 a5 a6 u_name_a1 u_source_a1 u_aspect_a1 u_member_a1 u_answer_a1 h0 n0) := by
  refine own_go "com/example/callsite/callsite/bytecode/ClassRead" rfl (plainFor_of_name own_pn9) (fun m => own_ef9 m a1 a2 a3 a4 a5 a6) own_d9 n0 fun p e s m below meth c s₁ A0 Bd hx D hml hown hnm X0 hZ e0 N0 k => ?_
  obtain ⟨_, _, ⟨T1, L1, k1, n1⟩, -, X1, ⟨Lc1, hQ1, l1, y1, z1⟩, st1⟩ := X0.specialBack hx (y := own_y10) rfl hown (mvT hZ (own_h hw 53 rfl)) (mvT hZ (own_h hw 54 rfl)) (mvT hZ (own_h hw 57 rfl)) (by decide) (backOf (W := 0) (own_m10 l Z a0 hw [] a1 h0 n0 Z0 ) hZ (own_h hw 57 rfl) (own_h hw 56 rfl) (by decide) (by decide)) (g := (mkF m 1 #[ow_r a1, ow_r a2, ow_r a3, ow_r a4, ow_r a5, ow_r a6] [(.ref a1)])) rfl (by rw [hml]; rfl) (Steps.refl _) (a := a1) (argsL := []) (rest := []) (lenOf own_pd5 rfl) rfl own_le (D 1 rfl) (fun _ _ => ⟨rfl, e0, (by decide : 0 + 0 ≤ _), (by decide : 0 + 0 ≤ _)⟩)
  dsimp only [Pt.U, Pt.locs, Pt.cells, Pt.slots] at X1 l1 y1 z1 st1 hQ1
  subst l1 y1 z1
  obtain ⟨rfl, N1q, e1⟩ := hQ1
  have N1 := Fr.app N0 N1q
  replace k : ow T1 (mkF m 4 #[ow_r a1, ow_r a2, ow_r a3, ow_r a4, ow_r a5, ow_r a6] []) := fun t q => k t (XS.aloadN X0.here hx rfl (D 0 rfl) rfl rfl (st1.trans q))
  clear st1
  obtain ⟨T2, h2, X2, e2, W2, st2⟩ := putF X1 hx hZ hown (host := "") (Or.inl (own_h hw 59 rfl)) Via.refl e1 F_name_a1 E_a1 (Or.inr ⟨(own_h hw 60 rfl), rfl, hnm⟩) (own_h hw 36 rfl) (ty := (.object "java/lang/String")) (by decide) rfl rfl (g := (mkF m 6 #[ow_r a1, ow_r a2, ow_r a3, ow_r a4, ow_r a5, ow_r a6] [(.ref a2), (.ref a1)])) rfl rfl (D 4 rfl)
  have Fw2 := F_name_a1.same W2
  have K2 : Keep h0 h2 [a1] := (Keep.refl h0 [a1]).wr W2 (Or.inl (List.mem_of_getElem? (i := 0) rfl))
  have N2 := Fr.snoc X2 N1 g_a1
  have Z2 : n0 ≤ h2.size := Nat.le_trans Z0 (Keep.of_wr W2).1
  replace k : ow T2 (mkF m 9 #[ow_r a1, ow_r a2, ow_r a3, ow_r a4, ow_r a5, ow_r a6] []) := fun t q => k t (XS.aloadN X1.here hx rfl (D 2 rfl) rfl rfl (XS.aloadN X1.here hx rfl (D 3 rfl) rfl rfl (st2 t q)))
  clear st2
  obtain ⟨T3, h3, X3, e3, W3, st3⟩ := putF X2 hx hZ hown (host := "") (Or.inl (own_h hw 61 rfl)) Via.refl e2 (F_source_a1.other W2 (Or.inr (slot_ne (Or.inr (own_h hw 62 rfl)) (Or.inr (own_h hw 60 rfl)) (by decide) (t := (.object "com/example/callsite/callsite/bytecode/ClassRead$Source")) (t' := (.object "java/lang/String")) (by decide) (by decide)))) (E_a1.wr W2) (Or.inr ⟨(own_h hw 62 rfl), rfl, hnm⟩) (own_h hw 36 rfl) (ty := (.object "com/example/callsite/callsite/bytecode/ClassRead$Source")) (by decide) rfl rfl (g := (mkF m 11 #[ow_r a1, ow_r a2, ow_r a3, ow_r a4, ow_r a5, ow_r a6] [(.ref a3), (.ref a1)])) rfl rfl (D 7 rfl)
  have Fw3 := (F_source_a1.other W2 (Or.inr (slot_ne (Or.inr (own_h hw 62 rfl)) (Or.inr (own_h hw 60 rfl)) (by decide) (t := (.object "com/example/callsite/callsite/bytecode/ClassRead$Source")) (t' := (.object "java/lang/String")) (by decide) (by decide)))).same W3
  have K3 : Keep h0 h3 [a1] := K2.wr W3 (Or.inl (List.mem_of_getElem? (i := 0) rfl))
  have N3 := Fr.snoc X3 N2 g_a1
  have Z3 : n0 ≤ h3.size := Nat.le_trans Z2 (Keep.of_wr W3).1
  replace k : ow T3 (mkF m 14 #[ow_r a1, ow_r a2, ow_r a3, ow_r a4, ow_r a5, ow_r a6] []) := fun t q => k t (XS.aloadN X2.here hx rfl (D 5 rfl) rfl rfl (XS.aloadN X2.here hx rfl (D 6 rfl) rfl rfl (st3 t q)))
  clear st3
  obtain ⟨T4, h4, X4, e4, W4, st4⟩ := putF X3 hx hZ hown (host := "") (Or.inl (own_h hw 63 rfl)) Via.refl e3 ((F_aspect_a1.other W2 (Or.inr (slot_ne (Or.inr (own_h hw 64 rfl)) (Or.inr (own_h hw 60 rfl)) (by decide) (t := (.object "com/example/callsite/callsite/bytecode/ClassRead$Aspect")) (t' := (.object "java/lang/String")) (by decide) (by decide)))).other W3 (Or.inr (slot_ne (Or.inr (own_h hw 64 rfl)) (Or.inr (own_h hw 62 rfl)) (by decide) (t := (.object "com/example/callsite/callsite/bytecode/ClassRead$Aspect")) (t' := (.object "com/example/callsite/callsite/bytecode/ClassRead$Source")) (by decide) (by decide)))) ((E_a1.wr W2).wr W3) (Or.inr ⟨(own_h hw 64 rfl), rfl, hnm⟩) (own_h hw 36 rfl) (ty := (.object "com/example/callsite/callsite/bytecode/ClassRead$Aspect")) (by decide) rfl rfl (g := (mkF m 16 #[ow_r a1, ow_r a2, ow_r a3, ow_r a4, ow_r a5, ow_r a6] [(.ref a4), (.ref a1)])) rfl rfl (D 10 rfl)
  have Fw4 := ((F_aspect_a1.other W2 (Or.inr (slot_ne (Or.inr (own_h hw 64 rfl)) (Or.inr (own_h hw 60 rfl)) (by decide) (t := (.object "com/example/callsite/callsite/bytecode/ClassRead$Aspect")) (t' := (.object "java/lang/String")) (by decide) (by decide)))).other W3 (Or.inr (slot_ne (Or.inr (own_h hw 64 rfl)) (Or.inr (own_h hw 62 rfl)) (by decide) (t := (.object "com/example/callsite/callsite/bytecode/ClassRead$Aspect")) (t' := (.object "com/example/callsite/callsite/bytecode/ClassRead$Source")) (by decide) (by decide)))).same W4
  have K4 : Keep h0 h4 [a1] := K3.wr W4 (Or.inl (List.mem_of_getElem? (i := 0) rfl))
  have N4 := Fr.snoc X4 N3 g_a1
  have Z4 : n0 ≤ h4.size := Nat.le_trans Z3 (Keep.of_wr W4).1
  replace k : ow T4 (mkF m 19 #[ow_r a1, ow_r a2, ow_r a3, ow_r a4, ow_r a5, ow_r a6] []) := fun t q => k t (XS.aloadN X3.here hx rfl (D 8 rfl) rfl rfl (XS.aloadN X3.here hx rfl (D 9 rfl) rfl rfl (st4 t q)))
  clear st4
  obtain ⟨T5, h5, X5, e5, W5, st5⟩ := putF X4 hx hZ hown (host := "") (Or.inl (own_h hw 65 rfl)) Via.refl e4 (((F_member_a1.other W2 (Or.inr (slot_ne (Or.inr (own_h hw 66 rfl)) (Or.inr (own_h hw 60 rfl)) (by decide) (t := (.object "java/lang/String")) (t' := (.object "java/lang/String")) (by decide) (by decide)))).other W3 (Or.inr (slot_ne (Or.inr (own_h hw 66 rfl)) (Or.inr (own_h hw 62 rfl)) (by decide) (t := (.object "java/lang/String")) (t' := (.object "com/example/callsite/callsite/bytecode/ClassRead$Source")) (by decide) (by decide)))).other W4 (Or.inr (slot_ne (Or.inr (own_h hw 66 rfl)) (Or.inr (own_h hw 64 rfl)) (by decide) (t := (.object "java/lang/String")) (t' := (.object "com/example/callsite/callsite/bytecode/ClassRead$Aspect")) (by decide) (by decide)))) (((E_a1.wr W2).wr W3).wr W4) (Or.inr ⟨(own_h hw 66 rfl), rfl, hnm⟩) (own_h hw 36 rfl) (ty := (.object "java/lang/String")) (by decide) rfl rfl (g := (mkF m 22 #[ow_r a1, ow_r a2, ow_r a3, ow_r a4, ow_r a5, ow_r a6] [(.ref a5), (.ref a1)])) rfl rfl (D 13 rfl)
  have Fw5 := (((F_member_a1.other W2 (Or.inr (slot_ne (Or.inr (own_h hw 66 rfl)) (Or.inr (own_h hw 60 rfl)) (by decide) (t := (.object "java/lang/String")) (t' := (.object "java/lang/String")) (by decide) (by decide)))).other W3 (Or.inr (slot_ne (Or.inr (own_h hw 66 rfl)) (Or.inr (own_h hw 62 rfl)) (by decide) (t := (.object "java/lang/String")) (t' := (.object "com/example/callsite/callsite/bytecode/ClassRead$Source")) (by decide) (by decide)))).other W4 (Or.inr (slot_ne (Or.inr (own_h hw 66 rfl)) (Or.inr (own_h hw 64 rfl)) (by decide) (t := (.object "java/lang/String")) (t' := (.object "com/example/callsite/callsite/bytecode/ClassRead$Aspect")) (by decide) (by decide)))).same W5
  have K5 : Keep h0 h5 [a1] := K4.wr W5 (Or.inl (List.mem_of_getElem? (i := 0) rfl))
  have N5 := Fr.snoc X5 N4 g_a1
  have Z5 : n0 ≤ h5.size := Nat.le_trans Z4 (Keep.of_wr W5).1
  replace k : ow T5 (mkF m 25 #[ow_r a1, ow_r a2, ow_r a3, ow_r a4, ow_r a5, ow_r a6] []) := fun t q => k t (XS.aloadN X4.here hx rfl (D 11 rfl) rfl rfl (XS.aload X4.here hx rfl (D 12 rfl) rfl rfl (st5 t q)))
  clear st5
  obtain ⟨T6, h6, X6, e6, W6, st6⟩ := putF X5 hx hZ hown (host := "") (Or.inl (own_h hw 67 rfl)) Via.refl e5 ((((F_answer_a1.other W2 (Or.inr (slot_ne (Or.inr (own_h hw 68 rfl)) (Or.inr (own_h hw 60 rfl)) (by decide) (t := (.object "java/lang/String")) (t' := (.object "java/lang/String")) (by decide) (by decide)))).other W3 (Or.inr (slot_ne (Or.inr (own_h hw 68 rfl)) (Or.inr (own_h hw 62 rfl)) (by decide) (t := (.object "java/lang/String")) (t' := (.object "com/example/callsite/callsite/bytecode/ClassRead$Source")) (by decide) (by decide)))).other W4 (Or.inr (slot_ne (Or.inr (own_h hw 68 rfl)) (Or.inr (own_h hw 64 rfl)) (by decide) (t := (.object "java/lang/String")) (t' := (.object "com/example/callsite/callsite/bytecode/ClassRead$Aspect")) (by decide) (by decide)))).other W5 (Or.inr (slot_ne (Or.inr (own_h hw 68 rfl)) (Or.inr (own_h hw 66 rfl)) (by decide) (t := (.object "java/lang/String")) (t' := (.object "java/lang/String")) (by decide) (by decide)))) ((((E_a1.wr W2).wr W3).wr W4).wr W5) (Or.inr ⟨(own_h hw 68 rfl), rfl, hnm⟩) (own_h hw 36 rfl) (ty := (.object "java/lang/String")) (by decide) rfl rfl (g := (mkF m 28 #[ow_r a1, ow_r a2, ow_r a3, ow_r a4, ow_r a5, ow_r a6] [(.ref a6), (.ref a1)])) rfl rfl (D 16 rfl)
  have Fw6 := ((((F_answer_a1.other W2 (Or.inr (slot_ne (Or.inr (own_h hw 68 rfl)) (Or.inr (own_h hw 60 rfl)) (by decide) (t := (.object "java/lang/String")) (t' := (.object "java/lang/String")) (by decide) (by decide)))).other W3 (Or.inr (slot_ne (Or.inr (own_h hw 68 rfl)) (Or.inr (own_h hw 62 rfl)) (by decide) (t := (.object "java/lang/String")) (t' := (.object "com/example/callsite/callsite/bytecode/ClassRead$Source")) (by decide) (by decide)))).other W4 (Or.inr (slot_ne (Or.inr (own_h hw 68 rfl)) (Or.inr (own_h hw 64 rfl)) (by decide) (t := (.object "java/lang/String")) (t' := (.object "com/example/callsite/callsite/bytecode/ClassRead$Aspect")) (by decide) (by decide)))).other W5 (Or.inr (slot_ne (Or.inr (own_h hw 68 rfl)) (Or.inr (own_h hw 66 rfl)) (by decide) (t := (.object "java/lang/String")) (t' := (.object "java/lang/String")) (by decide) (by decide)))).same W6
  have K6 : Keep h0 h6 [a1] := K5.wr W6 (Or.inl (List.mem_of_getElem? (i := 0) rfl))
  have N6 := Fr.snoc X6 N5 g_a1
  have Z6 : n0 ≤ h6.size := Nat.le_trans Z5 (Keep.of_wr W6).1
  replace k : ow T6 (mkF m 31 #[ow_r a1, ow_r a2, ow_r a3, ow_r a4, ow_r a5, ow_r a6] []) := fun t q => k t (XS.aloadN X5.here hx rfl (D 14 rfl) rfl rfl (XS.aload X5.here hx rfl (D 15 rfl) rfl rfl (st6 t q)))
  clear st6
  exact own_end (v := none) X6 e6 Bd.notSynchronized (fun _ => rfl) k (fun _ hr => X6.returnOut hx Bd.returns (D 17 rfl) hr) ⟨rfl, N6, K6, (((((E_a1.wr W2).wr W3).wr W4).wr W5).wr W6), ((((Fw2.other W3 (Or.inr (slot_ne (Or.inr (own_h hw 60 rfl)) (Or.inr (own_h hw 62 rfl)) (by decide) (t := (.object "java/lang/String")) (t' := (.object "com/example/callsite/callsite/bytecode/ClassRead$Source")) (by decide) (by decide)))).other W4 (Or.inr (slot_ne (Or.inr (own_h hw 60 rfl)) (Or.inr (own_h hw 64 rfl)) (by decide) (t := (.object "java/lang/String")) (t' := (.object "com/example/callsite/callsite/bytecode/ClassRead$Aspect")) (by decide) (by decide)))).other W5 (Or.inr (slot_ne (Or.inr (own_h hw 60 rfl)) (Or.inr (own_h hw 66 rfl)) (by decide) (t := (.object "java/lang/String")) (t' := (.object "java/lang/String")) (by decide) (by decide)))).other W6 (Or.inr (slot_ne (Or.inr (own_h hw 60 rfl)) (Or.inr (own_h hw 68 rfl)) (by decide) (t := (.object "java/lang/String")) (t' := (.object "java/lang/String")) (by decide) (by decide)))), (((Fw3.other W4 (Or.inr (slot_ne (Or.inr (own_h hw 62 rfl)) (Or.inr (own_h hw 64 rfl)) (by decide) (t := (.object "com/example/callsite/callsite/bytecode/ClassRead$Source")) (t' := (.object "com/example/callsite/callsite/bytecode/ClassRead$Aspect")) (by decide) (by decide)))).other W5 (Or.inr (slot_ne (Or.inr (own_h hw 62 rfl)) (Or.inr (own_h hw 66 rfl)) (by decide) (t := (.object "com/example/callsite/callsite/bytecode/ClassRead$Source")) (t' := (.object "java/lang/String")) (by decide) (by decide)))).other W6 (Or.inr (slot_ne (Or.inr (own_h hw 62 rfl)) (Or.inr (own_h hw 68 rfl)) (by decide) (t := (.object "com/example/callsite/callsite/bytecode/ClassRead$Source")) (t' := (.object "java/lang/String")) (by decide) (by decide)))), ((Fw4.other W5 (Or.inr (slot_ne (Or.inr (own_h hw 64 rfl)) (Or.inr (own_h hw 66 rfl)) (by decide) (t := (.object "com/example/callsite/callsite/bytecode/ClassRead$Aspect")) (t' := (.object "java/lang/String")) (by decide) (by decide)))).other W6 (Or.inr (slot_ne (Or.inr (own_h hw 64 rfl)) (Or.inr (own_h hw 68 rfl)) (by decide) (t := (.object "com/example/callsite/callsite/bytecode/ClassRead$Aspect")) (t' := (.object "java/lang/String")) (by decide) (by decide)))), (Fw5.other W6 (Or.inr (slot_ne (Or.inr (own_h hw 66 rfl)) (Or.inr (own_h hw 68 rfl)) (by decide) (t := (.object "java/lang/String")) (t' := (.object "java/lang/String")) (by decide) (by decide)))), Fw6⟩ (by decide) (by decide)
theorem own_d12 : own_all prog_76_method_2_code [(0, .aload_n 1, 1), (1, .instanceof 8, 3), (4, .ifCond .eq 76, 3), (7, .aload_n 1, 1), (8, .checkcast 8, 3), (11, .astore_n 2, 1), (12, .aload_n 0, 1), (13, .getfield 13, 3), (16, .aload_n 2, 1), (17, .getfield 13, 3), (20, .if_acmp .ne 60, 3), (23, .aload_n 0, 1), (24, .getfield 17, 3), (27, .aload_n 2, 1), (28, .getfield 17, 3), (31, .if_acmp .ne 49, 3), (34, .aload_n 0, 1), (35, .getfield 7, 3), (38, .aload_n 2, 1), (39, .getfield 7, 3), (42, .invokevirtual 27, 3), (45, .ifCond .eq 35, 3), (48, .aload_n 0, 1), (49, .getfield 21, 3), (52, .aload_n 2, 1), (53, .getfield 21, 3), (56, .invokevirtual 27, 3), (59, .ifCond .eq 21, 3), (62, .aload_n 0, 1), (63, .getfield 24, 3), (66, .aload_n 2, 1), (67, .getfield 24, 3), (70, .invokevirtual 27, 3), (73, .ifCond .eq 7, 3), (76, .iconst 1, 1), (77, .goto 4, 3), (81, .ireturn, 1), (80, .iconst 0, 1)] := by decide +kernel
theorem own_ef12 (m : MethodId) (x0 : Addr) (x1 : Addr) : entryFrame m #[(.ref x0), (.ref x1)] 3 = mkF m 0 #[ow_r x0, ow_r x1, .unset] [] := by first | (simp [entryFrame, mkF, argsToLocals, Value.category]; done) | rfl
theorem own_pn12 : plainName "com/example/callsite/callsite/bytecode/ClassRead" = true := by first | (simp [plainName, overriddenIn]; done) | decide +kernel
def own_f12_r (w_source_a1 : Addr) (w_source_a2 : Addr) (w_aspect_a1 : Addr) (w_aspect_a2 : Addr) (cs_w_name_a1 : List Int32) (cs_w_name_a2 : List Int32) (cs_w_member_a1 : List Int32) (cs_w_member_a2 : List Int32) (cs_w_answer_a1 : List Int32) (cs_w_answer_a2 : List Int32) : Int32 := (if w_source_a1 = w_source_a2 then (if w_aspect_a1 = w_aspect_a2 then (if cs_w_name_a1 = cs_w_name_a2 then (if cs_w_member_a1 = cs_w_member_a2 then (if cs_w_answer_a1 = cs_w_answer_a2 then (1 : Int32) else (0 : Int32)) else (0 : Int32)) else (0 : Int32)) else (0 : Int32)) else (0 : Int32))
set_option maxRecDepth 65536 in
set_option maxHeartbeats 40000000 in
theorem own_m12_r (l : Launch) (Z : State) (a0 : Array Value) (hw : ∀ d ∈ tables_1, d.before a0 Z = true) (ws : List Jvm.Cond) (a1 : Addr) (a2 : Addr) (w_source_a1 : Addr) (w_source_a2 : Addr) (w_aspect_a1 : Addr) (w_aspect_a2 : Addr) (w_name_a1 : Addr) (w_name_a2 : Addr) (cs_w_name_a1 : List Int32) (cs_w_name_a2 : List Int32) (w_COMPACT_STRINGS : Int32) (w_member_a1 : Addr) (w_member_a2 : Addr) (cs_w_member_a1 : List Int32) (cs_w_member_a2 : List Int32) (w_answer_a1 : Addr) (w_answer_a2 : Addr) (cs_w_answer_a1 : List Int32) (cs_w_answer_a2 : List Int32) (h0 : Heap) (n0 : Nat) (Z0 : n0 ≤ h0.size) (E_a2 : Exa Z h0 a2 "com/example/callsite/callsite/bytecode/ClassRead") (F_source_a1 : Fld Z h0 a1 "com/example/callsite/callsite/bytecode/ClassRead" "source" "Lcom/example/callsite/callsite/bytecode/ClassRead$Source;" (.ref w_source_a1)) (F_source_a2 : Fld Z h0 a2 "com/example/callsite/callsite/bytecode/ClassRead" "source" "Lcom/example/callsite/callsite/bytecode/ClassRead$Source;" (.ref w_source_a2)) (F_aspect_a1 : Fld Z h0 a1 "com/example/callsite/callsite/bytecode/ClassRead" "aspect" "Lcom/example/callsite/callsite/bytecode/ClassRead$Aspect;" (.ref w_aspect_a1)) (F_aspect_a2 : Fld Z h0 a2 "com/example/callsite/callsite/bytecode/ClassRead" "aspect" "Lcom/example/callsite/callsite/bytecode/ClassRead$Aspect;" (.ref w_aspect_a2)) (F_name_a1 : Fld Z h0 a1 "com/example/callsite/callsite/bytecode/ClassRead" "name" "Ljava/lang/String;" (.ref w_name_a1)) (F_name_a2 : Fld Z h0 a2 "com/example/callsite/callsite/bytecode/ClassRead" "name" "Ljava/lang/String;" (.ref w_name_a2)) (T_w_name_a1 : own_Str Z h0 w_name_a1 cs_w_name_a1) (T_w_name_a2 : own_Str Z h0 w_name_a2 cs_w_name_a2) (S_COMPACT_STRINGS : Sta Z h0 "java/lang/String" "COMPACT_STRINGS" "Z" (.int w_COMPACT_STRINGS)) (F_member_a1 : Fld Z h0 a1 "com/example/callsite/callsite/bytecode/ClassRead" "member" "Ljava/lang/String;" (.ref w_member_a1)) (F_member_a2 : Fld Z h0 a2 "com/example/callsite/callsite/bytecode/ClassRead" "member" "Ljava/lang/String;" (.ref w_member_a2)) (T_w_member_a1 : own_Str Z h0 w_member_a1 cs_w_member_a1) (T_w_member_a2 : own_Str Z h0 w_member_a2 cs_w_member_a2) (F_answer_a1 : Fld Z h0 a1 "com/example/callsite/callsite/bytecode/ClassRead" "answer" "Ljava/lang/String;" (.ref w_answer_a1)) (F_answer_a2 : Fld Z h0 a2 "com/example/callsite/callsite/bytecode/ClassRead" "answer" "Ljava/lang/String;" (.ref w_answer_a2)) (T_w_answer_a1 : own_Str Z h0 w_answer_a1 cs_w_answer_a1) (T_w_answer_a2 : own_Str Z h0 w_answer_a2 cs_w_answer_a2) (hz : ¬ (w_COMPACT_STRINGS = (0 : Int32))) :
    own_MF l Z own_y12 ws prog_76_method_2_code 3 (some .boolean) ({ frames := 2, cells := 0, slots := 0, locals := 28 } : Room) #[(.ref a1), (.ref a2)] h0 (own_Q (some (.int (own_f12_r w_source_a1 w_source_a2 w_aspect_a1 w_aspect_a2 cs_w_name_a1 cs_w_name_a2 cs_w_member_a1 cs_w_member_a2 cs_w_answer_a1 cs_w_answer_a2))) h0 n0) := by
  refine own_go "com/example/callsite/callsite/bytecode/ClassRead" rfl (plainFor_of_name own_pn12) (fun m => own_ef12 m a1 a2) own_d12 n0 fun p e s m below meth c s₁ A0 Bd hx D hml hown hnm X0 hZ e0 N0 k => ?_
  obtain ⟨T1, X1, e1, st1⟩ := instY X0 hx hZ hown (own_h hw 77 rfl) e0 (Ins.self E_a2) (g := (mkF m 1 #[ow_r a1, ow_r a2, .unset] [(.ref a2)])) rfl rfl (D 1 rfl)
  replace k : ow T1 (mkF m 4 #[ow_r a1, ow_r a2, .unset] [(.int 1)]) := fun t q => k t (XS.aloadN X0.here hx rfl (D 0 rfl) rfl rfl (st1 t q))
  clear st1
  replace k : ow T1 (mkF m 7 #[ow_r a1, ow_r a2, .unset] []) := fun t q => k t (XS.ifNo X1.here hx rfl (D 2 rfl) rfl ((if0 _ _).trans (feq (show ¬ ((1 : Int32) = (0 : Int32)) from (by decide))).1) q)
  obtain ⟨T2, X2, e2, st2⟩ := castY X1 hx hZ hown (own_h hw 77 rfl) e1 (Ins.self E_a2) (g := (mkF m 8 #[ow_r a1, ow_r a2, .unset] [(.ref a2)])) rfl rfl (D 4 rfl)
  replace k : ow T2 (mkF m 11 #[ow_r a1, ow_r a2, .unset] [(.ref a2)]) := fun t q => k t (XS.aloadN X1.here hx rfl (D 3 rfl) rfl rfl (st2 t q))
  clear st2
  obtain ⟨T3, X3, e3, st3⟩ := getF X2 hx hZ hown (host := "") (Or.inl (own_h hw 61 rfl)) Via.refl e2 F_source_a1 (g := (mkF m 13 #[ow_r a1, ow_r a2, ow_r a2] [(.ref a1)])) rfl rfl (D 7 rfl)
  replace k : ow T3 (mkF m 16 #[ow_r a1, ow_r a2, ow_r a2] [(.ref w_source_a1)]) := fun t q => k t (XS.astoreN X2.here hx rfl (D 5 rfl) rfl rfl (l' := #[ow_r a1, ow_r a2, ow_r a2]) rfl (XS.aloadN X2.here hx rfl (D 6 rfl) rfl rfl (st3 t q)))
  clear st3
  obtain ⟨T4, X4, e4, st4⟩ := getF X3 hx hZ hown (host := "") (Or.inl (own_h hw 61 rfl)) Via.refl e3 F_source_a2 (g := (mkF m 17 #[ow_r a1, ow_r a2, ow_r a2] [(.ref a2), (.ref w_source_a1)])) rfl rfl (D 9 rfl)
  replace k : ow T4 (mkF m 20 #[ow_r a1, ow_r a2, ow_r a2] [(.ref w_source_a2), (.ref w_source_a1)]) := fun t q => k t (XS.aloadN X3.here hx rfl (D 8 rfl) rfl rfl (st4 t q))
  clear st4
  by_cases hc5 : w_source_a1 = w_source_a2
  · replace k : ow T4 (mkF m 23 #[ow_r a1, ow_r a2, ow_r a2] []) := fun t q => k t (Jvm.RoadKit.acmp (g := (mkF m 20 #[ow_r a1, ow_r a2, ow_r a2] [(.ref w_source_a2), (.ref w_source_a1)])) X4 hx rfl rfl rfl (pc0 := 20) (pc' := 23) (same := true) rfl (D 10 rfl) rfl (decide_eq_true (congrArg Value.ref hc5)) (by decide) (by decide) q)
    obtain ⟨T6, X6, e6, st6⟩ := getF X4 hx hZ hown (host := "") (Or.inl (own_h hw 63 rfl)) Via.refl e4 F_aspect_a1 (g := (mkF m 24 #[ow_r a1, ow_r a2, ow_r a2] [(.ref a1)])) rfl rfl (D 12 rfl)
    replace k : ow T6 (mkF m 27 #[ow_r a1, ow_r a2, ow_r a2] [(.ref w_aspect_a1)]) := fun t q => k t (XS.aloadN X4.here hx rfl (D 11 rfl) rfl rfl (st6 t q))
    clear st6
    obtain ⟨T7, X7, e7, st7⟩ := getF X6 hx hZ hown (host := "") (Or.inl (own_h hw 63 rfl)) Via.refl e6 F_aspect_a2 (g := (mkF m 28 #[ow_r a1, ow_r a2, ow_r a2] [(.ref a2), (.ref w_aspect_a1)])) rfl rfl (D 14 rfl)
    replace k : ow T7 (mkF m 31 #[ow_r a1, ow_r a2, ow_r a2] [(.ref w_aspect_a2), (.ref w_aspect_a1)]) := fun t q => k t (XS.aloadN X6.here hx rfl (D 13 rfl) rfl rfl (st7 t q))
    clear st7
    by_cases hc8 : w_aspect_a1 = w_aspect_a2
    · replace k : ow T7 (mkF m 34 #[ow_r a1, ow_r a2, ow_r a2] []) := fun t q => k t (Jvm.RoadKit.acmp (g := (mkF m 31 #[ow_r a1, ow_r a2, ow_r a2] [(.ref w_aspect_a2), (.ref w_aspect_a1)])) X7 hx rfl rfl rfl (pc0 := 31) (pc' := 34) (same := true) rfl (D 15 rfl) rfl (decide_eq_true (congrArg Value.ref hc8)) (by decide) (by decide) q)
      obtain ⟨T9, X9, e9, st9⟩ := getF X7 hx hZ hown (host := "") (Or.inl (own_h hw 59 rfl)) Via.refl e7 F_name_a1 (g := (mkF m 35 #[ow_r a1, ow_r a2, ow_r a2] [(.ref a1)])) rfl rfl (D 17 rfl)
      replace k : ow T9 (mkF m 38 #[ow_r a1, ow_r a2, ow_r a2] [(.ref w_name_a1)]) := fun t q => k t (XS.aloadN X7.here hx rfl (D 16 rfl) rfl rfl (st9 t q))
      clear st9
      obtain ⟨T10, X10, e10, st10⟩ := getF X9 hx hZ hown (host := "") (Or.inl (own_h hw 59 rfl)) Via.refl e9 F_name_a2 (g := (mkF m 39 #[ow_r a1, ow_r a2, ow_r a2] [(.ref a2), (.ref w_name_a1)])) rfl rfl (D 19 rfl)
      replace k : ow T10 (mkF m 42 #[ow_r a1, ow_r a2, ow_r a2] [(.ref w_name_a2), (.ref w_name_a1)]) := fun t q => k t (XS.aloadN X9.here hx rfl (D 18 rfl) rfl rfl (st10 t q))
      clear st10
      by_cases hc11 : cs_w_name_a1 = cs_w_name_a2
      · obtain ⟨T12, X12, e12, k⟩ := own_cEq X10 hx hw hZ hown e10 k T_w_name_a1 T_w_name_a2 S_COMPACT_STRINGS hz 1 (Or.inl ⟨rfl, hc11⟩) 79 80 82 81 14 rfl rfl rfl rfl rfl rfl rfl (by rw [hml]; rfl) [] rfl (W := 0) own_le (D 20 rfl) (by decide) (by decide) (by decide) (by decide)
        replace k : ow T12 (mkF m 48 #[ow_r a1, ow_r a2, ow_r a2] []) := fun t q => k t (XS.ifNo X12.here hx rfl (D 21 rfl) rfl ((if0 _ _).trans (feq (show ¬ ((1 : Int32) = (0 : Int32)) from (by decide))).1) q)
        obtain ⟨T13, X13, e13, st13⟩ := getF X12 hx hZ hown (host := "") (Or.inl (own_h hw 65 rfl)) Via.refl e12 F_member_a1 (g := (mkF m 49 #[ow_r a1, ow_r a2, ow_r a2] [(.ref a1)])) rfl rfl (D 23 rfl)
        replace k : ow T13 (mkF m 52 #[ow_r a1, ow_r a2, ow_r a2] [(.ref w_member_a1)]) := fun t q => k t (XS.aloadN X12.here hx rfl (D 22 rfl) rfl rfl (st13 t q))
        clear st13
        obtain ⟨T14, X14, e14, st14⟩ := getF X13 hx hZ hown (host := "") (Or.inl (own_h hw 65 rfl)) Via.refl e13 F_member_a2 (g := (mkF m 53 #[ow_r a1, ow_r a2, ow_r a2] [(.ref a2), (.ref w_member_a1)])) rfl rfl (D 25 rfl)
        replace k : ow T14 (mkF m 56 #[ow_r a1, ow_r a2, ow_r a2] [(.ref w_member_a2), (.ref w_member_a1)]) := fun t q => k t (XS.aloadN X13.here hx rfl (D 24 rfl) rfl rfl (st14 t q))
        clear st14
        by_cases hc15 : cs_w_member_a1 = cs_w_member_a2
        · obtain ⟨T16, X16, e16, k⟩ := own_cEq X14 hx hw hZ hown e14 k T_w_member_a1 T_w_member_a2 S_COMPACT_STRINGS hz 1 (Or.inl ⟨rfl, hc15⟩) 79 80 82 81 14 rfl rfl rfl rfl rfl rfl rfl (by rw [hml]; rfl) [] rfl (W := 0) own_le (D 26 rfl) (by decide) (by decide) (by decide) (by decide)
          replace k : ow T16 (mkF m 62 #[ow_r a1, ow_r a2, ow_r a2] []) := fun t q => k t (XS.ifNo X16.here hx rfl (D 27 rfl) rfl ((if0 _ _).trans (feq (show ¬ ((1 : Int32) = (0 : Int32)) from (by decide))).1) q)
          obtain ⟨T17, X17, e17, st17⟩ := getF X16 hx hZ hown (host := "") (Or.inl (own_h hw 67 rfl)) Via.refl e16 F_answer_a1 (g := (mkF m 63 #[ow_r a1, ow_r a2, ow_r a2] [(.ref a1)])) rfl rfl (D 29 rfl)
          replace k : ow T17 (mkF m 66 #[ow_r a1, ow_r a2, ow_r a2] [(.ref w_answer_a1)]) := fun t q => k t (XS.aloadN X16.here hx rfl (D 28 rfl) rfl rfl (st17 t q))
          clear st17
          obtain ⟨T18, X18, e18, st18⟩ := getF X17 hx hZ hown (host := "") (Or.inl (own_h hw 67 rfl)) Via.refl e17 F_answer_a2 (g := (mkF m 67 #[ow_r a1, ow_r a2, ow_r a2] [(.ref a2), (.ref w_answer_a1)])) rfl rfl (D 31 rfl)
          replace k : ow T18 (mkF m 70 #[ow_r a1, ow_r a2, ow_r a2] [(.ref w_answer_a2), (.ref w_answer_a1)]) := fun t q => k t (XS.aloadN X17.here hx rfl (D 30 rfl) rfl rfl (st18 t q))
          clear st18
          by_cases hc19 : cs_w_answer_a1 = cs_w_answer_a2
          · obtain ⟨T20, X20, e20, k⟩ := own_cEq X18 hx hw hZ hown e18 k T_w_answer_a1 T_w_answer_a2 S_COMPACT_STRINGS hz 1 (Or.inl ⟨rfl, hc19⟩) 79 80 82 81 14 rfl rfl rfl rfl rfl rfl rfl (by rw [hml]; rfl) [] rfl (W := 0) own_le (D 32 rfl) (by decide) (by decide) (by decide) (by decide)
            replace k : ow T20 (mkF m 76 #[ow_r a1, ow_r a2, ow_r a2] []) := fun t q => k t (XS.ifNo X20.here hx rfl (D 33 rfl) rfl ((if0 _ _).trans (feq (show ¬ ((1 : Int32) = (0 : Int32)) from (by decide))).1) q)
            replace k : ow T20 (mkF m 81 #[ow_r a1, ow_r a2, ow_r a2] [(.int 1)]) := fun t q => k t (XS.iconst X20.here hx rfl (D 34 rfl) (XS.goto X20.here hx rfl (pc0 := 77) (pc' := 81) rfl (D 35 rfl) (by decide) (by decide) q))
            exact own_end (v := some (.int 1)) X20 e20 Bd.notSynchronized (own_vn Bd.returns) k (fun _ hr => retN X20 hx (t := .boolean) Bd.returns (by simp) (D 36 rfl) (by first | exact hr | (rw [show nar .boolean (1 : Int32) = (1 : Int32) from by decide]; exact hr))) ⟨by rw [show (own_f12_r w_source_a1 w_source_a2 w_aspect_a1 w_aspect_a2 cs_w_name_a1 cs_w_name_a2 cs_w_member_a1 cs_w_member_a2 cs_w_answer_a1 cs_w_answer_a2) = (1 : Int32) from by unfold own_f12_r; rw [if_pos hc5, if_pos hc8, if_pos hc11, if_pos hc15, if_pos hc19]], N0, rfl⟩ (by decide) (by decide)
          · obtain ⟨T21, X21, e21, k⟩ := own_cEq X18 hx hw hZ hown e18 k T_w_answer_a1 T_w_answer_a2 S_COMPACT_STRINGS hz 0 (Or.inr ⟨rfl, hc19⟩) 79 80 82 81 14 rfl rfl rfl rfl rfl rfl rfl (by rw [hml]; rfl) [] rfl (W := 0) own_le (D 32 rfl) (by decide) (by decide) (by decide) (by decide)
            replace k : ow T21 (mkF m 80 #[ow_r a1, ow_r a2, ow_r a2] []) := fun t q => k t (XS.ifYes X21.here hx rfl (pc0 := 73) (pc' := 80) rfl (D 33 rfl) rfl ((if0 _ _).trans (teq (show (0 : Int32) = (0 : Int32) from (by decide))).1) (by decide) (by decide) q)
            replace k : ow T21 (mkF m 81 #[ow_r a1, ow_r a2, ow_r a2] [(.int 0)]) := fun t q => k t (XS.iconst X21.here hx rfl (D 37 rfl) q)
            exact own_end (v := some (.int 0)) X21 e21 Bd.notSynchronized (own_vn Bd.returns) k (fun _ hr => retN X21 hx (t := .boolean) Bd.returns (by simp) (D 36 rfl) (by first | exact hr | (rw [show nar .boolean (0 : Int32) = (0 : Int32) from by decide]; exact hr))) ⟨by rw [show (own_f12_r w_source_a1 w_source_a2 w_aspect_a1 w_aspect_a2 cs_w_name_a1 cs_w_name_a2 cs_w_member_a1 cs_w_member_a2 cs_w_answer_a1 cs_w_answer_a2) = (0 : Int32) from by unfold own_f12_r; rw [if_pos hc5, if_pos hc8, if_pos hc11, if_pos hc15, if_neg hc19]], N0, rfl⟩ (by decide) (by decide)
        · obtain ⟨T22, X22, e22, k⟩ := own_cEq X14 hx hw hZ hown e14 k T_w_member_a1 T_w_member_a2 S_COMPACT_STRINGS hz 0 (Or.inr ⟨rfl, hc15⟩) 79 80 82 81 14 rfl rfl rfl rfl rfl rfl rfl (by rw [hml]; rfl) [] rfl (W := 0) own_le (D 26 rfl) (by decide) (by decide) (by decide) (by decide)
          replace k : ow T22 (mkF m 80 #[ow_r a1, ow_r a2, ow_r a2] []) := fun t q => k t (XS.ifYes X22.here hx rfl (pc0 := 59) (pc' := 80) rfl (D 27 rfl) rfl ((if0 _ _).trans (teq (show (0 : Int32) = (0 : Int32) from (by decide))).1) (by decide) (by decide) q)
          replace k : ow T22 (mkF m 81 #[ow_r a1, ow_r a2, ow_r a2] [(.int 0)]) := fun t q => k t (XS.iconst X22.here hx rfl (D 37 rfl) q)
          exact own_end (v := some (.int 0)) X22 e22 Bd.notSynchronized (own_vn Bd.returns) k (fun _ hr => retN X22 hx (t := .boolean) Bd.returns (by simp) (D 36 rfl) (by first | exact hr | (rw [show nar .boolean (0 : Int32) = (0 : Int32) from by decide]; exact hr))) ⟨by rw [show (own_f12_r w_source_a1 w_source_a2 w_aspect_a1 w_aspect_a2 cs_w_name_a1 cs_w_name_a2 cs_w_member_a1 cs_w_member_a2 cs_w_answer_a1 cs_w_answer_a2) = (0 : Int32) from by unfold own_f12_r; rw [if_pos hc5, if_pos hc8, if_pos hc11, if_neg hc15]], N0, rfl⟩ (by decide) (by decide)
      · obtain ⟨T23, X23, e23, k⟩ := own_cEq X10 hx hw hZ hown e10 k T_w_name_a1 T_w_name_a2 S_COMPACT_STRINGS hz 0 (Or.inr ⟨rfl, hc11⟩) 79 80 82 81 14 rfl rfl rfl rfl rfl rfl rfl (by rw [hml]; rfl) [] rfl (W := 0) own_le (D 20 rfl) (by decide) (by decide) (by decide) (by decide)
        replace k : ow T23 (mkF m 80 #[ow_r a1, ow_r a2, ow_r a2] []) := fun t q => k t (XS.ifYes X23.here hx rfl (pc0 := 45) (pc' := 80) rfl (D 21 rfl) rfl ((if0 _ _).trans (teq (show (0 : Int32) = (0 : Int32) from (by decide))).1) (by decide) (by decide) q)
        replace k : ow T23 (mkF m 81 #[ow_r a1, ow_r a2, ow_r a2] [(.int 0)]) := fun t q => k t (XS.iconst X23.here hx rfl (D 37 rfl) q)
        exact own_end (v := some (.int 0)) X23 e23 Bd.notSynchronized (own_vn Bd.returns) k (fun _ hr => retN X23 hx (t := .boolean) Bd.returns (by simp) (D 36 rfl) (by first | exact hr | (rw [show nar .boolean (0 : Int32) = (0 : Int32) from by decide]; exact hr))) ⟨by rw [show (own_f12_r w_source_a1 w_source_a2 w_aspect_a1 w_aspect_a2 cs_w_name_a1 cs_w_name_a2 cs_w_member_a1 cs_w_member_a2 cs_w_answer_a1 cs_w_answer_a2) = (0 : Int32) from by unfold own_f12_r; rw [if_pos hc5, if_pos hc8, if_neg hc11]], N0, rfl⟩ (by decide) (by decide)
    · replace k : ow T7 (mkF m 80 #[ow_r a1, ow_r a2, ow_r a2] []) := fun t q => k t (Jvm.RoadKit.acmp (g := (mkF m 31 #[ow_r a1, ow_r a2, ow_r a2] [(.ref w_aspect_a2), (.ref w_aspect_a1)])) X7 hx rfl rfl rfl (pc0 := 31) (pc' := 80) (same := false) rfl (D 15 rfl) rfl (decide_eq_false fun q => hc8 (Value.ref.inj q)) (by decide) (by decide) q)
      replace k : ow T7 (mkF m 81 #[ow_r a1, ow_r a2, ow_r a2] [(.int 0)]) := fun t q => k t (XS.iconst X7.here hx rfl (D 37 rfl) q)
      exact own_end (v := some (.int 0)) X7 e7 Bd.notSynchronized (own_vn Bd.returns) k (fun _ hr => retN X7 hx (t := .boolean) Bd.returns (by simp) (D 36 rfl) (by first | exact hr | (rw [show nar .boolean (0 : Int32) = (0 : Int32) from by decide]; exact hr))) ⟨by rw [show (own_f12_r w_source_a1 w_source_a2 w_aspect_a1 w_aspect_a2 cs_w_name_a1 cs_w_name_a2 cs_w_member_a1 cs_w_member_a2 cs_w_answer_a1 cs_w_answer_a2) = (0 : Int32) from by unfold own_f12_r; rw [if_pos hc5, if_neg hc8]], N0, rfl⟩ (by decide) (by decide)
  · replace k : ow T4 (mkF m 80 #[ow_r a1, ow_r a2, ow_r a2] []) := fun t q => k t (Jvm.RoadKit.acmp (g := (mkF m 20 #[ow_r a1, ow_r a2, ow_r a2] [(.ref w_source_a2), (.ref w_source_a1)])) X4 hx rfl rfl rfl (pc0 := 20) (pc' := 80) (same := false) rfl (D 10 rfl) rfl (decide_eq_false fun q => hc5 (Value.ref.inj q)) (by decide) (by decide) q)
    replace k : ow T4 (mkF m 81 #[ow_r a1, ow_r a2, ow_r a2] [(.int 0)]) := fun t q => k t (XS.iconst X4.here hx rfl (D 37 rfl) q)
    exact own_end (v := some (.int 0)) X4 e4 Bd.notSynchronized (own_vn Bd.returns) k (fun _ hr => retN X4 hx (t := .boolean) Bd.returns (by simp) (D 36 rfl) (by first | exact hr | (rw [show nar .boolean (0 : Int32) = (0 : Int32) from by decide]; exact hr))) ⟨by rw [show (own_f12_r w_source_a1 w_source_a2 w_aspect_a1 w_aspect_a2 cs_w_name_a1 cs_w_name_a2 cs_w_member_a1 cs_w_member_a2 cs_w_answer_a1 cs_w_answer_a2) = (0 : Int32) from by unfold own_f12_r; rw [if_neg hc5]], N0, rfl⟩ (by decide) (by decide)
theorem own_ef12n (m : MethodId) (x0 : Addr) : entryFrame m #[(.ref x0), .null] 3 = mkF m 0 #[ow_r x0, .val .null, .unset] [] := by first | (simp [entryFrame, mkF, argsToLocals, Value.category]; done) | rfl
def own_f12_n : Int32 := (0 : Int32)
set_option maxRecDepth 65536 in
set_option maxHeartbeats 40000000 in
theorem own_m12_n (l : Launch) (Z : State) (a0 : Array Value) (hw : ∀ d ∈ tables_1, d.before a0 Z = true) (ws : List Jvm.Cond) (a1 : Addr) (h0 : Heap) (n0 : Nat) (Z0 : n0 ≤ h0.size) :
    own_MF l Z own_y12 ws prog_76_method_2_code 3 (some .boolean) ({ frames := 0, cells := 0, slots := 0, locals := 0 } : Room) #[(.ref a1), .null] h0 (own_Q (some (.int own_f12_n)) h0 n0) := by
  refine own_go "com/example/callsite/callsite/bytecode/ClassRead" rfl (plainFor_of_name own_pn12) (fun m => own_ef12n m a1) own_d12 n0 fun p e s m below meth c s₁ A0 Bd hx D hml hown hnm X0 hZ e0 N0 k => ?_
  replace k : ow s₁ (mkF m 4 #[ow_r a1, .val .null, .unset] [(.int 0)]) := fun t q => k t (XS.aloadN X0.here hx rfl (D 0 rfl) rfl rfl (X0.instanceofNull hx (g := (mkF m 1 #[ow_r a1, .val .null, .unset] [.null])) rfl rfl (D 1 rfl) _ q))
  replace k : ow s₁ (mkF m 80 #[ow_r a1, .val .null, .unset] []) := fun t q => k t (XS.ifYes X0.here hx rfl (pc0 := 4) (pc' := 80) rfl (D 2 rfl) rfl ((if0 _ _).trans (teq (show (0 : Int32) = (0 : Int32) from (by decide))).1) (by decide) (by decide) q)
  replace k : ow s₁ (mkF m 81 #[ow_r a1, .val .null, .unset] [(.int 0)]) := fun t q => k t (XS.iconst X0.here hx rfl (D 37 rfl) q)
  exact own_end (v := some (.int 0)) X0 e0 Bd.notSynchronized (own_vn Bd.returns) k (fun _ hr => retN X0 hx (t := .boolean) Bd.returns (by simp) (D 36 rfl) (by first | exact hr | (rw [show nar .boolean (0 : Int32) = (0 : Int32) from by decide]; exact hr))) ⟨by rw [show (own_f12_n) = (0 : Int32) from by unfold own_f12_n; rfl], N0, rfl⟩ (by decide) (by decide)
def own_f12_s : Int32 := (0 : Int32)
set_option maxRecDepth 65536 in
set_option maxHeartbeats 40000000 in
theorem own_m12_s (l : Launch) (Z : State) (a0 : Array Value) (hw : ∀ d ∈ tables_1, d.before a0 Z = true) (ws : List Jvm.Cond) (a1 : Addr) (a2 : Addr) (h0 : Heap) (n0 : Nat) (Z0 : n0 ≤ h0.size) (E_a2 : Exa Z h0 a2 "java/lang/String") :
    own_MF l Z own_y12 ws prog_76_method_2_code 3 (some .boolean) ({ frames := 0, cells := 0, slots := 0, locals := 0 } : Room) #[(.ref a1), (.ref a2)] h0 (own_Q (some (.int own_f12_s)) h0 n0) := by
  refine own_go "com/example/callsite/callsite/bytecode/ClassRead" rfl (plainFor_of_name own_pn12) (fun m => own_ef12 m a1 a2) own_d12 n0 fun p e s m below meth c s₁ A0 Bd hx D hml hown hnm X0 hZ e0 N0 k => ?_
  obtain ⟨T1, X1, e1, st1⟩ := instNo X0 hx hZ hown (own_h hw 77 rfl) e0 E_a2 (own_notinst (own_h hw 123 rfl) (own_h hw 124 rfl) (own_h hw 36 rfl) (by decide) (by decide)) (g := (mkF m 1 #[ow_r a1, ow_r a2, .unset] [(.ref a2)])) rfl rfl (D 1 rfl)
  replace k : ow T1 (mkF m 4 #[ow_r a1, ow_r a2, .unset] [(.int 0)]) := fun t q => k t (XS.aloadN X0.here hx rfl (D 0 rfl) rfl rfl (st1 t q))
  clear st1
  replace k : ow T1 (mkF m 80 #[ow_r a1, ow_r a2, .unset] []) := fun t q => k t (XS.ifYes X1.here hx rfl (pc0 := 4) (pc' := 80) rfl (D 2 rfl) rfl ((if0 _ _).trans (teq (show (0 : Int32) = (0 : Int32) from (by decide))).1) (by decide) (by decide) q)
  replace k : ow T1 (mkF m 81 #[ow_r a1, ow_r a2, .unset] [(.int 0)]) := fun t q => k t (XS.iconst X1.here hx rfl (D 37 rfl) q)
  exact own_end (v := some (.int 0)) X1 e1 Bd.notSynchronized (own_vn Bd.returns) k (fun _ hr => retN X1 hx (t := .boolean) Bd.returns (by simp) (D 36 rfl) (by first | exact hr | (rw [show nar .boolean (0 : Int32) = (0 : Int32) from by decide]; exact hr))) ⟨by rw [show (own_f12_s) = (0 : Int32) from by unfold own_f12_s; rfl], N0, rfl⟩ (by decide) (by decide)
theorem own_src_v0 (w_Source_PROGRAM w_JDK w_LIBRARY w_UNKNOWN w_NOT_PROGRAM : Addr) : own_src (0 : Int32) w_Source_PROGRAM w_JDK w_LIBRARY w_UNKNOWN w_NOT_PROGRAM = w_Source_PROGRAM := by unfold own_src; rw [if_pos (show (0 : Int32) = (0 : Int32) by decide)]
theorem own_src_v1 (w_Source_PROGRAM w_JDK w_LIBRARY w_UNKNOWN w_NOT_PROGRAM : Addr) : own_src (1 : Int32) w_Source_PROGRAM w_JDK w_LIBRARY w_UNKNOWN w_NOT_PROGRAM = w_JDK := by unfold own_src; rw [if_neg (show ¬ ((1 : Int32) = (0 : Int32)) by decide)]; rw [if_pos (show (1 : Int32) = (1 : Int32) by decide)]
theorem own_src_v2 (w_Source_PROGRAM w_JDK w_LIBRARY w_UNKNOWN w_NOT_PROGRAM : Addr) : own_src (2 : Int32) w_Source_PROGRAM w_JDK w_LIBRARY w_UNKNOWN w_NOT_PROGRAM = w_LIBRARY := by unfold own_src; rw [if_neg (show ¬ ((2 : Int32) = (0 : Int32)) by decide)]; rw [if_neg (show ¬ ((2 : Int32) = (1 : Int32)) by decide)]; rw [if_pos (show (2 : Int32) = (2 : Int32) by decide)]
theorem own_src_v3 (w_Source_PROGRAM w_JDK w_LIBRARY w_UNKNOWN w_NOT_PROGRAM : Addr) : own_src (3 : Int32) w_Source_PROGRAM w_JDK w_LIBRARY w_UNKNOWN w_NOT_PROGRAM = w_UNKNOWN := by unfold own_src; rw [if_neg (show ¬ ((3 : Int32) = (0 : Int32)) by decide)]; rw [if_neg (show ¬ ((3 : Int32) = (1 : Int32)) by decide)]; rw [if_neg (show ¬ ((3 : Int32) = (2 : Int32)) by decide)]; rw [if_pos (show (3 : Int32) = (3 : Int32) by decide)]
theorem own_src_v4 (w_Source_PROGRAM w_JDK w_LIBRARY w_UNKNOWN w_NOT_PROGRAM : Addr) : own_src (4 : Int32) w_Source_PROGRAM w_JDK w_LIBRARY w_UNKNOWN w_NOT_PROGRAM = w_NOT_PROGRAM := by unfold own_src; rw [if_neg (show ¬ ((4 : Int32) = (0 : Int32)) by decide)]; rw [if_neg (show ¬ ((4 : Int32) = (1 : Int32)) by decide)]; rw [if_neg (show ¬ ((4 : Int32) = (2 : Int32)) by decide)]; rw [if_neg (show ¬ ((4 : Int32) = (3 : Int32)) by decide)]; skip
theorem own_src_inj {i j : Int32} (w_Source_PROGRAM w_JDK w_LIBRARY w_UNKNOWN w_NOT_PROGRAM : Addr) (ne_Source_PROGRAM_JDK : ¬ (w_Source_PROGRAM = w_JDK)) (ne_Source_PROGRAM_LIBRARY : ¬ (w_Source_PROGRAM = w_LIBRARY)) (ne_Source_PROGRAM_UNKNOWN : ¬ (w_Source_PROGRAM = w_UNKNOWN)) (ne_Source_PROGRAM_NOT_PROGRAM : ¬ (w_Source_PROGRAM = w_NOT_PROGRAM)) (ne_JDK_LIBRARY : ¬ (w_JDK = w_LIBRARY)) (ne_JDK_UNKNOWN : ¬ (w_JDK = w_UNKNOWN)) (ne_JDK_NOT_PROGRAM : ¬ (w_JDK = w_NOT_PROGRAM)) (ne_LIBRARY_UNKNOWN : ¬ (w_LIBRARY = w_UNKNOWN)) (ne_LIBRARY_NOT_PROGRAM : ¬ (w_LIBRARY = w_NOT_PROGRAM)) (ne_UNKNOWN_NOT_PROGRAM : ¬ (w_UNKNOWN = w_NOT_PROGRAM)) (hi : 0 ≤ i.toInt ∧ i.toInt < 5) (hj : 0 ≤ j.toInt ∧ j.toInt < 5) (h : ¬ (i = j)) : ¬ (own_src i w_Source_PROGRAM w_JDK w_LIBRARY w_UNKNOWN w_NOT_PROGRAM = own_src j w_Source_PROGRAM w_JDK w_LIBRARY w_UNKNOWN w_NOT_PROGRAM) := by
  have num : ∀ {z : Int32}, 0 ≤ z.toInt ∧ z.toInt < 5 → z = (0 : Int32) ∨ z = (1 : Int32) ∨ z = (2 : Int32) ∨ z = (3 : Int32) ∨ z = (4 : Int32) := fun {z} hz => by
    simp only [← Int32.toInt_inj]
    have c0 : (0 : Int32).toInt = 0 := by decide
    have c1 : (1 : Int32).toInt = 1 := by decide
    have c2 : (2 : Int32).toInt = 2 := by decide
    have c3 : (3 : Int32).toInt = 3 := by decide
    have c4 : (4 : Int32).toInt = 4 := by decide
    omega
  rcases num hi with rfl | rfl | rfl | rfl | rfl
  · rw [own_src_v0]; rcases num hj with rfl | rfl | rfl | rfl | rfl
    · exact absurd rfl h
    · rw [own_src_v1]; exact ne_Source_PROGRAM_JDK
    · rw [own_src_v2]; exact ne_Source_PROGRAM_LIBRARY
    · rw [own_src_v3]; exact ne_Source_PROGRAM_UNKNOWN
    · rw [own_src_v4]; exact ne_Source_PROGRAM_NOT_PROGRAM
  · rw [own_src_v1]; rcases num hj with rfl | rfl | rfl | rfl | rfl
    · rw [own_src_v0]; exact fun q => ne_Source_PROGRAM_JDK q.symm
    · exact absurd rfl h
    · rw [own_src_v2]; exact ne_JDK_LIBRARY
    · rw [own_src_v3]; exact ne_JDK_UNKNOWN
    · rw [own_src_v4]; exact ne_JDK_NOT_PROGRAM
  · rw [own_src_v2]; rcases num hj with rfl | rfl | rfl | rfl | rfl
    · rw [own_src_v0]; exact fun q => ne_Source_PROGRAM_LIBRARY q.symm
    · rw [own_src_v1]; exact fun q => ne_JDK_LIBRARY q.symm
    · exact absurd rfl h
    · rw [own_src_v3]; exact ne_LIBRARY_UNKNOWN
    · rw [own_src_v4]; exact ne_LIBRARY_NOT_PROGRAM
  · rw [own_src_v3]; rcases num hj with rfl | rfl | rfl | rfl | rfl
    · rw [own_src_v0]; exact fun q => ne_Source_PROGRAM_UNKNOWN q.symm
    · rw [own_src_v1]; exact fun q => ne_JDK_UNKNOWN q.symm
    · rw [own_src_v2]; exact fun q => ne_LIBRARY_UNKNOWN q.symm
    · exact absurd rfl h
    · rw [own_src_v4]; exact ne_UNKNOWN_NOT_PROGRAM
  · rw [own_src_v4]; rcases num hj with rfl | rfl | rfl | rfl | rfl
    · rw [own_src_v0]; exact fun q => ne_Source_PROGRAM_NOT_PROGRAM q.symm
    · rw [own_src_v1]; exact fun q => ne_JDK_NOT_PROGRAM q.symm
    · rw [own_src_v2]; exact fun q => ne_LIBRARY_NOT_PROGRAM q.symm
    · rw [own_src_v3]; exact fun q => ne_UNKNOWN_NOT_PROGRAM q.symm
    · exact absurd rfl h
theorem own_asp_v0 (w_Aspect_PROGRAM w_SOURCE w_SUPERCLASS w_INTERFACES w_INTERFACE w_DECLARES_METHOD w_FLAGS w_THROWS w_PROGRAM_METHOD w_FIELD w_CONCRETE_METHOD w_METHODS : Addr) : own_asp (0 : Int32) w_Aspect_PROGRAM w_SOURCE w_SUPERCLASS w_INTERFACES w_INTERFACE w_DECLARES_METHOD w_FLAGS w_THROWS w_PROGRAM_METHOD w_FIELD w_CONCRETE_METHOD w_METHODS = w_Aspect_PROGRAM := by unfold own_asp; rw [if_pos (show (0 : Int32) = (0 : Int32) by decide)]
theorem own_asp_v1 (w_Aspect_PROGRAM w_SOURCE w_SUPERCLASS w_INTERFACES w_INTERFACE w_DECLARES_METHOD w_FLAGS w_THROWS w_PROGRAM_METHOD w_FIELD w_CONCRETE_METHOD w_METHODS : Addr) : own_asp (1 : Int32) w_Aspect_PROGRAM w_SOURCE w_SUPERCLASS w_INTERFACES w_INTERFACE w_DECLARES_METHOD w_FLAGS w_THROWS w_PROGRAM_METHOD w_FIELD w_CONCRETE_METHOD w_METHODS = w_SOURCE := by unfold own_asp; rw [if_neg (show ¬ ((1 : Int32) = (0 : Int32)) by decide)]; rw [if_pos (show (1 : Int32) = (1 : Int32) by decide)]
theorem own_asp_v2 (w_Aspect_PROGRAM w_SOURCE w_SUPERCLASS w_INTERFACES w_INTERFACE w_DECLARES_METHOD w_FLAGS w_THROWS w_PROGRAM_METHOD w_FIELD w_CONCRETE_METHOD w_METHODS : Addr) : own_asp (2 : Int32) w_Aspect_PROGRAM w_SOURCE w_SUPERCLASS w_INTERFACES w_INTERFACE w_DECLARES_METHOD w_FLAGS w_THROWS w_PROGRAM_METHOD w_FIELD w_CONCRETE_METHOD w_METHODS = w_SUPERCLASS := by unfold own_asp; rw [if_neg (show ¬ ((2 : Int32) = (0 : Int32)) by decide)]; rw [if_neg (show ¬ ((2 : Int32) = (1 : Int32)) by decide)]; rw [if_pos (show (2 : Int32) = (2 : Int32) by decide)]
theorem own_asp_v3 (w_Aspect_PROGRAM w_SOURCE w_SUPERCLASS w_INTERFACES w_INTERFACE w_DECLARES_METHOD w_FLAGS w_THROWS w_PROGRAM_METHOD w_FIELD w_CONCRETE_METHOD w_METHODS : Addr) : own_asp (3 : Int32) w_Aspect_PROGRAM w_SOURCE w_SUPERCLASS w_INTERFACES w_INTERFACE w_DECLARES_METHOD w_FLAGS w_THROWS w_PROGRAM_METHOD w_FIELD w_CONCRETE_METHOD w_METHODS = w_INTERFACES := by unfold own_asp; rw [if_neg (show ¬ ((3 : Int32) = (0 : Int32)) by decide)]; rw [if_neg (show ¬ ((3 : Int32) = (1 : Int32)) by decide)]; rw [if_neg (show ¬ ((3 : Int32) = (2 : Int32)) by decide)]; rw [if_pos (show (3 : Int32) = (3 : Int32) by decide)]
theorem own_asp_v4 (w_Aspect_PROGRAM w_SOURCE w_SUPERCLASS w_INTERFACES w_INTERFACE w_DECLARES_METHOD w_FLAGS w_THROWS w_PROGRAM_METHOD w_FIELD w_CONCRETE_METHOD w_METHODS : Addr) : own_asp (4 : Int32) w_Aspect_PROGRAM w_SOURCE w_SUPERCLASS w_INTERFACES w_INTERFACE w_DECLARES_METHOD w_FLAGS w_THROWS w_PROGRAM_METHOD w_FIELD w_CONCRETE_METHOD w_METHODS = w_INTERFACE := by unfold own_asp; rw [if_neg (show ¬ ((4 : Int32) = (0 : Int32)) by decide)]; rw [if_neg (show ¬ ((4 : Int32) = (1 : Int32)) by decide)]; rw [if_neg (show ¬ ((4 : Int32) = (2 : Int32)) by decide)]; rw [if_neg (show ¬ ((4 : Int32) = (3 : Int32)) by decide)]; rw [if_pos (show (4 : Int32) = (4 : Int32) by decide)]
theorem own_asp_v5 (w_Aspect_PROGRAM w_SOURCE w_SUPERCLASS w_INTERFACES w_INTERFACE w_DECLARES_METHOD w_FLAGS w_THROWS w_PROGRAM_METHOD w_FIELD w_CONCRETE_METHOD w_METHODS : Addr) : own_asp (5 : Int32) w_Aspect_PROGRAM w_SOURCE w_SUPERCLASS w_INTERFACES w_INTERFACE w_DECLARES_METHOD w_FLAGS w_THROWS w_PROGRAM_METHOD w_FIELD w_CONCRETE_METHOD w_METHODS = w_DECLARES_METHOD := by unfold own_asp; rw [if_neg (show ¬ ((5 : Int32) = (0 : Int32)) by decide)]; rw [if_neg (show ¬ ((5 : Int32) = (1 : Int32)) by decide)]; rw [if_neg (show ¬ ((5 : Int32) = (2 : Int32)) by decide)]; rw [if_neg (show ¬ ((5 : Int32) = (3 : Int32)) by decide)]; rw [if_neg (show ¬ ((5 : Int32) = (4 : Int32)) by decide)]; rw [if_pos (show (5 : Int32) = (5 : Int32) by decide)]
theorem own_asp_v6 (w_Aspect_PROGRAM w_SOURCE w_SUPERCLASS w_INTERFACES w_INTERFACE w_DECLARES_METHOD w_FLAGS w_THROWS w_PROGRAM_METHOD w_FIELD w_CONCRETE_METHOD w_METHODS : Addr) : own_asp (6 : Int32) w_Aspect_PROGRAM w_SOURCE w_SUPERCLASS w_INTERFACES w_INTERFACE w_DECLARES_METHOD w_FLAGS w_THROWS w_PROGRAM_METHOD w_FIELD w_CONCRETE_METHOD w_METHODS = w_FLAGS := by unfold own_asp; rw [if_neg (show ¬ ((6 : Int32) = (0 : Int32)) by decide)]; rw [if_neg (show ¬ ((6 : Int32) = (1 : Int32)) by decide)]; rw [if_neg (show ¬ ((6 : Int32) = (2 : Int32)) by decide)]; rw [if_neg (show ¬ ((6 : Int32) = (3 : Int32)) by decide)]; rw [if_neg (show ¬ ((6 : Int32) = (4 : Int32)) by decide)]; rw [if_neg (show ¬ ((6 : Int32) = (5 : Int32)) by decide)]; rw [if_pos (show (6 : Int32) = (6 : Int32) by decide)]
theorem own_asp_v7 (w_Aspect_PROGRAM w_SOURCE w_SUPERCLASS w_INTERFACES w_INTERFACE w_DECLARES_METHOD w_FLAGS w_THROWS w_PROGRAM_METHOD w_FIELD w_CONCRETE_METHOD w_METHODS : Addr) : own_asp (7 : Int32) w_Aspect_PROGRAM w_SOURCE w_SUPERCLASS w_INTERFACES w_INTERFACE w_DECLARES_METHOD w_FLAGS w_THROWS w_PROGRAM_METHOD w_FIELD w_CONCRETE_METHOD w_METHODS = w_THROWS := by unfold own_asp; rw [if_neg (show ¬ ((7 : Int32) = (0 : Int32)) by decide)]; rw [if_neg (show ¬ ((7 : Int32) = (1 : Int32)) by decide)]; rw [if_neg (show ¬ ((7 : Int32) = (2 : Int32)) by decide)]; rw [if_neg (show ¬ ((7 : Int32) = (3 : Int32)) by decide)]; rw [if_neg (show ¬ ((7 : Int32) = (4 : Int32)) by decide)]; rw [if_neg (show ¬ ((7 : Int32) = (5 : Int32)) by decide)]; rw [if_neg (show ¬ ((7 : Int32) = (6 : Int32)) by decide)]; rw [if_pos (show (7 : Int32) = (7 : Int32) by decide)]
theorem own_asp_v8 (w_Aspect_PROGRAM w_SOURCE w_SUPERCLASS w_INTERFACES w_INTERFACE w_DECLARES_METHOD w_FLAGS w_THROWS w_PROGRAM_METHOD w_FIELD w_CONCRETE_METHOD w_METHODS : Addr) : own_asp (8 : Int32) w_Aspect_PROGRAM w_SOURCE w_SUPERCLASS w_INTERFACES w_INTERFACE w_DECLARES_METHOD w_FLAGS w_THROWS w_PROGRAM_METHOD w_FIELD w_CONCRETE_METHOD w_METHODS = w_PROGRAM_METHOD := by unfold own_asp; rw [if_neg (show ¬ ((8 : Int32) = (0 : Int32)) by decide)]; rw [if_neg (show ¬ ((8 : Int32) = (1 : Int32)) by decide)]; rw [if_neg (show ¬ ((8 : Int32) = (2 : Int32)) by decide)]; rw [if_neg (show ¬ ((8 : Int32) = (3 : Int32)) by decide)]; rw [if_neg (show ¬ ((8 : Int32) = (4 : Int32)) by decide)]; rw [if_neg (show ¬ ((8 : Int32) = (5 : Int32)) by decide)]; rw [if_neg (show ¬ ((8 : Int32) = (6 : Int32)) by decide)]; rw [if_neg (show ¬ ((8 : Int32) = (7 : Int32)) by decide)]; rw [if_pos (show (8 : Int32) = (8 : Int32) by decide)]
theorem own_asp_v9 (w_Aspect_PROGRAM w_SOURCE w_SUPERCLASS w_INTERFACES w_INTERFACE w_DECLARES_METHOD w_FLAGS w_THROWS w_PROGRAM_METHOD w_FIELD w_CONCRETE_METHOD w_METHODS : Addr) : own_asp (9 : Int32) w_Aspect_PROGRAM w_SOURCE w_SUPERCLASS w_INTERFACES w_INTERFACE w_DECLARES_METHOD w_FLAGS w_THROWS w_PROGRAM_METHOD w_FIELD w_CONCRETE_METHOD w_METHODS = w_FIELD := by unfold own_asp; rw [if_neg (show ¬ ((9 : Int32) = (0 : Int32)) by decide)]; rw [if_neg (show ¬ ((9 : Int32) = (1 : Int32)) by decide)]; rw [if_neg (show ¬ ((9 : Int32) = (2 : Int32)) by decide)]; rw [if_neg (show ¬ ((9 : Int32) = (3 : Int32)) by decide)]; rw [if_neg (show ¬ ((9 : Int32) = (4 : Int32)) by decide)]; rw [if_neg (show ¬ ((9 : Int32) = (5 : Int32)) by decide)]; rw [if_neg (show ¬ ((9 : Int32) = (6 : Int32)) by decide)]; rw [if_neg (show ¬ ((9 : Int32) = (7 : Int32)) by decide)]; rw [if_neg (show ¬ ((9 : Int32) = (8 : Int32)) by decide)]; rw [if_pos (show (9 : Int32) = (9 : Int32) by decide)]
theorem own_asp_v10 (w_Aspect_PROGRAM w_SOURCE w_SUPERCLASS w_INTERFACES w_INTERFACE w_DECLARES_METHOD w_FLAGS w_THROWS w_PROGRAM_METHOD w_FIELD w_CONCRETE_METHOD w_METHODS : Addr) : own_asp (10 : Int32) w_Aspect_PROGRAM w_SOURCE w_SUPERCLASS w_INTERFACES w_INTERFACE w_DECLARES_METHOD w_FLAGS w_THROWS w_PROGRAM_METHOD w_FIELD w_CONCRETE_METHOD w_METHODS = w_CONCRETE_METHOD := by unfold own_asp; rw [if_neg (show ¬ ((10 : Int32) = (0 : Int32)) by decide)]; rw [if_neg (show ¬ ((10 : Int32) = (1 : Int32)) by decide)]; rw [if_neg (show ¬ ((10 : Int32) = (2 : Int32)) by decide)]; rw [if_neg (show ¬ ((10 : Int32) = (3 : Int32)) by decide)]; rw [if_neg (show ¬ ((10 : Int32) = (4 : Int32)) by decide)]; rw [if_neg (show ¬ ((10 : Int32) = (5 : Int32)) by decide)]; rw [if_neg (show ¬ ((10 : Int32) = (6 : Int32)) by decide)]; rw [if_neg (show ¬ ((10 : Int32) = (7 : Int32)) by decide)]; rw [if_neg (show ¬ ((10 : Int32) = (8 : Int32)) by decide)]; rw [if_neg (show ¬ ((10 : Int32) = (9 : Int32)) by decide)]; rw [if_pos (show (10 : Int32) = (10 : Int32) by decide)]
theorem own_asp_v11 (w_Aspect_PROGRAM w_SOURCE w_SUPERCLASS w_INTERFACES w_INTERFACE w_DECLARES_METHOD w_FLAGS w_THROWS w_PROGRAM_METHOD w_FIELD w_CONCRETE_METHOD w_METHODS : Addr) : own_asp (11 : Int32) w_Aspect_PROGRAM w_SOURCE w_SUPERCLASS w_INTERFACES w_INTERFACE w_DECLARES_METHOD w_FLAGS w_THROWS w_PROGRAM_METHOD w_FIELD w_CONCRETE_METHOD w_METHODS = w_METHODS := by unfold own_asp; rw [if_neg (show ¬ ((11 : Int32) = (0 : Int32)) by decide)]; rw [if_neg (show ¬ ((11 : Int32) = (1 : Int32)) by decide)]; rw [if_neg (show ¬ ((11 : Int32) = (2 : Int32)) by decide)]; rw [if_neg (show ¬ ((11 : Int32) = (3 : Int32)) by decide)]; rw [if_neg (show ¬ ((11 : Int32) = (4 : Int32)) by decide)]; rw [if_neg (show ¬ ((11 : Int32) = (5 : Int32)) by decide)]; rw [if_neg (show ¬ ((11 : Int32) = (6 : Int32)) by decide)]; rw [if_neg (show ¬ ((11 : Int32) = (7 : Int32)) by decide)]; rw [if_neg (show ¬ ((11 : Int32) = (8 : Int32)) by decide)]; rw [if_neg (show ¬ ((11 : Int32) = (9 : Int32)) by decide)]; rw [if_neg (show ¬ ((11 : Int32) = (10 : Int32)) by decide)]; skip
theorem own_asp_inj {i j : Int32} (w_Aspect_PROGRAM w_SOURCE w_SUPERCLASS w_INTERFACES w_INTERFACE w_DECLARES_METHOD w_FLAGS w_THROWS w_PROGRAM_METHOD w_FIELD w_CONCRETE_METHOD w_METHODS : Addr) (ne_Aspect_PROGRAM_SOURCE : ¬ (w_Aspect_PROGRAM = w_SOURCE)) (ne_Aspect_PROGRAM_SUPERCLASS : ¬ (w_Aspect_PROGRAM = w_SUPERCLASS)) (ne_Aspect_PROGRAM_INTERFACES : ¬ (w_Aspect_PROGRAM = w_INTERFACES)) (ne_Aspect_PROGRAM_INTERFACE : ¬ (w_Aspect_PROGRAM = w_INTERFACE)) (ne_Aspect_PROGRAM_DECLARES_METHOD : ¬ (w_Aspect_PROGRAM = w_DECLARES_METHOD)) (ne_Aspect_PROGRAM_FLAGS : ¬ (w_Aspect_PROGRAM = w_FLAGS)) (ne_Aspect_PROGRAM_THROWS : ¬ (w_Aspect_PROGRAM = w_THROWS)) (ne_Aspect_PROGRAM_PROGRAM_METHOD : ¬ (w_Aspect_PROGRAM = w_PROGRAM_METHOD)) (ne_Aspect_PROGRAM_FIELD : ¬ (w_Aspect_PROGRAM = w_FIELD)) (ne_Aspect_PROGRAM_CONCRETE_METHOD : ¬ (w_Aspect_PROGRAM = w_CONCRETE_METHOD)) (ne_Aspect_PROGRAM_METHODS : ¬ (w_Aspect_PROGRAM = w_METHODS)) (ne_SOURCE_SUPERCLASS : ¬ (w_SOURCE = w_SUPERCLASS)) (ne_SOURCE_INTERFACES : ¬ (w_SOURCE = w_INTERFACES)) (ne_SOURCE_INTERFACE : ¬ (w_SOURCE = w_INTERFACE)) (ne_SOURCE_DECLARES_METHOD : ¬ (w_SOURCE = w_DECLARES_METHOD)) (ne_SOURCE_FLAGS : ¬ (w_SOURCE = w_FLAGS)) (ne_SOURCE_THROWS : ¬ (w_SOURCE = w_THROWS)) (ne_SOURCE_PROGRAM_METHOD : ¬ (w_SOURCE = w_PROGRAM_METHOD)) (ne_SOURCE_FIELD : ¬ (w_SOURCE = w_FIELD)) (ne_SOURCE_CONCRETE_METHOD : ¬ (w_SOURCE = w_CONCRETE_METHOD)) (ne_SOURCE_METHODS : ¬ (w_SOURCE = w_METHODS)) (ne_SUPERCLASS_INTERFACES : ¬ (w_SUPERCLASS = w_INTERFACES)) (ne_SUPERCLASS_INTERFACE : ¬ (w_SUPERCLASS = w_INTERFACE)) (ne_SUPERCLASS_DECLARES_METHOD : ¬ (w_SUPERCLASS = w_DECLARES_METHOD)) (ne_SUPERCLASS_FLAGS : ¬ (w_SUPERCLASS = w_FLAGS)) (ne_SUPERCLASS_THROWS : ¬ (w_SUPERCLASS = w_THROWS)) (ne_SUPERCLASS_PROGRAM_METHOD : ¬ (w_SUPERCLASS = w_PROGRAM_METHOD)) (ne_SUPERCLASS_FIELD : ¬ (w_SUPERCLASS = w_FIELD)) (ne_SUPERCLASS_CONCRETE_METHOD : ¬ (w_SUPERCLASS = w_CONCRETE_METHOD)) (ne_SUPERCLASS_METHODS : ¬ (w_SUPERCLASS = w_METHODS)) (ne_INTERFACES_INTERFACE : ¬ (w_INTERFACES = w_INTERFACE)) (ne_INTERFACES_DECLARES_METHOD : ¬ (w_INTERFACES = w_DECLARES_METHOD)) (ne_INTERFACES_FLAGS : ¬ (w_INTERFACES = w_FLAGS)) (ne_INTERFACES_THROWS : ¬ (w_INTERFACES = w_THROWS)) (ne_INTERFACES_PROGRAM_METHOD : ¬ (w_INTERFACES = w_PROGRAM_METHOD)) (ne_INTERFACES_FIELD : ¬ (w_INTERFACES = w_FIELD)) (ne_INTERFACES_CONCRETE_METHOD : ¬ (w_INTERFACES = w_CONCRETE_METHOD)) (ne_INTERFACES_METHODS : ¬ (w_INTERFACES = w_METHODS)) (ne_INTERFACE_DECLARES_METHOD : ¬ (w_INTERFACE = w_DECLARES_METHOD)) (ne_INTERFACE_FLAGS : ¬ (w_INTERFACE = w_FLAGS)) (ne_INTERFACE_THROWS : ¬ (w_INTERFACE = w_THROWS)) (ne_INTERFACE_PROGRAM_METHOD : ¬ (w_INTERFACE = w_PROGRAM_METHOD)) (ne_INTERFACE_FIELD : ¬ (w_INTERFACE = w_FIELD)) (ne_INTERFACE_CONCRETE_METHOD : ¬ (w_INTERFACE = w_CONCRETE_METHOD)) (ne_INTERFACE_METHODS : ¬ (w_INTERFACE = w_METHODS)) (ne_DECLARES_METHOD_FLAGS : ¬ (w_DECLARES_METHOD = w_FLAGS)) (ne_DECLARES_METHOD_THROWS : ¬ (w_DECLARES_METHOD = w_THROWS)) (ne_DECLARES_METHOD_PROGRAM_METHOD : ¬ (w_DECLARES_METHOD = w_PROGRAM_METHOD)) (ne_DECLARES_METHOD_FIELD : ¬ (w_DECLARES_METHOD = w_FIELD)) (ne_DECLARES_METHOD_CONCRETE_METHOD : ¬ (w_DECLARES_METHOD = w_CONCRETE_METHOD)) (ne_DECLARES_METHOD_METHODS : ¬ (w_DECLARES_METHOD = w_METHODS)) (ne_FLAGS_THROWS : ¬ (w_FLAGS = w_THROWS)) (ne_FLAGS_PROGRAM_METHOD : ¬ (w_FLAGS = w_PROGRAM_METHOD)) (ne_FLAGS_FIELD : ¬ (w_FLAGS = w_FIELD)) (ne_FLAGS_CONCRETE_METHOD : ¬ (w_FLAGS = w_CONCRETE_METHOD)) (ne_FLAGS_METHODS : ¬ (w_FLAGS = w_METHODS)) (ne_THROWS_PROGRAM_METHOD : ¬ (w_THROWS = w_PROGRAM_METHOD)) (ne_THROWS_FIELD : ¬ (w_THROWS = w_FIELD)) (ne_THROWS_CONCRETE_METHOD : ¬ (w_THROWS = w_CONCRETE_METHOD)) (ne_THROWS_METHODS : ¬ (w_THROWS = w_METHODS)) (ne_PROGRAM_METHOD_FIELD : ¬ (w_PROGRAM_METHOD = w_FIELD)) (ne_PROGRAM_METHOD_CONCRETE_METHOD : ¬ (w_PROGRAM_METHOD = w_CONCRETE_METHOD)) (ne_PROGRAM_METHOD_METHODS : ¬ (w_PROGRAM_METHOD = w_METHODS)) (ne_FIELD_CONCRETE_METHOD : ¬ (w_FIELD = w_CONCRETE_METHOD)) (ne_FIELD_METHODS : ¬ (w_FIELD = w_METHODS)) (ne_CONCRETE_METHOD_METHODS : ¬ (w_CONCRETE_METHOD = w_METHODS)) (hi : 0 ≤ i.toInt ∧ i.toInt < 12) (hj : 0 ≤ j.toInt ∧ j.toInt < 12) (h : ¬ (i = j)) : ¬ (own_asp i w_Aspect_PROGRAM w_SOURCE w_SUPERCLASS w_INTERFACES w_INTERFACE w_DECLARES_METHOD w_FLAGS w_THROWS w_PROGRAM_METHOD w_FIELD w_CONCRETE_METHOD w_METHODS = own_asp j w_Aspect_PROGRAM w_SOURCE w_SUPERCLASS w_INTERFACES w_INTERFACE w_DECLARES_METHOD w_FLAGS w_THROWS w_PROGRAM_METHOD w_FIELD w_CONCRETE_METHOD w_METHODS) := by
  have num : ∀ {z : Int32}, 0 ≤ z.toInt ∧ z.toInt < 12 → z = (0 : Int32) ∨ z = (1 : Int32) ∨ z = (2 : Int32) ∨ z = (3 : Int32) ∨ z = (4 : Int32) ∨ z = (5 : Int32) ∨ z = (6 : Int32) ∨ z = (7 : Int32) ∨ z = (8 : Int32) ∨ z = (9 : Int32) ∨ z = (10 : Int32) ∨ z = (11 : Int32) := fun {z} hz => by
    simp only [← Int32.toInt_inj]
    have c0 : (0 : Int32).toInt = 0 := by decide
    have c1 : (1 : Int32).toInt = 1 := by decide
    have c2 : (2 : Int32).toInt = 2 := by decide
    have c3 : (3 : Int32).toInt = 3 := by decide
    have c4 : (4 : Int32).toInt = 4 := by decide
    have c5 : (5 : Int32).toInt = 5 := by decide
    have c6 : (6 : Int32).toInt = 6 := by decide
    have c7 : (7 : Int32).toInt = 7 := by decide
    have c8 : (8 : Int32).toInt = 8 := by decide
    have c9 : (9 : Int32).toInt = 9 := by decide
    have c10 : (10 : Int32).toInt = 10 := by decide
    have c11 : (11 : Int32).toInt = 11 := by decide
    omega
  rcases num hi with rfl | rfl | rfl | rfl | rfl | rfl | rfl | rfl | rfl | rfl | rfl | rfl
  · rw [own_asp_v0]; rcases num hj with rfl | rfl | rfl | rfl | rfl | rfl | rfl | rfl | rfl | rfl | rfl | rfl
    · exact absurd rfl h
    · rw [own_asp_v1]; exact ne_Aspect_PROGRAM_SOURCE
    · rw [own_asp_v2]; exact ne_Aspect_PROGRAM_SUPERCLASS
    · rw [own_asp_v3]; exact ne_Aspect_PROGRAM_INTERFACES
    · rw [own_asp_v4]; exact ne_Aspect_PROGRAM_INTERFACE
    · rw [own_asp_v5]; exact ne_Aspect_PROGRAM_DECLARES_METHOD
    · rw [own_asp_v6]; exact ne_Aspect_PROGRAM_FLAGS
    · rw [own_asp_v7]; exact ne_Aspect_PROGRAM_THROWS
    · rw [own_asp_v8]; exact ne_Aspect_PROGRAM_PROGRAM_METHOD
    · rw [own_asp_v9]; exact ne_Aspect_PROGRAM_FIELD
    · rw [own_asp_v10]; exact ne_Aspect_PROGRAM_CONCRETE_METHOD
    · rw [own_asp_v11]; exact ne_Aspect_PROGRAM_METHODS
  · rw [own_asp_v1]; rcases num hj with rfl | rfl | rfl | rfl | rfl | rfl | rfl | rfl | rfl | rfl | rfl | rfl
    · rw [own_asp_v0]; exact fun q => ne_Aspect_PROGRAM_SOURCE q.symm
    · exact absurd rfl h
    · rw [own_asp_v2]; exact ne_SOURCE_SUPERCLASS
    · rw [own_asp_v3]; exact ne_SOURCE_INTERFACES
    · rw [own_asp_v4]; exact ne_SOURCE_INTERFACE
    · rw [own_asp_v5]; exact ne_SOURCE_DECLARES_METHOD
    · rw [own_asp_v6]; exact ne_SOURCE_FLAGS
    · rw [own_asp_v7]; exact ne_SOURCE_THROWS
    · rw [own_asp_v8]; exact ne_SOURCE_PROGRAM_METHOD
    · rw [own_asp_v9]; exact ne_SOURCE_FIELD
    · rw [own_asp_v10]; exact ne_SOURCE_CONCRETE_METHOD
    · rw [own_asp_v11]; exact ne_SOURCE_METHODS
  · rw [own_asp_v2]; rcases num hj with rfl | rfl | rfl | rfl | rfl | rfl | rfl | rfl | rfl | rfl | rfl | rfl
    · rw [own_asp_v0]; exact fun q => ne_Aspect_PROGRAM_SUPERCLASS q.symm
    · rw [own_asp_v1]; exact fun q => ne_SOURCE_SUPERCLASS q.symm
    · exact absurd rfl h
    · rw [own_asp_v3]; exact ne_SUPERCLASS_INTERFACES
    · rw [own_asp_v4]; exact ne_SUPERCLASS_INTERFACE
    · rw [own_asp_v5]; exact ne_SUPERCLASS_DECLARES_METHOD
    · rw [own_asp_v6]; exact ne_SUPERCLASS_FLAGS
    · rw [own_asp_v7]; exact ne_SUPERCLASS_THROWS
    · rw [own_asp_v8]; exact ne_SUPERCLASS_PROGRAM_METHOD
    · rw [own_asp_v9]; exact ne_SUPERCLASS_FIELD
    · rw [own_asp_v10]; exact ne_SUPERCLASS_CONCRETE_METHOD
    · rw [own_asp_v11]; exact ne_SUPERCLASS_METHODS
  · rw [own_asp_v3]; rcases num hj with rfl | rfl | rfl | rfl | rfl | rfl | rfl | rfl | rfl | rfl | rfl | rfl
    · rw [own_asp_v0]; exact fun q => ne_Aspect_PROGRAM_INTERFACES q.symm
    · rw [own_asp_v1]; exact fun q => ne_SOURCE_INTERFACES q.symm
    · rw [own_asp_v2]; exact fun q => ne_SUPERCLASS_INTERFACES q.symm
    · exact absurd rfl h
    · rw [own_asp_v4]; exact ne_INTERFACES_INTERFACE
    · rw [own_asp_v5]; exact ne_INTERFACES_DECLARES_METHOD
    · rw [own_asp_v6]; exact ne_INTERFACES_FLAGS
    · rw [own_asp_v7]; exact ne_INTERFACES_THROWS
    · rw [own_asp_v8]; exact ne_INTERFACES_PROGRAM_METHOD
    · rw [own_asp_v9]; exact ne_INTERFACES_FIELD
    · rw [own_asp_v10]; exact ne_INTERFACES_CONCRETE_METHOD
    · rw [own_asp_v11]; exact ne_INTERFACES_METHODS
  · rw [own_asp_v4]; rcases num hj with rfl | rfl | rfl | rfl | rfl | rfl | rfl | rfl | rfl | rfl | rfl | rfl
    · rw [own_asp_v0]; exact fun q => ne_Aspect_PROGRAM_INTERFACE q.symm
    · rw [own_asp_v1]; exact fun q => ne_SOURCE_INTERFACE q.symm
    · rw [own_asp_v2]; exact fun q => ne_SUPERCLASS_INTERFACE q.symm
    · rw [own_asp_v3]; exact fun q => ne_INTERFACES_INTERFACE q.symm
    · exact absurd rfl h
    · rw [own_asp_v5]; exact ne_INTERFACE_DECLARES_METHOD
    · rw [own_asp_v6]; exact ne_INTERFACE_FLAGS
    · rw [own_asp_v7]; exact ne_INTERFACE_THROWS
    · rw [own_asp_v8]; exact ne_INTERFACE_PROGRAM_METHOD
    · rw [own_asp_v9]; exact ne_INTERFACE_FIELD
    · rw [own_asp_v10]; exact ne_INTERFACE_CONCRETE_METHOD
    · rw [own_asp_v11]; exact ne_INTERFACE_METHODS
  · rw [own_asp_v5]; rcases num hj with rfl | rfl | rfl | rfl | rfl | rfl | rfl | rfl | rfl | rfl | rfl | rfl
    · rw [own_asp_v0]; exact fun q => ne_Aspect_PROGRAM_DECLARES_METHOD q.symm
    · rw [own_asp_v1]; exact fun q => ne_SOURCE_DECLARES_METHOD q.symm
    · rw [own_asp_v2]; exact fun q => ne_SUPERCLASS_DECLARES_METHOD q.symm
    · rw [own_asp_v3]; exact fun q => ne_INTERFACES_DECLARES_METHOD q.symm
    · rw [own_asp_v4]; exact fun q => ne_INTERFACE_DECLARES_METHOD q.symm
    · exact absurd rfl h
    · rw [own_asp_v6]; exact ne_DECLARES_METHOD_FLAGS
    · rw [own_asp_v7]; exact ne_DECLARES_METHOD_THROWS
    · rw [own_asp_v8]; exact ne_DECLARES_METHOD_PROGRAM_METHOD
    · rw [own_asp_v9]; exact ne_DECLARES_METHOD_FIELD
    · rw [own_asp_v10]; exact ne_DECLARES_METHOD_CONCRETE_METHOD
    · rw [own_asp_v11]; exact ne_DECLARES_METHOD_METHODS
  · rw [own_asp_v6]; rcases num hj with rfl | rfl | rfl | rfl | rfl | rfl | rfl | rfl | rfl | rfl | rfl | rfl
    · rw [own_asp_v0]; exact fun q => ne_Aspect_PROGRAM_FLAGS q.symm
    · rw [own_asp_v1]; exact fun q => ne_SOURCE_FLAGS q.symm
    · rw [own_asp_v2]; exact fun q => ne_SUPERCLASS_FLAGS q.symm
    · rw [own_asp_v3]; exact fun q => ne_INTERFACES_FLAGS q.symm
    · rw [own_asp_v4]; exact fun q => ne_INTERFACE_FLAGS q.symm
    · rw [own_asp_v5]; exact fun q => ne_DECLARES_METHOD_FLAGS q.symm
    · exact absurd rfl h
    · rw [own_asp_v7]; exact ne_FLAGS_THROWS
    · rw [own_asp_v8]; exact ne_FLAGS_PROGRAM_METHOD
    · rw [own_asp_v9]; exact ne_FLAGS_FIELD
    · rw [own_asp_v10]; exact ne_FLAGS_CONCRETE_METHOD
    · rw [own_asp_v11]; exact ne_FLAGS_METHODS
  · rw [own_asp_v7]; rcases num hj with rfl | rfl | rfl | rfl | rfl | rfl | rfl | rfl | rfl | rfl | rfl | rfl
    · rw [own_asp_v0]; exact fun q => ne_Aspect_PROGRAM_THROWS q.symm
    · rw [own_asp_v1]; exact fun q => ne_SOURCE_THROWS q.symm
    · rw [own_asp_v2]; exact fun q => ne_SUPERCLASS_THROWS q.symm
    · rw [own_asp_v3]; exact fun q => ne_INTERFACES_THROWS q.symm
    · rw [own_asp_v4]; exact fun q => ne_INTERFACE_THROWS q.symm
    · rw [own_asp_v5]; exact fun q => ne_DECLARES_METHOD_THROWS q.symm
    · rw [own_asp_v6]; exact fun q => ne_FLAGS_THROWS q.symm
    · exact absurd rfl h
    · rw [own_asp_v8]; exact ne_THROWS_PROGRAM_METHOD
    · rw [own_asp_v9]; exact ne_THROWS_FIELD
    · rw [own_asp_v10]; exact ne_THROWS_CONCRETE_METHOD
    · rw [own_asp_v11]; exact ne_THROWS_METHODS
  · rw [own_asp_v8]; rcases num hj with rfl | rfl | rfl | rfl | rfl | rfl | rfl | rfl | rfl | rfl | rfl | rfl
    · rw [own_asp_v0]; exact fun q => ne_Aspect_PROGRAM_PROGRAM_METHOD q.symm
    · rw [own_asp_v1]; exact fun q => ne_SOURCE_PROGRAM_METHOD q.symm
    · rw [own_asp_v2]; exact fun q => ne_SUPERCLASS_PROGRAM_METHOD q.symm
    · rw [own_asp_v3]; exact fun q => ne_INTERFACES_PROGRAM_METHOD q.symm
    · rw [own_asp_v4]; exact fun q => ne_INTERFACE_PROGRAM_METHOD q.symm
    · rw [own_asp_v5]; exact fun q => ne_DECLARES_METHOD_PROGRAM_METHOD q.symm
    · rw [own_asp_v6]; exact fun q => ne_FLAGS_PROGRAM_METHOD q.symm
    · rw [own_asp_v7]; exact fun q => ne_THROWS_PROGRAM_METHOD q.symm
    · exact absurd rfl h
    · rw [own_asp_v9]; exact ne_PROGRAM_METHOD_FIELD
    · rw [own_asp_v10]; exact ne_PROGRAM_METHOD_CONCRETE_METHOD
    · rw [own_asp_v11]; exact ne_PROGRAM_METHOD_METHODS
  · rw [own_asp_v9]; rcases num hj with rfl | rfl | rfl | rfl | rfl | rfl | rfl | rfl | rfl | rfl | rfl | rfl
    · rw [own_asp_v0]; exact fun q => ne_Aspect_PROGRAM_FIELD q.symm
    · rw [own_asp_v1]; exact fun q => ne_SOURCE_FIELD q.symm
    · rw [own_asp_v2]; exact fun q => ne_SUPERCLASS_FIELD q.symm
    · rw [own_asp_v3]; exact fun q => ne_INTERFACES_FIELD q.symm
    · rw [own_asp_v4]; exact fun q => ne_INTERFACE_FIELD q.symm
    · rw [own_asp_v5]; exact fun q => ne_DECLARES_METHOD_FIELD q.symm
    · rw [own_asp_v6]; exact fun q => ne_FLAGS_FIELD q.symm
    · rw [own_asp_v7]; exact fun q => ne_THROWS_FIELD q.symm
    · rw [own_asp_v8]; exact fun q => ne_PROGRAM_METHOD_FIELD q.symm
    · exact absurd rfl h
    · rw [own_asp_v10]; exact ne_FIELD_CONCRETE_METHOD
    · rw [own_asp_v11]; exact ne_FIELD_METHODS
  · rw [own_asp_v10]; rcases num hj with rfl | rfl | rfl | rfl | rfl | rfl | rfl | rfl | rfl | rfl | rfl | rfl
    · rw [own_asp_v0]; exact fun q => ne_Aspect_PROGRAM_CONCRETE_METHOD q.symm
    · rw [own_asp_v1]; exact fun q => ne_SOURCE_CONCRETE_METHOD q.symm
    · rw [own_asp_v2]; exact fun q => ne_SUPERCLASS_CONCRETE_METHOD q.symm
    · rw [own_asp_v3]; exact fun q => ne_INTERFACES_CONCRETE_METHOD q.symm
    · rw [own_asp_v4]; exact fun q => ne_INTERFACE_CONCRETE_METHOD q.symm
    · rw [own_asp_v5]; exact fun q => ne_DECLARES_METHOD_CONCRETE_METHOD q.symm
    · rw [own_asp_v6]; exact fun q => ne_FLAGS_CONCRETE_METHOD q.symm
    · rw [own_asp_v7]; exact fun q => ne_THROWS_CONCRETE_METHOD q.symm
    · rw [own_asp_v8]; exact fun q => ne_PROGRAM_METHOD_CONCRETE_METHOD q.symm
    · rw [own_asp_v9]; exact fun q => ne_FIELD_CONCRETE_METHOD q.symm
    · exact absurd rfl h
    · rw [own_asp_v11]; exact ne_CONCRETE_METHOD_METHODS
  · rw [own_asp_v11]; rcases num hj with rfl | rfl | rfl | rfl | rfl | rfl | rfl | rfl | rfl | rfl | rfl | rfl
    · rw [own_asp_v0]; exact fun q => ne_Aspect_PROGRAM_METHODS q.symm
    · rw [own_asp_v1]; exact fun q => ne_SOURCE_METHODS q.symm
    · rw [own_asp_v2]; exact fun q => ne_SUPERCLASS_METHODS q.symm
    · rw [own_asp_v3]; exact fun q => ne_INTERFACES_METHODS q.symm
    · rw [own_asp_v4]; exact fun q => ne_INTERFACE_METHODS q.symm
    · rw [own_asp_v5]; exact fun q => ne_DECLARES_METHOD_METHODS q.symm
    · rw [own_asp_v6]; exact fun q => ne_FLAGS_METHODS q.symm
    · rw [own_asp_v7]; exact fun q => ne_THROWS_METHODS q.symm
    · rw [own_asp_v8]; exact fun q => ne_PROGRAM_METHOD_METHODS q.symm
    · rw [own_asp_v9]; exact fun q => ne_FIELD_METHODS q.symm
    · rw [own_asp_v10]; exact fun q => ne_CONCRETE_METHOD_METHODS q.symm
    · exact absurd rfl h
theorem own_r5 (x : Int32) (d : Int) (y m : Int32) (k : Nat) (hk : k ≤ 31) (hm : m.toBitVec.toNat = 2 ^ k - 1) (hy : y.toInt = d) (hd : 0 < d) : 0 ≤ ((x &&& m) % y).toInt ∧ ((x &&& m) % y).toInt < d := by
  have e := c_mask x m k hk hm
  have p : 0 < ((2 ^ k : Nat) : Int) := by exact_mod_cast Nat.pos_of_ne_zero (by simp)
  have q : 0 ≤ (x &&& m).toInt := by rw [e]; exact Int.emod_nonneg _ (by omega)
  have r := (c_irem (x &&& m) y d hy).1 q
  rw [r]; exact ⟨Int.emod_nonneg _ (by omega), Int.emod_lt_of_pos _ hd⟩
theorem own_pd6 : parseMethodDescriptor "(J)Ljava/lang/String;" = some ⟨[.long], some (.object "java/lang/String")⟩ := by decide +kernel
theorem own_pd7 : parseMethodDescriptor "(I)Lcom/example/callsite/callsite/bytecode/ClassRead$Source;" = some ⟨[.int], some (.object "com/example/callsite/callsite/bytecode/ClassRead$Source")⟩ := by decide +kernel
theorem own_pd8 : parseMethodDescriptor "(I)Lcom/example/callsite/callsite/bytecode/ClassRead$Aspect;" = some ⟨[.int], some (.object "com/example/callsite/callsite/bytecode/ClassRead$Aspect")⟩ := by decide +kernel
theorem own_pd9 : parseMethodDescriptor "(Ljava/lang/String;Lcom/example/callsite/callsite/bytecode/ClassRead$Source;Lcom/example/callsite/callsite/bytecode/ClassRead$Aspect;Ljava/lang/String;Ljava/lang/String;)V" = some ⟨[(.object "java/lang/String"), (.object "com/example/callsite/callsite/bytecode/ClassRead$Source"), (.object "com/example/callsite/callsite/bytecode/ClassRead$Aspect"), (.object "java/lang/String"), (.object "java/lang/String")], none⟩ := by decide +kernel
theorem own_pd10 : parseMethodDescriptor "(Ljava/lang/Object;)Z" = some ⟨[(.object "java/lang/Object")], some .boolean⟩ := by decide +kernel
theorem own_pd11 : parseMethodDescriptor "(JJ)Z" = some ⟨[.long, .long], some .boolean⟩ := by decide +kernel
theorem own_ef0 (m : MethodId) (x0 : Int64) (x1 : Int64) (x2 : Int32) (x3 : Int32) : entryFrame m #[(.long x0), (.long x1), (.int x2), (.int x3)] maxLocals = mkF m 0 #[.val (.long x0), .second, .val (.long x1), .second, ow_i x2, ow_i x3, .unset, .unset, .unset, .unset, .unset, .unset, .unset, .unset, .unset, .unset, .unset, .unset, .unset, .unset, .unset, .unset, .unset, .unset, .unset, .unset, .unset, .unset, .unset, .unset, .unset, .unset, .unset, .unset, .unset] [] := by first | (simp [entryFrame, mkF, argsToLocals, Value.category, maxLocals]; done) | rfl
theorem own_pn0 : plainName "com/example/callsite/callsite/bytecode/ClassReadEqualsPinLaw" = true := by first | (simp [plainName, overriddenIn]; done) | decide +kernel
def own_Q0 (n0 : Nat) (v : Option Value) (L : List Loc) : Prop := v = some (.int 1) ∧ Fr n0 L
set_option maxRecDepth 65536 in
set_option maxHeartbeats 40000000 in
theorem own_m0 (l : Launch) (Z : State) (a0 : Array Value) (hw : ∀ d ∈ tables_1, d.before a0 Z = true) (ws : List Jvm.Cond) (q1 : Int64) (q2 : Int64) (p3 : Int32) (p4 : Int32) (w_COMPACT_STRINGS : Int32) (w_Source_PROGRAM : Addr) (w_JDK : Addr) (w_LIBRARY : Addr) (w_UNKNOWN : Addr) (w_NOT_PROGRAM : Addr) (w_Aspect_PROGRAM : Addr) (w_SOURCE : Addr) (w_SUPERCLASS : Addr) (w_INTERFACES : Addr) (w_INTERFACE : Addr) (w_DECLARES_METHOD : Addr) (w_FLAGS : Addr) (w_THROWS : Addr) (w_PROGRAM_METHOD : Addr) (w_FIELD : Addr) (w_CONCRETE_METHOD : Addr) (w_METHODS : Addr) (h0 : Heap) (n0 : Nat) (Z0 : n0 ≤ h0.size) (S_COMPACT_STRINGS : Sta Z h0 "java/lang/String" "COMPACT_STRINGS" "Z" (.int w_COMPACT_STRINGS)) (S_Source_PROGRAM : Sta Z h0 "com/example/callsite/callsite/bytecode/ClassRead$Source" "PROGRAM" "Lcom/example/callsite/callsite/bytecode/ClassRead$Source;" (.ref w_Source_PROGRAM)) (S_JDK : Sta Z h0 "com/example/callsite/callsite/bytecode/ClassRead$Source" "JDK" "Lcom/example/callsite/callsite/bytecode/ClassRead$Source;" (.ref w_JDK)) (S_LIBRARY : Sta Z h0 "com/example/callsite/callsite/bytecode/ClassRead$Source" "LIBRARY" "Lcom/example/callsite/callsite/bytecode/ClassRead$Source;" (.ref w_LIBRARY)) (S_UNKNOWN : Sta Z h0 "com/example/callsite/callsite/bytecode/ClassRead$Source" "UNKNOWN" "Lcom/example/callsite/callsite/bytecode/ClassRead$Source;" (.ref w_UNKNOWN)) (S_NOT_PROGRAM : Sta Z h0 "com/example/callsite/callsite/bytecode/ClassRead$Source" "NOT_PROGRAM" "Lcom/example/callsite/callsite/bytecode/ClassRead$Source;" (.ref w_NOT_PROGRAM)) (S_Aspect_PROGRAM : Sta Z h0 "com/example/callsite/callsite/bytecode/ClassRead$Aspect" "PROGRAM" "Lcom/example/callsite/callsite/bytecode/ClassRead$Aspect;" (.ref w_Aspect_PROGRAM)) (S_SOURCE : Sta Z h0 "com/example/callsite/callsite/bytecode/ClassRead$Aspect" "SOURCE" "Lcom/example/callsite/callsite/bytecode/ClassRead$Aspect;" (.ref w_SOURCE)) (S_SUPERCLASS : Sta Z h0 "com/example/callsite/callsite/bytecode/ClassRead$Aspect" "SUPERCLASS" "Lcom/example/callsite/callsite/bytecode/ClassRead$Aspect;" (.ref w_SUPERCLASS)) (S_INTERFACES : Sta Z h0 "com/example/callsite/callsite/bytecode/ClassRead$Aspect" "INTERFACES" "Lcom/example/callsite/callsite/bytecode/ClassRead$Aspect;" (.ref w_INTERFACES)) (S_INTERFACE : Sta Z h0 "com/example/callsite/callsite/bytecode/ClassRead$Aspect" "INTERFACE" "Lcom/example/callsite/callsite/bytecode/ClassRead$Aspect;" (.ref w_INTERFACE)) (S_DECLARES_METHOD : Sta Z h0 "com/example/callsite/callsite/bytecode/ClassRead$Aspect" "DECLARES_METHOD" "Lcom/example/callsite/callsite/bytecode/ClassRead$Aspect;" (.ref w_DECLARES_METHOD)) (S_FLAGS : Sta Z h0 "com/example/callsite/callsite/bytecode/ClassRead$Aspect" "FLAGS" "Lcom/example/callsite/callsite/bytecode/ClassRead$Aspect;" (.ref w_FLAGS)) (S_THROWS : Sta Z h0 "com/example/callsite/callsite/bytecode/ClassRead$Aspect" "THROWS" "Lcom/example/callsite/callsite/bytecode/ClassRead$Aspect;" (.ref w_THROWS)) (S_PROGRAM_METHOD : Sta Z h0 "com/example/callsite/callsite/bytecode/ClassRead$Aspect" "PROGRAM_METHOD" "Lcom/example/callsite/callsite/bytecode/ClassRead$Aspect;" (.ref w_PROGRAM_METHOD)) (S_FIELD : Sta Z h0 "com/example/callsite/callsite/bytecode/ClassRead$Aspect" "FIELD" "Lcom/example/callsite/callsite/bytecode/ClassRead$Aspect;" (.ref w_FIELD)) (S_CONCRETE_METHOD : Sta Z h0 "com/example/callsite/callsite/bytecode/ClassRead$Aspect" "CONCRETE_METHOD" "Lcom/example/callsite/callsite/bytecode/ClassRead$Aspect;" (.ref w_CONCRETE_METHOD)) (S_METHODS : Sta Z h0 "com/example/callsite/callsite/bytecode/ClassRead$Aspect" "METHODS" "Lcom/example/callsite/callsite/bytecode/ClassRead$Aspect;" (.ref w_METHODS)) (hz : ¬ (w_COMPACT_STRINGS = (0 : Int32))) (ne_Source_PROGRAM_JDK : ¬ (w_Source_PROGRAM = w_JDK)) (ne_Source_PROGRAM_LIBRARY : ¬ (w_Source_PROGRAM = w_LIBRARY)) (ne_Source_PROGRAM_UNKNOWN : ¬ (w_Source_PROGRAM = w_UNKNOWN)) (ne_Source_PROGRAM_NOT_PROGRAM : ¬ (w_Source_PROGRAM = w_NOT_PROGRAM)) (ne_JDK_LIBRARY : ¬ (w_JDK = w_LIBRARY)) (ne_JDK_UNKNOWN : ¬ (w_JDK = w_UNKNOWN)) (ne_JDK_NOT_PROGRAM : ¬ (w_JDK = w_NOT_PROGRAM)) (ne_LIBRARY_UNKNOWN : ¬ (w_LIBRARY = w_UNKNOWN)) (ne_LIBRARY_NOT_PROGRAM : ¬ (w_LIBRARY = w_NOT_PROGRAM)) (ne_UNKNOWN_NOT_PROGRAM : ¬ (w_UNKNOWN = w_NOT_PROGRAM)) (ne_Aspect_PROGRAM_SOURCE : ¬ (w_Aspect_PROGRAM = w_SOURCE)) (ne_Aspect_PROGRAM_SUPERCLASS : ¬ (w_Aspect_PROGRAM = w_SUPERCLASS)) (ne_Aspect_PROGRAM_INTERFACES : ¬ (w_Aspect_PROGRAM = w_INTERFACES)) (ne_Aspect_PROGRAM_INTERFACE : ¬ (w_Aspect_PROGRAM = w_INTERFACE)) (ne_Aspect_PROGRAM_DECLARES_METHOD : ¬ (w_Aspect_PROGRAM = w_DECLARES_METHOD)) (ne_Aspect_PROGRAM_FLAGS : ¬ (w_Aspect_PROGRAM = w_FLAGS)) (ne_Aspect_PROGRAM_THROWS : ¬ (w_Aspect_PROGRAM = w_THROWS)) (ne_Aspect_PROGRAM_PROGRAM_METHOD : ¬ (w_Aspect_PROGRAM = w_PROGRAM_METHOD)) (ne_Aspect_PROGRAM_FIELD : ¬ (w_Aspect_PROGRAM = w_FIELD)) (ne_Aspect_PROGRAM_CONCRETE_METHOD : ¬ (w_Aspect_PROGRAM = w_CONCRETE_METHOD)) (ne_Aspect_PROGRAM_METHODS : ¬ (w_Aspect_PROGRAM = w_METHODS)) (ne_SOURCE_SUPERCLASS : ¬ (w_SOURCE = w_SUPERCLASS)) (ne_SOURCE_INTERFACES : ¬ (w_SOURCE = w_INTERFACES)) (ne_SOURCE_INTERFACE : ¬ (w_SOURCE = w_INTERFACE)) (ne_SOURCE_DECLARES_METHOD : ¬ (w_SOURCE = w_DECLARES_METHOD)) (ne_SOURCE_FLAGS : ¬ (w_SOURCE = w_FLAGS)) (ne_SOURCE_THROWS : ¬ (w_SOURCE = w_THROWS)) (ne_SOURCE_PROGRAM_METHOD : ¬ (w_SOURCE = w_PROGRAM_METHOD)) (ne_SOURCE_FIELD : ¬ (w_SOURCE = w_FIELD)) (ne_SOURCE_CONCRETE_METHOD : ¬ (w_SOURCE = w_CONCRETE_METHOD)) (ne_SOURCE_METHODS : ¬ (w_SOURCE = w_METHODS)) (ne_SUPERCLASS_INTERFACES : ¬ (w_SUPERCLASS = w_INTERFACES)) (ne_SUPERCLASS_INTERFACE : ¬ (w_SUPERCLASS = w_INTERFACE)) (ne_SUPERCLASS_DECLARES_METHOD : ¬ (w_SUPERCLASS = w_DECLARES_METHOD)) (ne_SUPERCLASS_FLAGS : ¬ (w_SUPERCLASS = w_FLAGS)) (ne_SUPERCLASS_THROWS : ¬ (w_SUPERCLASS = w_THROWS)) (ne_SUPERCLASS_PROGRAM_METHOD : ¬ (w_SUPERCLASS = w_PROGRAM_METHOD)) (ne_SUPERCLASS_FIELD : ¬ (w_SUPERCLASS = w_FIELD)) (ne_SUPERCLASS_CONCRETE_METHOD : ¬ (w_SUPERCLASS = w_CONCRETE_METHOD)) (ne_SUPERCLASS_METHODS : ¬ (w_SUPERCLASS = w_METHODS)) (ne_INTERFACES_INTERFACE : ¬ (w_INTERFACES = w_INTERFACE)) (ne_INTERFACES_DECLARES_METHOD : ¬ (w_INTERFACES = w_DECLARES_METHOD)) (ne_INTERFACES_FLAGS : ¬ (w_INTERFACES = w_FLAGS)) (ne_INTERFACES_THROWS : ¬ (w_INTERFACES = w_THROWS)) (ne_INTERFACES_PROGRAM_METHOD : ¬ (w_INTERFACES = w_PROGRAM_METHOD)) (ne_INTERFACES_FIELD : ¬ (w_INTERFACES = w_FIELD)) (ne_INTERFACES_CONCRETE_METHOD : ¬ (w_INTERFACES = w_CONCRETE_METHOD)) (ne_INTERFACES_METHODS : ¬ (w_INTERFACES = w_METHODS)) (ne_INTERFACE_DECLARES_METHOD : ¬ (w_INTERFACE = w_DECLARES_METHOD)) (ne_INTERFACE_FLAGS : ¬ (w_INTERFACE = w_FLAGS)) (ne_INTERFACE_THROWS : ¬ (w_INTERFACE = w_THROWS)) (ne_INTERFACE_PROGRAM_METHOD : ¬ (w_INTERFACE = w_PROGRAM_METHOD)) (ne_INTERFACE_FIELD : ¬ (w_INTERFACE = w_FIELD)) (ne_INTERFACE_CONCRETE_METHOD : ¬ (w_INTERFACE = w_CONCRETE_METHOD)) (ne_INTERFACE_METHODS : ¬ (w_INTERFACE = w_METHODS)) (ne_DECLARES_METHOD_FLAGS : ¬ (w_DECLARES_METHOD = w_FLAGS)) (ne_DECLARES_METHOD_THROWS : ¬ (w_DECLARES_METHOD = w_THROWS)) (ne_DECLARES_METHOD_PROGRAM_METHOD : ¬ (w_DECLARES_METHOD = w_PROGRAM_METHOD)) (ne_DECLARES_METHOD_FIELD : ¬ (w_DECLARES_METHOD = w_FIELD)) (ne_DECLARES_METHOD_CONCRETE_METHOD : ¬ (w_DECLARES_METHOD = w_CONCRETE_METHOD)) (ne_DECLARES_METHOD_METHODS : ¬ (w_DECLARES_METHOD = w_METHODS)) (ne_FLAGS_THROWS : ¬ (w_FLAGS = w_THROWS)) (ne_FLAGS_PROGRAM_METHOD : ¬ (w_FLAGS = w_PROGRAM_METHOD)) (ne_FLAGS_FIELD : ¬ (w_FLAGS = w_FIELD)) (ne_FLAGS_CONCRETE_METHOD : ¬ (w_FLAGS = w_CONCRETE_METHOD)) (ne_FLAGS_METHODS : ¬ (w_FLAGS = w_METHODS)) (ne_THROWS_PROGRAM_METHOD : ¬ (w_THROWS = w_PROGRAM_METHOD)) (ne_THROWS_FIELD : ¬ (w_THROWS = w_FIELD)) (ne_THROWS_CONCRETE_METHOD : ¬ (w_THROWS = w_CONCRETE_METHOD)) (ne_THROWS_METHODS : ¬ (w_THROWS = w_METHODS)) (ne_PROGRAM_METHOD_FIELD : ¬ (w_PROGRAM_METHOD = w_FIELD)) (ne_PROGRAM_METHOD_CONCRETE_METHOD : ¬ (w_PROGRAM_METHOD = w_CONCRETE_METHOD)) (ne_PROGRAM_METHOD_METHODS : ¬ (w_PROGRAM_METHOD = w_METHODS)) (ne_FIELD_CONCRETE_METHOD : ¬ (w_FIELD = w_CONCRETE_METHOD)) (ne_FIELD_METHODS : ¬ (w_FIELD = w_METHODS)) (ne_CONCRETE_METHOD_METHODS : ¬ (w_CONCRETE_METHOD = w_METHODS)) :
    MetFree l x (head1 (Jvm.Cond.code x code maxLocals ret :: ws) room_1) (fun a U => a = #[(.long q1), (.long q2), (.int p3), (.int p4)] ∧ Z.Warmed39 U.vm ∧ U.heap = h0 ∧ CHv Z consts_1 U.vm h0) (fun _ _ _ _ _ => True) (fun _ U o U' => ∃ v L, o = .returned v ∧ own_Q0 n0 v L ∧ CHr Z consts_1 U.vm U.heap U'.vm U'.heap ∧ ReturnedEndW U o U' L room_1.cells room_1.slots) := by
  refine MetFree.of_bodySF (plainFor_of_name own_pn0) hisR ?_
  intro p e s m args below meth c s₁ Bd hml0 hP hK
  obtain ⟨rfl, hZ, hh, CH0⟩ := hP
  have hx := Bd.exec
  have hby := Bd.bytes
  have hml : c.maxLocals = 35 := hml0
  have hown : s.vm.findClass "com/example/callsite/callsite/bytecode/ClassReadEqualsPinLaw" = some m.cls := findClass_of_methodNamed Bd.named
  have hnm := (name_of_methodNamed Bd.named Bd.method).1
  have X0 : Stand p l e room_1 s m #[(.long q1), (.long q2), (.int p3), (.int p4)] below meth c s₁ [] 0 0 := Stand.of_body Bd
  have X0 : Stand p l e room_1 (s.setVm s.vm) m #[(.long q1), (.long q2), (.int p3), (.int p4)] below meth c s₁ [] 0 0 := X0
  have hZ : Z.Warmed39 (s.setVm s.vm).vm := hZ
  have hown : (s.setVm s.vm).vm.findClass "com/example/callsite/callsite/bytecode/ClassReadEqualsPinLaw" = some m.cls := hown
  have e0 : s₁.heap = h0 := by rw [← hh, Bd.state]; rfl
  have N0 := Fr.nil n0
  have hS0 : s.Since s.vm 0 := (State.WarmedH.refl s).since _
  have hk0 : 0 ≤ h0.size := Nat.zero_le _
  have CR0 : CHr Z consts_1 s.vm h0 s.vm h0 := CHr.refl CH0
  have k0 : own_To p.tables e below (s₁.setTop (entryFrame m #[(.long q1), (.long q2), (.int p3), (.int p4)] maxLocals)) s₁ (mkF m 0 #[.val (.long q1), .second, .val (.long q2), .second, ow_i p3, ow_i p4, .unset, .unset, .unset, .unset, .unset, .unset, .unset, .unset, .unset, .unset, .unset, .unset, .unset, .unset, .unset, .unset, .unset, .unset, .unset, .unset, .unset, .unset, .unset, .unset, .unset, .unset, .unset, .unset, .unset] []) := fun t k => castTop (own_ef0 m q1 q2 p3 p4) k
  have k := k0
  clear k0
  generalize (s₁.setTop (entryFrame m #[(.long q1), (.long q2), (.int p3), (.int p4)] maxLocals)) = A0 at k ⊢
  replace k : ow s₁ (mkF m 4 #[.val (.long q1), .second, .val (.long q2), .second, ow_i p3, ow_i p4, .unset, .unset, .unset, .unset, .unset, .unset, .unset, .unset, .unset, .unset, .unset, .unset, .unset, .unset, .unset, .unset, .unset, .unset, .unset, .unset, .unset, .unset, .unset, .unset, .unset, .unset, .unset, .unset, .unset] [(.long (262143 : Int64)), (.long q1)]) := fun t q => k t (XS.lloadN X0.here hx rfl (hb hby at_0) rfl (X0.ldc2Long hx hown (mvT hZ (own_h hw 0 rfl)) (g := (mkF m 1 #[.val (.long q1), .second, .val (.long q2), .second, ow_i p3, ow_i p4, .unset, .unset, .unset, .unset, .unset, .unset, .unset, .unset, .unset, .unset, .unset, .unset, .unset, .unset, .unset, .unset, .unset, .unset, .unset, .unset, .unset, .unset, .unset, .unset, .unset, .unset, .unset, .unset, .unset] [(.long q1)])) rfl (hb hby at_1) _ q))
  replace k : ow s₁ (mkF m 5 #[.val (.long q1), .second, .val (.long q2), .second, ow_i p3, ow_i p4, .unset, .unset, .unset, .unset, .unset, .unset, .unset, .unset, .unset, .unset, .unset, .unset, .unset, .unset, .unset, .unset, .unset, .unset, .unset, .unset, .unset, .unset, .unset, .unset, .unset, .unset, .unset, .unset, .unset] [(.long (q1 &&& (262143 : Int64)))]) := fun t q => k t (XS.land X0.here hx rfl (hb hby at_4) rfl q)
  replace k : ow s₁ (mkF m 7 #[.val (.long q1), .second, .val (.long q2), .second, ow_i p3, ow_i p4, .val (.long (q1 &&& (262143 : Int64))), .second, .unset, .unset, .unset, .unset, .unset, .unset, .unset, .unset, .unset, .unset, .unset, .unset, .unset, .unset, .unset, .unset, .unset, .unset, .unset, .unset, .unset, .unset, .unset, .unset, .unset, .unset, .unset] []) := fun t q => k t (XS.lstore X0.here hx rfl (hb hby at_5) rfl (l' := #[.val (.long q1), .second, .val (.long q2), .second, ow_i p3, ow_i p4, .val (.long (q1 &&& (262143 : Int64))), .second, .unset, .unset, .unset, .unset, .unset, .unset, .unset, .unset, .unset, .unset, .unset, .unset, .unset, .unset, .unset, .unset, .unset, .unset, .unset, .unset, .unset, .unset, .unset, .unset, .unset, .unset, .unset]) rfl q)
  obtain ⟨n1, h_n1⟩ : ∃ z, z = (q1 &&& (262143 : Int64)) := ⟨_, rfl⟩
  replace k : own_To p.tables e below A0 s₁ (mkF m 7 #[.val (.long q1), .second, .val (.long q2), .second, ow_i p3, ow_i p4, .val (.long n1), .second, .unset, .unset, .unset, .unset, .unset, .unset, .unset, .unset, .unset, .unset, .unset, .unset, .unset, .unset, .unset, .unset, .unset, .unset, .unset, .unset, .unset, .unset, .unset, .unset, .unset, .unset, .unset] []) := by rw [h_n1]; exact k
  replace k : ow s₁ (mkF m 10 #[.val (.long q1), .second, .val (.long q2), .second, ow_i p3, ow_i p4, .val (.long n1), .second, .unset, .unset, .unset, .unset, .unset, .unset, .unset, .unset, .unset, .unset, .unset, .unset, .unset, .unset, .unset, .unset, .unset, .unset, .unset, .unset, .unset, .unset, .unset, .unset, .unset, .unset, .unset] [(.int 18), (.long q1)]) := fun t q => k t (XS.lloadN X0.here hx rfl (hb hby at_7) rfl (XS.bipush X0.here hx rfl (hb hby at_8) q))
  replace k : ow s₁ (mkF m 11 #[.val (.long q1), .second, .val (.long q2), .second, ow_i p3, ow_i p4, .val (.long n1), .second, .unset, .unset, .unset, .unset, .unset, .unset, .unset, .unset, .unset, .unset, .unset, .unset, .unset, .unset, .unset, .unset, .unset, .unset, .unset, .unset, .unset, .unset, .unset, .unset, .unset, .unset, .unset] [(.long ((q1.toUInt64 >>> ((18 : Int32) &&& 0x3f).toInt64.toUInt64).toInt64))]) := fun t q => k t (XS.lushr X0.here hx rfl (hb hby at_10) rfl q)
  replace k : ow s₁ (mkF m 14 #[.val (.long q1), .second, .val (.long q2), .second, ow_i p3, ow_i p4, .val (.long n1), .second, .unset, .unset, .unset, .unset, .unset, .unset, .unset, .unset, .unset, .unset, .unset, .unset, .unset, .unset, .unset, .unset, .unset, .unset, .unset, .unset, .unset, .unset, .unset, .unset, .unset, .unset, .unset] [(.long (262143 : Int64)), (.long ((q1.toUInt64 >>> ((18 : Int32) &&& 0x3f).toInt64.toUInt64).toInt64))]) := fun t q => k t (X0.ldc2Long hx hown (mvT hZ (own_h hw 0 rfl)) (g := (mkF m 11 #[.val (.long q1), .second, .val (.long q2), .second, ow_i p3, ow_i p4, .val (.long n1), .second, .unset, .unset, .unset, .unset, .unset, .unset, .unset, .unset, .unset, .unset, .unset, .unset, .unset, .unset, .unset, .unset, .unset, .unset, .unset, .unset, .unset, .unset, .unset, .unset, .unset, .unset, .unset] [(.long ((q1.toUInt64 >>> ((18 : Int32) &&& 0x3f).toInt64.toUInt64).toInt64))])) rfl (hb hby at_11) _ q)
  replace k : ow s₁ (mkF m 15 #[.val (.long q1), .second, .val (.long q2), .second, ow_i p3, ow_i p4, .val (.long n1), .second, .unset, .unset, .unset, .unset, .unset, .unset, .unset, .unset, .unset, .unset, .unset, .unset, .unset, .unset, .unset, .unset, .unset, .unset, .unset, .unset, .unset, .unset, .unset, .unset, .unset, .unset, .unset] [(.long (((q1.toUInt64 >>> ((18 : Int32) &&& 0x3f).toInt64.toUInt64).toInt64) &&& (262143 : Int64)))]) := fun t q => k t (XS.land X0.here hx rfl (hb hby at_14) rfl q)
  replace k : ow s₁ (mkF m 17 #[.val (.long q1), .second, .val (.long q2), .second, ow_i p3, ow_i p4, .val (.long n1), .second, .val (.long (((q1.toUInt64 >>> ((18 : Int32) &&& 0x3f).toInt64.toUInt64).toInt64) &&& (262143 : Int64))), .second, .unset, .unset, .unset, .unset, .unset, .unset, .unset, .unset, .unset, .unset, .unset, .unset, .unset, .unset, .unset, .unset, .unset, .unset, .unset, .unset, .unset, .unset, .unset, .unset, .unset] []) := fun t q => k t (XS.lstore X0.here hx rfl (hb hby at_15) rfl (l' := #[.val (.long q1), .second, .val (.long q2), .second, ow_i p3, ow_i p4, .val (.long n1), .second, .val (.long (((q1.toUInt64 >>> ((18 : Int32) &&& 0x3f).toInt64.toUInt64).toInt64) &&& (262143 : Int64))), .second, .unset, .unset, .unset, .unset, .unset, .unset, .unset, .unset, .unset, .unset, .unset, .unset, .unset, .unset, .unset, .unset, .unset, .unset, .unset, .unset, .unset, .unset, .unset, .unset, .unset]) rfl q)
  obtain ⟨m1, h_m1⟩ : ∃ z, z = (((q1.toUInt64 >>> ((18 : Int32) &&& 0x3f).toInt64.toUInt64).toInt64) &&& (262143 : Int64)) := ⟨_, rfl⟩
  replace k : own_To p.tables e below A0 s₁ (mkF m 17 #[.val (.long q1), .second, .val (.long q2), .second, ow_i p3, ow_i p4, .val (.long n1), .second, .val (.long m1), .second, .unset, .unset, .unset, .unset, .unset, .unset, .unset, .unset, .unset, .unset, .unset, .unset, .unset, .unset, .unset, .unset, .unset, .unset, .unset, .unset, .unset, .unset, .unset, .unset, .unset] []) := by rw [h_m1]; exact k
  replace k : ow s₁ (mkF m 20 #[.val (.long q1), .second, .val (.long q2), .second, ow_i p3, ow_i p4, .val (.long n1), .second, .val (.long m1), .second, .unset, .unset, .unset, .unset, .unset, .unset, .unset, .unset, .unset, .unset, .unset, .unset, .unset, .unset, .unset, .unset, .unset, .unset, .unset, .unset, .unset, .unset, .unset, .unset, .unset] [(.int 36), (.long q1)]) := fun t q => k t (XS.lloadN X0.here hx rfl (hb hby at_17) rfl (XS.bipush X0.here hx rfl (hb hby at_18) q))
  replace k : ow s₁ (mkF m 21 #[.val (.long q1), .second, .val (.long q2), .second, ow_i p3, ow_i p4, .val (.long n1), .second, .val (.long m1), .second, .unset, .unset, .unset, .unset, .unset, .unset, .unset, .unset, .unset, .unset, .unset, .unset, .unset, .unset, .unset, .unset, .unset, .unset, .unset, .unset, .unset, .unset, .unset, .unset, .unset] [(.long ((q1.toUInt64 >>> ((36 : Int32) &&& 0x3f).toInt64.toUInt64).toInt64))]) := fun t q => k t (XS.lushr X0.here hx rfl (hb hby at_20) rfl q)
  replace k : ow s₁ (mkF m 24 #[.val (.long q1), .second, .val (.long q2), .second, ow_i p3, ow_i p4, .val (.long n1), .second, .val (.long m1), .second, .unset, .unset, .unset, .unset, .unset, .unset, .unset, .unset, .unset, .unset, .unset, .unset, .unset, .unset, .unset, .unset, .unset, .unset, .unset, .unset, .unset, .unset, .unset, .unset, .unset] [(.long (262143 : Int64)), (.long ((q1.toUInt64 >>> ((36 : Int32) &&& 0x3f).toInt64.toUInt64).toInt64))]) := fun t q => k t (X0.ldc2Long hx hown (mvT hZ (own_h hw 0 rfl)) (g := (mkF m 21 #[.val (.long q1), .second, .val (.long q2), .second, ow_i p3, ow_i p4, .val (.long n1), .second, .val (.long m1), .second, .unset, .unset, .unset, .unset, .unset, .unset, .unset, .unset, .unset, .unset, .unset, .unset, .unset, .unset, .unset, .unset, .unset, .unset, .unset, .unset, .unset, .unset, .unset, .unset, .unset] [(.long ((q1.toUInt64 >>> ((36 : Int32) &&& 0x3f).toInt64.toUInt64).toInt64))])) rfl (hb hby at_21) _ q)
  replace k : ow s₁ (mkF m 25 #[.val (.long q1), .second, .val (.long q2), .second, ow_i p3, ow_i p4, .val (.long n1), .second, .val (.long m1), .second, .unset, .unset, .unset, .unset, .unset, .unset, .unset, .unset, .unset, .unset, .unset, .unset, .unset, .unset, .unset, .unset, .unset, .unset, .unset, .unset, .unset, .unset, .unset, .unset, .unset] [(.long (((q1.toUInt64 >>> ((36 : Int32) &&& 0x3f).toInt64.toUInt64).toInt64) &&& (262143 : Int64)))]) := fun t q => k t (XS.land X0.here hx rfl (hb hby at_24) rfl q)
  replace k : ow s₁ (mkF m 27 #[.val (.long q1), .second, .val (.long q2), .second, ow_i p3, ow_i p4, .val (.long n1), .second, .val (.long m1), .second, .val (.long (((q1.toUInt64 >>> ((36 : Int32) &&& 0x3f).toInt64.toUInt64).toInt64) &&& (262143 : Int64))), .second, .unset, .unset, .unset, .unset, .unset, .unset, .unset, .unset, .unset, .unset, .unset, .unset, .unset, .unset, .unset, .unset, .unset, .unset, .unset, .unset, .unset, .unset, .unset] []) := fun t q => k t (XS.lstore X0.here hx rfl (hb hby at_25) rfl (l' := #[.val (.long q1), .second, .val (.long q2), .second, ow_i p3, ow_i p4, .val (.long n1), .second, .val (.long m1), .second, .val (.long (((q1.toUInt64 >>> ((36 : Int32) &&& 0x3f).toInt64.toUInt64).toInt64) &&& (262143 : Int64))), .second, .unset, .unset, .unset, .unset, .unset, .unset, .unset, .unset, .unset, .unset, .unset, .unset, .unset, .unset, .unset, .unset, .unset, .unset, .unset, .unset, .unset, .unset, .unset]) rfl q)
  obtain ⟨r1, h_r1⟩ : ∃ z, z = (((q1.toUInt64 >>> ((36 : Int32) &&& 0x3f).toInt64.toUInt64).toInt64) &&& (262143 : Int64)) := ⟨_, rfl⟩
  replace k : own_To p.tables e below A0 s₁ (mkF m 27 #[.val (.long q1), .second, .val (.long q2), .second, ow_i p3, ow_i p4, .val (.long n1), .second, .val (.long m1), .second, .val (.long r1), .second, .unset, .unset, .unset, .unset, .unset, .unset, .unset, .unset, .unset, .unset, .unset, .unset, .unset, .unset, .unset, .unset, .unset, .unset, .unset, .unset, .unset, .unset, .unset] []) := by rw [h_r1]; exact k
  replace k : ow s₁ (mkF m 30 #[.val (.long q1), .second, .val (.long q2), .second, ow_i p3, ow_i p4, .val (.long n1), .second, .val (.long m1), .second, .val (.long r1), .second, .unset, .unset, .unset, .unset, .unset, .unset, .unset, .unset, .unset, .unset, .unset, .unset, .unset, .unset, .unset, .unset, .unset, .unset, .unset, .unset, .unset, .unset, .unset] [(.int 1), (.int p4)]) := fun t q => k t (XS.iload X0.here hx rfl (hb hby at_27) rfl (XS.iconst X0.here hx rfl (hb hby at_29) q))
  replace k : ow s₁ (mkF m 31 #[.val (.long q1), .second, .val (.long q2), .second, ow_i p3, ow_i p4, .val (.long n1), .second, .val (.long m1), .second, .val (.long r1), .second, .unset, .unset, .unset, .unset, .unset, .unset, .unset, .unset, .unset, .unset, .unset, .unset, .unset, .unset, .unset, .unset, .unset, .unset, .unset, .unset, .unset, .unset, .unset] [(.int (p4 &&& (1 : Int32)))]) := fun t q => k t (XS.iand X0.here hx rfl (hb hby at_30) rfl q)
  replace k : own_To p.tables e below A0 s₁ (mkF m 44 #[.val (.long q1), .second, .val (.long q2), .second, ow_i p3, ow_i p4, .val (.long n1), .second, .val (.long m1), .second, .val (.long r1), .second, .unset, .unset, .unset, .unset, .unset, .unset, .unset, .unset, .unset, .unset, .unset, .unset, .unset, .unset, .unset, .unset, .unset, .unset, .unset, .unset, .unset, .unset, .unset] [(.long (if (p4 &&& (1 : Int32)) = (0 : Int32) then (q2 &&& (262143 : Int64)) else n1))]) := by
    by_cases hj21 : (p4 &&& (1 : Int32)) = (0 : Int32)
    · simp only [if_pos hj21]
      replace k : ow s₁ (mkF m 39 #[.val (.long q1), .second, .val (.long q2), .second, ow_i p3, ow_i p4, .val (.long n1), .second, .val (.long m1), .second, .val (.long r1), .second, .unset, .unset, .unset, .unset, .unset, .unset, .unset, .unset, .unset, .unset, .unset, .unset, .unset, .unset, .unset, .unset, .unset, .unset, .unset, .unset, .unset, .unset, .unset] []) := fun t q => k t (XS.ifYes X0.here hx rfl (pc0 := 31) (pc' := 39) rfl (hb hby at_31) rfl ((if0 _ _).trans (teq (show (p4 &&& (1 : Int32)) = (0 : Int32) from hj21)).1) (by decide) (by decide) q)
      replace k : ow s₁ (mkF m 43 #[.val (.long q1), .second, .val (.long q2), .second, ow_i p3, ow_i p4, .val (.long n1), .second, .val (.long m1), .second, .val (.long r1), .second, .unset, .unset, .unset, .unset, .unset, .unset, .unset, .unset, .unset, .unset, .unset, .unset, .unset, .unset, .unset, .unset, .unset, .unset, .unset, .unset, .unset, .unset, .unset] [(.long (262143 : Int64)), (.long q2)]) := fun t q => k t (XS.lloadN X0.here hx rfl (hb hby at_39) rfl (X0.ldc2Long hx hown (mvT hZ (own_h hw 0 rfl)) (g := (mkF m 40 #[.val (.long q1), .second, .val (.long q2), .second, ow_i p3, ow_i p4, .val (.long n1), .second, .val (.long m1), .second, .val (.long r1), .second, .unset, .unset, .unset, .unset, .unset, .unset, .unset, .unset, .unset, .unset, .unset, .unset, .unset, .unset, .unset, .unset, .unset, .unset, .unset, .unset, .unset, .unset, .unset] [(.long q2)])) rfl (hb hby at_40) _ q))
      replace k : ow s₁ (mkF m 44 #[.val (.long q1), .second, .val (.long q2), .second, ow_i p3, ow_i p4, .val (.long n1), .second, .val (.long m1), .second, .val (.long r1), .second, .unset, .unset, .unset, .unset, .unset, .unset, .unset, .unset, .unset, .unset, .unset, .unset, .unset, .unset, .unset, .unset, .unset, .unset, .unset, .unset, .unset, .unset, .unset] [(.long (q2 &&& (262143 : Int64)))]) := fun t q => k t (XS.land X0.here hx rfl (hb hby at_43) rfl q)
      exact k
    · simp only [if_neg hj21]
      replace k : ow s₁ (mkF m 34 #[.val (.long q1), .second, .val (.long q2), .second, ow_i p3, ow_i p4, .val (.long n1), .second, .val (.long m1), .second, .val (.long r1), .second, .unset, .unset, .unset, .unset, .unset, .unset, .unset, .unset, .unset, .unset, .unset, .unset, .unset, .unset, .unset, .unset, .unset, .unset, .unset, .unset, .unset, .unset, .unset] []) := fun t q => k t (XS.ifNo X0.here hx rfl (hb hby at_31) rfl ((if0 _ _).trans (feq (show ¬ ((p4 &&& (1 : Int32)) = (0 : Int32)) from hj21)).1) q)
      replace k : ow s₁ (mkF m 44 #[.val (.long q1), .second, .val (.long q2), .second, ow_i p3, ow_i p4, .val (.long n1), .second, .val (.long m1), .second, .val (.long r1), .second, .unset, .unset, .unset, .unset, .unset, .unset, .unset, .unset, .unset, .unset, .unset, .unset, .unset, .unset, .unset, .unset, .unset, .unset, .unset, .unset, .unset, .unset, .unset] [(.long n1)]) := fun t q => k t (XS.lload X0.here hx rfl (hb hby at_34) rfl (XS.goto X0.here hx rfl (pc0 := 36) (pc' := 44) rfl (hb hby at_36) (by decide) (by decide) q))
      exact k
  replace k : ow s₁ (mkF m 46 #[.val (.long q1), .second, .val (.long q2), .second, ow_i p3, ow_i p4, .val (.long n1), .second, .val (.long m1), .second, .val (.long r1), .second, .val (.long (if (p4 &&& (1 : Int32)) = (0 : Int32) then (q2 &&& (262143 : Int64)) else n1)), .second, .unset, .unset, .unset, .unset, .unset, .unset, .unset, .unset, .unset, .unset, .unset, .unset, .unset, .unset, .unset, .unset, .unset, .unset, .unset, .unset, .unset] []) := fun t q => k t (XS.lstore X0.here hx rfl (hb hby at_44) rfl (l' := #[.val (.long q1), .second, .val (.long q2), .second, ow_i p3, ow_i p4, .val (.long n1), .second, .val (.long m1), .second, .val (.long r1), .second, .val (.long (if (p4 &&& (1 : Int32)) = (0 : Int32) then (q2 &&& (262143 : Int64)) else n1)), .second, .unset, .unset, .unset, .unset, .unset, .unset, .unset, .unset, .unset, .unset, .unset, .unset, .unset, .unset, .unset, .unset, .unset, .unset, .unset, .unset, .unset]) rfl q)
  obtain ⟨n2, h_n2⟩ : ∃ z, z = (if (p4 &&& (1 : Int32)) = (0 : Int32) then (q2 &&& (262143 : Int64)) else n1) := ⟨_, rfl⟩
  replace k : own_To p.tables e below A0 s₁ (mkF m 46 #[.val (.long q1), .second, .val (.long q2), .second, ow_i p3, ow_i p4, .val (.long n1), .second, .val (.long m1), .second, .val (.long r1), .second, .val (.long n2), .second, .unset, .unset, .unset, .unset, .unset, .unset, .unset, .unset, .unset, .unset, .unset, .unset, .unset, .unset, .unset, .unset, .unset, .unset, .unset, .unset, .unset] []) := by rw [h_n2]; exact k
  replace k : ow s₁ (mkF m 49 #[.val (.long q1), .second, .val (.long q2), .second, ow_i p3, ow_i p4, .val (.long n1), .second, .val (.long m1), .second, .val (.long r1), .second, .val (.long n2), .second, .unset, .unset, .unset, .unset, .unset, .unset, .unset, .unset, .unset, .unset, .unset, .unset, .unset, .unset, .unset, .unset, .unset, .unset, .unset, .unset, .unset] [(.int 2), (.int p4)]) := fun t q => k t (XS.iload X0.here hx rfl (hb hby at_46) rfl (XS.iconst X0.here hx rfl (hb hby at_48) q))
  replace k : ow s₁ (mkF m 50 #[.val (.long q1), .second, .val (.long q2), .second, ow_i p3, ow_i p4, .val (.long n1), .second, .val (.long m1), .second, .val (.long r1), .second, .val (.long n2), .second, .unset, .unset, .unset, .unset, .unset, .unset, .unset, .unset, .unset, .unset, .unset, .unset, .unset, .unset, .unset, .unset, .unset, .unset, .unset, .unset, .unset] [(.int (p4 &&& (2 : Int32)))]) := fun t q => k t (XS.iand X0.here hx rfl (hb hby at_49) rfl q)
  replace k : own_To p.tables e below A0 s₁ (mkF m 66 #[.val (.long q1), .second, .val (.long q2), .second, ow_i p3, ow_i p4, .val (.long n1), .second, .val (.long m1), .second, .val (.long r1), .second, .val (.long n2), .second, .unset, .unset, .unset, .unset, .unset, .unset, .unset, .unset, .unset, .unset, .unset, .unset, .unset, .unset, .unset, .unset, .unset, .unset, .unset, .unset, .unset] [(.long (if (p4 &&& (2 : Int32)) = (0 : Int32) then (((q2.toUInt64 >>> ((18 : Int32) &&& 0x3f).toInt64.toUInt64).toInt64) &&& (262143 : Int64)) else m1))]) := by
    by_cases hj22 : (p4 &&& (2 : Int32)) = (0 : Int32)
    · simp only [if_pos hj22]
      replace k : ow s₁ (mkF m 58 #[.val (.long q1), .second, .val (.long q2), .second, ow_i p3, ow_i p4, .val (.long n1), .second, .val (.long m1), .second, .val (.long r1), .second, .val (.long n2), .second, .unset, .unset, .unset, .unset, .unset, .unset, .unset, .unset, .unset, .unset, .unset, .unset, .unset, .unset, .unset, .unset, .unset, .unset, .unset, .unset, .unset] []) := fun t q => k t (XS.ifYes X0.here hx rfl (pc0 := 50) (pc' := 58) rfl (hb hby at_50) rfl ((if0 _ _).trans (teq (show (p4 &&& (2 : Int32)) = (0 : Int32) from hj22)).1) (by decide) (by decide) q)
      replace k : ow s₁ (mkF m 61 #[.val (.long q1), .second, .val (.long q2), .second, ow_i p3, ow_i p4, .val (.long n1), .second, .val (.long m1), .second, .val (.long r1), .second, .val (.long n2), .second, .unset, .unset, .unset, .unset, .unset, .unset, .unset, .unset, .unset, .unset, .unset, .unset, .unset, .unset, .unset, .unset, .unset, .unset, .unset, .unset, .unset] [(.int 18), (.long q2)]) := fun t q => k t (XS.lloadN X0.here hx rfl (hb hby at_58) rfl (XS.bipush X0.here hx rfl (hb hby at_59) q))
      replace k : ow s₁ (mkF m 62 #[.val (.long q1), .second, .val (.long q2), .second, ow_i p3, ow_i p4, .val (.long n1), .second, .val (.long m1), .second, .val (.long r1), .second, .val (.long n2), .second, .unset, .unset, .unset, .unset, .unset, .unset, .unset, .unset, .unset, .unset, .unset, .unset, .unset, .unset, .unset, .unset, .unset, .unset, .unset, .unset, .unset] [(.long ((q2.toUInt64 >>> ((18 : Int32) &&& 0x3f).toInt64.toUInt64).toInt64))]) := fun t q => k t (XS.lushr X0.here hx rfl (hb hby at_61) rfl q)
      replace k : ow s₁ (mkF m 65 #[.val (.long q1), .second, .val (.long q2), .second, ow_i p3, ow_i p4, .val (.long n1), .second, .val (.long m1), .second, .val (.long r1), .second, .val (.long n2), .second, .unset, .unset, .unset, .unset, .unset, .unset, .unset, .unset, .unset, .unset, .unset, .unset, .unset, .unset, .unset, .unset, .unset, .unset, .unset, .unset, .unset] [(.long (262143 : Int64)), (.long ((q2.toUInt64 >>> ((18 : Int32) &&& 0x3f).toInt64.toUInt64).toInt64))]) := fun t q => k t (X0.ldc2Long hx hown (mvT hZ (own_h hw 0 rfl)) (g := (mkF m 62 #[.val (.long q1), .second, .val (.long q2), .second, ow_i p3, ow_i p4, .val (.long n1), .second, .val (.long m1), .second, .val (.long r1), .second, .val (.long n2), .second, .unset, .unset, .unset, .unset, .unset, .unset, .unset, .unset, .unset, .unset, .unset, .unset, .unset, .unset, .unset, .unset, .unset, .unset, .unset, .unset, .unset] [(.long ((q2.toUInt64 >>> ((18 : Int32) &&& 0x3f).toInt64.toUInt64).toInt64))])) rfl (hb hby at_62) _ q)
      replace k : ow s₁ (mkF m 66 #[.val (.long q1), .second, .val (.long q2), .second, ow_i p3, ow_i p4, .val (.long n1), .second, .val (.long m1), .second, .val (.long r1), .second, .val (.long n2), .second, .unset, .unset, .unset, .unset, .unset, .unset, .unset, .unset, .unset, .unset, .unset, .unset, .unset, .unset, .unset, .unset, .unset, .unset, .unset, .unset, .unset] [(.long (((q2.toUInt64 >>> ((18 : Int32) &&& 0x3f).toInt64.toUInt64).toInt64) &&& (262143 : Int64)))]) := fun t q => k t (XS.land X0.here hx rfl (hb hby at_65) rfl q)
      exact k
    · simp only [if_neg hj22]
      replace k : ow s₁ (mkF m 53 #[.val (.long q1), .second, .val (.long q2), .second, ow_i p3, ow_i p4, .val (.long n1), .second, .val (.long m1), .second, .val (.long r1), .second, .val (.long n2), .second, .unset, .unset, .unset, .unset, .unset, .unset, .unset, .unset, .unset, .unset, .unset, .unset, .unset, .unset, .unset, .unset, .unset, .unset, .unset, .unset, .unset] []) := fun t q => k t (XS.ifNo X0.here hx rfl (hb hby at_50) rfl ((if0 _ _).trans (feq (show ¬ ((p4 &&& (2 : Int32)) = (0 : Int32)) from hj22)).1) q)
      replace k : ow s₁ (mkF m 66 #[.val (.long q1), .second, .val (.long q2), .second, ow_i p3, ow_i p4, .val (.long n1), .second, .val (.long m1), .second, .val (.long r1), .second, .val (.long n2), .second, .unset, .unset, .unset, .unset, .unset, .unset, .unset, .unset, .unset, .unset, .unset, .unset, .unset, .unset, .unset, .unset, .unset, .unset, .unset, .unset, .unset] [(.long m1)]) := fun t q => k t (XS.lload X0.here hx rfl (hb hby at_53) rfl (XS.goto X0.here hx rfl (pc0 := 55) (pc' := 66) rfl (hb hby at_55) (by decide) (by decide) q))
      exact k
  replace k : ow s₁ (mkF m 68 #[.val (.long q1), .second, .val (.long q2), .second, ow_i p3, ow_i p4, .val (.long n1), .second, .val (.long m1), .second, .val (.long r1), .second, .val (.long n2), .second, .val (.long (if (p4 &&& (2 : Int32)) = (0 : Int32) then (((q2.toUInt64 >>> ((18 : Int32) &&& 0x3f).toInt64.toUInt64).toInt64) &&& (262143 : Int64)) else m1)), .second, .unset, .unset, .unset, .unset, .unset, .unset, .unset, .unset, .unset, .unset, .unset, .unset, .unset, .unset, .unset, .unset, .unset, .unset, .unset] []) := fun t q => k t (XS.lstore X0.here hx rfl (hb hby at_66) rfl (l' := #[.val (.long q1), .second, .val (.long q2), .second, ow_i p3, ow_i p4, .val (.long n1), .second, .val (.long m1), .second, .val (.long r1), .second, .val (.long n2), .second, .val (.long (if (p4 &&& (2 : Int32)) = (0 : Int32) then (((q2.toUInt64 >>> ((18 : Int32) &&& 0x3f).toInt64.toUInt64).toInt64) &&& (262143 : Int64)) else m1)), .second, .unset, .unset, .unset, .unset, .unset, .unset, .unset, .unset, .unset, .unset, .unset, .unset, .unset, .unset, .unset, .unset, .unset, .unset, .unset]) rfl q)
  obtain ⟨m2, h_m2⟩ : ∃ z, z = (if (p4 &&& (2 : Int32)) = (0 : Int32) then (((q2.toUInt64 >>> ((18 : Int32) &&& 0x3f).toInt64.toUInt64).toInt64) &&& (262143 : Int64)) else m1) := ⟨_, rfl⟩
  replace k : own_To p.tables e below A0 s₁ (mkF m 68 #[.val (.long q1), .second, .val (.long q2), .second, ow_i p3, ow_i p4, .val (.long n1), .second, .val (.long m1), .second, .val (.long r1), .second, .val (.long n2), .second, .val (.long m2), .second, .unset, .unset, .unset, .unset, .unset, .unset, .unset, .unset, .unset, .unset, .unset, .unset, .unset, .unset, .unset, .unset, .unset, .unset, .unset] []) := by rw [h_m2]; exact k
  replace k : ow s₁ (mkF m 71 #[.val (.long q1), .second, .val (.long q2), .second, ow_i p3, ow_i p4, .val (.long n1), .second, .val (.long m1), .second, .val (.long r1), .second, .val (.long n2), .second, .val (.long m2), .second, .unset, .unset, .unset, .unset, .unset, .unset, .unset, .unset, .unset, .unset, .unset, .unset, .unset, .unset, .unset, .unset, .unset, .unset, .unset] [(.int 4), (.int p4)]) := fun t q => k t (XS.iload X0.here hx rfl (hb hby at_68) rfl (XS.iconst X0.here hx rfl (hb hby at_70) q))
  replace k : ow s₁ (mkF m 72 #[.val (.long q1), .second, .val (.long q2), .second, ow_i p3, ow_i p4, .val (.long n1), .second, .val (.long m1), .second, .val (.long r1), .second, .val (.long n2), .second, .val (.long m2), .second, .unset, .unset, .unset, .unset, .unset, .unset, .unset, .unset, .unset, .unset, .unset, .unset, .unset, .unset, .unset, .unset, .unset, .unset, .unset] [(.int (p4 &&& (4 : Int32)))]) := fun t q => k t (XS.iand X0.here hx rfl (hb hby at_71) rfl q)
  replace k : own_To p.tables e below A0 s₁ (mkF m 88 #[.val (.long q1), .second, .val (.long q2), .second, ow_i p3, ow_i p4, .val (.long n1), .second, .val (.long m1), .second, .val (.long r1), .second, .val (.long n2), .second, .val (.long m2), .second, .unset, .unset, .unset, .unset, .unset, .unset, .unset, .unset, .unset, .unset, .unset, .unset, .unset, .unset, .unset, .unset, .unset, .unset, .unset] [(.long (if (p4 &&& (4 : Int32)) = (0 : Int32) then (((q2.toUInt64 >>> ((36 : Int32) &&& 0x3f).toInt64.toUInt64).toInt64) &&& (262143 : Int64)) else r1))]) := by
    by_cases hj23 : (p4 &&& (4 : Int32)) = (0 : Int32)
    · simp only [if_pos hj23]
      replace k : ow s₁ (mkF m 80 #[.val (.long q1), .second, .val (.long q2), .second, ow_i p3, ow_i p4, .val (.long n1), .second, .val (.long m1), .second, .val (.long r1), .second, .val (.long n2), .second, .val (.long m2), .second, .unset, .unset, .unset, .unset, .unset, .unset, .unset, .unset, .unset, .unset, .unset, .unset, .unset, .unset, .unset, .unset, .unset, .unset, .unset] []) := fun t q => k t (XS.ifYes X0.here hx rfl (pc0 := 72) (pc' := 80) rfl (hb hby at_72) rfl ((if0 _ _).trans (teq (show (p4 &&& (4 : Int32)) = (0 : Int32) from hj23)).1) (by decide) (by decide) q)
      replace k : ow s₁ (mkF m 83 #[.val (.long q1), .second, .val (.long q2), .second, ow_i p3, ow_i p4, .val (.long n1), .second, .val (.long m1), .second, .val (.long r1), .second, .val (.long n2), .second, .val (.long m2), .second, .unset, .unset, .unset, .unset, .unset, .unset, .unset, .unset, .unset, .unset, .unset, .unset, .unset, .unset, .unset, .unset, .unset, .unset, .unset] [(.int 36), (.long q2)]) := fun t q => k t (XS.lloadN X0.here hx rfl (hb hby at_80) rfl (XS.bipush X0.here hx rfl (hb hby at_81) q))
      replace k : ow s₁ (mkF m 84 #[.val (.long q1), .second, .val (.long q2), .second, ow_i p3, ow_i p4, .val (.long n1), .second, .val (.long m1), .second, .val (.long r1), .second, .val (.long n2), .second, .val (.long m2), .second, .unset, .unset, .unset, .unset, .unset, .unset, .unset, .unset, .unset, .unset, .unset, .unset, .unset, .unset, .unset, .unset, .unset, .unset, .unset] [(.long ((q2.toUInt64 >>> ((36 : Int32) &&& 0x3f).toInt64.toUInt64).toInt64))]) := fun t q => k t (XS.lushr X0.here hx rfl (hb hby at_83) rfl q)
      replace k : ow s₁ (mkF m 87 #[.val (.long q1), .second, .val (.long q2), .second, ow_i p3, ow_i p4, .val (.long n1), .second, .val (.long m1), .second, .val (.long r1), .second, .val (.long n2), .second, .val (.long m2), .second, .unset, .unset, .unset, .unset, .unset, .unset, .unset, .unset, .unset, .unset, .unset, .unset, .unset, .unset, .unset, .unset, .unset, .unset, .unset] [(.long (262143 : Int64)), (.long ((q2.toUInt64 >>> ((36 : Int32) &&& 0x3f).toInt64.toUInt64).toInt64))]) := fun t q => k t (X0.ldc2Long hx hown (mvT hZ (own_h hw 0 rfl)) (g := (mkF m 84 #[.val (.long q1), .second, .val (.long q2), .second, ow_i p3, ow_i p4, .val (.long n1), .second, .val (.long m1), .second, .val (.long r1), .second, .val (.long n2), .second, .val (.long m2), .second, .unset, .unset, .unset, .unset, .unset, .unset, .unset, .unset, .unset, .unset, .unset, .unset, .unset, .unset, .unset, .unset, .unset, .unset, .unset] [(.long ((q2.toUInt64 >>> ((36 : Int32) &&& 0x3f).toInt64.toUInt64).toInt64))])) rfl (hb hby at_84) _ q)
      replace k : ow s₁ (mkF m 88 #[.val (.long q1), .second, .val (.long q2), .second, ow_i p3, ow_i p4, .val (.long n1), .second, .val (.long m1), .second, .val (.long r1), .second, .val (.long n2), .second, .val (.long m2), .second, .unset, .unset, .unset, .unset, .unset, .unset, .unset, .unset, .unset, .unset, .unset, .unset, .unset, .unset, .unset, .unset, .unset, .unset, .unset] [(.long (((q2.toUInt64 >>> ((36 : Int32) &&& 0x3f).toInt64.toUInt64).toInt64) &&& (262143 : Int64)))]) := fun t q => k t (XS.land X0.here hx rfl (hb hby at_87) rfl q)
      exact k
    · simp only [if_neg hj23]
      replace k : ow s₁ (mkF m 75 #[.val (.long q1), .second, .val (.long q2), .second, ow_i p3, ow_i p4, .val (.long n1), .second, .val (.long m1), .second, .val (.long r1), .second, .val (.long n2), .second, .val (.long m2), .second, .unset, .unset, .unset, .unset, .unset, .unset, .unset, .unset, .unset, .unset, .unset, .unset, .unset, .unset, .unset, .unset, .unset, .unset, .unset] []) := fun t q => k t (XS.ifNo X0.here hx rfl (hb hby at_72) rfl ((if0 _ _).trans (feq (show ¬ ((p4 &&& (4 : Int32)) = (0 : Int32)) from hj23)).1) q)
      replace k : ow s₁ (mkF m 88 #[.val (.long q1), .second, .val (.long q2), .second, ow_i p3, ow_i p4, .val (.long n1), .second, .val (.long m1), .second, .val (.long r1), .second, .val (.long n2), .second, .val (.long m2), .second, .unset, .unset, .unset, .unset, .unset, .unset, .unset, .unset, .unset, .unset, .unset, .unset, .unset, .unset, .unset, .unset, .unset, .unset, .unset] [(.long r1)]) := fun t q => k t (XS.lload X0.here hx rfl (hb hby at_75) rfl (XS.goto X0.here hx rfl (pc0 := 77) (pc' := 88) rfl (hb hby at_77) (by decide) (by decide) q))
      exact k
  replace k : ow s₁ (mkF m 90 #[.val (.long q1), .second, .val (.long q2), .second, ow_i p3, ow_i p4, .val (.long n1), .second, .val (.long m1), .second, .val (.long r1), .second, .val (.long n2), .second, .val (.long m2), .second, .val (.long (if (p4 &&& (4 : Int32)) = (0 : Int32) then (((q2.toUInt64 >>> ((36 : Int32) &&& 0x3f).toInt64.toUInt64).toInt64) &&& (262143 : Int64)) else r1)), .second, .unset, .unset, .unset, .unset, .unset, .unset, .unset, .unset, .unset, .unset, .unset, .unset, .unset, .unset, .unset, .unset, .unset] []) := fun t q => k t (XS.lstore X0.here hx rfl (hb hby at_88) rfl (l' := #[.val (.long q1), .second, .val (.long q2), .second, ow_i p3, ow_i p4, .val (.long n1), .second, .val (.long m1), .second, .val (.long r1), .second, .val (.long n2), .second, .val (.long m2), .second, .val (.long (if (p4 &&& (4 : Int32)) = (0 : Int32) then (((q2.toUInt64 >>> ((36 : Int32) &&& 0x3f).toInt64.toUInt64).toInt64) &&& (262143 : Int64)) else r1)), .second, .unset, .unset, .unset, .unset, .unset, .unset, .unset, .unset, .unset, .unset, .unset, .unset, .unset, .unset, .unset, .unset, .unset]) rfl q)
  obtain ⟨r2, h_r2⟩ : ∃ z, z = (if (p4 &&& (4 : Int32)) = (0 : Int32) then (((q2.toUInt64 >>> ((36 : Int32) &&& 0x3f).toInt64.toUInt64).toInt64) &&& (262143 : Int64)) else r1) := ⟨_, rfl⟩
  replace k : own_To p.tables e below A0 s₁ (mkF m 90 #[.val (.long q1), .second, .val (.long q2), .second, ow_i p3, ow_i p4, .val (.long n1), .second, .val (.long m1), .second, .val (.long r1), .second, .val (.long n2), .second, .val (.long m2), .second, .val (.long r2), .second, .unset, .unset, .unset, .unset, .unset, .unset, .unset, .unset, .unset, .unset, .unset, .unset, .unset, .unset, .unset, .unset, .unset] []) := by rw [h_r2]; exact k
  replace k : ow s₁ (mkF m 94 #[.val (.long q1), .second, .val (.long q2), .second, ow_i p3, ow_i p4, .val (.long n1), .second, .val (.long m1), .second, .val (.long r1), .second, .val (.long n2), .second, .val (.long m2), .second, .val (.long r2), .second, .unset, .unset, .unset, .unset, .unset, .unset, .unset, .unset, .unset, .unset, .unset, .unset, .unset, .unset, .unset, .unset, .unset] [(.int 7), (.int p3)]) := fun t q => k t (XS.iload X0.here hx rfl (hb hby at_90) rfl (XS.bipush X0.here hx rfl (hb hby at_92) q))
  replace k : ow s₁ (mkF m 95 #[.val (.long q1), .second, .val (.long q2), .second, ow_i p3, ow_i p4, .val (.long n1), .second, .val (.long m1), .second, .val (.long r1), .second, .val (.long n2), .second, .val (.long m2), .second, .val (.long r2), .second, .unset, .unset, .unset, .unset, .unset, .unset, .unset, .unset, .unset, .unset, .unset, .unset, .unset, .unset, .unset, .unset, .unset] [(.int (p3 &&& (7 : Int32)))]) := fun t q => k t (XS.iand X0.here hx rfl (hb hby at_94) rfl q)
  replace k : ow s₁ (mkF m 97 #[.val (.long q1), .second, .val (.long q2), .second, ow_i p3, ow_i p4, .val (.long n1), .second, .val (.long m1), .second, .val (.long r1), .second, .val (.long n2), .second, .val (.long m2), .second, .val (.long r2), .second, .unset, .unset, .unset, .unset, .unset, .unset, .unset, .unset, .unset, .unset, .unset, .unset, .unset, .unset, .unset, .unset, .unset] [(.int ((p3 &&& (7 : Int32)) % (5 : Int32)))]) := fun t q => k t (XS.iconst X0.here hx rfl (hb hby at_95) (iremM (g := (mkF m 96 #[.val (.long q1), .second, .val (.long q2), .second, ow_i p3, ow_i p4, .val (.long n1), .second, .val (.long m1), .second, .val (.long r1), .second, .val (.long n2), .second, .val (.long m2), .second, .val (.long r2), .second, .unset, .unset, .unset, .unset, .unset, .unset, .unset, .unset, .unset, .unset, .unset, .unset, .unset, .unset, .unset, .unset, .unset] [(.int 5), (.int (p3 &&& (7 : Int32)))])) X0 hx rfl (hb hby at_96) rfl (by decide) q))
  replace k : ow s₁ (mkF m 99 #[.val (.long q1), .second, .val (.long q2), .second, ow_i p3, ow_i p4, .val (.long n1), .second, .val (.long m1), .second, .val (.long r1), .second, .val (.long n2), .second, .val (.long m2), .second, .val (.long r2), .second, ow_i ((p3 &&& (7 : Int32)) % (5 : Int32)), .unset, .unset, .unset, .unset, .unset, .unset, .unset, .unset, .unset, .unset, .unset, .unset, .unset, .unset, .unset, .unset] []) := fun t q => k t (XS.istore X0.here hx rfl (hb hby at_97) rfl (l' := #[.val (.long q1), .second, .val (.long q2), .second, ow_i p3, ow_i p4, .val (.long n1), .second, .val (.long m1), .second, .val (.long r1), .second, .val (.long n2), .second, .val (.long m2), .second, .val (.long r2), .second, ow_i ((p3 &&& (7 : Int32)) % (5 : Int32)), .unset, .unset, .unset, .unset, .unset, .unset, .unset, .unset, .unset, .unset, .unset, .unset, .unset, .unset, .unset, .unset]) rfl q)
  obtain ⟨sr1, h_sr1⟩ : ∃ z, z = ((p3 &&& (7 : Int32)) % (5 : Int32)) := ⟨_, rfl⟩
  replace k : own_To p.tables e below A0 s₁ (mkF m 99 #[.val (.long q1), .second, .val (.long q2), .second, ow_i p3, ow_i p4, .val (.long n1), .second, .val (.long m1), .second, .val (.long r1), .second, .val (.long n2), .second, .val (.long m2), .second, .val (.long r2), .second, ow_i sr1, .unset, .unset, .unset, .unset, .unset, .unset, .unset, .unset, .unset, .unset, .unset, .unset, .unset, .unset, .unset, .unset] []) := by rw [h_sr1]; exact k
  have rg_sr1 : 0 ≤ sr1.toInt ∧ sr1.toInt < 5 := by rw [h_sr1]; exact own_r5 _ 5 (5 : Int32) (7 : Int32) 3 (by decide) (by decide) (by decide) (by decide)
  replace k : ow s₁ (mkF m 102 #[.val (.long q1), .second, .val (.long q2), .second, ow_i p3, ow_i p4, .val (.long n1), .second, .val (.long m1), .second, .val (.long r1), .second, .val (.long n2), .second, .val (.long m2), .second, .val (.long r2), .second, ow_i sr1, .unset, .unset, .unset, .unset, .unset, .unset, .unset, .unset, .unset, .unset, .unset, .unset, .unset, .unset, .unset, .unset] [(.int 3), (.int p3)]) := fun t q => k t (XS.iload X0.here hx rfl (hb hby at_99) rfl (XS.iconst X0.here hx rfl (hb hby at_101) q))
  replace k : ow s₁ (mkF m 103 #[.val (.long q1), .second, .val (.long q2), .second, ow_i p3, ow_i p4, .val (.long n1), .second, .val (.long m1), .second, .val (.long r1), .second, .val (.long n2), .second, .val (.long m2), .second, .val (.long r2), .second, ow_i sr1, .unset, .unset, .unset, .unset, .unset, .unset, .unset, .unset, .unset, .unset, .unset, .unset, .unset, .unset, .unset, .unset] [(.int ((p3.toUInt32 >>> ((3 : Int32) &&& 31).toUInt32).toInt32))]) := fun t q => k t (XS.iushr X0.here hx rfl (hb hby at_102) rfl q)
  replace k : ow s₁ (mkF m 105 #[.val (.long q1), .second, .val (.long q2), .second, ow_i p3, ow_i p4, .val (.long n1), .second, .val (.long m1), .second, .val (.long r1), .second, .val (.long n2), .second, .val (.long m2), .second, .val (.long r2), .second, ow_i sr1, .unset, .unset, .unset, .unset, .unset, .unset, .unset, .unset, .unset, .unset, .unset, .unset, .unset, .unset, .unset, .unset] [(.int 15), (.int ((p3.toUInt32 >>> ((3 : Int32) &&& 31).toUInt32).toInt32))]) := fun t q => k t (XS.bipush X0.here hx rfl (hb hby at_103) q)
  replace k : ow s₁ (mkF m 106 #[.val (.long q1), .second, .val (.long q2), .second, ow_i p3, ow_i p4, .val (.long n1), .second, .val (.long m1), .second, .val (.long r1), .second, .val (.long n2), .second, .val (.long m2), .second, .val (.long r2), .second, ow_i sr1, .unset, .unset, .unset, .unset, .unset, .unset, .unset, .unset, .unset, .unset, .unset, .unset, .unset, .unset, .unset, .unset] [(.int (((p3.toUInt32 >>> ((3 : Int32) &&& 31).toUInt32).toInt32) &&& (15 : Int32)))]) := fun t q => k t (XS.iand X0.here hx rfl (hb hby at_105) rfl q)
  replace k : ow s₁ (mkF m 109 #[.val (.long q1), .second, .val (.long q2), .second, ow_i p3, ow_i p4, .val (.long n1), .second, .val (.long m1), .second, .val (.long r1), .second, .val (.long n2), .second, .val (.long m2), .second, .val (.long r2), .second, ow_i sr1, .unset, .unset, .unset, .unset, .unset, .unset, .unset, .unset, .unset, .unset, .unset, .unset, .unset, .unset, .unset, .unset] [(.int ((((p3.toUInt32 >>> ((3 : Int32) &&& 31).toUInt32).toInt32) &&& (15 : Int32)) % (12 : Int32)))]) := fun t q => k t (XS.bipush X0.here hx rfl (hb hby at_106) (iremM (g := (mkF m 108 #[.val (.long q1), .second, .val (.long q2), .second, ow_i p3, ow_i p4, .val (.long n1), .second, .val (.long m1), .second, .val (.long r1), .second, .val (.long n2), .second, .val (.long m2), .second, .val (.long r2), .second, ow_i sr1, .unset, .unset, .unset, .unset, .unset, .unset, .unset, .unset, .unset, .unset, .unset, .unset, .unset, .unset, .unset, .unset] [(.int 12), (.int (((p3.toUInt32 >>> ((3 : Int32) &&& 31).toUInt32).toInt32) &&& (15 : Int32)))])) X0 hx rfl (hb hby at_108) rfl (by decide) q))
  replace k : ow s₁ (mkF m 111 #[.val (.long q1), .second, .val (.long q2), .second, ow_i p3, ow_i p4, .val (.long n1), .second, .val (.long m1), .second, .val (.long r1), .second, .val (.long n2), .second, .val (.long m2), .second, .val (.long r2), .second, ow_i sr1, ow_i ((((p3.toUInt32 >>> ((3 : Int32) &&& 31).toUInt32).toInt32) &&& (15 : Int32)) % (12 : Int32)), .unset, .unset, .unset, .unset, .unset, .unset, .unset, .unset, .unset, .unset, .unset, .unset, .unset, .unset, .unset] []) := fun t q => k t (XS.istore X0.here hx rfl (hb hby at_109) rfl (l' := #[.val (.long q1), .second, .val (.long q2), .second, ow_i p3, ow_i p4, .val (.long n1), .second, .val (.long m1), .second, .val (.long r1), .second, .val (.long n2), .second, .val (.long m2), .second, .val (.long r2), .second, ow_i sr1, ow_i ((((p3.toUInt32 >>> ((3 : Int32) &&& 31).toUInt32).toInt32) &&& (15 : Int32)) % (12 : Int32)), .unset, .unset, .unset, .unset, .unset, .unset, .unset, .unset, .unset, .unset, .unset, .unset, .unset, .unset, .unset]) rfl q)
  obtain ⟨as1, h_as1⟩ : ∃ z, z = ((((p3.toUInt32 >>> ((3 : Int32) &&& 31).toUInt32).toInt32) &&& (15 : Int32)) % (12 : Int32)) := ⟨_, rfl⟩
  replace k : own_To p.tables e below A0 s₁ (mkF m 111 #[.val (.long q1), .second, .val (.long q2), .second, ow_i p3, ow_i p4, .val (.long n1), .second, .val (.long m1), .second, .val (.long r1), .second, .val (.long n2), .second, .val (.long m2), .second, .val (.long r2), .second, ow_i sr1, ow_i as1, .unset, .unset, .unset, .unset, .unset, .unset, .unset, .unset, .unset, .unset, .unset, .unset, .unset, .unset, .unset] []) := by rw [h_as1]; exact k
  have rg_as1 : 0 ≤ as1.toInt ∧ as1.toInt < 12 := by rw [h_as1]; exact own_r5 _ 12 (12 : Int32) (15 : Int32) 4 (by decide) (by decide) (by decide) (by decide)
  replace k : ow s₁ (mkF m 115 #[.val (.long q1), .second, .val (.long q2), .second, ow_i p3, ow_i p4, .val (.long n1), .second, .val (.long m1), .second, .val (.long r1), .second, .val (.long n2), .second, .val (.long m2), .second, .val (.long r2), .second, ow_i sr1, ow_i as1, .unset, .unset, .unset, .unset, .unset, .unset, .unset, .unset, .unset, .unset, .unset, .unset, .unset, .unset, .unset] [(.int 8), (.int p4)]) := fun t q => k t (XS.iload X0.here hx rfl (hb hby at_111) rfl (XS.bipush X0.here hx rfl (hb hby at_113) q))
  replace k : ow s₁ (mkF m 116 #[.val (.long q1), .second, .val (.long q2), .second, ow_i p3, ow_i p4, .val (.long n1), .second, .val (.long m1), .second, .val (.long r1), .second, .val (.long n2), .second, .val (.long m2), .second, .val (.long r2), .second, ow_i sr1, ow_i as1, .unset, .unset, .unset, .unset, .unset, .unset, .unset, .unset, .unset, .unset, .unset, .unset, .unset, .unset, .unset] [(.int (p4 &&& (8 : Int32)))]) := fun t q => k t (XS.iand X0.here hx rfl (hb hby at_115) rfl q)
  replace k : own_To p.tables e below A0 s₁ (mkF m 134 #[.val (.long q1), .second, .val (.long q2), .second, ow_i p3, ow_i p4, .val (.long n1), .second, .val (.long m1), .second, .val (.long r1), .second, .val (.long n2), .second, .val (.long m2), .second, .val (.long r2), .second, ow_i sr1, ow_i as1, .unset, .unset, .unset, .unset, .unset, .unset, .unset, .unset, .unset, .unset, .unset, .unset, .unset, .unset, .unset] [(.int (if (p4 &&& (8 : Int32)) = (0 : Int32) then ((((p3.toUInt32 >>> ((7 : Int32) &&& 31).toUInt32).toInt32) &&& (7 : Int32)) % (5 : Int32)) else sr1))]) := by
    by_cases hj24 : (p4 &&& (8 : Int32)) = (0 : Int32)
    · simp only [if_pos hj24]
      replace k : ow s₁ (mkF m 124 #[.val (.long q1), .second, .val (.long q2), .second, ow_i p3, ow_i p4, .val (.long n1), .second, .val (.long m1), .second, .val (.long r1), .second, .val (.long n2), .second, .val (.long m2), .second, .val (.long r2), .second, ow_i sr1, ow_i as1, .unset, .unset, .unset, .unset, .unset, .unset, .unset, .unset, .unset, .unset, .unset, .unset, .unset, .unset, .unset] []) := fun t q => k t (XS.ifYes X0.here hx rfl (pc0 := 116) (pc' := 124) rfl (hb hby at_116) rfl ((if0 _ _).trans (teq (show (p4 &&& (8 : Int32)) = (0 : Int32) from hj24)).1) (by decide) (by decide) q)
      replace k : ow s₁ (mkF m 128 #[.val (.long q1), .second, .val (.long q2), .second, ow_i p3, ow_i p4, .val (.long n1), .second, .val (.long m1), .second, .val (.long r1), .second, .val (.long n2), .second, .val (.long m2), .second, .val (.long r2), .second, ow_i sr1, ow_i as1, .unset, .unset, .unset, .unset, .unset, .unset, .unset, .unset, .unset, .unset, .unset, .unset, .unset, .unset, .unset] [(.int 7), (.int p3)]) := fun t q => k t (XS.iload X0.here hx rfl (hb hby at_124) rfl (XS.bipush X0.here hx rfl (hb hby at_126) q))
      replace k : ow s₁ (mkF m 129 #[.val (.long q1), .second, .val (.long q2), .second, ow_i p3, ow_i p4, .val (.long n1), .second, .val (.long m1), .second, .val (.long r1), .second, .val (.long n2), .second, .val (.long m2), .second, .val (.long r2), .second, ow_i sr1, ow_i as1, .unset, .unset, .unset, .unset, .unset, .unset, .unset, .unset, .unset, .unset, .unset, .unset, .unset, .unset, .unset] [(.int ((p3.toUInt32 >>> ((7 : Int32) &&& 31).toUInt32).toInt32))]) := fun t q => k t (XS.iushr X0.here hx rfl (hb hby at_128) rfl q)
      replace k : ow s₁ (mkF m 131 #[.val (.long q1), .second, .val (.long q2), .second, ow_i p3, ow_i p4, .val (.long n1), .second, .val (.long m1), .second, .val (.long r1), .second, .val (.long n2), .second, .val (.long m2), .second, .val (.long r2), .second, ow_i sr1, ow_i as1, .unset, .unset, .unset, .unset, .unset, .unset, .unset, .unset, .unset, .unset, .unset, .unset, .unset, .unset, .unset] [(.int 7), (.int ((p3.toUInt32 >>> ((7 : Int32) &&& 31).toUInt32).toInt32))]) := fun t q => k t (XS.bipush X0.here hx rfl (hb hby at_129) q)
      replace k : ow s₁ (mkF m 132 #[.val (.long q1), .second, .val (.long q2), .second, ow_i p3, ow_i p4, .val (.long n1), .second, .val (.long m1), .second, .val (.long r1), .second, .val (.long n2), .second, .val (.long m2), .second, .val (.long r2), .second, ow_i sr1, ow_i as1, .unset, .unset, .unset, .unset, .unset, .unset, .unset, .unset, .unset, .unset, .unset, .unset, .unset, .unset, .unset] [(.int (((p3.toUInt32 >>> ((7 : Int32) &&& 31).toUInt32).toInt32) &&& (7 : Int32)))]) := fun t q => k t (XS.iand X0.here hx rfl (hb hby at_131) rfl q)
      replace k : ow s₁ (mkF m 134 #[.val (.long q1), .second, .val (.long q2), .second, ow_i p3, ow_i p4, .val (.long n1), .second, .val (.long m1), .second, .val (.long r1), .second, .val (.long n2), .second, .val (.long m2), .second, .val (.long r2), .second, ow_i sr1, ow_i as1, .unset, .unset, .unset, .unset, .unset, .unset, .unset, .unset, .unset, .unset, .unset, .unset, .unset, .unset, .unset] [(.int ((((p3.toUInt32 >>> ((7 : Int32) &&& 31).toUInt32).toInt32) &&& (7 : Int32)) % (5 : Int32)))]) := fun t q => k t (XS.iconst X0.here hx rfl (hb hby at_132) (iremM (g := (mkF m 133 #[.val (.long q1), .second, .val (.long q2), .second, ow_i p3, ow_i p4, .val (.long n1), .second, .val (.long m1), .second, .val (.long r1), .second, .val (.long n2), .second, .val (.long m2), .second, .val (.long r2), .second, ow_i sr1, ow_i as1, .unset, .unset, .unset, .unset, .unset, .unset, .unset, .unset, .unset, .unset, .unset, .unset, .unset, .unset, .unset] [(.int 5), (.int (((p3.toUInt32 >>> ((7 : Int32) &&& 31).toUInt32).toInt32) &&& (7 : Int32)))])) X0 hx rfl (hb hby at_133) rfl (by decide) q))
      exact k
    · simp only [if_neg hj24]
      replace k : ow s₁ (mkF m 119 #[.val (.long q1), .second, .val (.long q2), .second, ow_i p3, ow_i p4, .val (.long n1), .second, .val (.long m1), .second, .val (.long r1), .second, .val (.long n2), .second, .val (.long m2), .second, .val (.long r2), .second, ow_i sr1, ow_i as1, .unset, .unset, .unset, .unset, .unset, .unset, .unset, .unset, .unset, .unset, .unset, .unset, .unset, .unset, .unset] []) := fun t q => k t (XS.ifNo X0.here hx rfl (hb hby at_116) rfl ((if0 _ _).trans (feq (show ¬ ((p4 &&& (8 : Int32)) = (0 : Int32)) from hj24)).1) q)
      replace k : ow s₁ (mkF m 134 #[.val (.long q1), .second, .val (.long q2), .second, ow_i p3, ow_i p4, .val (.long n1), .second, .val (.long m1), .second, .val (.long r1), .second, .val (.long n2), .second, .val (.long m2), .second, .val (.long r2), .second, ow_i sr1, ow_i as1, .unset, .unset, .unset, .unset, .unset, .unset, .unset, .unset, .unset, .unset, .unset, .unset, .unset, .unset, .unset] [(.int sr1)]) := fun t q => k t (XS.iload X0.here hx rfl (hb hby at_119) rfl (XS.goto X0.here hx rfl (pc0 := 121) (pc' := 134) rfl (hb hby at_121) (by decide) (by decide) q))
      exact k
  replace k : ow s₁ (mkF m 136 #[.val (.long q1), .second, .val (.long q2), .second, ow_i p3, ow_i p4, .val (.long n1), .second, .val (.long m1), .second, .val (.long r1), .second, .val (.long n2), .second, .val (.long m2), .second, .val (.long r2), .second, ow_i sr1, ow_i as1, ow_i (if (p4 &&& (8 : Int32)) = (0 : Int32) then ((((p3.toUInt32 >>> ((7 : Int32) &&& 31).toUInt32).toInt32) &&& (7 : Int32)) % (5 : Int32)) else sr1), .unset, .unset, .unset, .unset, .unset, .unset, .unset, .unset, .unset, .unset, .unset, .unset, .unset, .unset] []) := fun t q => k t (XS.istore X0.here hx rfl (hb hby at_134) rfl (l' := #[.val (.long q1), .second, .val (.long q2), .second, ow_i p3, ow_i p4, .val (.long n1), .second, .val (.long m1), .second, .val (.long r1), .second, .val (.long n2), .second, .val (.long m2), .second, .val (.long r2), .second, ow_i sr1, ow_i as1, ow_i (if (p4 &&& (8 : Int32)) = (0 : Int32) then ((((p3.toUInt32 >>> ((7 : Int32) &&& 31).toUInt32).toInt32) &&& (7 : Int32)) % (5 : Int32)) else sr1), .unset, .unset, .unset, .unset, .unset, .unset, .unset, .unset, .unset, .unset, .unset, .unset, .unset, .unset]) rfl q)
  obtain ⟨sr2, h_sr2⟩ : ∃ z, z = (if (p4 &&& (8 : Int32)) = (0 : Int32) then ((((p3.toUInt32 >>> ((7 : Int32) &&& 31).toUInt32).toInt32) &&& (7 : Int32)) % (5 : Int32)) else sr1) := ⟨_, rfl⟩
  replace k : own_To p.tables e below A0 s₁ (mkF m 136 #[.val (.long q1), .second, .val (.long q2), .second, ow_i p3, ow_i p4, .val (.long n1), .second, .val (.long m1), .second, .val (.long r1), .second, .val (.long n2), .second, .val (.long m2), .second, .val (.long r2), .second, ow_i sr1, ow_i as1, ow_i sr2, .unset, .unset, .unset, .unset, .unset, .unset, .unset, .unset, .unset, .unset, .unset, .unset, .unset, .unset] []) := by rw [h_sr2]; exact k
  have rg_sr2 : 0 ≤ sr2.toInt ∧ sr2.toInt < 5 := by rw [h_sr2]; split; exact own_r5 _ 5 (5 : Int32) (7 : Int32) 3 (by decide) (by decide) (by decide) (by decide); exact rg_sr1
  replace k : ow s₁ (mkF m 140 #[.val (.long q1), .second, .val (.long q2), .second, ow_i p3, ow_i p4, .val (.long n1), .second, .val (.long m1), .second, .val (.long r1), .second, .val (.long n2), .second, .val (.long m2), .second, .val (.long r2), .second, ow_i sr1, ow_i as1, ow_i sr2, .unset, .unset, .unset, .unset, .unset, .unset, .unset, .unset, .unset, .unset, .unset, .unset, .unset, .unset] [(.int 16), (.int p4)]) := fun t q => k t (XS.iload X0.here hx rfl (hb hby at_136) rfl (XS.bipush X0.here hx rfl (hb hby at_138) q))
  replace k : ow s₁ (mkF m 141 #[.val (.long q1), .second, .val (.long q2), .second, ow_i p3, ow_i p4, .val (.long n1), .second, .val (.long m1), .second, .val (.long r1), .second, .val (.long n2), .second, .val (.long m2), .second, .val (.long r2), .second, ow_i sr1, ow_i as1, ow_i sr2, .unset, .unset, .unset, .unset, .unset, .unset, .unset, .unset, .unset, .unset, .unset, .unset, .unset, .unset] [(.int (p4 &&& (16 : Int32)))]) := fun t q => k t (XS.iand X0.here hx rfl (hb hby at_140) rfl q)
  replace k : own_To p.tables e below A0 s₁ (mkF m 160 #[.val (.long q1), .second, .val (.long q2), .second, ow_i p3, ow_i p4, .val (.long n1), .second, .val (.long m1), .second, .val (.long r1), .second, .val (.long n2), .second, .val (.long m2), .second, .val (.long r2), .second, ow_i sr1, ow_i as1, ow_i sr2, .unset, .unset, .unset, .unset, .unset, .unset, .unset, .unset, .unset, .unset, .unset, .unset, .unset, .unset] [(.int (if (p4 &&& (16 : Int32)) = (0 : Int32) then ((((p3.toUInt32 >>> ((10 : Int32) &&& 31).toUInt32).toInt32) &&& (15 : Int32)) % (12 : Int32)) else as1))]) := by
    by_cases hj25 : (p4 &&& (16 : Int32)) = (0 : Int32)
    · simp only [if_pos hj25]
      replace k : ow s₁ (mkF m 149 #[.val (.long q1), .second, .val (.long q2), .second, ow_i p3, ow_i p4, .val (.long n1), .second, .val (.long m1), .second, .val (.long r1), .second, .val (.long n2), .second, .val (.long m2), .second, .val (.long r2), .second, ow_i sr1, ow_i as1, ow_i sr2, .unset, .unset, .unset, .unset, .unset, .unset, .unset, .unset, .unset, .unset, .unset, .unset, .unset, .unset] []) := fun t q => k t (XS.ifYes X0.here hx rfl (pc0 := 141) (pc' := 149) rfl (hb hby at_141) rfl ((if0 _ _).trans (teq (show (p4 &&& (16 : Int32)) = (0 : Int32) from hj25)).1) (by decide) (by decide) q)
      replace k : ow s₁ (mkF m 153 #[.val (.long q1), .second, .val (.long q2), .second, ow_i p3, ow_i p4, .val (.long n1), .second, .val (.long m1), .second, .val (.long r1), .second, .val (.long n2), .second, .val (.long m2), .second, .val (.long r2), .second, ow_i sr1, ow_i as1, ow_i sr2, .unset, .unset, .unset, .unset, .unset, .unset, .unset, .unset, .unset, .unset, .unset, .unset, .unset, .unset] [(.int 10), (.int p3)]) := fun t q => k t (XS.iload X0.here hx rfl (hb hby at_149) rfl (XS.bipush X0.here hx rfl (hb hby at_151) q))
      replace k : ow s₁ (mkF m 154 #[.val (.long q1), .second, .val (.long q2), .second, ow_i p3, ow_i p4, .val (.long n1), .second, .val (.long m1), .second, .val (.long r1), .second, .val (.long n2), .second, .val (.long m2), .second, .val (.long r2), .second, ow_i sr1, ow_i as1, ow_i sr2, .unset, .unset, .unset, .unset, .unset, .unset, .unset, .unset, .unset, .unset, .unset, .unset, .unset, .unset] [(.int ((p3.toUInt32 >>> ((10 : Int32) &&& 31).toUInt32).toInt32))]) := fun t q => k t (XS.iushr X0.here hx rfl (hb hby at_153) rfl q)
      replace k : ow s₁ (mkF m 156 #[.val (.long q1), .second, .val (.long q2), .second, ow_i p3, ow_i p4, .val (.long n1), .second, .val (.long m1), .second, .val (.long r1), .second, .val (.long n2), .second, .val (.long m2), .second, .val (.long r2), .second, ow_i sr1, ow_i as1, ow_i sr2, .unset, .unset, .unset, .unset, .unset, .unset, .unset, .unset, .unset, .unset, .unset, .unset, .unset, .unset] [(.int 15), (.int ((p3.toUInt32 >>> ((10 : Int32) &&& 31).toUInt32).toInt32))]) := fun t q => k t (XS.bipush X0.here hx rfl (hb hby at_154) q)
      replace k : ow s₁ (mkF m 157 #[.val (.long q1), .second, .val (.long q2), .second, ow_i p3, ow_i p4, .val (.long n1), .second, .val (.long m1), .second, .val (.long r1), .second, .val (.long n2), .second, .val (.long m2), .second, .val (.long r2), .second, ow_i sr1, ow_i as1, ow_i sr2, .unset, .unset, .unset, .unset, .unset, .unset, .unset, .unset, .unset, .unset, .unset, .unset, .unset, .unset] [(.int (((p3.toUInt32 >>> ((10 : Int32) &&& 31).toUInt32).toInt32) &&& (15 : Int32)))]) := fun t q => k t (XS.iand X0.here hx rfl (hb hby at_156) rfl q)
      replace k : ow s₁ (mkF m 160 #[.val (.long q1), .second, .val (.long q2), .second, ow_i p3, ow_i p4, .val (.long n1), .second, .val (.long m1), .second, .val (.long r1), .second, .val (.long n2), .second, .val (.long m2), .second, .val (.long r2), .second, ow_i sr1, ow_i as1, ow_i sr2, .unset, .unset, .unset, .unset, .unset, .unset, .unset, .unset, .unset, .unset, .unset, .unset, .unset, .unset] [(.int ((((p3.toUInt32 >>> ((10 : Int32) &&& 31).toUInt32).toInt32) &&& (15 : Int32)) % (12 : Int32)))]) := fun t q => k t (XS.bipush X0.here hx rfl (hb hby at_157) (iremM (g := (mkF m 159 #[.val (.long q1), .second, .val (.long q2), .second, ow_i p3, ow_i p4, .val (.long n1), .second, .val (.long m1), .second, .val (.long r1), .second, .val (.long n2), .second, .val (.long m2), .second, .val (.long r2), .second, ow_i sr1, ow_i as1, ow_i sr2, .unset, .unset, .unset, .unset, .unset, .unset, .unset, .unset, .unset, .unset, .unset, .unset, .unset, .unset] [(.int 12), (.int (((p3.toUInt32 >>> ((10 : Int32) &&& 31).toUInt32).toInt32) &&& (15 : Int32)))])) X0 hx rfl (hb hby at_159) rfl (by decide) q))
      exact k
    · simp only [if_neg hj25]
      replace k : ow s₁ (mkF m 144 #[.val (.long q1), .second, .val (.long q2), .second, ow_i p3, ow_i p4, .val (.long n1), .second, .val (.long m1), .second, .val (.long r1), .second, .val (.long n2), .second, .val (.long m2), .second, .val (.long r2), .second, ow_i sr1, ow_i as1, ow_i sr2, .unset, .unset, .unset, .unset, .unset, .unset, .unset, .unset, .unset, .unset, .unset, .unset, .unset, .unset] []) := fun t q => k t (XS.ifNo X0.here hx rfl (hb hby at_141) rfl ((if0 _ _).trans (feq (show ¬ ((p4 &&& (16 : Int32)) = (0 : Int32)) from hj25)).1) q)
      replace k : ow s₁ (mkF m 160 #[.val (.long q1), .second, .val (.long q2), .second, ow_i p3, ow_i p4, .val (.long n1), .second, .val (.long m1), .second, .val (.long r1), .second, .val (.long n2), .second, .val (.long m2), .second, .val (.long r2), .second, ow_i sr1, ow_i as1, ow_i sr2, .unset, .unset, .unset, .unset, .unset, .unset, .unset, .unset, .unset, .unset, .unset, .unset, .unset, .unset] [(.int as1)]) := fun t q => k t (XS.iload X0.here hx rfl (hb hby at_144) rfl (XS.goto X0.here hx rfl (pc0 := 146) (pc' := 160) rfl (hb hby at_146) (by decide) (by decide) q))
      exact k
  replace k : ow s₁ (mkF m 162 #[.val (.long q1), .second, .val (.long q2), .second, ow_i p3, ow_i p4, .val (.long n1), .second, .val (.long m1), .second, .val (.long r1), .second, .val (.long n2), .second, .val (.long m2), .second, .val (.long r2), .second, ow_i sr1, ow_i as1, ow_i sr2, ow_i (if (p4 &&& (16 : Int32)) = (0 : Int32) then ((((p3.toUInt32 >>> ((10 : Int32) &&& 31).toUInt32).toInt32) &&& (15 : Int32)) % (12 : Int32)) else as1), .unset, .unset, .unset, .unset, .unset, .unset, .unset, .unset, .unset, .unset, .unset, .unset, .unset] []) := fun t q => k t (XS.istore X0.here hx rfl (hb hby at_160) rfl (l' := #[.val (.long q1), .second, .val (.long q2), .second, ow_i p3, ow_i p4, .val (.long n1), .second, .val (.long m1), .second, .val (.long r1), .second, .val (.long n2), .second, .val (.long m2), .second, .val (.long r2), .second, ow_i sr1, ow_i as1, ow_i sr2, ow_i (if (p4 &&& (16 : Int32)) = (0 : Int32) then ((((p3.toUInt32 >>> ((10 : Int32) &&& 31).toUInt32).toInt32) &&& (15 : Int32)) % (12 : Int32)) else as1), .unset, .unset, .unset, .unset, .unset, .unset, .unset, .unset, .unset, .unset, .unset, .unset, .unset]) rfl q)
  obtain ⟨as2, h_as2⟩ : ∃ z, z = (if (p4 &&& (16 : Int32)) = (0 : Int32) then ((((p3.toUInt32 >>> ((10 : Int32) &&& 31).toUInt32).toInt32) &&& (15 : Int32)) % (12 : Int32)) else as1) := ⟨_, rfl⟩
  replace k : own_To p.tables e below A0 s₁ (mkF m 162 #[.val (.long q1), .second, .val (.long q2), .second, ow_i p3, ow_i p4, .val (.long n1), .second, .val (.long m1), .second, .val (.long r1), .second, .val (.long n2), .second, .val (.long m2), .second, .val (.long r2), .second, ow_i sr1, ow_i as1, ow_i sr2, ow_i as2, .unset, .unset, .unset, .unset, .unset, .unset, .unset, .unset, .unset, .unset, .unset, .unset, .unset] []) := by rw [h_as2]; exact k
  have rg_as2 : 0 ≤ as2.toInt ∧ as2.toInt < 12 := by rw [h_as2]; split; exact own_r5 _ 12 (12 : Int32) (15 : Int32) 4 (by decide) (by decide) (by decide) (by decide); exact rg_as1
  replace k : ow s₁ (mkF m 165 #[.val (.long q1), .second, .val (.long q2), .second, ow_i p3, ow_i p4, .val (.long n1), .second, .val (.long m1), .second, .val (.long r1), .second, .val (.long n2), .second, .val (.long m2), .second, .val (.long r2), .second, ow_i sr1, ow_i as1, ow_i sr2, ow_i as2, .unset, .unset, .unset, .unset, .unset, .unset, .unset, .unset, .unset, .unset, .unset, .unset, .unset] [(.int 5), (.int p4)]) := fun t q => k t (XS.iload X0.here hx rfl (hb hby at_162) rfl (XS.iconst X0.here hx rfl (hb hby at_164) q))
  replace k : ow s₁ (mkF m 166 #[.val (.long q1), .second, .val (.long q2), .second, ow_i p3, ow_i p4, .val (.long n1), .second, .val (.long m1), .second, .val (.long r1), .second, .val (.long n2), .second, .val (.long m2), .second, .val (.long r2), .second, ow_i sr1, ow_i as1, ow_i sr2, ow_i as2, .unset, .unset, .unset, .unset, .unset, .unset, .unset, .unset, .unset, .unset, .unset, .unset, .unset] [(.int ((p4.toUInt32 >>> ((5 : Int32) &&& 31).toUInt32).toInt32))]) := fun t q => k t (XS.iushr X0.here hx rfl (hb hby at_165) rfl q)
  replace k : ow s₁ (mkF m 167 #[.val (.long q1), .second, .val (.long q2), .second, ow_i p3, ow_i p4, .val (.long n1), .second, .val (.long m1), .second, .val (.long r1), .second, .val (.long n2), .second, .val (.long m2), .second, .val (.long r2), .second, ow_i sr1, ow_i as1, ow_i sr2, ow_i as2, .unset, .unset, .unset, .unset, .unset, .unset, .unset, .unset, .unset, .unset, .unset, .unset, .unset] [(.int 3), (.int ((p4.toUInt32 >>> ((5 : Int32) &&& 31).toUInt32).toInt32))]) := fun t q => k t (XS.iconst X0.here hx rfl (hb hby at_166) q)
  replace k : ow s₁ (mkF m 168 #[.val (.long q1), .second, .val (.long q2), .second, ow_i p3, ow_i p4, .val (.long n1), .second, .val (.long m1), .second, .val (.long r1), .second, .val (.long n2), .second, .val (.long m2), .second, .val (.long r2), .second, ow_i sr1, ow_i as1, ow_i sr2, ow_i as2, .unset, .unset, .unset, .unset, .unset, .unset, .unset, .unset, .unset, .unset, .unset, .unset, .unset] [(.int (((p4.toUInt32 >>> ((5 : Int32) &&& 31).toUInt32).toInt32) &&& (3 : Int32)))]) := fun t q => k t (XS.iand X0.here hx rfl (hb hby at_167) rfl q)
  replace k : ow s₁ (mkF m 170 #[.val (.long q1), .second, .val (.long q2), .second, ow_i p3, ow_i p4, .val (.long n1), .second, .val (.long m1), .second, .val (.long r1), .second, .val (.long n2), .second, .val (.long m2), .second, .val (.long r2), .second, ow_i sr1, ow_i as1, ow_i sr2, ow_i as2, ow_i (((p4.toUInt32 >>> ((5 : Int32) &&& 31).toUInt32).toInt32) &&& (3 : Int32)), .unset, .unset, .unset, .unset, .unset, .unset, .unset, .unset, .unset, .unset, .unset, .unset] []) := fun t q => k t (XS.istore X0.here hx rfl (hb hby at_168) rfl (l' := #[.val (.long q1), .second, .val (.long q2), .second, ow_i p3, ow_i p4, .val (.long n1), .second, .val (.long m1), .second, .val (.long r1), .second, .val (.long n2), .second, .val (.long m2), .second, .val (.long r2), .second, ow_i sr1, ow_i as1, ow_i sr2, ow_i as2, ow_i (((p4.toUInt32 >>> ((5 : Int32) &&& 31).toUInt32).toInt32) &&& (3 : Int32)), .unset, .unset, .unset, .unset, .unset, .unset, .unset, .unset, .unset, .unset, .unset, .unset]) rfl q)
  obtain ⟨kd, h_kd⟩ : ∃ z, z = (((p4.toUInt32 >>> ((5 : Int32) &&& 31).toUInt32).toInt32) &&& (3 : Int32)) := ⟨_, rfl⟩
  replace k : own_To p.tables e below A0 s₁ (mkF m 170 #[.val (.long q1), .second, .val (.long q2), .second, ow_i p3, ow_i p4, .val (.long n1), .second, .val (.long m1), .second, .val (.long r1), .second, .val (.long n2), .second, .val (.long m2), .second, .val (.long r2), .second, ow_i sr1, ow_i as1, ow_i sr2, ow_i as2, ow_i kd, .unset, .unset, .unset, .unset, .unset, .unset, .unset, .unset, .unset, .unset, .unset, .unset] []) := by rw [h_kd]; exact k
  replace k : ow s₁ (mkF m 172 #[.val (.long q1), .second, .val (.long q2), .second, ow_i p3, ow_i p4, .val (.long n1), .second, .val (.long m1), .second, .val (.long r1), .second, .val (.long n2), .second, .val (.long m2), .second, .val (.long r2), .second, ow_i sr1, ow_i as1, ow_i sr2, ow_i as2, ow_i kd, .unset, .unset, .unset, .unset, .unset, .unset, .unset, .unset, .unset, .unset, .unset, .unset] [(.long n1)]) := fun t q => k t (XS.lload X0.here hx rfl (hb hby at_170) rfl q)
  obtain ⟨_, T26, L26, h26, X26, hS26, hZ, hown, e26, hQ26, CU26, k⟩ := own_cSS X0 hx hw hZ hown e0 hS0 hk0 k (backOfSH (W := 0) (own_m1 l Z a0 hw [] n1 w_COMPACT_STRINGS h0 n0 Z0 S_COMPACT_STRINGS hz) hZ (own_h hw 4 rfl) (own_h hw 3 rfl) (by decide) (by decide) (own_EW hw) CH0) 1 2 3 4 rfl rfl rfl rfl (by decide) rfl (by rw [hml]; rfl) [(.long n1)] [] (lenOf own_pd6 rfl) rfl rfl own_le (hb hby at_172) (by decide) (by decide)
  have hk26 := Nat.le_refl h26.size
  have CR26 := CR0.trans CU26
  have CH26 := CU26.1
  obtain ⟨a26, rfl, N26q, KC26, TX26⟩ := hQ26
  have KK26 : Keep h0 h26 [] := (Keep.refl h0 []).trans KC26 all0
  have Z26 : n0 ≤ h26.size := Nat.le_trans Z0 KC26.1
  have EC26 := TX26.exa
  have N26 := Fr.app N0 N26q
  replace k : ow T26 (mkF m 179 #[.val (.long q1), .second, .val (.long q2), .second, ow_i p3, ow_i p4, .val (.long n1), .second, .val (.long m1), .second, .val (.long r1), .second, .val (.long n2), .second, .val (.long m2), .second, .val (.long r2), .second, ow_i sr1, ow_i as1, ow_i sr2, ow_i as2, ow_i kd, ow_r a26, .unset, .unset, .unset, .unset, .unset, .unset, .unset, .unset, .unset, .unset, .unset] [(.long m1)]) := fun t q => k t (XS.astore X26.here hx rfl (hb hby at_175) rfl rfl (l' := #[.val (.long q1), .second, .val (.long q2), .second, ow_i p3, ow_i p4, .val (.long n1), .second, .val (.long m1), .second, .val (.long r1), .second, .val (.long n2), .second, .val (.long m2), .second, .val (.long r2), .second, ow_i sr1, ow_i as1, ow_i sr2, ow_i as2, ow_i kd, ow_r a26, .unset, .unset, .unset, .unset, .unset, .unset, .unset, .unset, .unset, .unset, .unset]) rfl (XS.lload X26.here hx rfl (hb hby at_177) rfl q))
  obtain ⟨_, T27, L27, h27, X27, hS27, hZ, hown, e27, hQ27, CU27, k⟩ := own_cSS X26 hx hw hZ hown e26 hS26 hk26 k (backOfSH (W := 0) (own_m1 l Z a0 hw [] m1 w_COMPACT_STRINGS h26 n0 Z26 (own_sta_keep S_COMPACT_STRINGS KC26 ns0) hz) hZ (own_h hw 4 rfl) (own_h hw 3 rfl) (by decide) (by decide) (own_EW hw) CH26) 1 2 3 4 rfl rfl rfl rfl (by decide) rfl (by rw [hml]; rfl) [(.long m1)] [] (lenOf own_pd6 rfl) rfl rfl own_le (hb hby at_179) (by decide) (by decide)
  have hk27 := Nat.le_refl h27.size
  have CR27 := CR26.trans CU27
  have CH27 := CU27.1
  obtain ⟨a27, rfl, N27q, KC27, TX27⟩ := hQ27
  have KK27 : Keep h0 h27 [] := KK26.trans KC27 all0
  have Z27 : n0 ≤ h27.size := Nat.le_trans Z26 KC27.1
  have EC27 := TX27.exa
  have N27 := Fr.app N26 N27q
  replace k : ow T27 (mkF m 186 #[.val (.long q1), .second, .val (.long q2), .second, ow_i p3, ow_i p4, .val (.long n1), .second, .val (.long m1), .second, .val (.long r1), .second, .val (.long n2), .second, .val (.long m2), .second, .val (.long r2), .second, ow_i sr1, ow_i as1, ow_i sr2, ow_i as2, ow_i kd, ow_r a26, ow_r a27, .unset, .unset, .unset, .unset, .unset, .unset, .unset, .unset, .unset, .unset] [(.long r1)]) := fun t q => k t (XS.astore X27.here hx rfl (hb hby at_182) rfl rfl (l' := #[.val (.long q1), .second, .val (.long q2), .second, ow_i p3, ow_i p4, .val (.long n1), .second, .val (.long m1), .second, .val (.long r1), .second, .val (.long n2), .second, .val (.long m2), .second, .val (.long r2), .second, ow_i sr1, ow_i as1, ow_i sr2, ow_i as2, ow_i kd, ow_r a26, ow_r a27, .unset, .unset, .unset, .unset, .unset, .unset, .unset, .unset, .unset, .unset]) rfl (XS.lload X27.here hx rfl (hb hby at_184) rfl q))
  obtain ⟨_, T28, L28, h28, X28, hS28, hZ, hown, e28, hQ28, CU28, k⟩ := own_cSS X27 hx hw hZ hown e27 hS27 hk27 k (backOfSH (W := 0) (own_m1 l Z a0 hw [] r1 w_COMPACT_STRINGS h27 n0 Z27 (own_sta_keep (own_sta_keep S_COMPACT_STRINGS KC26 ns0) KC27 ns0) hz) hZ (own_h hw 4 rfl) (own_h hw 3 rfl) (by decide) (by decide) (own_EW hw) CH27) 1 2 3 4 rfl rfl rfl rfl (by decide) rfl (by rw [hml]; rfl) [(.long r1)] [] (lenOf own_pd6 rfl) rfl rfl own_le (hb hby at_186) (by decide) (by decide)
  have hk28 := Nat.le_refl h28.size
  have CR28 := CR27.trans CU28
  have CH28 := CU28.1
  obtain ⟨a28, rfl, N28q, KC28, TX28⟩ := hQ28
  have KK28 : Keep h0 h28 [] := KK27.trans KC28 all0
  have Z28 : n0 ≤ h28.size := Nat.le_trans Z27 KC28.1
  have EC28 := TX28.exa
  have N28 := Fr.app N27 N28q
  replace k : ow T28 (mkF m 193 #[.val (.long q1), .second, .val (.long q2), .second, ow_i p3, ow_i p4, .val (.long n1), .second, .val (.long m1), .second, .val (.long r1), .second, .val (.long n2), .second, .val (.long m2), .second, .val (.long r2), .second, ow_i sr1, ow_i as1, ow_i sr2, ow_i as2, ow_i kd, ow_r a26, ow_r a27, ow_r a28, .unset, .unset, .unset, .unset, .unset, .unset, .unset, .unset, .unset] [(.long n2)]) := fun t q => k t (XS.astore X28.here hx rfl (hb hby at_189) rfl rfl (l' := #[.val (.long q1), .second, .val (.long q2), .second, ow_i p3, ow_i p4, .val (.long n1), .second, .val (.long m1), .second, .val (.long r1), .second, .val (.long n2), .second, .val (.long m2), .second, .val (.long r2), .second, ow_i sr1, ow_i as1, ow_i sr2, ow_i as2, ow_i kd, ow_r a26, ow_r a27, ow_r a28, .unset, .unset, .unset, .unset, .unset, .unset, .unset, .unset, .unset]) rfl (XS.lload X28.here hx rfl (hb hby at_191) rfl q))
  obtain ⟨_, T29, L29, h29, X29, hS29, hZ, hown, e29, hQ29, CU29, k⟩ := own_cSS X28 hx hw hZ hown e28 hS28 hk28 k (backOfSH (W := 0) (own_m1 l Z a0 hw [] n2 w_COMPACT_STRINGS h28 n0 Z28 (own_sta_keep (own_sta_keep (own_sta_keep S_COMPACT_STRINGS KC26 ns0) KC27 ns0) KC28 ns0) hz) hZ (own_h hw 4 rfl) (own_h hw 3 rfl) (by decide) (by decide) (own_EW hw) CH28) 1 2 3 4 rfl rfl rfl rfl (by decide) rfl (by rw [hml]; rfl) [(.long n2)] [] (lenOf own_pd6 rfl) rfl rfl own_le (hb hby at_193) (by decide) (by decide)
  have hk29 := Nat.le_refl h29.size
  have CR29 := CR28.trans CU29
  have CH29 := CU29.1
  obtain ⟨a29, rfl, N29q, KC29, TX29⟩ := hQ29
  have KK29 : Keep h0 h29 [] := KK28.trans KC29 all0
  have Z29 : n0 ≤ h29.size := Nat.le_trans Z28 KC29.1
  have EC29 := TX29.exa
  have N29 := Fr.app N28 N29q
  replace k : ow T29 (mkF m 200 #[.val (.long q1), .second, .val (.long q2), .second, ow_i p3, ow_i p4, .val (.long n1), .second, .val (.long m1), .second, .val (.long r1), .second, .val (.long n2), .second, .val (.long m2), .second, .val (.long r2), .second, ow_i sr1, ow_i as1, ow_i sr2, ow_i as2, ow_i kd, ow_r a26, ow_r a27, ow_r a28, ow_r a29, .unset, .unset, .unset, .unset, .unset, .unset, .unset, .unset] [(.long m2)]) := fun t q => k t (XS.astore X29.here hx rfl (hb hby at_196) rfl rfl (l' := #[.val (.long q1), .second, .val (.long q2), .second, ow_i p3, ow_i p4, .val (.long n1), .second, .val (.long m1), .second, .val (.long r1), .second, .val (.long n2), .second, .val (.long m2), .second, .val (.long r2), .second, ow_i sr1, ow_i as1, ow_i sr2, ow_i as2, ow_i kd, ow_r a26, ow_r a27, ow_r a28, ow_r a29, .unset, .unset, .unset, .unset, .unset, .unset, .unset, .unset]) rfl (XS.lload X29.here hx rfl (hb hby at_198) rfl q))
  obtain ⟨_, T30, L30, h30, X30, hS30, hZ, hown, e30, hQ30, CU30, k⟩ := own_cSS X29 hx hw hZ hown e29 hS29 hk29 k (backOfSH (W := 0) (own_m1 l Z a0 hw [] m2 w_COMPACT_STRINGS h29 n0 Z29 (own_sta_keep (own_sta_keep (own_sta_keep (own_sta_keep S_COMPACT_STRINGS KC26 ns0) KC27 ns0) KC28 ns0) KC29 ns0) hz) hZ (own_h hw 4 rfl) (own_h hw 3 rfl) (by decide) (by decide) (own_EW hw) CH29) 1 2 3 4 rfl rfl rfl rfl (by decide) rfl (by rw [hml]; rfl) [(.long m2)] [] (lenOf own_pd6 rfl) rfl rfl own_le (hb hby at_200) (by decide) (by decide)
  have hk30 := Nat.le_refl h30.size
  have CR30 := CR29.trans CU30
  have CH30 := CU30.1
  obtain ⟨a30, rfl, N30q, KC30, TX30⟩ := hQ30
  have KK30 : Keep h0 h30 [] := KK29.trans KC30 all0
  have Z30 : n0 ≤ h30.size := Nat.le_trans Z29 KC30.1
  have EC30 := TX30.exa
  have N30 := Fr.app N29 N30q
  replace k : ow T30 (mkF m 207 #[.val (.long q1), .second, .val (.long q2), .second, ow_i p3, ow_i p4, .val (.long n1), .second, .val (.long m1), .second, .val (.long r1), .second, .val (.long n2), .second, .val (.long m2), .second, .val (.long r2), .second, ow_i sr1, ow_i as1, ow_i sr2, ow_i as2, ow_i kd, ow_r a26, ow_r a27, ow_r a28, ow_r a29, ow_r a30, .unset, .unset, .unset, .unset, .unset, .unset, .unset] [(.long r2)]) := fun t q => k t (XS.astore X30.here hx rfl (hb hby at_203) rfl rfl (l' := #[.val (.long q1), .second, .val (.long q2), .second, ow_i p3, ow_i p4, .val (.long n1), .second, .val (.long m1), .second, .val (.long r1), .second, .val (.long n2), .second, .val (.long m2), .second, .val (.long r2), .second, ow_i sr1, ow_i as1, ow_i sr2, ow_i as2, ow_i kd, ow_r a26, ow_r a27, ow_r a28, ow_r a29, ow_r a30, .unset, .unset, .unset, .unset, .unset, .unset, .unset]) rfl (XS.lload X30.here hx rfl (hb hby at_205) rfl q))
  obtain ⟨_, T31, L31, h31, X31, hS31, hZ, hown, e31, hQ31, CU31, k⟩ := own_cSS X30 hx hw hZ hown e30 hS30 hk30 k (backOfSH (W := 0) (own_m1 l Z a0 hw [] r2 w_COMPACT_STRINGS h30 n0 Z30 (own_sta_keep (own_sta_keep (own_sta_keep (own_sta_keep (own_sta_keep S_COMPACT_STRINGS KC26 ns0) KC27 ns0) KC28 ns0) KC29 ns0) KC30 ns0) hz) hZ (own_h hw 4 rfl) (own_h hw 3 rfl) (by decide) (by decide) (own_EW hw) CH30) 1 2 3 4 rfl rfl rfl rfl (by decide) rfl (by rw [hml]; rfl) [(.long r2)] [] (lenOf own_pd6 rfl) rfl rfl own_le (hb hby at_207) (by decide) (by decide)
  have hk31 := Nat.le_refl h31.size
  have CR31 := CR30.trans CU31
  have CH31 := CU31.1
  obtain ⟨a31, rfl, N31q, KC31, TX31⟩ := hQ31
  have KK31 : Keep h0 h31 [] := KK30.trans KC31 all0
  have Z31 : n0 ≤ h31.size := Nat.le_trans Z30 KC31.1
  have EC31 := TX31.exa
  have N31 := Fr.app N30 N31q
  obtain ⟨T32, h32, X32, e32, E32, A32, D32, -, st32⟩ := newO X31 hx hZ hown (own_h hw 35 rfl) (own_h hw 36 rfl) (own_h hw 37 rfl) e31 (g := (mkF m 212 #[.val (.long q1), .second, .val (.long q2), .second, ow_i p3, ow_i p4, .val (.long n1), .second, .val (.long m1), .second, .val (.long r1), .second, .val (.long n2), .second, .val (.long m2), .second, .val (.long r2), .second, ow_i sr1, ow_i as1, ow_i sr2, ow_i as2, ow_i kd, ow_r a26, ow_r a27, ow_r a28, ow_r a29, ow_r a30, ow_r a31, .unset, .unset, .unset, .unset, .unset, .unset] [])) rfl (hb hby at_212) (by decide) (by decide)
  obtain ⟨b32, g32⟩ : ∃ z, z = h31.size := ⟨_, rfl⟩
  rw [← g32] at A32 D32 st32
  have ge_b32 : n0 ≤ b32 := Nat.le_trans Z31 (Nat.le_of_eq g32.symm)
  have sz_b32 : h0.size ≤ b32 := Nat.le_trans KK31.1 (Nat.le_of_eq g32.symm)
  have Z32 : n0 ≤ h32.size := Nat.le_trans Z31 E32.1
  have K32 : Keep h0 h32 [] := KK31.ext E32
  have CU32 := CHr.ext E32 CH31
  have CR32 := CR31.trans CU32
  have CH32 := CU32.1
  have hk32 := Nat.le_trans hk31 E32.1
  have F_name_b32 : Fld Z h32 b32 "com/example/callsite/callsite/bytecode/ClassRead" "name" "Ljava/lang/String;" .null := D32 (Or.inr (own_h hw 60 rfl)) (ty := (.object "java/lang/String")) (by decide)
  have F_source_b32 : Fld Z h32 b32 "com/example/callsite/callsite/bytecode/ClassRead" "source" "Lcom/example/callsite/callsite/bytecode/ClassRead$Source;" .null := D32 (Or.inr (own_h hw 62 rfl)) (ty := (.object "com/example/callsite/callsite/bytecode/ClassRead$Source")) (by decide)
  have F_aspect_b32 : Fld Z h32 b32 "com/example/callsite/callsite/bytecode/ClassRead" "aspect" "Lcom/example/callsite/callsite/bytecode/ClassRead$Aspect;" .null := D32 (Or.inr (own_h hw 64 rfl)) (ty := (.object "com/example/callsite/callsite/bytecode/ClassRead$Aspect")) (by decide)
  have F_member_b32 : Fld Z h32 b32 "com/example/callsite/callsite/bytecode/ClassRead" "member" "Ljava/lang/String;" .null := D32 (Or.inr (own_h hw 66 rfl)) (ty := (.object "java/lang/String")) (by decide)
  have F_answer_b32 : Fld Z h32 b32 "com/example/callsite/callsite/bytecode/ClassRead" "answer" "Ljava/lang/String;" .null := D32 (Or.inr (own_h hw 68 rfl)) (ty := (.object "java/lang/String")) (by decide)
  replace k : ow T32 (mkF m 215 #[.val (.long q1), .second, .val (.long q2), .second, ow_i p3, ow_i p4, .val (.long n1), .second, .val (.long m1), .second, .val (.long r1), .second, .val (.long n2), .second, .val (.long m2), .second, .val (.long r2), .second, ow_i sr1, ow_i as1, ow_i sr2, ow_i as2, ow_i kd, ow_r a26, ow_r a27, ow_r a28, ow_r a29, ow_r a30, ow_r a31, .unset, .unset, .unset, .unset, .unset, .unset] [(.ref b32)]) := fun t q => k t (XS.astore X31.here hx rfl (hb hby at_210) rfl rfl (l' := #[.val (.long q1), .second, .val (.long q2), .second, ow_i p3, ow_i p4, .val (.long n1), .second, .val (.long m1), .second, .val (.long r1), .second, .val (.long n2), .second, .val (.long m2), .second, .val (.long r2), .second, ow_i sr1, ow_i as1, ow_i sr2, ow_i as2, ow_i kd, ow_r a26, ow_r a27, ow_r a28, ow_r a29, ow_r a30, ow_r a31, .unset, .unset, .unset, .unset, .unset, .unset]) rfl (st32 t q))
  clear st32
  replace k : ow T32 (mkF m 220 #[.val (.long q1), .second, .val (.long q2), .second, ow_i p3, ow_i p4, .val (.long n1), .second, .val (.long m1), .second, .val (.long r1), .second, .val (.long n2), .second, .val (.long m2), .second, .val (.long r2), .second, ow_i sr1, ow_i as1, ow_i sr2, ow_i as2, ow_i kd, ow_r a26, ow_r a27, ow_r a28, ow_r a29, ow_r a30, ow_r a31, .unset, .unset, .unset, .unset, .unset, .unset] [(.int sr1), (.ref a26), (.ref b32), (.ref b32)]) := fun t q => k t (XS.dup X32.here hx rfl (hb hby at_215) rfl rfl (XS.aload X32.here hx rfl (hb hby at_216) rfl rfl (XS.iload X32.here hx rfl (hb hby at_218) rfl q)))
  obtain ⟨_, _, ⟨T33, L33, k33, n33⟩, -, X33, ⟨Lc33, hQ33, l33, y33, z33⟩, st33⟩ := Jvm.LawKit.callS X32 hx (y := own_y7) hown (mvT hZ (own_h hw 38 rfl)) (mvT hZ (own_h hw 39 rfl)) (mvT hZ (own_h hw 3 rfl)) (mvT hZ (own_h hw 40 rfl)) (by decide) (backOf (W := 3) (own_m7 l Z a0 hw [] sr1 w_Source_PROGRAM w_JDK w_LIBRARY w_UNKNOWN w_NOT_PROGRAM h32 n0 Z32 ((own_sta_keep (own_sta_keep (own_sta_keep (own_sta_keep (own_sta_keep (own_sta_keep S_Source_PROGRAM KC26 ns0) KC27 ns0) KC28 ns0) KC29 ns0) KC30 ns0) KC31 ns0).ext E32) ((own_sta_keep (own_sta_keep (own_sta_keep (own_sta_keep (own_sta_keep (own_sta_keep S_JDK KC26 ns0) KC27 ns0) KC28 ns0) KC29 ns0) KC30 ns0) KC31 ns0).ext E32) ((own_sta_keep (own_sta_keep (own_sta_keep (own_sta_keep (own_sta_keep (own_sta_keep S_LIBRARY KC26 ns0) KC27 ns0) KC28 ns0) KC29 ns0) KC30 ns0) KC31 ns0).ext E32) ((own_sta_keep (own_sta_keep (own_sta_keep (own_sta_keep (own_sta_keep (own_sta_keep S_UNKNOWN KC26 ns0) KC27 ns0) KC28 ns0) KC29 ns0) KC30 ns0) KC31 ns0).ext E32) ((own_sta_keep (own_sta_keep (own_sta_keep (own_sta_keep (own_sta_keep (own_sta_keep S_NOT_PROGRAM KC26 ns0) KC27 ns0) KC28 ns0) KC29 ns0) KC30 ns0) KC31 ns0).ext E32)) hZ (own_h hw 40 rfl) (own_h hw 3 rfl) (by decide) (by decide)) (g := (mkF m 220 #[.val (.long q1), .second, .val (.long q2), .second, ow_i p3, ow_i p4, .val (.long n1), .second, .val (.long m1), .second, .val (.long r1), .second, .val (.long n2), .second, .val (.long m2), .second, .val (.long r2), .second, ow_i sr1, ow_i as1, ow_i sr2, ow_i as2, ow_i kd, ow_r a26, ow_r a27, ow_r a28, ow_r a29, ow_r a30, ow_r a31, .unset, .unset, .unset, .unset, .unset, .unset] [(.int sr1), (.ref a26), (.ref b32), (.ref b32)])) rfl (by rw [hml]; rfl) (argsL := [(.int sr1)]) (rest := [(.ref a26), (.ref b32), (.ref b32)]) (lenOf own_pd7 rfl) rfl own_le (hb hby at_220) (fun _ _ => ⟨rfl, e32, (by decide : 37 + 0 ≤ _), (by decide : 77 + 0 ≤ _)⟩)
  dsimp only [Pt.U, Pt.locs, Pt.cells, Pt.slots] at X33 l33 y33 z33 st33 hQ33
  subst l33 y33 z33
  obtain ⟨rfl, N33q, e33⟩ := hQ33
  have N33 := Fr.app N31 N33q
  replace k : ow T33 (mkF m 223 #[.val (.long q1), .second, .val (.long q2), .second, ow_i p3, ow_i p4, .val (.long n1), .second, .val (.long m1), .second, .val (.long r1), .second, .val (.long n2), .second, .val (.long m2), .second, .val (.long r2), .second, ow_i sr1, ow_i as1, ow_i sr2, ow_i as2, ow_i kd, ow_r a26, ow_r a27, ow_r a28, ow_r a29, ow_r a30, ow_r a31, .unset, .unset, .unset, .unset, .unset, .unset] [(.ref (own_src sr1 w_Source_PROGRAM w_JDK w_LIBRARY w_UNKNOWN w_NOT_PROGRAM)), (.ref a26), (.ref b32), (.ref b32)]) := fun t q => k t (st33 t q)
  clear st33
  obtain ⟨_, _, ⟨T34, L34, k34, n34⟩, -, X34, ⟨Lc34, hQ34, l34, y34, z34⟩, st34⟩ := Jvm.LawKit.callS X33 hx (y := own_y8) hown (mvT hZ (own_h hw 44 rfl)) (mvT hZ (own_h hw 45 rfl)) (mvT hZ (own_h hw 3 rfl)) (mvT hZ (own_h hw 46 rfl)) (by decide) (backOf (W := 4) (own_m8 l Z a0 hw [] as1 w_Aspect_PROGRAM w_SOURCE w_SUPERCLASS w_INTERFACES w_INTERFACE w_DECLARES_METHOD w_FLAGS w_THROWS w_PROGRAM_METHOD w_FIELD w_CONCRETE_METHOD w_METHODS h32 n0 Z32 ((own_sta_keep (own_sta_keep (own_sta_keep (own_sta_keep (own_sta_keep (own_sta_keep S_Aspect_PROGRAM KC26 ns0) KC27 ns0) KC28 ns0) KC29 ns0) KC30 ns0) KC31 ns0).ext E32) ((own_sta_keep (own_sta_keep (own_sta_keep (own_sta_keep (own_sta_keep (own_sta_keep S_SOURCE KC26 ns0) KC27 ns0) KC28 ns0) KC29 ns0) KC30 ns0) KC31 ns0).ext E32) ((own_sta_keep (own_sta_keep (own_sta_keep (own_sta_keep (own_sta_keep (own_sta_keep S_SUPERCLASS KC26 ns0) KC27 ns0) KC28 ns0) KC29 ns0) KC30 ns0) KC31 ns0).ext E32) ((own_sta_keep (own_sta_keep (own_sta_keep (own_sta_keep (own_sta_keep (own_sta_keep S_INTERFACES KC26 ns0) KC27 ns0) KC28 ns0) KC29 ns0) KC30 ns0) KC31 ns0).ext E32) ((own_sta_keep (own_sta_keep (own_sta_keep (own_sta_keep (own_sta_keep (own_sta_keep S_INTERFACE KC26 ns0) KC27 ns0) KC28 ns0) KC29 ns0) KC30 ns0) KC31 ns0).ext E32) ((own_sta_keep (own_sta_keep (own_sta_keep (own_sta_keep (own_sta_keep (own_sta_keep S_DECLARES_METHOD KC26 ns0) KC27 ns0) KC28 ns0) KC29 ns0) KC30 ns0) KC31 ns0).ext E32) ((own_sta_keep (own_sta_keep (own_sta_keep (own_sta_keep (own_sta_keep (own_sta_keep S_FLAGS KC26 ns0) KC27 ns0) KC28 ns0) KC29 ns0) KC30 ns0) KC31 ns0).ext E32) ((own_sta_keep (own_sta_keep (own_sta_keep (own_sta_keep (own_sta_keep (own_sta_keep S_THROWS KC26 ns0) KC27 ns0) KC28 ns0) KC29 ns0) KC30 ns0) KC31 ns0).ext E32) ((own_sta_keep (own_sta_keep (own_sta_keep (own_sta_keep (own_sta_keep (own_sta_keep S_PROGRAM_METHOD KC26 ns0) KC27 ns0) KC28 ns0) KC29 ns0) KC30 ns0) KC31 ns0).ext E32) ((own_sta_keep (own_sta_keep (own_sta_keep (own_sta_keep (own_sta_keep (own_sta_keep S_FIELD KC26 ns0) KC27 ns0) KC28 ns0) KC29 ns0) KC30 ns0) KC31 ns0).ext E32) ((own_sta_keep (own_sta_keep (own_sta_keep (own_sta_keep (own_sta_keep (own_sta_keep S_CONCRETE_METHOD KC26 ns0) KC27 ns0) KC28 ns0) KC29 ns0) KC30 ns0) KC31 ns0).ext E32) ((own_sta_keep (own_sta_keep (own_sta_keep (own_sta_keep (own_sta_keep (own_sta_keep S_METHODS KC26 ns0) KC27 ns0) KC28 ns0) KC29 ns0) KC30 ns0) KC31 ns0).ext E32)) hZ (own_h hw 46 rfl) (own_h hw 3 rfl) (by decide) (by decide)) (g := (mkF m 225 #[.val (.long q1), .second, .val (.long q2), .second, ow_i p3, ow_i p4, .val (.long n1), .second, .val (.long m1), .second, .val (.long r1), .second, .val (.long n2), .second, .val (.long m2), .second, .val (.long r2), .second, ow_i sr1, ow_i as1, ow_i sr2, ow_i as2, ow_i kd, ow_r a26, ow_r a27, ow_r a28, ow_r a29, ow_r a30, ow_r a31, .unset, .unset, .unset, .unset, .unset, .unset] [(.int as1), (.ref (own_src sr1 w_Source_PROGRAM w_JDK w_LIBRARY w_UNKNOWN w_NOT_PROGRAM)), (.ref a26), (.ref b32), (.ref b32)])) rfl (by rw [hml]; rfl) (argsL := [(.int as1)]) (rest := [(.ref (own_src sr1 w_Source_PROGRAM w_JDK w_LIBRARY w_UNKNOWN w_NOT_PROGRAM)), (.ref a26), (.ref b32), (.ref b32)]) (lenOf own_pd8 rfl) rfl own_le (hb hby at_225) (fun _ _ => ⟨rfl, e33, (by decide : 37 + 0 ≤ _), (by decide : 77 + 0 ≤ _)⟩)
  dsimp only [Pt.U, Pt.locs, Pt.cells, Pt.slots] at X34 l34 y34 z34 st34 hQ34
  subst l34 y34 z34
  obtain ⟨rfl, N34q, e34⟩ := hQ34
  have N34 := Fr.app N33 N34q
  replace k : ow T34 (mkF m 228 #[.val (.long q1), .second, .val (.long q2), .second, ow_i p3, ow_i p4, .val (.long n1), .second, .val (.long m1), .second, .val (.long r1), .second, .val (.long n2), .second, .val (.long m2), .second, .val (.long r2), .second, ow_i sr1, ow_i as1, ow_i sr2, ow_i as2, ow_i kd, ow_r a26, ow_r a27, ow_r a28, ow_r a29, ow_r a30, ow_r a31, .unset, .unset, .unset, .unset, .unset, .unset] [(.ref (own_asp as1 w_Aspect_PROGRAM w_SOURCE w_SUPERCLASS w_INTERFACES w_INTERFACE w_DECLARES_METHOD w_FLAGS w_THROWS w_PROGRAM_METHOD w_FIELD w_CONCRETE_METHOD w_METHODS)), (.ref (own_src sr1 w_Source_PROGRAM w_JDK w_LIBRARY w_UNKNOWN w_NOT_PROGRAM)), (.ref a26), (.ref b32), (.ref b32)]) := fun t q => k t (XS.iload X33.here hx rfl (hb hby at_223) rfl (st34 t q))
  clear st34
  obtain ⟨_, _, ⟨T35, L35, k35, n35⟩, -, X35, ⟨Lc35, hQ35, l35, y35, z35⟩, st35⟩ := X34.specialBack hx (y := own_y9) rfl hown (mvT hZ (own_h hw 50 rfl)) (mvT hZ (own_h hw 51 rfl)) (mvT hZ (own_h hw 52 rfl)) (by decide) (backOf (W := 1) (own_m9 l Z a0 hw [] b32 a26 (own_src sr1 w_Source_PROGRAM w_JDK w_LIBRARY w_UNKNOWN w_NOT_PROGRAM) (own_asp as1 w_Aspect_PROGRAM w_SOURCE w_SUPERCLASS w_INTERFACES w_INTERFACE w_DECLARES_METHOD w_FLAGS w_THROWS w_PROGRAM_METHOD w_FIELD w_CONCRETE_METHOD w_METHODS) a27 a28 .null .null .null .null .null h32 n0 Z32 A32 F_name_b32 ge_b32 F_source_b32 F_aspect_b32 F_member_b32 F_answer_b32) hZ (own_h hw 52 rfl) (own_h hw 37 rfl) (by decide) (by decide)) (g := (mkF m 232 #[.val (.long q1), .second, .val (.long q2), .second, ow_i p3, ow_i p4, .val (.long n1), .second, .val (.long m1), .second, .val (.long r1), .second, .val (.long n2), .second, .val (.long m2), .second, .val (.long r2), .second, ow_i sr1, ow_i as1, ow_i sr2, ow_i as2, ow_i kd, ow_r a26, ow_r a27, ow_r a28, ow_r a29, ow_r a30, ow_r a31, .unset, .unset, .unset, .unset, .unset, .unset] [(.ref a28), (.ref a27), (.ref (own_asp as1 w_Aspect_PROGRAM w_SOURCE w_SUPERCLASS w_INTERFACES w_INTERFACE w_DECLARES_METHOD w_FLAGS w_THROWS w_PROGRAM_METHOD w_FIELD w_CONCRETE_METHOD w_METHODS)), (.ref (own_src sr1 w_Source_PROGRAM w_JDK w_LIBRARY w_UNKNOWN w_NOT_PROGRAM)), (.ref a26), (.ref b32), (.ref b32)])) rfl (by rw [hml]; rfl) (Steps.refl _) (a := b32) (argsL := [(.ref a26), (.ref (own_src sr1 w_Source_PROGRAM w_JDK w_LIBRARY w_UNKNOWN w_NOT_PROGRAM)), (.ref (own_asp as1 w_Aspect_PROGRAM w_SOURCE w_SUPERCLASS w_INTERFACES w_INTERFACE w_DECLARES_METHOD w_FLAGS w_THROWS w_PROGRAM_METHOD w_FIELD w_CONCRETE_METHOD w_METHODS)), (.ref a27), (.ref a28)]) (rest := [(.ref b32)]) (lenOf own_pd9 rfl) rfl own_le (hb hby at_232) (fun _ _ => ⟨rfl, e34, (by decide : 37 + 0 ≤ _), (by decide : 77 + 0 ≤ _)⟩)
  dsimp only [Pt.U, Pt.locs, Pt.cells, Pt.slots] at X35 l35 y35 z35 st35 hQ35
  subst l35 y35 z35
  obtain ⟨h35, e35⟩ : ∃ z, T35.heap = z := ⟨_, rfl⟩
  rw [e35] at hQ35
  obtain ⟨rfl, N35q, KC35, EC35_0, FC35_0, FC35_1, FC35_2, FC35_3, FC35_4⟩ := hQ35
  have KK35 : Keep h0 h35 [] := K32.trans KC35 (allS (Or.inr sz_b32) all0)
  have Z35 : n0 ≤ h35.size := Nat.le_trans Z32 KC35.1
  have CU35 := CHr.keep KC35 (sfS (Safe.exa hZ.alike A32 (by decide) (by decide)) sf0) CH32
  have CR35 := CR32.trans CU35
  have CH35 := CU35.1
  have hk35 := Nat.le_trans hk32 KC35.1
  have N35 := Fr.app N34 N35q
  replace k : ow T35 (mkF m 235 #[.val (.long q1), .second, .val (.long q2), .second, ow_i p3, ow_i p4, .val (.long n1), .second, .val (.long m1), .second, .val (.long r1), .second, .val (.long n2), .second, .val (.long m2), .second, .val (.long r2), .second, ow_i sr1, ow_i as1, ow_i sr2, ow_i as2, ow_i kd, ow_r a26, ow_r a27, ow_r a28, ow_r a29, ow_r a30, ow_r a31, .unset, .unset, .unset, .unset, .unset, .unset] [(.ref b32)]) := fun t q => k t (XS.aload X34.here hx rfl (hb hby at_228) rfl rfl (XS.aload X34.here hx rfl (hb hby at_230) rfl rfl (st35.trans q)))
  clear st35
  obtain ⟨T36, h36, X36, e36, E36, A36, D36, -, st36⟩ := newO X35 hx hZ hown (own_h hw 35 rfl) (own_h hw 36 rfl) (own_h hw 37 rfl) e35 (g := (mkF m 237 #[.val (.long q1), .second, .val (.long q2), .second, ow_i p3, ow_i p4, .val (.long n1), .second, .val (.long m1), .second, .val (.long r1), .second, .val (.long n2), .second, .val (.long m2), .second, .val (.long r2), .second, ow_i sr1, ow_i as1, ow_i sr2, ow_i as2, ow_i kd, ow_r a26, ow_r a27, ow_r a28, ow_r a29, ow_r a30, ow_r a31, ow_r b32, .unset, .unset, .unset, .unset, .unset] [])) rfl (hb hby at_237) (by decide) (by decide)
  obtain ⟨b36, g36⟩ : ∃ z, z = h35.size := ⟨_, rfl⟩
  rw [← g36] at A36 D36 st36
  have ge_b36 : n0 ≤ b36 := Nat.le_trans Z35 (Nat.le_of_eq g36.symm)
  have sz_b36 : h0.size ≤ b36 := Nat.le_trans KK35.1 (Nat.le_of_eq g36.symm)
  have Z36 : n0 ≤ h36.size := Nat.le_trans Z35 E36.1
  have K36 : Keep h0 h36 [] := KK35.ext E36
  have CU36 := CHr.ext E36 CH35
  have CR36 := CR35.trans CU36
  have CH36 := CU36.1
  have hk36 := Nat.le_trans hk35 E36.1
  have F_name_b36 : Fld Z h36 b36 "com/example/callsite/callsite/bytecode/ClassRead" "name" "Ljava/lang/String;" .null := D36 (Or.inr (own_h hw 60 rfl)) (ty := (.object "java/lang/String")) (by decide)
  have F_source_b36 : Fld Z h36 b36 "com/example/callsite/callsite/bytecode/ClassRead" "source" "Lcom/example/callsite/callsite/bytecode/ClassRead$Source;" .null := D36 (Or.inr (own_h hw 62 rfl)) (ty := (.object "com/example/callsite/callsite/bytecode/ClassRead$Source")) (by decide)
  have F_aspect_b36 : Fld Z h36 b36 "com/example/callsite/callsite/bytecode/ClassRead" "aspect" "Lcom/example/callsite/callsite/bytecode/ClassRead$Aspect;" .null := D36 (Or.inr (own_h hw 64 rfl)) (ty := (.object "com/example/callsite/callsite/bytecode/ClassRead$Aspect")) (by decide)
  have F_member_b36 : Fld Z h36 b36 "com/example/callsite/callsite/bytecode/ClassRead" "member" "Ljava/lang/String;" .null := D36 (Or.inr (own_h hw 66 rfl)) (ty := (.object "java/lang/String")) (by decide)
  have F_answer_b36 : Fld Z h36 b36 "com/example/callsite/callsite/bytecode/ClassRead" "answer" "Ljava/lang/String;" .null := D36 (Or.inr (own_h hw 68 rfl)) (ty := (.object "java/lang/String")) (by decide)
  replace k : ow T36 (mkF m 240 #[.val (.long q1), .second, .val (.long q2), .second, ow_i p3, ow_i p4, .val (.long n1), .second, .val (.long m1), .second, .val (.long r1), .second, .val (.long n2), .second, .val (.long m2), .second, .val (.long r2), .second, ow_i sr1, ow_i as1, ow_i sr2, ow_i as2, ow_i kd, ow_r a26, ow_r a27, ow_r a28, ow_r a29, ow_r a30, ow_r a31, ow_r b32, .unset, .unset, .unset, .unset, .unset] [(.ref b36)]) := fun t q => k t (XS.astore X35.here hx rfl (hb hby at_235) rfl rfl (l' := #[.val (.long q1), .second, .val (.long q2), .second, ow_i p3, ow_i p4, .val (.long n1), .second, .val (.long m1), .second, .val (.long r1), .second, .val (.long n2), .second, .val (.long m2), .second, .val (.long r2), .second, ow_i sr1, ow_i as1, ow_i sr2, ow_i as2, ow_i kd, ow_r a26, ow_r a27, ow_r a28, ow_r a29, ow_r a30, ow_r a31, ow_r b32, .unset, .unset, .unset, .unset, .unset]) rfl (st36 t q))
  clear st36
  replace k : ow T36 (mkF m 245 #[.val (.long q1), .second, .val (.long q2), .second, ow_i p3, ow_i p4, .val (.long n1), .second, .val (.long m1), .second, .val (.long r1), .second, .val (.long n2), .second, .val (.long m2), .second, .val (.long r2), .second, ow_i sr1, ow_i as1, ow_i sr2, ow_i as2, ow_i kd, ow_r a26, ow_r a27, ow_r a28, ow_r a29, ow_r a30, ow_r a31, ow_r b32, .unset, .unset, .unset, .unset, .unset] [(.int sr2), (.ref a29), (.ref b36), (.ref b36)]) := fun t q => k t (XS.dup X36.here hx rfl (hb hby at_240) rfl rfl (XS.aload X36.here hx rfl (hb hby at_241) rfl rfl (XS.iload X36.here hx rfl (hb hby at_243) rfl q)))
  obtain ⟨_, _, ⟨T37, L37, k37, n37⟩, -, X37, ⟨Lc37, hQ37, l37, y37, z37⟩, st37⟩ := Jvm.LawKit.callS X36 hx (y := own_y7) hown (mvT hZ (own_h hw 38 rfl)) (mvT hZ (own_h hw 39 rfl)) (mvT hZ (own_h hw 3 rfl)) (mvT hZ (own_h hw 40 rfl)) (by decide) (backOf (W := 3) (own_m7 l Z a0 hw [] sr2 w_Source_PROGRAM w_JDK w_LIBRARY w_UNKNOWN w_NOT_PROGRAM h36 n0 Z36 ((own_sta_keep ((own_sta_keep (own_sta_keep (own_sta_keep (own_sta_keep (own_sta_keep (own_sta_keep S_Source_PROGRAM KC26 ns0) KC27 ns0) KC28 ns0) KC29 ns0) KC30 ns0) KC31 ns0).ext E32) KC35 (nsS (Exa.nostat A32) ns0)).ext E36) ((own_sta_keep ((own_sta_keep (own_sta_keep (own_sta_keep (own_sta_keep (own_sta_keep (own_sta_keep S_JDK KC26 ns0) KC27 ns0) KC28 ns0) KC29 ns0) KC30 ns0) KC31 ns0).ext E32) KC35 (nsS (Exa.nostat A32) ns0)).ext E36) ((own_sta_keep ((own_sta_keep (own_sta_keep (own_sta_keep (own_sta_keep (own_sta_keep (own_sta_keep S_LIBRARY KC26 ns0) KC27 ns0) KC28 ns0) KC29 ns0) KC30 ns0) KC31 ns0).ext E32) KC35 (nsS (Exa.nostat A32) ns0)).ext E36) ((own_sta_keep ((own_sta_keep (own_sta_keep (own_sta_keep (own_sta_keep (own_sta_keep (own_sta_keep S_UNKNOWN KC26 ns0) KC27 ns0) KC28 ns0) KC29 ns0) KC30 ns0) KC31 ns0).ext E32) KC35 (nsS (Exa.nostat A32) ns0)).ext E36) ((own_sta_keep ((own_sta_keep (own_sta_keep (own_sta_keep (own_sta_keep (own_sta_keep (own_sta_keep S_NOT_PROGRAM KC26 ns0) KC27 ns0) KC28 ns0) KC29 ns0) KC30 ns0) KC31 ns0).ext E32) KC35 (nsS (Exa.nostat A32) ns0)).ext E36)) hZ (own_h hw 40 rfl) (own_h hw 3 rfl) (by decide) (by decide)) (g := (mkF m 245 #[.val (.long q1), .second, .val (.long q2), .second, ow_i p3, ow_i p4, .val (.long n1), .second, .val (.long m1), .second, .val (.long r1), .second, .val (.long n2), .second, .val (.long m2), .second, .val (.long r2), .second, ow_i sr1, ow_i as1, ow_i sr2, ow_i as2, ow_i kd, ow_r a26, ow_r a27, ow_r a28, ow_r a29, ow_r a30, ow_r a31, ow_r b32, .unset, .unset, .unset, .unset, .unset] [(.int sr2), (.ref a29), (.ref b36), (.ref b36)])) rfl (by rw [hml]; rfl) (argsL := [(.int sr2)]) (rest := [(.ref a29), (.ref b36), (.ref b36)]) (lenOf own_pd7 rfl) rfl own_le (hb hby at_245) (fun _ _ => ⟨rfl, e36, (by decide : 38 + 0 ≤ _), (by decide : 82 + 0 ≤ _)⟩)
  dsimp only [Pt.U, Pt.locs, Pt.cells, Pt.slots] at X37 l37 y37 z37 st37 hQ37
  subst l37 y37 z37
  obtain ⟨rfl, N37q, e37⟩ := hQ37
  have N37 := Fr.app N35 N37q
  replace k : ow T37 (mkF m 248 #[.val (.long q1), .second, .val (.long q2), .second, ow_i p3, ow_i p4, .val (.long n1), .second, .val (.long m1), .second, .val (.long r1), .second, .val (.long n2), .second, .val (.long m2), .second, .val (.long r2), .second, ow_i sr1, ow_i as1, ow_i sr2, ow_i as2, ow_i kd, ow_r a26, ow_r a27, ow_r a28, ow_r a29, ow_r a30, ow_r a31, ow_r b32, .unset, .unset, .unset, .unset, .unset] [(.ref (own_src sr2 w_Source_PROGRAM w_JDK w_LIBRARY w_UNKNOWN w_NOT_PROGRAM)), (.ref a29), (.ref b36), (.ref b36)]) := fun t q => k t (st37 t q)
  clear st37
  obtain ⟨_, _, ⟨T38, L38, k38, n38⟩, -, X38, ⟨Lc38, hQ38, l38, y38, z38⟩, st38⟩ := Jvm.LawKit.callS X37 hx (y := own_y8) hown (mvT hZ (own_h hw 44 rfl)) (mvT hZ (own_h hw 45 rfl)) (mvT hZ (own_h hw 3 rfl)) (mvT hZ (own_h hw 46 rfl)) (by decide) (backOf (W := 4) (own_m8 l Z a0 hw [] as2 w_Aspect_PROGRAM w_SOURCE w_SUPERCLASS w_INTERFACES w_INTERFACE w_DECLARES_METHOD w_FLAGS w_THROWS w_PROGRAM_METHOD w_FIELD w_CONCRETE_METHOD w_METHODS h36 n0 Z36 ((own_sta_keep ((own_sta_keep (own_sta_keep (own_sta_keep (own_sta_keep (own_sta_keep (own_sta_keep S_Aspect_PROGRAM KC26 ns0) KC27 ns0) KC28 ns0) KC29 ns0) KC30 ns0) KC31 ns0).ext E32) KC35 (nsS (Exa.nostat A32) ns0)).ext E36) ((own_sta_keep ((own_sta_keep (own_sta_keep (own_sta_keep (own_sta_keep (own_sta_keep (own_sta_keep S_SOURCE KC26 ns0) KC27 ns0) KC28 ns0) KC29 ns0) KC30 ns0) KC31 ns0).ext E32) KC35 (nsS (Exa.nostat A32) ns0)).ext E36) ((own_sta_keep ((own_sta_keep (own_sta_keep (own_sta_keep (own_sta_keep (own_sta_keep (own_sta_keep S_SUPERCLASS KC26 ns0) KC27 ns0) KC28 ns0) KC29 ns0) KC30 ns0) KC31 ns0).ext E32) KC35 (nsS (Exa.nostat A32) ns0)).ext E36) ((own_sta_keep ((own_sta_keep (own_sta_keep (own_sta_keep (own_sta_keep (own_sta_keep (own_sta_keep S_INTERFACES KC26 ns0) KC27 ns0) KC28 ns0) KC29 ns0) KC30 ns0) KC31 ns0).ext E32) KC35 (nsS (Exa.nostat A32) ns0)).ext E36) ((own_sta_keep ((own_sta_keep (own_sta_keep (own_sta_keep (own_sta_keep (own_sta_keep (own_sta_keep S_INTERFACE KC26 ns0) KC27 ns0) KC28 ns0) KC29 ns0) KC30 ns0) KC31 ns0).ext E32) KC35 (nsS (Exa.nostat A32) ns0)).ext E36) ((own_sta_keep ((own_sta_keep (own_sta_keep (own_sta_keep (own_sta_keep (own_sta_keep (own_sta_keep S_DECLARES_METHOD KC26 ns0) KC27 ns0) KC28 ns0) KC29 ns0) KC30 ns0) KC31 ns0).ext E32) KC35 (nsS (Exa.nostat A32) ns0)).ext E36) ((own_sta_keep ((own_sta_keep (own_sta_keep (own_sta_keep (own_sta_keep (own_sta_keep (own_sta_keep S_FLAGS KC26 ns0) KC27 ns0) KC28 ns0) KC29 ns0) KC30 ns0) KC31 ns0).ext E32) KC35 (nsS (Exa.nostat A32) ns0)).ext E36) ((own_sta_keep ((own_sta_keep (own_sta_keep (own_sta_keep (own_sta_keep (own_sta_keep (own_sta_keep S_THROWS KC26 ns0) KC27 ns0) KC28 ns0) KC29 ns0) KC30 ns0) KC31 ns0).ext E32) KC35 (nsS (Exa.nostat A32) ns0)).ext E36) ((own_sta_keep ((own_sta_keep (own_sta_keep (own_sta_keep (own_sta_keep (own_sta_keep (own_sta_keep S_PROGRAM_METHOD KC26 ns0) KC27 ns0) KC28 ns0) KC29 ns0) KC30 ns0) KC31 ns0).ext E32) KC35 (nsS (Exa.nostat A32) ns0)).ext E36) ((own_sta_keep ((own_sta_keep (own_sta_keep (own_sta_keep (own_sta_keep (own_sta_keep (own_sta_keep S_FIELD KC26 ns0) KC27 ns0) KC28 ns0) KC29 ns0) KC30 ns0) KC31 ns0).ext E32) KC35 (nsS (Exa.nostat A32) ns0)).ext E36) ((own_sta_keep ((own_sta_keep (own_sta_keep (own_sta_keep (own_sta_keep (own_sta_keep (own_sta_keep S_CONCRETE_METHOD KC26 ns0) KC27 ns0) KC28 ns0) KC29 ns0) KC30 ns0) KC31 ns0).ext E32) KC35 (nsS (Exa.nostat A32) ns0)).ext E36) ((own_sta_keep ((own_sta_keep (own_sta_keep (own_sta_keep (own_sta_keep (own_sta_keep (own_sta_keep S_METHODS KC26 ns0) KC27 ns0) KC28 ns0) KC29 ns0) KC30 ns0) KC31 ns0).ext E32) KC35 (nsS (Exa.nostat A32) ns0)).ext E36)) hZ (own_h hw 46 rfl) (own_h hw 3 rfl) (by decide) (by decide)) (g := (mkF m 250 #[.val (.long q1), .second, .val (.long q2), .second, ow_i p3, ow_i p4, .val (.long n1), .second, .val (.long m1), .second, .val (.long r1), .second, .val (.long n2), .second, .val (.long m2), .second, .val (.long r2), .second, ow_i sr1, ow_i as1, ow_i sr2, ow_i as2, ow_i kd, ow_r a26, ow_r a27, ow_r a28, ow_r a29, ow_r a30, ow_r a31, ow_r b32, .unset, .unset, .unset, .unset, .unset] [(.int as2), (.ref (own_src sr2 w_Source_PROGRAM w_JDK w_LIBRARY w_UNKNOWN w_NOT_PROGRAM)), (.ref a29), (.ref b36), (.ref b36)])) rfl (by rw [hml]; rfl) (argsL := [(.int as2)]) (rest := [(.ref (own_src sr2 w_Source_PROGRAM w_JDK w_LIBRARY w_UNKNOWN w_NOT_PROGRAM)), (.ref a29), (.ref b36), (.ref b36)]) (lenOf own_pd8 rfl) rfl own_le (hb hby at_250) (fun _ _ => ⟨rfl, e37, (by decide : 38 + 0 ≤ _), (by decide : 82 + 0 ≤ _)⟩)
  dsimp only [Pt.U, Pt.locs, Pt.cells, Pt.slots] at X38 l38 y38 z38 st38 hQ38
  subst l38 y38 z38
  obtain ⟨rfl, N38q, e38⟩ := hQ38
  have N38 := Fr.app N37 N38q
  replace k : ow T38 (mkF m 253 #[.val (.long q1), .second, .val (.long q2), .second, ow_i p3, ow_i p4, .val (.long n1), .second, .val (.long m1), .second, .val (.long r1), .second, .val (.long n2), .second, .val (.long m2), .second, .val (.long r2), .second, ow_i sr1, ow_i as1, ow_i sr2, ow_i as2, ow_i kd, ow_r a26, ow_r a27, ow_r a28, ow_r a29, ow_r a30, ow_r a31, ow_r b32, .unset, .unset, .unset, .unset, .unset] [(.ref (own_asp as2 w_Aspect_PROGRAM w_SOURCE w_SUPERCLASS w_INTERFACES w_INTERFACE w_DECLARES_METHOD w_FLAGS w_THROWS w_PROGRAM_METHOD w_FIELD w_CONCRETE_METHOD w_METHODS)), (.ref (own_src sr2 w_Source_PROGRAM w_JDK w_LIBRARY w_UNKNOWN w_NOT_PROGRAM)), (.ref a29), (.ref b36), (.ref b36)]) := fun t q => k t (XS.iload X37.here hx rfl (hb hby at_248) rfl (st38 t q))
  clear st38
  obtain ⟨_, _, ⟨T39, L39, k39, n39⟩, -, X39, ⟨Lc39, hQ39, l39, y39, z39⟩, st39⟩ := X38.specialBack hx (y := own_y9) rfl hown (mvT hZ (own_h hw 50 rfl)) (mvT hZ (own_h hw 51 rfl)) (mvT hZ (own_h hw 52 rfl)) (by decide) (backOf (W := 1) (own_m9 l Z a0 hw [] b36 a29 (own_src sr2 w_Source_PROGRAM w_JDK w_LIBRARY w_UNKNOWN w_NOT_PROGRAM) (own_asp as2 w_Aspect_PROGRAM w_SOURCE w_SUPERCLASS w_INTERFACES w_INTERFACE w_DECLARES_METHOD w_FLAGS w_THROWS w_PROGRAM_METHOD w_FIELD w_CONCRETE_METHOD w_METHODS) a30 a31 .null .null .null .null .null h36 n0 Z36 A36 F_name_b36 ge_b36 F_source_b36 F_aspect_b36 F_member_b36 F_answer_b36) hZ (own_h hw 52 rfl) (own_h hw 37 rfl) (by decide) (by decide)) (g := (mkF m 257 #[.val (.long q1), .second, .val (.long q2), .second, ow_i p3, ow_i p4, .val (.long n1), .second, .val (.long m1), .second, .val (.long r1), .second, .val (.long n2), .second, .val (.long m2), .second, .val (.long r2), .second, ow_i sr1, ow_i as1, ow_i sr2, ow_i as2, ow_i kd, ow_r a26, ow_r a27, ow_r a28, ow_r a29, ow_r a30, ow_r a31, ow_r b32, .unset, .unset, .unset, .unset, .unset] [(.ref a31), (.ref a30), (.ref (own_asp as2 w_Aspect_PROGRAM w_SOURCE w_SUPERCLASS w_INTERFACES w_INTERFACE w_DECLARES_METHOD w_FLAGS w_THROWS w_PROGRAM_METHOD w_FIELD w_CONCRETE_METHOD w_METHODS)), (.ref (own_src sr2 w_Source_PROGRAM w_JDK w_LIBRARY w_UNKNOWN w_NOT_PROGRAM)), (.ref a29), (.ref b36), (.ref b36)])) rfl (by rw [hml]; rfl) (Steps.refl _) (a := b36) (argsL := [(.ref a29), (.ref (own_src sr2 w_Source_PROGRAM w_JDK w_LIBRARY w_UNKNOWN w_NOT_PROGRAM)), (.ref (own_asp as2 w_Aspect_PROGRAM w_SOURCE w_SUPERCLASS w_INTERFACES w_INTERFACE w_DECLARES_METHOD w_FLAGS w_THROWS w_PROGRAM_METHOD w_FIELD w_CONCRETE_METHOD w_METHODS)), (.ref a30), (.ref a31)]) (rest := [(.ref b36)]) (lenOf own_pd9 rfl) rfl own_le (hb hby at_257) (fun _ _ => ⟨rfl, e38, (by decide : 38 + 0 ≤ _), (by decide : 82 + 0 ≤ _)⟩)
  dsimp only [Pt.U, Pt.locs, Pt.cells, Pt.slots] at X39 l39 y39 z39 st39 hQ39
  subst l39 y39 z39
  obtain ⟨h39, e39⟩ : ∃ z, T39.heap = z := ⟨_, rfl⟩
  rw [e39] at hQ39
  obtain ⟨rfl, N39q, KC39, EC39_0, FC39_0, FC39_1, FC39_2, FC39_3, FC39_4⟩ := hQ39
  have KK39 : Keep h0 h39 [] := K36.trans KC39 (allS (Or.inr sz_b36) all0)
  have Z39 : n0 ≤ h39.size := Nat.le_trans Z36 KC39.1
  have CU39 := CHr.keep KC39 (sfS (Safe.exa hZ.alike A36 (by decide) (by decide)) sf0) CH36
  have CR39 := CR36.trans CU39
  have CH39 := CU39.1
  have hk39 := Nat.le_trans hk36 KC39.1
  have N39 := Fr.app N38 N39q
  replace k : ow T39 (mkF m 260 #[.val (.long q1), .second, .val (.long q2), .second, ow_i p3, ow_i p4, .val (.long n1), .second, .val (.long m1), .second, .val (.long r1), .second, .val (.long n2), .second, .val (.long m2), .second, .val (.long r2), .second, ow_i sr1, ow_i as1, ow_i sr2, ow_i as2, ow_i kd, ow_r a26, ow_r a27, ow_r a28, ow_r a29, ow_r a30, ow_r a31, ow_r b32, .unset, .unset, .unset, .unset, .unset] [(.ref b36)]) := fun t q => k t (XS.aload X38.here hx rfl (hb hby at_253) rfl rfl (XS.aload X38.here hx rfl (hb hby at_255) rfl rfl (st39.trans q)))
  clear st39
  replace k : ow T39 (mkF m 265 #[.val (.long q1), .second, .val (.long q2), .second, ow_i p3, ow_i p4, .val (.long n1), .second, .val (.long m1), .second, .val (.long r1), .second, .val (.long n2), .second, .val (.long m2), .second, .val (.long r2), .second, ow_i sr1, ow_i as1, ow_i sr2, ow_i as2, ow_i kd, ow_r a26, ow_r a27, ow_r a28, ow_r a29, ow_r a30, ow_r a31, ow_r b32, ow_r b36, .unset, .unset, .unset, .unset] [(.int 1), (.int kd)]) := fun t q => k t (XS.astore X39.here hx rfl (hb hby at_260) rfl rfl (l' := #[.val (.long q1), .second, .val (.long q2), .second, ow_i p3, ow_i p4, .val (.long n1), .second, .val (.long m1), .second, .val (.long r1), .second, .val (.long n2), .second, .val (.long m2), .second, .val (.long r2), .second, ow_i sr1, ow_i as1, ow_i sr2, ow_i as2, ow_i kd, ow_r a26, ow_r a27, ow_r a28, ow_r a29, ow_r a30, ow_r a31, ow_r b32, ow_r b36, .unset, .unset, .unset, .unset]) rfl (XS.iload X39.here hx rfl (hb hby at_262) rfl (XS.iconst X39.here hx rfl (hb hby at_264) q)))
  by_cases hc40 : kd = (1 : Int32)
  · replace k : ow T39 (mkF m 268 #[.val (.long q1), .second, .val (.long q2), .second, ow_i p3, ow_i p4, .val (.long n1), .second, .val (.long m1), .second, .val (.long r1), .second, .val (.long n2), .second, .val (.long m2), .second, .val (.long r2), .second, ow_i sr1, ow_i as1, ow_i sr2, ow_i as2, ow_i kd, ow_r a26, ow_r a27, ow_r a28, ow_r a29, ow_r a30, ow_r a31, ow_r b32, ow_r b36, .unset, .unset, .unset, .unset] []) := fun t q => k t (XS.icmpNo X39.here hx rfl (hb hby at_265) rfl (teq (show kd = (1 : Int32) from hc40)).2 q)
    replace k : ow T39 (mkF m 272 #[.val (.long q1), .second, .val (.long q2), .second, ow_i p3, ow_i p4, .val (.long n1), .second, .val (.long m1), .second, .val (.long r1), .second, .val (.long n2), .second, .val (.long m2), .second, .val (.long r2), .second, ow_i sr1, ow_i as1, ow_i sr2, ow_i as2, ow_i kd, ow_r a26, ow_r a27, ow_r a28, ow_r a29, ow_r a30, ow_r a31, ow_r b32, ow_r b36, .val .null, .unset, .unset, .unset] [(.int 0)]) := fun t q => k t (XS.aconstNull X39.here hx rfl (hb hby at_268) (XS.astore X39.here hx rfl (hb hby at_269) rfl rfl (l' := #[.val (.long q1), .second, .val (.long q2), .second, ow_i p3, ow_i p4, .val (.long n1), .second, .val (.long m1), .second, .val (.long r1), .second, .val (.long n2), .second, .val (.long m2), .second, .val (.long r2), .second, ow_i sr1, ow_i as1, ow_i sr2, ow_i as2, ow_i kd, ow_r a26, ow_r a27, ow_r a28, ow_r a29, ow_r a30, ow_r a31, ow_r b32, ow_r b36, .val .null, .unset, .unset, .unset]) rfl (XS.iconst X39.here hx rfl (hb hby at_271) q)))
    replace k : ow T39 (mkF m 350 #[.val (.long q1), .second, .val (.long q2), .second, ow_i p3, ow_i p4, .val (.long n1), .second, .val (.long m1), .second, .val (.long r1), .second, .val (.long n2), .second, .val (.long m2), .second, .val (.long r2), .second, ow_i sr1, ow_i as1, ow_i sr2, ow_i as2, ow_i kd, ow_r a26, ow_r a27, ow_r a28, ow_r a29, ow_r a30, ow_r a31, ow_r b32, ow_r b36, .val .null, ow_i 0, .unset, .unset] [(.ref b32)]) := fun t q => k t (XS.istore X39.here hx rfl (hb hby at_272) rfl (l' := #[.val (.long q1), .second, .val (.long q2), .second, ow_i p3, ow_i p4, .val (.long n1), .second, .val (.long m1), .second, .val (.long r1), .second, .val (.long n2), .second, .val (.long m2), .second, .val (.long r2), .second, ow_i sr1, ow_i as1, ow_i sr2, ow_i as2, ow_i kd, ow_r a26, ow_r a27, ow_r a28, ow_r a29, ow_r a30, ow_r a31, ow_r b32, ow_r b36, .val .null, ow_i 0, .unset, .unset]) rfl (XS.goto X39.here hx rfl (pc0 := 274) (pc' := 348) rfl (hb hby at_274) (by decide) (by decide) (XS.aload X39.here hx rfl (hb hby at_348) rfl rfl q)))
    replace k : ow T39 (mkF m 352 #[.val (.long q1), .second, .val (.long q2), .second, ow_i p3, ow_i p4, .val (.long n1), .second, .val (.long m1), .second, .val (.long r1), .second, .val (.long n2), .second, .val (.long m2), .second, .val (.long r2), .second, ow_i sr1, ow_i as1, ow_i sr2, ow_i as2, ow_i kd, ow_r a26, ow_r a27, ow_r a28, ow_r a29, ow_r a30, ow_r a31, ow_r b32, ow_r b36, .val .null, ow_i 0, .unset, .unset] [(.ref b32), (.ref b32)]) := fun t q => k t (XS.aload X39.here hx rfl (hb hby at_350) rfl rfl q)
    obtain ⟨_, T41, L41, X41, hQ41, k⟩ := own_cV X39 hx hw hZ hown e39 k (own_m12_r l Z a0 hw [] b32 b32 (own_src sr1 w_Source_PROGRAM w_JDK w_LIBRARY w_UNKNOWN w_NOT_PROGRAM) (own_src sr1 w_Source_PROGRAM w_JDK w_LIBRARY w_UNKNOWN w_NOT_PROGRAM) (own_asp as1 w_Aspect_PROGRAM w_SOURCE w_SUPERCLASS w_INTERFACES w_INTERFACE w_DECLARES_METHOD w_FLAGS w_THROWS w_PROGRAM_METHOD w_FIELD w_CONCRETE_METHOD w_METHODS) (own_asp as1 w_Aspect_PROGRAM w_SOURCE w_SUPERCLASS w_INTERFACES w_INTERFACE w_DECLARES_METHOD w_FLAGS w_THROWS w_PROGRAM_METHOD w_FIELD w_CONCRETE_METHOD w_METHODS) a26 a26 (own_cs n1) (own_cs n1) w_COMPACT_STRINGS a27 a27 (own_cs m1) (own_cs m1) a28 a28 (own_cs r1) (own_cs r1) h39 n0 Z39 ((EC35_0.ext E36).keep KC39) ((FC35_1.ext E36).keep KC39 (ninS (Nat.ne_of_lt (Nat.lt_of_lt_of_le EC35_0.lt (Nat.le_of_eq g36.symm))) nin0)) ((FC35_1.ext E36).keep KC39 (ninS (Nat.ne_of_lt (Nat.lt_of_lt_of_le EC35_0.lt (Nat.le_of_eq g36.symm))) nin0)) ((FC35_2.ext E36).keep KC39 (ninS (Nat.ne_of_lt (Nat.lt_of_lt_of_le EC35_0.lt (Nat.le_of_eq g36.symm))) nin0)) ((FC35_2.ext E36).keep KC39 (ninS (Nat.ne_of_lt (Nat.lt_of_lt_of_le EC35_0.lt (Nat.le_of_eq g36.symm))) nin0)) ((FC35_0.ext E36).keep KC39 (ninS (Nat.ne_of_lt (Nat.lt_of_lt_of_le EC35_0.lt (Nat.le_of_eq g36.symm))) nin0)) ((FC35_0.ext E36).keep KC39 (ninS (Nat.ne_of_lt (Nat.lt_of_lt_of_le EC35_0.lt (Nat.le_of_eq g36.symm))) nin0)) (((((((((TX26.keep (a0 := a0) KC27 all0).keep (a0 := a0) KC28 all0).keep (a0 := a0) KC29 all0).keep (a0 := a0) KC30 all0).keep (a0 := a0) KC31 all0).ext E32).keep (a0 := a0) KC35 (allS ⟨"com/example/callsite/callsite/bytecode/ClassRead", _, by decide, A32, (own_h hw 36 rfl)⟩ all0)).ext E36).keep (a0 := a0) KC39 (allS ⟨"com/example/callsite/callsite/bytecode/ClassRead", _, by decide, A36, (own_h hw 36 rfl)⟩ all0)) (((((((((TX26.keep (a0 := a0) KC27 all0).keep (a0 := a0) KC28 all0).keep (a0 := a0) KC29 all0).keep (a0 := a0) KC30 all0).keep (a0 := a0) KC31 all0).ext E32).keep (a0 := a0) KC35 (allS ⟨"com/example/callsite/callsite/bytecode/ClassRead", _, by decide, A32, (own_h hw 36 rfl)⟩ all0)).ext E36).keep (a0 := a0) KC39 (allS ⟨"com/example/callsite/callsite/bytecode/ClassRead", _, by decide, A36, (own_h hw 36 rfl)⟩ all0)) (own_sta_keep ((own_sta_keep ((own_sta_keep (own_sta_keep (own_sta_keep (own_sta_keep (own_sta_keep (own_sta_keep S_COMPACT_STRINGS KC26 ns0) KC27 ns0) KC28 ns0) KC29 ns0) KC30 ns0) KC31 ns0).ext E32) KC35 (nsS (Exa.nostat A32) ns0)).ext E36) KC39 (nsS (Exa.nostat A36) ns0)) ((FC35_3.ext E36).keep KC39 (ninS (Nat.ne_of_lt (Nat.lt_of_lt_of_le EC35_0.lt (Nat.le_of_eq g36.symm))) nin0)) ((FC35_3.ext E36).keep KC39 (ninS (Nat.ne_of_lt (Nat.lt_of_lt_of_le EC35_0.lt (Nat.le_of_eq g36.symm))) nin0)) ((((((((TX27.keep (a0 := a0) KC28 all0).keep (a0 := a0) KC29 all0).keep (a0 := a0) KC30 all0).keep (a0 := a0) KC31 all0).ext E32).keep (a0 := a0) KC35 (allS ⟨"com/example/callsite/callsite/bytecode/ClassRead", _, by decide, A32, (own_h hw 36 rfl)⟩ all0)).ext E36).keep (a0 := a0) KC39 (allS ⟨"com/example/callsite/callsite/bytecode/ClassRead", _, by decide, A36, (own_h hw 36 rfl)⟩ all0)) ((((((((TX27.keep (a0 := a0) KC28 all0).keep (a0 := a0) KC29 all0).keep (a0 := a0) KC30 all0).keep (a0 := a0) KC31 all0).ext E32).keep (a0 := a0) KC35 (allS ⟨"com/example/callsite/callsite/bytecode/ClassRead", _, by decide, A32, (own_h hw 36 rfl)⟩ all0)).ext E36).keep (a0 := a0) KC39 (allS ⟨"com/example/callsite/callsite/bytecode/ClassRead", _, by decide, A36, (own_h hw 36 rfl)⟩ all0)) ((FC35_4.ext E36).keep KC39 (ninS (Nat.ne_of_lt (Nat.lt_of_lt_of_le EC35_0.lt (Nat.le_of_eq g36.symm))) nin0)) ((FC35_4.ext E36).keep KC39 (ninS (Nat.ne_of_lt (Nat.lt_of_lt_of_le EC35_0.lt (Nat.le_of_eq g36.symm))) nin0)) (((((((TX28.keep (a0 := a0) KC29 all0).keep (a0 := a0) KC30 all0).keep (a0 := a0) KC31 all0).ext E32).keep (a0 := a0) KC35 (allS ⟨"com/example/callsite/callsite/bytecode/ClassRead", _, by decide, A32, (own_h hw 36 rfl)⟩ all0)).ext E36).keep (a0 := a0) KC39 (allS ⟨"com/example/callsite/callsite/bytecode/ClassRead", _, by decide, A36, (own_h hw 36 rfl)⟩ all0)) (((((((TX28.keep (a0 := a0) KC29 all0).keep (a0 := a0) KC30 all0).keep (a0 := a0) KC31 all0).ext E32).keep (a0 := a0) KC35 (allS ⟨"com/example/callsite/callsite/bytecode/ClassRead", _, by decide, A32, (own_h hw 36 rfl)⟩ all0)).ext E36).keep (a0 := a0) KC39 (allS ⟨"com/example/callsite/callsite/bytecode/ClassRead", _, by decide, A36, (own_h hw 36 rfl)⟩ all0)) hz) 72 73 75 74 76 37 rfl rfl rfl rfl rfl rfl ((EC35_0.ext E36).keep KC39) (by decide) rfl (by rw [hml]; rfl) [(.ref b32)] [] (lenOf own_pd10 rfl) rfl rfl (W := 0) own_le (hb hby at_352) (by decide) (by decide) (by decide) (by decide)
    rw [show own_f12_r (own_src sr1 w_Source_PROGRAM w_JDK w_LIBRARY w_UNKNOWN w_NOT_PROGRAM) (own_src sr1 w_Source_PROGRAM w_JDK w_LIBRARY w_UNKNOWN w_NOT_PROGRAM) (own_asp as1 w_Aspect_PROGRAM w_SOURCE w_SUPERCLASS w_INTERFACES w_INTERFACE w_DECLARES_METHOD w_FLAGS w_THROWS w_PROGRAM_METHOD w_FIELD w_CONCRETE_METHOD w_METHODS) (own_asp as1 w_Aspect_PROGRAM w_SOURCE w_SUPERCLASS w_INTERFACES w_INTERFACE w_DECLARES_METHOD w_FLAGS w_THROWS w_PROGRAM_METHOD w_FIELD w_CONCRETE_METHOD w_METHODS) (own_cs n1) (own_cs n1) (own_cs m1) (own_cs m1) (own_cs r1) (own_cs r1) = (1 : Int32) from by unfold own_f12_r; rw [if_pos (show (own_src sr1 w_Source_PROGRAM w_JDK w_LIBRARY w_UNKNOWN w_NOT_PROGRAM) = (own_src sr1 w_Source_PROGRAM w_JDK w_LIBRARY w_UNKNOWN w_NOT_PROGRAM) from rfl), if_pos (show (own_asp as1 w_Aspect_PROGRAM w_SOURCE w_SUPERCLASS w_INTERFACES w_INTERFACE w_DECLARES_METHOD w_FLAGS w_THROWS w_PROGRAM_METHOD w_FIELD w_CONCRETE_METHOD w_METHODS) = (own_asp as1 w_Aspect_PROGRAM w_SOURCE w_SUPERCLASS w_INTERFACES w_INTERFACE w_DECLARES_METHOD w_FLAGS w_THROWS w_PROGRAM_METHOD w_FIELD w_CONCRETE_METHOD w_METHODS) from rfl), if_pos (show (own_cs n1) = (own_cs n1) from rfl), if_pos (show (own_cs m1) = (own_cs m1) from rfl), if_pos (show (own_cs r1) = (own_cs r1) from rfl)]] at hQ41
    obtain ⟨rfl, N41q, e41⟩ := hQ41
    have N41 := Fr.app N39 N41q
    replace k : ow T41 (mkF m 361 #[.val (.long q1), .second, .val (.long q2), .second, ow_i p3, ow_i p4, .val (.long n1), .second, .val (.long m1), .second, .val (.long r1), .second, .val (.long n2), .second, .val (.long m2), .second, .val (.long r2), .second, ow_i sr1, ow_i as1, ow_i sr2, ow_i as2, ow_i kd, ow_r a26, ow_r a27, ow_r a28, ow_r a29, ow_r a30, ow_r a31, ow_r b32, ow_r b36, .val .null, ow_i 0, ow_i 1, .unset] [.null, (.ref b32)]) := fun t q => k t (XS.istore X41.here hx rfl (hb hby at_355) rfl (l' := #[.val (.long q1), .second, .val (.long q2), .second, ow_i p3, ow_i p4, .val (.long n1), .second, .val (.long m1), .second, .val (.long r1), .second, .val (.long n2), .second, .val (.long m2), .second, .val (.long r2), .second, ow_i sr1, ow_i as1, ow_i sr2, ow_i as2, ow_i kd, ow_r a26, ow_r a27, ow_r a28, ow_r a29, ow_r a30, ow_r a31, ow_r b32, ow_r b36, .val .null, ow_i 0, ow_i 1, .unset]) rfl (XS.aload X41.here hx rfl (hb hby at_357) rfl rfl (XS.aload X41.here hx rfl (hb hby at_359) rfl rfl q)))
    obtain ⟨_, T42, L42, X42, hQ42, k⟩ := own_cV X41 hx hw hZ hown e41 k (own_m12_n l Z a0 hw [] b32 h39 n0 Z39 ) 72 73 75 74 76 37 rfl rfl rfl rfl rfl rfl ((EC35_0.ext E36).keep KC39) (by decide) rfl (by rw [hml]; rfl) [.null] [] (lenOf own_pd10 rfl) rfl rfl (W := 0) own_le (hb hby at_361) (by decide) (by decide) (by decide) (by decide)
    rw [show own_f12_n = (0 : Int32) from rfl] at hQ42
    obtain ⟨rfl, N42q, e42⟩ := hQ42
    have N42 := Fr.app N41 N42q
    replace k : ow T42 (mkF m 371 #[.val (.long q1), .second, .val (.long q2), .second, ow_i p3, ow_i p4, .val (.long n1), .second, .val (.long m1), .second, .val (.long r1), .second, .val (.long n2), .second, .val (.long m2), .second, .val (.long r2), .second, ow_i sr1, ow_i as1, ow_i sr2, ow_i as2, ow_i kd, ow_r a26, ow_r a27, ow_r a28, ow_r a29, ow_r a30, ow_r a31, ow_r b32, ow_r b36, .val .null, ow_i 0, ow_i 1, ow_i 0] []) := fun t q => k t (XS.istore X42.here hx rfl (hb hby at_364) rfl (l' := #[.val (.long q1), .second, .val (.long q2), .second, ow_i p3, ow_i p4, .val (.long n1), .second, .val (.long m1), .second, .val (.long r1), .second, .val (.long n2), .second, .val (.long m2), .second, .val (.long r2), .second, ow_i sr1, ow_i as1, ow_i sr2, ow_i as2, ow_i kd, ow_r a26, ow_r a27, ow_r a28, ow_r a29, ow_r a30, ow_r a31, ow_r b32, ow_r b36, .val .null, ow_i 0, ow_i 1, ow_i 0]) rfl (XS.iload X42.here hx rfl (hb hby at_366) rfl (XS.ifNo X42.here hx rfl (hb hby at_368) rfl ((if0 _ _).trans (feq (show ¬ ((1 : Int32) = (0 : Int32)) from (by decide))).1) q)))
    replace k : ow T42 (mkF m 378 #[.val (.long q1), .second, .val (.long q2), .second, ow_i p3, ow_i p4, .val (.long n1), .second, .val (.long m1), .second, .val (.long r1), .second, .val (.long n2), .second, .val (.long m2), .second, .val (.long r2), .second, ow_i sr1, ow_i as1, ow_i sr2, ow_i as2, ow_i kd, ow_r a26, ow_r a27, ow_r a28, ow_r a29, ow_r a30, ow_r a31, ow_r b32, ow_r b36, .val .null, ow_i 0, ow_i 1, ow_i 0] []) := fun t q => k t (XS.iload X42.here hx rfl (hb hby at_371) rfl (XS.iload X42.here hx rfl (hb hby at_373) rfl (XS.icmpNo X42.here hx rfl (hb hby at_375) rfl (teq (show (0 : Int32) = (0 : Int32) from (by decide))).2 q)))
    replace k : ow T42 (mkF m 383 #[.val (.long q1), .second, .val (.long q2), .second, ow_i p3, ow_i p4, .val (.long n1), .second, .val (.long m1), .second, .val (.long r1), .second, .val (.long n2), .second, .val (.long m2), .second, .val (.long r2), .second, ow_i sr1, ow_i as1, ow_i sr2, ow_i as2, ow_i kd, ow_r a26, ow_r a27, ow_r a28, ow_r a29, ow_r a30, ow_r a31, ow_r b32, ow_r b36, .val .null, ow_i 0, ow_i 1, ow_i 0] [(.int 1)]) := fun t q => k t (XS.iconst X42.here hx rfl (hb hby at_378) (XS.goto X42.here hx rfl (pc0 := 379) (pc' := 383) rfl (hb hby at_379) (by decide) (by decide) q))
    obtain ⟨fs, hr, hrun, hended, hEnd⟩ := X42.leaveW hS31 (by rw [e42]; exact hk39) (v := some (.int 1)) (fun h => by rw [Bd.returns] at h; cases h)
    have hChr := CR39.trans (CHv.at X42 hZ (own_EW hw) CH39)
    refine ⟨_, _, k _ ?_, hrun, hended, _, _, rfl, ?_, ?_, own_monoW hEnd (by decide) (by decide)⟩
    · exact retN X42 hx (t := .boolean) Bd.returns (by simp) (hb hby at_383) hr
    · show own_Q0 n0 _ _
      exact ⟨rfl, N42⟩
    · rw [hh]; show CHr Z consts_1 s.vm h0 T42.vm T42.heap; rw [e42]; exact hChr
  · replace k : ow T39 (mkF m 277 #[.val (.long q1), .second, .val (.long q2), .second, ow_i p3, ow_i p4, .val (.long n1), .second, .val (.long m1), .second, .val (.long r1), .second, .val (.long n2), .second, .val (.long m2), .second, .val (.long r2), .second, ow_i sr1, ow_i as1, ow_i sr2, ow_i as2, ow_i kd, ow_r a26, ow_r a27, ow_r a28, ow_r a29, ow_r a30, ow_r a31, ow_r b32, ow_r b36, .unset, .unset, .unset, .unset] []) := fun t q => k t (XS.icmpYes X39.here hx rfl (pc0 := 265) (pc' := 277) rfl (hb hby at_265) rfl (feq (show ¬ (kd = (1 : Int32)) from hc40)).2 (by decide) (by decide) q)
    by_cases hc43 : kd = (2 : Int32)
    · replace k : ow T39 (mkF m 283 #[.val (.long q1), .second, .val (.long q2), .second, ow_i p3, ow_i p4, .val (.long n1), .second, .val (.long m1), .second, .val (.long r1), .second, .val (.long n2), .second, .val (.long m2), .second, .val (.long r2), .second, ow_i sr1, ow_i as1, ow_i sr2, ow_i as2, ow_i kd, ow_r a26, ow_r a27, ow_r a28, ow_r a29, ow_r a30, ow_r a31, ow_r b32, ow_r b36, .unset, .unset, .unset, .unset] []) := fun t q => k t (XS.iload X39.here hx rfl (hb hby at_277) rfl (XS.iconst X39.here hx rfl (hb hby at_279) (XS.icmpNo X39.here hx rfl (hb hby at_280) rfl (teq (show kd = (2 : Int32) from hc43)).2 q)))
      replace k : ow T39 (mkF m 288 #[.val (.long q1), .second, .val (.long q2), .second, ow_i p3, ow_i p4, .val (.long n1), .second, .val (.long m1), .second, .val (.long r1), .second, .val (.long n2), .second, .val (.long m2), .second, .val (.long r2), .second, ow_i sr1, ow_i as1, ow_i sr2, ow_i as2, ow_i kd, ow_r a26, ow_r a27, ow_r a28, ow_r a29, ow_r a30, ow_r a31, ow_r b32, ow_r b36, ow_r a26, .unset, .unset, .unset] [(.int 0)]) := fun t q => k t (XS.aload X39.here hx rfl (hb hby at_283) rfl rfl (XS.astore X39.here hx rfl (hb hby at_285) rfl rfl (l' := #[.val (.long q1), .second, .val (.long q2), .second, ow_i p3, ow_i p4, .val (.long n1), .second, .val (.long m1), .second, .val (.long r1), .second, .val (.long n2), .second, .val (.long m2), .second, .val (.long r2), .second, ow_i sr1, ow_i as1, ow_i sr2, ow_i as2, ow_i kd, ow_r a26, ow_r a27, ow_r a28, ow_r a29, ow_r a30, ow_r a31, ow_r b32, ow_r b36, ow_r a26, .unset, .unset, .unset]) rfl (XS.iconst X39.here hx rfl (hb hby at_287) q)))
      replace k : ow T39 (mkF m 350 #[.val (.long q1), .second, .val (.long q2), .second, ow_i p3, ow_i p4, .val (.long n1), .second, .val (.long m1), .second, .val (.long r1), .second, .val (.long n2), .second, .val (.long m2), .second, .val (.long r2), .second, ow_i sr1, ow_i as1, ow_i sr2, ow_i as2, ow_i kd, ow_r a26, ow_r a27, ow_r a28, ow_r a29, ow_r a30, ow_r a31, ow_r b32, ow_r b36, ow_r a26, ow_i 0, .unset, .unset] [(.ref b32)]) := fun t q => k t (XS.istore X39.here hx rfl (hb hby at_288) rfl (l' := #[.val (.long q1), .second, .val (.long q2), .second, ow_i p3, ow_i p4, .val (.long n1), .second, .val (.long m1), .second, .val (.long r1), .second, .val (.long n2), .second, .val (.long m2), .second, .val (.long r2), .second, ow_i sr1, ow_i as1, ow_i sr2, ow_i as2, ow_i kd, ow_r a26, ow_r a27, ow_r a28, ow_r a29, ow_r a30, ow_r a31, ow_r b32, ow_r b36, ow_r a26, ow_i 0, .unset, .unset]) rfl (XS.goto X39.here hx rfl (pc0 := 290) (pc' := 348) rfl (hb hby at_290) (by decide) (by decide) (XS.aload X39.here hx rfl (hb hby at_348) rfl rfl q)))
      replace k : ow T39 (mkF m 352 #[.val (.long q1), .second, .val (.long q2), .second, ow_i p3, ow_i p4, .val (.long n1), .second, .val (.long m1), .second, .val (.long r1), .second, .val (.long n2), .second, .val (.long m2), .second, .val (.long r2), .second, ow_i sr1, ow_i as1, ow_i sr2, ow_i as2, ow_i kd, ow_r a26, ow_r a27, ow_r a28, ow_r a29, ow_r a30, ow_r a31, ow_r b32, ow_r b36, ow_r a26, ow_i 0, .unset, .unset] [(.ref b32), (.ref b32)]) := fun t q => k t (XS.aload X39.here hx rfl (hb hby at_350) rfl rfl q)
      obtain ⟨_, T44, L44, X44, hQ44, k⟩ := own_cV X39 hx hw hZ hown e39 k (own_m12_r l Z a0 hw [] b32 b32 (own_src sr1 w_Source_PROGRAM w_JDK w_LIBRARY w_UNKNOWN w_NOT_PROGRAM) (own_src sr1 w_Source_PROGRAM w_JDK w_LIBRARY w_UNKNOWN w_NOT_PROGRAM) (own_asp as1 w_Aspect_PROGRAM w_SOURCE w_SUPERCLASS w_INTERFACES w_INTERFACE w_DECLARES_METHOD w_FLAGS w_THROWS w_PROGRAM_METHOD w_FIELD w_CONCRETE_METHOD w_METHODS) (own_asp as1 w_Aspect_PROGRAM w_SOURCE w_SUPERCLASS w_INTERFACES w_INTERFACE w_DECLARES_METHOD w_FLAGS w_THROWS w_PROGRAM_METHOD w_FIELD w_CONCRETE_METHOD w_METHODS) a26 a26 (own_cs n1) (own_cs n1) w_COMPACT_STRINGS a27 a27 (own_cs m1) (own_cs m1) a28 a28 (own_cs r1) (own_cs r1) h39 n0 Z39 ((EC35_0.ext E36).keep KC39) ((FC35_1.ext E36).keep KC39 (ninS (Nat.ne_of_lt (Nat.lt_of_lt_of_le EC35_0.lt (Nat.le_of_eq g36.symm))) nin0)) ((FC35_1.ext E36).keep KC39 (ninS (Nat.ne_of_lt (Nat.lt_of_lt_of_le EC35_0.lt (Nat.le_of_eq g36.symm))) nin0)) ((FC35_2.ext E36).keep KC39 (ninS (Nat.ne_of_lt (Nat.lt_of_lt_of_le EC35_0.lt (Nat.le_of_eq g36.symm))) nin0)) ((FC35_2.ext E36).keep KC39 (ninS (Nat.ne_of_lt (Nat.lt_of_lt_of_le EC35_0.lt (Nat.le_of_eq g36.symm))) nin0)) ((FC35_0.ext E36).keep KC39 (ninS (Nat.ne_of_lt (Nat.lt_of_lt_of_le EC35_0.lt (Nat.le_of_eq g36.symm))) nin0)) ((FC35_0.ext E36).keep KC39 (ninS (Nat.ne_of_lt (Nat.lt_of_lt_of_le EC35_0.lt (Nat.le_of_eq g36.symm))) nin0)) (((((((((TX26.keep (a0 := a0) KC27 all0).keep (a0 := a0) KC28 all0).keep (a0 := a0) KC29 all0).keep (a0 := a0) KC30 all0).keep (a0 := a0) KC31 all0).ext E32).keep (a0 := a0) KC35 (allS ⟨"com/example/callsite/callsite/bytecode/ClassRead", _, by decide, A32, (own_h hw 36 rfl)⟩ all0)).ext E36).keep (a0 := a0) KC39 (allS ⟨"com/example/callsite/callsite/bytecode/ClassRead", _, by decide, A36, (own_h hw 36 rfl)⟩ all0)) (((((((((TX26.keep (a0 := a0) KC27 all0).keep (a0 := a0) KC28 all0).keep (a0 := a0) KC29 all0).keep (a0 := a0) KC30 all0).keep (a0 := a0) KC31 all0).ext E32).keep (a0 := a0) KC35 (allS ⟨"com/example/callsite/callsite/bytecode/ClassRead", _, by decide, A32, (own_h hw 36 rfl)⟩ all0)).ext E36).keep (a0 := a0) KC39 (allS ⟨"com/example/callsite/callsite/bytecode/ClassRead", _, by decide, A36, (own_h hw 36 rfl)⟩ all0)) (own_sta_keep ((own_sta_keep ((own_sta_keep (own_sta_keep (own_sta_keep (own_sta_keep (own_sta_keep (own_sta_keep S_COMPACT_STRINGS KC26 ns0) KC27 ns0) KC28 ns0) KC29 ns0) KC30 ns0) KC31 ns0).ext E32) KC35 (nsS (Exa.nostat A32) ns0)).ext E36) KC39 (nsS (Exa.nostat A36) ns0)) ((FC35_3.ext E36).keep KC39 (ninS (Nat.ne_of_lt (Nat.lt_of_lt_of_le EC35_0.lt (Nat.le_of_eq g36.symm))) nin0)) ((FC35_3.ext E36).keep KC39 (ninS (Nat.ne_of_lt (Nat.lt_of_lt_of_le EC35_0.lt (Nat.le_of_eq g36.symm))) nin0)) ((((((((TX27.keep (a0 := a0) KC28 all0).keep (a0 := a0) KC29 all0).keep (a0 := a0) KC30 all0).keep (a0 := a0) KC31 all0).ext E32).keep (a0 := a0) KC35 (allS ⟨"com/example/callsite/callsite/bytecode/ClassRead", _, by decide, A32, (own_h hw 36 rfl)⟩ all0)).ext E36).keep (a0 := a0) KC39 (allS ⟨"com/example/callsite/callsite/bytecode/ClassRead", _, by decide, A36, (own_h hw 36 rfl)⟩ all0)) ((((((((TX27.keep (a0 := a0) KC28 all0).keep (a0 := a0) KC29 all0).keep (a0 := a0) KC30 all0).keep (a0 := a0) KC31 all0).ext E32).keep (a0 := a0) KC35 (allS ⟨"com/example/callsite/callsite/bytecode/ClassRead", _, by decide, A32, (own_h hw 36 rfl)⟩ all0)).ext E36).keep (a0 := a0) KC39 (allS ⟨"com/example/callsite/callsite/bytecode/ClassRead", _, by decide, A36, (own_h hw 36 rfl)⟩ all0)) ((FC35_4.ext E36).keep KC39 (ninS (Nat.ne_of_lt (Nat.lt_of_lt_of_le EC35_0.lt (Nat.le_of_eq g36.symm))) nin0)) ((FC35_4.ext E36).keep KC39 (ninS (Nat.ne_of_lt (Nat.lt_of_lt_of_le EC35_0.lt (Nat.le_of_eq g36.symm))) nin0)) (((((((TX28.keep (a0 := a0) KC29 all0).keep (a0 := a0) KC30 all0).keep (a0 := a0) KC31 all0).ext E32).keep (a0 := a0) KC35 (allS ⟨"com/example/callsite/callsite/bytecode/ClassRead", _, by decide, A32, (own_h hw 36 rfl)⟩ all0)).ext E36).keep (a0 := a0) KC39 (allS ⟨"com/example/callsite/callsite/bytecode/ClassRead", _, by decide, A36, (own_h hw 36 rfl)⟩ all0)) (((((((TX28.keep (a0 := a0) KC29 all0).keep (a0 := a0) KC30 all0).keep (a0 := a0) KC31 all0).ext E32).keep (a0 := a0) KC35 (allS ⟨"com/example/callsite/callsite/bytecode/ClassRead", _, by decide, A32, (own_h hw 36 rfl)⟩ all0)).ext E36).keep (a0 := a0) KC39 (allS ⟨"com/example/callsite/callsite/bytecode/ClassRead", _, by decide, A36, (own_h hw 36 rfl)⟩ all0)) hz) 72 73 75 74 76 37 rfl rfl rfl rfl rfl rfl ((EC35_0.ext E36).keep KC39) (by decide) rfl (by rw [hml]; rfl) [(.ref b32)] [] (lenOf own_pd10 rfl) rfl rfl (W := 0) own_le (hb hby at_352) (by decide) (by decide) (by decide) (by decide)
      rw [show own_f12_r (own_src sr1 w_Source_PROGRAM w_JDK w_LIBRARY w_UNKNOWN w_NOT_PROGRAM) (own_src sr1 w_Source_PROGRAM w_JDK w_LIBRARY w_UNKNOWN w_NOT_PROGRAM) (own_asp as1 w_Aspect_PROGRAM w_SOURCE w_SUPERCLASS w_INTERFACES w_INTERFACE w_DECLARES_METHOD w_FLAGS w_THROWS w_PROGRAM_METHOD w_FIELD w_CONCRETE_METHOD w_METHODS) (own_asp as1 w_Aspect_PROGRAM w_SOURCE w_SUPERCLASS w_INTERFACES w_INTERFACE w_DECLARES_METHOD w_FLAGS w_THROWS w_PROGRAM_METHOD w_FIELD w_CONCRETE_METHOD w_METHODS) (own_cs n1) (own_cs n1) (own_cs m1) (own_cs m1) (own_cs r1) (own_cs r1) = (1 : Int32) from by unfold own_f12_r; rw [if_pos (show (own_src sr1 w_Source_PROGRAM w_JDK w_LIBRARY w_UNKNOWN w_NOT_PROGRAM) = (own_src sr1 w_Source_PROGRAM w_JDK w_LIBRARY w_UNKNOWN w_NOT_PROGRAM) from rfl), if_pos (show (own_asp as1 w_Aspect_PROGRAM w_SOURCE w_SUPERCLASS w_INTERFACES w_INTERFACE w_DECLARES_METHOD w_FLAGS w_THROWS w_PROGRAM_METHOD w_FIELD w_CONCRETE_METHOD w_METHODS) = (own_asp as1 w_Aspect_PROGRAM w_SOURCE w_SUPERCLASS w_INTERFACES w_INTERFACE w_DECLARES_METHOD w_FLAGS w_THROWS w_PROGRAM_METHOD w_FIELD w_CONCRETE_METHOD w_METHODS) from rfl), if_pos (show (own_cs n1) = (own_cs n1) from rfl), if_pos (show (own_cs m1) = (own_cs m1) from rfl), if_pos (show (own_cs r1) = (own_cs r1) from rfl)]] at hQ44
      obtain ⟨rfl, N44q, e44⟩ := hQ44
      have N44 := Fr.app N39 N44q
      replace k : ow T44 (mkF m 361 #[.val (.long q1), .second, .val (.long q2), .second, ow_i p3, ow_i p4, .val (.long n1), .second, .val (.long m1), .second, .val (.long r1), .second, .val (.long n2), .second, .val (.long m2), .second, .val (.long r2), .second, ow_i sr1, ow_i as1, ow_i sr2, ow_i as2, ow_i kd, ow_r a26, ow_r a27, ow_r a28, ow_r a29, ow_r a30, ow_r a31, ow_r b32, ow_r b36, ow_r a26, ow_i 0, ow_i 1, .unset] [(.ref a26), (.ref b32)]) := fun t q => k t (XS.istore X44.here hx rfl (hb hby at_355) rfl (l' := #[.val (.long q1), .second, .val (.long q2), .second, ow_i p3, ow_i p4, .val (.long n1), .second, .val (.long m1), .second, .val (.long r1), .second, .val (.long n2), .second, .val (.long m2), .second, .val (.long r2), .second, ow_i sr1, ow_i as1, ow_i sr2, ow_i as2, ow_i kd, ow_r a26, ow_r a27, ow_r a28, ow_r a29, ow_r a30, ow_r a31, ow_r b32, ow_r b36, ow_r a26, ow_i 0, ow_i 1, .unset]) rfl (XS.aload X44.here hx rfl (hb hby at_357) rfl rfl (XS.aload X44.here hx rfl (hb hby at_359) rfl rfl q)))
      obtain ⟨_, T45, L45, X45, hQ45, k⟩ := own_cV X44 hx hw hZ hown e44 k (own_m12_s l Z a0 hw [] b32 a26 h39 n0 Z39 (((((((((EC26.keep KC27).keep KC28).keep KC29).keep KC30).keep KC31).ext E32).keep KC35).ext E36).keep KC39)) 72 73 75 74 76 37 rfl rfl rfl rfl rfl rfl ((EC35_0.ext E36).keep KC39) (by decide) rfl (by rw [hml]; rfl) [(.ref a26)] [] (lenOf own_pd10 rfl) rfl rfl (W := 0) own_le (hb hby at_361) (by decide) (by decide) (by decide) (by decide)
      rw [show own_f12_s = (0 : Int32) from rfl] at hQ45
      obtain ⟨rfl, N45q, e45⟩ := hQ45
      have N45 := Fr.app N44 N45q
      replace k : ow T45 (mkF m 371 #[.val (.long q1), .second, .val (.long q2), .second, ow_i p3, ow_i p4, .val (.long n1), .second, .val (.long m1), .second, .val (.long r1), .second, .val (.long n2), .second, .val (.long m2), .second, .val (.long r2), .second, ow_i sr1, ow_i as1, ow_i sr2, ow_i as2, ow_i kd, ow_r a26, ow_r a27, ow_r a28, ow_r a29, ow_r a30, ow_r a31, ow_r b32, ow_r b36, ow_r a26, ow_i 0, ow_i 1, ow_i 0] []) := fun t q => k t (XS.istore X45.here hx rfl (hb hby at_364) rfl (l' := #[.val (.long q1), .second, .val (.long q2), .second, ow_i p3, ow_i p4, .val (.long n1), .second, .val (.long m1), .second, .val (.long r1), .second, .val (.long n2), .second, .val (.long m2), .second, .val (.long r2), .second, ow_i sr1, ow_i as1, ow_i sr2, ow_i as2, ow_i kd, ow_r a26, ow_r a27, ow_r a28, ow_r a29, ow_r a30, ow_r a31, ow_r b32, ow_r b36, ow_r a26, ow_i 0, ow_i 1, ow_i 0]) rfl (XS.iload X45.here hx rfl (hb hby at_366) rfl (XS.ifNo X45.here hx rfl (hb hby at_368) rfl ((if0 _ _).trans (feq (show ¬ ((1 : Int32) = (0 : Int32)) from (by decide))).1) q)))
      replace k : ow T45 (mkF m 378 #[.val (.long q1), .second, .val (.long q2), .second, ow_i p3, ow_i p4, .val (.long n1), .second, .val (.long m1), .second, .val (.long r1), .second, .val (.long n2), .second, .val (.long m2), .second, .val (.long r2), .second, ow_i sr1, ow_i as1, ow_i sr2, ow_i as2, ow_i kd, ow_r a26, ow_r a27, ow_r a28, ow_r a29, ow_r a30, ow_r a31, ow_r b32, ow_r b36, ow_r a26, ow_i 0, ow_i 1, ow_i 0] []) := fun t q => k t (XS.iload X45.here hx rfl (hb hby at_371) rfl (XS.iload X45.here hx rfl (hb hby at_373) rfl (XS.icmpNo X45.here hx rfl (hb hby at_375) rfl (teq (show (0 : Int32) = (0 : Int32) from (by decide))).2 q)))
      replace k : ow T45 (mkF m 383 #[.val (.long q1), .second, .val (.long q2), .second, ow_i p3, ow_i p4, .val (.long n1), .second, .val (.long m1), .second, .val (.long r1), .second, .val (.long n2), .second, .val (.long m2), .second, .val (.long r2), .second, ow_i sr1, ow_i as1, ow_i sr2, ow_i as2, ow_i kd, ow_r a26, ow_r a27, ow_r a28, ow_r a29, ow_r a30, ow_r a31, ow_r b32, ow_r b36, ow_r a26, ow_i 0, ow_i 1, ow_i 0] [(.int 1)]) := fun t q => k t (XS.iconst X45.here hx rfl (hb hby at_378) (XS.goto X45.here hx rfl (pc0 := 379) (pc' := 383) rfl (hb hby at_379) (by decide) (by decide) q))
      obtain ⟨fs, hr, hrun, hended, hEnd⟩ := X45.leaveW hS31 (by rw [e45]; exact hk39) (v := some (.int 1)) (fun h => by rw [Bd.returns] at h; cases h)
      have hChr := CR39.trans (CHv.at X45 hZ (own_EW hw) CH39)
      refine ⟨_, _, k _ ?_, hrun, hended, _, _, rfl, ?_, ?_, own_monoW hEnd (by decide) (by decide)⟩
      · exact retN X45 hx (t := .boolean) Bd.returns (by simp) (hb hby at_383) hr
      · show own_Q0 n0 _ _
        exact ⟨rfl, N45⟩
      · rw [hh]; show CHr Z consts_1 s.vm h0 T45.vm T45.heap; rw [e45]; exact hChr
    · replace k : ow T39 (mkF m 293 #[.val (.long q1), .second, .val (.long q2), .second, ow_i p3, ow_i p4, .val (.long n1), .second, .val (.long m1), .second, .val (.long r1), .second, .val (.long n2), .second, .val (.long m2), .second, .val (.long r2), .second, ow_i sr1, ow_i as1, ow_i sr2, ow_i as2, ow_i kd, ow_r a26, ow_r a27, ow_r a28, ow_r a29, ow_r a30, ow_r a31, ow_r b32, ow_r b36, .unset, .unset, .unset, .unset] []) := fun t q => k t (XS.iload X39.here hx rfl (hb hby at_277) rfl (XS.iconst X39.here hx rfl (hb hby at_279) (XS.icmpYes X39.here hx rfl (pc0 := 280) (pc' := 293) rfl (hb hby at_280) rfl (feq (show ¬ (kd = (2 : Int32)) from hc43)).2 (by decide) (by decide) q)))
      replace k : ow T39 (mkF m 299 #[.val (.long q1), .second, .val (.long q2), .second, ow_i p3, ow_i p4, .val (.long n1), .second, .val (.long m1), .second, .val (.long r1), .second, .val (.long n2), .second, .val (.long m2), .second, .val (.long r2), .second, ow_i sr1, ow_i as1, ow_i sr2, ow_i as2, ow_i kd, ow_r a26, ow_r a27, ow_r a28, ow_r a29, ow_r a30, ow_r a31, ow_r b32, ow_r b36, ow_r b36, .unset, .unset, .unset] [(.int sr1)]) := fun t q => k t (XS.aload X39.here hx rfl (hb hby at_293) rfl rfl (XS.astore X39.here hx rfl (hb hby at_295) rfl rfl (l' := #[.val (.long q1), .second, .val (.long q2), .second, ow_i p3, ow_i p4, .val (.long n1), .second, .val (.long m1), .second, .val (.long r1), .second, .val (.long n2), .second, .val (.long m2), .second, .val (.long r2), .second, ow_i sr1, ow_i as1, ow_i sr2, ow_i as2, ow_i kd, ow_r a26, ow_r a27, ow_r a28, ow_r a29, ow_r a30, ow_r a31, ow_r b32, ow_r b36, ow_r b36, .unset, .unset, .unset]) rfl (XS.iload X39.here hx rfl (hb hby at_297) rfl q)))
      by_cases hc46 : sr1 = sr2
      · replace k : ow T39 (mkF m 304 #[.val (.long q1), .second, .val (.long q2), .second, ow_i p3, ow_i p4, .val (.long n1), .second, .val (.long m1), .second, .val (.long r1), .second, .val (.long n2), .second, .val (.long m2), .second, .val (.long r2), .second, ow_i sr1, ow_i as1, ow_i sr2, ow_i as2, ow_i kd, ow_r a26, ow_r a27, ow_r a28, ow_r a29, ow_r a30, ow_r a31, ow_r b32, ow_r b36, ow_r b36, .unset, .unset, .unset] []) := fun t q => k t (XS.iload X39.here hx rfl (hb hby at_299) rfl (XS.icmpNo X39.here hx rfl (hb hby at_301) rfl (teq (show sr1 = sr2 from hc46)).2 q))
        by_cases hc47 : as1 = as2
        · replace k : ow T39 (mkF m 311 #[.val (.long q1), .second, .val (.long q2), .second, ow_i p3, ow_i p4, .val (.long n1), .second, .val (.long m1), .second, .val (.long r1), .second, .val (.long n2), .second, .val (.long m2), .second, .val (.long r2), .second, ow_i sr1, ow_i as1, ow_i sr2, ow_i as2, ow_i kd, ow_r a26, ow_r a27, ow_r a28, ow_r a29, ow_r a30, ow_r a31, ow_r b32, ow_r b36, ow_r b36, .unset, .unset, .unset] []) := fun t q => k t (XS.iload X39.here hx rfl (hb hby at_304) rfl (XS.iload X39.here hx rfl (hb hby at_306) rfl (XS.icmpNo X39.here hx rfl (hb hby at_308) rfl (teq (show as1 = as2 from hc47)).2 q)))
          obtain ⟨_, _, ⟨T48, L48, k48, n48⟩, -, X48, ⟨Lc48, hQ48, l48, y48, z48⟩, st48⟩ := Jvm.LawKit.callS X39 hx (y := own_y11) hown (mvT hZ (own_h hw 69 rfl)) (mvT hZ (own_h hw 70 rfl)) (mvT hZ (own_h hw 3 rfl)) (mvT hZ (own_h hw 71 rfl)) (by decide) (backOf (W := 0) (own_m11 l Z a0 hw [] n1 n2 h39 n0 Z39 ) hZ (own_h hw 71 rfl) (own_h hw 3 rfl) (by decide) (by decide)) (g := (mkF m 315 #[.val (.long q1), .second, .val (.long q2), .second, ow_i p3, ow_i p4, .val (.long n1), .second, .val (.long m1), .second, .val (.long r1), .second, .val (.long n2), .second, .val (.long m2), .second, .val (.long r2), .second, ow_i sr1, ow_i as1, ow_i sr2, ow_i as2, ow_i kd, ow_r a26, ow_r a27, ow_r a28, ow_r a29, ow_r a30, ow_r a31, ow_r b32, ow_r b36, ow_r b36, .unset, .unset, .unset] [(.long n2), (.long n1)])) rfl (by rw [hml]; rfl) (argsL := [(.long n1), (.long n2)]) (rest := []) (lenOf own_pd11 rfl) rfl own_le (hb hby at_315) (fun _ _ => ⟨rfl, e39, (by decide : 38 + 0 ≤ _), (by decide : 82 + 0 ≤ _)⟩)
          dsimp only [Pt.U, Pt.locs, Pt.cells, Pt.slots] at X48 l48 y48 z48 st48 hQ48
          subst l48 y48 z48
          obtain ⟨rfl, N48q, e48⟩ := hQ48
          have N48 := Fr.app N39 N48q
          replace k : ow T48 (mkF m 318 #[.val (.long q1), .second, .val (.long q2), .second, ow_i p3, ow_i p4, .val (.long n1), .second, .val (.long m1), .second, .val (.long r1), .second, .val (.long n2), .second, .val (.long m2), .second, .val (.long r2), .second, ow_i sr1, ow_i as1, ow_i sr2, ow_i as2, ow_i kd, ow_r a26, ow_r a27, ow_r a28, ow_r a29, ow_r a30, ow_r a31, ow_r b32, ow_r b36, ow_r b36, .unset, .unset, .unset] [(.int (own_same n1 n2))]) := fun t q => k t (XS.lload X39.here hx rfl (hb hby at_311) rfl (XS.lload X39.here hx rfl (hb hby at_313) rfl (st48 t q)))
          clear st48
          by_cases hc49 : (own_same n1 n2) = (0 : Int32)
          · replace k : ow T48 (mkF m 345 #[.val (.long q1), .second, .val (.long q2), .second, ow_i p3, ow_i p4, .val (.long n1), .second, .val (.long m1), .second, .val (.long r1), .second, .val (.long n2), .second, .val (.long m2), .second, .val (.long r2), .second, ow_i sr1, ow_i as1, ow_i sr2, ow_i as2, ow_i kd, ow_r a26, ow_r a27, ow_r a28, ow_r a29, ow_r a30, ow_r a31, ow_r b32, ow_r b36, ow_r b36, .unset, .unset, .unset] []) := fun t q => k t (XS.ifYes X48.here hx rfl (pc0 := 318) (pc' := 345) rfl (hb hby at_318) rfl ((if0 _ _).trans (teq (show (own_same n1 n2) = (0 : Int32) from hc49)).1) (by decide) (by decide) q)
            replace k : ow T48 (mkF m 350 #[.val (.long q1), .second, .val (.long q2), .second, ow_i p3, ow_i p4, .val (.long n1), .second, .val (.long m1), .second, .val (.long r1), .second, .val (.long n2), .second, .val (.long m2), .second, .val (.long r2), .second, ow_i sr1, ow_i as1, ow_i sr2, ow_i as2, ow_i kd, ow_r a26, ow_r a27, ow_r a28, ow_r a29, ow_r a30, ow_r a31, ow_r b32, ow_r b36, ow_r b36, ow_i 0, .unset, .unset] [(.ref b32)]) := fun t q => k t (XS.iconst X48.here hx rfl (hb hby at_345) (XS.istore X48.here hx rfl (hb hby at_346) rfl (l' := #[.val (.long q1), .second, .val (.long q2), .second, ow_i p3, ow_i p4, .val (.long n1), .second, .val (.long m1), .second, .val (.long r1), .second, .val (.long n2), .second, .val (.long m2), .second, .val (.long r2), .second, ow_i sr1, ow_i as1, ow_i sr2, ow_i as2, ow_i kd, ow_r a26, ow_r a27, ow_r a28, ow_r a29, ow_r a30, ow_r a31, ow_r b32, ow_r b36, ow_r b36, ow_i 0, .unset, .unset]) rfl (XS.aload X48.here hx rfl (hb hby at_348) rfl rfl q)))
            replace k : ow T48 (mkF m 352 #[.val (.long q1), .second, .val (.long q2), .second, ow_i p3, ow_i p4, .val (.long n1), .second, .val (.long m1), .second, .val (.long r1), .second, .val (.long n2), .second, .val (.long m2), .second, .val (.long r2), .second, ow_i sr1, ow_i as1, ow_i sr2, ow_i as2, ow_i kd, ow_r a26, ow_r a27, ow_r a28, ow_r a29, ow_r a30, ow_r a31, ow_r b32, ow_r b36, ow_r b36, ow_i 0, .unset, .unset] [(.ref b32), (.ref b32)]) := fun t q => k t (XS.aload X48.here hx rfl (hb hby at_350) rfl rfl q)
            obtain ⟨_, T50, L50, X50, hQ50, k⟩ := own_cV X48 hx hw hZ hown e48 k (own_m12_r l Z a0 hw [] b32 b32 (own_src sr1 w_Source_PROGRAM w_JDK w_LIBRARY w_UNKNOWN w_NOT_PROGRAM) (own_src sr1 w_Source_PROGRAM w_JDK w_LIBRARY w_UNKNOWN w_NOT_PROGRAM) (own_asp as1 w_Aspect_PROGRAM w_SOURCE w_SUPERCLASS w_INTERFACES w_INTERFACE w_DECLARES_METHOD w_FLAGS w_THROWS w_PROGRAM_METHOD w_FIELD w_CONCRETE_METHOD w_METHODS) (own_asp as1 w_Aspect_PROGRAM w_SOURCE w_SUPERCLASS w_INTERFACES w_INTERFACE w_DECLARES_METHOD w_FLAGS w_THROWS w_PROGRAM_METHOD w_FIELD w_CONCRETE_METHOD w_METHODS) a26 a26 (own_cs n1) (own_cs n1) w_COMPACT_STRINGS a27 a27 (own_cs m1) (own_cs m1) a28 a28 (own_cs r1) (own_cs r1) h39 n0 Z39 ((EC35_0.ext E36).keep KC39) ((FC35_1.ext E36).keep KC39 (ninS (Nat.ne_of_lt (Nat.lt_of_lt_of_le EC35_0.lt (Nat.le_of_eq g36.symm))) nin0)) ((FC35_1.ext E36).keep KC39 (ninS (Nat.ne_of_lt (Nat.lt_of_lt_of_le EC35_0.lt (Nat.le_of_eq g36.symm))) nin0)) ((FC35_2.ext E36).keep KC39 (ninS (Nat.ne_of_lt (Nat.lt_of_lt_of_le EC35_0.lt (Nat.le_of_eq g36.symm))) nin0)) ((FC35_2.ext E36).keep KC39 (ninS (Nat.ne_of_lt (Nat.lt_of_lt_of_le EC35_0.lt (Nat.le_of_eq g36.symm))) nin0)) ((FC35_0.ext E36).keep KC39 (ninS (Nat.ne_of_lt (Nat.lt_of_lt_of_le EC35_0.lt (Nat.le_of_eq g36.symm))) nin0)) ((FC35_0.ext E36).keep KC39 (ninS (Nat.ne_of_lt (Nat.lt_of_lt_of_le EC35_0.lt (Nat.le_of_eq g36.symm))) nin0)) (((((((((TX26.keep (a0 := a0) KC27 all0).keep (a0 := a0) KC28 all0).keep (a0 := a0) KC29 all0).keep (a0 := a0) KC30 all0).keep (a0 := a0) KC31 all0).ext E32).keep (a0 := a0) KC35 (allS ⟨"com/example/callsite/callsite/bytecode/ClassRead", _, by decide, A32, (own_h hw 36 rfl)⟩ all0)).ext E36).keep (a0 := a0) KC39 (allS ⟨"com/example/callsite/callsite/bytecode/ClassRead", _, by decide, A36, (own_h hw 36 rfl)⟩ all0)) (((((((((TX26.keep (a0 := a0) KC27 all0).keep (a0 := a0) KC28 all0).keep (a0 := a0) KC29 all0).keep (a0 := a0) KC30 all0).keep (a0 := a0) KC31 all0).ext E32).keep (a0 := a0) KC35 (allS ⟨"com/example/callsite/callsite/bytecode/ClassRead", _, by decide, A32, (own_h hw 36 rfl)⟩ all0)).ext E36).keep (a0 := a0) KC39 (allS ⟨"com/example/callsite/callsite/bytecode/ClassRead", _, by decide, A36, (own_h hw 36 rfl)⟩ all0)) (own_sta_keep ((own_sta_keep ((own_sta_keep (own_sta_keep (own_sta_keep (own_sta_keep (own_sta_keep (own_sta_keep S_COMPACT_STRINGS KC26 ns0) KC27 ns0) KC28 ns0) KC29 ns0) KC30 ns0) KC31 ns0).ext E32) KC35 (nsS (Exa.nostat A32) ns0)).ext E36) KC39 (nsS (Exa.nostat A36) ns0)) ((FC35_3.ext E36).keep KC39 (ninS (Nat.ne_of_lt (Nat.lt_of_lt_of_le EC35_0.lt (Nat.le_of_eq g36.symm))) nin0)) ((FC35_3.ext E36).keep KC39 (ninS (Nat.ne_of_lt (Nat.lt_of_lt_of_le EC35_0.lt (Nat.le_of_eq g36.symm))) nin0)) ((((((((TX27.keep (a0 := a0) KC28 all0).keep (a0 := a0) KC29 all0).keep (a0 := a0) KC30 all0).keep (a0 := a0) KC31 all0).ext E32).keep (a0 := a0) KC35 (allS ⟨"com/example/callsite/callsite/bytecode/ClassRead", _, by decide, A32, (own_h hw 36 rfl)⟩ all0)).ext E36).keep (a0 := a0) KC39 (allS ⟨"com/example/callsite/callsite/bytecode/ClassRead", _, by decide, A36, (own_h hw 36 rfl)⟩ all0)) ((((((((TX27.keep (a0 := a0) KC28 all0).keep (a0 := a0) KC29 all0).keep (a0 := a0) KC30 all0).keep (a0 := a0) KC31 all0).ext E32).keep (a0 := a0) KC35 (allS ⟨"com/example/callsite/callsite/bytecode/ClassRead", _, by decide, A32, (own_h hw 36 rfl)⟩ all0)).ext E36).keep (a0 := a0) KC39 (allS ⟨"com/example/callsite/callsite/bytecode/ClassRead", _, by decide, A36, (own_h hw 36 rfl)⟩ all0)) ((FC35_4.ext E36).keep KC39 (ninS (Nat.ne_of_lt (Nat.lt_of_lt_of_le EC35_0.lt (Nat.le_of_eq g36.symm))) nin0)) ((FC35_4.ext E36).keep KC39 (ninS (Nat.ne_of_lt (Nat.lt_of_lt_of_le EC35_0.lt (Nat.le_of_eq g36.symm))) nin0)) (((((((TX28.keep (a0 := a0) KC29 all0).keep (a0 := a0) KC30 all0).keep (a0 := a0) KC31 all0).ext E32).keep (a0 := a0) KC35 (allS ⟨"com/example/callsite/callsite/bytecode/ClassRead", _, by decide, A32, (own_h hw 36 rfl)⟩ all0)).ext E36).keep (a0 := a0) KC39 (allS ⟨"com/example/callsite/callsite/bytecode/ClassRead", _, by decide, A36, (own_h hw 36 rfl)⟩ all0)) (((((((TX28.keep (a0 := a0) KC29 all0).keep (a0 := a0) KC30 all0).keep (a0 := a0) KC31 all0).ext E32).keep (a0 := a0) KC35 (allS ⟨"com/example/callsite/callsite/bytecode/ClassRead", _, by decide, A32, (own_h hw 36 rfl)⟩ all0)).ext E36).keep (a0 := a0) KC39 (allS ⟨"com/example/callsite/callsite/bytecode/ClassRead", _, by decide, A36, (own_h hw 36 rfl)⟩ all0)) hz) 72 73 75 74 76 37 rfl rfl rfl rfl rfl rfl ((EC35_0.ext E36).keep KC39) (by decide) rfl (by rw [hml]; rfl) [(.ref b32)] [] (lenOf own_pd10 rfl) rfl rfl (W := 0) own_le (hb hby at_352) (by decide) (by decide) (by decide) (by decide)
            rw [show own_f12_r (own_src sr1 w_Source_PROGRAM w_JDK w_LIBRARY w_UNKNOWN w_NOT_PROGRAM) (own_src sr1 w_Source_PROGRAM w_JDK w_LIBRARY w_UNKNOWN w_NOT_PROGRAM) (own_asp as1 w_Aspect_PROGRAM w_SOURCE w_SUPERCLASS w_INTERFACES w_INTERFACE w_DECLARES_METHOD w_FLAGS w_THROWS w_PROGRAM_METHOD w_FIELD w_CONCRETE_METHOD w_METHODS) (own_asp as1 w_Aspect_PROGRAM w_SOURCE w_SUPERCLASS w_INTERFACES w_INTERFACE w_DECLARES_METHOD w_FLAGS w_THROWS w_PROGRAM_METHOD w_FIELD w_CONCRETE_METHOD w_METHODS) (own_cs n1) (own_cs n1) (own_cs m1) (own_cs m1) (own_cs r1) (own_cs r1) = (1 : Int32) from by unfold own_f12_r; rw [if_pos (show (own_src sr1 w_Source_PROGRAM w_JDK w_LIBRARY w_UNKNOWN w_NOT_PROGRAM) = (own_src sr1 w_Source_PROGRAM w_JDK w_LIBRARY w_UNKNOWN w_NOT_PROGRAM) from rfl), if_pos (show (own_asp as1 w_Aspect_PROGRAM w_SOURCE w_SUPERCLASS w_INTERFACES w_INTERFACE w_DECLARES_METHOD w_FLAGS w_THROWS w_PROGRAM_METHOD w_FIELD w_CONCRETE_METHOD w_METHODS) = (own_asp as1 w_Aspect_PROGRAM w_SOURCE w_SUPERCLASS w_INTERFACES w_INTERFACE w_DECLARES_METHOD w_FLAGS w_THROWS w_PROGRAM_METHOD w_FIELD w_CONCRETE_METHOD w_METHODS) from rfl), if_pos (show (own_cs n1) = (own_cs n1) from rfl), if_pos (show (own_cs m1) = (own_cs m1) from rfl), if_pos (show (own_cs r1) = (own_cs r1) from rfl)]] at hQ50
            obtain ⟨rfl, N50q, e50⟩ := hQ50
            have N50 := Fr.app N48 N50q
            replace k : ow T50 (mkF m 361 #[.val (.long q1), .second, .val (.long q2), .second, ow_i p3, ow_i p4, .val (.long n1), .second, .val (.long m1), .second, .val (.long r1), .second, .val (.long n2), .second, .val (.long m2), .second, .val (.long r2), .second, ow_i sr1, ow_i as1, ow_i sr2, ow_i as2, ow_i kd, ow_r a26, ow_r a27, ow_r a28, ow_r a29, ow_r a30, ow_r a31, ow_r b32, ow_r b36, ow_r b36, ow_i 0, ow_i 1, .unset] [(.ref b36), (.ref b32)]) := fun t q => k t (XS.istore X50.here hx rfl (hb hby at_355) rfl (l' := #[.val (.long q1), .second, .val (.long q2), .second, ow_i p3, ow_i p4, .val (.long n1), .second, .val (.long m1), .second, .val (.long r1), .second, .val (.long n2), .second, .val (.long m2), .second, .val (.long r2), .second, ow_i sr1, ow_i as1, ow_i sr2, ow_i as2, ow_i kd, ow_r a26, ow_r a27, ow_r a28, ow_r a29, ow_r a30, ow_r a31, ow_r b32, ow_r b36, ow_r b36, ow_i 0, ow_i 1, .unset]) rfl (XS.aload X50.here hx rfl (hb hby at_357) rfl rfl (XS.aload X50.here hx rfl (hb hby at_359) rfl rfl q)))
            obtain ⟨_, T51, L51, X51, hQ51, k⟩ := own_cV X50 hx hw hZ hown e50 k (own_m12_r l Z a0 hw [] b32 b36 (own_src sr1 w_Source_PROGRAM w_JDK w_LIBRARY w_UNKNOWN w_NOT_PROGRAM) (own_src sr2 w_Source_PROGRAM w_JDK w_LIBRARY w_UNKNOWN w_NOT_PROGRAM) (own_asp as1 w_Aspect_PROGRAM w_SOURCE w_SUPERCLASS w_INTERFACES w_INTERFACE w_DECLARES_METHOD w_FLAGS w_THROWS w_PROGRAM_METHOD w_FIELD w_CONCRETE_METHOD w_METHODS) (own_asp as2 w_Aspect_PROGRAM w_SOURCE w_SUPERCLASS w_INTERFACES w_INTERFACE w_DECLARES_METHOD w_FLAGS w_THROWS w_PROGRAM_METHOD w_FIELD w_CONCRETE_METHOD w_METHODS) a26 a29 (own_cs n1) (own_cs n2) w_COMPACT_STRINGS a27 a30 (own_cs m1) (own_cs m2) a28 a31 (own_cs r1) (own_cs r2) h39 n0 Z39 EC39_0 ((FC35_1.ext E36).keep KC39 (ninS (Nat.ne_of_lt (Nat.lt_of_lt_of_le EC35_0.lt (Nat.le_of_eq g36.symm))) nin0)) FC39_1 ((FC35_2.ext E36).keep KC39 (ninS (Nat.ne_of_lt (Nat.lt_of_lt_of_le EC35_0.lt (Nat.le_of_eq g36.symm))) nin0)) FC39_2 ((FC35_0.ext E36).keep KC39 (ninS (Nat.ne_of_lt (Nat.lt_of_lt_of_le EC35_0.lt (Nat.le_of_eq g36.symm))) nin0)) FC39_0 (((((((((TX26.keep (a0 := a0) KC27 all0).keep (a0 := a0) KC28 all0).keep (a0 := a0) KC29 all0).keep (a0 := a0) KC30 all0).keep (a0 := a0) KC31 all0).ext E32).keep (a0 := a0) KC35 (allS ⟨"com/example/callsite/callsite/bytecode/ClassRead", _, by decide, A32, (own_h hw 36 rfl)⟩ all0)).ext E36).keep (a0 := a0) KC39 (allS ⟨"com/example/callsite/callsite/bytecode/ClassRead", _, by decide, A36, (own_h hw 36 rfl)⟩ all0)) ((((((TX29.keep (a0 := a0) KC30 all0).keep (a0 := a0) KC31 all0).ext E32).keep (a0 := a0) KC35 (allS ⟨"com/example/callsite/callsite/bytecode/ClassRead", _, by decide, A32, (own_h hw 36 rfl)⟩ all0)).ext E36).keep (a0 := a0) KC39 (allS ⟨"com/example/callsite/callsite/bytecode/ClassRead", _, by decide, A36, (own_h hw 36 rfl)⟩ all0)) (own_sta_keep ((own_sta_keep ((own_sta_keep (own_sta_keep (own_sta_keep (own_sta_keep (own_sta_keep (own_sta_keep S_COMPACT_STRINGS KC26 ns0) KC27 ns0) KC28 ns0) KC29 ns0) KC30 ns0) KC31 ns0).ext E32) KC35 (nsS (Exa.nostat A32) ns0)).ext E36) KC39 (nsS (Exa.nostat A36) ns0)) ((FC35_3.ext E36).keep KC39 (ninS (Nat.ne_of_lt (Nat.lt_of_lt_of_le EC35_0.lt (Nat.le_of_eq g36.symm))) nin0)) FC39_3 ((((((((TX27.keep (a0 := a0) KC28 all0).keep (a0 := a0) KC29 all0).keep (a0 := a0) KC30 all0).keep (a0 := a0) KC31 all0).ext E32).keep (a0 := a0) KC35 (allS ⟨"com/example/callsite/callsite/bytecode/ClassRead", _, by decide, A32, (own_h hw 36 rfl)⟩ all0)).ext E36).keep (a0 := a0) KC39 (allS ⟨"com/example/callsite/callsite/bytecode/ClassRead", _, by decide, A36, (own_h hw 36 rfl)⟩ all0)) (((((TX30.keep (a0 := a0) KC31 all0).ext E32).keep (a0 := a0) KC35 (allS ⟨"com/example/callsite/callsite/bytecode/ClassRead", _, by decide, A32, (own_h hw 36 rfl)⟩ all0)).ext E36).keep (a0 := a0) KC39 (allS ⟨"com/example/callsite/callsite/bytecode/ClassRead", _, by decide, A36, (own_h hw 36 rfl)⟩ all0)) ((FC35_4.ext E36).keep KC39 (ninS (Nat.ne_of_lt (Nat.lt_of_lt_of_le EC35_0.lt (Nat.le_of_eq g36.symm))) nin0)) FC39_4 (((((((TX28.keep (a0 := a0) KC29 all0).keep (a0 := a0) KC30 all0).keep (a0 := a0) KC31 all0).ext E32).keep (a0 := a0) KC35 (allS ⟨"com/example/callsite/callsite/bytecode/ClassRead", _, by decide, A32, (own_h hw 36 rfl)⟩ all0)).ext E36).keep (a0 := a0) KC39 (allS ⟨"com/example/callsite/callsite/bytecode/ClassRead", _, by decide, A36, (own_h hw 36 rfl)⟩ all0)) ((((TX31.ext E32).keep (a0 := a0) KC35 (allS ⟨"com/example/callsite/callsite/bytecode/ClassRead", _, by decide, A32, (own_h hw 36 rfl)⟩ all0)).ext E36).keep (a0 := a0) KC39 (allS ⟨"com/example/callsite/callsite/bytecode/ClassRead", _, by decide, A36, (own_h hw 36 rfl)⟩ all0)) hz) 72 73 75 74 76 37 rfl rfl rfl rfl rfl rfl ((EC35_0.ext E36).keep KC39) (by decide) rfl (by rw [hml]; rfl) [(.ref b36)] [] (lenOf own_pd10 rfl) rfl rfl (W := 0) own_le (hb hby at_361) (by decide) (by decide) (by decide) (by decide)
            rw [show own_f12_r (own_src sr1 w_Source_PROGRAM w_JDK w_LIBRARY w_UNKNOWN w_NOT_PROGRAM) (own_src sr2 w_Source_PROGRAM w_JDK w_LIBRARY w_UNKNOWN w_NOT_PROGRAM) (own_asp as1 w_Aspect_PROGRAM w_SOURCE w_SUPERCLASS w_INTERFACES w_INTERFACE w_DECLARES_METHOD w_FLAGS w_THROWS w_PROGRAM_METHOD w_FIELD w_CONCRETE_METHOD w_METHODS) (own_asp as2 w_Aspect_PROGRAM w_SOURCE w_SUPERCLASS w_INTERFACES w_INTERFACE w_DECLARES_METHOD w_FLAGS w_THROWS w_PROGRAM_METHOD w_FIELD w_CONCRETE_METHOD w_METHODS) (own_cs n1) (own_cs n2) (own_cs m1) (own_cs m2) (own_cs r1) (own_cs r2) = (0 : Int32) from by unfold own_f12_r; rw [if_pos (show (own_src sr1 w_Source_PROGRAM w_JDK w_LIBRARY w_UNKNOWN w_NOT_PROGRAM) = (own_src sr2 w_Source_PROGRAM w_JDK w_LIBRARY w_UNKNOWN w_NOT_PROGRAM) from (by rw [hc46])), if_pos (show (own_asp as1 w_Aspect_PROGRAM w_SOURCE w_SUPERCLASS w_INTERFACES w_INTERFACE w_DECLARES_METHOD w_FLAGS w_THROWS w_PROGRAM_METHOD w_FIELD w_CONCRETE_METHOD w_METHODS) = (own_asp as2 w_Aspect_PROGRAM w_SOURCE w_SUPERCLASS w_INTERFACES w_INTERFACE w_DECLARES_METHOD w_FLAGS w_THROWS w_PROGRAM_METHOD w_FIELD w_CONCRETE_METHOD w_METHODS) from (by rw [hc47])), if_neg (show ¬ ((own_cs n1) = (own_cs n2)) from (own_same_ne _ _ hc49))]] at hQ51
            obtain ⟨rfl, N51q, e51⟩ := hQ51
            have N51 := Fr.app N50 N51q
            replace k : ow T51 (mkF m 371 #[.val (.long q1), .second, .val (.long q2), .second, ow_i p3, ow_i p4, .val (.long n1), .second, .val (.long m1), .second, .val (.long r1), .second, .val (.long n2), .second, .val (.long m2), .second, .val (.long r2), .second, ow_i sr1, ow_i as1, ow_i sr2, ow_i as2, ow_i kd, ow_r a26, ow_r a27, ow_r a28, ow_r a29, ow_r a30, ow_r a31, ow_r b32, ow_r b36, ow_r b36, ow_i 0, ow_i 1, ow_i 0] []) := fun t q => k t (XS.istore X51.here hx rfl (hb hby at_364) rfl (l' := #[.val (.long q1), .second, .val (.long q2), .second, ow_i p3, ow_i p4, .val (.long n1), .second, .val (.long m1), .second, .val (.long r1), .second, .val (.long n2), .second, .val (.long m2), .second, .val (.long r2), .second, ow_i sr1, ow_i as1, ow_i sr2, ow_i as2, ow_i kd, ow_r a26, ow_r a27, ow_r a28, ow_r a29, ow_r a30, ow_r a31, ow_r b32, ow_r b36, ow_r b36, ow_i 0, ow_i 1, ow_i 0]) rfl (XS.iload X51.here hx rfl (hb hby at_366) rfl (XS.ifNo X51.here hx rfl (hb hby at_368) rfl ((if0 _ _).trans (feq (show ¬ ((1 : Int32) = (0 : Int32)) from (by decide))).1) q)))
            replace k : ow T51 (mkF m 378 #[.val (.long q1), .second, .val (.long q2), .second, ow_i p3, ow_i p4, .val (.long n1), .second, .val (.long m1), .second, .val (.long r1), .second, .val (.long n2), .second, .val (.long m2), .second, .val (.long r2), .second, ow_i sr1, ow_i as1, ow_i sr2, ow_i as2, ow_i kd, ow_r a26, ow_r a27, ow_r a28, ow_r a29, ow_r a30, ow_r a31, ow_r b32, ow_r b36, ow_r b36, ow_i 0, ow_i 1, ow_i 0] []) := fun t q => k t (XS.iload X51.here hx rfl (hb hby at_371) rfl (XS.iload X51.here hx rfl (hb hby at_373) rfl (XS.icmpNo X51.here hx rfl (hb hby at_375) rfl (teq (show (0 : Int32) = (0 : Int32) from (by decide))).2 q)))
            replace k : ow T51 (mkF m 383 #[.val (.long q1), .second, .val (.long q2), .second, ow_i p3, ow_i p4, .val (.long n1), .second, .val (.long m1), .second, .val (.long r1), .second, .val (.long n2), .second, .val (.long m2), .second, .val (.long r2), .second, ow_i sr1, ow_i as1, ow_i sr2, ow_i as2, ow_i kd, ow_r a26, ow_r a27, ow_r a28, ow_r a29, ow_r a30, ow_r a31, ow_r b32, ow_r b36, ow_r b36, ow_i 0, ow_i 1, ow_i 0] [(.int 1)]) := fun t q => k t (XS.iconst X51.here hx rfl (hb hby at_378) (XS.goto X51.here hx rfl (pc0 := 379) (pc' := 383) rfl (hb hby at_379) (by decide) (by decide) q))
            obtain ⟨fs, hr, hrun, hended, hEnd⟩ := X51.leaveW hS31 (by rw [e51]; exact hk39) (v := some (.int 1)) (fun h => by rw [Bd.returns] at h; cases h)
            have hChr := CR39.trans (CHv.at X51 hZ (own_EW hw) CH39)
            refine ⟨_, _, k _ ?_, hrun, hended, _, _, rfl, ?_, ?_, own_monoW hEnd (by decide) (by decide)⟩
            · exact retN X51 hx (t := .boolean) Bd.returns (by simp) (hb hby at_383) hr
            · show own_Q0 n0 _ _
              exact ⟨rfl, N51⟩
            · rw [hh]; show CHr Z consts_1 s.vm h0 T51.vm T51.heap; rw [e51]; exact hChr
          · replace k : ow T48 (mkF m 321 #[.val (.long q1), .second, .val (.long q2), .second, ow_i p3, ow_i p4, .val (.long n1), .second, .val (.long m1), .second, .val (.long r1), .second, .val (.long n2), .second, .val (.long m2), .second, .val (.long r2), .second, ow_i sr1, ow_i as1, ow_i sr2, ow_i as2, ow_i kd, ow_r a26, ow_r a27, ow_r a28, ow_r a29, ow_r a30, ow_r a31, ow_r b32, ow_r b36, ow_r b36, .unset, .unset, .unset] []) := fun t q => k t (XS.ifNo X48.here hx rfl (hb hby at_318) rfl ((if0 _ _).trans (feq (show ¬ ((own_same n1 n2) = (0 : Int32)) from hc49)).1) q)
            obtain ⟨_, _, ⟨T52, L52, k52, n52⟩, -, X52, ⟨Lc52, hQ52, l52, y52, z52⟩, st52⟩ := Jvm.LawKit.callS X48 hx (y := own_y11) hown (mvT hZ (own_h hw 69 rfl)) (mvT hZ (own_h hw 70 rfl)) (mvT hZ (own_h hw 3 rfl)) (mvT hZ (own_h hw 71 rfl)) (by decide) (backOf (W := 0) (own_m11 l Z a0 hw [] m1 m2 h39 n0 Z39 ) hZ (own_h hw 71 rfl) (own_h hw 3 rfl) (by decide) (by decide)) (g := (mkF m 325 #[.val (.long q1), .second, .val (.long q2), .second, ow_i p3, ow_i p4, .val (.long n1), .second, .val (.long m1), .second, .val (.long r1), .second, .val (.long n2), .second, .val (.long m2), .second, .val (.long r2), .second, ow_i sr1, ow_i as1, ow_i sr2, ow_i as2, ow_i kd, ow_r a26, ow_r a27, ow_r a28, ow_r a29, ow_r a30, ow_r a31, ow_r b32, ow_r b36, ow_r b36, .unset, .unset, .unset] [(.long m2), (.long m1)])) rfl (by rw [hml]; rfl) (argsL := [(.long m1), (.long m2)]) (rest := []) (lenOf own_pd11 rfl) rfl own_le (hb hby at_325) (fun _ _ => ⟨rfl, e48, (by decide : 38 + 0 ≤ _), (by decide : 82 + 0 ≤ _)⟩)
            dsimp only [Pt.U, Pt.locs, Pt.cells, Pt.slots] at X52 l52 y52 z52 st52 hQ52
            subst l52 y52 z52
            obtain ⟨rfl, N52q, e52⟩ := hQ52
            have N52 := Fr.app N48 N52q
            replace k : ow T52 (mkF m 328 #[.val (.long q1), .second, .val (.long q2), .second, ow_i p3, ow_i p4, .val (.long n1), .second, .val (.long m1), .second, .val (.long r1), .second, .val (.long n2), .second, .val (.long m2), .second, .val (.long r2), .second, ow_i sr1, ow_i as1, ow_i sr2, ow_i as2, ow_i kd, ow_r a26, ow_r a27, ow_r a28, ow_r a29, ow_r a30, ow_r a31, ow_r b32, ow_r b36, ow_r b36, .unset, .unset, .unset] [(.int (own_same m1 m2))]) := fun t q => k t (XS.lload X48.here hx rfl (hb hby at_321) rfl (XS.lload X48.here hx rfl (hb hby at_323) rfl (st52 t q)))
            clear st52
            by_cases hc53 : (own_same m1 m2) = (0 : Int32)
            · replace k : ow T52 (mkF m 345 #[.val (.long q1), .second, .val (.long q2), .second, ow_i p3, ow_i p4, .val (.long n1), .second, .val (.long m1), .second, .val (.long r1), .second, .val (.long n2), .second, .val (.long m2), .second, .val (.long r2), .second, ow_i sr1, ow_i as1, ow_i sr2, ow_i as2, ow_i kd, ow_r a26, ow_r a27, ow_r a28, ow_r a29, ow_r a30, ow_r a31, ow_r b32, ow_r b36, ow_r b36, .unset, .unset, .unset] []) := fun t q => k t (XS.ifYes X52.here hx rfl (pc0 := 328) (pc' := 345) rfl (hb hby at_328) rfl ((if0 _ _).trans (teq (show (own_same m1 m2) = (0 : Int32) from hc53)).1) (by decide) (by decide) q)
              replace k : ow T52 (mkF m 350 #[.val (.long q1), .second, .val (.long q2), .second, ow_i p3, ow_i p4, .val (.long n1), .second, .val (.long m1), .second, .val (.long r1), .second, .val (.long n2), .second, .val (.long m2), .second, .val (.long r2), .second, ow_i sr1, ow_i as1, ow_i sr2, ow_i as2, ow_i kd, ow_r a26, ow_r a27, ow_r a28, ow_r a29, ow_r a30, ow_r a31, ow_r b32, ow_r b36, ow_r b36, ow_i 0, .unset, .unset] [(.ref b32)]) := fun t q => k t (XS.iconst X52.here hx rfl (hb hby at_345) (XS.istore X52.here hx rfl (hb hby at_346) rfl (l' := #[.val (.long q1), .second, .val (.long q2), .second, ow_i p3, ow_i p4, .val (.long n1), .second, .val (.long m1), .second, .val (.long r1), .second, .val (.long n2), .second, .val (.long m2), .second, .val (.long r2), .second, ow_i sr1, ow_i as1, ow_i sr2, ow_i as2, ow_i kd, ow_r a26, ow_r a27, ow_r a28, ow_r a29, ow_r a30, ow_r a31, ow_r b32, ow_r b36, ow_r b36, ow_i 0, .unset, .unset]) rfl (XS.aload X52.here hx rfl (hb hby at_348) rfl rfl q)))
              replace k : ow T52 (mkF m 352 #[.val (.long q1), .second, .val (.long q2), .second, ow_i p3, ow_i p4, .val (.long n1), .second, .val (.long m1), .second, .val (.long r1), .second, .val (.long n2), .second, .val (.long m2), .second, .val (.long r2), .second, ow_i sr1, ow_i as1, ow_i sr2, ow_i as2, ow_i kd, ow_r a26, ow_r a27, ow_r a28, ow_r a29, ow_r a30, ow_r a31, ow_r b32, ow_r b36, ow_r b36, ow_i 0, .unset, .unset] [(.ref b32), (.ref b32)]) := fun t q => k t (XS.aload X52.here hx rfl (hb hby at_350) rfl rfl q)
              obtain ⟨_, T54, L54, X54, hQ54, k⟩ := own_cV X52 hx hw hZ hown e52 k (own_m12_r l Z a0 hw [] b32 b32 (own_src sr1 w_Source_PROGRAM w_JDK w_LIBRARY w_UNKNOWN w_NOT_PROGRAM) (own_src sr1 w_Source_PROGRAM w_JDK w_LIBRARY w_UNKNOWN w_NOT_PROGRAM) (own_asp as1 w_Aspect_PROGRAM w_SOURCE w_SUPERCLASS w_INTERFACES w_INTERFACE w_DECLARES_METHOD w_FLAGS w_THROWS w_PROGRAM_METHOD w_FIELD w_CONCRETE_METHOD w_METHODS) (own_asp as1 w_Aspect_PROGRAM w_SOURCE w_SUPERCLASS w_INTERFACES w_INTERFACE w_DECLARES_METHOD w_FLAGS w_THROWS w_PROGRAM_METHOD w_FIELD w_CONCRETE_METHOD w_METHODS) a26 a26 (own_cs n1) (own_cs n1) w_COMPACT_STRINGS a27 a27 (own_cs m1) (own_cs m1) a28 a28 (own_cs r1) (own_cs r1) h39 n0 Z39 ((EC35_0.ext E36).keep KC39) ((FC35_1.ext E36).keep KC39 (ninS (Nat.ne_of_lt (Nat.lt_of_lt_of_le EC35_0.lt (Nat.le_of_eq g36.symm))) nin0)) ((FC35_1.ext E36).keep KC39 (ninS (Nat.ne_of_lt (Nat.lt_of_lt_of_le EC35_0.lt (Nat.le_of_eq g36.symm))) nin0)) ((FC35_2.ext E36).keep KC39 (ninS (Nat.ne_of_lt (Nat.lt_of_lt_of_le EC35_0.lt (Nat.le_of_eq g36.symm))) nin0)) ((FC35_2.ext E36).keep KC39 (ninS (Nat.ne_of_lt (Nat.lt_of_lt_of_le EC35_0.lt (Nat.le_of_eq g36.symm))) nin0)) ((FC35_0.ext E36).keep KC39 (ninS (Nat.ne_of_lt (Nat.lt_of_lt_of_le EC35_0.lt (Nat.le_of_eq g36.symm))) nin0)) ((FC35_0.ext E36).keep KC39 (ninS (Nat.ne_of_lt (Nat.lt_of_lt_of_le EC35_0.lt (Nat.le_of_eq g36.symm))) nin0)) (((((((((TX26.keep (a0 := a0) KC27 all0).keep (a0 := a0) KC28 all0).keep (a0 := a0) KC29 all0).keep (a0 := a0) KC30 all0).keep (a0 := a0) KC31 all0).ext E32).keep (a0 := a0) KC35 (allS ⟨"com/example/callsite/callsite/bytecode/ClassRead", _, by decide, A32, (own_h hw 36 rfl)⟩ all0)).ext E36).keep (a0 := a0) KC39 (allS ⟨"com/example/callsite/callsite/bytecode/ClassRead", _, by decide, A36, (own_h hw 36 rfl)⟩ all0)) (((((((((TX26.keep (a0 := a0) KC27 all0).keep (a0 := a0) KC28 all0).keep (a0 := a0) KC29 all0).keep (a0 := a0) KC30 all0).keep (a0 := a0) KC31 all0).ext E32).keep (a0 := a0) KC35 (allS ⟨"com/example/callsite/callsite/bytecode/ClassRead", _, by decide, A32, (own_h hw 36 rfl)⟩ all0)).ext E36).keep (a0 := a0) KC39 (allS ⟨"com/example/callsite/callsite/bytecode/ClassRead", _, by decide, A36, (own_h hw 36 rfl)⟩ all0)) (own_sta_keep ((own_sta_keep ((own_sta_keep (own_sta_keep (own_sta_keep (own_sta_keep (own_sta_keep (own_sta_keep S_COMPACT_STRINGS KC26 ns0) KC27 ns0) KC28 ns0) KC29 ns0) KC30 ns0) KC31 ns0).ext E32) KC35 (nsS (Exa.nostat A32) ns0)).ext E36) KC39 (nsS (Exa.nostat A36) ns0)) ((FC35_3.ext E36).keep KC39 (ninS (Nat.ne_of_lt (Nat.lt_of_lt_of_le EC35_0.lt (Nat.le_of_eq g36.symm))) nin0)) ((FC35_3.ext E36).keep KC39 (ninS (Nat.ne_of_lt (Nat.lt_of_lt_of_le EC35_0.lt (Nat.le_of_eq g36.symm))) nin0)) ((((((((TX27.keep (a0 := a0) KC28 all0).keep (a0 := a0) KC29 all0).keep (a0 := a0) KC30 all0).keep (a0 := a0) KC31 all0).ext E32).keep (a0 := a0) KC35 (allS ⟨"com/example/callsite/callsite/bytecode/ClassRead", _, by decide, A32, (own_h hw 36 rfl)⟩ all0)).ext E36).keep (a0 := a0) KC39 (allS ⟨"com/example/callsite/callsite/bytecode/ClassRead", _, by decide, A36, (own_h hw 36 rfl)⟩ all0)) ((((((((TX27.keep (a0 := a0) KC28 all0).keep (a0 := a0) KC29 all0).keep (a0 := a0) KC30 all0).keep (a0 := a0) KC31 all0).ext E32).keep (a0 := a0) KC35 (allS ⟨"com/example/callsite/callsite/bytecode/ClassRead", _, by decide, A32, (own_h hw 36 rfl)⟩ all0)).ext E36).keep (a0 := a0) KC39 (allS ⟨"com/example/callsite/callsite/bytecode/ClassRead", _, by decide, A36, (own_h hw 36 rfl)⟩ all0)) ((FC35_4.ext E36).keep KC39 (ninS (Nat.ne_of_lt (Nat.lt_of_lt_of_le EC35_0.lt (Nat.le_of_eq g36.symm))) nin0)) ((FC35_4.ext E36).keep KC39 (ninS (Nat.ne_of_lt (Nat.lt_of_lt_of_le EC35_0.lt (Nat.le_of_eq g36.symm))) nin0)) (((((((TX28.keep (a0 := a0) KC29 all0).keep (a0 := a0) KC30 all0).keep (a0 := a0) KC31 all0).ext E32).keep (a0 := a0) KC35 (allS ⟨"com/example/callsite/callsite/bytecode/ClassRead", _, by decide, A32, (own_h hw 36 rfl)⟩ all0)).ext E36).keep (a0 := a0) KC39 (allS ⟨"com/example/callsite/callsite/bytecode/ClassRead", _, by decide, A36, (own_h hw 36 rfl)⟩ all0)) (((((((TX28.keep (a0 := a0) KC29 all0).keep (a0 := a0) KC30 all0).keep (a0 := a0) KC31 all0).ext E32).keep (a0 := a0) KC35 (allS ⟨"com/example/callsite/callsite/bytecode/ClassRead", _, by decide, A32, (own_h hw 36 rfl)⟩ all0)).ext E36).keep (a0 := a0) KC39 (allS ⟨"com/example/callsite/callsite/bytecode/ClassRead", _, by decide, A36, (own_h hw 36 rfl)⟩ all0)) hz) 72 73 75 74 76 37 rfl rfl rfl rfl rfl rfl ((EC35_0.ext E36).keep KC39) (by decide) rfl (by rw [hml]; rfl) [(.ref b32)] [] (lenOf own_pd10 rfl) rfl rfl (W := 0) own_le (hb hby at_352) (by decide) (by decide) (by decide) (by decide)
              rw [show own_f12_r (own_src sr1 w_Source_PROGRAM w_JDK w_LIBRARY w_UNKNOWN w_NOT_PROGRAM) (own_src sr1 w_Source_PROGRAM w_JDK w_LIBRARY w_UNKNOWN w_NOT_PROGRAM) (own_asp as1 w_Aspect_PROGRAM w_SOURCE w_SUPERCLASS w_INTERFACES w_INTERFACE w_DECLARES_METHOD w_FLAGS w_THROWS w_PROGRAM_METHOD w_FIELD w_CONCRETE_METHOD w_METHODS) (own_asp as1 w_Aspect_PROGRAM w_SOURCE w_SUPERCLASS w_INTERFACES w_INTERFACE w_DECLARES_METHOD w_FLAGS w_THROWS w_PROGRAM_METHOD w_FIELD w_CONCRETE_METHOD w_METHODS) (own_cs n1) (own_cs n1) (own_cs m1) (own_cs m1) (own_cs r1) (own_cs r1) = (1 : Int32) from by unfold own_f12_r; rw [if_pos (show (own_src sr1 w_Source_PROGRAM w_JDK w_LIBRARY w_UNKNOWN w_NOT_PROGRAM) = (own_src sr1 w_Source_PROGRAM w_JDK w_LIBRARY w_UNKNOWN w_NOT_PROGRAM) from rfl), if_pos (show (own_asp as1 w_Aspect_PROGRAM w_SOURCE w_SUPERCLASS w_INTERFACES w_INTERFACE w_DECLARES_METHOD w_FLAGS w_THROWS w_PROGRAM_METHOD w_FIELD w_CONCRETE_METHOD w_METHODS) = (own_asp as1 w_Aspect_PROGRAM w_SOURCE w_SUPERCLASS w_INTERFACES w_INTERFACE w_DECLARES_METHOD w_FLAGS w_THROWS w_PROGRAM_METHOD w_FIELD w_CONCRETE_METHOD w_METHODS) from rfl), if_pos (show (own_cs n1) = (own_cs n1) from rfl), if_pos (show (own_cs m1) = (own_cs m1) from rfl), if_pos (show (own_cs r1) = (own_cs r1) from rfl)]] at hQ54
              obtain ⟨rfl, N54q, e54⟩ := hQ54
              have N54 := Fr.app N52 N54q
              replace k : ow T54 (mkF m 361 #[.val (.long q1), .second, .val (.long q2), .second, ow_i p3, ow_i p4, .val (.long n1), .second, .val (.long m1), .second, .val (.long r1), .second, .val (.long n2), .second, .val (.long m2), .second, .val (.long r2), .second, ow_i sr1, ow_i as1, ow_i sr2, ow_i as2, ow_i kd, ow_r a26, ow_r a27, ow_r a28, ow_r a29, ow_r a30, ow_r a31, ow_r b32, ow_r b36, ow_r b36, ow_i 0, ow_i 1, .unset] [(.ref b36), (.ref b32)]) := fun t q => k t (XS.istore X54.here hx rfl (hb hby at_355) rfl (l' := #[.val (.long q1), .second, .val (.long q2), .second, ow_i p3, ow_i p4, .val (.long n1), .second, .val (.long m1), .second, .val (.long r1), .second, .val (.long n2), .second, .val (.long m2), .second, .val (.long r2), .second, ow_i sr1, ow_i as1, ow_i sr2, ow_i as2, ow_i kd, ow_r a26, ow_r a27, ow_r a28, ow_r a29, ow_r a30, ow_r a31, ow_r b32, ow_r b36, ow_r b36, ow_i 0, ow_i 1, .unset]) rfl (XS.aload X54.here hx rfl (hb hby at_357) rfl rfl (XS.aload X54.here hx rfl (hb hby at_359) rfl rfl q)))
              obtain ⟨_, T55, L55, X55, hQ55, k⟩ := own_cV X54 hx hw hZ hown e54 k (own_m12_r l Z a0 hw [] b32 b36 (own_src sr1 w_Source_PROGRAM w_JDK w_LIBRARY w_UNKNOWN w_NOT_PROGRAM) (own_src sr2 w_Source_PROGRAM w_JDK w_LIBRARY w_UNKNOWN w_NOT_PROGRAM) (own_asp as1 w_Aspect_PROGRAM w_SOURCE w_SUPERCLASS w_INTERFACES w_INTERFACE w_DECLARES_METHOD w_FLAGS w_THROWS w_PROGRAM_METHOD w_FIELD w_CONCRETE_METHOD w_METHODS) (own_asp as2 w_Aspect_PROGRAM w_SOURCE w_SUPERCLASS w_INTERFACES w_INTERFACE w_DECLARES_METHOD w_FLAGS w_THROWS w_PROGRAM_METHOD w_FIELD w_CONCRETE_METHOD w_METHODS) a26 a29 (own_cs n1) (own_cs n2) w_COMPACT_STRINGS a27 a30 (own_cs m1) (own_cs m2) a28 a31 (own_cs r1) (own_cs r2) h39 n0 Z39 EC39_0 ((FC35_1.ext E36).keep KC39 (ninS (Nat.ne_of_lt (Nat.lt_of_lt_of_le EC35_0.lt (Nat.le_of_eq g36.symm))) nin0)) FC39_1 ((FC35_2.ext E36).keep KC39 (ninS (Nat.ne_of_lt (Nat.lt_of_lt_of_le EC35_0.lt (Nat.le_of_eq g36.symm))) nin0)) FC39_2 ((FC35_0.ext E36).keep KC39 (ninS (Nat.ne_of_lt (Nat.lt_of_lt_of_le EC35_0.lt (Nat.le_of_eq g36.symm))) nin0)) FC39_0 (((((((((TX26.keep (a0 := a0) KC27 all0).keep (a0 := a0) KC28 all0).keep (a0 := a0) KC29 all0).keep (a0 := a0) KC30 all0).keep (a0 := a0) KC31 all0).ext E32).keep (a0 := a0) KC35 (allS ⟨"com/example/callsite/callsite/bytecode/ClassRead", _, by decide, A32, (own_h hw 36 rfl)⟩ all0)).ext E36).keep (a0 := a0) KC39 (allS ⟨"com/example/callsite/callsite/bytecode/ClassRead", _, by decide, A36, (own_h hw 36 rfl)⟩ all0)) ((((((TX29.keep (a0 := a0) KC30 all0).keep (a0 := a0) KC31 all0).ext E32).keep (a0 := a0) KC35 (allS ⟨"com/example/callsite/callsite/bytecode/ClassRead", _, by decide, A32, (own_h hw 36 rfl)⟩ all0)).ext E36).keep (a0 := a0) KC39 (allS ⟨"com/example/callsite/callsite/bytecode/ClassRead", _, by decide, A36, (own_h hw 36 rfl)⟩ all0)) (own_sta_keep ((own_sta_keep ((own_sta_keep (own_sta_keep (own_sta_keep (own_sta_keep (own_sta_keep (own_sta_keep S_COMPACT_STRINGS KC26 ns0) KC27 ns0) KC28 ns0) KC29 ns0) KC30 ns0) KC31 ns0).ext E32) KC35 (nsS (Exa.nostat A32) ns0)).ext E36) KC39 (nsS (Exa.nostat A36) ns0)) ((FC35_3.ext E36).keep KC39 (ninS (Nat.ne_of_lt (Nat.lt_of_lt_of_le EC35_0.lt (Nat.le_of_eq g36.symm))) nin0)) FC39_3 ((((((((TX27.keep (a0 := a0) KC28 all0).keep (a0 := a0) KC29 all0).keep (a0 := a0) KC30 all0).keep (a0 := a0) KC31 all0).ext E32).keep (a0 := a0) KC35 (allS ⟨"com/example/callsite/callsite/bytecode/ClassRead", _, by decide, A32, (own_h hw 36 rfl)⟩ all0)).ext E36).keep (a0 := a0) KC39 (allS ⟨"com/example/callsite/callsite/bytecode/ClassRead", _, by decide, A36, (own_h hw 36 rfl)⟩ all0)) (((((TX30.keep (a0 := a0) KC31 all0).ext E32).keep (a0 := a0) KC35 (allS ⟨"com/example/callsite/callsite/bytecode/ClassRead", _, by decide, A32, (own_h hw 36 rfl)⟩ all0)).ext E36).keep (a0 := a0) KC39 (allS ⟨"com/example/callsite/callsite/bytecode/ClassRead", _, by decide, A36, (own_h hw 36 rfl)⟩ all0)) ((FC35_4.ext E36).keep KC39 (ninS (Nat.ne_of_lt (Nat.lt_of_lt_of_le EC35_0.lt (Nat.le_of_eq g36.symm))) nin0)) FC39_4 (((((((TX28.keep (a0 := a0) KC29 all0).keep (a0 := a0) KC30 all0).keep (a0 := a0) KC31 all0).ext E32).keep (a0 := a0) KC35 (allS ⟨"com/example/callsite/callsite/bytecode/ClassRead", _, by decide, A32, (own_h hw 36 rfl)⟩ all0)).ext E36).keep (a0 := a0) KC39 (allS ⟨"com/example/callsite/callsite/bytecode/ClassRead", _, by decide, A36, (own_h hw 36 rfl)⟩ all0)) ((((TX31.ext E32).keep (a0 := a0) KC35 (allS ⟨"com/example/callsite/callsite/bytecode/ClassRead", _, by decide, A32, (own_h hw 36 rfl)⟩ all0)).ext E36).keep (a0 := a0) KC39 (allS ⟨"com/example/callsite/callsite/bytecode/ClassRead", _, by decide, A36, (own_h hw 36 rfl)⟩ all0)) hz) 72 73 75 74 76 37 rfl rfl rfl rfl rfl rfl ((EC35_0.ext E36).keep KC39) (by decide) rfl (by rw [hml]; rfl) [(.ref b36)] [] (lenOf own_pd10 rfl) rfl rfl (W := 0) own_le (hb hby at_361) (by decide) (by decide) (by decide) (by decide)
              rw [show own_f12_r (own_src sr1 w_Source_PROGRAM w_JDK w_LIBRARY w_UNKNOWN w_NOT_PROGRAM) (own_src sr2 w_Source_PROGRAM w_JDK w_LIBRARY w_UNKNOWN w_NOT_PROGRAM) (own_asp as1 w_Aspect_PROGRAM w_SOURCE w_SUPERCLASS w_INTERFACES w_INTERFACE w_DECLARES_METHOD w_FLAGS w_THROWS w_PROGRAM_METHOD w_FIELD w_CONCRETE_METHOD w_METHODS) (own_asp as2 w_Aspect_PROGRAM w_SOURCE w_SUPERCLASS w_INTERFACES w_INTERFACE w_DECLARES_METHOD w_FLAGS w_THROWS w_PROGRAM_METHOD w_FIELD w_CONCRETE_METHOD w_METHODS) (own_cs n1) (own_cs n2) (own_cs m1) (own_cs m2) (own_cs r1) (own_cs r2) = (0 : Int32) from by unfold own_f12_r; rw [if_pos (show (own_src sr1 w_Source_PROGRAM w_JDK w_LIBRARY w_UNKNOWN w_NOT_PROGRAM) = (own_src sr2 w_Source_PROGRAM w_JDK w_LIBRARY w_UNKNOWN w_NOT_PROGRAM) from (by rw [hc46])), if_pos (show (own_asp as1 w_Aspect_PROGRAM w_SOURCE w_SUPERCLASS w_INTERFACES w_INTERFACE w_DECLARES_METHOD w_FLAGS w_THROWS w_PROGRAM_METHOD w_FIELD w_CONCRETE_METHOD w_METHODS) = (own_asp as2 w_Aspect_PROGRAM w_SOURCE w_SUPERCLASS w_INTERFACES w_INTERFACE w_DECLARES_METHOD w_FLAGS w_THROWS w_PROGRAM_METHOD w_FIELD w_CONCRETE_METHOD w_METHODS) from (by rw [hc47])), if_pos (show (own_cs n1) = (own_cs n2) from (own_same_eq _ _ hc49)), if_neg (show ¬ ((own_cs m1) = (own_cs m2)) from (own_same_ne _ _ hc53))]] at hQ55
              obtain ⟨rfl, N55q, e55⟩ := hQ55
              have N55 := Fr.app N54 N55q
              replace k : ow T55 (mkF m 371 #[.val (.long q1), .second, .val (.long q2), .second, ow_i p3, ow_i p4, .val (.long n1), .second, .val (.long m1), .second, .val (.long r1), .second, .val (.long n2), .second, .val (.long m2), .second, .val (.long r2), .second, ow_i sr1, ow_i as1, ow_i sr2, ow_i as2, ow_i kd, ow_r a26, ow_r a27, ow_r a28, ow_r a29, ow_r a30, ow_r a31, ow_r b32, ow_r b36, ow_r b36, ow_i 0, ow_i 1, ow_i 0] []) := fun t q => k t (XS.istore X55.here hx rfl (hb hby at_364) rfl (l' := #[.val (.long q1), .second, .val (.long q2), .second, ow_i p3, ow_i p4, .val (.long n1), .second, .val (.long m1), .second, .val (.long r1), .second, .val (.long n2), .second, .val (.long m2), .second, .val (.long r2), .second, ow_i sr1, ow_i as1, ow_i sr2, ow_i as2, ow_i kd, ow_r a26, ow_r a27, ow_r a28, ow_r a29, ow_r a30, ow_r a31, ow_r b32, ow_r b36, ow_r b36, ow_i 0, ow_i 1, ow_i 0]) rfl (XS.iload X55.here hx rfl (hb hby at_366) rfl (XS.ifNo X55.here hx rfl (hb hby at_368) rfl ((if0 _ _).trans (feq (show ¬ ((1 : Int32) = (0 : Int32)) from (by decide))).1) q)))
              replace k : ow T55 (mkF m 378 #[.val (.long q1), .second, .val (.long q2), .second, ow_i p3, ow_i p4, .val (.long n1), .second, .val (.long m1), .second, .val (.long r1), .second, .val (.long n2), .second, .val (.long m2), .second, .val (.long r2), .second, ow_i sr1, ow_i as1, ow_i sr2, ow_i as2, ow_i kd, ow_r a26, ow_r a27, ow_r a28, ow_r a29, ow_r a30, ow_r a31, ow_r b32, ow_r b36, ow_r b36, ow_i 0, ow_i 1, ow_i 0] []) := fun t q => k t (XS.iload X55.here hx rfl (hb hby at_371) rfl (XS.iload X55.here hx rfl (hb hby at_373) rfl (XS.icmpNo X55.here hx rfl (hb hby at_375) rfl (teq (show (0 : Int32) = (0 : Int32) from (by decide))).2 q)))
              replace k : ow T55 (mkF m 383 #[.val (.long q1), .second, .val (.long q2), .second, ow_i p3, ow_i p4, .val (.long n1), .second, .val (.long m1), .second, .val (.long r1), .second, .val (.long n2), .second, .val (.long m2), .second, .val (.long r2), .second, ow_i sr1, ow_i as1, ow_i sr2, ow_i as2, ow_i kd, ow_r a26, ow_r a27, ow_r a28, ow_r a29, ow_r a30, ow_r a31, ow_r b32, ow_r b36, ow_r b36, ow_i 0, ow_i 1, ow_i 0] [(.int 1)]) := fun t q => k t (XS.iconst X55.here hx rfl (hb hby at_378) (XS.goto X55.here hx rfl (pc0 := 379) (pc' := 383) rfl (hb hby at_379) (by decide) (by decide) q))
              obtain ⟨fs, hr, hrun, hended, hEnd⟩ := X55.leaveW hS31 (by rw [e55]; exact hk39) (v := some (.int 1)) (fun h => by rw [Bd.returns] at h; cases h)
              have hChr := CR39.trans (CHv.at X55 hZ (own_EW hw) CH39)
              refine ⟨_, _, k _ ?_, hrun, hended, _, _, rfl, ?_, ?_, own_monoW hEnd (by decide) (by decide)⟩
              · exact retN X55 hx (t := .boolean) Bd.returns (by simp) (hb hby at_383) hr
              · show own_Q0 n0 _ _
                exact ⟨rfl, N55⟩
              · rw [hh]; show CHr Z consts_1 s.vm h0 T55.vm T55.heap; rw [e55]; exact hChr
            · replace k : ow T52 (mkF m 331 #[.val (.long q1), .second, .val (.long q2), .second, ow_i p3, ow_i p4, .val (.long n1), .second, .val (.long m1), .second, .val (.long r1), .second, .val (.long n2), .second, .val (.long m2), .second, .val (.long r2), .second, ow_i sr1, ow_i as1, ow_i sr2, ow_i as2, ow_i kd, ow_r a26, ow_r a27, ow_r a28, ow_r a29, ow_r a30, ow_r a31, ow_r b32, ow_r b36, ow_r b36, .unset, .unset, .unset] []) := fun t q => k t (XS.ifNo X52.here hx rfl (hb hby at_328) rfl ((if0 _ _).trans (feq (show ¬ ((own_same m1 m2) = (0 : Int32)) from hc53)).1) q)
              obtain ⟨_, _, ⟨T56, L56, k56, n56⟩, -, X56, ⟨Lc56, hQ56, l56, y56, z56⟩, st56⟩ := Jvm.LawKit.callS X52 hx (y := own_y11) hown (mvT hZ (own_h hw 69 rfl)) (mvT hZ (own_h hw 70 rfl)) (mvT hZ (own_h hw 3 rfl)) (mvT hZ (own_h hw 71 rfl)) (by decide) (backOf (W := 0) (own_m11 l Z a0 hw [] r1 r2 h39 n0 Z39 ) hZ (own_h hw 71 rfl) (own_h hw 3 rfl) (by decide) (by decide)) (g := (mkF m 335 #[.val (.long q1), .second, .val (.long q2), .second, ow_i p3, ow_i p4, .val (.long n1), .second, .val (.long m1), .second, .val (.long r1), .second, .val (.long n2), .second, .val (.long m2), .second, .val (.long r2), .second, ow_i sr1, ow_i as1, ow_i sr2, ow_i as2, ow_i kd, ow_r a26, ow_r a27, ow_r a28, ow_r a29, ow_r a30, ow_r a31, ow_r b32, ow_r b36, ow_r b36, .unset, .unset, .unset] [(.long r2), (.long r1)])) rfl (by rw [hml]; rfl) (argsL := [(.long r1), (.long r2)]) (rest := []) (lenOf own_pd11 rfl) rfl own_le (hb hby at_335) (fun _ _ => ⟨rfl, e52, (by decide : 38 + 0 ≤ _), (by decide : 82 + 0 ≤ _)⟩)
              dsimp only [Pt.U, Pt.locs, Pt.cells, Pt.slots] at X56 l56 y56 z56 st56 hQ56
              subst l56 y56 z56
              obtain ⟨rfl, N56q, e56⟩ := hQ56
              have N56 := Fr.app N52 N56q
              replace k : ow T56 (mkF m 338 #[.val (.long q1), .second, .val (.long q2), .second, ow_i p3, ow_i p4, .val (.long n1), .second, .val (.long m1), .second, .val (.long r1), .second, .val (.long n2), .second, .val (.long m2), .second, .val (.long r2), .second, ow_i sr1, ow_i as1, ow_i sr2, ow_i as2, ow_i kd, ow_r a26, ow_r a27, ow_r a28, ow_r a29, ow_r a30, ow_r a31, ow_r b32, ow_r b36, ow_r b36, .unset, .unset, .unset] [(.int (own_same r1 r2))]) := fun t q => k t (XS.lload X52.here hx rfl (hb hby at_331) rfl (XS.lload X52.here hx rfl (hb hby at_333) rfl (st56 t q)))
              clear st56
              by_cases hc57 : (own_same r1 r2) = (0 : Int32)
              · replace k : ow T56 (mkF m 345 #[.val (.long q1), .second, .val (.long q2), .second, ow_i p3, ow_i p4, .val (.long n1), .second, .val (.long m1), .second, .val (.long r1), .second, .val (.long n2), .second, .val (.long m2), .second, .val (.long r2), .second, ow_i sr1, ow_i as1, ow_i sr2, ow_i as2, ow_i kd, ow_r a26, ow_r a27, ow_r a28, ow_r a29, ow_r a30, ow_r a31, ow_r b32, ow_r b36, ow_r b36, .unset, .unset, .unset] []) := fun t q => k t (XS.ifYes X56.here hx rfl (pc0 := 338) (pc' := 345) rfl (hb hby at_338) rfl ((if0 _ _).trans (teq (show (own_same r1 r2) = (0 : Int32) from hc57)).1) (by decide) (by decide) q)
                replace k : ow T56 (mkF m 350 #[.val (.long q1), .second, .val (.long q2), .second, ow_i p3, ow_i p4, .val (.long n1), .second, .val (.long m1), .second, .val (.long r1), .second, .val (.long n2), .second, .val (.long m2), .second, .val (.long r2), .second, ow_i sr1, ow_i as1, ow_i sr2, ow_i as2, ow_i kd, ow_r a26, ow_r a27, ow_r a28, ow_r a29, ow_r a30, ow_r a31, ow_r b32, ow_r b36, ow_r b36, ow_i 0, .unset, .unset] [(.ref b32)]) := fun t q => k t (XS.iconst X56.here hx rfl (hb hby at_345) (XS.istore X56.here hx rfl (hb hby at_346) rfl (l' := #[.val (.long q1), .second, .val (.long q2), .second, ow_i p3, ow_i p4, .val (.long n1), .second, .val (.long m1), .second, .val (.long r1), .second, .val (.long n2), .second, .val (.long m2), .second, .val (.long r2), .second, ow_i sr1, ow_i as1, ow_i sr2, ow_i as2, ow_i kd, ow_r a26, ow_r a27, ow_r a28, ow_r a29, ow_r a30, ow_r a31, ow_r b32, ow_r b36, ow_r b36, ow_i 0, .unset, .unset]) rfl (XS.aload X56.here hx rfl (hb hby at_348) rfl rfl q)))
                replace k : ow T56 (mkF m 352 #[.val (.long q1), .second, .val (.long q2), .second, ow_i p3, ow_i p4, .val (.long n1), .second, .val (.long m1), .second, .val (.long r1), .second, .val (.long n2), .second, .val (.long m2), .second, .val (.long r2), .second, ow_i sr1, ow_i as1, ow_i sr2, ow_i as2, ow_i kd, ow_r a26, ow_r a27, ow_r a28, ow_r a29, ow_r a30, ow_r a31, ow_r b32, ow_r b36, ow_r b36, ow_i 0, .unset, .unset] [(.ref b32), (.ref b32)]) := fun t q => k t (XS.aload X56.here hx rfl (hb hby at_350) rfl rfl q)
                obtain ⟨_, T58, L58, X58, hQ58, k⟩ := own_cV X56 hx hw hZ hown e56 k (own_m12_r l Z a0 hw [] b32 b32 (own_src sr1 w_Source_PROGRAM w_JDK w_LIBRARY w_UNKNOWN w_NOT_PROGRAM) (own_src sr1 w_Source_PROGRAM w_JDK w_LIBRARY w_UNKNOWN w_NOT_PROGRAM) (own_asp as1 w_Aspect_PROGRAM w_SOURCE w_SUPERCLASS w_INTERFACES w_INTERFACE w_DECLARES_METHOD w_FLAGS w_THROWS w_PROGRAM_METHOD w_FIELD w_CONCRETE_METHOD w_METHODS) (own_asp as1 w_Aspect_PROGRAM w_SOURCE w_SUPERCLASS w_INTERFACES w_INTERFACE w_DECLARES_METHOD w_FLAGS w_THROWS w_PROGRAM_METHOD w_FIELD w_CONCRETE_METHOD w_METHODS) a26 a26 (own_cs n1) (own_cs n1) w_COMPACT_STRINGS a27 a27 (own_cs m1) (own_cs m1) a28 a28 (own_cs r1) (own_cs r1) h39 n0 Z39 ((EC35_0.ext E36).keep KC39) ((FC35_1.ext E36).keep KC39 (ninS (Nat.ne_of_lt (Nat.lt_of_lt_of_le EC35_0.lt (Nat.le_of_eq g36.symm))) nin0)) ((FC35_1.ext E36).keep KC39 (ninS (Nat.ne_of_lt (Nat.lt_of_lt_of_le EC35_0.lt (Nat.le_of_eq g36.symm))) nin0)) ((FC35_2.ext E36).keep KC39 (ninS (Nat.ne_of_lt (Nat.lt_of_lt_of_le EC35_0.lt (Nat.le_of_eq g36.symm))) nin0)) ((FC35_2.ext E36).keep KC39 (ninS (Nat.ne_of_lt (Nat.lt_of_lt_of_le EC35_0.lt (Nat.le_of_eq g36.symm))) nin0)) ((FC35_0.ext E36).keep KC39 (ninS (Nat.ne_of_lt (Nat.lt_of_lt_of_le EC35_0.lt (Nat.le_of_eq g36.symm))) nin0)) ((FC35_0.ext E36).keep KC39 (ninS (Nat.ne_of_lt (Nat.lt_of_lt_of_le EC35_0.lt (Nat.le_of_eq g36.symm))) nin0)) (((((((((TX26.keep (a0 := a0) KC27 all0).keep (a0 := a0) KC28 all0).keep (a0 := a0) KC29 all0).keep (a0 := a0) KC30 all0).keep (a0 := a0) KC31 all0).ext E32).keep (a0 := a0) KC35 (allS ⟨"com/example/callsite/callsite/bytecode/ClassRead", _, by decide, A32, (own_h hw 36 rfl)⟩ all0)).ext E36).keep (a0 := a0) KC39 (allS ⟨"com/example/callsite/callsite/bytecode/ClassRead", _, by decide, A36, (own_h hw 36 rfl)⟩ all0)) (((((((((TX26.keep (a0 := a0) KC27 all0).keep (a0 := a0) KC28 all0).keep (a0 := a0) KC29 all0).keep (a0 := a0) KC30 all0).keep (a0 := a0) KC31 all0).ext E32).keep (a0 := a0) KC35 (allS ⟨"com/example/callsite/callsite/bytecode/ClassRead", _, by decide, A32, (own_h hw 36 rfl)⟩ all0)).ext E36).keep (a0 := a0) KC39 (allS ⟨"com/example/callsite/callsite/bytecode/ClassRead", _, by decide, A36, (own_h hw 36 rfl)⟩ all0)) (own_sta_keep ((own_sta_keep ((own_sta_keep (own_sta_keep (own_sta_keep (own_sta_keep (own_sta_keep (own_sta_keep S_COMPACT_STRINGS KC26 ns0) KC27 ns0) KC28 ns0) KC29 ns0) KC30 ns0) KC31 ns0).ext E32) KC35 (nsS (Exa.nostat A32) ns0)).ext E36) KC39 (nsS (Exa.nostat A36) ns0)) ((FC35_3.ext E36).keep KC39 (ninS (Nat.ne_of_lt (Nat.lt_of_lt_of_le EC35_0.lt (Nat.le_of_eq g36.symm))) nin0)) ((FC35_3.ext E36).keep KC39 (ninS (Nat.ne_of_lt (Nat.lt_of_lt_of_le EC35_0.lt (Nat.le_of_eq g36.symm))) nin0)) ((((((((TX27.keep (a0 := a0) KC28 all0).keep (a0 := a0) KC29 all0).keep (a0 := a0) KC30 all0).keep (a0 := a0) KC31 all0).ext E32).keep (a0 := a0) KC35 (allS ⟨"com/example/callsite/callsite/bytecode/ClassRead", _, by decide, A32, (own_h hw 36 rfl)⟩ all0)).ext E36).keep (a0 := a0) KC39 (allS ⟨"com/example/callsite/callsite/bytecode/ClassRead", _, by decide, A36, (own_h hw 36 rfl)⟩ all0)) ((((((((TX27.keep (a0 := a0) KC28 all0).keep (a0 := a0) KC29 all0).keep (a0 := a0) KC30 all0).keep (a0 := a0) KC31 all0).ext E32).keep (a0 := a0) KC35 (allS ⟨"com/example/callsite/callsite/bytecode/ClassRead", _, by decide, A32, (own_h hw 36 rfl)⟩ all0)).ext E36).keep (a0 := a0) KC39 (allS ⟨"com/example/callsite/callsite/bytecode/ClassRead", _, by decide, A36, (own_h hw 36 rfl)⟩ all0)) ((FC35_4.ext E36).keep KC39 (ninS (Nat.ne_of_lt (Nat.lt_of_lt_of_le EC35_0.lt (Nat.le_of_eq g36.symm))) nin0)) ((FC35_4.ext E36).keep KC39 (ninS (Nat.ne_of_lt (Nat.lt_of_lt_of_le EC35_0.lt (Nat.le_of_eq g36.symm))) nin0)) (((((((TX28.keep (a0 := a0) KC29 all0).keep (a0 := a0) KC30 all0).keep (a0 := a0) KC31 all0).ext E32).keep (a0 := a0) KC35 (allS ⟨"com/example/callsite/callsite/bytecode/ClassRead", _, by decide, A32, (own_h hw 36 rfl)⟩ all0)).ext E36).keep (a0 := a0) KC39 (allS ⟨"com/example/callsite/callsite/bytecode/ClassRead", _, by decide, A36, (own_h hw 36 rfl)⟩ all0)) (((((((TX28.keep (a0 := a0) KC29 all0).keep (a0 := a0) KC30 all0).keep (a0 := a0) KC31 all0).ext E32).keep (a0 := a0) KC35 (allS ⟨"com/example/callsite/callsite/bytecode/ClassRead", _, by decide, A32, (own_h hw 36 rfl)⟩ all0)).ext E36).keep (a0 := a0) KC39 (allS ⟨"com/example/callsite/callsite/bytecode/ClassRead", _, by decide, A36, (own_h hw 36 rfl)⟩ all0)) hz) 72 73 75 74 76 37 rfl rfl rfl rfl rfl rfl ((EC35_0.ext E36).keep KC39) (by decide) rfl (by rw [hml]; rfl) [(.ref b32)] [] (lenOf own_pd10 rfl) rfl rfl (W := 0) own_le (hb hby at_352) (by decide) (by decide) (by decide) (by decide)
                rw [show own_f12_r (own_src sr1 w_Source_PROGRAM w_JDK w_LIBRARY w_UNKNOWN w_NOT_PROGRAM) (own_src sr1 w_Source_PROGRAM w_JDK w_LIBRARY w_UNKNOWN w_NOT_PROGRAM) (own_asp as1 w_Aspect_PROGRAM w_SOURCE w_SUPERCLASS w_INTERFACES w_INTERFACE w_DECLARES_METHOD w_FLAGS w_THROWS w_PROGRAM_METHOD w_FIELD w_CONCRETE_METHOD w_METHODS) (own_asp as1 w_Aspect_PROGRAM w_SOURCE w_SUPERCLASS w_INTERFACES w_INTERFACE w_DECLARES_METHOD w_FLAGS w_THROWS w_PROGRAM_METHOD w_FIELD w_CONCRETE_METHOD w_METHODS) (own_cs n1) (own_cs n1) (own_cs m1) (own_cs m1) (own_cs r1) (own_cs r1) = (1 : Int32) from by unfold own_f12_r; rw [if_pos (show (own_src sr1 w_Source_PROGRAM w_JDK w_LIBRARY w_UNKNOWN w_NOT_PROGRAM) = (own_src sr1 w_Source_PROGRAM w_JDK w_LIBRARY w_UNKNOWN w_NOT_PROGRAM) from rfl), if_pos (show (own_asp as1 w_Aspect_PROGRAM w_SOURCE w_SUPERCLASS w_INTERFACES w_INTERFACE w_DECLARES_METHOD w_FLAGS w_THROWS w_PROGRAM_METHOD w_FIELD w_CONCRETE_METHOD w_METHODS) = (own_asp as1 w_Aspect_PROGRAM w_SOURCE w_SUPERCLASS w_INTERFACES w_INTERFACE w_DECLARES_METHOD w_FLAGS w_THROWS w_PROGRAM_METHOD w_FIELD w_CONCRETE_METHOD w_METHODS) from rfl), if_pos (show (own_cs n1) = (own_cs n1) from rfl), if_pos (show (own_cs m1) = (own_cs m1) from rfl), if_pos (show (own_cs r1) = (own_cs r1) from rfl)]] at hQ58
                obtain ⟨rfl, N58q, e58⟩ := hQ58
                have N58 := Fr.app N56 N58q
                replace k : ow T58 (mkF m 361 #[.val (.long q1), .second, .val (.long q2), .second, ow_i p3, ow_i p4, .val (.long n1), .second, .val (.long m1), .second, .val (.long r1), .second, .val (.long n2), .second, .val (.long m2), .second, .val (.long r2), .second, ow_i sr1, ow_i as1, ow_i sr2, ow_i as2, ow_i kd, ow_r a26, ow_r a27, ow_r a28, ow_r a29, ow_r a30, ow_r a31, ow_r b32, ow_r b36, ow_r b36, ow_i 0, ow_i 1, .unset] [(.ref b36), (.ref b32)]) := fun t q => k t (XS.istore X58.here hx rfl (hb hby at_355) rfl (l' := #[.val (.long q1), .second, .val (.long q2), .second, ow_i p3, ow_i p4, .val (.long n1), .second, .val (.long m1), .second, .val (.long r1), .second, .val (.long n2), .second, .val (.long m2), .second, .val (.long r2), .second, ow_i sr1, ow_i as1, ow_i sr2, ow_i as2, ow_i kd, ow_r a26, ow_r a27, ow_r a28, ow_r a29, ow_r a30, ow_r a31, ow_r b32, ow_r b36, ow_r b36, ow_i 0, ow_i 1, .unset]) rfl (XS.aload X58.here hx rfl (hb hby at_357) rfl rfl (XS.aload X58.here hx rfl (hb hby at_359) rfl rfl q)))
                obtain ⟨_, T59, L59, X59, hQ59, k⟩ := own_cV X58 hx hw hZ hown e58 k (own_m12_r l Z a0 hw [] b32 b36 (own_src sr1 w_Source_PROGRAM w_JDK w_LIBRARY w_UNKNOWN w_NOT_PROGRAM) (own_src sr2 w_Source_PROGRAM w_JDK w_LIBRARY w_UNKNOWN w_NOT_PROGRAM) (own_asp as1 w_Aspect_PROGRAM w_SOURCE w_SUPERCLASS w_INTERFACES w_INTERFACE w_DECLARES_METHOD w_FLAGS w_THROWS w_PROGRAM_METHOD w_FIELD w_CONCRETE_METHOD w_METHODS) (own_asp as2 w_Aspect_PROGRAM w_SOURCE w_SUPERCLASS w_INTERFACES w_INTERFACE w_DECLARES_METHOD w_FLAGS w_THROWS w_PROGRAM_METHOD w_FIELD w_CONCRETE_METHOD w_METHODS) a26 a29 (own_cs n1) (own_cs n2) w_COMPACT_STRINGS a27 a30 (own_cs m1) (own_cs m2) a28 a31 (own_cs r1) (own_cs r2) h39 n0 Z39 EC39_0 ((FC35_1.ext E36).keep KC39 (ninS (Nat.ne_of_lt (Nat.lt_of_lt_of_le EC35_0.lt (Nat.le_of_eq g36.symm))) nin0)) FC39_1 ((FC35_2.ext E36).keep KC39 (ninS (Nat.ne_of_lt (Nat.lt_of_lt_of_le EC35_0.lt (Nat.le_of_eq g36.symm))) nin0)) FC39_2 ((FC35_0.ext E36).keep KC39 (ninS (Nat.ne_of_lt (Nat.lt_of_lt_of_le EC35_0.lt (Nat.le_of_eq g36.symm))) nin0)) FC39_0 (((((((((TX26.keep (a0 := a0) KC27 all0).keep (a0 := a0) KC28 all0).keep (a0 := a0) KC29 all0).keep (a0 := a0) KC30 all0).keep (a0 := a0) KC31 all0).ext E32).keep (a0 := a0) KC35 (allS ⟨"com/example/callsite/callsite/bytecode/ClassRead", _, by decide, A32, (own_h hw 36 rfl)⟩ all0)).ext E36).keep (a0 := a0) KC39 (allS ⟨"com/example/callsite/callsite/bytecode/ClassRead", _, by decide, A36, (own_h hw 36 rfl)⟩ all0)) ((((((TX29.keep (a0 := a0) KC30 all0).keep (a0 := a0) KC31 all0).ext E32).keep (a0 := a0) KC35 (allS ⟨"com/example/callsite/callsite/bytecode/ClassRead", _, by decide, A32, (own_h hw 36 rfl)⟩ all0)).ext E36).keep (a0 := a0) KC39 (allS ⟨"com/example/callsite/callsite/bytecode/ClassRead", _, by decide, A36, (own_h hw 36 rfl)⟩ all0)) (own_sta_keep ((own_sta_keep ((own_sta_keep (own_sta_keep (own_sta_keep (own_sta_keep (own_sta_keep (own_sta_keep S_COMPACT_STRINGS KC26 ns0) KC27 ns0) KC28 ns0) KC29 ns0) KC30 ns0) KC31 ns0).ext E32) KC35 (nsS (Exa.nostat A32) ns0)).ext E36) KC39 (nsS (Exa.nostat A36) ns0)) ((FC35_3.ext E36).keep KC39 (ninS (Nat.ne_of_lt (Nat.lt_of_lt_of_le EC35_0.lt (Nat.le_of_eq g36.symm))) nin0)) FC39_3 ((((((((TX27.keep (a0 := a0) KC28 all0).keep (a0 := a0) KC29 all0).keep (a0 := a0) KC30 all0).keep (a0 := a0) KC31 all0).ext E32).keep (a0 := a0) KC35 (allS ⟨"com/example/callsite/callsite/bytecode/ClassRead", _, by decide, A32, (own_h hw 36 rfl)⟩ all0)).ext E36).keep (a0 := a0) KC39 (allS ⟨"com/example/callsite/callsite/bytecode/ClassRead", _, by decide, A36, (own_h hw 36 rfl)⟩ all0)) (((((TX30.keep (a0 := a0) KC31 all0).ext E32).keep (a0 := a0) KC35 (allS ⟨"com/example/callsite/callsite/bytecode/ClassRead", _, by decide, A32, (own_h hw 36 rfl)⟩ all0)).ext E36).keep (a0 := a0) KC39 (allS ⟨"com/example/callsite/callsite/bytecode/ClassRead", _, by decide, A36, (own_h hw 36 rfl)⟩ all0)) ((FC35_4.ext E36).keep KC39 (ninS (Nat.ne_of_lt (Nat.lt_of_lt_of_le EC35_0.lt (Nat.le_of_eq g36.symm))) nin0)) FC39_4 (((((((TX28.keep (a0 := a0) KC29 all0).keep (a0 := a0) KC30 all0).keep (a0 := a0) KC31 all0).ext E32).keep (a0 := a0) KC35 (allS ⟨"com/example/callsite/callsite/bytecode/ClassRead", _, by decide, A32, (own_h hw 36 rfl)⟩ all0)).ext E36).keep (a0 := a0) KC39 (allS ⟨"com/example/callsite/callsite/bytecode/ClassRead", _, by decide, A36, (own_h hw 36 rfl)⟩ all0)) ((((TX31.ext E32).keep (a0 := a0) KC35 (allS ⟨"com/example/callsite/callsite/bytecode/ClassRead", _, by decide, A32, (own_h hw 36 rfl)⟩ all0)).ext E36).keep (a0 := a0) KC39 (allS ⟨"com/example/callsite/callsite/bytecode/ClassRead", _, by decide, A36, (own_h hw 36 rfl)⟩ all0)) hz) 72 73 75 74 76 37 rfl rfl rfl rfl rfl rfl ((EC35_0.ext E36).keep KC39) (by decide) rfl (by rw [hml]; rfl) [(.ref b36)] [] (lenOf own_pd10 rfl) rfl rfl (W := 0) own_le (hb hby at_361) (by decide) (by decide) (by decide) (by decide)
                rw [show own_f12_r (own_src sr1 w_Source_PROGRAM w_JDK w_LIBRARY w_UNKNOWN w_NOT_PROGRAM) (own_src sr2 w_Source_PROGRAM w_JDK w_LIBRARY w_UNKNOWN w_NOT_PROGRAM) (own_asp as1 w_Aspect_PROGRAM w_SOURCE w_SUPERCLASS w_INTERFACES w_INTERFACE w_DECLARES_METHOD w_FLAGS w_THROWS w_PROGRAM_METHOD w_FIELD w_CONCRETE_METHOD w_METHODS) (own_asp as2 w_Aspect_PROGRAM w_SOURCE w_SUPERCLASS w_INTERFACES w_INTERFACE w_DECLARES_METHOD w_FLAGS w_THROWS w_PROGRAM_METHOD w_FIELD w_CONCRETE_METHOD w_METHODS) (own_cs n1) (own_cs n2) (own_cs m1) (own_cs m2) (own_cs r1) (own_cs r2) = (0 : Int32) from by unfold own_f12_r; rw [if_pos (show (own_src sr1 w_Source_PROGRAM w_JDK w_LIBRARY w_UNKNOWN w_NOT_PROGRAM) = (own_src sr2 w_Source_PROGRAM w_JDK w_LIBRARY w_UNKNOWN w_NOT_PROGRAM) from (by rw [hc46])), if_pos (show (own_asp as1 w_Aspect_PROGRAM w_SOURCE w_SUPERCLASS w_INTERFACES w_INTERFACE w_DECLARES_METHOD w_FLAGS w_THROWS w_PROGRAM_METHOD w_FIELD w_CONCRETE_METHOD w_METHODS) = (own_asp as2 w_Aspect_PROGRAM w_SOURCE w_SUPERCLASS w_INTERFACES w_INTERFACE w_DECLARES_METHOD w_FLAGS w_THROWS w_PROGRAM_METHOD w_FIELD w_CONCRETE_METHOD w_METHODS) from (by rw [hc47])), if_pos (show (own_cs n1) = (own_cs n2) from (own_same_eq _ _ hc49)), if_pos (show (own_cs m1) = (own_cs m2) from (own_same_eq _ _ hc53)), if_neg (show ¬ ((own_cs r1) = (own_cs r2)) from (own_same_ne _ _ hc57))]] at hQ59
                obtain ⟨rfl, N59q, e59⟩ := hQ59
                have N59 := Fr.app N58 N59q
                replace k : ow T59 (mkF m 371 #[.val (.long q1), .second, .val (.long q2), .second, ow_i p3, ow_i p4, .val (.long n1), .second, .val (.long m1), .second, .val (.long r1), .second, .val (.long n2), .second, .val (.long m2), .second, .val (.long r2), .second, ow_i sr1, ow_i as1, ow_i sr2, ow_i as2, ow_i kd, ow_r a26, ow_r a27, ow_r a28, ow_r a29, ow_r a30, ow_r a31, ow_r b32, ow_r b36, ow_r b36, ow_i 0, ow_i 1, ow_i 0] []) := fun t q => k t (XS.istore X59.here hx rfl (hb hby at_364) rfl (l' := #[.val (.long q1), .second, .val (.long q2), .second, ow_i p3, ow_i p4, .val (.long n1), .second, .val (.long m1), .second, .val (.long r1), .second, .val (.long n2), .second, .val (.long m2), .second, .val (.long r2), .second, ow_i sr1, ow_i as1, ow_i sr2, ow_i as2, ow_i kd, ow_r a26, ow_r a27, ow_r a28, ow_r a29, ow_r a30, ow_r a31, ow_r b32, ow_r b36, ow_r b36, ow_i 0, ow_i 1, ow_i 0]) rfl (XS.iload X59.here hx rfl (hb hby at_366) rfl (XS.ifNo X59.here hx rfl (hb hby at_368) rfl ((if0 _ _).trans (feq (show ¬ ((1 : Int32) = (0 : Int32)) from (by decide))).1) q)))
                replace k : ow T59 (mkF m 378 #[.val (.long q1), .second, .val (.long q2), .second, ow_i p3, ow_i p4, .val (.long n1), .second, .val (.long m1), .second, .val (.long r1), .second, .val (.long n2), .second, .val (.long m2), .second, .val (.long r2), .second, ow_i sr1, ow_i as1, ow_i sr2, ow_i as2, ow_i kd, ow_r a26, ow_r a27, ow_r a28, ow_r a29, ow_r a30, ow_r a31, ow_r b32, ow_r b36, ow_r b36, ow_i 0, ow_i 1, ow_i 0] []) := fun t q => k t (XS.iload X59.here hx rfl (hb hby at_371) rfl (XS.iload X59.here hx rfl (hb hby at_373) rfl (XS.icmpNo X59.here hx rfl (hb hby at_375) rfl (teq (show (0 : Int32) = (0 : Int32) from (by decide))).2 q)))
                replace k : ow T59 (mkF m 383 #[.val (.long q1), .second, .val (.long q2), .second, ow_i p3, ow_i p4, .val (.long n1), .second, .val (.long m1), .second, .val (.long r1), .second, .val (.long n2), .second, .val (.long m2), .second, .val (.long r2), .second, ow_i sr1, ow_i as1, ow_i sr2, ow_i as2, ow_i kd, ow_r a26, ow_r a27, ow_r a28, ow_r a29, ow_r a30, ow_r a31, ow_r b32, ow_r b36, ow_r b36, ow_i 0, ow_i 1, ow_i 0] [(.int 1)]) := fun t q => k t (XS.iconst X59.here hx rfl (hb hby at_378) (XS.goto X59.here hx rfl (pc0 := 379) (pc' := 383) rfl (hb hby at_379) (by decide) (by decide) q))
                obtain ⟨fs, hr, hrun, hended, hEnd⟩ := X59.leaveW hS31 (by rw [e59]; exact hk39) (v := some (.int 1)) (fun h => by rw [Bd.returns] at h; cases h)
                have hChr := CR39.trans (CHv.at X59 hZ (own_EW hw) CH39)
                refine ⟨_, _, k _ ?_, hrun, hended, _, _, rfl, ?_, ?_, own_monoW hEnd (by decide) (by decide)⟩
                · exact retN X59 hx (t := .boolean) Bd.returns (by simp) (hb hby at_383) hr
                · show own_Q0 n0 _ _
                  exact ⟨rfl, N59⟩
                · rw [hh]; show CHr Z consts_1 s.vm h0 T59.vm T59.heap; rw [e59]; exact hChr
              · replace k : ow T56 (mkF m 341 #[.val (.long q1), .second, .val (.long q2), .second, ow_i p3, ow_i p4, .val (.long n1), .second, .val (.long m1), .second, .val (.long r1), .second, .val (.long n2), .second, .val (.long m2), .second, .val (.long r2), .second, ow_i sr1, ow_i as1, ow_i sr2, ow_i as2, ow_i kd, ow_r a26, ow_r a27, ow_r a28, ow_r a29, ow_r a30, ow_r a31, ow_r b32, ow_r b36, ow_r b36, .unset, .unset, .unset] []) := fun t q => k t (XS.ifNo X56.here hx rfl (hb hby at_338) rfl ((if0 _ _).trans (feq (show ¬ ((own_same r1 r2) = (0 : Int32)) from hc57)).1) q)
                replace k : ow T56 (mkF m 348 #[.val (.long q1), .second, .val (.long q2), .second, ow_i p3, ow_i p4, .val (.long n1), .second, .val (.long m1), .second, .val (.long r1), .second, .val (.long n2), .second, .val (.long m2), .second, .val (.long r2), .second, ow_i sr1, ow_i as1, ow_i sr2, ow_i as2, ow_i kd, ow_r a26, ow_r a27, ow_r a28, ow_r a29, ow_r a30, ow_r a31, ow_r b32, ow_r b36, ow_r b36, ow_i 1, .unset, .unset] []) := fun t q => k t (XS.iconst X56.here hx rfl (hb hby at_341) (XS.goto X56.here hx rfl (pc0 := 342) (pc' := 346) rfl (hb hby at_342) (by decide) (by decide) (XS.istore X56.here hx rfl (hb hby at_346) rfl (l' := #[.val (.long q1), .second, .val (.long q2), .second, ow_i p3, ow_i p4, .val (.long n1), .second, .val (.long m1), .second, .val (.long r1), .second, .val (.long n2), .second, .val (.long m2), .second, .val (.long r2), .second, ow_i sr1, ow_i as1, ow_i sr2, ow_i as2, ow_i kd, ow_r a26, ow_r a27, ow_r a28, ow_r a29, ow_r a30, ow_r a31, ow_r b32, ow_r b36, ow_r b36, ow_i 1, .unset, .unset]) rfl q)))
                replace k : ow T56 (mkF m 352 #[.val (.long q1), .second, .val (.long q2), .second, ow_i p3, ow_i p4, .val (.long n1), .second, .val (.long m1), .second, .val (.long r1), .second, .val (.long n2), .second, .val (.long m2), .second, .val (.long r2), .second, ow_i sr1, ow_i as1, ow_i sr2, ow_i as2, ow_i kd, ow_r a26, ow_r a27, ow_r a28, ow_r a29, ow_r a30, ow_r a31, ow_r b32, ow_r b36, ow_r b36, ow_i 1, .unset, .unset] [(.ref b32), (.ref b32)]) := fun t q => k t (XS.aload X56.here hx rfl (hb hby at_348) rfl rfl (XS.aload X56.here hx rfl (hb hby at_350) rfl rfl q))
                obtain ⟨_, T60, L60, X60, hQ60, k⟩ := own_cV X56 hx hw hZ hown e56 k (own_m12_r l Z a0 hw [] b32 b32 (own_src sr1 w_Source_PROGRAM w_JDK w_LIBRARY w_UNKNOWN w_NOT_PROGRAM) (own_src sr1 w_Source_PROGRAM w_JDK w_LIBRARY w_UNKNOWN w_NOT_PROGRAM) (own_asp as1 w_Aspect_PROGRAM w_SOURCE w_SUPERCLASS w_INTERFACES w_INTERFACE w_DECLARES_METHOD w_FLAGS w_THROWS w_PROGRAM_METHOD w_FIELD w_CONCRETE_METHOD w_METHODS) (own_asp as1 w_Aspect_PROGRAM w_SOURCE w_SUPERCLASS w_INTERFACES w_INTERFACE w_DECLARES_METHOD w_FLAGS w_THROWS w_PROGRAM_METHOD w_FIELD w_CONCRETE_METHOD w_METHODS) a26 a26 (own_cs n1) (own_cs n1) w_COMPACT_STRINGS a27 a27 (own_cs m1) (own_cs m1) a28 a28 (own_cs r1) (own_cs r1) h39 n0 Z39 ((EC35_0.ext E36).keep KC39) ((FC35_1.ext E36).keep KC39 (ninS (Nat.ne_of_lt (Nat.lt_of_lt_of_le EC35_0.lt (Nat.le_of_eq g36.symm))) nin0)) ((FC35_1.ext E36).keep KC39 (ninS (Nat.ne_of_lt (Nat.lt_of_lt_of_le EC35_0.lt (Nat.le_of_eq g36.symm))) nin0)) ((FC35_2.ext E36).keep KC39 (ninS (Nat.ne_of_lt (Nat.lt_of_lt_of_le EC35_0.lt (Nat.le_of_eq g36.symm))) nin0)) ((FC35_2.ext E36).keep KC39 (ninS (Nat.ne_of_lt (Nat.lt_of_lt_of_le EC35_0.lt (Nat.le_of_eq g36.symm))) nin0)) ((FC35_0.ext E36).keep KC39 (ninS (Nat.ne_of_lt (Nat.lt_of_lt_of_le EC35_0.lt (Nat.le_of_eq g36.symm))) nin0)) ((FC35_0.ext E36).keep KC39 (ninS (Nat.ne_of_lt (Nat.lt_of_lt_of_le EC35_0.lt (Nat.le_of_eq g36.symm))) nin0)) (((((((((TX26.keep (a0 := a0) KC27 all0).keep (a0 := a0) KC28 all0).keep (a0 := a0) KC29 all0).keep (a0 := a0) KC30 all0).keep (a0 := a0) KC31 all0).ext E32).keep (a0 := a0) KC35 (allS ⟨"com/example/callsite/callsite/bytecode/ClassRead", _, by decide, A32, (own_h hw 36 rfl)⟩ all0)).ext E36).keep (a0 := a0) KC39 (allS ⟨"com/example/callsite/callsite/bytecode/ClassRead", _, by decide, A36, (own_h hw 36 rfl)⟩ all0)) (((((((((TX26.keep (a0 := a0) KC27 all0).keep (a0 := a0) KC28 all0).keep (a0 := a0) KC29 all0).keep (a0 := a0) KC30 all0).keep (a0 := a0) KC31 all0).ext E32).keep (a0 := a0) KC35 (allS ⟨"com/example/callsite/callsite/bytecode/ClassRead", _, by decide, A32, (own_h hw 36 rfl)⟩ all0)).ext E36).keep (a0 := a0) KC39 (allS ⟨"com/example/callsite/callsite/bytecode/ClassRead", _, by decide, A36, (own_h hw 36 rfl)⟩ all0)) (own_sta_keep ((own_sta_keep ((own_sta_keep (own_sta_keep (own_sta_keep (own_sta_keep (own_sta_keep (own_sta_keep S_COMPACT_STRINGS KC26 ns0) KC27 ns0) KC28 ns0) KC29 ns0) KC30 ns0) KC31 ns0).ext E32) KC35 (nsS (Exa.nostat A32) ns0)).ext E36) KC39 (nsS (Exa.nostat A36) ns0)) ((FC35_3.ext E36).keep KC39 (ninS (Nat.ne_of_lt (Nat.lt_of_lt_of_le EC35_0.lt (Nat.le_of_eq g36.symm))) nin0)) ((FC35_3.ext E36).keep KC39 (ninS (Nat.ne_of_lt (Nat.lt_of_lt_of_le EC35_0.lt (Nat.le_of_eq g36.symm))) nin0)) ((((((((TX27.keep (a0 := a0) KC28 all0).keep (a0 := a0) KC29 all0).keep (a0 := a0) KC30 all0).keep (a0 := a0) KC31 all0).ext E32).keep (a0 := a0) KC35 (allS ⟨"com/example/callsite/callsite/bytecode/ClassRead", _, by decide, A32, (own_h hw 36 rfl)⟩ all0)).ext E36).keep (a0 := a0) KC39 (allS ⟨"com/example/callsite/callsite/bytecode/ClassRead", _, by decide, A36, (own_h hw 36 rfl)⟩ all0)) ((((((((TX27.keep (a0 := a0) KC28 all0).keep (a0 := a0) KC29 all0).keep (a0 := a0) KC30 all0).keep (a0 := a0) KC31 all0).ext E32).keep (a0 := a0) KC35 (allS ⟨"com/example/callsite/callsite/bytecode/ClassRead", _, by decide, A32, (own_h hw 36 rfl)⟩ all0)).ext E36).keep (a0 := a0) KC39 (allS ⟨"com/example/callsite/callsite/bytecode/ClassRead", _, by decide, A36, (own_h hw 36 rfl)⟩ all0)) ((FC35_4.ext E36).keep KC39 (ninS (Nat.ne_of_lt (Nat.lt_of_lt_of_le EC35_0.lt (Nat.le_of_eq g36.symm))) nin0)) ((FC35_4.ext E36).keep KC39 (ninS (Nat.ne_of_lt (Nat.lt_of_lt_of_le EC35_0.lt (Nat.le_of_eq g36.symm))) nin0)) (((((((TX28.keep (a0 := a0) KC29 all0).keep (a0 := a0) KC30 all0).keep (a0 := a0) KC31 all0).ext E32).keep (a0 := a0) KC35 (allS ⟨"com/example/callsite/callsite/bytecode/ClassRead", _, by decide, A32, (own_h hw 36 rfl)⟩ all0)).ext E36).keep (a0 := a0) KC39 (allS ⟨"com/example/callsite/callsite/bytecode/ClassRead", _, by decide, A36, (own_h hw 36 rfl)⟩ all0)) (((((((TX28.keep (a0 := a0) KC29 all0).keep (a0 := a0) KC30 all0).keep (a0 := a0) KC31 all0).ext E32).keep (a0 := a0) KC35 (allS ⟨"com/example/callsite/callsite/bytecode/ClassRead", _, by decide, A32, (own_h hw 36 rfl)⟩ all0)).ext E36).keep (a0 := a0) KC39 (allS ⟨"com/example/callsite/callsite/bytecode/ClassRead", _, by decide, A36, (own_h hw 36 rfl)⟩ all0)) hz) 72 73 75 74 76 37 rfl rfl rfl rfl rfl rfl ((EC35_0.ext E36).keep KC39) (by decide) rfl (by rw [hml]; rfl) [(.ref b32)] [] (lenOf own_pd10 rfl) rfl rfl (W := 0) own_le (hb hby at_352) (by decide) (by decide) (by decide) (by decide)
                rw [show own_f12_r (own_src sr1 w_Source_PROGRAM w_JDK w_LIBRARY w_UNKNOWN w_NOT_PROGRAM) (own_src sr1 w_Source_PROGRAM w_JDK w_LIBRARY w_UNKNOWN w_NOT_PROGRAM) (own_asp as1 w_Aspect_PROGRAM w_SOURCE w_SUPERCLASS w_INTERFACES w_INTERFACE w_DECLARES_METHOD w_FLAGS w_THROWS w_PROGRAM_METHOD w_FIELD w_CONCRETE_METHOD w_METHODS) (own_asp as1 w_Aspect_PROGRAM w_SOURCE w_SUPERCLASS w_INTERFACES w_INTERFACE w_DECLARES_METHOD w_FLAGS w_THROWS w_PROGRAM_METHOD w_FIELD w_CONCRETE_METHOD w_METHODS) (own_cs n1) (own_cs n1) (own_cs m1) (own_cs m1) (own_cs r1) (own_cs r1) = (1 : Int32) from by unfold own_f12_r; rw [if_pos (show (own_src sr1 w_Source_PROGRAM w_JDK w_LIBRARY w_UNKNOWN w_NOT_PROGRAM) = (own_src sr1 w_Source_PROGRAM w_JDK w_LIBRARY w_UNKNOWN w_NOT_PROGRAM) from rfl), if_pos (show (own_asp as1 w_Aspect_PROGRAM w_SOURCE w_SUPERCLASS w_INTERFACES w_INTERFACE w_DECLARES_METHOD w_FLAGS w_THROWS w_PROGRAM_METHOD w_FIELD w_CONCRETE_METHOD w_METHODS) = (own_asp as1 w_Aspect_PROGRAM w_SOURCE w_SUPERCLASS w_INTERFACES w_INTERFACE w_DECLARES_METHOD w_FLAGS w_THROWS w_PROGRAM_METHOD w_FIELD w_CONCRETE_METHOD w_METHODS) from rfl), if_pos (show (own_cs n1) = (own_cs n1) from rfl), if_pos (show (own_cs m1) = (own_cs m1) from rfl), if_pos (show (own_cs r1) = (own_cs r1) from rfl)]] at hQ60
                obtain ⟨rfl, N60q, e60⟩ := hQ60
                have N60 := Fr.app N56 N60q
                replace k : ow T60 (mkF m 361 #[.val (.long q1), .second, .val (.long q2), .second, ow_i p3, ow_i p4, .val (.long n1), .second, .val (.long m1), .second, .val (.long r1), .second, .val (.long n2), .second, .val (.long m2), .second, .val (.long r2), .second, ow_i sr1, ow_i as1, ow_i sr2, ow_i as2, ow_i kd, ow_r a26, ow_r a27, ow_r a28, ow_r a29, ow_r a30, ow_r a31, ow_r b32, ow_r b36, ow_r b36, ow_i 1, ow_i 1, .unset] [(.ref b36), (.ref b32)]) := fun t q => k t (XS.istore X60.here hx rfl (hb hby at_355) rfl (l' := #[.val (.long q1), .second, .val (.long q2), .second, ow_i p3, ow_i p4, .val (.long n1), .second, .val (.long m1), .second, .val (.long r1), .second, .val (.long n2), .second, .val (.long m2), .second, .val (.long r2), .second, ow_i sr1, ow_i as1, ow_i sr2, ow_i as2, ow_i kd, ow_r a26, ow_r a27, ow_r a28, ow_r a29, ow_r a30, ow_r a31, ow_r b32, ow_r b36, ow_r b36, ow_i 1, ow_i 1, .unset]) rfl (XS.aload X60.here hx rfl (hb hby at_357) rfl rfl (XS.aload X60.here hx rfl (hb hby at_359) rfl rfl q)))
                obtain ⟨_, T61, L61, X61, hQ61, k⟩ := own_cV X60 hx hw hZ hown e60 k (own_m12_r l Z a0 hw [] b32 b36 (own_src sr1 w_Source_PROGRAM w_JDK w_LIBRARY w_UNKNOWN w_NOT_PROGRAM) (own_src sr2 w_Source_PROGRAM w_JDK w_LIBRARY w_UNKNOWN w_NOT_PROGRAM) (own_asp as1 w_Aspect_PROGRAM w_SOURCE w_SUPERCLASS w_INTERFACES w_INTERFACE w_DECLARES_METHOD w_FLAGS w_THROWS w_PROGRAM_METHOD w_FIELD w_CONCRETE_METHOD w_METHODS) (own_asp as2 w_Aspect_PROGRAM w_SOURCE w_SUPERCLASS w_INTERFACES w_INTERFACE w_DECLARES_METHOD w_FLAGS w_THROWS w_PROGRAM_METHOD w_FIELD w_CONCRETE_METHOD w_METHODS) a26 a29 (own_cs n1) (own_cs n2) w_COMPACT_STRINGS a27 a30 (own_cs m1) (own_cs m2) a28 a31 (own_cs r1) (own_cs r2) h39 n0 Z39 EC39_0 ((FC35_1.ext E36).keep KC39 (ninS (Nat.ne_of_lt (Nat.lt_of_lt_of_le EC35_0.lt (Nat.le_of_eq g36.symm))) nin0)) FC39_1 ((FC35_2.ext E36).keep KC39 (ninS (Nat.ne_of_lt (Nat.lt_of_lt_of_le EC35_0.lt (Nat.le_of_eq g36.symm))) nin0)) FC39_2 ((FC35_0.ext E36).keep KC39 (ninS (Nat.ne_of_lt (Nat.lt_of_lt_of_le EC35_0.lt (Nat.le_of_eq g36.symm))) nin0)) FC39_0 (((((((((TX26.keep (a0 := a0) KC27 all0).keep (a0 := a0) KC28 all0).keep (a0 := a0) KC29 all0).keep (a0 := a0) KC30 all0).keep (a0 := a0) KC31 all0).ext E32).keep (a0 := a0) KC35 (allS ⟨"com/example/callsite/callsite/bytecode/ClassRead", _, by decide, A32, (own_h hw 36 rfl)⟩ all0)).ext E36).keep (a0 := a0) KC39 (allS ⟨"com/example/callsite/callsite/bytecode/ClassRead", _, by decide, A36, (own_h hw 36 rfl)⟩ all0)) ((((((TX29.keep (a0 := a0) KC30 all0).keep (a0 := a0) KC31 all0).ext E32).keep (a0 := a0) KC35 (allS ⟨"com/example/callsite/callsite/bytecode/ClassRead", _, by decide, A32, (own_h hw 36 rfl)⟩ all0)).ext E36).keep (a0 := a0) KC39 (allS ⟨"com/example/callsite/callsite/bytecode/ClassRead", _, by decide, A36, (own_h hw 36 rfl)⟩ all0)) (own_sta_keep ((own_sta_keep ((own_sta_keep (own_sta_keep (own_sta_keep (own_sta_keep (own_sta_keep (own_sta_keep S_COMPACT_STRINGS KC26 ns0) KC27 ns0) KC28 ns0) KC29 ns0) KC30 ns0) KC31 ns0).ext E32) KC35 (nsS (Exa.nostat A32) ns0)).ext E36) KC39 (nsS (Exa.nostat A36) ns0)) ((FC35_3.ext E36).keep KC39 (ninS (Nat.ne_of_lt (Nat.lt_of_lt_of_le EC35_0.lt (Nat.le_of_eq g36.symm))) nin0)) FC39_3 ((((((((TX27.keep (a0 := a0) KC28 all0).keep (a0 := a0) KC29 all0).keep (a0 := a0) KC30 all0).keep (a0 := a0) KC31 all0).ext E32).keep (a0 := a0) KC35 (allS ⟨"com/example/callsite/callsite/bytecode/ClassRead", _, by decide, A32, (own_h hw 36 rfl)⟩ all0)).ext E36).keep (a0 := a0) KC39 (allS ⟨"com/example/callsite/callsite/bytecode/ClassRead", _, by decide, A36, (own_h hw 36 rfl)⟩ all0)) (((((TX30.keep (a0 := a0) KC31 all0).ext E32).keep (a0 := a0) KC35 (allS ⟨"com/example/callsite/callsite/bytecode/ClassRead", _, by decide, A32, (own_h hw 36 rfl)⟩ all0)).ext E36).keep (a0 := a0) KC39 (allS ⟨"com/example/callsite/callsite/bytecode/ClassRead", _, by decide, A36, (own_h hw 36 rfl)⟩ all0)) ((FC35_4.ext E36).keep KC39 (ninS (Nat.ne_of_lt (Nat.lt_of_lt_of_le EC35_0.lt (Nat.le_of_eq g36.symm))) nin0)) FC39_4 (((((((TX28.keep (a0 := a0) KC29 all0).keep (a0 := a0) KC30 all0).keep (a0 := a0) KC31 all0).ext E32).keep (a0 := a0) KC35 (allS ⟨"com/example/callsite/callsite/bytecode/ClassRead", _, by decide, A32, (own_h hw 36 rfl)⟩ all0)).ext E36).keep (a0 := a0) KC39 (allS ⟨"com/example/callsite/callsite/bytecode/ClassRead", _, by decide, A36, (own_h hw 36 rfl)⟩ all0)) ((((TX31.ext E32).keep (a0 := a0) KC35 (allS ⟨"com/example/callsite/callsite/bytecode/ClassRead", _, by decide, A32, (own_h hw 36 rfl)⟩ all0)).ext E36).keep (a0 := a0) KC39 (allS ⟨"com/example/callsite/callsite/bytecode/ClassRead", _, by decide, A36, (own_h hw 36 rfl)⟩ all0)) hz) 72 73 75 74 76 37 rfl rfl rfl rfl rfl rfl ((EC35_0.ext E36).keep KC39) (by decide) rfl (by rw [hml]; rfl) [(.ref b36)] [] (lenOf own_pd10 rfl) rfl rfl (W := 0) own_le (hb hby at_361) (by decide) (by decide) (by decide) (by decide)
                rw [show own_f12_r (own_src sr1 w_Source_PROGRAM w_JDK w_LIBRARY w_UNKNOWN w_NOT_PROGRAM) (own_src sr2 w_Source_PROGRAM w_JDK w_LIBRARY w_UNKNOWN w_NOT_PROGRAM) (own_asp as1 w_Aspect_PROGRAM w_SOURCE w_SUPERCLASS w_INTERFACES w_INTERFACE w_DECLARES_METHOD w_FLAGS w_THROWS w_PROGRAM_METHOD w_FIELD w_CONCRETE_METHOD w_METHODS) (own_asp as2 w_Aspect_PROGRAM w_SOURCE w_SUPERCLASS w_INTERFACES w_INTERFACE w_DECLARES_METHOD w_FLAGS w_THROWS w_PROGRAM_METHOD w_FIELD w_CONCRETE_METHOD w_METHODS) (own_cs n1) (own_cs n2) (own_cs m1) (own_cs m2) (own_cs r1) (own_cs r2) = (1 : Int32) from by unfold own_f12_r; rw [if_pos (show (own_src sr1 w_Source_PROGRAM w_JDK w_LIBRARY w_UNKNOWN w_NOT_PROGRAM) = (own_src sr2 w_Source_PROGRAM w_JDK w_LIBRARY w_UNKNOWN w_NOT_PROGRAM) from (by rw [hc46])), if_pos (show (own_asp as1 w_Aspect_PROGRAM w_SOURCE w_SUPERCLASS w_INTERFACES w_INTERFACE w_DECLARES_METHOD w_FLAGS w_THROWS w_PROGRAM_METHOD w_FIELD w_CONCRETE_METHOD w_METHODS) = (own_asp as2 w_Aspect_PROGRAM w_SOURCE w_SUPERCLASS w_INTERFACES w_INTERFACE w_DECLARES_METHOD w_FLAGS w_THROWS w_PROGRAM_METHOD w_FIELD w_CONCRETE_METHOD w_METHODS) from (by rw [hc47])), if_pos (show (own_cs n1) = (own_cs n2) from (own_same_eq _ _ hc49)), if_pos (show (own_cs m1) = (own_cs m2) from (own_same_eq _ _ hc53)), if_pos (show (own_cs r1) = (own_cs r2) from (own_same_eq _ _ hc57))]] at hQ61
                obtain ⟨rfl, N61q, e61⟩ := hQ61
                have N61 := Fr.app N60 N61q
                replace k : ow T61 (mkF m 371 #[.val (.long q1), .second, .val (.long q2), .second, ow_i p3, ow_i p4, .val (.long n1), .second, .val (.long m1), .second, .val (.long r1), .second, .val (.long n2), .second, .val (.long m2), .second, .val (.long r2), .second, ow_i sr1, ow_i as1, ow_i sr2, ow_i as2, ow_i kd, ow_r a26, ow_r a27, ow_r a28, ow_r a29, ow_r a30, ow_r a31, ow_r b32, ow_r b36, ow_r b36, ow_i 1, ow_i 1, ow_i 1] []) := fun t q => k t (XS.istore X61.here hx rfl (hb hby at_364) rfl (l' := #[.val (.long q1), .second, .val (.long q2), .second, ow_i p3, ow_i p4, .val (.long n1), .second, .val (.long m1), .second, .val (.long r1), .second, .val (.long n2), .second, .val (.long m2), .second, .val (.long r2), .second, ow_i sr1, ow_i as1, ow_i sr2, ow_i as2, ow_i kd, ow_r a26, ow_r a27, ow_r a28, ow_r a29, ow_r a30, ow_r a31, ow_r b32, ow_r b36, ow_r b36, ow_i 1, ow_i 1, ow_i 1]) rfl (XS.iload X61.here hx rfl (hb hby at_366) rfl (XS.ifNo X61.here hx rfl (hb hby at_368) rfl ((if0 _ _).trans (feq (show ¬ ((1 : Int32) = (0 : Int32)) from (by decide))).1) q)))
                replace k : ow T61 (mkF m 378 #[.val (.long q1), .second, .val (.long q2), .second, ow_i p3, ow_i p4, .val (.long n1), .second, .val (.long m1), .second, .val (.long r1), .second, .val (.long n2), .second, .val (.long m2), .second, .val (.long r2), .second, ow_i sr1, ow_i as1, ow_i sr2, ow_i as2, ow_i kd, ow_r a26, ow_r a27, ow_r a28, ow_r a29, ow_r a30, ow_r a31, ow_r b32, ow_r b36, ow_r b36, ow_i 1, ow_i 1, ow_i 1] []) := fun t q => k t (XS.iload X61.here hx rfl (hb hby at_371) rfl (XS.iload X61.here hx rfl (hb hby at_373) rfl (XS.icmpNo X61.here hx rfl (hb hby at_375) rfl (teq (show (1 : Int32) = (1 : Int32) from (by decide))).2 q)))
                replace k : ow T61 (mkF m 383 #[.val (.long q1), .second, .val (.long q2), .second, ow_i p3, ow_i p4, .val (.long n1), .second, .val (.long m1), .second, .val (.long r1), .second, .val (.long n2), .second, .val (.long m2), .second, .val (.long r2), .second, ow_i sr1, ow_i as1, ow_i sr2, ow_i as2, ow_i kd, ow_r a26, ow_r a27, ow_r a28, ow_r a29, ow_r a30, ow_r a31, ow_r b32, ow_r b36, ow_r b36, ow_i 1, ow_i 1, ow_i 1] [(.int 1)]) := fun t q => k t (XS.iconst X61.here hx rfl (hb hby at_378) (XS.goto X61.here hx rfl (pc0 := 379) (pc' := 383) rfl (hb hby at_379) (by decide) (by decide) q))
                obtain ⟨fs, hr, hrun, hended, hEnd⟩ := X61.leaveW hS31 (by rw [e61]; exact hk39) (v := some (.int 1)) (fun h => by rw [Bd.returns] at h; cases h)
                have hChr := CR39.trans (CHv.at X61 hZ (own_EW hw) CH39)
                refine ⟨_, _, k _ ?_, hrun, hended, _, _, rfl, ?_, ?_, own_monoW hEnd (by decide) (by decide)⟩
                · exact retN X61 hx (t := .boolean) Bd.returns (by simp) (hb hby at_383) hr
                · show own_Q0 n0 _ _
                  exact ⟨rfl, N61⟩
                · rw [hh]; show CHr Z consts_1 s.vm h0 T61.vm T61.heap; rw [e61]; exact hChr
        · replace k : ow T39 (mkF m 345 #[.val (.long q1), .second, .val (.long q2), .second, ow_i p3, ow_i p4, .val (.long n1), .second, .val (.long m1), .second, .val (.long r1), .second, .val (.long n2), .second, .val (.long m2), .second, .val (.long r2), .second, ow_i sr1, ow_i as1, ow_i sr2, ow_i as2, ow_i kd, ow_r a26, ow_r a27, ow_r a28, ow_r a29, ow_r a30, ow_r a31, ow_r b32, ow_r b36, ow_r b36, .unset, .unset, .unset] []) := fun t q => k t (XS.iload X39.here hx rfl (hb hby at_304) rfl (XS.iload X39.here hx rfl (hb hby at_306) rfl (XS.icmpYes X39.here hx rfl (pc0 := 308) (pc' := 345) rfl (hb hby at_308) rfl (feq (show ¬ (as1 = as2) from hc47)).2 (by decide) (by decide) q)))
          replace k : ow T39 (mkF m 350 #[.val (.long q1), .second, .val (.long q2), .second, ow_i p3, ow_i p4, .val (.long n1), .second, .val (.long m1), .second, .val (.long r1), .second, .val (.long n2), .second, .val (.long m2), .second, .val (.long r2), .second, ow_i sr1, ow_i as1, ow_i sr2, ow_i as2, ow_i kd, ow_r a26, ow_r a27, ow_r a28, ow_r a29, ow_r a30, ow_r a31, ow_r b32, ow_r b36, ow_r b36, ow_i 0, .unset, .unset] [(.ref b32)]) := fun t q => k t (XS.iconst X39.here hx rfl (hb hby at_345) (XS.istore X39.here hx rfl (hb hby at_346) rfl (l' := #[.val (.long q1), .second, .val (.long q2), .second, ow_i p3, ow_i p4, .val (.long n1), .second, .val (.long m1), .second, .val (.long r1), .second, .val (.long n2), .second, .val (.long m2), .second, .val (.long r2), .second, ow_i sr1, ow_i as1, ow_i sr2, ow_i as2, ow_i kd, ow_r a26, ow_r a27, ow_r a28, ow_r a29, ow_r a30, ow_r a31, ow_r b32, ow_r b36, ow_r b36, ow_i 0, .unset, .unset]) rfl (XS.aload X39.here hx rfl (hb hby at_348) rfl rfl q)))
          replace k : ow T39 (mkF m 352 #[.val (.long q1), .second, .val (.long q2), .second, ow_i p3, ow_i p4, .val (.long n1), .second, .val (.long m1), .second, .val (.long r1), .second, .val (.long n2), .second, .val (.long m2), .second, .val (.long r2), .second, ow_i sr1, ow_i as1, ow_i sr2, ow_i as2, ow_i kd, ow_r a26, ow_r a27, ow_r a28, ow_r a29, ow_r a30, ow_r a31, ow_r b32, ow_r b36, ow_r b36, ow_i 0, .unset, .unset] [(.ref b32), (.ref b32)]) := fun t q => k t (XS.aload X39.here hx rfl (hb hby at_350) rfl rfl q)
          obtain ⟨_, T62, L62, X62, hQ62, k⟩ := own_cV X39 hx hw hZ hown e39 k (own_m12_r l Z a0 hw [] b32 b32 (own_src sr1 w_Source_PROGRAM w_JDK w_LIBRARY w_UNKNOWN w_NOT_PROGRAM) (own_src sr1 w_Source_PROGRAM w_JDK w_LIBRARY w_UNKNOWN w_NOT_PROGRAM) (own_asp as1 w_Aspect_PROGRAM w_SOURCE w_SUPERCLASS w_INTERFACES w_INTERFACE w_DECLARES_METHOD w_FLAGS w_THROWS w_PROGRAM_METHOD w_FIELD w_CONCRETE_METHOD w_METHODS) (own_asp as1 w_Aspect_PROGRAM w_SOURCE w_SUPERCLASS w_INTERFACES w_INTERFACE w_DECLARES_METHOD w_FLAGS w_THROWS w_PROGRAM_METHOD w_FIELD w_CONCRETE_METHOD w_METHODS) a26 a26 (own_cs n1) (own_cs n1) w_COMPACT_STRINGS a27 a27 (own_cs m1) (own_cs m1) a28 a28 (own_cs r1) (own_cs r1) h39 n0 Z39 ((EC35_0.ext E36).keep KC39) ((FC35_1.ext E36).keep KC39 (ninS (Nat.ne_of_lt (Nat.lt_of_lt_of_le EC35_0.lt (Nat.le_of_eq g36.symm))) nin0)) ((FC35_1.ext E36).keep KC39 (ninS (Nat.ne_of_lt (Nat.lt_of_lt_of_le EC35_0.lt (Nat.le_of_eq g36.symm))) nin0)) ((FC35_2.ext E36).keep KC39 (ninS (Nat.ne_of_lt (Nat.lt_of_lt_of_le EC35_0.lt (Nat.le_of_eq g36.symm))) nin0)) ((FC35_2.ext E36).keep KC39 (ninS (Nat.ne_of_lt (Nat.lt_of_lt_of_le EC35_0.lt (Nat.le_of_eq g36.symm))) nin0)) ((FC35_0.ext E36).keep KC39 (ninS (Nat.ne_of_lt (Nat.lt_of_lt_of_le EC35_0.lt (Nat.le_of_eq g36.symm))) nin0)) ((FC35_0.ext E36).keep KC39 (ninS (Nat.ne_of_lt (Nat.lt_of_lt_of_le EC35_0.lt (Nat.le_of_eq g36.symm))) nin0)) (((((((((TX26.keep (a0 := a0) KC27 all0).keep (a0 := a0) KC28 all0).keep (a0 := a0) KC29 all0).keep (a0 := a0) KC30 all0).keep (a0 := a0) KC31 all0).ext E32).keep (a0 := a0) KC35 (allS ⟨"com/example/callsite/callsite/bytecode/ClassRead", _, by decide, A32, (own_h hw 36 rfl)⟩ all0)).ext E36).keep (a0 := a0) KC39 (allS ⟨"com/example/callsite/callsite/bytecode/ClassRead", _, by decide, A36, (own_h hw 36 rfl)⟩ all0)) (((((((((TX26.keep (a0 := a0) KC27 all0).keep (a0 := a0) KC28 all0).keep (a0 := a0) KC29 all0).keep (a0 := a0) KC30 all0).keep (a0 := a0) KC31 all0).ext E32).keep (a0 := a0) KC35 (allS ⟨"com/example/callsite/callsite/bytecode/ClassRead", _, by decide, A32, (own_h hw 36 rfl)⟩ all0)).ext E36).keep (a0 := a0) KC39 (allS ⟨"com/example/callsite/callsite/bytecode/ClassRead", _, by decide, A36, (own_h hw 36 rfl)⟩ all0)) (own_sta_keep ((own_sta_keep ((own_sta_keep (own_sta_keep (own_sta_keep (own_sta_keep (own_sta_keep (own_sta_keep S_COMPACT_STRINGS KC26 ns0) KC27 ns0) KC28 ns0) KC29 ns0) KC30 ns0) KC31 ns0).ext E32) KC35 (nsS (Exa.nostat A32) ns0)).ext E36) KC39 (nsS (Exa.nostat A36) ns0)) ((FC35_3.ext E36).keep KC39 (ninS (Nat.ne_of_lt (Nat.lt_of_lt_of_le EC35_0.lt (Nat.le_of_eq g36.symm))) nin0)) ((FC35_3.ext E36).keep KC39 (ninS (Nat.ne_of_lt (Nat.lt_of_lt_of_le EC35_0.lt (Nat.le_of_eq g36.symm))) nin0)) ((((((((TX27.keep (a0 := a0) KC28 all0).keep (a0 := a0) KC29 all0).keep (a0 := a0) KC30 all0).keep (a0 := a0) KC31 all0).ext E32).keep (a0 := a0) KC35 (allS ⟨"com/example/callsite/callsite/bytecode/ClassRead", _, by decide, A32, (own_h hw 36 rfl)⟩ all0)).ext E36).keep (a0 := a0) KC39 (allS ⟨"com/example/callsite/callsite/bytecode/ClassRead", _, by decide, A36, (own_h hw 36 rfl)⟩ all0)) ((((((((TX27.keep (a0 := a0) KC28 all0).keep (a0 := a0) KC29 all0).keep (a0 := a0) KC30 all0).keep (a0 := a0) KC31 all0).ext E32).keep (a0 := a0) KC35 (allS ⟨"com/example/callsite/callsite/bytecode/ClassRead", _, by decide, A32, (own_h hw 36 rfl)⟩ all0)).ext E36).keep (a0 := a0) KC39 (allS ⟨"com/example/callsite/callsite/bytecode/ClassRead", _, by decide, A36, (own_h hw 36 rfl)⟩ all0)) ((FC35_4.ext E36).keep KC39 (ninS (Nat.ne_of_lt (Nat.lt_of_lt_of_le EC35_0.lt (Nat.le_of_eq g36.symm))) nin0)) ((FC35_4.ext E36).keep KC39 (ninS (Nat.ne_of_lt (Nat.lt_of_lt_of_le EC35_0.lt (Nat.le_of_eq g36.symm))) nin0)) (((((((TX28.keep (a0 := a0) KC29 all0).keep (a0 := a0) KC30 all0).keep (a0 := a0) KC31 all0).ext E32).keep (a0 := a0) KC35 (allS ⟨"com/example/callsite/callsite/bytecode/ClassRead", _, by decide, A32, (own_h hw 36 rfl)⟩ all0)).ext E36).keep (a0 := a0) KC39 (allS ⟨"com/example/callsite/callsite/bytecode/ClassRead", _, by decide, A36, (own_h hw 36 rfl)⟩ all0)) (((((((TX28.keep (a0 := a0) KC29 all0).keep (a0 := a0) KC30 all0).keep (a0 := a0) KC31 all0).ext E32).keep (a0 := a0) KC35 (allS ⟨"com/example/callsite/callsite/bytecode/ClassRead", _, by decide, A32, (own_h hw 36 rfl)⟩ all0)).ext E36).keep (a0 := a0) KC39 (allS ⟨"com/example/callsite/callsite/bytecode/ClassRead", _, by decide, A36, (own_h hw 36 rfl)⟩ all0)) hz) 72 73 75 74 76 37 rfl rfl rfl rfl rfl rfl ((EC35_0.ext E36).keep KC39) (by decide) rfl (by rw [hml]; rfl) [(.ref b32)] [] (lenOf own_pd10 rfl) rfl rfl (W := 0) own_le (hb hby at_352) (by decide) (by decide) (by decide) (by decide)
          rw [show own_f12_r (own_src sr1 w_Source_PROGRAM w_JDK w_LIBRARY w_UNKNOWN w_NOT_PROGRAM) (own_src sr1 w_Source_PROGRAM w_JDK w_LIBRARY w_UNKNOWN w_NOT_PROGRAM) (own_asp as1 w_Aspect_PROGRAM w_SOURCE w_SUPERCLASS w_INTERFACES w_INTERFACE w_DECLARES_METHOD w_FLAGS w_THROWS w_PROGRAM_METHOD w_FIELD w_CONCRETE_METHOD w_METHODS) (own_asp as1 w_Aspect_PROGRAM w_SOURCE w_SUPERCLASS w_INTERFACES w_INTERFACE w_DECLARES_METHOD w_FLAGS w_THROWS w_PROGRAM_METHOD w_FIELD w_CONCRETE_METHOD w_METHODS) (own_cs n1) (own_cs n1) (own_cs m1) (own_cs m1) (own_cs r1) (own_cs r1) = (1 : Int32) from by unfold own_f12_r; rw [if_pos (show (own_src sr1 w_Source_PROGRAM w_JDK w_LIBRARY w_UNKNOWN w_NOT_PROGRAM) = (own_src sr1 w_Source_PROGRAM w_JDK w_LIBRARY w_UNKNOWN w_NOT_PROGRAM) from rfl), if_pos (show (own_asp as1 w_Aspect_PROGRAM w_SOURCE w_SUPERCLASS w_INTERFACES w_INTERFACE w_DECLARES_METHOD w_FLAGS w_THROWS w_PROGRAM_METHOD w_FIELD w_CONCRETE_METHOD w_METHODS) = (own_asp as1 w_Aspect_PROGRAM w_SOURCE w_SUPERCLASS w_INTERFACES w_INTERFACE w_DECLARES_METHOD w_FLAGS w_THROWS w_PROGRAM_METHOD w_FIELD w_CONCRETE_METHOD w_METHODS) from rfl), if_pos (show (own_cs n1) = (own_cs n1) from rfl), if_pos (show (own_cs m1) = (own_cs m1) from rfl), if_pos (show (own_cs r1) = (own_cs r1) from rfl)]] at hQ62
          obtain ⟨rfl, N62q, e62⟩ := hQ62
          have N62 := Fr.app N39 N62q
          replace k : ow T62 (mkF m 361 #[.val (.long q1), .second, .val (.long q2), .second, ow_i p3, ow_i p4, .val (.long n1), .second, .val (.long m1), .second, .val (.long r1), .second, .val (.long n2), .second, .val (.long m2), .second, .val (.long r2), .second, ow_i sr1, ow_i as1, ow_i sr2, ow_i as2, ow_i kd, ow_r a26, ow_r a27, ow_r a28, ow_r a29, ow_r a30, ow_r a31, ow_r b32, ow_r b36, ow_r b36, ow_i 0, ow_i 1, .unset] [(.ref b36), (.ref b32)]) := fun t q => k t (XS.istore X62.here hx rfl (hb hby at_355) rfl (l' := #[.val (.long q1), .second, .val (.long q2), .second, ow_i p3, ow_i p4, .val (.long n1), .second, .val (.long m1), .second, .val (.long r1), .second, .val (.long n2), .second, .val (.long m2), .second, .val (.long r2), .second, ow_i sr1, ow_i as1, ow_i sr2, ow_i as2, ow_i kd, ow_r a26, ow_r a27, ow_r a28, ow_r a29, ow_r a30, ow_r a31, ow_r b32, ow_r b36, ow_r b36, ow_i 0, ow_i 1, .unset]) rfl (XS.aload X62.here hx rfl (hb hby at_357) rfl rfl (XS.aload X62.here hx rfl (hb hby at_359) rfl rfl q)))
          obtain ⟨_, T63, L63, X63, hQ63, k⟩ := own_cV X62 hx hw hZ hown e62 k (own_m12_r l Z a0 hw [] b32 b36 (own_src sr1 w_Source_PROGRAM w_JDK w_LIBRARY w_UNKNOWN w_NOT_PROGRAM) (own_src sr2 w_Source_PROGRAM w_JDK w_LIBRARY w_UNKNOWN w_NOT_PROGRAM) (own_asp as1 w_Aspect_PROGRAM w_SOURCE w_SUPERCLASS w_INTERFACES w_INTERFACE w_DECLARES_METHOD w_FLAGS w_THROWS w_PROGRAM_METHOD w_FIELD w_CONCRETE_METHOD w_METHODS) (own_asp as2 w_Aspect_PROGRAM w_SOURCE w_SUPERCLASS w_INTERFACES w_INTERFACE w_DECLARES_METHOD w_FLAGS w_THROWS w_PROGRAM_METHOD w_FIELD w_CONCRETE_METHOD w_METHODS) a26 a29 (own_cs n1) (own_cs n2) w_COMPACT_STRINGS a27 a30 (own_cs m1) (own_cs m2) a28 a31 (own_cs r1) (own_cs r2) h39 n0 Z39 EC39_0 ((FC35_1.ext E36).keep KC39 (ninS (Nat.ne_of_lt (Nat.lt_of_lt_of_le EC35_0.lt (Nat.le_of_eq g36.symm))) nin0)) FC39_1 ((FC35_2.ext E36).keep KC39 (ninS (Nat.ne_of_lt (Nat.lt_of_lt_of_le EC35_0.lt (Nat.le_of_eq g36.symm))) nin0)) FC39_2 ((FC35_0.ext E36).keep KC39 (ninS (Nat.ne_of_lt (Nat.lt_of_lt_of_le EC35_0.lt (Nat.le_of_eq g36.symm))) nin0)) FC39_0 (((((((((TX26.keep (a0 := a0) KC27 all0).keep (a0 := a0) KC28 all0).keep (a0 := a0) KC29 all0).keep (a0 := a0) KC30 all0).keep (a0 := a0) KC31 all0).ext E32).keep (a0 := a0) KC35 (allS ⟨"com/example/callsite/callsite/bytecode/ClassRead", _, by decide, A32, (own_h hw 36 rfl)⟩ all0)).ext E36).keep (a0 := a0) KC39 (allS ⟨"com/example/callsite/callsite/bytecode/ClassRead", _, by decide, A36, (own_h hw 36 rfl)⟩ all0)) ((((((TX29.keep (a0 := a0) KC30 all0).keep (a0 := a0) KC31 all0).ext E32).keep (a0 := a0) KC35 (allS ⟨"com/example/callsite/callsite/bytecode/ClassRead", _, by decide, A32, (own_h hw 36 rfl)⟩ all0)).ext E36).keep (a0 := a0) KC39 (allS ⟨"com/example/callsite/callsite/bytecode/ClassRead", _, by decide, A36, (own_h hw 36 rfl)⟩ all0)) (own_sta_keep ((own_sta_keep ((own_sta_keep (own_sta_keep (own_sta_keep (own_sta_keep (own_sta_keep (own_sta_keep S_COMPACT_STRINGS KC26 ns0) KC27 ns0) KC28 ns0) KC29 ns0) KC30 ns0) KC31 ns0).ext E32) KC35 (nsS (Exa.nostat A32) ns0)).ext E36) KC39 (nsS (Exa.nostat A36) ns0)) ((FC35_3.ext E36).keep KC39 (ninS (Nat.ne_of_lt (Nat.lt_of_lt_of_le EC35_0.lt (Nat.le_of_eq g36.symm))) nin0)) FC39_3 ((((((((TX27.keep (a0 := a0) KC28 all0).keep (a0 := a0) KC29 all0).keep (a0 := a0) KC30 all0).keep (a0 := a0) KC31 all0).ext E32).keep (a0 := a0) KC35 (allS ⟨"com/example/callsite/callsite/bytecode/ClassRead", _, by decide, A32, (own_h hw 36 rfl)⟩ all0)).ext E36).keep (a0 := a0) KC39 (allS ⟨"com/example/callsite/callsite/bytecode/ClassRead", _, by decide, A36, (own_h hw 36 rfl)⟩ all0)) (((((TX30.keep (a0 := a0) KC31 all0).ext E32).keep (a0 := a0) KC35 (allS ⟨"com/example/callsite/callsite/bytecode/ClassRead", _, by decide, A32, (own_h hw 36 rfl)⟩ all0)).ext E36).keep (a0 := a0) KC39 (allS ⟨"com/example/callsite/callsite/bytecode/ClassRead", _, by decide, A36, (own_h hw 36 rfl)⟩ all0)) ((FC35_4.ext E36).keep KC39 (ninS (Nat.ne_of_lt (Nat.lt_of_lt_of_le EC35_0.lt (Nat.le_of_eq g36.symm))) nin0)) FC39_4 (((((((TX28.keep (a0 := a0) KC29 all0).keep (a0 := a0) KC30 all0).keep (a0 := a0) KC31 all0).ext E32).keep (a0 := a0) KC35 (allS ⟨"com/example/callsite/callsite/bytecode/ClassRead", _, by decide, A32, (own_h hw 36 rfl)⟩ all0)).ext E36).keep (a0 := a0) KC39 (allS ⟨"com/example/callsite/callsite/bytecode/ClassRead", _, by decide, A36, (own_h hw 36 rfl)⟩ all0)) ((((TX31.ext E32).keep (a0 := a0) KC35 (allS ⟨"com/example/callsite/callsite/bytecode/ClassRead", _, by decide, A32, (own_h hw 36 rfl)⟩ all0)).ext E36).keep (a0 := a0) KC39 (allS ⟨"com/example/callsite/callsite/bytecode/ClassRead", _, by decide, A36, (own_h hw 36 rfl)⟩ all0)) hz) 72 73 75 74 76 37 rfl rfl rfl rfl rfl rfl ((EC35_0.ext E36).keep KC39) (by decide) rfl (by rw [hml]; rfl) [(.ref b36)] [] (lenOf own_pd10 rfl) rfl rfl (W := 0) own_le (hb hby at_361) (by decide) (by decide) (by decide) (by decide)
          rw [show own_f12_r (own_src sr1 w_Source_PROGRAM w_JDK w_LIBRARY w_UNKNOWN w_NOT_PROGRAM) (own_src sr2 w_Source_PROGRAM w_JDK w_LIBRARY w_UNKNOWN w_NOT_PROGRAM) (own_asp as1 w_Aspect_PROGRAM w_SOURCE w_SUPERCLASS w_INTERFACES w_INTERFACE w_DECLARES_METHOD w_FLAGS w_THROWS w_PROGRAM_METHOD w_FIELD w_CONCRETE_METHOD w_METHODS) (own_asp as2 w_Aspect_PROGRAM w_SOURCE w_SUPERCLASS w_INTERFACES w_INTERFACE w_DECLARES_METHOD w_FLAGS w_THROWS w_PROGRAM_METHOD w_FIELD w_CONCRETE_METHOD w_METHODS) (own_cs n1) (own_cs n2) (own_cs m1) (own_cs m2) (own_cs r1) (own_cs r2) = (0 : Int32) from by unfold own_f12_r; rw [if_pos (show (own_src sr1 w_Source_PROGRAM w_JDK w_LIBRARY w_UNKNOWN w_NOT_PROGRAM) = (own_src sr2 w_Source_PROGRAM w_JDK w_LIBRARY w_UNKNOWN w_NOT_PROGRAM) from (by rw [hc46])), if_neg (show ¬ ((own_asp as1 w_Aspect_PROGRAM w_SOURCE w_SUPERCLASS w_INTERFACES w_INTERFACE w_DECLARES_METHOD w_FLAGS w_THROWS w_PROGRAM_METHOD w_FIELD w_CONCRETE_METHOD w_METHODS) = (own_asp as2 w_Aspect_PROGRAM w_SOURCE w_SUPERCLASS w_INTERFACES w_INTERFACE w_DECLARES_METHOD w_FLAGS w_THROWS w_PROGRAM_METHOD w_FIELD w_CONCRETE_METHOD w_METHODS)) from (own_asp_inj w_Aspect_PROGRAM w_SOURCE w_SUPERCLASS w_INTERFACES w_INTERFACE w_DECLARES_METHOD w_FLAGS w_THROWS w_PROGRAM_METHOD w_FIELD w_CONCRETE_METHOD w_METHODS ne_Aspect_PROGRAM_SOURCE ne_Aspect_PROGRAM_SUPERCLASS ne_Aspect_PROGRAM_INTERFACES ne_Aspect_PROGRAM_INTERFACE ne_Aspect_PROGRAM_DECLARES_METHOD ne_Aspect_PROGRAM_FLAGS ne_Aspect_PROGRAM_THROWS ne_Aspect_PROGRAM_PROGRAM_METHOD ne_Aspect_PROGRAM_FIELD ne_Aspect_PROGRAM_CONCRETE_METHOD ne_Aspect_PROGRAM_METHODS ne_SOURCE_SUPERCLASS ne_SOURCE_INTERFACES ne_SOURCE_INTERFACE ne_SOURCE_DECLARES_METHOD ne_SOURCE_FLAGS ne_SOURCE_THROWS ne_SOURCE_PROGRAM_METHOD ne_SOURCE_FIELD ne_SOURCE_CONCRETE_METHOD ne_SOURCE_METHODS ne_SUPERCLASS_INTERFACES ne_SUPERCLASS_INTERFACE ne_SUPERCLASS_DECLARES_METHOD ne_SUPERCLASS_FLAGS ne_SUPERCLASS_THROWS ne_SUPERCLASS_PROGRAM_METHOD ne_SUPERCLASS_FIELD ne_SUPERCLASS_CONCRETE_METHOD ne_SUPERCLASS_METHODS ne_INTERFACES_INTERFACE ne_INTERFACES_DECLARES_METHOD ne_INTERFACES_FLAGS ne_INTERFACES_THROWS ne_INTERFACES_PROGRAM_METHOD ne_INTERFACES_FIELD ne_INTERFACES_CONCRETE_METHOD ne_INTERFACES_METHODS ne_INTERFACE_DECLARES_METHOD ne_INTERFACE_FLAGS ne_INTERFACE_THROWS ne_INTERFACE_PROGRAM_METHOD ne_INTERFACE_FIELD ne_INTERFACE_CONCRETE_METHOD ne_INTERFACE_METHODS ne_DECLARES_METHOD_FLAGS ne_DECLARES_METHOD_THROWS ne_DECLARES_METHOD_PROGRAM_METHOD ne_DECLARES_METHOD_FIELD ne_DECLARES_METHOD_CONCRETE_METHOD ne_DECLARES_METHOD_METHODS ne_FLAGS_THROWS ne_FLAGS_PROGRAM_METHOD ne_FLAGS_FIELD ne_FLAGS_CONCRETE_METHOD ne_FLAGS_METHODS ne_THROWS_PROGRAM_METHOD ne_THROWS_FIELD ne_THROWS_CONCRETE_METHOD ne_THROWS_METHODS ne_PROGRAM_METHOD_FIELD ne_PROGRAM_METHOD_CONCRETE_METHOD ne_PROGRAM_METHOD_METHODS ne_FIELD_CONCRETE_METHOD ne_FIELD_METHODS ne_CONCRETE_METHOD_METHODS rg_as1 rg_as2 hc47))]] at hQ63
          obtain ⟨rfl, N63q, e63⟩ := hQ63
          have N63 := Fr.app N62 N63q
          replace k : ow T63 (mkF m 371 #[.val (.long q1), .second, .val (.long q2), .second, ow_i p3, ow_i p4, .val (.long n1), .second, .val (.long m1), .second, .val (.long r1), .second, .val (.long n2), .second, .val (.long m2), .second, .val (.long r2), .second, ow_i sr1, ow_i as1, ow_i sr2, ow_i as2, ow_i kd, ow_r a26, ow_r a27, ow_r a28, ow_r a29, ow_r a30, ow_r a31, ow_r b32, ow_r b36, ow_r b36, ow_i 0, ow_i 1, ow_i 0] []) := fun t q => k t (XS.istore X63.here hx rfl (hb hby at_364) rfl (l' := #[.val (.long q1), .second, .val (.long q2), .second, ow_i p3, ow_i p4, .val (.long n1), .second, .val (.long m1), .second, .val (.long r1), .second, .val (.long n2), .second, .val (.long m2), .second, .val (.long r2), .second, ow_i sr1, ow_i as1, ow_i sr2, ow_i as2, ow_i kd, ow_r a26, ow_r a27, ow_r a28, ow_r a29, ow_r a30, ow_r a31, ow_r b32, ow_r b36, ow_r b36, ow_i 0, ow_i 1, ow_i 0]) rfl (XS.iload X63.here hx rfl (hb hby at_366) rfl (XS.ifNo X63.here hx rfl (hb hby at_368) rfl ((if0 _ _).trans (feq (show ¬ ((1 : Int32) = (0 : Int32)) from (by decide))).1) q)))
          replace k : ow T63 (mkF m 378 #[.val (.long q1), .second, .val (.long q2), .second, ow_i p3, ow_i p4, .val (.long n1), .second, .val (.long m1), .second, .val (.long r1), .second, .val (.long n2), .second, .val (.long m2), .second, .val (.long r2), .second, ow_i sr1, ow_i as1, ow_i sr2, ow_i as2, ow_i kd, ow_r a26, ow_r a27, ow_r a28, ow_r a29, ow_r a30, ow_r a31, ow_r b32, ow_r b36, ow_r b36, ow_i 0, ow_i 1, ow_i 0] []) := fun t q => k t (XS.iload X63.here hx rfl (hb hby at_371) rfl (XS.iload X63.here hx rfl (hb hby at_373) rfl (XS.icmpNo X63.here hx rfl (hb hby at_375) rfl (teq (show (0 : Int32) = (0 : Int32) from (by decide))).2 q)))
          replace k : ow T63 (mkF m 383 #[.val (.long q1), .second, .val (.long q2), .second, ow_i p3, ow_i p4, .val (.long n1), .second, .val (.long m1), .second, .val (.long r1), .second, .val (.long n2), .second, .val (.long m2), .second, .val (.long r2), .second, ow_i sr1, ow_i as1, ow_i sr2, ow_i as2, ow_i kd, ow_r a26, ow_r a27, ow_r a28, ow_r a29, ow_r a30, ow_r a31, ow_r b32, ow_r b36, ow_r b36, ow_i 0, ow_i 1, ow_i 0] [(.int 1)]) := fun t q => k t (XS.iconst X63.here hx rfl (hb hby at_378) (XS.goto X63.here hx rfl (pc0 := 379) (pc' := 383) rfl (hb hby at_379) (by decide) (by decide) q))
          obtain ⟨fs, hr, hrun, hended, hEnd⟩ := X63.leaveW hS31 (by rw [e63]; exact hk39) (v := some (.int 1)) (fun h => by rw [Bd.returns] at h; cases h)
          have hChr := CR39.trans (CHv.at X63 hZ (own_EW hw) CH39)
          refine ⟨_, _, k _ ?_, hrun, hended, _, _, rfl, ?_, ?_, own_monoW hEnd (by decide) (by decide)⟩
          · exact retN X63 hx (t := .boolean) Bd.returns (by simp) (hb hby at_383) hr
          · show own_Q0 n0 _ _
            exact ⟨rfl, N63⟩
          · rw [hh]; show CHr Z consts_1 s.vm h0 T63.vm T63.heap; rw [e63]; exact hChr
      · replace k : ow T39 (mkF m 345 #[.val (.long q1), .second, .val (.long q2), .second, ow_i p3, ow_i p4, .val (.long n1), .second, .val (.long m1), .second, .val (.long r1), .second, .val (.long n2), .second, .val (.long m2), .second, .val (.long r2), .second, ow_i sr1, ow_i as1, ow_i sr2, ow_i as2, ow_i kd, ow_r a26, ow_r a27, ow_r a28, ow_r a29, ow_r a30, ow_r a31, ow_r b32, ow_r b36, ow_r b36, .unset, .unset, .unset] []) := fun t q => k t (XS.iload X39.here hx rfl (hb hby at_299) rfl (XS.icmpYes X39.here hx rfl (pc0 := 301) (pc' := 345) rfl (hb hby at_301) rfl (feq (show ¬ (sr1 = sr2) from hc46)).2 (by decide) (by decide) q))
        replace k : ow T39 (mkF m 350 #[.val (.long q1), .second, .val (.long q2), .second, ow_i p3, ow_i p4, .val (.long n1), .second, .val (.long m1), .second, .val (.long r1), .second, .val (.long n2), .second, .val (.long m2), .second, .val (.long r2), .second, ow_i sr1, ow_i as1, ow_i sr2, ow_i as2, ow_i kd, ow_r a26, ow_r a27, ow_r a28, ow_r a29, ow_r a30, ow_r a31, ow_r b32, ow_r b36, ow_r b36, ow_i 0, .unset, .unset] [(.ref b32)]) := fun t q => k t (XS.iconst X39.here hx rfl (hb hby at_345) (XS.istore X39.here hx rfl (hb hby at_346) rfl (l' := #[.val (.long q1), .second, .val (.long q2), .second, ow_i p3, ow_i p4, .val (.long n1), .second, .val (.long m1), .second, .val (.long r1), .second, .val (.long n2), .second, .val (.long m2), .second, .val (.long r2), .second, ow_i sr1, ow_i as1, ow_i sr2, ow_i as2, ow_i kd, ow_r a26, ow_r a27, ow_r a28, ow_r a29, ow_r a30, ow_r a31, ow_r b32, ow_r b36, ow_r b36, ow_i 0, .unset, .unset]) rfl (XS.aload X39.here hx rfl (hb hby at_348) rfl rfl q)))
        replace k : ow T39 (mkF m 352 #[.val (.long q1), .second, .val (.long q2), .second, ow_i p3, ow_i p4, .val (.long n1), .second, .val (.long m1), .second, .val (.long r1), .second, .val (.long n2), .second, .val (.long m2), .second, .val (.long r2), .second, ow_i sr1, ow_i as1, ow_i sr2, ow_i as2, ow_i kd, ow_r a26, ow_r a27, ow_r a28, ow_r a29, ow_r a30, ow_r a31, ow_r b32, ow_r b36, ow_r b36, ow_i 0, .unset, .unset] [(.ref b32), (.ref b32)]) := fun t q => k t (XS.aload X39.here hx rfl (hb hby at_350) rfl rfl q)
        obtain ⟨_, T64, L64, X64, hQ64, k⟩ := own_cV X39 hx hw hZ hown e39 k (own_m12_r l Z a0 hw [] b32 b32 (own_src sr1 w_Source_PROGRAM w_JDK w_LIBRARY w_UNKNOWN w_NOT_PROGRAM) (own_src sr1 w_Source_PROGRAM w_JDK w_LIBRARY w_UNKNOWN w_NOT_PROGRAM) (own_asp as1 w_Aspect_PROGRAM w_SOURCE w_SUPERCLASS w_INTERFACES w_INTERFACE w_DECLARES_METHOD w_FLAGS w_THROWS w_PROGRAM_METHOD w_FIELD w_CONCRETE_METHOD w_METHODS) (own_asp as1 w_Aspect_PROGRAM w_SOURCE w_SUPERCLASS w_INTERFACES w_INTERFACE w_DECLARES_METHOD w_FLAGS w_THROWS w_PROGRAM_METHOD w_FIELD w_CONCRETE_METHOD w_METHODS) a26 a26 (own_cs n1) (own_cs n1) w_COMPACT_STRINGS a27 a27 (own_cs m1) (own_cs m1) a28 a28 (own_cs r1) (own_cs r1) h39 n0 Z39 ((EC35_0.ext E36).keep KC39) ((FC35_1.ext E36).keep KC39 (ninS (Nat.ne_of_lt (Nat.lt_of_lt_of_le EC35_0.lt (Nat.le_of_eq g36.symm))) nin0)) ((FC35_1.ext E36).keep KC39 (ninS (Nat.ne_of_lt (Nat.lt_of_lt_of_le EC35_0.lt (Nat.le_of_eq g36.symm))) nin0)) ((FC35_2.ext E36).keep KC39 (ninS (Nat.ne_of_lt (Nat.lt_of_lt_of_le EC35_0.lt (Nat.le_of_eq g36.symm))) nin0)) ((FC35_2.ext E36).keep KC39 (ninS (Nat.ne_of_lt (Nat.lt_of_lt_of_le EC35_0.lt (Nat.le_of_eq g36.symm))) nin0)) ((FC35_0.ext E36).keep KC39 (ninS (Nat.ne_of_lt (Nat.lt_of_lt_of_le EC35_0.lt (Nat.le_of_eq g36.symm))) nin0)) ((FC35_0.ext E36).keep KC39 (ninS (Nat.ne_of_lt (Nat.lt_of_lt_of_le EC35_0.lt (Nat.le_of_eq g36.symm))) nin0)) (((((((((TX26.keep (a0 := a0) KC27 all0).keep (a0 := a0) KC28 all0).keep (a0 := a0) KC29 all0).keep (a0 := a0) KC30 all0).keep (a0 := a0) KC31 all0).ext E32).keep (a0 := a0) KC35 (allS ⟨"com/example/callsite/callsite/bytecode/ClassRead", _, by decide, A32, (own_h hw 36 rfl)⟩ all0)).ext E36).keep (a0 := a0) KC39 (allS ⟨"com/example/callsite/callsite/bytecode/ClassRead", _, by decide, A36, (own_h hw 36 rfl)⟩ all0)) (((((((((TX26.keep (a0 := a0) KC27 all0).keep (a0 := a0) KC28 all0).keep (a0 := a0) KC29 all0).keep (a0 := a0) KC30 all0).keep (a0 := a0) KC31 all0).ext E32).keep (a0 := a0) KC35 (allS ⟨"com/example/callsite/callsite/bytecode/ClassRead", _, by decide, A32, (own_h hw 36 rfl)⟩ all0)).ext E36).keep (a0 := a0) KC39 (allS ⟨"com/example/callsite/callsite/bytecode/ClassRead", _, by decide, A36, (own_h hw 36 rfl)⟩ all0)) (own_sta_keep ((own_sta_keep ((own_sta_keep (own_sta_keep (own_sta_keep (own_sta_keep (own_sta_keep (own_sta_keep S_COMPACT_STRINGS KC26 ns0) KC27 ns0) KC28 ns0) KC29 ns0) KC30 ns0) KC31 ns0).ext E32) KC35 (nsS (Exa.nostat A32) ns0)).ext E36) KC39 (nsS (Exa.nostat A36) ns0)) ((FC35_3.ext E36).keep KC39 (ninS (Nat.ne_of_lt (Nat.lt_of_lt_of_le EC35_0.lt (Nat.le_of_eq g36.symm))) nin0)) ((FC35_3.ext E36).keep KC39 (ninS (Nat.ne_of_lt (Nat.lt_of_lt_of_le EC35_0.lt (Nat.le_of_eq g36.symm))) nin0)) ((((((((TX27.keep (a0 := a0) KC28 all0).keep (a0 := a0) KC29 all0).keep (a0 := a0) KC30 all0).keep (a0 := a0) KC31 all0).ext E32).keep (a0 := a0) KC35 (allS ⟨"com/example/callsite/callsite/bytecode/ClassRead", _, by decide, A32, (own_h hw 36 rfl)⟩ all0)).ext E36).keep (a0 := a0) KC39 (allS ⟨"com/example/callsite/callsite/bytecode/ClassRead", _, by decide, A36, (own_h hw 36 rfl)⟩ all0)) ((((((((TX27.keep (a0 := a0) KC28 all0).keep (a0 := a0) KC29 all0).keep (a0 := a0) KC30 all0).keep (a0 := a0) KC31 all0).ext E32).keep (a0 := a0) KC35 (allS ⟨"com/example/callsite/callsite/bytecode/ClassRead", _, by decide, A32, (own_h hw 36 rfl)⟩ all0)).ext E36).keep (a0 := a0) KC39 (allS ⟨"com/example/callsite/callsite/bytecode/ClassRead", _, by decide, A36, (own_h hw 36 rfl)⟩ all0)) ((FC35_4.ext E36).keep KC39 (ninS (Nat.ne_of_lt (Nat.lt_of_lt_of_le EC35_0.lt (Nat.le_of_eq g36.symm))) nin0)) ((FC35_4.ext E36).keep KC39 (ninS (Nat.ne_of_lt (Nat.lt_of_lt_of_le EC35_0.lt (Nat.le_of_eq g36.symm))) nin0)) (((((((TX28.keep (a0 := a0) KC29 all0).keep (a0 := a0) KC30 all0).keep (a0 := a0) KC31 all0).ext E32).keep (a0 := a0) KC35 (allS ⟨"com/example/callsite/callsite/bytecode/ClassRead", _, by decide, A32, (own_h hw 36 rfl)⟩ all0)).ext E36).keep (a0 := a0) KC39 (allS ⟨"com/example/callsite/callsite/bytecode/ClassRead", _, by decide, A36, (own_h hw 36 rfl)⟩ all0)) (((((((TX28.keep (a0 := a0) KC29 all0).keep (a0 := a0) KC30 all0).keep (a0 := a0) KC31 all0).ext E32).keep (a0 := a0) KC35 (allS ⟨"com/example/callsite/callsite/bytecode/ClassRead", _, by decide, A32, (own_h hw 36 rfl)⟩ all0)).ext E36).keep (a0 := a0) KC39 (allS ⟨"com/example/callsite/callsite/bytecode/ClassRead", _, by decide, A36, (own_h hw 36 rfl)⟩ all0)) hz) 72 73 75 74 76 37 rfl rfl rfl rfl rfl rfl ((EC35_0.ext E36).keep KC39) (by decide) rfl (by rw [hml]; rfl) [(.ref b32)] [] (lenOf own_pd10 rfl) rfl rfl (W := 0) own_le (hb hby at_352) (by decide) (by decide) (by decide) (by decide)
        rw [show own_f12_r (own_src sr1 w_Source_PROGRAM w_JDK w_LIBRARY w_UNKNOWN w_NOT_PROGRAM) (own_src sr1 w_Source_PROGRAM w_JDK w_LIBRARY w_UNKNOWN w_NOT_PROGRAM) (own_asp as1 w_Aspect_PROGRAM w_SOURCE w_SUPERCLASS w_INTERFACES w_INTERFACE w_DECLARES_METHOD w_FLAGS w_THROWS w_PROGRAM_METHOD w_FIELD w_CONCRETE_METHOD w_METHODS) (own_asp as1 w_Aspect_PROGRAM w_SOURCE w_SUPERCLASS w_INTERFACES w_INTERFACE w_DECLARES_METHOD w_FLAGS w_THROWS w_PROGRAM_METHOD w_FIELD w_CONCRETE_METHOD w_METHODS) (own_cs n1) (own_cs n1) (own_cs m1) (own_cs m1) (own_cs r1) (own_cs r1) = (1 : Int32) from by unfold own_f12_r; rw [if_pos (show (own_src sr1 w_Source_PROGRAM w_JDK w_LIBRARY w_UNKNOWN w_NOT_PROGRAM) = (own_src sr1 w_Source_PROGRAM w_JDK w_LIBRARY w_UNKNOWN w_NOT_PROGRAM) from rfl), if_pos (show (own_asp as1 w_Aspect_PROGRAM w_SOURCE w_SUPERCLASS w_INTERFACES w_INTERFACE w_DECLARES_METHOD w_FLAGS w_THROWS w_PROGRAM_METHOD w_FIELD w_CONCRETE_METHOD w_METHODS) = (own_asp as1 w_Aspect_PROGRAM w_SOURCE w_SUPERCLASS w_INTERFACES w_INTERFACE w_DECLARES_METHOD w_FLAGS w_THROWS w_PROGRAM_METHOD w_FIELD w_CONCRETE_METHOD w_METHODS) from rfl), if_pos (show (own_cs n1) = (own_cs n1) from rfl), if_pos (show (own_cs m1) = (own_cs m1) from rfl), if_pos (show (own_cs r1) = (own_cs r1) from rfl)]] at hQ64
        obtain ⟨rfl, N64q, e64⟩ := hQ64
        have N64 := Fr.app N39 N64q
        replace k : ow T64 (mkF m 361 #[.val (.long q1), .second, .val (.long q2), .second, ow_i p3, ow_i p4, .val (.long n1), .second, .val (.long m1), .second, .val (.long r1), .second, .val (.long n2), .second, .val (.long m2), .second, .val (.long r2), .second, ow_i sr1, ow_i as1, ow_i sr2, ow_i as2, ow_i kd, ow_r a26, ow_r a27, ow_r a28, ow_r a29, ow_r a30, ow_r a31, ow_r b32, ow_r b36, ow_r b36, ow_i 0, ow_i 1, .unset] [(.ref b36), (.ref b32)]) := fun t q => k t (XS.istore X64.here hx rfl (hb hby at_355) rfl (l' := #[.val (.long q1), .second, .val (.long q2), .second, ow_i p3, ow_i p4, .val (.long n1), .second, .val (.long m1), .second, .val (.long r1), .second, .val (.long n2), .second, .val (.long m2), .second, .val (.long r2), .second, ow_i sr1, ow_i as1, ow_i sr2, ow_i as2, ow_i kd, ow_r a26, ow_r a27, ow_r a28, ow_r a29, ow_r a30, ow_r a31, ow_r b32, ow_r b36, ow_r b36, ow_i 0, ow_i 1, .unset]) rfl (XS.aload X64.here hx rfl (hb hby at_357) rfl rfl (XS.aload X64.here hx rfl (hb hby at_359) rfl rfl q)))
        obtain ⟨_, T65, L65, X65, hQ65, k⟩ := own_cV X64 hx hw hZ hown e64 k (own_m12_r l Z a0 hw [] b32 b36 (own_src sr1 w_Source_PROGRAM w_JDK w_LIBRARY w_UNKNOWN w_NOT_PROGRAM) (own_src sr2 w_Source_PROGRAM w_JDK w_LIBRARY w_UNKNOWN w_NOT_PROGRAM) (own_asp as1 w_Aspect_PROGRAM w_SOURCE w_SUPERCLASS w_INTERFACES w_INTERFACE w_DECLARES_METHOD w_FLAGS w_THROWS w_PROGRAM_METHOD w_FIELD w_CONCRETE_METHOD w_METHODS) (own_asp as2 w_Aspect_PROGRAM w_SOURCE w_SUPERCLASS w_INTERFACES w_INTERFACE w_DECLARES_METHOD w_FLAGS w_THROWS w_PROGRAM_METHOD w_FIELD w_CONCRETE_METHOD w_METHODS) a26 a29 (own_cs n1) (own_cs n2) w_COMPACT_STRINGS a27 a30 (own_cs m1) (own_cs m2) a28 a31 (own_cs r1) (own_cs r2) h39 n0 Z39 EC39_0 ((FC35_1.ext E36).keep KC39 (ninS (Nat.ne_of_lt (Nat.lt_of_lt_of_le EC35_0.lt (Nat.le_of_eq g36.symm))) nin0)) FC39_1 ((FC35_2.ext E36).keep KC39 (ninS (Nat.ne_of_lt (Nat.lt_of_lt_of_le EC35_0.lt (Nat.le_of_eq g36.symm))) nin0)) FC39_2 ((FC35_0.ext E36).keep KC39 (ninS (Nat.ne_of_lt (Nat.lt_of_lt_of_le EC35_0.lt (Nat.le_of_eq g36.symm))) nin0)) FC39_0 (((((((((TX26.keep (a0 := a0) KC27 all0).keep (a0 := a0) KC28 all0).keep (a0 := a0) KC29 all0).keep (a0 := a0) KC30 all0).keep (a0 := a0) KC31 all0).ext E32).keep (a0 := a0) KC35 (allS ⟨"com/example/callsite/callsite/bytecode/ClassRead", _, by decide, A32, (own_h hw 36 rfl)⟩ all0)).ext E36).keep (a0 := a0) KC39 (allS ⟨"com/example/callsite/callsite/bytecode/ClassRead", _, by decide, A36, (own_h hw 36 rfl)⟩ all0)) ((((((TX29.keep (a0 := a0) KC30 all0).keep (a0 := a0) KC31 all0).ext E32).keep (a0 := a0) KC35 (allS ⟨"com/example/callsite/callsite/bytecode/ClassRead", _, by decide, A32, (own_h hw 36 rfl)⟩ all0)).ext E36).keep (a0 := a0) KC39 (allS ⟨"com/example/callsite/callsite/bytecode/ClassRead", _, by decide, A36, (own_h hw 36 rfl)⟩ all0)) (own_sta_keep ((own_sta_keep ((own_sta_keep (own_sta_keep (own_sta_keep (own_sta_keep (own_sta_keep (own_sta_keep S_COMPACT_STRINGS KC26 ns0) KC27 ns0) KC28 ns0) KC29 ns0) KC30 ns0) KC31 ns0).ext E32) KC35 (nsS (Exa.nostat A32) ns0)).ext E36) KC39 (nsS (Exa.nostat A36) ns0)) ((FC35_3.ext E36).keep KC39 (ninS (Nat.ne_of_lt (Nat.lt_of_lt_of_le EC35_0.lt (Nat.le_of_eq g36.symm))) nin0)) FC39_3 ((((((((TX27.keep (a0 := a0) KC28 all0).keep (a0 := a0) KC29 all0).keep (a0 := a0) KC30 all0).keep (a0 := a0) KC31 all0).ext E32).keep (a0 := a0) KC35 (allS ⟨"com/example/callsite/callsite/bytecode/ClassRead", _, by decide, A32, (own_h hw 36 rfl)⟩ all0)).ext E36).keep (a0 := a0) KC39 (allS ⟨"com/example/callsite/callsite/bytecode/ClassRead", _, by decide, A36, (own_h hw 36 rfl)⟩ all0)) (((((TX30.keep (a0 := a0) KC31 all0).ext E32).keep (a0 := a0) KC35 (allS ⟨"com/example/callsite/callsite/bytecode/ClassRead", _, by decide, A32, (own_h hw 36 rfl)⟩ all0)).ext E36).keep (a0 := a0) KC39 (allS ⟨"com/example/callsite/callsite/bytecode/ClassRead", _, by decide, A36, (own_h hw 36 rfl)⟩ all0)) ((FC35_4.ext E36).keep KC39 (ninS (Nat.ne_of_lt (Nat.lt_of_lt_of_le EC35_0.lt (Nat.le_of_eq g36.symm))) nin0)) FC39_4 (((((((TX28.keep (a0 := a0) KC29 all0).keep (a0 := a0) KC30 all0).keep (a0 := a0) KC31 all0).ext E32).keep (a0 := a0) KC35 (allS ⟨"com/example/callsite/callsite/bytecode/ClassRead", _, by decide, A32, (own_h hw 36 rfl)⟩ all0)).ext E36).keep (a0 := a0) KC39 (allS ⟨"com/example/callsite/callsite/bytecode/ClassRead", _, by decide, A36, (own_h hw 36 rfl)⟩ all0)) ((((TX31.ext E32).keep (a0 := a0) KC35 (allS ⟨"com/example/callsite/callsite/bytecode/ClassRead", _, by decide, A32, (own_h hw 36 rfl)⟩ all0)).ext E36).keep (a0 := a0) KC39 (allS ⟨"com/example/callsite/callsite/bytecode/ClassRead", _, by decide, A36, (own_h hw 36 rfl)⟩ all0)) hz) 72 73 75 74 76 37 rfl rfl rfl rfl rfl rfl ((EC35_0.ext E36).keep KC39) (by decide) rfl (by rw [hml]; rfl) [(.ref b36)] [] (lenOf own_pd10 rfl) rfl rfl (W := 0) own_le (hb hby at_361) (by decide) (by decide) (by decide) (by decide)
        rw [show own_f12_r (own_src sr1 w_Source_PROGRAM w_JDK w_LIBRARY w_UNKNOWN w_NOT_PROGRAM) (own_src sr2 w_Source_PROGRAM w_JDK w_LIBRARY w_UNKNOWN w_NOT_PROGRAM) (own_asp as1 w_Aspect_PROGRAM w_SOURCE w_SUPERCLASS w_INTERFACES w_INTERFACE w_DECLARES_METHOD w_FLAGS w_THROWS w_PROGRAM_METHOD w_FIELD w_CONCRETE_METHOD w_METHODS) (own_asp as2 w_Aspect_PROGRAM w_SOURCE w_SUPERCLASS w_INTERFACES w_INTERFACE w_DECLARES_METHOD w_FLAGS w_THROWS w_PROGRAM_METHOD w_FIELD w_CONCRETE_METHOD w_METHODS) (own_cs n1) (own_cs n2) (own_cs m1) (own_cs m2) (own_cs r1) (own_cs r2) = (0 : Int32) from by unfold own_f12_r; rw [if_neg (show ¬ ((own_src sr1 w_Source_PROGRAM w_JDK w_LIBRARY w_UNKNOWN w_NOT_PROGRAM) = (own_src sr2 w_Source_PROGRAM w_JDK w_LIBRARY w_UNKNOWN w_NOT_PROGRAM)) from (own_src_inj w_Source_PROGRAM w_JDK w_LIBRARY w_UNKNOWN w_NOT_PROGRAM ne_Source_PROGRAM_JDK ne_Source_PROGRAM_LIBRARY ne_Source_PROGRAM_UNKNOWN ne_Source_PROGRAM_NOT_PROGRAM ne_JDK_LIBRARY ne_JDK_UNKNOWN ne_JDK_NOT_PROGRAM ne_LIBRARY_UNKNOWN ne_LIBRARY_NOT_PROGRAM ne_UNKNOWN_NOT_PROGRAM rg_sr1 rg_sr2 hc46))]] at hQ65
        obtain ⟨rfl, N65q, e65⟩ := hQ65
        have N65 := Fr.app N64 N65q
        replace k : ow T65 (mkF m 371 #[.val (.long q1), .second, .val (.long q2), .second, ow_i p3, ow_i p4, .val (.long n1), .second, .val (.long m1), .second, .val (.long r1), .second, .val (.long n2), .second, .val (.long m2), .second, .val (.long r2), .second, ow_i sr1, ow_i as1, ow_i sr2, ow_i as2, ow_i kd, ow_r a26, ow_r a27, ow_r a28, ow_r a29, ow_r a30, ow_r a31, ow_r b32, ow_r b36, ow_r b36, ow_i 0, ow_i 1, ow_i 0] []) := fun t q => k t (XS.istore X65.here hx rfl (hb hby at_364) rfl (l' := #[.val (.long q1), .second, .val (.long q2), .second, ow_i p3, ow_i p4, .val (.long n1), .second, .val (.long m1), .second, .val (.long r1), .second, .val (.long n2), .second, .val (.long m2), .second, .val (.long r2), .second, ow_i sr1, ow_i as1, ow_i sr2, ow_i as2, ow_i kd, ow_r a26, ow_r a27, ow_r a28, ow_r a29, ow_r a30, ow_r a31, ow_r b32, ow_r b36, ow_r b36, ow_i 0, ow_i 1, ow_i 0]) rfl (XS.iload X65.here hx rfl (hb hby at_366) rfl (XS.ifNo X65.here hx rfl (hb hby at_368) rfl ((if0 _ _).trans (feq (show ¬ ((1 : Int32) = (0 : Int32)) from (by decide))).1) q)))
        replace k : ow T65 (mkF m 378 #[.val (.long q1), .second, .val (.long q2), .second, ow_i p3, ow_i p4, .val (.long n1), .second, .val (.long m1), .second, .val (.long r1), .second, .val (.long n2), .second, .val (.long m2), .second, .val (.long r2), .second, ow_i sr1, ow_i as1, ow_i sr2, ow_i as2, ow_i kd, ow_r a26, ow_r a27, ow_r a28, ow_r a29, ow_r a30, ow_r a31, ow_r b32, ow_r b36, ow_r b36, ow_i 0, ow_i 1, ow_i 0] []) := fun t q => k t (XS.iload X65.here hx rfl (hb hby at_371) rfl (XS.iload X65.here hx rfl (hb hby at_373) rfl (XS.icmpNo X65.here hx rfl (hb hby at_375) rfl (teq (show (0 : Int32) = (0 : Int32) from (by decide))).2 q)))
        replace k : ow T65 (mkF m 383 #[.val (.long q1), .second, .val (.long q2), .second, ow_i p3, ow_i p4, .val (.long n1), .second, .val (.long m1), .second, .val (.long r1), .second, .val (.long n2), .second, .val (.long m2), .second, .val (.long r2), .second, ow_i sr1, ow_i as1, ow_i sr2, ow_i as2, ow_i kd, ow_r a26, ow_r a27, ow_r a28, ow_r a29, ow_r a30, ow_r a31, ow_r b32, ow_r b36, ow_r b36, ow_i 0, ow_i 1, ow_i 0] [(.int 1)]) := fun t q => k t (XS.iconst X65.here hx rfl (hb hby at_378) (XS.goto X65.here hx rfl (pc0 := 379) (pc' := 383) rfl (hb hby at_379) (by decide) (by decide) q))
        obtain ⟨fs, hr, hrun, hended, hEnd⟩ := X65.leaveW hS31 (by rw [e65]; exact hk39) (v := some (.int 1)) (fun h => by rw [Bd.returns] at h; cases h)
        have hChr := CR39.trans (CHv.at X65 hZ (own_EW hw) CH39)
        refine ⟨_, _, k _ ?_, hrun, hended, _, _, rfl, ?_, ?_, own_monoW hEnd (by decide) (by decide)⟩
        · exact retN X65 hx (t := .boolean) Bd.returns (by simp) (hb hby at_383) hr
        · show own_Q0 n0 _ _
          exact ⟨rfl, N65⟩
        · rw [hh]; show CHr Z consts_1 s.vm h0 T65.vm T65.heap; rw [e65]; exact hChr
set_option maxRecDepth 65536 in
set_option maxHeartbeats 40000000 in
theorem comes_1 {Post : Tables → Env → Array Value → State → Outcome → State → Prop} (hpost : ∀ tb e args s v u, (limb_1_1.after args s (.returned v) u = true ∧ limb_1_2.after args s (.returned v) u = true ∧ True) → ReturnedEndW s (.returned v) u (Jvm.fieldLocs frame_1_writes args s ++ Jvm.arrayLocs frame_1_arrays args s ++ Jvm.staticLocs frame_1_statics s) 56 1216 → Post tb e args s (.returned v) u) :
    ArmFor flags0 classFile x code maxLocals ret World_1 tables_1 room_1 Calls_1 rest_1 Pre_1 Post := by
  intro l hfl _ _ p e ha hc hk s m args below hf hA hF happ hP
  obtain ⟨hcalls, hrest, hpre⟩ := hP
  obtain ⟨-, -, -, hnamed, -, -, -, hat⟩ := (Spec.applies_iff hf).mp happ
  obtain ⟨hg, hn⟩ := and_e (Cond.before_iff.mp (show (Jvm.Cond.and given_1 narrow_1).before args s = true from hpre))
  obtain ⟨hg1, hg2⟩ := and_e hg
  obtain ⟨hg3, hg4⟩ := and_e hg2
  obtain ⟨hg5, hg6⟩ := and_e hg4
  obtain ⟨hg7, hg8⟩ := and_e hg6
  obtain ⟨w0, w1, w2, w3, rfl⟩ : ∃ w0 w1 w2 w3 : Value, args = #[w0, w1, w2, w3] := by
    have hs : args.size = 4 := by simpa [Cond.value, given_1] using hg1
    obtain ⟨L⟩ := args
    match L, hs with
    | [w0, w1, w2, w3], _ => exact ⟨w0, w1, w2, w3, rfl⟩
  have hw := fun d (hd : d ∈ tables_1) => atoms_spec (ws := Jvm.Cond.code x code maxLocals ret :: tables_1) hat d (List.mem_cons_of_mem _ hd)
  have hfit : Fit s := fun {y c} hc i hi => by
    obtain ⟨ha, rfl⟩ := Array.getElem?_eq_some_iff.mp hc
    have q := List.all_eq_true.mp ((Array.all_eq_true_iff_forall_mem.mp hF) _ (Array.getElem_mem ha)) i (List.mem_range.mpr hi)
    simpa [Array.getElem?_eq_getElem hi] using q
  obtain ⟨i0, ei0⟩ := isL_v hg3
  obtain rfl : w0 = (.long i0) := Option.some.inj ei0
  obtain ⟨i1, ei1⟩ := isL_v hg5
  obtain rfl : w1 = (.long i1) := Option.some.inj ei1
  obtain ⟨i2, ei2⟩ := is_v hg7
  obtain rfl : w2 = (.int i2) := Option.some.inj ei2
  obtain ⟨i3, ei3⟩ := is_v hg8
  obtain rfl : w3 = (.int i3) := Option.some.inj ei3
  obtain ⟨hn1, hn2⟩ := and_e hn
  obtain ⟨hn3, hn4⟩ := and_e hn2
  obtain ⟨hn5, hn6⟩ := and_e hn4
  obtain ⟨hn7, hn8⟩ := and_e hn6
  obtain ⟨hn9, hn10⟩ := and_e hn8
  obtain ⟨hn11, hn12⟩ := and_e hn10
  obtain ⟨hn13, hn14⟩ := and_e hn12
  obtain ⟨hn15, hn16⟩ := and_e hn14
  obtain ⟨hn17, hn18⟩ := and_e hn16
  obtain ⟨hn19, hn20⟩ := and_e hn18
  obtain ⟨hn21, hn22⟩ := and_e hn20
  obtain ⟨hn23, hn24⟩ := and_e hn22
  obtain ⟨hn25, hn26⟩ := and_e hn24
  obtain ⟨hn27, hn28⟩ := and_e hn26
  obtain ⟨hn29, hn30⟩ := and_e hn28
  obtain ⟨hn31, hn32⟩ := and_e hn30
  obtain ⟨hn33, hn34⟩ := and_e hn32
  obtain ⟨hn35, hn36⟩ := and_e hn34
  obtain ⟨hn37, hn38⟩ := and_e hn36
  obtain ⟨hn39, hn40⟩ := and_e hn38
  obtain ⟨hn41, hn42⟩ := and_e hn40
  obtain ⟨hn43, hn44⟩ := and_e hn42
  obtain ⟨hn45, hn46⟩ := and_e hn44
  obtain ⟨hn47, hn48⟩ := and_e hn46
  obtain ⟨hn49, hn50⟩ := and_e hn48
  obtain ⟨hn51, hn52⟩ := and_e hn50
  obtain ⟨hn53, hn54⟩ := and_e hn52
  obtain ⟨hn55, hn56⟩ := and_e hn54
  obtain ⟨hn57, hn58⟩ := and_e hn56
  obtain ⟨hn59, hn60⟩ := and_e hn58
  obtain ⟨hn61, hn62⟩ := and_e hn60
  obtain ⟨hn63, hn64⟩ := and_e hn62
  obtain ⟨hn65, hn66⟩ := and_e hn64
  obtain ⟨x_Source_PROGRAM, ev_Source_PROGRAM⟩ := exa_v hn1
  have E_Source_PROGRAM := Exa.start ev_Source_PROGRAM hn1
  have S_Source_PROGRAM := Sta.start ev_Source_PROGRAM (Or.inr ⟨(own_h hw 42 rfl), (own_h hw 43 rfl)⟩)
  obtain ⟨x_Aspect_PROGRAM, ev_Aspect_PROGRAM⟩ := exa_v hn3
  have E_Aspect_PROGRAM := Exa.start ev_Aspect_PROGRAM hn3
  have S_Aspect_PROGRAM := Sta.start ev_Aspect_PROGRAM (Or.inr ⟨(own_h hw 48 rfl), (own_h hw 49 rfl)⟩)
  obtain ⟨x_SOURCE, ev_SOURCE⟩ := exa_v hn5
  have E_SOURCE := Exa.start ev_SOURCE hn5
  have S_SOURCE := Sta.start ev_SOURCE (Or.inr ⟨(own_h hw 48 rfl), (own_h hw 91 rfl)⟩)
  obtain ⟨x_THROWS, ev_THROWS⟩ := exa_v hn11
  have E_THROWS := Exa.start ev_THROWS hn11
  have S_THROWS := Sta.start ev_THROWS (Or.inr ⟨(own_h hw 48 rfl), (own_h hw 110 rfl)⟩)
  obtain ⟨x_INTERFACES, ev_INTERFACES⟩ := exa_v hn15
  have E_INTERFACES := Exa.start ev_INTERFACES hn15
  have S_INTERFACES := Sta.start ev_INTERFACES (Or.inr ⟨(own_h hw 48 rfl), (own_h hw 112 rfl)⟩)
  obtain ⟨x_JDK, ev_JDK⟩ := exa_v hn17
  have E_JDK := Exa.start ev_JDK hn17
  have S_JDK := Sta.start ev_JDK (Or.inr ⟨(own_h hw 42 rfl), (own_h hw 114 rfl)⟩)
  obtain ⟨x_LIBRARY, ev_LIBRARY⟩ := exa_v hn23
  have E_LIBRARY := Exa.start ev_LIBRARY hn23
  have S_LIBRARY := Sta.start ev_LIBRARY (Or.inr ⟨(own_h hw 42 rfl), (own_h hw 116 rfl)⟩)
  obtain ⟨x_SUPERCLASS, ev_SUPERCLASS⟩ := exa_v hn25
  have E_SUPERCLASS := Exa.start ev_SUPERCLASS hn25
  have S_SUPERCLASS := Sta.start ev_SUPERCLASS (Or.inr ⟨(own_h hw 48 rfl), (own_h hw 118 rfl)⟩)
  obtain ⟨x_UNKNOWN, ev_UNKNOWN⟩ := exa_v hn27
  have E_UNKNOWN := Exa.start ev_UNKNOWN hn27
  have S_UNKNOWN := Sta.start ev_UNKNOWN (Or.inr ⟨(own_h hw 42 rfl), (own_h hw 120 rfl)⟩)
  obtain ⟨x_FIELD, ev_FIELD⟩ := exa_v hn29
  have E_FIELD := Exa.start ev_FIELD hn29
  have S_FIELD := Sta.start ev_FIELD (Or.inr ⟨(own_h hw 48 rfl), (own_h hw 122 rfl)⟩)
  obtain ⟨x_CONCRETE_METHOD, ev_CONCRETE_METHOD⟩ := exa_v hn35
  have E_CONCRETE_METHOD := Exa.start ev_CONCRETE_METHOD hn35
  have S_CONCRETE_METHOD := Sta.start ev_CONCRETE_METHOD (Or.inr ⟨(own_h hw 48 rfl), (own_h hw 126 rfl)⟩)
  obtain ⟨x_NOT_PROGRAM, ev_NOT_PROGRAM⟩ := exa_v hn39
  have E_NOT_PROGRAM := Exa.start ev_NOT_PROGRAM hn39
  have S_NOT_PROGRAM := Sta.start ev_NOT_PROGRAM (Or.inr ⟨(own_h hw 42 rfl), (own_h hw 128 rfl)⟩)
  obtain ⟨x_DECLARES_METHOD, ev_DECLARES_METHOD⟩ := exa_v hn43
  have E_DECLARES_METHOD := Exa.start ev_DECLARES_METHOD hn43
  have S_DECLARES_METHOD := Sta.start ev_DECLARES_METHOD (Or.inr ⟨(own_h hw 48 rfl), (own_h hw 130 rfl)⟩)
  obtain ⟨x_METHODS, ev_METHODS⟩ := exa_v hn45
  have E_METHODS := Exa.start ev_METHODS hn45
  have S_METHODS := Sta.start ev_METHODS (Or.inr ⟨(own_h hw 48 rfl), (own_h hw 132 rfl)⟩)
  obtain ⟨x_FLAGS, ev_FLAGS⟩ := exa_v hn47
  have E_FLAGS := Exa.start ev_FLAGS hn47
  have S_FLAGS := Sta.start ev_FLAGS (Or.inr ⟨(own_h hw 48 rfl), (own_h hw 134 rfl)⟩)
  obtain ⟨x_PROGRAM_METHOD, ev_PROGRAM_METHOD⟩ := exa_v hn49
  have E_PROGRAM_METHOD := Exa.start ev_PROGRAM_METHOD hn49
  have S_PROGRAM_METHOD := Sta.start ev_PROGRAM_METHOD (Or.inr ⟨(own_h hw 48 rfl), (own_h hw 136 rfl)⟩)
  obtain ⟨x_INTERFACE, ev_INTERFACE⟩ := exa_v hn59
  have E_INTERFACE := Exa.start ev_INTERFACE hn59
  have S_INTERFACE := Sta.start ev_INTERFACE (Or.inr ⟨(own_h hw 48 rfl), (own_h hw 138 rfl)⟩)
  have F_SOURCE := own_fldint ev_SOURCE hn7
  have F_Aspect_PROGRAM := own_fldint ev_Aspect_PROGRAM hn9
  have F_THROWS := own_fldint ev_THROWS hn13
  have F_Source_PROGRAM := own_fldint ev_Source_PROGRAM hn19
  have F_JDK := own_fldint ev_JDK hn21
  have F_UNKNOWN := own_fldint ev_UNKNOWN hn31
  have F_LIBRARY := own_fldint ev_LIBRARY hn33
  have F_CONCRETE_METHOD := own_fldint ev_CONCRETE_METHOD hn37
  have F_NOT_PROGRAM := own_fldint ev_NOT_PROGRAM hn41
  have F_DECLARES_METHOD := own_fldint ev_DECLARES_METHOD hn51
  have F_FLAGS := own_fldint ev_FLAGS hn53
  have F_INTERFACES := own_fldint ev_INTERFACES hn55
  have F_SUPERCLASS := own_fldint ev_SUPERCLASS hn57
  have F_INTERFACE := own_fldint ev_INTERFACE hn61
  have F_FIELD := own_fldint ev_FIELD hn63
  have F_PROGRAM_METHOD := own_fldint ev_PROGRAM_METHOD hn65
  have F_METHODS := own_fldint ev_METHODS hn66
  obtain ⟨hsets, hown0⟩ := atoms_of _ (rest_1_c_eq ▸ (show rest_1_c.before _ s = true from hrest))
  have n5 := not_v (Cond.before_iff.mp (hsets _ (List.mem_of_getElem? (i := 2) rfl)))
  obtain ⟨x_COMPACT_STRINGS, e10⟩ := is_v (Cond.before_iff.mp (hsets _ (List.mem_of_getElem? (i := 1) rfl)))
  have S_COMPACT_STRINGS := Sta.start e10 (Or.inl (hsets _ (List.mem_of_getElem? (i := 0) rfl)))
  obtain ⟨x_SIOOBE_FORMATTER, e14, hrS⟩ := isR_v (Cond.before_iff.mp (hsets _ (List.mem_of_getElem? (i := 8) rfl)))
  have S_SIOOBE_FORMATTER := Sta.start e14 (Or.inl (hsets _ (List.mem_of_getElem? (i := 7) rfl)))
  have hz : ¬ (x_COMPACT_STRINGS = (0 : Int32)) := gotF (Cond.eq_ints e10 (Term.int_eval (0))) n5
  have hCH : CHv s consts_1 s.vm s.heap := CHv.start (own_EW hw) hcalls.1 (hsets _ (List.mem_of_getElem? (i := 2) rfl)) (own_h hw 28 rfl) (own_h hw 14 rfl)
  obtain ⟨n, o, h1, h2, h3, _, L, rfl, ⟨rfl, N⟩, -, hq⟩ := own_m0 l s _ hw tables_1 i0 i1 i2 i3 x_COMPACT_STRINGS x_Source_PROGRAM x_JDK x_LIBRARY x_UNKNOWN x_NOT_PROGRAM x_Aspect_PROGRAM x_SOURCE x_SUPERCLASS x_INTERFACES x_INTERFACE x_DECLARES_METHOD x_FLAGS x_THROWS x_PROGRAM_METHOD x_FIELD x_CONCRETE_METHOD x_METHODS s.heap s.heap.size (Nat.le_refl _) S_COMPACT_STRINGS S_Source_PROGRAM S_JDK S_LIBRARY S_UNKNOWN S_NOT_PROGRAM S_Aspect_PROGRAM S_SOURCE S_SUPERCLASS S_INTERFACES S_INTERFACE S_DECLARES_METHOD S_FLAGS S_THROWS S_PROGRAM_METHOD S_FIELD S_CONCRETE_METHOD S_METHODS hz (Fld.ne F_Source_PROGRAM F_JDK (fun q => absurd (Value.int.inj q) (by decide))) (Fld.ne F_Source_PROGRAM F_LIBRARY (fun q => absurd (Value.int.inj q) (by decide))) (Fld.ne F_Source_PROGRAM F_UNKNOWN (fun q => absurd (Value.int.inj q) (by decide))) (Fld.ne F_Source_PROGRAM F_NOT_PROGRAM (fun q => absurd (Value.int.inj q) (by decide))) (Fld.ne F_JDK F_LIBRARY (fun q => absurd (Value.int.inj q) (by decide))) (Fld.ne F_JDK F_UNKNOWN (fun q => absurd (Value.int.inj q) (by decide))) (Fld.ne F_JDK F_NOT_PROGRAM (fun q => absurd (Value.int.inj q) (by decide))) (Fld.ne F_LIBRARY F_UNKNOWN (fun q => absurd (Value.int.inj q) (by decide))) (Fld.ne F_LIBRARY F_NOT_PROGRAM (fun q => absurd (Value.int.inj q) (by decide))) (Fld.ne F_UNKNOWN F_NOT_PROGRAM (fun q => absurd (Value.int.inj q) (by decide))) (Fld.ne F_Aspect_PROGRAM F_SOURCE (fun q => absurd (Value.int.inj q) (by decide))) (Fld.ne F_Aspect_PROGRAM F_SUPERCLASS (fun q => absurd (Value.int.inj q) (by decide))) (Fld.ne F_Aspect_PROGRAM F_INTERFACES (fun q => absurd (Value.int.inj q) (by decide))) (Fld.ne F_Aspect_PROGRAM F_INTERFACE (fun q => absurd (Value.int.inj q) (by decide))) (Fld.ne F_Aspect_PROGRAM F_DECLARES_METHOD (fun q => absurd (Value.int.inj q) (by decide))) (Fld.ne F_Aspect_PROGRAM F_FLAGS (fun q => absurd (Value.int.inj q) (by decide))) (Fld.ne F_Aspect_PROGRAM F_THROWS (fun q => absurd (Value.int.inj q) (by decide))) (Fld.ne F_Aspect_PROGRAM F_PROGRAM_METHOD (fun q => absurd (Value.int.inj q) (by decide))) (Fld.ne F_Aspect_PROGRAM F_FIELD (fun q => absurd (Value.int.inj q) (by decide))) (Fld.ne F_Aspect_PROGRAM F_CONCRETE_METHOD (fun q => absurd (Value.int.inj q) (by decide))) (Fld.ne F_Aspect_PROGRAM F_METHODS (fun q => absurd (Value.int.inj q) (by decide))) (Fld.ne F_SOURCE F_SUPERCLASS (fun q => absurd (Value.int.inj q) (by decide))) (Fld.ne F_SOURCE F_INTERFACES (fun q => absurd (Value.int.inj q) (by decide))) (Fld.ne F_SOURCE F_INTERFACE (fun q => absurd (Value.int.inj q) (by decide))) (Fld.ne F_SOURCE F_DECLARES_METHOD (fun q => absurd (Value.int.inj q) (by decide))) (Fld.ne F_SOURCE F_FLAGS (fun q => absurd (Value.int.inj q) (by decide))) (Fld.ne F_SOURCE F_THROWS (fun q => absurd (Value.int.inj q) (by decide))) (Fld.ne F_SOURCE F_PROGRAM_METHOD (fun q => absurd (Value.int.inj q) (by decide))) (Fld.ne F_SOURCE F_FIELD (fun q => absurd (Value.int.inj q) (by decide))) (Fld.ne F_SOURCE F_CONCRETE_METHOD (fun q => absurd (Value.int.inj q) (by decide))) (Fld.ne F_SOURCE F_METHODS (fun q => absurd (Value.int.inj q) (by decide))) (Fld.ne F_SUPERCLASS F_INTERFACES (fun q => absurd (Value.int.inj q) (by decide))) (Fld.ne F_SUPERCLASS F_INTERFACE (fun q => absurd (Value.int.inj q) (by decide))) (Fld.ne F_SUPERCLASS F_DECLARES_METHOD (fun q => absurd (Value.int.inj q) (by decide))) (Fld.ne F_SUPERCLASS F_FLAGS (fun q => absurd (Value.int.inj q) (by decide))) (Fld.ne F_SUPERCLASS F_THROWS (fun q => absurd (Value.int.inj q) (by decide))) (Fld.ne F_SUPERCLASS F_PROGRAM_METHOD (fun q => absurd (Value.int.inj q) (by decide))) (Fld.ne F_SUPERCLASS F_FIELD (fun q => absurd (Value.int.inj q) (by decide))) (Fld.ne F_SUPERCLASS F_CONCRETE_METHOD (fun q => absurd (Value.int.inj q) (by decide))) (Fld.ne F_SUPERCLASS F_METHODS (fun q => absurd (Value.int.inj q) (by decide))) (Fld.ne F_INTERFACES F_INTERFACE (fun q => absurd (Value.int.inj q) (by decide))) (Fld.ne F_INTERFACES F_DECLARES_METHOD (fun q => absurd (Value.int.inj q) (by decide))) (Fld.ne F_INTERFACES F_FLAGS (fun q => absurd (Value.int.inj q) (by decide))) (Fld.ne F_INTERFACES F_THROWS (fun q => absurd (Value.int.inj q) (by decide))) (Fld.ne F_INTERFACES F_PROGRAM_METHOD (fun q => absurd (Value.int.inj q) (by decide))) (Fld.ne F_INTERFACES F_FIELD (fun q => absurd (Value.int.inj q) (by decide))) (Fld.ne F_INTERFACES F_CONCRETE_METHOD (fun q => absurd (Value.int.inj q) (by decide))) (Fld.ne F_INTERFACES F_METHODS (fun q => absurd (Value.int.inj q) (by decide))) (Fld.ne F_INTERFACE F_DECLARES_METHOD (fun q => absurd (Value.int.inj q) (by decide))) (Fld.ne F_INTERFACE F_FLAGS (fun q => absurd (Value.int.inj q) (by decide))) (Fld.ne F_INTERFACE F_THROWS (fun q => absurd (Value.int.inj q) (by decide))) (Fld.ne F_INTERFACE F_PROGRAM_METHOD (fun q => absurd (Value.int.inj q) (by decide))) (Fld.ne F_INTERFACE F_FIELD (fun q => absurd (Value.int.inj q) (by decide))) (Fld.ne F_INTERFACE F_CONCRETE_METHOD (fun q => absurd (Value.int.inj q) (by decide))) (Fld.ne F_INTERFACE F_METHODS (fun q => absurd (Value.int.inj q) (by decide))) (Fld.ne F_DECLARES_METHOD F_FLAGS (fun q => absurd (Value.int.inj q) (by decide))) (Fld.ne F_DECLARES_METHOD F_THROWS (fun q => absurd (Value.int.inj q) (by decide))) (Fld.ne F_DECLARES_METHOD F_PROGRAM_METHOD (fun q => absurd (Value.int.inj q) (by decide))) (Fld.ne F_DECLARES_METHOD F_FIELD (fun q => absurd (Value.int.inj q) (by decide))) (Fld.ne F_DECLARES_METHOD F_CONCRETE_METHOD (fun q => absurd (Value.int.inj q) (by decide))) (Fld.ne F_DECLARES_METHOD F_METHODS (fun q => absurd (Value.int.inj q) (by decide))) (Fld.ne F_FLAGS F_THROWS (fun q => absurd (Value.int.inj q) (by decide))) (Fld.ne F_FLAGS F_PROGRAM_METHOD (fun q => absurd (Value.int.inj q) (by decide))) (Fld.ne F_FLAGS F_FIELD (fun q => absurd (Value.int.inj q) (by decide))) (Fld.ne F_FLAGS F_CONCRETE_METHOD (fun q => absurd (Value.int.inj q) (by decide))) (Fld.ne F_FLAGS F_METHODS (fun q => absurd (Value.int.inj q) (by decide))) (Fld.ne F_THROWS F_PROGRAM_METHOD (fun q => absurd (Value.int.inj q) (by decide))) (Fld.ne F_THROWS F_FIELD (fun q => absurd (Value.int.inj q) (by decide))) (Fld.ne F_THROWS F_CONCRETE_METHOD (fun q => absurd (Value.int.inj q) (by decide))) (Fld.ne F_THROWS F_METHODS (fun q => absurd (Value.int.inj q) (by decide))) (Fld.ne F_PROGRAM_METHOD F_FIELD (fun q => absurd (Value.int.inj q) (by decide))) (Fld.ne F_PROGRAM_METHOD F_CONCRETE_METHOD (fun q => absurd (Value.int.inj q) (by decide))) (Fld.ne F_PROGRAM_METHOD F_METHODS (fun q => absurd (Value.int.inj q) (by decide))) (Fld.ne F_FIELD F_CONCRETE_METHOD (fun q => absurd (Value.int.inj q) (by decide))) (Fld.ne F_FIELD F_METHODS (fun q => absurd (Value.int.inj q) (by decide))) (Fld.ne F_CONCRETE_METHOD F_METHODS (fun q => absurd (Value.int.inj q) (by decide))) p e ha hc hk s m _ below hf ((Spec.applies_iff_loose hf).mp happ).1 ⟨rfl, State.Warmed39.refl s, rfl, hCH⟩ trivial
  refine ⟨n, _, h1, h2, h3, hpost _ _ _ _ _ _ ⟨Cond.after_iff.mpr rfl, Cond.after_iff.mpr (eq_i res_at (Term.int_eval (1)) rfl), trivial⟩ ⟨hq.1, hq.2.1, hq.2.2.1, (hq.2.2.2.sift fun y hy => Or.inr (N y hy)).mono (by decide) (by decide)⟩⟩
theorem main_1_1 : Claimed_1_1 := comes_1 fun _ _ _ _ _ _ h hF => ⟨h.1, hF⟩
theorem main_1_2 : Claimed_1_2 := comes_1 fun _ _ _ _ _ _ h hF => ⟨h.2.1, hF⟩
end Jvm.Pilot.@@N@@
namespace Jvm.Pilot.@@N@@
open Jvm Jvm.ClassFile Sem Op Lib Jvm.Free Jvm.Stand Jvm.Pilot.@@N@@.Jvm.D
/-! MADE BY PROGRAM (witnessworld.py) out of the Statement's table words and the real class files: 25 classes; the members and pool entries that the words name. The judged class is class 1, her method 8. -/
namespace start1
open Jvm.ClassFile
def u (s : String) : CpInfo := .utf8 (stringToUtf16 s)
/-- a pool by its gaps: so many unusable entries, then the entry; so many at the end -/
def gap : Nat → List CpInfo → List CpInfo
  | 0, r => r
  | n + 1, r => .unusable :: gap n r
def poolList (es : List (Nat × CpInfo)) (last : Nat) : List CpInfo := es.foldr (fun e r => gap e.1 (e.2 :: r)) (gap last [])
def pool (es : List (Nat × CpInfo)) (last : Nat) : Array CpInfo := ⟨poolList es last⟩
def fileOf (pool : Array CpInfo) (this : Nat) (attrs : Array Attribute := #[]) (ms : Array MethodInfo := #[]) (fl : Nat := 33) (sup : Nat := 0) (ifs : Array Nat := #[]) (fds : Array FieldInfo := #[]) : ClassFile where
  minorVersion := 0
  majorVersion := 65
  constantPool := pool
  accessFlags := fl
  thisClass := this
  superClass := sup
  interfaces := ifs
  fields := fds
  methods := ms
  attributes := attrs
def plain (name : String) (sup : Option ClassId) : Class where
  name := name
  kind := .ordinary
  loader := none
  accessFlags := 33
  super := sup
  interfaces := #[]
  cf := none
  fields := #[]
  methods := #[]
  instanceTypes := #[]
  staticTypes := #[]
  resolved := #[]
  callSites := []
  init := .initialized
  statics := none
  mirror := none

def pool0 : Array CpInfo := pool [(5, u "<init>"), (0, u "()V"), (1, .class_ 10), (1, u "java/lang/Object")] 113

def k0c0 : Code := { maxStack := 0, maxLocals := 1, code := object_method_1_code, exceptionTable := #[], attributes := #[] }
def k0m0 : Method := { name := "<init>", desc := "()V", sig := { parameters := [], returnType := none }, accessFlags := 1, code := some k0c0 }
/-- java/lang/Object -/
def k0 : Class := { plain "java/lang/Object" none with
  accessFlags := 33
  interfaces := #[]
  cf := some (fileOf pool0 8 #[] #[{ accessFlags := 1, nameIndex := 5, descriptorIndex := 6, attributes := #[] }] 33 0 #[] #[])
  fields := #[]
  methods := #[k0m0]
  instanceTypes := #[]
  staticTypes := #[]
  resolved := Array.replicate 124 none
  statics := none }

def pool1 : Array CpInfo := pool [(2, .class_ 4), (1, u "java/lang/Object"), (0, u "<init>"), (0, u "()V"), (0, .long 3), (1, .methodref 10 11), (0, .class_ 12), (0, .nameAndType 13 14), (0, u "java/lang/Math"), (0, u "min"), (0, u "(II)I"), (0, .long 255), (1, .methodref 18 19), (0, .class_ 20), (0, .nameAndType 21 22), (0, u "com/example/callsite/callsite/bytecode/ClassReadEqualsPinLaw"), (0, u "len"), (0, u "(J)I"), (0, .class_ 24), (0, u "java/lang/String"), (0, .methodref 23 26), (0, .nameAndType 5 27), (0, u "([C)V"), (0, .methodref 18 29), (0, .nameAndType 30 31), (0, u "c0"), (0, u "(J)C"), (0, .methodref 18 33), (0, .nameAndType 34 31), (0, u "c1"), (0, .fieldref 36 37), (0, .class_ 38), (0, .nameAndType 39 40), (0, u "com/example/callsite/callsite/bytecode/ClassRead$Source"), (0, u "PROGRAM"), (0, u "Lcom/example/callsite/callsite/bytecode/ClassRead$Source;"), (0, .fieldref 36 42), (0, .nameAndType 43 40), (0, u "JDK"), (0, .fieldref 36 45), (0, .nameAndType 46 40), (0, u "LIBRARY"), (0, .fieldref 36 48), (0, .nameAndType 49 40), (0, u "UNKNOWN"), (0, .fieldref 36 51), (0, .nameAndType 52 40), (0, u "NOT_PROGRAM"), (0, .fieldref 54 55), (0, .class_ 56), (0, .nameAndType 39 57), (0, u "com/example/callsite/callsite/bytecode/ClassRead$Aspect"), (0, u "Lcom/example/callsite/callsite/bytecode/ClassRead$Aspect;"), (0, .fieldref 54 59), (0, .nameAndType 60 57), (0, u "SOURCE"), (0, .fieldref 54 62), (0, .nameAndType 63 57), (0, u "SUPERCLASS"), (0, .fieldref 54 65), (0, .nameAndType 66 57), (0, u "INTERFACES"), (0, .fieldref 54 68), (0, .nameAndType 69 57), (0, u "INTERFACE"), (0, .fieldref 54 71), (0, .nameAndType 72 57), (0, u "DECLARES_METHOD"), (0, .fieldref 54 74), (0, .nameAndType 75 57), (0, u "FLAGS"), (0, .fieldref 54 77), (0, .nameAndType 78 57), (0, u "THROWS"), (0, .fieldref 54 80), (0, .nameAndType 81 57), (0, u "PROGRAM_METHOD"), (0, .fieldref 54 83), (0, .nameAndType 84 57), (0, u "FIELD"), (0, .fieldref 54 86), (0, .nameAndType 87 57), (0, u "CONCRETE_METHOD"), (0, .fieldref 54 89), (0, .nameAndType 90 57), (0, u "METHODS"), (0, .long 262143), (1, .methodref 18 94), (0, .nameAndType 95 96), (0, u "str"), (0, u "(J)Ljava/lang/String;"), (0, .class_ 98), (0, u "com/example/callsite/callsite/bytecode/ClassRead"), (0, .methodref 18 100), (0, .nameAndType 101 102), (0, u "source"), (0, u "(I)Lcom/example/callsite/callsite/bytecode/ClassRead$Source;"), (0, .methodref 18 104), (0, .nameAndType 105 106), (0, u "aspect"), (0, u "(I)Lcom/example/callsite/callsite/bytecode/ClassRead$Aspect;"), (0, .methodref 97 108), (0, .nameAndType 5 109), (0, u "(Ljava/lang/String;Lcom/example/callsite/callsite/bytecode/ClassRead$Source;Lcom/example/callsite/callsite/bytecode/ClassRead$Aspect;Ljava/lang/String;Ljava/lang/String;)V"), (0, .methodref 18 111), (0, .nameAndType 112 113), (0, u "sameStr"), (0, u "(JJ)Z"), (0, .methodref 97 115), (0, .nameAndType 116 117), (0, u "equals"), (0, u "(Ljava/lang/Object;)Z"), (3, u "law"), (0, u "(JJII)Z")] 5

def k1m0 : Method := { name := "<init>", desc := "()V", sig := { parameters := [], returnType := none }, accessFlags := 1, code := none }
def k1c1 : Code := { maxStack := 4, maxLocals := 2, code := method_2_code, exceptionTable := #[], attributes := #[] }
def k1m1 : Method := { name := "len", desc := "(J)I", sig := { parameters := [.long], returnType := some .int }, accessFlags := 10, code := some k1c1 }
def k1c2 : Code := { maxStack := 4, maxLocals := 2, code := method_3_code, exceptionTable := #[], attributes := #[] }
def k1m2 : Method := { name := "c0", desc := "(J)C", sig := { parameters := [.long], returnType := some .char }, accessFlags := 10, code := some k1c2 }
def k1c3 : Code := { maxStack := 4, maxLocals := 2, code := method_4_code, exceptionTable := #[], attributes := #[] }
def k1m3 : Method := { name := "c1", desc := "(J)C", sig := { parameters := [.long], returnType := some .char }, accessFlags := 10, code := some k1c3 }
def k1c4 : Code := { maxStack := 4, maxLocals := 4, code := method_5_code, exceptionTable := #[], attributes := #[] }
def k1m4 : Method := { name := "str", desc := "(J)Ljava/lang/String;", sig := { parameters := [.long], returnType := some (.object "java/lang/String") }, accessFlags := 10, code := some k1c4 }
def k1c5 : Code := { maxStack := 3, maxLocals := 5, code := method_6_code, exceptionTable := #[], attributes := #[] }
def k1m5 : Method := { name := "sameStr", desc := "(JJ)Z", sig := { parameters := [.long, .long], returnType := some .boolean }, accessFlags := 10, code := some k1c5 }
def k1c6 : Code := { maxStack := 2, maxLocals := 1, code := method_7_code, exceptionTable := #[], attributes := #[] }
def k1m6 : Method := { name := "source", desc := "(I)Lcom/example/callsite/callsite/bytecode/ClassRead$Source;", sig := { parameters := [.int], returnType := some (.object "com/example/callsite/callsite/bytecode/ClassRead$Source") }, accessFlags := 10, code := some k1c6 }
def k1c7 : Code := { maxStack := 2, maxLocals := 1, code := method_8_code, exceptionTable := #[], attributes := #[] }
def k1m7 : Method := { name := "aspect", desc := "(I)Lcom/example/callsite/callsite/bytecode/ClassRead$Aspect;", sig := { parameters := [.int], returnType := some (.object "com/example/callsite/callsite/bytecode/ClassRead$Aspect") }, accessFlags := 10, code := some k1c7 }
def k1c8 : Code := { maxStack := 7, maxLocals := 35, code := code, exceptionTable := #[], attributes := #[] }
def k1m8 : Method := { name := "law", desc := "(JJII)Z", sig := { parameters := [.long, .long, .int, .int], returnType := some .boolean }, accessFlags := 9, code := some k1c8 }
/-- com/example/callsite/callsite/bytecode/ClassReadEqualsPinLaw -/
def k1 : Class := { plain "com/example/callsite/callsite/bytecode/ClassReadEqualsPinLaw" (some 0) with
  accessFlags := 49
  interfaces := #[]
  cf := some (fileOf pool1 18 #[] #[{ accessFlags := 1, nameIndex := 5, descriptorIndex := 6, attributes := #[] }, { accessFlags := 10, nameIndex := 21, descriptorIndex := 22, attributes := #[] }, { accessFlags := 10, nameIndex := 30, descriptorIndex := 31, attributes := #[] }, { accessFlags := 10, nameIndex := 34, descriptorIndex := 31, attributes := #[] }, { accessFlags := 10, nameIndex := 95, descriptorIndex := 96, attributes := #[] }, { accessFlags := 10, nameIndex := 112, descriptorIndex := 113, attributes := #[] }, { accessFlags := 10, nameIndex := 101, descriptorIndex := 102, attributes := #[] }, { accessFlags := 10, nameIndex := 105, descriptorIndex := 106, attributes := #[] }, { accessFlags := 9, nameIndex := 121, descriptorIndex := 122, attributes := #[] }] 49 2 #[] #[])
  fields := #[]
  methods := #[k1m0, k1m1, k1m2, k1m3, k1m4, k1m5, k1m6, k1m7, k1m8]
  instanceTypes := #[]
  staticTypes := #[]
  resolved := Array.replicate 128 none
  statics := none }

def pool2 : Array CpInfo := pool [(1, .class_ 2), (0, u "java/lang/Math"), (1, .class_ 6), (1, u "java/lang/Object"), (0, u "<init>"), (0, u "()V"), (89, .class_ 100), (1, u "java/lang/Math$RandomNumberGeneratorHolder"), (71, u "negativeZeroFloatBits"), (0, u "J"), (2, u "negativeZeroDoubleBits"), (24, u "min"), (43, u "$assertionsDisabled"), (0, u "Z"), (88, u "(II)I"), (2, u "twoToTheDoubleScaleDown"), (0, u "D"), (4, u "twoToTheDoubleScaleUp"), (9, u "E"), (3, u "PI"), (2, u "TAU"), (2, u "DEGREES_TO_RADIANS"), (0, u "RADIANS_TO_DEGREES")] 94

def k2m0 : Method := { name := "<init>", desc := "()V", sig := { parameters := [], returnType := none }, accessFlags := 2, code := none }
def k2c1 : Code := { maxStack := 2, maxLocals := 2, code := jdk_29_method_69_code, exceptionTable := #[], attributes := #[] }
def k2m1 : Method := { name := "min", desc := "(II)I", sig := { parameters := [.int, .int], returnType := some .int }, accessFlags := 9, code := some k2c1 }
/-- java/lang/Math -/
def k2 : Class := { plain "java/lang/Math" (some 0) with
  accessFlags := 49
  interfaces := #[]
  cf := some (fileOf pool2 1 #[.nestMembers #[98]] #[{ accessFlags := 2, nameIndex := 7, descriptorIndex := 8, attributes := #[] }, { accessFlags := 9, nameIndex := 201, descriptorIndex := 335, attributes := #[] }] 49 4 #[] #[{ accessFlags := 25, nameIndex := 354, descriptorIndex := 339, attributes := #[] }, { accessFlags := 25, nameIndex := 358, descriptorIndex := 339, attributes := #[] }, { accessFlags := 25, nameIndex := 361, descriptorIndex := 339, attributes := #[] }, { accessFlags := 26, nameIndex := 364, descriptorIndex := 339, attributes := #[] }, { accessFlags := 26, nameIndex := 365, descriptorIndex := 339, attributes := #[] }, { accessFlags := 26, nameIndex := 172, descriptorIndex := 173, attributes := #[] }, { accessFlags := 26, nameIndex := 176, descriptorIndex := 173, attributes := #[] }, { accessFlags := 8, nameIndex := 344, descriptorIndex := 339, attributes := #[] }, { accessFlags := 8, nameIndex := 338, descriptorIndex := 339, attributes := #[] }, { accessFlags := 4120, nameIndex := 245, descriptorIndex := 246, attributes := #[] }])
  fields := #[{ name := "E", type := .double, accessFlags := 25, slot := 0, constantValue := 0 }, { name := "PI", type := .double, accessFlags := 25, slot := 1, constantValue := 0 }, { name := "TAU", type := .double, accessFlags := 25, slot := 2, constantValue := 0 }, { name := "DEGREES_TO_RADIANS", type := .double, accessFlags := 26, slot := 3, constantValue := 0 }, { name := "RADIANS_TO_DEGREES", type := .double, accessFlags := 26, slot := 4, constantValue := 0 }, { name := "negativeZeroFloatBits", type := .long, accessFlags := 26, slot := 5, constantValue := 0 }, { name := "negativeZeroDoubleBits", type := .long, accessFlags := 26, slot := 6, constantValue := 0 }, { name := "twoToTheDoubleScaleUp", type := .double, accessFlags := 8, slot := 7, constantValue := 0 }, { name := "twoToTheDoubleScaleDown", type := .double, accessFlags := 8, slot := 8, constantValue := 0 }, { name := "$assertionsDisabled", type := .boolean, accessFlags := 4120, slot := 9, constantValue := 0 }]
  methods := #[k2m0, k2m1]
  instanceTypes := #[]
  staticTypes := #[.double, .double, .double, .double, .double, .long, .long, .double, .double, .boolean]
  resolved := Array.replicate 460 none
  statics := none }

def pool3 : Array CpInfo := pool [(1, .class_ 2), (0, u "java/io/Serializable"), (0, .class_ 4), (0, u "java/lang/Object")] 2

/-- java/io/Serializable -/
def k3 : Class := { plain "java/io/Serializable" (some 0) with
  accessFlags := 1537
  interfaces := #[]
  cf := some (fileOf pool3 1 #[] #[] 1537 3 #[] #[])
  fields := #[]
  methods := #[]
  instanceTypes := #[]
  staticTypes := #[]
  resolved := Array.replicate 7 none
  statics := none }

def pool4 : Array CpInfo := pool [(1, .class_ 2), (0, u "java/lang/Comparable"), (0, .class_ 4), (0, u "java/lang/Object")] 7

/-- java/lang/Comparable -/
def k4 : Class := { plain "java/lang/Comparable" (some 0) with
  accessFlags := 1537
  interfaces := #[]
  cf := some (fileOf pool4 1 #[] #[] 1537 3 #[] #[])
  fields := #[]
  methods := #[]
  instanceTypes := #[]
  staticTypes := #[]
  resolved := Array.replicate 12 none
  statics := none }

def pool5 : Array CpInfo := pool [(2, .class_ 4), (1, u "java/lang/CharSequence"), (42, .class_ 48), (0, u "java/lang/CharSequence$1CodePointIterator"), (10, .class_ 60), (0, u "java/lang/CharSequence$1CharIterator"), (5, .class_ 67), (0, u "java/lang/Object")] 63

/-- java/lang/CharSequence -/
def k5 : Class := { plain "java/lang/CharSequence" (some 0) with
  accessFlags := 1537
  interfaces := #[]
  cf := some (fileOf pool5 2 #[.nestMembers #[47, 59]] #[] 1537 66 #[] #[])
  fields := #[]
  methods := #[]
  instanceTypes := #[]
  staticTypes := #[]
  resolved := Array.replicate 131 none
  statics := none }

def pool6 : Array CpInfo := pool [(1, .class_ 2), (0, u "java/lang/constant/Constable"), (0, .class_ 4), (0, u "java/lang/Object")] 6

/-- java/lang/constant/Constable -/
def k6 : Class := { plain "java/lang/constant/Constable" (some 0) with
  accessFlags := 1537
  interfaces := #[]
  cf := some (fileOf pool6 1 #[] #[] 1537 3 #[] #[])
  fields := #[]
  methods := #[]
  instanceTypes := #[]
  staticTypes := #[]
  resolved := Array.replicate 11 none
  statics := none }

def pool7 : Array CpInfo := pool [(1, .class_ 2), (0, u "java/lang/constant/ConstantDesc"), (0, .class_ 4), (0, u "java/lang/Object")] 32

/-- java/lang/constant/ConstantDesc -/
def k7 : Class := { plain "java/lang/constant/ConstantDesc" (some 0) with
  accessFlags := 1537
  interfaces := #[]
  cf := some (fileOf pool7 1 #[] #[] 1537 3 #[] #[])
  fields := #[]
  methods := #[]
  instanceTypes := #[]
  staticTypes := #[]
  resolved := Array.replicate 37 none
  statics := none }

def pool8 : Array CpInfo := pool [(1, .methodref 2 3), (0, .class_ 4), (0, .nameAndType 5 6), (0, u "java/lang/Object"), (0, u "<init>"), (0, u "()V"), (0, .string 8), (0, u ""), (0, .fieldref 10 11), (0, .class_ 12), (0, .nameAndType 13 14), (0, u "java/lang/String"), (0, u "value"), (0, u "[B"), (0, .fieldref 10 16), (0, .nameAndType 17 18), (0, u "coder"), (0, u "B"), (2, u "hash"), (0, u "I"), (2, u "hashIsZero"), (0, u "Z"), (0, .methodref 10 28), (0, .nameAndType 5 29), (0, u "([CIILjava/lang/Void;)V"), (8, .fieldref 10 39), (0, .nameAndType 40 26), (0, u "COMPACT_STRINGS"), (1, .class_ 44), (1, u "java/lang/StringUTF16"), (0, u "compress"), (1, .methodref 42 48), (0, .nameAndType 49 50), (0, u "coderFromArrayLen"), (0, u "([BI)B"), (56, .class_ 109), (1, u "java/lang/StringLatin1"), (67, .methodref 42 178), (0, .nameAndType 45 179), (0, u "([CII)[B"), (361, .methodref 107 542), (0, .nameAndType 543 544), (0, u "equals"), (0, u "([B[B)Z"), (28, u "(Ljava/lang/Object;)Z"), (1, .class_ 576), (0, u "java/lang/CharSequence"), (22, u "CASE_INSENSITIVE_ORDER"), (0, u "Ljava/util/Comparator;"), (409, u "([C)V"), (90, u "serialPersistentFields"), (0, u "[Ljava/io/ObjectStreamField;"), (0, .class_ 1104), (0, u "java/lang/String$CaseInsensitiveComparator"), (1, .class_ 1107), (0, u "java/io/Serializable"), (0, .class_ 1109), (0, u "java/lang/Comparable"), (0, .class_ 1111), (0, u "java/lang/constant/Constable"), (0, .class_ 1113), (0, u "java/lang/constant/ConstantDesc"), (2, u "serialVersionUID"), (0, u "J"), (3, u "REPL"), (0, u "C"), (2, u "LATIN1"), (1, u "UTF16")] 323

def k8m0 : Method := { name := "<init>", desc := "()V", sig := { parameters := [], returnType := none }, accessFlags := 1, code := none }
def k8c1 : Code := { maxStack := 5, maxLocals := 2, code := jdk_42_method_3_code, exceptionTable := #[], attributes := #[] }
def k8m1 : Method := { name := "<init>", desc := "([C)V", sig := { parameters := [(.array .char)], returnType := none }, accessFlags := 1, code := some k8c1 }
def k8c2 : Code := { maxStack := 2, maxLocals := 3, code := jdk_42_method_66_code, exceptionTable := #[], attributes := #[] }
def k8m2 : Method := { name := "equals", desc := "(Ljava/lang/Object;)Z", sig := { parameters := [(.object "java/lang/Object")], returnType := some .boolean }, accessFlags := 1, code := some k8c2 }
def k8c3 : Code := { maxStack := 4, maxLocals := 6, code := jdk_42_method_149_code, exceptionTable := #[], attributes := #[] }
def k8m3 : Method := { name := "<init>", desc := "([CIILjava/lang/Void;)V", sig := { parameters := [(.array .char), .int, .int, (.object "java/lang/Void")], returnType := none }, accessFlags := 2, code := some k8c3 }
/-- java/lang/String -/
def k8 : Class := { plain "java/lang/String" (some 0) with
  accessFlags := 49
  interfaces := #[3, 4, 5, 6, 7]
  cf := some (fileOf pool8 10 #[.nestMembers #[1103]] #[{ accessFlags := 1, nameIndex := 5, descriptorIndex := 6, attributes := #[] }, { accessFlags := 1, nameIndex := 5, descriptorIndex := 1010, attributes := #[] }, { accessFlags := 1, nameIndex := 543, descriptorIndex := 573, attributes := #[] }, { accessFlags := 2, nameIndex := 5, descriptorIndex := 29, attributes := #[] }] 49 2 #[1106, 1108, 575, 1110, 1112] #[{ accessFlags := 18, nameIndex := 13, descriptorIndex := 14, attributes := #[] }, { accessFlags := 18, nameIndex := 17, descriptorIndex := 18, attributes := #[] }, { accessFlags := 2, nameIndex := 21, descriptorIndex := 22, attributes := #[] }, { accessFlags := 2, nameIndex := 25, descriptorIndex := 26, attributes := #[] }, { accessFlags := 26, nameIndex := 1116, descriptorIndex := 1117, attributes := #[] }, { accessFlags := 24, nameIndex := 40, descriptorIndex := 26, attributes := #[] }, { accessFlags := 26, nameIndex := 1101, descriptorIndex := 1102, attributes := #[] }, { accessFlags := 26, nameIndex := 1121, descriptorIndex := 1122, attributes := #[] }, { accessFlags := 25, nameIndex := 599, descriptorIndex := 600, attributes := #[] }, { accessFlags := 24, nameIndex := 1125, descriptorIndex := 18, attributes := #[] }, { accessFlags := 24, nameIndex := 1127, descriptorIndex := 18, attributes := #[] }])
  fields := #[{ name := "value", type := (.array .byte), accessFlags := 18, slot := 0, constantValue := 0 }, { name := "coder", type := .byte, accessFlags := 18, slot := 1, constantValue := 0 }, { name := "hash", type := .int, accessFlags := 2, slot := 2, constantValue := 0 }, { name := "hashIsZero", type := .boolean, accessFlags := 2, slot := 3, constantValue := 0 }, { name := "serialVersionUID", type := .long, accessFlags := 26, slot := 0, constantValue := 0 }, { name := "COMPACT_STRINGS", type := .boolean, accessFlags := 24, slot := 1, constantValue := 0 }, { name := "serialPersistentFields", type := (.array (.object "java/io/ObjectStreamField")), accessFlags := 26, slot := 2, constantValue := 0 }, { name := "REPL", type := .char, accessFlags := 26, slot := 3, constantValue := 0 }, { name := "CASE_INSENSITIVE_ORDER", type := (.object "java/util/Comparator"), accessFlags := 25, slot := 4, constantValue := 0 }, { name := "LATIN1", type := .byte, accessFlags := 24, slot := 5, constantValue := 0 }, { name := "UTF16", type := .byte, accessFlags := 24, slot := 6, constantValue := 0 }]
  methods := #[k8m0, k8m1, k8m2, k8m3]
  instanceTypes := #[(.array .byte), .byte, .int, .boolean]
  staticTypes := #[.long, .boolean, (.array (.object "java/io/ObjectStreamField")), .char, (.object "java/util/Comparator"), .byte, .byte]
  resolved := Array.replicate 1451 none
  statics := some 0 }

def pool9 : Array CpInfo := pool [(1, .methodref 2 3), (0, .class_ 4), (0, .nameAndType 5 6), (0, u "java/lang/Object"), (0, u "<init>"), (0, u "()V"), (0, .class_ 8), (0, u "java/lang/Record")] 13

def k9c0 : Code := { maxStack := 1, maxLocals := 1, code := jdk_30_method_1_code, exceptionTable := #[], attributes := #[] }
def k9m0 : Method := { name := "<init>", desc := "()V", sig := { parameters := [], returnType := none }, accessFlags := 4, code := some k9c0 }
/-- java/lang/Record -/
def k9 : Class := { plain "java/lang/Record" (some 0) with
  accessFlags := 1057
  interfaces := #[]
  cf := some (fileOf pool9 7 #[] #[{ accessFlags := 4, nameIndex := 5, descriptorIndex := 6, attributes := #[] }] 1057 2 #[] #[])
  fields := #[]
  methods := #[k9m0]
  instanceTypes := #[]
  staticTypes := #[]
  resolved := Array.replicate 22 none
  statics := none }

def pool10 : Array CpInfo := pool [(1, .methodref 2 3), (0, .class_ 4), (0, .nameAndType 5 6), (0, u "java/lang/Record"), (0, u "<init>"), (0, u "()V"), (0, .fieldref 8 9), (0, .class_ 10), (0, .nameAndType 11 12), (0, u "com/example/callsite/callsite/bytecode/ClassRead"), (0, u "name"), (0, u "Ljava/lang/String;"), (0, .fieldref 8 14), (0, .nameAndType 15 16), (0, u "source"), (0, u "Lcom/example/callsite/callsite/bytecode/ClassRead$Source;"), (0, .fieldref 8 18), (0, .nameAndType 19 20), (0, u "aspect"), (0, u "Lcom/example/callsite/callsite/bytecode/ClassRead$Aspect;"), (0, .fieldref 8 22), (0, .nameAndType 23 12), (0, u "member"), (0, .fieldref 8 25), (0, .nameAndType 26 12), (0, u "answer"), (0, .methodref 28 29), (0, .class_ 30), (0, .nameAndType 31 32), (0, u "java/lang/String"), (0, u "equals"), (0, u "(Ljava/lang/Object;)Z"), (5, .class_ 39), (0, u "com/example/callsite/callsite/bytecode/ClassRead$Source"), (1, .class_ 42), (0, u "com/example/callsite/callsite/bytecode/ClassRead$Aspect"), (4, u "(Ljava/lang/String;Lcom/example/callsite/callsite/bytecode/ClassRead$Source;Lcom/example/callsite/callsite/bytecode/ClassRead$Aspect;Ljava/lang/String;Ljava/lang/String;)V"), (10, .class_ 59), (0, u "com/example/callsite/callsite/bytecode/ClassRead$Key")] 25

def k10c0 : Code := { maxStack := 2, maxLocals := 6, code := prog_76_method_1_code, exceptionTable := #[], attributes := #[] }
def k10m0 : Method := { name := "<init>", desc := "(Ljava/lang/String;Lcom/example/callsite/callsite/bytecode/ClassRead$Source;Lcom/example/callsite/callsite/bytecode/ClassRead$Aspect;Ljava/lang/String;Ljava/lang/String;)V", sig := { parameters := [(.object "java/lang/String"), (.object "com/example/callsite/callsite/bytecode/ClassRead$Source"), (.object "com/example/callsite/callsite/bytecode/ClassRead$Aspect"), (.object "java/lang/String"), (.object "java/lang/String")], returnType := none }, accessFlags := 1, code := some k10c0 }
def k10c1 : Code := { maxStack := 2, maxLocals := 3, code := prog_76_method_2_code, exceptionTable := #[], attributes := #[] }
def k10m1 : Method := { name := "equals", desc := "(Ljava/lang/Object;)Z", sig := { parameters := [(.object "java/lang/Object")], returnType := some .boolean }, accessFlags := 1, code := some k10c1 }
/-- com/example/callsite/callsite/bytecode/ClassRead -/
def k10 : Class := { plain "com/example/callsite/callsite/bytecode/ClassRead" (some 9) with
  accessFlags := 49
  interfaces := #[]
  cf := some (fileOf pool10 8 #[.nestMembers #[58, 41, 38]] #[{ accessFlags := 1, nameIndex := 5, descriptorIndex := 47, attributes := #[] }, { accessFlags := 1, nameIndex := 31, descriptorIndex := 32, attributes := #[] }] 49 2 #[] #[{ accessFlags := 18, nameIndex := 11, descriptorIndex := 12, attributes := #[] }, { accessFlags := 18, nameIndex := 15, descriptorIndex := 16, attributes := #[] }, { accessFlags := 18, nameIndex := 19, descriptorIndex := 20, attributes := #[] }, { accessFlags := 18, nameIndex := 23, descriptorIndex := 12, attributes := #[] }, { accessFlags := 18, nameIndex := 26, descriptorIndex := 12, attributes := #[] }])
  fields := #[{ name := "name", type := (.object "java/lang/String"), accessFlags := 18, slot := 0, constantValue := 0 }, { name := "source", type := (.object "com/example/callsite/callsite/bytecode/ClassRead$Source"), accessFlags := 18, slot := 1, constantValue := 0 }, { name := "aspect", type := (.object "com/example/callsite/callsite/bytecode/ClassRead$Aspect"), accessFlags := 18, slot := 2, constantValue := 0 }, { name := "member", type := (.object "java/lang/String"), accessFlags := 18, slot := 3, constantValue := 0 }, { name := "answer", type := (.object "java/lang/String"), accessFlags := 18, slot := 4, constantValue := 0 }]
  methods := #[k10m0, k10m1]
  instanceTypes := #[(.object "java/lang/String"), (.object "com/example/callsite/callsite/bytecode/ClassRead$Source"), (.object "com/example/callsite/callsite/bytecode/ClassRead$Aspect"), (.object "java/lang/String"), (.object "java/lang/String")]
  staticTypes := #[]
  resolved := Array.replicate 85 none
  statics := none }

def pool11 : Array CpInfo := pool [(2, .class_ 4), (1, u "java/lang/Enum"), (0, u "name"), (0, u "Ljava/lang/String;"), (2, u "ordinal"), (0, u "I"), (1, .class_ 14), (1, u "java/lang/Object"), (4, u "hash"), (86, .class_ 108), (1, u "java/lang/Enum$EnumDesc"), (2, .class_ 112), (0, u "java/lang/constant/Constable"), (0, .class_ 114), (0, u "java/lang/Comparable"), (0, .class_ 116), (0, u "java/io/Serializable")] 87

/-- java/lang/Enum -/
def k11 : Class := { plain "java/lang/Enum" (some 0) with
  accessFlags := 1057
  interfaces := #[6, 4, 3]
  cf := some (fileOf pool11 2 #[.nestMembers #[106]] #[] 1057 12 #[111, 113, 115] #[{ accessFlags := 18, nameIndex := 5, descriptorIndex := 6, attributes := #[] }, { accessFlags := 18, nameIndex := 9, descriptorIndex := 10, attributes := #[] }, { accessFlags := 2, nameIndex := 19, descriptorIndex := 10, attributes := #[] }])
  fields := #[{ name := "name", type := (.object "java/lang/String"), accessFlags := 18, slot := 0, constantValue := 0 }, { name := "ordinal", type := .int, accessFlags := 18, slot := 1, constantValue := 0 }, { name := "hash", type := .int, accessFlags := 2, slot := 2, constantValue := 0 }]
  methods := #[]
  instanceTypes := #[(.object "java/lang/String"), .int, .int]
  staticTypes := #[]
  resolved := Array.replicate 204 none
  statics := none }

def pool12 : Array CpInfo := pool [(1, .class_ 2), (0, u "com/example/callsite/callsite/bytecode/ClassRead$Source"), (2, u "PROGRAM"), (0, u "Lcom/example/callsite/callsite/bytecode/ClassRead$Source;"), (2, u "JDK"), (2, u "LIBRARY"), (2, u "UNKNOWN"), (2, u "NOT_PROGRAM"), (2, u "$VALUES"), (0, u "[Lcom/example/callsite/callsite/bytecode/ClassRead$Source;"), (6, .class_ 31), (1, u "java/lang/Enum"), (28, .class_ 61), (0, u "com/example/callsite/callsite/bytecode/ClassRead")] 2

/-- com/example/callsite/callsite/bytecode/ClassRead$Source -/
def k12 : Class := { plain "com/example/callsite/callsite/bytecode/ClassRead$Source" (some 11) with
  accessFlags := 16433
  interfaces := #[]
  cf := some (fileOf pool12 1 #[.nestHost 60] #[] 16433 29 #[] #[{ accessFlags := 16409, nameIndex := 5, descriptorIndex := 6, attributes := #[] }, { accessFlags := 16409, nameIndex := 9, descriptorIndex := 6, attributes := #[] }, { accessFlags := 16409, nameIndex := 12, descriptorIndex := 6, attributes := #[] }, { accessFlags := 16409, nameIndex := 15, descriptorIndex := 6, attributes := #[] }, { accessFlags := 16409, nameIndex := 18, descriptorIndex := 6, attributes := #[] }, { accessFlags := 4122, nameIndex := 21, descriptorIndex := 22, attributes := #[] }])
  fields := #[{ name := "PROGRAM", type := (.object "com/example/callsite/callsite/bytecode/ClassRead$Source"), accessFlags := 16409, slot := 0, constantValue := 0 }, { name := "JDK", type := (.object "com/example/callsite/callsite/bytecode/ClassRead$Source"), accessFlags := 16409, slot := 1, constantValue := 0 }, { name := "LIBRARY", type := (.object "com/example/callsite/callsite/bytecode/ClassRead$Source"), accessFlags := 16409, slot := 2, constantValue := 0 }, { name := "UNKNOWN", type := (.object "com/example/callsite/callsite/bytecode/ClassRead$Source"), accessFlags := 16409, slot := 3, constantValue := 0 }, { name := "NOT_PROGRAM", type := (.object "com/example/callsite/callsite/bytecode/ClassRead$Source"), accessFlags := 16409, slot := 4, constantValue := 0 }, { name := "$VALUES", type := (.array (.object "com/example/callsite/callsite/bytecode/ClassRead$Source")), accessFlags := 4122, slot := 5, constantValue := 0 }]
  methods := #[]
  instanceTypes := #[(.object "java/lang/String"), .int, .int]
  staticTypes := #[(.object "com/example/callsite/callsite/bytecode/ClassRead$Source"), (.object "com/example/callsite/callsite/bytecode/ClassRead$Source"), (.object "com/example/callsite/callsite/bytecode/ClassRead$Source"), (.object "com/example/callsite/callsite/bytecode/ClassRead$Source"), (.object "com/example/callsite/callsite/bytecode/ClassRead$Source"), (.array (.object "com/example/callsite/callsite/bytecode/ClassRead$Source"))]
  resolved := Array.replicate 64 none
  statics := some 1 }

def pool13 : Array CpInfo := pool [(1, .class_ 2), (0, u "com/example/callsite/callsite/bytecode/ClassRead$Aspect"), (2, u "PROGRAM"), (0, u "Lcom/example/callsite/callsite/bytecode/ClassRead$Aspect;"), (2, u "SOURCE"), (2, u "SUPERCLASS"), (2, u "INTERFACES"), (2, u "INTERFACE"), (2, u "DECLARES_METHOD"), (2, u "FLAGS"), (2, u "THROWS"), (2, u "PROGRAM_METHOD"), (2, u "FIELD"), (2, u "CONCRETE_METHOD"), (2, u "METHODS"), (2, u "$VALUES"), (0, u "[Lcom/example/callsite/callsite/bytecode/ClassRead$Aspect;"), (6, .class_ 52), (1, u "java/lang/Enum"), (35, .class_ 89), (0, u "com/example/callsite/callsite/bytecode/ClassRead")] 2

/-- com/example/callsite/callsite/bytecode/ClassRead$Aspect -/
def k13 : Class := { plain "com/example/callsite/callsite/bytecode/ClassRead$Aspect" (some 11) with
  accessFlags := 16433
  interfaces := #[]
  cf := some (fileOf pool13 1 #[.nestHost 88] #[] 16433 50 #[] #[{ accessFlags := 16409, nameIndex := 5, descriptorIndex := 6, attributes := #[] }, { accessFlags := 16409, nameIndex := 9, descriptorIndex := 6, attributes := #[] }, { accessFlags := 16409, nameIndex := 12, descriptorIndex := 6, attributes := #[] }, { accessFlags := 16409, nameIndex := 15, descriptorIndex := 6, attributes := #[] }, { accessFlags := 16409, nameIndex := 18, descriptorIndex := 6, attributes := #[] }, { accessFlags := 16409, nameIndex := 21, descriptorIndex := 6, attributes := #[] }, { accessFlags := 16409, nameIndex := 24, descriptorIndex := 6, attributes := #[] }, { accessFlags := 16409, nameIndex := 27, descriptorIndex := 6, attributes := #[] }, { accessFlags := 16409, nameIndex := 30, descriptorIndex := 6, attributes := #[] }, { accessFlags := 16409, nameIndex := 33, descriptorIndex := 6, attributes := #[] }, { accessFlags := 16409, nameIndex := 36, descriptorIndex := 6, attributes := #[] }, { accessFlags := 16409, nameIndex := 39, descriptorIndex := 6, attributes := #[] }, { accessFlags := 4122, nameIndex := 42, descriptorIndex := 43, attributes := #[] }])
  fields := #[{ name := "PROGRAM", type := (.object "com/example/callsite/callsite/bytecode/ClassRead$Aspect"), accessFlags := 16409, slot := 0, constantValue := 0 }, { name := "SOURCE", type := (.object "com/example/callsite/callsite/bytecode/ClassRead$Aspect"), accessFlags := 16409, slot := 1, constantValue := 0 }, { name := "SUPERCLASS", type := (.object "com/example/callsite/callsite/bytecode/ClassRead$Aspect"), accessFlags := 16409, slot := 2, constantValue := 0 }, { name := "INTERFACES", type := (.object "com/example/callsite/callsite/bytecode/ClassRead$Aspect"), accessFlags := 16409, slot := 3, constantValue := 0 }, { name := "INTERFACE", type := (.object "com/example/callsite/callsite/bytecode/ClassRead$Aspect"), accessFlags := 16409, slot := 4, constantValue := 0 }, { name := "DECLARES_METHOD", type := (.object "com/example/callsite/callsite/bytecode/ClassRead$Aspect"), accessFlags := 16409, slot := 5, constantValue := 0 }, { name := "FLAGS", type := (.object "com/example/callsite/callsite/bytecode/ClassRead$Aspect"), accessFlags := 16409, slot := 6, constantValue := 0 }, { name := "THROWS", type := (.object "com/example/callsite/callsite/bytecode/ClassRead$Aspect"), accessFlags := 16409, slot := 7, constantValue := 0 }, { name := "PROGRAM_METHOD", type := (.object "com/example/callsite/callsite/bytecode/ClassRead$Aspect"), accessFlags := 16409, slot := 8, constantValue := 0 }, { name := "FIELD", type := (.object "com/example/callsite/callsite/bytecode/ClassRead$Aspect"), accessFlags := 16409, slot := 9, constantValue := 0 }, { name := "CONCRETE_METHOD", type := (.object "com/example/callsite/callsite/bytecode/ClassRead$Aspect"), accessFlags := 16409, slot := 10, constantValue := 0 }, { name := "METHODS", type := (.object "com/example/callsite/callsite/bytecode/ClassRead$Aspect"), accessFlags := 16409, slot := 11, constantValue := 0 }, { name := "$VALUES", type := (.array (.object "com/example/callsite/callsite/bytecode/ClassRead$Aspect")), accessFlags := 4122, slot := 12, constantValue := 0 }]
  methods := #[]
  instanceTypes := #[(.object "java/lang/String"), .int, .int]
  staticTypes := #[(.object "com/example/callsite/callsite/bytecode/ClassRead$Aspect"), (.object "com/example/callsite/callsite/bytecode/ClassRead$Aspect"), (.object "com/example/callsite/callsite/bytecode/ClassRead$Aspect"), (.object "com/example/callsite/callsite/bytecode/ClassRead$Aspect"), (.object "com/example/callsite/callsite/bytecode/ClassRead$Aspect"), (.object "com/example/callsite/callsite/bytecode/ClassRead$Aspect"), (.object "com/example/callsite/callsite/bytecode/ClassRead$Aspect"), (.object "com/example/callsite/callsite/bytecode/ClassRead$Aspect"), (.object "com/example/callsite/callsite/bytecode/ClassRead$Aspect"), (.object "com/example/callsite/callsite/bytecode/ClassRead$Aspect"), (.object "com/example/callsite/callsite/bytecode/ClassRead$Aspect"), (.object "com/example/callsite/callsite/bytecode/ClassRead$Aspect"), (.array (.object "com/example/callsite/callsite/bytecode/ClassRead$Aspect"))]
  resolved := Array.replicate 92 none
  statics := some 2 }

def pool14 : Array CpInfo := pool [(4, .class_ 6), (1, u "java/lang/Object"), (0, u "<init>"), (0, u "()V"), (5, .class_ 16), (1, u "java/lang/StringLatin1"), (104, u "$assertionsDisabled"), (0, u "Z"), (98, .class_ 223), (1, u "java/lang/StringLatin1$LinesSpliterator"), (57, u "equals"), (0, u "([B[B)Z"), (107, .class_ 391), (0, u "java/lang/StringLatin1$CharsSpliterator")] 3

def k14m0 : Method := { name := "<init>", desc := "()V", sig := { parameters := [], returnType := none }, accessFlags := 0, code := none }
def k14c1 : Code := { maxStack := 3, maxLocals := 3, code := jdk_43_method_13_code, exceptionTable := #[], attributes := #[] }
def k14m1 : Method := { name := "equals", desc := "([B[B)Z", sig := { parameters := [(.array .byte), (.array .byte)], returnType := some .boolean }, accessFlags := 9, code := some k14c1 }
/-- java/lang/StringLatin1 -/
def k14 : Class := { plain "java/lang/StringLatin1" (some 0) with
  accessFlags := 48
  interfaces := #[]
  cf := some (fileOf pool14 14 #[.nestMembers #[390, 221]] #[{ accessFlags := 0, nameIndex := 7, descriptorIndex := 8, attributes := #[] }, { accessFlags := 9, nameIndex := 281, descriptorIndex := 282, attributes := #[] }] 48 4 #[] #[{ accessFlags := 4120, nameIndex := 121, descriptorIndex := 122, attributes := #[] }])
  fields := #[{ name := "$assertionsDisabled", type := .boolean, accessFlags := 4120, slot := 0, constantValue := 0 }]
  methods := #[k14m0, k14m1]
  instanceTypes := #[]
  staticTypes := #[.boolean]
  resolved := Array.replicate 395 none
  statics := none }

def pool15 : Array CpInfo := pool [(6, .class_ 8), (1, u "java/lang/Object"), (0, u "<init>"), (0, u "()V"), (1, .class_ 14), (1, u "java/lang/StringUTF16"), (31, u "$assertionsDisabled"), (0, u "Z"), (13, u "HI_BYTE_SHIFT"), (0, u "I"), (2, u "LO_BYTE_SHIFT"), (49, .methodref 12 116), (0, .nameAndType 117 118), (0, u "compress"), (0, u "([CI[BII)I"), (3, u "([CII)[B"), (138, u "coderFromArrayLen"), (0, u "([BI)B"), (106, .class_ 371), (1, u "java/lang/StringUTF16$LinesSpliterator"), (58, u "MAX_LENGTH"), (196, .class_ 628), (0, u "java/lang/StringUTF16$CodePointsSpliterator"), (0, .class_ 630), (0, u "java/lang/StringUTF16$CharsSpliterator")] 4

def k15m0 : Method := { name := "<init>", desc := "()V", sig := { parameters := [], returnType := none }, accessFlags := 0, code := none }
def k15c1 : Code := { maxStack := 2, maxLocals := 2, code := jdk_52_method_15_code, exceptionTable := #[], attributes := #[] }
def k15m1 : Method := { name := "coderFromArrayLen", desc := "([BI)B", sig := { parameters := [(.array .byte), .int], returnType := some .byte }, accessFlags := 8, code := some k15c1 }
def k15c2 : Code := { maxStack := 5, maxLocals := 6, code := jdk_52_method_16_code, exceptionTable := #[], attributes := #[] }
def k15m2 : Method := { name := "compress", desc := "([CII)[B", sig := { parameters := [(.array .char), .int, .int], returnType := some (.array .byte) }, accessFlags := 9, code := some k15c2 }
def k15c3 : Code := { maxStack := 3, maxLocals := 7, code := jdk_52_method_21_code, exceptionTable := #[], attributes := #[] }
def k15m3 : Method := { name := "compress", desc := "([CI[BII)I", sig := { parameters := [(.array .char), .int, (.array .byte), .int, .int], returnType := some .int }, accessFlags := 9, code := some k15c3 }
/-- java/lang/StringUTF16 -/
def k15 : Class := { plain "java/lang/StringUTF16" (some 0) with
  accessFlags := 48
  interfaces := #[]
  cf := some (fileOf pool15 12 #[.nestMembers #[627, 629, 369]] #[{ accessFlags := 0, nameIndex := 9, descriptorIndex := 10, attributes := #[] }, { accessFlags := 8, nameIndex := 261, descriptorIndex := 262, attributes := #[] }, { accessFlags := 9, nameIndex := 117, descriptorIndex := 122, attributes := #[] }, { accessFlags := 9, nameIndex := 117, descriptorIndex := 118, attributes := #[] }] 48 6 #[] #[{ accessFlags := 26, nameIndex := 61, descriptorIndex := 62, attributes := #[] }, { accessFlags := 26, nameIndex := 65, descriptorIndex := 62, attributes := #[] }, { accessFlags := 24, nameIndex := 430, descriptorIndex := 62, attributes := #[] }, { accessFlags := 4120, nameIndex := 46, descriptorIndex := 47, attributes := #[] }])
  fields := #[{ name := "HI_BYTE_SHIFT", type := .int, accessFlags := 26, slot := 0, constantValue := 0 }, { name := "LO_BYTE_SHIFT", type := .int, accessFlags := 26, slot := 1, constantValue := 0 }, { name := "MAX_LENGTH", type := .int, accessFlags := 24, slot := 2, constantValue := 0 }, { name := "$assertionsDisabled", type := .boolean, accessFlags := 4120, slot := 3, constantValue := 0 }]
  methods := #[k15m0, k15m1, k15m2, k15m3]
  instanceTypes := #[]
  staticTypes := #[.int, .int, .int, .boolean]
  resolved := Array.replicate 635 none
  statics := none }

def pool16 : Array CpInfo := pool [(2, .class_ 4), (1, u "java/lang/Object"), (0, u "<init>"), (0, u "()V"), (17, .class_ 26), (1, u "jdk/internal/util/Preconditions"), (28, .class_ 56), (0, u "jdk/internal/util/Preconditions$4"), (57, .class_ 115), (0, u "jdk/internal/util/Preconditions$1"), (7, u "SIOOBE_FORMATTER"), (0, u "Ljava/util/function/BiFunction;"), (0, .class_ 126), (0, u "jdk/internal/util/Preconditions$2"), (3, u "AIOOBE_FORMATTER"), (0, .class_ 132), (0, u "jdk/internal/util/Preconditions$3"), (3, u "IOOBE_FORMATTER")] 57

def k16m0 : Method := { name := "<init>", desc := "()V", sig := { parameters := [], returnType := none }, accessFlags := 1, code := none }
/-- jdk/internal/util/Preconditions -/
def k16 : Class := { plain "jdk/internal/util/Preconditions" (some 0) with
  accessFlags := 33
  interfaces := #[]
  cf := some (fileOf pool16 24 #[.nestMembers #[55, 131, 125, 114]] #[{ accessFlags := 1, nameIndex := 5, descriptorIndex := 6, attributes := #[] }] 33 2 #[] #[{ accessFlags := 25, nameIndex := 123, descriptorIndex := 124, attributes := #[] }, { accessFlags := 25, nameIndex := 130, descriptorIndex := 124, attributes := #[] }, { accessFlags := 25, nameIndex := 136, descriptorIndex := 124, attributes := #[] }])
  fields := #[{ name := "SIOOBE_FORMATTER", type := (.object "java/util/function/BiFunction"), accessFlags := 25, slot := 0, constantValue := 0 }, { name := "AIOOBE_FORMATTER", type := (.object "java/util/function/BiFunction"), accessFlags := 25, slot := 1, constantValue := 0 }, { name := "IOOBE_FORMATTER", type := (.object "java/util/function/BiFunction"), accessFlags := 25, slot := 2, constantValue := 0 }]
  methods := #[k16m0]
  instanceTypes := #[]
  staticTypes := #[(.object "java/util/function/BiFunction"), (.object "java/util/function/BiFunction"), (.object "java/util/function/BiFunction")]
  resolved := Array.replicate 194 none
  statics := some 3 }

def pool17 : Array CpInfo := pool [(9, u "<init>"), (6, .class_ 18), (1, u "java/lang/Object"), (0, u "()V"), (1, .class_ 23), (1, u "jdk/internal/util/ArraysSupport"), (0, u "LOG2_ARRAY_LONG_INDEX_SCALE"), (0, u "I"), (2, u "U"), (0, u "Ljdk/internal/misc/Unsafe;"), (8, u "BIG_ENDIAN"), (0, u "Z"), (8, u "LOG2_BYTE_BIT_SIZE"), (4, u "LOG2_ARRAY_INT_INDEX_SCALE"), (54, u "JLA"), (0, u "Ljdk/internal/access/JavaLangAccess;"), (11, u "LOG2_ARRAY_BOOLEAN_INDEX_SCALE"), (9, u "LOG2_ARRAY_BYTE_INDEX_SCALE"), (5, u "LOG2_ARRAY_CHAR_INDEX_SCALE"), (5, u "LOG2_ARRAY_SHORT_INDEX_SCALE"), (18, u "LOG2_ARRAY_FLOAT_INDEX_SCALE"), (24, u "LOG2_ARRAY_DOUBLE_INDEX_SCALE"), (89, u "T_BOOLEAN"), (2, u "T_CHAR"), (1, u "T_FLOAT"), (1, u "T_DOUBLE"), (1, u "T_BYTE"), (1, u "T_SHORT"), (1, u "T_INT"), (1, u "T_LONG"), (1, u "SOFT_MAX_ARRAY_LENGTH")] 83

def k17m0 : Method := { name := "<init>", desc := "()V", sig := { parameters := [], returnType := none }, accessFlags := 2, code := none }
/-- jdk/internal/util/ArraysSupport -/
def k17 : Class := { plain "jdk/internal/util/ArraysSupport" (some 0) with
  accessFlags := 33
  interfaces := #[]
  cf := some (fileOf pool17 21 #[] #[{ accessFlags := 2, nameIndex := 9, descriptorIndex := 19, attributes := #[] }] 33 16 #[] #[{ accessFlags := 24, nameIndex := 28, descriptorIndex := 29, attributes := #[] }, { accessFlags := 26, nameIndex := 38, descriptorIndex := 39, attributes := #[] }, { accessFlags := 25, nameIndex := 121, descriptorIndex := 25, attributes := #[] }, { accessFlags := 25, nameIndex := 131, descriptorIndex := 25, attributes := #[] }, { accessFlags := 25, nameIndex := 137, descriptorIndex := 25, attributes := #[] }, { accessFlags := 25, nameIndex := 143, descriptorIndex := 25, attributes := #[] }, { accessFlags := 25, nameIndex := 53, descriptorIndex := 25, attributes := #[] }, { accessFlags := 25, nameIndex := 24, descriptorIndex := 25, attributes := #[] }, { accessFlags := 25, nameIndex := 162, descriptorIndex := 25, attributes := #[] }, { accessFlags := 25, nameIndex := 187, descriptorIndex := 25, attributes := #[] }, { accessFlags := 26, nameIndex := 48, descriptorIndex := 25, attributes := #[] }, { accessFlags := 25, nameIndex := 277, descriptorIndex := 25, attributes := #[] }, { accessFlags := 25, nameIndex := 280, descriptorIndex := 25, attributes := #[] }, { accessFlags := 25, nameIndex := 282, descriptorIndex := 25, attributes := #[] }, { accessFlags := 25, nameIndex := 284, descriptorIndex := 25, attributes := #[] }, { accessFlags := 25, nameIndex := 286, descriptorIndex := 25, attributes := #[] }, { accessFlags := 25, nameIndex := 288, descriptorIndex := 25, attributes := #[] }, { accessFlags := 25, nameIndex := 290, descriptorIndex := 25, attributes := #[] }, { accessFlags := 25, nameIndex := 292, descriptorIndex := 25, attributes := #[] }, { accessFlags := 26, nameIndex := 108, descriptorIndex := 109, attributes := #[] }, { accessFlags := 25, nameIndex := 294, descriptorIndex := 25, attributes := #[] }])
  fields := #[{ name := "U", type := (.object "jdk/internal/misc/Unsafe"), accessFlags := 24, slot := 0, constantValue := 0 }, { name := "BIG_ENDIAN", type := .boolean, accessFlags := 26, slot := 1, constantValue := 0 }, { name := "LOG2_ARRAY_BOOLEAN_INDEX_SCALE", type := .int, accessFlags := 25, slot := 2, constantValue := 0 }, { name := "LOG2_ARRAY_BYTE_INDEX_SCALE", type := .int, accessFlags := 25, slot := 3, constantValue := 0 }, { name := "LOG2_ARRAY_CHAR_INDEX_SCALE", type := .int, accessFlags := 25, slot := 4, constantValue := 0 }, { name := "LOG2_ARRAY_SHORT_INDEX_SCALE", type := .int, accessFlags := 25, slot := 5, constantValue := 0 }, { name := "LOG2_ARRAY_INT_INDEX_SCALE", type := .int, accessFlags := 25, slot := 6, constantValue := 0 }, { name := "LOG2_ARRAY_LONG_INDEX_SCALE", type := .int, accessFlags := 25, slot := 7, constantValue := 0 }, { name := "LOG2_ARRAY_FLOAT_INDEX_SCALE", type := .int, accessFlags := 25, slot := 8, constantValue := 0 }, { name := "LOG2_ARRAY_DOUBLE_INDEX_SCALE", type := .int, accessFlags := 25, slot := 9, constantValue := 0 }, { name := "LOG2_BYTE_BIT_SIZE", type := .int, accessFlags := 26, slot := 10, constantValue := 0 }, { name := "T_BOOLEAN", type := .int, accessFlags := 25, slot := 11, constantValue := 0 }, { name := "T_CHAR", type := .int, accessFlags := 25, slot := 12, constantValue := 0 }, { name := "T_FLOAT", type := .int, accessFlags := 25, slot := 13, constantValue := 0 }, { name := "T_DOUBLE", type := .int, accessFlags := 25, slot := 14, constantValue := 0 }, { name := "T_BYTE", type := .int, accessFlags := 25, slot := 15, constantValue := 0 }, { name := "T_SHORT", type := .int, accessFlags := 25, slot := 16, constantValue := 0 }, { name := "T_INT", type := .int, accessFlags := 25, slot := 17, constantValue := 0 }, { name := "T_LONG", type := .int, accessFlags := 25, slot := 18, constantValue := 0 }, { name := "JLA", type := (.object "jdk/internal/access/JavaLangAccess"), accessFlags := 26, slot := 19, constantValue := 0 }, { name := "SOFT_MAX_ARRAY_LENGTH", type := .int, accessFlags := 25, slot := 20, constantValue := 0 }]
  methods := #[k17m0]
  instanceTypes := #[]
  staticTypes := #[(.object "jdk/internal/misc/Unsafe"), .boolean, .int, .int, .int, .int, .int, .int, .int, .int, .int, .int, .int, .int, .int, .int, .int, .int, .int, (.object "jdk/internal/access/JavaLangAccess"), .int]
  resolved := Array.replicate 378 none
  statics := none }

def pool18 : Array CpInfo := pool [(1, u "java/lang/Cloneable"), (0, .class_ 1), (0, u "java/lang/Object"), (0, .class_ 3)] 3

/-- java/lang/Cloneable -/
def k18 : Class := { plain "java/lang/Cloneable" (some 0) with
  accessFlags := 1537
  interfaces := #[]
  cf := some (fileOf pool18 2 #[] #[] 1537 4 #[] #[])
  fields := #[]
  methods := #[]
  instanceTypes := #[]
  staticTypes := #[]
  resolved := Array.replicate 8 none
  statics := none }

/-- the primitive byte -/
def k19 : Class := { plain "byte" none with kind := .primitive 'B', accessFlags := 0x411 }
/-- [B -/
def k20 : Class := { plain "[B" (some 0) with kind := .array 19 .byte, interfaces := #[18, 3], accessFlags := 1041 }

/-- the primitive char -/
def k21 : Class := { plain "char" none with kind := .primitive 'C', accessFlags := 0x411 }
/-- [C -/
def k22 : Class := { plain "[C" (some 0) with kind := .array 21 .char, interfaces := #[18, 3], accessFlags := 1041 }

/-- the primitive int -/
def k23 : Class := { plain "int" none with kind := .primitive 'I', accessFlags := 0x411 }
/-- [I -/
def k24 : Class := { plain "[I" (some 0) with kind := .array 23 .int, interfaces := #[18, 3], accessFlags := 1041 }

def heap : Heap := #[{ cls := 8, slots := #[.long 0, .int 1, .null, .int 0, .null, .int 0, .int 0], vm := .statics 8 },
  { cls := 12, slots := #[.ref 4, .ref 9, .ref 10, .ref 12, .ref 15, .null], vm := .statics 12 },
  { cls := 13, slots := #[.ref 5, .ref 6, .ref 11, .ref 8, .ref 20, .ref 16, .ref 18, .ref 7, .ref 19, .ref 13, .ref 14, .ref 17, .null], vm := .statics 13 },
  { cls := 16, slots := #[.null, .null, .null], vm := .statics 16 },
  { cls := 12, slots := #[.null, .int 0, .int 0], vm := .none },
  { cls := 13, slots := #[.null, .int 0, .int 0], vm := .none },
  { cls := 13, slots := #[.null, .int 1, .int 0], vm := .none },
  { cls := 13, slots := #[.null, .int 7, .int 0], vm := .none },
  { cls := 13, slots := #[.null, .int 3, .int 0], vm := .none },
  { cls := 12, slots := #[.null, .int 1, .int 0], vm := .none },
  { cls := 12, slots := #[.null, .int 2, .int 0], vm := .none },
  { cls := 13, slots := #[.null, .int 2, .int 0], vm := .none },
  { cls := 12, slots := #[.null, .int 3, .int 0], vm := .none },
  { cls := 13, slots := #[.null, .int 9, .int 0], vm := .none },
  { cls := 13, slots := #[.null, .int 10, .int 0], vm := .none },
  { cls := 12, slots := #[.null, .int 4, .int 0], vm := .none },
  { cls := 13, slots := #[.null, .int 5, .int 0], vm := .none },
  { cls := 13, slots := #[.null, .int 11, .int 0], vm := .none },
  { cls := 13, slots := #[.null, .int 6, .int 0], vm := .none },
  { cls := 13, slots := #[.null, .int 8, .int 0], vm := .none },
  { cls := 13, slots := #[.null, .int 4, .int 0], vm := .none }]
def classes : Array Class := #[k0, k1, k2, k3, k4, k5, k6, k7, k8, k9, k10, k11, k12, k13, k14, k15, k16, k17, k18, k19, k20, k21, k22, k23, k24]
def interned : List (Array UInt16 × Addr) := []
def slotsUsed : Nat := 80
def theMethod : MethodId := ⟨1, 8⟩
def args0 : Array Value := #[.long 5, .long 7, .int 5, .int 7]
def aboutOver (below : List Frame) : State where
  vm := { classes := classes, interned := interned.toArray }
  heap := heap
  slotsUsed := slotsUsed
  threads := #[{ frames := .invoking theMethod args0 :: below }]
def below0 : List Frame := [.native { method := ⟨0, 0⟩, args := #[] }]
def about1 : State := aboutOver below0
def p0 : Program := .bare "" "" ""
def e0 : Env := launch0.env 0 0 0
theorem w_frames : about1.frames = Frame.invoking theMethod args0 :: below0 := rfl
set_option maxRecDepth 65536 in
theorem w_args : argsFit about1.vm theMethod args0 = true := by decide +kernel
set_option maxRecDepth 65536 in
theorem w_heap : heapFits about1 = true := by decide +kernel
set_option maxRecDepth 65536 in
theorem w_runnable : about1.curStatus? = some .runnable := by decide +kernel
set_option maxRecDepth 65536 in
theorem w_alone : about1.alone = true := by decide +kernel
set_option maxRecDepth 65536 in
theorem w_named : about1.methodNamed? x = some theMethod := by decide +kernel
set_option maxRecDepth 65536 in
theorem w_hears : about1.hears theMethod below0 = true := by decide +kernel
set_option maxRecDepth 65536 in
theorem w_ripe : about1.ripe theMethod args0 below0 = true := by decide +kernel
theorem w_running : about1.status = .running := rfl
set_option maxRecDepth 65536 in
theorem w_room : about1.hasRoom e0.platform room_1 = true :=
  launch0.hasRoom_least _ room_1 (by decide +kernel) (by decide +kernel) (by decide +kernel) (by decide +kernel) (by decide +kernel) (by decide +kernel)
theorem allAtoms_all (ts : List Jvm.Cond) (a : Array Jvm.Value) (st : Jvm.State) : (allAtoms ts).before a st = ts.all (fun c => c.before a st) := by
  induction ts with
  | nil => rfl
  | cons c t ih =>
    show (Jvm.Cond.and c (allAtoms t)).before a st = _
    rw [Jvm.Cond.before_and, ih, List.all_cons]
def words1 : List Jvm.Cond := Jvm.Cond.code x code maxLocals ret :: tables_1
/-- a 'code' word, met by the world's own term for the bytes: nothing is compared byte by byte -/
theorem code_word {y : MethodName} {bytes : ByteArray} {mx : Nat} {rt : Option FieldType} {a : Array Value} {s : State} {m : MethodId} {meth : Method} {c : Code} (h1 : s.methodNamed? y = some m) (h2 : s.vm.method? m = some meth) (h3 : meth.code = some c) (h4 : c.code = bytes)
    (h5 : (c.maxLocals == mx && c.exceptionTable.isEmpty && decide (c.maxStack ≤ mostOperands) && decide (meth.sig.returnType = rt) && !meth.locks && decide (parseMethodDescriptor y.desc = some meth.sig)) = true) : (Jvm.Cond.code y bytes mx rt).before a s = true := by
  simp only [Bool.and_eq_true, beq_iff_eq, Bool.not_eq_true', decide_eq_true_eq] at h5
  obtain ⟨⟨⟨⟨⟨g1, g2⟩, g3⟩, g4⟩, g5⟩, g6⟩ := h5
  simp [Cond.before, Cond.holds, Cond.value, h1, h2, h3, h4, g1, g2, g3, g4, g5, g6]
def isCode : Jvm.Cond → Bool
  | .code _ _ _ _ => true
  | _ => false
theorem all_split {L : List Jvm.Cond} {P : Jvm.Cond → Bool} (h1 : L.all (fun c => isCode c || P c) = true) (h2 : ∀ c ∈ L.filter isCode, P c = true) : L.all P = true := by
  refine List.all_eq_true.mpr fun c hc => ?_
  have h := List.all_eq_true.mp h1 c hc
  rcases Bool.eq_false_or_eq_true (isCode c) with hi | hi
  · exact h2 c (List.mem_filter.mpr ⟨hc, hi⟩)
  · simpa [hi] using h
set_option maxRecDepth 65536 in
theorem w_c0 : (Jvm.Cond.code x code maxLocals ret).before args0 about1 = true := code_word (m := ⟨1, 8⟩) (meth := k1m8) (c := k1c8) (by decide +kernel) rfl rfl rfl (by decide +kernel)
set_option maxRecDepth 65536 in
theorem w_c1 : (Jvm.Cond.code ({ cls := "com/example/callsite/callsite/bytecode/ClassReadEqualsPinLaw", name := "str", desc := "(J)Ljava/lang/String;" } : Jvm.MethodName) method_5_code (4 : Nat) (Option.some (Jvm.ClassFile.FieldType.object "java/lang/String"))).before args0 about1 = true := code_word (m := ⟨1, 4⟩) (meth := k1m4) (c := k1c4) (by decide +kernel) rfl rfl rfl (by decide +kernel)
set_option maxRecDepth 65536 in
theorem w_c2 : (Jvm.Cond.code ({ cls := "com/example/callsite/callsite/bytecode/ClassReadEqualsPinLaw", name := "len", desc := "(J)I" } : Jvm.MethodName) method_2_code (2 : Nat) (Option.some Jvm.ClassFile.FieldType.int)).before args0 about1 = true := code_word (m := ⟨1, 1⟩) (meth := k1m1) (c := k1c1) (by decide +kernel) rfl rfl rfl (by decide +kernel)
set_option maxRecDepth 65536 in
theorem w_c3 : (Jvm.Cond.code ({ cls := "java/lang/Math", name := "min", desc := "(II)I" } : Jvm.MethodName) jdk_29_method_69_code (2 : Nat) (Option.some Jvm.ClassFile.FieldType.int)).before args0 about1 = true := code_word (m := ⟨2, 1⟩) (meth := k2m1) (c := k2c1) (by decide +kernel) rfl rfl rfl (by decide +kernel)
set_option maxRecDepth 65536 in
theorem w_c4 : (Jvm.Cond.code ({ cls := "java/lang/String", name := "<init>", desc := "([C)V" } : Jvm.MethodName) jdk_42_method_3_code (2 : Nat) (Option.none : Option Jvm.ClassFile.FieldType)).before args0 about1 = true := code_word (m := ⟨8, 1⟩) (meth := k8m1) (c := k8c1) (by decide +kernel) rfl rfl rfl (by decide +kernel)
set_option maxRecDepth 65536 in
theorem w_c5 : (Jvm.Cond.code ({ cls := "java/lang/String", name := "<init>", desc := "([CIILjava/lang/Void;)V" } : Jvm.MethodName) jdk_42_method_149_code (6 : Nat) (Option.none : Option Jvm.ClassFile.FieldType)).before args0 about1 = true := code_word (m := ⟨8, 3⟩) (meth := k8m3) (c := k8c3) (by decide +kernel) rfl rfl rfl (by decide +kernel)
set_option maxRecDepth 65536 in
theorem w_c6 : (Jvm.Cond.code ({ cls := "java/lang/Object", name := "<init>", desc := "()V" } : Jvm.MethodName) object_method_1_code (1 : Nat) (Option.none : Option Jvm.ClassFile.FieldType)).before args0 about1 = true := code_word (m := ⟨0, 0⟩) (meth := k0m0) (c := k0c0) (by decide +kernel) rfl rfl rfl (by decide +kernel)
set_option maxRecDepth 65536 in
theorem w_c7 : (Jvm.Cond.code ({ cls := "com/example/callsite/callsite/bytecode/ClassReadEqualsPinLaw", name := "source", desc := "(I)Lcom/example/callsite/callsite/bytecode/ClassRead$Source;" } : Jvm.MethodName) method_7_code (1 : Nat) (Option.some (Jvm.ClassFile.FieldType.object "com/example/callsite/callsite/bytecode/ClassRead$Source"))).before args0 about1 = true := code_word (m := ⟨1, 6⟩) (meth := k1m6) (c := k1c6) (by decide +kernel) rfl rfl rfl (by decide +kernel)
set_option maxRecDepth 65536 in
theorem w_c8 : (Jvm.Cond.code ({ cls := "com/example/callsite/callsite/bytecode/ClassReadEqualsPinLaw", name := "aspect", desc := "(I)Lcom/example/callsite/callsite/bytecode/ClassRead$Aspect;" } : Jvm.MethodName) method_8_code (1 : Nat) (Option.some (Jvm.ClassFile.FieldType.object "com/example/callsite/callsite/bytecode/ClassRead$Aspect"))).before args0 about1 = true := code_word (m := ⟨1, 7⟩) (meth := k1m7) (c := k1c7) (by decide +kernel) rfl rfl rfl (by decide +kernel)
set_option maxRecDepth 65536 in
theorem w_c9 : (Jvm.Cond.code ({ cls := "com/example/callsite/callsite/bytecode/ClassRead", name := "<init>", desc := "(Ljava/lang/String;Lcom/example/callsite/callsite/bytecode/ClassRead$Source;Lcom/example/callsite/callsite/bytecode/ClassRead$Aspect;Ljava/lang/String;Ljava/lang/String;)V" } : Jvm.MethodName) prog_76_method_1_code (6 : Nat) (Option.none : Option Jvm.ClassFile.FieldType)).before args0 about1 = true := code_word (m := ⟨10, 0⟩) (meth := k10m0) (c := k10c0) (by decide +kernel) rfl rfl rfl (by decide +kernel)
set_option maxRecDepth 65536 in
theorem w_c10 : (Jvm.Cond.code ({ cls := "java/lang/Record", name := "<init>", desc := "()V" } : Jvm.MethodName) jdk_30_method_1_code (1 : Nat) (Option.none : Option Jvm.ClassFile.FieldType)).before args0 about1 = true := code_word (m := ⟨9, 0⟩) (meth := k9m0) (c := k9c0) (by decide +kernel) rfl rfl rfl (by decide +kernel)
set_option maxRecDepth 65536 in
theorem w_c11 : (Jvm.Cond.code ({ cls := "com/example/callsite/callsite/bytecode/ClassReadEqualsPinLaw", name := "sameStr", desc := "(JJ)Z" } : Jvm.MethodName) method_6_code (5 : Nat) (Option.some Jvm.ClassFile.FieldType.boolean)).before args0 about1 = true := code_word (m := ⟨1, 5⟩) (meth := k1m5) (c := k1c5) (by decide +kernel) rfl rfl rfl (by decide +kernel)
set_option maxRecDepth 65536 in
theorem w_c12 : (Jvm.Cond.code ({ cls := "com/example/callsite/callsite/bytecode/ClassRead", name := "equals", desc := "(Ljava/lang/Object;)Z" } : Jvm.MethodName) prog_76_method_2_code (3 : Nat) (Option.some Jvm.ClassFile.FieldType.boolean)).before args0 about1 = true := code_word (m := ⟨10, 1⟩) (meth := k10m1) (c := k10c1) (by decide +kernel) rfl rfl rfl (by decide +kernel)
set_option maxRecDepth 65536 in
theorem w_c13 : (Jvm.Cond.code ({ cls := "java/lang/String", name := "equals", desc := "(Ljava/lang/Object;)Z" } : Jvm.MethodName) jdk_42_method_66_code (3 : Nat) (Option.some Jvm.ClassFile.FieldType.boolean)).before args0 about1 = true := code_word (m := ⟨8, 2⟩) (meth := k8m2) (c := k8c2) (by decide +kernel) rfl rfl rfl (by decide +kernel)
set_option maxRecDepth 65536 in
theorem w_c14 : (Jvm.Cond.code ({ cls := "java/lang/StringLatin1", name := "equals", desc := "([B[B)Z" } : Jvm.MethodName) jdk_43_method_13_code (3 : Nat) (Option.some Jvm.ClassFile.FieldType.boolean)).before args0 about1 = true := code_word (m := ⟨14, 1⟩) (meth := k14m1) (c := k14c1) (by decide +kernel) rfl rfl rfl (by decide +kernel)
set_option maxRecDepth 65536 in
theorem w_c15 : (Jvm.Cond.code ({ cls := "com/example/callsite/callsite/bytecode/ClassReadEqualsPinLaw", name := "c0", desc := "(J)C" } : Jvm.MethodName) method_3_code (2 : Nat) (Option.some Jvm.ClassFile.FieldType.char)).before args0 about1 = true := code_word (m := ⟨1, 2⟩) (meth := k1m2) (c := k1c2) (by decide +kernel) rfl rfl rfl (by decide +kernel)
set_option maxRecDepth 65536 in
theorem w_c16 : (Jvm.Cond.code ({ cls := "com/example/callsite/callsite/bytecode/ClassReadEqualsPinLaw", name := "c1", desc := "(J)C" } : Jvm.MethodName) method_4_code (2 : Nat) (Option.some Jvm.ClassFile.FieldType.char)).before args0 about1 = true := code_word (m := ⟨1, 3⟩) (meth := k1m3) (c := k1c3) (by decide +kernel) rfl rfl rfl (by decide +kernel)
set_option maxRecDepth 65536 in
theorem w_c17 : (Jvm.Cond.code ({ cls := "java/lang/StringUTF16", name := "compress", desc := "([CII)[B" } : Jvm.MethodName) jdk_52_method_16_code (6 : Nat) (Option.some (Jvm.ClassFile.FieldType.array Jvm.ClassFile.FieldType.byte))).before args0 about1 = true := code_word (m := ⟨15, 2⟩) (meth := k15m2) (c := k15c2) (by decide +kernel) rfl rfl rfl (by decide +kernel)
set_option maxRecDepth 65536 in
theorem w_c18 : (Jvm.Cond.code ({ cls := "java/lang/StringUTF16", name := "compress", desc := "([CI[BII)I" } : Jvm.MethodName) jdk_52_method_21_code (7 : Nat) (Option.some Jvm.ClassFile.FieldType.int)).before args0 about1 = true := code_word (m := ⟨15, 3⟩) (meth := k15m3) (c := k15c3) (by decide +kernel) rfl rfl rfl (by decide +kernel)
set_option maxRecDepth 65536 in
theorem w_c19 : (Jvm.Cond.code ({ cls := "java/lang/StringUTF16", name := "coderFromArrayLen", desc := "([BI)B" } : Jvm.MethodName) jdk_52_method_15_code (2 : Nat) (Option.some Jvm.ClassFile.FieldType.byte)).before args0 about1 = true := code_word (m := ⟨15, 1⟩) (meth := k15m1) (c := k15c1) (by decide +kernel) rfl rfl rfl (by decide +kernel)
def codes1 : List Jvm.Cond := [Jvm.Cond.code x code maxLocals ret, Jvm.Cond.code ({ cls := "com/example/callsite/callsite/bytecode/ClassReadEqualsPinLaw", name := "str", desc := "(J)Ljava/lang/String;" } : Jvm.MethodName) method_5_code (4 : Nat) (Option.some (Jvm.ClassFile.FieldType.object "java/lang/String")), Jvm.Cond.code ({ cls := "com/example/callsite/callsite/bytecode/ClassReadEqualsPinLaw", name := "len", desc := "(J)I" } : Jvm.MethodName) method_2_code (2 : Nat) (Option.some Jvm.ClassFile.FieldType.int), Jvm.Cond.code ({ cls := "java/lang/Math", name := "min", desc := "(II)I" } : Jvm.MethodName) jdk_29_method_69_code (2 : Nat) (Option.some Jvm.ClassFile.FieldType.int), Jvm.Cond.code ({ cls := "java/lang/String", name := "<init>", desc := "([C)V" } : Jvm.MethodName) jdk_42_method_3_code (2 : Nat) (Option.none : Option Jvm.ClassFile.FieldType), Jvm.Cond.code ({ cls := "java/lang/String", name := "<init>", desc := "([CIILjava/lang/Void;)V" } : Jvm.MethodName) jdk_42_method_149_code (6 : Nat) (Option.none : Option Jvm.ClassFile.FieldType), Jvm.Cond.code ({ cls := "java/lang/Object", name := "<init>", desc := "()V" } : Jvm.MethodName) object_method_1_code (1 : Nat) (Option.none : Option Jvm.ClassFile.FieldType), Jvm.Cond.code ({ cls := "com/example/callsite/callsite/bytecode/ClassReadEqualsPinLaw", name := "source", desc := "(I)Lcom/example/callsite/callsite/bytecode/ClassRead$Source;" } : Jvm.MethodName) method_7_code (1 : Nat) (Option.some (Jvm.ClassFile.FieldType.object "com/example/callsite/callsite/bytecode/ClassRead$Source")), Jvm.Cond.code ({ cls := "com/example/callsite/callsite/bytecode/ClassReadEqualsPinLaw", name := "aspect", desc := "(I)Lcom/example/callsite/callsite/bytecode/ClassRead$Aspect;" } : Jvm.MethodName) method_8_code (1 : Nat) (Option.some (Jvm.ClassFile.FieldType.object "com/example/callsite/callsite/bytecode/ClassRead$Aspect")), Jvm.Cond.code ({ cls := "com/example/callsite/callsite/bytecode/ClassRead", name := "<init>", desc := "(Ljava/lang/String;Lcom/example/callsite/callsite/bytecode/ClassRead$Source;Lcom/example/callsite/callsite/bytecode/ClassRead$Aspect;Ljava/lang/String;Ljava/lang/String;)V" } : Jvm.MethodName) prog_76_method_1_code (6 : Nat) (Option.none : Option Jvm.ClassFile.FieldType), Jvm.Cond.code ({ cls := "java/lang/Record", name := "<init>", desc := "()V" } : Jvm.MethodName) jdk_30_method_1_code (1 : Nat) (Option.none : Option Jvm.ClassFile.FieldType), Jvm.Cond.code ({ cls := "com/example/callsite/callsite/bytecode/ClassReadEqualsPinLaw", name := "sameStr", desc := "(JJ)Z" } : Jvm.MethodName) method_6_code (5 : Nat) (Option.some Jvm.ClassFile.FieldType.boolean), Jvm.Cond.code ({ cls := "com/example/callsite/callsite/bytecode/ClassRead", name := "equals", desc := "(Ljava/lang/Object;)Z" } : Jvm.MethodName) prog_76_method_2_code (3 : Nat) (Option.some Jvm.ClassFile.FieldType.boolean), Jvm.Cond.code ({ cls := "java/lang/String", name := "equals", desc := "(Ljava/lang/Object;)Z" } : Jvm.MethodName) jdk_42_method_66_code (3 : Nat) (Option.some Jvm.ClassFile.FieldType.boolean), Jvm.Cond.code ({ cls := "java/lang/StringLatin1", name := "equals", desc := "([B[B)Z" } : Jvm.MethodName) jdk_43_method_13_code (3 : Nat) (Option.some Jvm.ClassFile.FieldType.boolean), Jvm.Cond.code ({ cls := "com/example/callsite/callsite/bytecode/ClassReadEqualsPinLaw", name := "c0", desc := "(J)C" } : Jvm.MethodName) method_3_code (2 : Nat) (Option.some Jvm.ClassFile.FieldType.char), Jvm.Cond.code ({ cls := "com/example/callsite/callsite/bytecode/ClassReadEqualsPinLaw", name := "c1", desc := "(J)C" } : Jvm.MethodName) method_4_code (2 : Nat) (Option.some Jvm.ClassFile.FieldType.char), Jvm.Cond.code ({ cls := "java/lang/StringUTF16", name := "compress", desc := "([CII)[B" } : Jvm.MethodName) jdk_52_method_16_code (6 : Nat) (Option.some (Jvm.ClassFile.FieldType.array Jvm.ClassFile.FieldType.byte)), Jvm.Cond.code ({ cls := "java/lang/StringUTF16", name := "compress", desc := "([CI[BII)I" } : Jvm.MethodName) jdk_52_method_21_code (7 : Nat) (Option.some Jvm.ClassFile.FieldType.int), Jvm.Cond.code ({ cls := "java/lang/StringUTF16", name := "coderFromArrayLen", desc := "([BI)B" } : Jvm.MethodName) jdk_52_method_15_code (2 : Nat) (Option.some Jvm.ClassFile.FieldType.byte)]
set_option maxRecDepth 65536 in
theorem codes_eq : words1.filter isCode = codes1 := rfl
theorem w_codes : ∀ c ∈ words1.filter isCode, c.before args0 about1 = true := by
  rw [codes_eq]
  intro c hc
  simp only [codes1, List.mem_cons, List.not_mem_nil, or_false] at hc
  rcases hc with rfl | rfl | rfl | rfl | rfl | rfl | rfl | rfl | rfl | rfl | rfl | rfl | rfl | rfl | rfl | rfl | rfl | rfl | rfl | rfl
  · exact w_c0
  · exact w_c1
  · exact w_c2
  · exact w_c3
  · exact w_c4
  · exact w_c5
  · exact w_c6
  · exact w_c7
  · exact w_c8
  · exact w_c9
  · exact w_c10
  · exact w_c11
  · exact w_c12
  · exact w_c13
  · exact w_c14
  · exact w_c15
  · exact w_c16
  · exact w_c17
  · exact w_c18
  · exact w_c19
set_option maxRecDepth 65536 in
theorem w_t1 : (words1.take 24).all (fun c => isCode c || c.before args0 about1) = true := by decide +kernel
set_option maxRecDepth 65536 in
theorem w_t2 : ((words1.drop 24).take 24).all (fun c => isCode c || c.before args0 about1) = true := by decide +kernel
set_option maxRecDepth 65536 in
theorem w_t3 : (((words1.drop 24).drop 24).take 24).all (fun c => isCode c || c.before args0 about1) = true := by decide +kernel
set_option maxRecDepth 65536 in
theorem w_t4 : ((((words1.drop 24).drop 24).drop 24).take 24).all (fun c => isCode c || c.before args0 about1) = true := by decide +kernel
set_option maxRecDepth 65536 in
theorem w_t5 : (((((words1.drop 24).drop 24).drop 24).drop 24).take 24).all (fun c => isCode c || c.before args0 about1) = true := by decide +kernel
set_option maxRecDepth 65536 in
theorem w_t6 : (((((words1.drop 24).drop 24).drop 24).drop 24).drop 24).all (fun c => isCode c || c.before args0 about1) = true := by decide +kernel
theorem w_tables : (allAtoms (Jvm.Cond.code x code maxLocals ret :: tables_1)).before args0 about1 = true := by
  rw [allAtoms_all]
  show words1.all (fun c => c.before args0 about1) = true
  refine all_split ?_ w_codes
  rw [← List.take_append_drop 24 words1, List.all_append, w_t1, ← List.take_append_drop 24 (words1.drop 24), List.all_append, w_t2, ← List.take_append_drop 24 ((words1.drop 24).drop 24), List.all_append, w_t3, ← List.take_append_drop 24 (((words1.drop 24).drop 24).drop 24), List.all_append, w_t4, ← List.take_append_drop 24 ((((words1.drop 24).drop 24).drop 24).drop 24), List.all_append, w_t5, w_t6]
  rfl
set_option maxRecDepth 65536 in
theorem w_rest : rest_1_c.before args0 about1 = true := by decide +kernel
set_option maxRecDepth 65536 in
theorem w_case : (Jvm.Cond.and given_1 narrow_1).before args0 about1 = true := by decide +kernel
set_option maxRecDepth 65536 in
theorem w_consts : constsHeld consts_1 about1 := Jvm.Lit.constsHeldB_iff.mp (by decide +kernel)
theorem w_applies : (headSpec (Jvm.Cond.code x code maxLocals ret :: tables_1) room_1).applies x e0.platform about1 = true :=
  (Spec.applies_iff w_frames).mpr ⟨w_running, w_runnable, w_alone, w_named, w_hears, w_ripe, w_room, w_tables⟩
theorem atStart : AtStart classFile x code maxLocals ret World_1 tables_1 room_1 Calls_1 rest_1 Pre_1 launch0 p0 e0 about1 theMethod args0 below0 :=
  ⟨lists_1, trivial, launch0.admits_env _ _ _, launch0.least_env, fairChoices_fair.cas, fairChoices_fair.clock, w_frames, w_args, w_heap, w_applies, ⟨w_consts, trivial⟩, w_rest, w_case⟩
end start1
theorem witness_1 : WitnessClaimed_1 := ⟨start1.p0, start1.e0, start1.about1, start1.theMethod, start1.args0, start1.below0, start1.atStart⟩
end Jvm.Pilot.@@N@@
