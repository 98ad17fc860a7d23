import JvmDerived
import JvmDerived.Pilot.@@N@@Statement
import JvmDerived.Pilot.@@N@@Code
set_option linter.unusedVariables false
set_option linter.unusedSimpArgs false
namespace Jvm.RoadKit
open Sem ClassFile Op Lib Jvm.Stand Jvm.Free Jvm.LawKit
section New
variable {p : Program} {l : Launch} {e : Env} {R : Room} {s : State} {m : MethodId} {args : Array Value} {below : List Frame} {meth : Method} {c : Code} {T : State} {locs : List Loc} {cells slots : Nat}
theorem retI (X : Stand p l e R s m args below meth c T locs cells slots) (hx : p.tables.exec = Jvm.exec) {pc : Nat} {Ls : Array Slot} {z : Int32} {rest : List Value} (hret : meth.sig.returnType = some .int) (hd : decode c.code pc = .ok (.ireturn, 1)) {fs : List Frame}
    (hl : ∀ (f : JFrame) (acts : List Action), f.method = m → f.locked = none → f.entered = [] → (doReturn e (T.setTop f) acts (some (.int z))).1 = T.setFrames fs) : Steps p.tables e below (T.setTop (mkF m pc Ls (.int z :: rest))) (T.setFrames fs) := by
  have hm' : T.vm.method? m = some meth := X.method'
  have hn : narrow .int (.int z) = .int z := rfl
  show Steps p.tables e below (T.setTop { method := m, pc := pc, locals := Ls, stack := _ :: rest, locked := none }) _
  jvm_step X.here [X.here.top, hx, hd, hm', hret, hn]
  first | (intro acts; rw [hl _ acts rfl rfl rfl]) | rw [hl _ _ rfl rfl rfl]
  exact Steps.refl _
end New
end Jvm.RoadKit
/- laws to paste: Road.backV, Road.eqW, Road.codOf, Road.chN (cut by pick.py; bodies as the Statement names them) -/
namespace Jvm.Pilot.@@N@@
namespace StrChars
open Jvm Sem ClassFile Op Lib Jvm.Stand Jvm.Free.XT Jvm.Free.ALB Jvm.Free.JM Jvm.Free
open Jvm.Lib.Cold (StaticIs)
/-- a char array whose places are chars -/
def Ch (a : Addr) (A : Cell) (U : State) : Prop := Arr .char a A U ∧ Typed .char A
theorem Ch.mv {a : Addr} {A : Cell} {U U' : State} (h : Ch a A U) (hal : U.vm.Alike U'.vm) (hh : U'.heap = U.heap) : Ch a A U' := ⟨h.1.mv hal hh, h.2⟩
theorem Ch.keep {a : Addr} {A : Cell} {U U' : State} (h : Ch a A U) (hal : U.vm.Alike U'.vm) (hk : U'.heap[a]? = some A) : Ch a A U' := ⟨h.1.keep hal hk, h.2⟩
/-- what place i of a char[]'s cell holds -/
def cv (A : Cell) (i : Nat) : Int32 := match A.slots[i]? with | some (.int x) => x | _ => 0
theorem Ch.get {a : Addr} {A : Cell} {U : State} (h : Ch a A U) {i : Nat} (hi : i < A.slots.size) : A.slots[i]? = some (.int (cv A i)) := by
  have e := Array.getElem?_eq_getElem hi
  have f := h.2 i _ e
  unfold cv; rw [e]
  generalize A.slots[i] = v at f
  cases v <;> simp [fits] at f ⊢
/-- the byte that i2b leaves of a char -/
def lo8 (x : Int32) : Int32 := x.toInt8.toInt32
theorem fits_lo8 (y : Int32) : fits .byte (.int (lo8 y)) = true := by
  have h1 := y.toInt8.le_toInt
  have h2 := y.toInt8.toInt_lt
  simp only [lo8, fits, Bool.and_eq_true, decide_eq_true_eq, Int32.le_iff_toInt_le, Int8.toInt_toInt32, show (-128 : Int32).toInt = -128 from by decide, show (127 : Int32).toInt = 127 from by decide]
  omega
/-- A' is A but that each place j of lo .. hi - 1 holds f j -/
def Laid (A A' : Cell) (lo hi : Nat) (f : Nat → Value) : Prop := A'.cls = A.cls ∧ A'.vm = A.vm ∧ A'.slots.size = A.slots.size ∧ ∀ i, A'.slots[i]? = if lo ≤ i ∧ i < hi then some (f i) else A.slots[i]?
theorem Laid.zero (A : Cell) (lo : Nat) (f : Nat → Value) : Laid A A lo (lo + 0) f := ⟨rfl, rfl, rfl, fun i => by rw [if_neg (by omega)]⟩
theorem Laid.step {A Ak : Cell} {lo k : Nat} {f : Nat → Value} {v : Value} (h : Laid A Ak lo k f) (hlo : lo ≤ k) (hk : k < Ak.slots.size) (hv : v = f k) : Laid A (Ak.setSlot k v) lo (k + 1) f := by
  refine ⟨h.1, h.2.1, by simpa [Cell.setSlot] using h.2.2.1, fun i => ?_⟩
  by_cases e : k = i
  · subst e; rw [Cell.slots_setSlot_self v hk, if_pos (by omega), hv]
  · rw [Cell.slots_setSlot_ne v e, h.2.2.2 i]
    by_cases q : lo ≤ i ∧ i < k
    · rw [if_pos q, if_pos (by omega)]
    · rw [if_neg q, if_neg (by omega)]
def U16 : String := "java/lang/StringUTF16"
namespace Cmp5
def yN : MethodName := ⟨"java/lang/StringUTF16", "compress", "([CI[BII)I"⟩
abbrev yB : ByteArray := jdk_52_method_21_code
theorem d0 : decode yB 0 = .ok (.iconst 0, 1) := by decide +kernel
theorem d1 : decode yB 1 = .ok (.istore 5, 2) := by decide +kernel
theorem d3 : decode yB 3 = .ok (.iload 5, 2) := by decide +kernel
theorem d5 : decode yB 5 = .ok (.iload 4, 2) := by decide +kernel
theorem d7 : decode yB 7 = .ok (.if_icmp (.ge) 37, 3) := by decide +kernel
theorem d10 : decode yB 10 = .ok (.aload_n 0, 1) := by decide +kernel
theorem d11 : decode yB 11 = .ok (.iload_n 1, 1) := by decide +kernel
theorem d12 : decode yB 12 = .ok (.caload, 1) := by decide +kernel
theorem d13 : decode yB 13 = .ok (.istore 6, 2) := by decide +kernel
theorem d15 : decode yB 15 = .ok (.iload 6, 2) := by decide +kernel
theorem d17 : decode yB 17 = .ok (.sipush 255, 3) := by decide +kernel
theorem d20 : decode yB 20 = .ok (.if_icmp (.le) 6, 3) := by decide +kernel
theorem d26 : decode yB 26 = .ok (.aload_n 2, 1) := by decide +kernel
theorem d27 : decode yB 27 = .ok (.iload_n 3, 1) := by decide +kernel
theorem d28 : decode yB 28 = .ok (.iload 6, 2) := by decide +kernel
theorem d30 : decode yB 30 = .ok (.i2b, 1) := by decide +kernel
theorem d31 : decode yB 31 = .ok (.bastore, 1) := by decide +kernel
theorem d32 : decode yB 32 = .ok (.iinc 1 1, 3) := by decide +kernel
theorem d35 : decode yB 35 = .ok (.iinc 3 1, 3) := by decide +kernel
theorem d38 : decode yB 38 = .ok (.iinc 5 1, 3) := by decide +kernel
theorem d41 : decode yB 41 = .ok (.goto (-38), 3) := by decide +kernel
theorem d44 : decode yB 44 = .ok (.iload 4, 2) := by decide +kernel
theorem d46 : decode yB 46 = .ok (.ireturn, 1) := by decide +kernel
def site : List Cond := []
def tab : Cond := tabOf yN yB 7 (some .int) site
def P (b : Addr) (A : Cell) (d : Addr) (B : Cell) (o q len : Nat) (args : Array Value) (s : State) : Prop := args = #[.ref b, .int (Int32.ofNat o), .ref d, .int (Int32.ofNat q), .int (Int32.ofNat len)] ∧ Ch b A s ∧ Arr .byte d B s ∧ b ≠ d ∧ o + len ≤ A.slots.size ∧ q + len ≤ B.slots.size ∧ ∀ i, i < len → ¬ 255 < cv A (o + i)
def E (b : Addr) (A : Cell) (d : Addr) (B : Cell) (o q len : Nat) (r : Option Value) (s u : State) : Prop := r = some (.int (Int32.ofNat len)) ∧ ∃ B', Put d B' s u ∧ Laid B B' q (q + len) (fun j => Value.int (lo8 (cv A (o + (j - q)))))
/-- no char of the range above 255: len; the places written hold each char's low byte -/
theorem law (l : Launch) (b : Addr) (A : Cell) (d : Addr) (B : Cell) (o q len : Nat) : Law l yN 5 5 0 0 yB 7 (some .int) site (P b A d B o q len) (E b A d B o q len) (copyLocs d q len) 0 0 := by
  refine Law.of_walk (plainFor_of_name (by decide +kernel)) (by decide +kernel) (by decide +kernel) (by decide) (fun _ _ h => by rw [h.1]; rfl) (fun _ U U' hal hh h => ⟨h.1, h.2.1.mv hal hh, h.2.2.1.mv hal hh, h.2.2.2⟩) (fun r U U' V V' h1 hal h2 h => ⟨h.1, h.2.elim fun B' q => ⟨B', q.1.mv h1 h2, q.2⟩⟩) ?_
  intro p e s m args below meth c s₁ X0 hexec hbytes hml hret hlk hnm hown hh0 W hP
  obtain ⟨rfl, hA, hB, hne, l1, l2, hp⟩ := hP
  have c1 : Steps p.tables e below (s₁.setTop (entryFrame m #[.ref b, .int (Int32.ofNat o), .ref d, .int (Int32.ofNat q), .int (Int32.ofNat len)] 7)) (s₁.setTop (mkF m 0 #[.val (.ref b), .val (.int (Int32.ofNat o)), .val (.ref d), .val (.int (Int32.ofNat q)), .val (.int (Int32.ofNat len)), .unset, .unset] [])) := entry rfl
  have hA0 := hA.1.mv X0.warmed.alike hh0
  have hB0 := hB.mv X0.warmed.alike hh0
  have a31 := hA.1.2.2.2
  have c2 : Steps p.tables e below (s₁.setTop (entryFrame m #[.ref b, .int (Int32.ofNat o), .ref d, .int (Int32.ofNat q), .int (Int32.ofNat len)] 7)) (s₁.setTop (mkF m 3 #[.val (.ref b), .val (.int (Int32.ofNat o)), .val (.ref d), .val (.int (Int32.ofNat q)), .val (.int (Int32.ofNat len)), .val (.int 0), .unset] [])) := c1.trans (by
    refine iconstV X0.here hexec rfl 0 (hb hbytes d0) (by decide) ?_
    refine XS.istore X0.here hexec rfl (hb hbytes d1) rfl rfl ?_
    exact Steps.refl _)
  have loop : ∀ (r i : Nat), i + r = len → ∀ (z : Slot), (z = .unset ∨ ∃ w, z = .val w ∧ w.category = 1) → ∀ (Tl : State) (Bk : Cell), Stand p l e { frames := 0, locals := 0, cells := 0, slots := 0 } s m #[.ref b, .int (Int32.ofNat o), .ref d, .int (Int32.ofNat q), .int (Int32.ofNat len)] below meth c Tl ([] ++ copyLocs d q i) 0 0 → Put d Bk s₁ Tl → Laid B Bk q (q + i) (fun j => Value.int (lo8 (cv A (o + (j - q))))) →
      Steps p.tables e below (s₁.setTop (entryFrame m #[.ref b, .int (Int32.ofNat o), .ref d, .int (Int32.ofNat q), .int (Int32.ofNat len)] 7)) (Tl.setTop (mkF m 3 #[.val (.ref b), .val (.int (Int32.ofNat (o + i))), .val (.ref d), .val (.int (Int32.ofNat (q + i))), .val (.int (Int32.ofNat len)), .val (.int (Int32.ofNat i)), z] [])) → ∃ (T' : State) (B' : Cell) (z' : Slot), Stand p l e { frames := 0, locals := 0, cells := 0, slots := 0 } s m #[.ref b, .int (Int32.ofNat o), .ref d, .int (Int32.ofNat q), .int (Int32.ofNat len)] below meth c T' ([] ++ copyLocs d q len) 0 0 ∧ Put d B' s₁ T' ∧ Laid B B' q (q + len) (fun j => Value.int (lo8 (cv A (o + (j - q))))) ∧
      Steps p.tables e below (s₁.setTop (entryFrame m #[.ref b, .int (Int32.ofNat o), .ref d, .int (Int32.ofNat q), .int (Int32.ofNat len)] 7)) (T'.setTop (mkF m 3 #[.val (.ref b), .val (.int (Int32.ofNat (o + len))), .val (.ref d), .val (.int (Int32.ofNat (q + len))), .val (.int (Int32.ofNat len)), .val (.int (Int32.ofNat len)), z'] [])) := by
    intro r
    induction r with
    | zero =>
      intro i hi z hz Tl Bk Xl pl fl cl
      have hil : i = len := by omega
      rw [hil] at Xl fl cl
      exact ⟨Tl, Bk, z, Xl, pl, fl, cl⟩
    | succ r ih =>
      intro i hi z hz Tl Bk Xl pl fl cl
      have all := X0.warmed.alike.symm.trans Xl.warmed.alike
      have hAl := hA0.keep all (pl.other hne hA0.1)
      have hBk := hB0.like all pl.1 fl.1 fl.2.1 fl.2.2.1
      have hlt : q + i < Bk.slots.size := by rw [fl.2.2.1]; omega
      have c3 : Steps p.tables e below (s₁.setTop (entryFrame m #[.ref b, .int (Int32.ofNat o), .ref d, .int (Int32.ofNat q), .int (Int32.ofNat len)] 7)) (Tl.setTop (mkF m 12 #[.val (.ref b), .val (.int (Int32.ofNat (o + i))), .val (.ref d), .val (.int (Int32.ofNat (q + i))), .val (.int (Int32.ofNat len)), .val (.int (Int32.ofNat i)), z] [.int (Int32.ofNat (o + i)), .ref b])) := cl.trans (by
        refine XS.iload Xl.here hexec rfl (hb hbytes d3) rfl ?_
        refine XS.iload Xl.here hexec rfl (hb hbytes d5) rfl ?_
        refine XS.icmpNo Xl.here hexec rfl (hb hbytes d7) rfl (ii_ge_f (lt32 (by omega) (by omega))) ?_
        refine XS.aloadN Xl.here hexec rfl (hb hbytes d10) rfl rfl ?_
        refine XS.iloadN Xl.here hexec rfl (hb hbytes d11) rfl ?_
        exact Steps.refl _)
      have c4 : Steps p.tables e below (s₁.setTop (entryFrame m #[.ref b, .int (Int32.ofNat o), .ref d, .int (Int32.ofNat q), .int (Int32.ofNat len)] 7)) (Tl.setTop (mkF m 13 #[.val (.ref b), .val (.int (Int32.ofNat (o + i))), .val (.ref d), .val (.int (Int32.ofNat (q + i))), .val (.int (Int32.ofNat len)), .val (.int (Int32.ofNat i)), z] [.int (cv A (o + i))])) := c3.trans (by
        refine Xl.aget hexec hAl rfl (hA.get (i := o + i) (by omega)) rfl rfl (hb hbytes d12) ?_
        exact Steps.refl _)
      have c5 : Steps p.tables e below (s₁.setTop (entryFrame m #[.ref b, .int (Int32.ofNat o), .ref d, .int (Int32.ofNat q), .int (Int32.ofNat len)] 7)) (Tl.setTop (mkF m 15 #[.val (.ref b), .val (.int (Int32.ofNat (o + i))), .val (.ref d), .val (.int (Int32.ofNat (q + i))), .val (.int (Int32.ofNat len)), .val (.int (Int32.ofNat i)), .val (.int (cv A (o + i)))] [])) := c4.trans (by
        refine XS.istoreS Xl.here hexec rfl (hb hbytes d13) rfl rfl hz ?_
        exact Steps.refl _)
      have c6 : Steps p.tables e below (s₁.setTop (entryFrame m #[.ref b, .int (Int32.ofNat o), .ref d, .int (Int32.ofNat q), .int (Int32.ofNat len)] 7)) (Tl.setTop (mkF m 31 #[.val (.ref b), .val (.int (Int32.ofNat (o + i))), .val (.ref d), .val (.int (Int32.ofNat (q + i))), .val (.int (Int32.ofNat len)), .val (.int (Int32.ofNat i)), .val (.int (cv A (o + i)))] [.int (lo8 (cv A (o + i))), .int (Int32.ofNat (q + i)), .ref d])) := c5.trans (by
        refine XS.iload Xl.here hexec rfl (hb hbytes d15) rfl ?_
        refine sipushV Xl.here hexec rfl 255 (hb hbytes d17) (by decide) ?_
        refine XS.icmpYes Xl.here hexec rfl (pc0 := 20) rfl (hb hbytes d20) rfl (ii_le_t (hp i (by omega))) (by decide) rfl ?_
        refine XS.aloadN Xl.here hexec rfl (hb hbytes d26) rfl rfl ?_
        refine XS.iloadN Xl.here hexec rfl (hb hbytes d27) rfl ?_
        refine XS.iload Xl.here hexec rfl (hb hbytes d28) rfl ?_
        refine i2b Xl.here hexec rfl (hb hbytes d30) rfl ?_
        exact Steps.refl _)
      obtain ⟨T7, X7, p7, st7⟩ := Xl.aput hexec hBk rfl hlt rfl (fits_lo8 (cv A (o + i))) (g := (mkF m 31 #[.val (.ref b), .val (.int (Int32.ofNat (o + i))), .val (.ref d), .val (.int (Int32.ofNat (q + i))), .val (.int (Int32.ofNat len)), .val (.int (Int32.ofNat i)), .val (.int (cv A (o + i)))] [.int (lo8 (cv A (o + i))), .int (Int32.ofNat (q + i)), .ref d])) rfl (rest := []) rfl (hb hbytes d31)
      have c8 : Steps p.tables e below (s₁.setTop (entryFrame m #[.ref b, .int (Int32.ofNat o), .ref d, .int (Int32.ofNat q), .int (Int32.ofNat len)] 7)) (T7.setTop (mkF m 32 #[.val (.ref b), .val (.int (Int32.ofNat (o + i))), .val (.ref d), .val (.int (Int32.ofNat (q + i))), .val (.int (Int32.ofNat len)), .val (.int (Int32.ofNat i)), .val (.int (cv A (o + i)))] [])) := c6.trans (st7 _ (Steps.refl _))
      have c9 : Steps p.tables e below (s₁.setTop (entryFrame m #[.ref b, .int (Int32.ofNat o), .ref d, .int (Int32.ofNat q), .int (Int32.ofNat len)] 7)) (T7.setTop (mkF m 3 #[.val (.ref b), .val (.int (Int32.ofNat (o + i) + 1)), .val (.ref d), .val (.int (Int32.ofNat (q + i) + 1)), .val (.int (Int32.ofNat len)), .val (.int (Int32.ofNat i + 1)), .val (.int (cv A (o + i)))] [])) := c8.trans (by
        refine iincV X7.here hexec rfl 1 (hb hbytes d32) (by decide) rfl rfl ?_
        refine iincV X7.here hexec rfl 1 (hb hbytes d35) (by decide) rfl rfl ?_
        refine iincV X7.here hexec rfl 1 (hb hbytes d38) (by decide) rfl rfl ?_
        refine XS.goto X7.here hexec rfl (pc0 := 41) rfl (hb hbytes d41) (by decide) rfl ?_
        exact Steps.refl _)
      have c10 : Steps p.tables e below (s₁.setTop (entryFrame m #[.ref b, .int (Int32.ofNat o), .ref d, .int (Int32.ofNat q), .int (Int32.ofNat len)] 7)) (T7.setTop (mkF m 3 #[.val (.ref b), .val (.int (Int32.ofNat (o + (i + 1)))), .val (.ref d), .val (.int (Int32.ofNat (q + (i + 1)))), .val (.int (Int32.ofNat len)), .val (.int (Int32.ofNat (i + 1))), .val (.int (cv A (o + i)))] [])) := by
        have := c9
        rw [succ32, succ32, succ32] at this
        exact this
      exact ih (i + 1) (by omega) _ (Or.inr ⟨_, rfl, rfl⟩) T7 _ (by rw [copyLocs_step, ← List.append_assoc]; exact X7) (pl.trans p7) (fl.step (by omega) hlt (by simp)) c10
  obtain ⟨T9, B9, z9, X9, p9, f9, g9⟩ := loop len 0 (by omega) .unset (Or.inl rfl) s₁ B (by simpa [copyLocs] using X0) ⟨hB0.1, fun _ _ => rfl, rfl⟩ (Laid.zero _ _ _) c2
  have c11 : Steps p.tables e below (s₁.setTop (entryFrame m #[.ref b, .int (Int32.ofNat o), .ref d, .int (Int32.ofNat q), .int (Int32.ofNat len)] 7)) (T9.setTop (mkF m 46 #[.val (.ref b), .val (.int (Int32.ofNat (o + len))), .val (.ref d), .val (.int (Int32.ofNat (q + len))), .val (.int (Int32.ofNat len)), .val (.int (Int32.ofNat len)), z9] [.int (Int32.ofNat len)])) := g9.trans (by
    refine XS.iload X9.here hexec rfl (hb hbytes d3) rfl ?_
    refine XS.iload X9.here hexec rfl (hb hbytes d5) rfl ?_
    refine XS.icmpYes X9.here hexec rfl (pc0 := 7) rfl (hb hbytes d7) rfl (ii_ge_t (nlt32 (by omega) (Nat.le_refl _))) (by decide) rfl ?_
    refine XS.iload X9.here hexec rfl (hb hbytes d44) rfl ?_
    exact Steps.refl _)
  exact ⟨T9, some (.int (Int32.ofNat len)), _, _, _, X9, by simp, rfl, rfl, (fun h => by cases h), ⟨rfl, B9, p9.from hh0, f9⟩, fun fs hl => c11.trans (X9.ireturnOut hexec hret rfl (Or.inl rfl) (hb hbytes d46) hl)⟩
end Cmp5
namespace Cmp3
def yN : MethodName := ⟨"java/lang/StringUTF16", "compress", "([CII)[B"⟩
abbrev yB : ByteArray := jdk_52_method_16_code
theorem d0 : decode yB 0 = .ok (.iload_n 2, 1) := by decide +kernel
theorem d1 : decode yB 1 = .ok (.newarray .byte, 2) := by decide +kernel
theorem d3 : decode yB 3 = .ok (.astore_n 3, 1) := by decide +kernel
theorem d4 : decode yB 4 = .ok (.aload_n 0, 1) := by decide +kernel
theorem d5 : decode yB 5 = .ok (.iload_n 1, 1) := by decide +kernel
theorem d6 : decode yB 6 = .ok (.aload_n 3, 1) := by decide +kernel
theorem d7 : decode yB 7 = .ok (.iconst 0, 1) := by decide +kernel
theorem d8 : decode yB 8 = .ok (.iload_n 2, 1) := by decide +kernel
theorem d9 : decode yB 9 = .ok (.invokestatic 115, 3) := by decide +kernel
theorem d12 : decode yB 12 = .ok (.istore 4, 2) := by decide +kernel
theorem d14 : decode yB 14 = .ok (.iload 4, 2) := by decide +kernel
theorem d16 : decode yB 16 = .ok (.iload_n 2, 1) := by decide +kernel
theorem d17 : decode yB 17 = .ok (.if_icmp (.eq) 40, 3) := by decide +kernel
theorem d57 : decode yB 57 = .ok (.aload_n 3, 1) := by decide +kernel
theorem d58 : decode yB 58 = .ok (.areturn, 1) := by decide +kernel
def site : List Cond := [.arrayClass .byte, Cmp5.tab] ++ staticW U16 115 Cmp5.yN
def tab : Cond := tabOf yN yB 6 (some (.array .byte)) site
def P (b : Addr) (A : Cell) (o len : Nat) (args : Array Value) (s : State) : Prop := args = #[.ref b, .int (Int32.ofNat o), .int (Int32.ofNat len)] ∧ Ch b A s ∧ o + len ≤ A.slots.size ∧ len ≤ 536870912 ∧ ∀ i, i < len → ¬ 255 < cv A (o + i)
def E (b : Addr) (A : Cell) (o len : Nat) (r : Option Value) (s u : State) : Prop := NewArr .byte "[B" len (fun j => .int (lo8 (cv A (o + j)))) r s u ∧ u.heap.size = s.heap.size + 1
/-- no char of the range above 255: a new byte[] of their low bytes -/
theorem law (l : Launch) (b : Addr) (A : Cell) (o len : Nat) : Law l yN 3 3 1 18 yB 6 (some (.array .byte)) site (P b A o len) (E b A o len) [] 1 len := by
  refine Law.of_walk (plainFor_of_name (by decide +kernel)) (by decide +kernel) (by decide +kernel) (by decide) (fun _ _ h => by rw [h.1]; rfl) (fun _ U U' hal hh h => ⟨h.1, h.2.1.mv hal hh, h.2.2⟩) (fun r U U' V V' h1 hal h2 h => ⟨NewArr.mv r U U' V V' h1 hal h2 h.1, by rw [h1, h2]; exact h.2⟩) ?_
  intro p e s m args below meth c s₁ X0 hexec hbytes hml hret hlk hnm hown hh0 W hP
  obtain ⟨rfl, hA, l1, l2, hp⟩ := hP
  have a31 := hA.1.2.2.2
  have c1 : Steps p.tables e below (s₁.setTop (entryFrame m #[.ref b, .int (Int32.ofNat o), .int (Int32.ofNat len)] 6)) (s₁.setTop (mkF m 0 #[.val (.ref b), .val (.int (Int32.ofNat o)), .val (.int (Int32.ofNat len)), .unset, .unset, .unset] [])) := entry rfl
  have c2 : Steps p.tables e below (s₁.setTop (entryFrame m #[.ref b, .int (Int32.ofNat o), .int (Int32.ofNat len)] 6)) (s₁.setTop (mkF m 1 #[.val (.ref b), .val (.int (Int32.ofNat o)), .val (.int (Int32.ofNat len)), .unset, .unset, .unset] [.int (Int32.ofNat len)])) := c1.trans (by
    refine XS.iloadN X0.here hexec rfl (hb hbytes d0) rfl ?_
    exact Steps.refl _)
  obtain ⟨T3, B3, X3, ba3, bs3, bv3, bh3, bf3, st3⟩ := X0.anew hexec (atype := .byte) (wk W (.arrayClass .byte)) rfl (by show len * 1 ≤ _; omega) (by omega) (g := (mkF m 1 #[.val (.ref b), .val (.int (Int32.ofNat o)), .val (.int (Int32.ofNat len)), .unset, .unset, .unset] [.int (Int32.ofNat len)])) rfl (hb hbytes d1) (rest := []) rfl (Nat.le_refl _) (by show 0 + len ≤ len; omega)
  rw [hh0] at ba3 st3
  have kp3 : XT.Kept s T3 := (XT.Kept.of_eq hh0).push bh3
  have hA3 := hA.keep X3.warmed.alike (kp3 _ _ hA.1.1)
  have hne : b ≠ s.heap.size := hA.1.ne
  have c4 : Steps p.tables e below (s₁.setTop (entryFrame m #[.ref b, .int (Int32.ofNat o), .int (Int32.ofNat len)] 6)) (T3.setTop (mkF m 3 #[.val (.ref b), .val (.int (Int32.ofNat o)), .val (.int (Int32.ofNat len)), .unset, .unset, .unset] [.ref s.heap.size])) := c2.trans (st3 _ (Steps.refl _))
  have c5 : Steps p.tables e below (s₁.setTop (entryFrame m #[.ref b, .int (Int32.ofNat o), .int (Int32.ofNat len)] 6)) (T3.setTop (mkF m 9 #[.val (.ref b), .val (.int (Int32.ofNat o)), .val (.int (Int32.ofNat len)), .val (.ref s.heap.size), .unset, .unset] [.int (Int32.ofNat len), .int 0, .ref s.heap.size, .int (Int32.ofNat o), .ref b])) := c4.trans (by
    refine XS.astoreN X3.here hexec rfl (hb hbytes d3) rfl rfl rfl ?_
    refine XS.aloadN X3.here hexec rfl (hb hbytes d4) rfl rfl ?_
    refine XS.iloadN X3.here hexec rfl (hb hbytes d5) rfl ?_
    refine XS.aloadN X3.here hexec rfl (hb hbytes d6) rfl rfl ?_
    refine iconstV X3.here hexec rfl 0 (hb hbytes d7) (by decide) ?_
    refine XS.iloadN X3.here hexec rfl (hb hbytes d8) rfl ?_
    exact Steps.refl _)
  obtain ⟨v6, T6, X6, E6, g6⟩ := X3.callS hexec (Cmp5.law l b A s.heap.size B3 o 0 len) hown (wks W (staticW U16 115 Cmp5.yN)) (wk W Cmp5.tab) (W := 0) (Nat.le_of_ble_eq_true rfl) (Nat.le_of_ble_eq_true rfl) (Nat.le_refl _) (by show 0 + len + 0 ≤ len; omega) (g := (mkF m 9 #[.val (.ref b), .val (.int (Int32.ofNat o)), .val (.int (Int32.ofNat len)), .val (.ref s.heap.size), .unset, .unset] [.int (Int32.ofNat len), .int (Int32.ofNat 0), .ref s.heap.size, .int (Int32.ofNat o), .ref b])) rfl (by rw [hml]; rfl) c5 (argsL := [.ref b, .int (Int32.ofNat o), .ref s.heap.size, .int (Int32.ofNat 0), .int (Int32.ofNat len)]) (rest := []) rfl rfl (by show 2 * 0 + 0 ≤ _; decide) (hb hbytes d9) (⟨rfl, hA3, ba3, hne, l1, by rw [bs3]; simp, hp⟩)
  obtain ⟨rfl, B6, p6, f6⟩ := E6
  have c7 : Steps p.tables e below (s₁.setTop (entryFrame m #[.ref b, .int (Int32.ofNat o), .int (Int32.ofNat len)] 6)) (T6.setTop (mkF m 12 #[.val (.ref b), .val (.int (Int32.ofNat o)), .val (.int (Int32.ofNat len)), .val (.ref s.heap.size), .unset, .unset] [.int (Int32.ofNat len)])) := g6
  have c8 : Steps p.tables e below (s₁.setTop (entryFrame m #[.ref b, .int (Int32.ofNat o), .int (Int32.ofNat len)] 6)) (T6.setTop (mkF m 58 #[.val (.ref b), .val (.int (Int32.ofNat o)), .val (.int (Int32.ofNat len)), .val (.ref s.heap.size), .val (.int (Int32.ofNat len)), .unset] [.ref s.heap.size])) := c7.trans (by
    refine XS.istore X6.here hexec rfl (hb hbytes d12) rfl rfl ?_
    refine XS.iload X6.here hexec rfl (hb hbytes d14) rfl ?_
    refine XS.iloadN X6.here hexec rfl (hb hbytes d16) rfl ?_
    refine XS.icmpYes X6.here hexec rfl (pc0 := 17) rfl (hb hbytes d17) rfl (ii_eq_t rfl) (by decide) rfl ?_
    refine XS.aloadN X6.here hexec rfl (hb hbytes d57) rfl rfl ?_
    exact Steps.refl _)
  have X8 := X6.wide (L' := []) (cells' := 1) (slots' := len) (fun x hx hlt => by
    simp only [List.nil_append, copyLocs, List.mem_map, List.mem_range] at hx
    obtain ⟨i, -, rfl⟩ := hx
    exact absurd hlt (Nat.lt_irrefl _)) (Nat.le_refl _) (by omega)
  exact ⟨T6, some (.ref s.heap.size), _, _, _, X8, rfl, rfl, rfl, (fun h => by cases h), ⟨⟨rfl, B6, ba3.like (X3.warmed.alike.symm.trans X6.warmed.alike) p6.1 f6.1 f6.2.1 f6.2.2.1, f6.2.1.trans bv3, by rw [X6.warmed.alike.findClass, f6.1]; exact bf3, by rw [f6.2.2.1, bs3]; simp, fun j hj => by rw [f6.2.2.2 j, if_pos (by omega)]; rfl, kp3.put p6 (Nat.le_refl _)⟩, by rw [p6.2.2, bh3, hh0]; simp⟩, fun fs hl => c8.trans (X8.areturnOut hexec rfl hret rfl (hb hbytes d58) hl)⟩
end Cmp3
namespace CodL
def yN : MethodName := ⟨"java/lang/StringUTF16", "coderFromArrayLen", "([BI)B"⟩
abbrev yB : ByteArray := jdk_52_method_15_code
theorem d0 : decode yB 0 = .ok (.iload_n 1, 1) := by decide +kernel
theorem d1 : decode yB 1 = .ok (.aload_n 0, 1) := by decide +kernel
theorem d2 : decode yB 2 = .ok (.arraylength, 1) := by decide +kernel
theorem d3 : decode yB 3 = .ok (.isub, 1) := by decide +kernel
theorem d4 : decode yB 4 = .ok (.bipush 31, 2) := by decide +kernel
theorem d6 : decode yB 6 = .ok (.iushr, 1) := by decide +kernel
theorem d7 : decode yB 7 = .ok (.i2b, 1) := by decide +kernel
theorem d8 : decode yB 8 = .ok (.ireturn, 1) := by decide +kernel
def site : List Cond := []
def tab : Cond := tabOf yN yB 2 (some .byte) site
def P (d : Addr) (B : Cell) (args : Array Value) (s : State) : Prop := args = #[.ref d, .int (Int32.ofNat B.slots.size)] ∧ Arr .byte d B s
def E (r : Option Value) (s u : State) : Prop := XT.PureE (some (.int 0)) r s u
/-- an array as long as the number of chars: LATIN1 -/
theorem law (l : Launch) (d : Addr) (B : Cell) : Law l yN 2 2 0 0 yB 2 (some .byte) site (P d B) E [] 0 0 := by
  refine Law.of_walk (plainFor_of_name (by decide +kernel)) (by decide +kernel) (by decide +kernel) (by decide) (fun _ _ h => by rw [h.1]; rfl) (fun _ U U' hal hh h => ⟨h.1, h.2.mv hal hh⟩) (fun r U U' V V' h1 hal h2 h => XT.PureE.mv r U U' V V' h1 hal h2 h) ?_
  intro p e s m args below meth c s₁ X0 hexec hbytes hml hret hlk hnm hown hh0 W hP
  obtain ⟨rfl, hB⟩ := hP
  have hB0 := hB.mv X0.warmed.alike hh0
  have c1 : Steps p.tables e below (s₁.setTop (entryFrame m #[.ref d, .int (Int32.ofNat B.slots.size)] 2)) (s₁.setTop (mkF m 0 #[.val (.ref d), .val (.int (Int32.ofNat B.slots.size))] [])) := entry rfl
  have c2 : Steps p.tables e below (s₁.setTop (entryFrame m #[.ref d, .int (Int32.ofNat B.slots.size)] 2)) (s₁.setTop (mkF m 2 #[.val (.ref d), .val (.int (Int32.ofNat B.slots.size))] [.ref d, .int (Int32.ofNat B.slots.size)])) := c1.trans (by
    refine XS.iloadN X0.here hexec rfl (hb hbytes d0) rfl ?_
    refine XS.aloadN X0.here hexec rfl (hb hbytes d1) rfl rfl ?_
    exact Steps.refl _)
  have c3 : Steps p.tables e below (s₁.setTop (entryFrame m #[.ref d, .int (Int32.ofNat B.slots.size)] 2)) (s₁.setTop (mkF m 8 #[.val (.ref d), .val (.int (Int32.ofNat B.slots.size))] [.int (lo8 (ushr (Int32.ofNat B.slots.size - Int32.ofNat B.slots.size) 31))])) := c2.trans (by
    refine X0.alen hexec hB0 rfl rfl (hb hbytes d2) ?_
    refine XS.isub X0.here hexec rfl (hb hbytes d3) rfl ?_
    refine bipushV X0.here hexec rfl 31 (hb hbytes d4) (by decide) ?_
    refine iushr X0.here hexec rfl (hb hbytes d6) rfl ?_
    refine i2b X0.here hexec rfl (hb hbytes d7) rfl ?_
    exact Steps.refl _)
  have e0 : lo8 (ushr (Int32.ofNat B.slots.size - Int32.ofNat B.slots.size) 31) = 0 := by rw [Int32.sub_self]; decide
  rw [e0] at c3
  exact ⟨s₁, some (.int 0), _, _, _, X0, rfl, rfl, rfl, (fun h => by cases h), ⟨rfl, hh0⟩, fun fs hl => c3.trans (X0.ireturnOut hexec hret rfl (Or.inr (Or.inr (Or.inl rfl))) (hb hbytes d8) hl)⟩
end CodL
/-- the String at a is Latin-1 over a new byte[] (the heap's one new cell): the low bytes of the len chars of A from o on; every cell but a is kept -/
def Got (a : Addr) (D : Cell) (fV fC : Field) (A : Cell) (o len : Nat) (r : Option Value) (s u : State) : Prop := r = none ∧ ∃ D' V : Cell, Blank "java/lang/String" a D' u ∧ Same D D' [fV.slot, fC.slot] ∧ D'.slots[fV.slot]? = some (.ref s.heap.size) ∧ D'.slots[fC.slot]? = some (.int 0) ∧ Arr .byte s.heap.size V u ∧ V.vm = .none ∧ u.vm.findClass "[B" = some V.cls ∧ V.slots.size = len ∧ (∀ j, j < len → V.slots[j]? = some (.int (lo8 (cv A (o + j))))) ∧ (∀ (y : Addr) (c : Cell), y ≠ a → s.heap[y]? = some c → u.heap[y]? = some c) ∧ u.heap.size = s.heap.size + 1
theorem Got.mv {a : Addr} {D A : Cell} {fV fC : Field} {o len : Nat} : ∀ r (U U' V V' : State), U'.heap = U.heap → V.vm.Alike V'.vm → V'.heap = V.heap → Got a D fV fC A o len r U V → Got a D fV fC A o len r U' V' :=
  fun r U U' V V' h1 hal h2 ⟨e0, D', X, a1, a2, a3, a4, a5, a6, a7, a8, a9, a10, a11⟩ => ⟨e0, D', X, a1.mv hal h2, a2, by rw [h1]; exact a3, a4, by rw [h1]; exact a5.mv hal h2, a6, by rw [hal.findClass]; exact a7, a8, a9, by rw [h1, h2]; exact a10, by rw [h1, h2]; exact a11⟩
namespace New4
def yN : MethodName := ⟨"java/lang/String", "<init>", "([CIILjava/lang/Void;)V"⟩
abbrev yB : ByteArray := jdk_42_method_149_code
theorem d0 : decode yB 0 = .ok (.aload_n 0, 1) := by decide +kernel
theorem d1 : decode yB 1 = .ok (.invokespecial 1, 3) := by decide +kernel
theorem d4 : decode yB 4 = .ok (.iload_n 3, 1) := by decide +kernel
theorem d5 : decode yB 5 = .ok (.ifCond (.ne) 22, 3) := by decide +kernel
theorem d27 : decode yB 27 = .ok (.getstatic 38, 3) := by decide +kernel
theorem d30 : decode yB 30 = .ok (.ifCond (.eq) 28, 3) := by decide +kernel
theorem d33 : decode yB 33 = .ok (.aload_n 1, 1) := by decide +kernel
theorem d34 : decode yB 34 = .ok (.iload_n 2, 1) := by decide +kernel
theorem d35 : decode yB 35 = .ok (.iload_n 3, 1) := by decide +kernel
theorem d36 : decode yB 36 = .ok (.invokestatic 177, 3) := by decide +kernel
theorem d39 : decode yB 39 = .ok (.astore 5, 2) := by decide +kernel
theorem d41 : decode yB 41 = .ok (.aload_n 0, 1) := by decide +kernel
theorem d42 : decode yB 42 = .ok (.aload 5, 2) := by decide +kernel
theorem d44 : decode yB 44 = .ok (.iload_n 3, 1) := by decide +kernel
theorem d45 : decode yB 45 = .ok (.invokestatic 47, 3) := by decide +kernel
theorem d48 : decode yB 48 = .ok (.putfield 15, 3) := by decide +kernel
theorem d51 : decode yB 51 = .ok (.aload_n 0, 1) := by decide +kernel
theorem d52 : decode yB 52 = .ok (.aload 5, 2) := by decide +kernel
theorem d54 : decode yB 54 = .ok (.putfield 9, 3) := by decide +kernel
theorem d57 : decode yB 57 = .ok (.return_, 1) := by decide +kernel
def site : List Cond := [.fieldLink "java/lang/String" 38 "java/lang/String" "COMPACT_STRINGS" "Z", Cmp3.tab, CodL.tab, .laysFinal "java/lang/String" "java/lang/String" "value" "[B", .fieldLink "java/lang/String" 9 "java/lang/String" "value" "[B", .laysFinal "java/lang/String" "java/lang/String" "coder" "B", .fieldLink "java/lang/String" 15 "java/lang/String" "coder" "B"] ++ objW "java/lang/String" 1 ++ staticW "java/lang/String" 177 Cmp3.yN ++ staticW "java/lang/String" 47 CodL.yN
def tab : Cond := tabOf yN yB 6 none site
def P (a : Addr) (D : Cell) (fV fC : Field) (b : Addr) (A : Cell) (z : Int32) (o len : Nat) (args : Array Value) (s : State) : Prop := args = #[.ref a, .ref b, .int (Int32.ofNat o), .int (Int32.ofNat len), .null] ∧ Blank "java/lang/String" a D s ∧ Found "java/lang/String" "value" "[B" fV s ∧ Found "java/lang/String" "coder" "B" fC s ∧ Ch b A s ∧ StaticIs s "java/lang/String" "COMPACT_STRINGS" "Z" (.int z) ∧ ¬ z = 0 ∧ 0 < len ∧ o + len ≤ A.slots.size ∧ len ≤ 536870912 ∧ ∀ i, i < len → ¬ 255 < cv A (o + i)
def E (a : Addr) (D : Cell) (fV fC : Field) (A : Cell) (o len : Nat) (r : Option Value) (s u : State) : Prop := Got a D fV fC A o len r s u
/-- len > 0, no char of the range above 255: a Latin-1 String of their low bytes -/
theorem law (l : Launch) (a : Addr) (D : Cell) (fV fC : Field) (b : Addr) (A : Cell) (z : Int32) (o len : Nat) : Law l yN 5 4 2 35 yB 6 none site (P a D fV fC b A z o len) (E a D fV fC A o len) [⟨a, fC.slot⟩, ⟨a, fV.slot⟩] 1 len := by
  refine Law.of_walk (plainFor_of_name (by decide +kernel)) (by decide +kernel) (by decide +kernel) (by decide) (fun _ _ h => by rw [h.1]; rfl) (fun _ U U' hal hh h => ⟨h.1, h.2.1.mv hal hh, h.2.2.1.al hal, h.2.2.2.1.al hal, h.2.2.2.2.1.mv hal hh, h.2.2.2.2.2.1.there hal hh, h.2.2.2.2.2.2⟩) (fun r U U' V V' h1 hal h2 h => Got.mv r U U' V V' h1 hal h2 h) ?_
  intro p e s m args below meth c s₁ X0 hexec hbytes hml hret hlk hnm hown hh0 W hP
  obtain ⟨rfl, hB, f1, f2, hA, s1, hz, l0, l1, l2, hp⟩ := hP
  have a31 := hA.1.2.2.2
  have c1 : Steps p.tables e below (s₁.setTop (entryFrame m #[.ref a, .ref b, .int (Int32.ofNat o), .int (Int32.ofNat len), .null] 6)) (s₁.setTop (mkF m 0 #[.val (.ref a), .val (.ref b), .val (.int (Int32.ofNat o)), .val (.int (Int32.ofNat len)), .val .null, .unset] [])) := entry rfl
  have c2 : Steps p.tables e below (s₁.setTop (entryFrame m #[.ref a, .ref b, .int (Int32.ofNat o), .int (Int32.ofNat len), .null] 6)) (s₁.setTop (mkF m 1 #[.val (.ref a), .val (.ref b), .val (.int (Int32.ofNat o)), .val (.int (Int32.ofNat len)), .val .null, .unset] [.ref a])) := c1.trans (by
    refine XS.aloadN X0.here hexec rfl (hb hbytes d0) rfl rfl ?_
    exact Steps.refl _)
  obtain ⟨T3, X3, q3, st3⟩ := X0.oinit hexec hown (wks W (objW "java/lang/String" 1)) (g := (mkF m 1 #[.val (.ref a), .val (.ref b), .val (.int (Int32.ofNat o)), .val (.int (Int32.ofNat len)), .val .null, .unset] [.ref a])) rfl (by rw [hml]; rfl) (rest := []) rfl (hb hbytes d1) (W := 0) (by show 2 * 0 + 0 ≤ _; decide) (Nat.le_of_ble_eq_true rfl) (Nat.le_of_ble_eq_true rfl)
  have hh3 := q3.trans hh0
  have c4 : Steps p.tables e below (s₁.setTop (entryFrame m #[.ref a, .ref b, .int (Int32.ofNat o), .int (Int32.ofNat len), .null] 6)) (T3.setTop (mkF m 27 #[.val (.ref a), .val (.ref b), .val (.int (Int32.ofNat o)), .val (.int (Int32.ofNat len)), .val .null, .unset] [])) := (c2.trans (st3 _ (Steps.refl _))).trans (by
    refine XS.iloadN X3.here hexec rfl (hb hbytes d4) rfl ?_
    refine XS.ifYes X3.here hexec rfl (pc0 := 5) rfl (hb hbytes d5) rfl (i0_ne_t (nz32 (by omega) l0)) (by decide) rfl ?_
    exact Steps.refl _)
  obtain ⟨T5, X5, q5, st5⟩ := X3.sget hexec hown (wk W (.fieldLink "java/lang/String" 38 "java/lang/String" "COMPACT_STRINGS" "Z")) s1 (fun _ _ h => by rw [hh3]; exact h) (g := (mkF m 27 #[.val (.ref a), .val (.ref b), .val (.int (Int32.ofNat o)), .val (.int (Int32.ofNat len)), .val .null, .unset] [])) rfl (hb hbytes d27)
  have hh5 := q5.trans hh3
  have c6 : Steps p.tables e below (s₁.setTop (entryFrame m #[.ref a, .ref b, .int (Int32.ofNat o), .int (Int32.ofNat len), .null] 6)) (T5.setTop (mkF m 30 #[.val (.ref a), .val (.ref b), .val (.int (Int32.ofNat o)), .val (.int (Int32.ofNat len)), .val .null, .unset] [.int z])) := c4.trans (st5 _ (Steps.refl _))
  have c7 : Steps p.tables e below (s₁.setTop (entryFrame m #[.ref a, .ref b, .int (Int32.ofNat o), .int (Int32.ofNat len), .null] 6)) (T5.setTop (mkF m 36 #[.val (.ref a), .val (.ref b), .val (.int (Int32.ofNat o)), .val (.int (Int32.ofNat len)), .val .null, .unset] [.int (Int32.ofNat len), .int (Int32.ofNat o), .ref b])) := c6.trans (by
    refine XS.ifNo X5.here hexec rfl (hb hbytes d30) rfl (i0_eq_f hz) ?_
    refine XS.aloadN X5.here hexec rfl (hb hbytes d33) rfl rfl ?_
    refine XS.iloadN X5.here hexec rfl (hb hbytes d34) rfl ?_
    refine XS.iloadN X5.here hexec rfl (hb hbytes d35) rfl ?_
    exact Steps.refl _)
  obtain ⟨v8, T8, X8, E8, g8⟩ := X5.callS hexec (Cmp3.law l b A o len) hown (wks W (staticW "java/lang/String" 177 Cmp3.yN)) (wk W Cmp3.tab) (W := 0) (Nat.le_of_ble_eq_true rfl) (Nat.le_of_ble_eq_true rfl) (Nat.le_refl _) (by show 0 + len ≤ len; omega) (g := (mkF m 36 #[.val (.ref a), .val (.ref b), .val (.int (Int32.ofNat o)), .val (.int (Int32.ofNat len)), .val .null, .unset] [.int (Int32.ofNat len), .int (Int32.ofNat o), .ref b])) rfl (by rw [hml]; rfl) c7 (argsL := [.ref b, .int (Int32.ofNat o), .int (Int32.ofNat len)]) (rest := []) rfl rfl (by show 2 * 0 + 0 ≤ _; decide) (hb hbytes d36) (⟨rfl, hA.mv X5.warmed.alike hh5, l1, l2, hp⟩)
  obtain ⟨e8, z8⟩ := E8
  obtain ⟨rfl, N, n1, n2, n3, n4, n5, n6⟩ := NewArr.mv _ T5 s _ _ hh5.symm (Vm.Alike.refl _) rfl e8
  rw [hh5] at z8
  have hB1 := hB.keep X8.warmed.alike (n6 _ _ hB.1)
  have hne : s.heap.size ≠ a := (Nat.ne_of_lt (Array.getElem?_eq_some_iff.mp hB.1).1).symm
  have c9 : Steps p.tables e below (s₁.setTop (entryFrame m #[.ref a, .ref b, .int (Int32.ofNat o), .int (Int32.ofNat len), .null] 6)) (T8.setTop (mkF m 39 #[.val (.ref a), .val (.ref b), .val (.int (Int32.ofNat o)), .val (.int (Int32.ofNat len)), .val .null, .unset] [.ref s.heap.size])) := g8
  have c10 : Steps p.tables e below (s₁.setTop (entryFrame m #[.ref a, .ref b, .int (Int32.ofNat o), .int (Int32.ofNat len), .null] 6)) (T8.setTop (mkF m 45 #[.val (.ref a), .val (.ref b), .val (.int (Int32.ofNat o)), .val (.int (Int32.ofNat len)), .val .null, .val (.ref s.heap.size)] [.int (Int32.ofNat N.slots.size), .ref s.heap.size, .ref a])) := by
    have hc : Steps p.tables e below (s₁.setTop (entryFrame m #[.ref a, .ref b, .int (Int32.ofNat o), .int (Int32.ofNat len), .null] 6)) (T8.setTop (mkF m 45 #[.val (.ref a), .val (.ref b), .val (.int (Int32.ofNat o)), .val (.int (Int32.ofNat len)), .val .null, .val (.ref s.heap.size)] [.int (Int32.ofNat len), .ref s.heap.size, .ref a])) := c9.trans (by
      refine XS.astore X8.here hexec rfl (hb hbytes d39) rfl rfl rfl ?_
      refine XS.aloadN X8.here hexec rfl (hb hbytes d41) rfl rfl ?_
      refine XS.aload X8.here hexec rfl (hb hbytes d42) rfl rfl ?_
      refine XS.iloadN X8.here hexec rfl (hb hbytes d44) rfl ?_
      exact Steps.refl _)
    rw [n4]; exact hc
  obtain ⟨v11, T11, X11, E11, g11⟩ := X8.callS hexec (CodL.law l s.heap.size N) hown (wks W (staticW "java/lang/String" 47 CodL.yN)) (wk W CodL.tab) (W := 1) (Nat.le_of_ble_eq_true rfl) (Nat.le_of_ble_eq_true rfl) (Nat.le_refl _) (by show 0 + len + 0 ≤ len; omega) (g := (mkF m 45 #[.val (.ref a), .val (.ref b), .val (.int (Int32.ofNat o)), .val (.int (Int32.ofNat len)), .val .null, .val (.ref s.heap.size)] [.int (Int32.ofNat N.slots.size), .ref s.heap.size, .ref a])) rfl (by rw [hml]; rfl) c10 (argsL := [.ref s.heap.size, .int (Int32.ofNat N.slots.size)]) (rest := [.ref a]) rfl rfl (by show 2 * 0 + (1 + 0) ≤ _; decide) (hb hbytes d45) (⟨rfl, n1⟩)
  obtain ⟨rfl, q11⟩ := E11
  have hB11 := hB1.mv (X8.warmed.alike.symm.trans X11.warmed.alike) q11
  have c12 : Steps p.tables e below (s₁.setTop (entryFrame m #[.ref a, .ref b, .int (Int32.ofNat o), .int (Int32.ofNat len), .null] 6)) (T11.setTop (mkF m 48 #[.val (.ref a), .val (.ref b), .val (.int (Int32.ofNat o)), .val (.int (Int32.ofNat len)), .val .null, .val (.ref s.heap.size)] [.int 0, .ref a])) := g11
  obtain ⟨T13, X13, p13, bl13, sl13, st13⟩ := X11.finit hexec hown (wk W (.fieldLink "java/lang/String" 15 "java/lang/String" "coder" "B")) (Or.inr ⟨_, (wk W (.laysFinal "java/lang/String" "java/lang/String" "coder" "B"))⟩) (Or.inl ⟨rfl, hnm⟩) f2 (Or.inl rfl) hB11 (t := .byte) (by decide +kernel) rfl (g := (mkF m 48 #[.val (.ref a), .val (.ref b), .val (.int (Int32.ofNat o)), .val (.int (Int32.ofNat len)), .val .null, .val (.ref s.heap.size)] [.int 0, .ref a])) rfl (rest := []) rfl (hb hbytes d48)
  have c14 : Steps p.tables e below (s₁.setTop (entryFrame m #[.ref a, .ref b, .int (Int32.ofNat o), .int (Int32.ofNat len), .null] 6)) (T13.setTop (mkF m 54 #[.val (.ref a), .val (.ref b), .val (.int (Int32.ofNat o)), .val (.int (Int32.ofNat len)), .val .null, .val (.ref s.heap.size)] [.ref s.heap.size, .ref a])) := (c12.trans (st13 _ (Steps.refl _))).trans (by
    refine XS.aloadN X13.here hexec rfl (hb hbytes d51) rfl rfl ?_
    refine XS.aload X13.here hexec rfl (hb hbytes d52) rfl rfl ?_
    exact Steps.refl _)
  obtain ⟨T15, X15, p15, bl15, sl15, st15⟩ := X13.finit hexec hown (wk W (.fieldLink "java/lang/String" 9 "java/lang/String" "value" "[B")) (Or.inr ⟨_, (wk W (.laysFinal "java/lang/String" "java/lang/String" "value" "[B"))⟩) (Or.inl ⟨rfl, hnm⟩) f1 (Or.inl rfl) bl13 (t := (.array .byte)) (by decide +kernel) rfl (g := (mkF m 54 #[.val (.ref a), .val (.ref b), .val (.int (Int32.ofNat o)), .val (.int (Int32.ofNat len)), .val .null, .val (.ref s.heap.size)] [.ref s.heap.size, .ref a])) rfl (rest := []) rfl (hb hbytes d54)
  have c16 : Steps p.tables e below (s₁.setTop (entryFrame m #[.ref a, .ref b, .int (Int32.ofNat o), .int (Int32.ofNat len), .null] 6)) (T15.setTop (mkF m 57 #[.val (.ref a), .val (.ref b), .val (.int (Int32.ofNat o)), .val (.int (Int32.ofNat len)), .val .null, .val (.ref s.heap.size)] [])) := c14.trans (st15 _ (Steps.refl _))
  have ap := apart (Or.inr ⟨_, (wk W (.laysFinal "java/lang/String" "java/lang/String" "value" "[B"))⟩) (Or.inr ⟨_, (wk W (.laysFinal "java/lang/String" "java/lang/String" "coder" "B"))⟩) f1 f2 (t₁ := .array .byte) (t₂ := .byte) (by decide +kernel) (by decide +kernel) (by decide)
  have al := X8.warmed.alike.symm.trans X15.warmed.alike
  have n7 : T11.heap[s.heap.size]? = some N := by rw [q11]; exact n1.1
  exact ⟨T15, none, _, _, _, X15, by simp, rfl, by omega, (fun _ => rfl), ⟨rfl, _, N, bl15, ((Same.refl D _).set _ (by simp)).set _ (by simp), sl15, (Cell.slots_setSlot_ne _ ap).trans sl13, n1.keep al (p15.other hne (p13.other hne n7)), n2, by rw [al.findClass]; exact n3, n4, n5, fun y c h1 h2 => p15.other h1 (p13.other h1 (by rw [q11]; exact n6 y c h2)), by rw [p15.2.2, p13.2.2, q11]; exact z8⟩, fun fs hl => c16.trans (X15.returnOut hexec hret (hb hbytes d57) hl)⟩
end New4
namespace New1
def yN : MethodName := ⟨"java/lang/String", "<init>", "([C)V"⟩
abbrev yB : ByteArray := jdk_42_method_3_code
theorem d0 : decode yB 0 = .ok (.aload_n 0, 1) := by decide +kernel
theorem d1 : decode yB 1 = .ok (.aload_n 1, 1) := by decide +kernel
theorem d2 : decode yB 2 = .ok (.iconst 0, 1) := by decide +kernel
theorem d3 : decode yB 3 = .ok (.aload_n 1, 1) := by decide +kernel
theorem d4 : decode yB 4 = .ok (.arraylength, 1) := by decide +kernel
theorem d5 : decode yB 5 = .ok (.aconst_null, 1) := by decide +kernel
theorem d6 : decode yB 6 = .ok (.invokespecial 27, 3) := by decide +kernel
theorem d9 : decode yB 9 = .ok (.return_, 1) := by decide +kernel
def site : List Cond := [New4.tab] ++ initW "java/lang/String" 27 New4.yN
def tab : Cond := tabOf yN yB 2 none site
def P (a : Addr) (D : Cell) (fV fC : Field) (b : Addr) (A : Cell) (z : Int32) (args : Array Value) (s : State) : Prop := args = #[.ref a, .ref b] ∧ Blank "java/lang/String" a D s ∧ Found "java/lang/String" "value" "[B" fV s ∧ Found "java/lang/String" "coder" "B" fC s ∧ Ch b A s ∧ StaticIs s "java/lang/String" "COMPACT_STRINGS" "Z" (.int z) ∧ ¬ z = 0 ∧ 0 < A.slots.size ∧ A.slots.size ≤ 536870912 ∧ ∀ i, i < A.slots.size → ¬ 255 < cv A i
def E (a : Addr) (D : Cell) (fV fC : Field) (A : Cell) (r : Option Value) (s u : State) : Prop := Got a D fV fC A 0 A.slots.size r s u
/-- new String(chars), not empty, no char above 255: a Latin-1 String of their low bytes -/
theorem law (l : Launch) (a : Addr) (D : Cell) (fV fC : Field) (b : Addr) (A : Cell) (z : Int32) : Law l yN 2 1 3 52 yB 2 none site (P a D fV fC b A z) (E a D fV fC A) [⟨a, fC.slot⟩, ⟨a, fV.slot⟩] 1 A.slots.size := by
  refine Law.of_walk (plainFor_of_name (by decide +kernel)) (by decide +kernel) (by decide +kernel) (by decide) (fun _ _ h => by rw [h.1]; rfl) (fun _ U U' hal hh h => ⟨h.1, h.2.1.mv hal hh, h.2.2.1.al hal, h.2.2.2.1.al hal, h.2.2.2.2.1.mv hal hh, h.2.2.2.2.2.1.there hal hh, h.2.2.2.2.2.2⟩) (fun r U U' V V' h1 hal h2 h => Got.mv r U U' V V' h1 hal h2 h) ?_
  intro p e s m args below meth c s₁ X0 hexec hbytes hml hret hlk hnm hown hh0 W hP
  obtain ⟨rfl, hB, f1, f2, hA, s1, hz, l0, l2, hp⟩ := hP
  have c1 : Steps p.tables e below (s₁.setTop (entryFrame m #[.ref a, .ref b] 2)) (s₁.setTop (mkF m 0 #[.val (.ref a), .val (.ref b)] [])) := entry rfl
  have c2 : Steps p.tables e below (s₁.setTop (entryFrame m #[.ref a, .ref b] 2)) (s₁.setTop (mkF m 6 #[.val (.ref a), .val (.ref b)] [.null, .int (Int32.ofNat A.slots.size), .int 0, .ref b, .ref a])) := c1.trans (by
    refine XS.aloadN X0.here hexec rfl (hb hbytes d0) rfl rfl ?_
    refine XS.aloadN X0.here hexec rfl (hb hbytes d1) rfl rfl ?_
    refine iconstV X0.here hexec rfl 0 (hb hbytes d2) (by decide) ?_
    refine XS.aloadN X0.here hexec rfl (hb hbytes d3) rfl rfl ?_
    refine X0.alen hexec (hA.1.mv X0.warmed.alike hh0) rfl rfl (hb hbytes d4) ?_
    refine XS.aconstNull X0.here hexec rfl (hb hbytes d5) ?_
    exact Steps.refl _)
  obtain ⟨v3, T3, X3, E3, g3⟩ := X0.callN hexec (New4.law l a D fV fC b A z 0 A.slots.size) rfl hown (wks W (initW "java/lang/String" 27 New4.yN)) (W New4.tab (by simp only [site, List.mem_cons, List.mem_append, true_or, or_true])) (W := 0) (Nat.le_of_ble_eq_true rfl) (Nat.le_of_ble_eq_true rfl) (Nat.le_refl _) (by show 0 + A.slots.size ≤ A.slots.size; omega) (g := (mkF m 6 #[.val (.ref a), .val (.ref b)] [.null, .int (Int32.ofNat A.slots.size), .int (Int32.ofNat 0), .ref b, .ref a])) rfl (by rw [hml]; rfl) c2 (argsL := [.ref b, .int (Int32.ofNat 0), .int (Int32.ofNat A.slots.size), .null]) (rest := []) rfl rfl (by show 2 * 0 + 0 ≤ _; decide) (hb hbytes d6) (⟨rfl, hB.mv X0.warmed.alike hh0, f1.al X0.warmed.alike, f2.al X0.warmed.alike, hA.mv X0.warmed.alike hh0, s1.there X0.warmed.alike hh0, hz, l0, by omega, l2, fun i hi => by rw [Nat.zero_add]; exact hp i hi⟩)
  have e0 := Got.mv _ s₁ s _ _ hh0.symm (Vm.Alike.refl _) rfl E3
  obtain rfl := e0.1
  have c4 : Steps p.tables e below (s₁.setTop (entryFrame m #[.ref a, .ref b] 2)) (T3.setTop (mkF m 9 #[.val (.ref a), .val (.ref b)] [])) := g3
  exact ⟨T3, none, _, _, _, X3, by simp, rfl, by omega, (fun _ => rfl), e0, fun fs hl => c4.trans (X3.returnOut hexec hret (hb hbytes d9) hl)⟩
theorem pays {l : Launch} {R : Room} {p : Program} {e : Env} {below : List Frame} {s : State} {sargs : Array Value} {len W : Nat} (a : Addr) (D : Cell) (fV fC : Field) (b : Addr) (A : Cell) (z : Int32) (htab : tab.before sargs s = true) (hfr : 4 ≤ R.frames) (hlo : W + 65 ≤ R.locals) :
    Back l R p e below s sargs yN len W (fun A₁ a₁ => A₁.cells + 1 ≤ R.cells ∧ A₁.slots + A.slots.size ≤ R.slots ∧ P a D fV fC b A z a₁ A₁.U) (fun A₁ _ v₁ B₁ => E a D fV fC A v₁ A₁.U B₁.U ∧ B₁.locs = A₁.locs ++ [⟨a, fC.slot⟩, ⟨a, fV.slot⟩] ∧ B₁.cells = A₁.cells + 1 ∧ B₁.slots = A₁.slots + A.slots.size) :=
  (law l a D fV fC b A z).pays htab hfr (by omega)
end New1
/-- the byte, read back as charAt reads it, is the char -/
theorem lo8_mask {x : Int32} (h0 : ¬ x < 0) (h1 : ¬ 255 < x) : lo8 x &&& 255 = x := by
  have t : ∀ k : Fin 256, lo8 (Int32.ofNat k.val) &&& 255 = Int32.ofNat k.val := by decide +kernel
  rw [Int32.lt_iff_toInt_lt] at h0 h1
  have e0 : (0 : Int32).toInt = 0 := rfl
  have e1 : (255 : Int32).toInt = 255 := rfl
  obtain ⟨k, hk⟩ : ∃ k : Nat, x.toInt = k := ⟨x.toInt.toNat, by omega⟩
  have hx : x = Int32.ofNat k := Int32.toInt_inj.mp (by rw [hk, Int32.toInt_ofNat_small (by omega)])
  rw [hx]
  exact t ⟨k, by omega⟩
end StrChars
namespace StrChars.Road
open Jvm Sem ClassFile Op Lib Jvm.Stand Jvm.Free Jvm.Free.XT
open Jvm.Lib.Cold (StaticIs)
abbrev ST : String := "java/lang/String"
/-- every table word that New1's law asks, flat -/
abbrev words : List Jvm.Cond := [.code New1.yN New1.yB 2 none, .initialized ST, .methodLink ST 27 New4.yN, .instanceMethod New4.yN,
  .code New4.yN New4.yB 6 none, .fieldLink ST 38 ST "COMPACT_STRINGS" "Z", .laysFinal ST ST "value" "[B", .fieldLink ST 9 ST "value" "[B", .laysFinal ST ST "coder" "B", .fieldLink ST 15 ST "coder" "B",
  .methodLink ST 1 Lib.objectInit, .instanceMethod Lib.objectInit, .code Lib.objectInit ⟨#[0xb1]⟩ 1 none, .methodLink ST 177 Cmp3.yN, .static Cmp3.yN, .methodLink ST 47 CodL.yN, .static CodL.yN,
  .code Cmp3.yN Cmp3.yB 6 (some (.array .byte)), .initialized U16, .arrayClass .byte, .methodLink U16 115 Cmp5.yN, .static Cmp5.yN, .code Cmp5.yN Cmp5.yB 7 (some .int), .code CodL.yN CodL.yB 2 (some .byte)]
theorem tab_of {a : Array Value} {s : State} (h : ∀ w ∈ words, w.before a s = true) : New1.tab.before a s = true := by
  have h5 : Cmp5.tab.before a s = true := unparts (wk h (.code Cmp5.yN Cmp5.yB 7 (some .int))) (wks h (.initialized Cmp5.yN.cls :: Cmp5.site))
  have hc : CodL.tab.before a s = true := unparts (wk h (.code CodL.yN CodL.yB 2 (some .byte))) (wks h (.initialized CodL.yN.cls :: CodL.site))
  have q5 : ∀ w ∈ Cmp5.tab :: words, w.before a s = true := fun w hw => (List.mem_cons.mp hw).elim (fun e => e ▸ h5) (h w)
  have h3 : Cmp3.tab.before a s = true := unparts (wk q5 (.code Cmp3.yN Cmp3.yB 6 (some (.array .byte)))) (wks q5 (.initialized Cmp3.yN.cls :: Cmp3.site))
  have q3 : ∀ w ∈ Cmp3.tab :: CodL.tab :: words, w.before a s = true := fun w hw => (List.mem_cons.mp hw).elim (fun e => e ▸ h3) fun hw => (List.mem_cons.mp hw).elim (fun e => e ▸ hc) (h w)
  have h4 : New4.tab.before a s = true := unparts (wk q3 (.code New4.yN New4.yB 6 none)) (wks q3 (.initialized New4.yN.cls :: New4.site))
  have q4 : ∀ w ∈ New4.tab :: words, w.before a s = true := fun w hw => (List.mem_cons.mp hw).elim (fun e => e ▸ h4) (h w)
  exact unparts (wk q4 (.code New1.yN New1.yB 2 none)) (wks q4 (.initialized New1.yN.cls :: New1.site))
/-- the words ride from the start Z to the walk's own state -/
theorem moved {Z s : State} {a0 args : Array Value} (hZ : Z.Warmed39 s.vm) (hw : ∀ d ∈ words, d.before a0 Z = true) : ∀ d ∈ words, d.before args s = true := fun d hd => by
  have q := hw d hd
  have t : ∀ d ∈ words, d = .arrayClass .byte ∨ (d.onTables && d.keepsFace) = true := by decide +kernel
  rcases t d hd with rfl | t
  · exact RoadKit.mvA hZ q
  · exact RoadKit.mv hZ q t
/-- WHAT COMES BACK, over the tables of the start Z: h the heap at the call, h' behind it -/
def Q (Z : State) (x : Addr) (A : Cell) (h : Heap) (v : Option Value) (h' : Heap) (L : List Loc) : Prop := v = none ∧ (∀ y ∈ L, y.base = x) ∧ RoadKit.Keep h h' [x] ∧ h'.size = h.size + 1 ∧ RoadKit.Exa Z h' x ST ∧ RoadKit.Fld Z h' x ST "value" "[B" (.ref h.size) ∧ RoadKit.Fld Z h' x ST "coder" "B" (.int 0) ∧
  (∃ V : Cell, RoadKit.Arr Z h' h.size V .byte ∧ V.vm = .none ∧ Z.vm.findClass "[B" = some V.cls ∧ V.slots.size = A.slots.size ∧ ∀ j, j < A.slots.size → V.slots[j]? = some (.int (lo8 (cv A j)))) ∧
  ∀ (O n d : String) (w : Value), RoadKit.Fld Z h x O n d w → RoadKit.slotOf Z O n d ≠ RoadKit.slotOf Z ST "value" "[B" → RoadKit.slotOf Z O n d ≠ RoadKit.slotOf Z ST "coder" "B" → RoadKit.Fld Z h' x O n d w
/-- **new String(chars) AT A CALL, IN THE ROAD'S FORM**: for specialBack behind newO: x the fresh String, b the char[] with the cell A -/
theorem back {p : Program} {l : Launch} {e : Env} {R : Room} {s : State} {args : Array Value} {below : List Frame} {len W : Nat} {Z : State} {a0 : Array Value} {h : Heap} (hZ : Z.Warmed39 s.vm) (hw : ∀ d ∈ words, d.before a0 Z = true) {kI : Nat} (wi : (Jvm.Cond.instantiable ST kI).before a0 Z = true)
    {x b : Addr} {A : Cell} {z : Int32} {v0 c0 : Value} (E : RoadKit.Exa Z h x ST) (V : RoadKit.Fld Z h x ST "value" "[B" v0) (C : RoadKit.Fld Z h x ST "coder" "B" c0) (K : RoadKit.Arr Z h b A .char) (hty : Typed .char A) (S : RoadKit.Sta Z h ST "COMPACT_STRINGS" "Z" (.int z)) (hz : ¬ z = 0)
    (l0 : 0 < A.slots.size) (l2 : A.slots.size ≤ 536870912) (hp : ∀ i, i < A.slots.size → ¬ 255 < cv A i) (hfr : 4 ≤ R.frames) (hlo : W + 65 ≤ R.locals) :
    Back l R p e below s args New1.yN len W (fun P a => a = #[.ref x, .ref b] ∧ P.U.heap = h ∧ P.cells + 1 ≤ R.cells ∧ P.slots + A.slots.size ≤ R.slots)
      (fun P _ v B => ∃ L, Q Z x A h v B.U.heap L ∧ B.locs = P.locs ++ L ∧ B.cells = P.cells + 1 ∧ B.slots = P.slots + A.slots.size) := by
  intro m meth c P g ig mk a X hg hsize hdg hW hn hp'
  obtain ⟨rfl, rfl, r1, r2⟩ := hp'
  have al : Z.vm.Alike P.U.vm := hZ.alike.trans X.warmed.alike
  obtain ⟨D, cfV, kV, iV, fV, hD, gV, stV, knV, obV, asV, slV⟩ := id V
  obtain ⟨D', cfC, kC, iC, fC, hD', gC, stC, -, -, asC, slC⟩ := id C
  cases hD.symm.trans hD'
  obtain ⟨D2, kD, e1, e2, e3, e4, e5⟩ := id E
  cases hD.symm.trans e1
  obtain ⟨c2, k2, i1, i2, i3, -⟩ := Cond.instantiable_spec wi
  cases e2.symm.trans i1
  cases e3.symm.trans i2
  obtain ⟨kU, u1, u2⟩ := al.2.2 _ _ e3
  have hB : Blank ST x D P.U := ⟨hD, ⟨knV, fun q hq => by rw [hq] at obV; cases obV⟩, by rw [al.findClass]; exact e2, kU, u1, by rw [u2]; exact i3, by rw [u2]; exact e5 i3⟩
  have F1 : Found ST "value" "[B" fV P.U := ⟨SBG.found_only al ⟨cfV, kV, iV, gV⟩, stV⟩
  have F2 : Found ST "coder" "B" fC P.U := ⟨SBG.found_only al ⟨cfC, kC, iC, gC⟩, stC⟩
  have hA : Ch b A P.U := ⟨⟨K.1, State.isArrayOf_alike al K.2.1, K.2.2, by omega⟩, hty⟩
  have hS : StaticIs P.U ST "COMPACT_STRINGS" "Z" (.int z) := by
    obtain ⟨cfS, iS, kS, fS, st, cS, t1, t2, t3, t4, t5, t6, t7⟩ := S
    exact StaticIs.there (s := { Z with heap := P.U.heap }) ⟨cfS, iS, kS, fS, st, cS, t1, t2, t3, t4, t5, (fun q => by rw [q] at t6; cases t6), t7⟩ al rfl
  obtain ⟨v, B, X', ⟨⟨hv, E', V', q1, q2, q3, q4, q5, q6, q7, q8, q9, q10, q11⟩, hl, hc, hs⟩, st⟩ := New1.pays x D fV fC b A z (tab_of (moved hZ hw)) hfr hlo m meth c P g ig mk _ X hg hsize hdg hW hn ⟨r1, r2, rfl, hB, F1, F2, hA, hS, hz, l0, l2, hp⟩
  have al' : Z.vm.Alike B.U.vm := hZ.alike.trans X'.warmed.alike
  have hsz : E'.slots.size = D.slots.size := by
    obtain ⟨-, -, -, kB, w1, w2, w3⟩ := q1
    obtain ⟨kB', y1, y2⟩ := al'.2.2 _ _ e3
    rw [q2.2.1] at w1
    cases w1.symm.trans y1
    rw [w3, e5 i3, y2]
  refine ⟨v, B, X', ⟨_, ⟨hv, ?_, ⟨by omega, fun y cy hy hn' => q10 y cy (by simpa using hn') hy, fun y cy hy => ?_⟩, q11, ⟨E', _, q1.1, by rw [q2.2.1]; exact e2, by rw [q2.2.1]; exact e3, by rw [q2.1]; exact obV, fun _ => by rw [hsz]; exact e5 i3⟩,
    ⟨E', cfV, kV, iV, fV, q1.1, gV, stV, by rw [q2.1]; exact knV, by rw [q2.1]; exact obV, by rw [q2.2.1]; exact asV, q3⟩, ⟨E', cfC, kC, iC, fC, q1.1, gC, stC, by rw [q2.1]; exact knV, by rw [q2.1]; exact obV, by rw [q2.2.1]; exact asC, q4⟩,
    ⟨V', ⟨q5.1, State.isArrayOf_alike al'.symm q5.2.1, q5.2.2.1⟩, q6, by rw [← al'.findClass]; exact q7, q8, fun j hj => by have := q9 j hj; rwa [Nat.zero_add] at this⟩, fun O n d w F n1 n2 => ?_⟩, hl, hc, hs⟩, st⟩
  · intro y hy
    simp only [List.mem_cons, List.not_mem_nil, or_false] at hy
    rcases hy with rfl | rfl <;> rfl
  · by_cases q : y = x
    · subst q
      cases hD.symm.trans hy
      exact ⟨E', q1.1, q2.2.1, q2.1, hsz⟩
    · exact ⟨cy, q10 y cy q hy, rfl, rfl, rfl⟩
  · obtain ⟨D3, cf, k, i, f, g1, g2, g3, g4, g5, g6, g7⟩ := F
    cases hD.symm.trans g1
    simp only [RoadKit.slotOf, g2, gV, gC, Option.map_some, Option.getD_some] at n1 n2
    exact ⟨E', cf, k, i, f, q1.1, g2, g3, by rw [q2.1]; exact g4, by rw [q2.1]; exact g5, by rw [q2.2.1]; exact g6, by rw [q2.2.2 f.slot (by simp [n1, n2])]; exact g7⟩
end StrChars.Road
namespace StrChars.Road
open Jvm Sem ClassFile Op Lib Jvm.Stand Jvm.Free Jvm.Free.XT
/-- WHAT COMES BACK, the byte[] as a list of values -/
def QA (Z : State) (x : Addr) (zn : Int32) (cs : List Int32) (h : Heap) (v : Option Value) (h' : Heap) (L : List Loc) : Prop := v = none ∧ (∀ y ∈ L, y.base = x) ∧ RoadKit.Keep h h' [x] ∧ h'.size = h.size + 1 ∧ RoadKit.Exa Z h' x ST ∧ RoadKit.Fld Z h' x ST "value" "[B" (.ref h.size) ∧ RoadKit.Fld Z h' x ST "coder" "B" (.int 0) ∧
  (∃ kb, Z.vm.findClass "[B" = some kb ∧ RoadKit.Arv Z h' h.size kb .byte zn (cs.map fun c => .int (lo8 c)) (.int 0)) ∧
  ∀ (O n d : String) (w : Value), RoadKit.Fld Z h x O n d w → RoadKit.slotOf Z O n d ≠ RoadKit.slotOf Z ST "value" "[B" → RoadKit.slotOf Z O n d ≠ RoadKit.slotOf Z ST "coder" "B" → RoadKit.Fld Z h' x O n d w
/-- **new String(chars) AT A CALL, THE ARRAYS AS LISTS**: the char[] at b holds cs, not empty, no char above 255 -/
theorem backArv {p : Program} {l : Launch} {e : Env} {R : Room} {s : State} {args : Array Value} {below : List Frame} {len W : Nat} {Z : State} {a0 : Array Value} {h : Heap} (hZ : Z.Warmed39 s.vm) (hw : ∀ d ∈ words, d.before a0 Z = true) {kI : Nat} (wi : (Jvm.Cond.instantiable ST kI).before a0 Z = true)
    {x b : Addr} {k : ClassId} {zn z : Int32} {cs : List Int32} {dv v0 c0 : Value} (E : RoadKit.Exa Z h x ST) (V : RoadKit.Fld Z h x ST "value" "[B" v0) (C : RoadKit.Fld Z h x ST "coder" "B" c0) (K : RoadKit.Arv Z h b k .char zn (cs.map Value.int) dv) (S : RoadKit.Sta Z h ST "COMPACT_STRINGS" "Z" (.int z)) (hz : ¬ z = 0)
    (hlen : zn.toNatClampNeg = cs.length) (h0 : 0 < cs.length) (hbig : cs.length ≤ 536870912) (hall : ∀ c ∈ cs, ¬ 255 < c) (hfr : 4 ≤ R.frames) (hlo : W + 65 ≤ R.locals) :
    Back l R p e below s args New1.yN len W (fun P a => a = #[.ref x, .ref b] ∧ P.U.heap = h ∧ P.cells + 1 ≤ R.cells ∧ P.slots + cs.length ≤ R.slots)
      (fun P _ v B => ∃ L, QA Z x zn cs h v B.U.heap L ∧ B.locs = P.locs ++ L ∧ B.cells = P.cells + 1 ∧ B.slots = P.slots + cs.length) := by
  obtain ⟨A, K1, K2, K3, K4, K5, K6⟩ := K
  have e : A.slots.size = cs.length := K3.trans hlen
  have hat : ∀ (i : Nat) (hi : i < cs.length), A.slots[i]? = some (.int cs[i]) := fun i hi => by rw [K5 i (by omega)]; simp [List.getD_eq_getElem?_getD, hi]
  have hcv : ∀ (i : Nat) (hi : i < cs.length), cv A i = cs[i] := fun i hi => by unfold cv; rw [hat i hi]
  have hty : Typed .char A := fun i v hv => by
    have hi : i < A.slots.size := (Array.getElem?_eq_some_iff.mp hv).1
    have q := K5 i hi
    rw [hv] at q
    rw [Option.some.inj q]
    exact K6 i hi
  refine Back.mono (back hZ hw wi E V C K1 hty S hz (by omega) (by omega) (fun i hi => by rw [hcv i (by omega)]; exact hall _ (List.getElem_mem _)) hfr hlo) (fun P a hp => ⟨hp.1, hp.2.1, hp.2.2.1, by rw [e]; exact hp.2.2.2⟩) (fun P a v B hp hq => ?_)
  obtain ⟨L, ⟨q1, q2, q3, q4, q5, q6, q7, ⟨V', v1, v2, v3, v4, v5⟩, q9⟩, hl, hc, hs⟩ := hq
  refine ⟨L, ⟨q1, q2, q3, q4, q5, q6, q7, ⟨V'.cls, v3, V', v1, rfl, by rw [v4, e, hlen], K4, fun i hi => ?_, fun i hi => ?_⟩, q9⟩, hl, hc, by rw [hs, e]⟩
  · have hi' : i < cs.length := by omega
    rw [v5 i (by omega), hcv i hi']; simp [List.getD_eq_getElem?_getD, hi']
  · have hi' : i < cs.length := by omega
    simp only [List.getD_eq_getElem?_getD, List.getElem?_map, List.getElem?_eq_getElem hi', Option.map_some, Option.getD_some]
    exact fits_lo8 _
end StrChars.Road
namespace StrChars.Road
open Jvm Sem ClassFile Op Lib Jvm.Stand Jvm.Free Jvm.Free.XT
/-- WHAT COMES BACK, in the writer's own shape -/
def QV (Z : State) (x : Addr) (N : Int32) (bs : List Int32) (h : Heap) (n0 : Nat) (v : Option Value) (h' : Heap) (L : List Loc) : Prop := v = none ∧ RoadKit.Fr n0 L ∧ RoadKit.Keep h h' [x] ∧ RoadKit.Exa Z h' x ST ∧ RoadKit.Fld Z h' x ST "coder" "B" (.int 0) ∧
  ∃ (t : Addr) (kb : ClassId), n0 ≤ t ∧ h.size ≤ t ∧ ¬ t = x ∧ RoadKit.Fld Z h' x ST "value" "[B" (.ref t) ∧ RoadKit.Arv Z h' t kb .byte N (bs.map Value.int) (.int 0)
/-- **new String(chars) AT A CALL, FOR THE WRITER**: a char[] of n known ints, each 0 to 255 -/
theorem backV {p : Program} {l : Launch} {e : Env} {R : Room} {s : State} {args : Array Value} {below : List Frame} {len W : Nat} {Z : State} {a0 : Array Value} {h : Heap} (hZ : Z.Warmed39 s.vm) (hw : ∀ d ∈ words, d.before a0 Z = true) {kI : Nat} (wi : (Jvm.Cond.instantiable ST kI).before a0 Z = true)
    {x b : Addr} {kC : ClassId} {cs bs : List Int32} {d v0 c0 : Value} {z N : Int32} {n n0 : Nat} (hx0 : n0 ≤ x) (hh0 : n0 ≤ h.size) (E : RoadKit.Exa Z h x ST) (V : RoadKit.Fld Z h x ST "value" "[B" v0) (C : RoadKit.Fld Z h x ST "coder" "B" c0) (K : RoadKit.Arv Z h b kC .char N (cs.map Value.int) d) (S : RoadKit.Sta Z h ST "COMPACT_STRINGS" "Z" (.int z)) (hz : ¬ z = 0)
    (hn : cs.length = n) (hN : N = Int32.ofNat n) (l0 : 0 < n) (l2 : n ≤ 4000) (hp : ∀ c ∈ cs, ¬ c < 0 ∧ ¬ (255 : Int32) < c) (hb : bs = cs.map (fun c => c.toInt8.toInt32)) (hfr : 4 ≤ R.frames) (hlo : W + 65 ≤ R.locals) :
    Back l R p e below s args (⟨"java/lang/String", "<init>", "([C)V"⟩ : MethodName) len W (fun P a => a = #[.ref x, .ref b] ∧ P.U.heap = h ∧ P.cells + 1 ≤ R.cells ∧ P.slots + n ≤ R.slots)
      (fun P _ v B => ∃ L, QV Z x N bs h n0 v B.U.heap L ∧ B.locs = P.locs ++ L ∧ B.cells = P.cells + 1 ∧ B.slots = P.slots + n) := by
  subst hn hN hb
  refine Back.mono (backArv hZ hw wi E V C K S hz (n32 (by omega)) l0 (by omega) (fun c hc => (hp c hc).2) hfr hlo) (fun P a hp => hp) (fun P a v B hp hq => ?_)
  obtain ⟨L, ⟨q1, q2, q3, q4, q5, q6, q7, ⟨kb, v1, v2⟩, q9⟩, hl, hc, hs⟩ := hq
  exact ⟨L, ⟨q1, fun y hy => by rw [q2 y hy]; exact hx0, q3, q5, q7, h.size, kb, hh0, Nat.le_refl _, Nat.ne_of_gt E.lt, q6, by rw [List.map_map]; exact v2⟩, hl, hc, hs⟩
end StrChars.Road
namespace StrChars
open Jvm Sem ClassFile Op Lib Jvm.Stand Jvm.Free.XT Jvm.Free.ALB Jvm.Free.JM Jvm.Free
open Jvm.Lib.Cold (StaticIs)
def hi8 (x : Int32) : Int32 := lo8 (x >>> ((8 : Int32) &&& 31))
/-- what StringUTF16.getChar makes of two bytes -/
def pairCh (u v : Int32) : Int32 := (((u &&& 255) <<< ((0 : Int32) &&& 31)) ||| ((v &&& 255) <<< ((8 : Int32) &&& 31))).toUInt32.toUInt16.toUInt32.toInt32
theorem lo8_and (x : Int32) : (lo8 x &&& 255).toBitVec.toNat = x.toBitVec.toNat % 256 := by
  have h : (lo8 x).toBitVec = (x.toBitVec.signExtend 8).signExtend 32 := by rw [lo8, Int8.toBitVec_toInt32, Int32.toBitVec_toInt8]
  rw [Int32.toBitVec_and, BitVec.toNat_and, h]
  have e : ((x.toBitVec.signExtend 8).signExtend 32).toNat % 256 = x.toBitVec.toNat % 256 := by
    rw [BitVec.toNat_signExtend]
    have hlt := x.toBitVec.isLt
    simp only [BitVec.toNat_setWidth, BitVec.toNat_signExtend]
    split <;> split <;> omega
  rw [← e]
  exact Nat.and_two_pow_sub_one_eq_mod _ 8
theorem pair_says {c : Int32} (h0 : ¬ c < 0) (h1 : ¬ 65535 < c) : pairCh (lo8 c) (hi8 c) = c := by
  rw [Int32.lt_iff_toInt_lt] at h0 h1
  have e0 : (0 : Int32).toInt = 0 := rfl
  have e1 : (65535 : Int32).toInt = 65535 := rfl
  have hc : c.toInt = c.toBitVec.toNat := by
    have := c.toBitVec.isLt
    have e : c.toInt = c.toBitVec.toInt := rfl
    rw [e] at h0 h1
    rw [e]
    rw [BitVec.toInt_eq_toNat_cond] at h0 h1 ⊢
    split at h0 <;> split <;> omega
  have hn : c.toBitVec.toNat < 65536 := by omega
  have a1 := lo8_and c
  have a2 : (hi8 c &&& 255).toBitVec.toNat = c.toBitVec.toNat / 256 := by
    rw [hi8, lo8_and]
    have e : ((8 : Int32) &&& 31) = 8 := by decide
    rw [e, Int32.toBitVec_shiftRight]
    have e2 : ((8 : Int32).toBitVec.smod 32) = 8#32 := by decide
    rw [e2, BitVec.sshiftRight_eq', BitVec.toNat_sshiftRight_of_msb_false (by rw [BitVec.msb_eq_false_iff_two_mul_lt]; omega)]
    show c.toBitVec.toNat >>> 8 % 256 = _
    rw [Nat.shiftRight_eq_div_pow]
    omega
  unfold pairCh
  apply Int32.toBitVec_inj.mp
  apply BitVec.eq_of_toNat_eq
  have f0 : ((0 : Int32) &&& 31) = 0 := by decide
  have f8 : ((8 : Int32) &&& 31) = 8 := by decide
  rw [f0, f8]
  have g : (((lo8 c &&& 255) <<< (0 : Int32)) ||| ((hi8 c &&& 255) <<< (8 : Int32))).toBitVec.toNat = c.toBitVec.toNat := by
    rw [Int32.toBitVec_or, Int32.toBitVec_shiftLeft, Int32.toBitVec_shiftLeft]
    have s0 : ((0 : Int32).toBitVec.smod 32) = 0#32 := by decide
    have s8 : ((8 : Int32).toBitVec.smod 32) = 8#32 := by decide
    rw [s0, s8, BitVec.toNat_or]
    simp only [BitVec.shiftLeft_eq', BitVec.toNat_shiftLeft, a1, a2]
    show (c.toBitVec.toNat % 256) <<< 0 % 2 ^ 32 ||| (c.toBitVec.toNat / 256) <<< 8 % 2 ^ 32 = _
    rw [Nat.shiftLeft_zero, Nat.mod_eq_of_lt (show c.toBitVec.toNat % 256 < 2 ^ 32 by omega), Nat.mod_eq_of_lt (show (c.toBitVec.toNat / 256) <<< 8 < 2 ^ 32 by rw [Nat.shiftLeft_eq]; omega), Nat.or_comm, ← Nat.shiftLeft_add_eq_or_of_lt (by omega), Nat.shiftLeft_eq]
    omega
  show BitVec.toNat (((((lo8 c &&& 255) <<< (0 : Int32)) ||| ((hi8 c &&& 255) <<< (8 : Int32))).toBitVec.setWidth 16).setWidth 32) = _
  rw [BitVec.toNat_setWidth, BitVec.toNat_setWidth, g]
  omega
end StrChars
namespace StrChars
open Jvm Sem ClassFile Op Lib Jvm.Stand Jvm.Free.XT Jvm.Free.ALB Jvm.Free.JM Jvm.Free
open Jvm.Lib.Cold (StaticIs)
/-- charAt's cast of a byte read back -/
def chr8 (u : Int32) : Int32 := (u &&& 255).toUInt32.toUInt16.toUInt32.toInt32
theorem chr8_lo8 {c : Int32} (h0 : ¬ c < 0) (h1 : ¬ 255 < c) : chr8 (lo8 c) = c := by
  have t : ∀ k : Fin 256, (Int32.ofNat k.val).toUInt32.toUInt16.toUInt32.toInt32 = Int32.ofNat k.val := by decide +kernel
  unfold chr8
  rw [lo8_mask h0 h1]
  rw [Int32.lt_iff_toInt_lt] at h0 h1
  have e0 : (0 : Int32).toInt = 0 := rfl
  have e1 : (255 : Int32).toInt = 255 := rfl
  obtain ⟨k, hk⟩ : ∃ k : Nat, c.toInt = k := ⟨c.toInt.toNat, by omega⟩
  have hx : c = Int32.ofNat k := Int32.toInt_inj.mp (by rw [hk, Int32.toInt_ofNat_small (by omega)])
  rw [hx]
  exact t ⟨k, by omega⟩
theorem narrow_ch {c : Int32} (h0 : ¬ c < 0) (h1 : ¬ 65535 < c) : narrow .char (.int c) = .int c := by
  have q : narrow .char (.int (pairCh (lo8 c) (hi8 c))) = .int (pairCh (lo8 c) (hi8 c)) := narrow_c _
  rwa [pair_says h0 h1] at q
/-- the array's cell V codes the n chars f 0 .. f (n - 1) by the coder cd, as the JDK does: coder 1 just where some char is above 255 -/
def Cod (cd : Int32) (n : Nat) (f : Nat → Int32) (V : Cell) : Prop := (cd = 0 ∧ V.slots.size = n ∧ ∀ j, j < n → V.slots[j]? = some (.int (lo8 (f j))) ∧ ¬ 255 < f j) ∨ (cd = 1 ∧ V.slots.size = 2 * n ∧ (∀ j, j < n → V.slots[2 * j]? = some (.int (lo8 (f j))) ∧ V.slots[2 * j + 1]? = some (.int (hi8 (f j)))) ∧ ∃ j, j < n ∧ 255 < f j)
theorem Cod.cd {cd : Int32} {n : Nat} {f : Nat → Int32} {V : Cell} (h : Cod cd n f V) : cd = 0 ∨ cd = 1 := h.imp (fun q => q.1) fun q => q.1
/-- **x is a String of the n chars f 0 .. f (n - 1)**, Latin-1 or UTF-16; its array at t has the cell V -/
def Txt (x t : Addr) (V : Cell) (cd : Int32) (n : Nat) (f : Nat → Int32) (U : State) : Prop := Exact "java/lang/String" x U ∧ Has x "java/lang/String" "value" "[B" (.ref t) U ∧ Has x "java/lang/String" "coder" "B" (.int cd) U ∧ XT.Arr .byte t V U ∧ Cod cd n f V ∧ ∀ j, j < n → ¬ f j < 0 ∧ ¬ 65535 < f j
theorem Txt.mv {x t : Addr} {V : Cell} {cd : Int32} {n : Nat} {f : Nat → Int32} {U U' : State} (h : Txt x t V cd n f U) (hal : U.vm.Alike U'.vm) (hh : U'.heap = U.heap) : Txt x t V cd n f U' := ⟨h.1.mv hal hh, h.2.1.mv hal hh, h.2.2.1.mv hal hh, h.2.2.2.1.mv hal hh, h.2.2.2.2⟩
namespace IsL
def yN : MethodName := ⟨"java/lang/String", "isLatin1", "()Z"⟩
abbrev yB : ByteArray := jdk_42_method_154_code
theorem d0 : decode yB 0 = .ok (.getstatic 38, 3) := by decide +kernel
theorem d3 : decode yB 3 = .ok (.ifCond (.eq) 14, 3) := by decide +kernel
theorem d6 : decode yB 6 = .ok (.aload_n 0, 1) := by decide +kernel
theorem d7 : decode yB 7 = .ok (.getfield 15, 3) := by decide +kernel
theorem d10 : decode yB 10 = .ok (.ifCond (.ne) 7, 3) := by decide +kernel
theorem d13 : decode yB 13 = .ok (.iconst 1, 1) := by decide +kernel
theorem d14 : decode yB 14 = .ok (.goto 4, 3) := by decide +kernel
theorem d17 : decode yB 17 = .ok (.iconst 0, 1) := by decide +kernel
theorem d18 : decode yB 18 = .ok (.ireturn, 1) := by decide +kernel
def site : List Cond := [.fieldLink "java/lang/String" 38 "java/lang/String" "COMPACT_STRINGS" "Z", .fieldLink "java/lang/String" 15 "java/lang/String" "coder" "B"]
def tab : Cond := tabOf yN yB 1 (some .boolean) site
def P (x : Addr) (cd z : Int32) (args : Array Value) (s : State) : Prop := args = #[.ref x] ∧ Has x "java/lang/String" "coder" "B" (.int cd) s ∧ (cd = 0 ∨ cd = 1) ∧ StaticIs s "java/lang/String" "COMPACT_STRINGS" "Z" (.int z) ∧ ¬ z = 0
def E (cd : Int32) (r : Option Value) (s u : State) : Prop := XT.PureE (some (.int (1 - cd))) r s u
theorem law (l : Launch) (x : Addr) (cd z : Int32) : Law l yN 1 0 0 0 yB 1 (some .boolean) site (P x cd z) (E cd) [] 0 0 := by
  refine Law.of_walk (plainFor_of_name (by decide +kernel)) (by decide +kernel) (by decide +kernel) (by decide) (fun _ _ h => by rw [h.1]; rfl) (fun _ U U' hal hh h => ⟨h.1, h.2.1.mv hal hh, h.2.2.1, h.2.2.2.1.there hal hh, h.2.2.2.2⟩) (fun r U U' V V' h1 hal h2 h => XT.PureE.mv r U U' V V' h1 hal h2 h) ?_
  intro p e s m args below meth c s₁ X0 hexec hbytes hml hret hlk hnm hown hh0 W hP
  obtain ⟨rfl, hx, hc, s1, hz⟩ := hP
  have c1 : Steps p.tables e below (s₁.setTop (entryFrame m #[.ref x] 1)) (s₁.setTop (mkF m 0 #[.val (.ref x)] [])) := entry rfl
  obtain ⟨T2, X2, q2, st2⟩ := X0.sget hexec hown (wk W (.fieldLink "java/lang/String" 38 "java/lang/String" "COMPACT_STRINGS" "Z")) s1 (fun _ _ h => by rw [hh0]; exact h) (g := (mkF m 0 #[.val (.ref x)] [])) rfl (hb hbytes d0)
  have hh2 := q2.trans hh0
  have c3 : Steps p.tables e below (s₁.setTop (entryFrame m #[.ref x] 1)) (T2.setTop (mkF m 7 #[.val (.ref x)] [.ref x])) := (c1.trans (st2 _ (Steps.refl _))).trans (by
    refine XS.ifNo X2.here hexec rfl (hb hbytes d3) rfl (i0_eq_f hz) ?_
    refine XS.aloadN X2.here hexec rfl (hb hbytes d6) rfl rfl ?_
    exact Steps.refl _)
  obtain ⟨T4, X4, q4, st4⟩ := X2.hget hexec hown (wk W (.fieldLink "java/lang/String" 15 "java/lang/String" "coder" "B")) (hx.mv X2.warmed.alike hh2) (g := (mkF m 7 #[.val (.ref x)] [.ref x])) rfl (rest := []) rfl (hb hbytes d7)
  have c5 : Steps p.tables e below (s₁.setTop (entryFrame m #[.ref x] 1)) (T4.setTop (mkF m 10 #[.val (.ref x)] [.int cd])) := c3.trans (st4 _ (Steps.refl _))
  have c6 : Steps p.tables e below (s₁.setTop (entryFrame m #[.ref x] 1)) (T4.setTop (mkF m 18 #[.val (.ref x)] [.int (1 - cd)])) := by
    rcases hc with rfl | rfl
    · exact c5.trans (by
        refine XS.ifNo X4.here hexec rfl (hb hbytes d10) rfl (i0_ne_f rfl) ?_
        refine iconstV X4.here hexec rfl 1 (hb hbytes d13) (by decide) ?_
        refine XS.goto X4.here hexec rfl (pc0 := 14) rfl (hb hbytes d14) (by decide) rfl ?_
        exact Steps.refl _)
    · exact c5.trans (by
        refine XS.ifYes X4.here hexec rfl (pc0 := 10) rfl (hb hbytes d10) rfl (i0_ne_t (by decide)) (by decide) rfl ?_
        refine iconstV X4.here hexec rfl 0 (hb hbytes d17) (by decide) ?_
        exact Steps.refl _)
  exact ⟨T4, some (.int (1 - cd)), _, _, _, X4, rfl, rfl, rfl, (fun h => by cases h), ⟨rfl, q4.trans hh2⟩, fun fs hl => c6.trans (X4.ireturnOut hexec hret (by rcases hc with rfl | rfl <;> rfl) (Or.inr (Or.inl rfl)) (hb hbytes d18) hl)⟩
end IsL
namespace LChA
def yN : MethodName := ⟨"java/lang/StringLatin1", "charAt", "([BI)C"⟩
abbrev yB : ByteArray := jdk_43_method_2_code
theorem d0 : decode yB 0 = .ok (.iload_n 1, 1) := by decide +kernel
theorem d1 : decode yB 1 = .ok (.aload_n 0, 1) := by decide +kernel
theorem d2 : decode yB 2 = .ok (.arraylength, 1) := by decide +kernel
theorem d3 : decode yB 3 = .ok (.invokestatic 9, 3) := by decide +kernel
theorem d6 : decode yB 6 = .ok (.aload_n 0, 1) := by decide +kernel
theorem d7 : decode yB 7 = .ok (.iload_n 1, 1) := by decide +kernel
theorem d8 : decode yB 8 = .ok (.baload, 1) := by decide +kernel
theorem d9 : decode yB 9 = .ok (.sipush 255, 3) := by decide +kernel
theorem d12 : decode yB 12 = .ok (.iand, 1) := by decide +kernel
theorem d13 : decode yB 13 = .ok (.i2c, 1) := by decide +kernel
theorem d14 : decode yB 14 = .ok (.ireturn, 1) := by decide +kernel
def site : List Cond := [JO.Str_checkIndex.tab] ++ staticW "java/lang/StringLatin1" 9 JO.Str_checkIndex.yN
def tab : Cond := tabOf yN yB 2 (some .char) site
def P (t : Addr) (V : Cell) (i : Nat) (u : Int32) (fm : Value) (args : Array Value) (s : State) : Prop := args = #[.ref t, .int (Int32.ofNat i)] ∧ XT.Arr .byte t V s ∧ V.slots[i]? = some (.int u) ∧ (StaticIs s "jdk/internal/util/Preconditions" "SIOOBE_FORMATTER" "Ljava/util/function/BiFunction;" fm ∧ fm.isRef = true)
def E (u : Int32) (r : Option Value) (s w : State) : Prop := XT.PureE (some (.int (chr8 u))) r s w
theorem law (l : Launch) (t : Addr) (V : Cell) (i : Nat) (u : Int32) (fm : Value) : Law l yN 2 2 2 27 yB 2 (some .char) site (P t V i u fm) (E u) [] 0 0 := by
  refine Law.of_walk (plainFor_of_name (by decide +kernel)) (by decide +kernel) (by decide +kernel) (by decide) (fun _ _ h => by rw [h.1]; rfl) (fun _ U U' hal hh h => ⟨h.1, h.2.1.mv hal hh, h.2.2.1, h.2.2.2.1.there hal hh, h.2.2.2.2⟩) (fun r U U' V V' h1 hal h2 h => XT.PureE.mv r U U' V V' h1 hal h2 h) ?_
  intro p e s m args below meth c s₁ X0 hexec hbytes hml hret hlk hnm hown hh0 W hP
  obtain ⟨rfl, hV, hu, s1, rf⟩ := hP
  have v31 := hV.2.2.2
  have hi : i < V.slots.size := (Array.getElem?_eq_some_iff.mp hu).1
  have c1 : Steps p.tables e below (s₁.setTop (entryFrame m #[.ref t, .int (Int32.ofNat i)] 2)) (s₁.setTop (mkF m 0 #[.val (.ref t), .val (.int (Int32.ofNat i))] [])) := entry rfl
  have c2 : Steps p.tables e below (s₁.setTop (entryFrame m #[.ref t, .int (Int32.ofNat i)] 2)) (s₁.setTop (mkF m 3 #[.val (.ref t), .val (.int (Int32.ofNat i))] [.int (Int32.ofNat V.slots.size), .int (Int32.ofNat i)])) := c1.trans (by
    refine XS.iloadN X0.here hexec rfl (hb hbytes d0) rfl ?_
    refine XS.aloadN X0.here hexec rfl (hb hbytes d1) rfl rfl ?_
    refine X0.alen hexec (hV.mv X0.warmed.alike hh0) rfl rfl (hb hbytes d2) ?_
    exact Steps.refl _)
  obtain ⟨v3, T3, X3, E3, g3⟩ := X0.callS hexec (JO.Str_checkIndex.law l (Int32.ofNat i) (Int32.ofNat V.slots.size) fm) hown (wks W (staticW "java/lang/StringLatin1" 9 JO.Str_checkIndex.yN)) (wk W JO.Str_checkIndex.tab) (W := 0) (Nat.le_of_ble_eq_true rfl) (Nat.le_of_ble_eq_true rfl) (Nat.le_refl _) (Nat.le_refl _) (g := (mkF m 3 #[.val (.ref t), .val (.int (Int32.ofNat i))] [.int (Int32.ofNat V.slots.size), .int (Int32.ofNat i)])) rfl (by rw [hml]; rfl) c2 (argsL := [.int (Int32.ofNat i), .int (Int32.ofNat V.slots.size)]) (rest := []) rfl rfl (by show 2 * 0 + 0 ≤ _; decide) (hb hbytes d3) (⟨rfl, rf, s1.there X0.warmed.alike hh0, Int32.ofNat_not_neg (by omega), lt32 v31 hi⟩)
  obtain ⟨rfl, q3⟩ := E3
  have hh3 := q3.trans hh0
  have c4 : Steps p.tables e below (s₁.setTop (entryFrame m #[.ref t, .int (Int32.ofNat i)] 2)) (T3.setTop (mkF m 14 #[.val (.ref t), .val (.int (Int32.ofNat i))] [.int (chr8 u)])) := Steps.trans g3 (by
    refine XS.aloadN X3.here hexec rfl (hb hbytes d6) rfl rfl ?_
    refine XS.iloadN X3.here hexec rfl (hb hbytes d7) rfl ?_
    refine X3.aget hexec (hV.mv X3.warmed.alike hh3) rfl hu rfl rfl (hb hbytes d8) ?_
    refine sipushV X3.here hexec rfl 255 (hb hbytes d9) (by decide) ?_
    refine XS.iand X3.here hexec rfl (hb hbytes d12) rfl ?_
    refine i2c X3.here hexec rfl (hb hbytes d13) rfl ?_
    exact Steps.refl _)
  exact ⟨T3, some (.int (chr8 u)), _, _, _, X3, rfl, rfl, rfl, (fun h => by cases h), ⟨rfl, hh3⟩, fun fs hl => c4.trans (X3.ireturnOut hexec hret (narrow_c _) (Or.inr (Or.inr (Or.inr (Or.inl rfl)))) (hb hbytes d14) hl)⟩
end LChA
end StrChars
namespace StrChars.Road
open Jvm Sem ClassFile Op Lib Jvm.Stand Jvm.Free Jvm.Free.XT
open Jvm.Lib.Cold (StaticIs)
theorem consq {a : Array Value} {s : State} {c : Jvm.Cond} {L : List Jvm.Cond} (h0 : c.before a s = true) (h : ∀ w ∈ L, w.before a s = true) : ∀ w ∈ c :: L, w.before a s = true := fun w hw => (List.mem_cons.mp hw).elim (fun e => e ▸ h0) (h w)
/-- the bytes of the chars cs, low before high -/
def wideBytes : List Int32 → List Value
  | [] => []
  | c :: cs => .int (lo8 c) :: .int (hi8 c) :: wideBytes cs
theorem wide_lo (d : Value) : ∀ (cs : List Int32) (j : Nat), j < cs.length → (wideBytes cs).getD (2 * j) d = .int (lo8 (cs.getD j 0))
  | [], j, h => absurd h (Nat.not_lt_zero j)
  | c :: cs, 0, _ => rfl
  | c :: cs, j + 1, h => by
    have q := wide_lo d cs j (by simpa using h)
    rw [show 2 * (j + 1) = 2 * j + 1 + 1 from by omega]
    simpa [wideBytes] using q
theorem wide_hi (d : Value) : ∀ (cs : List Int32) (j : Nat), j < cs.length → (wideBytes cs).getD (2 * j + 1) d = .int (hi8 (cs.getD j 0))
  | [], j, h => absurd h (Nat.not_lt_zero j)
  | c :: cs, 0, _ => rfl
  | c :: cs, j + 1, h => by
    have q := wide_hi d cs j (by simpa using h)
    rw [show 2 * (j + 1) + 1 = 2 * j + 1 + 1 + 1 from by omega]
    simpa [wideBytes] using q
theorem low_at (d : Value) (cs : List Int32) (j : Nat) (h : j < cs.length) : (cs.map fun c => Value.int (lo8 c)).getD j d = .int (lo8 (cs.getD j 0)) := by
  simp [List.getD_eq_getElem?_getD, h]
/-- an array of N2 bytes vs codes the chars cs by the coder cd -/
def CodA (cs : List Int32) (cd N2 : Int32) (vs : List Value) : Prop := (cd = 0 ∧ N2 = Int32.ofNat cs.length ∧ vs = (cs.map fun c => Value.int (lo8 c)) ∧ ∀ c ∈ cs, ¬ 255 < c) ∨ (cd = 1 ∧ N2 = Int32.ofNat (2 * cs.length) ∧ vs = wideBytes cs ∧ ∃ c ∈ cs, 255 < c)
theorem CodA.cod {cs : List Int32} {cd N2 : Int32} {vs : List Value} {V : Cell} (h : CodA cs cd N2 vs) (hn : 2 * cs.length < 2 ^ 31) (hs : V.slots.size = N2.toNatClampNeg) (hv : RoadKit.Has V vs (.int 0)) : Cod cd cs.length (fun j => cs.getD j 0) V := by
  rcases h with ⟨rfl, rfl, rfl, h⟩ | ⟨rfl, rfl, rfl, c, hc, hw⟩
  · rw [n32 (by omega)] at hs
    exact Or.inl ⟨rfl, hs, fun j hj => ⟨by rw [hv j (by omega), low_at _ _ _ hj], by
      have e : cs.getD j 0 = cs[j] := by simp [List.getD_eq_getElem?_getD, hj]
      show ¬ 255 < cs.getD j 0
      rw [e]; exact h _ (List.getElem_mem _)⟩⟩
  · rw [n32 (by omega)] at hs
    obtain ⟨j, hj, rfl⟩ := List.getElem_of_mem hc
    exact Or.inr ⟨rfl, hs, fun j hj => ⟨by rw [hv _ (by omega), wide_lo _ _ _ hj], by rw [hv _ (by omega), wide_hi _ _ _ hj]⟩, j, hj, by
      have e : cs.getD j 0 = cs[j] := by simp [List.getD_eq_getElem?_getD, hj]
      show 255 < cs.getD j 0
      rw [e]; exact hw⟩
/-- an object of exactly java/lang/String, its two fields found: as the laws ask it -/
theorem strObj {Z U : State} {a0 : Array Value} {kI : Nat} (wi : (Jvm.Cond.instantiable ST kI).before a0 Z = true) (al : Z.vm.Alike U.vm) {x : Addr} {v0 c0 : Value} (E : RoadKit.Exa Z U.heap x ST) (V : RoadKit.Fld Z U.heap x ST "value" "[B" v0) (C : RoadKit.Fld Z U.heap x ST "coder" "B" c0) :
    ∃ (D : Cell) (fV fC : Field), Blank ST x D U ∧ Found ST "value" "[B" fV U ∧ Found ST "coder" "B" fC U ∧ D.slots[fV.slot]? = some v0 ∧ D.slots[fC.slot]? = some c0 ∧ RoadKit.slotOf Z ST "value" "[B" = fV.slot ∧ RoadKit.slotOf Z ST "coder" "B" = fC.slot := by
  obtain ⟨D, cfV, kV, iV, fV, hD, gV, stV, knV, obV, asV, slV⟩ := V
  obtain ⟨D', cfC, kC, iC, fC, hD', gC, stC, -, -, asC, slC⟩ := C
  cases hD.symm.trans hD'
  obtain ⟨D2, kD, e1, e2, e3, e4, e5⟩ := E
  cases hD.symm.trans e1
  obtain ⟨c2, k2, i1, i2, i3, -⟩ := Cond.instantiable_spec wi
  cases e2.symm.trans i1
  cases e3.symm.trans i2
  obtain ⟨kU, u1, u2⟩ := al.2.2 _ _ e3
  exact ⟨D, fV, fC, ⟨hD, ⟨knV, fun q hq => by rw [hq] at obV; cases obV⟩, by rw [al.findClass]; exact e2, kU, u1, by rw [u2]; exact i3, by rw [u2]; exact e5 i3⟩, ⟨SBG.found_only al ⟨cfV, kV, iV, gV⟩, stV⟩, ⟨SBG.found_only al ⟨cfC, kC, iC, gC⟩, stC⟩, slV, slC, by simp [RoadKit.slotOf, gV], by simp [RoadKit.slotOf, gC]⟩
theorem sta_is {Z U : State} (al : Z.vm.Alike U.vm) {C n d : String} {v : Value} (S : RoadKit.Sta Z U.heap C n d v) : StaticIs U C n d v := by
  obtain ⟨cfS, iS, kS, fS, st, cS, t1, t2, t3, t4, t5, t6, t7⟩ := S
  exact StaticIs.there (s := { Z with heap := U.heap }) ⟨cfS, iS, kS, fS, st, cS, t1, t2, t3, t4, t5, (fun q => by rw [q] at t6; cases t6), t7⟩ al rfl
end StrChars.Road
namespace StrChars
open Jvm Sem ClassFile Op Lib Jvm.Stand Jvm.Free.XT Jvm.Free.ALB Jvm.Free.JM Jvm.Free
open Jvm.Lib.Cold (StaticIs)
/-- what place i of a byte[]'s cell holds -/
def yv (A : Cell) (i : Nat) : Int32 := match A.slots[i]? with | some (.int x) => x | _ => 0
theorem yv_get {a : Addr} {A : Cell} {U : State} (h : XT.Arr .byte a A U) (ht : Typed .byte A) {i : Nat} (hi : i < A.slots.size) : A.slots[i]? = some (.int (yv A i)) := by
  have e := Array.getElem?_eq_getElem hi
  have f := ht i _ e
  unfold yv; rw [e]
  generalize A.slots[i] = v at f
  cases v <;> simp [fits] at f ⊢
/-- the two arrays are equal, place for place -/
def EqC (A B : Cell) : Prop := A.slots.size = B.slots.size ∧ ∀ i, i < A.slots.size → yv A i = yv B i
/-- a boolean that says whether p -/
def Says01 (q : Prop) (r : Option Value) (s u : State) : Prop := ∃ v : Int32, r = some (.int v) ∧ u.heap = s.heap ∧ ((v = 1 ∧ q) ∨ (v = 0 ∧ ¬ q))
theorem Says01.mv {q : Prop} : ∀ r (U U' V V' : State), U'.heap = U.heap → V.vm.Alike V'.vm → V'.heap = V.heap → Says01 q r U V → Says01 q r U' V' :=
  fun r U U' V V' h1 _ h2 ⟨v, a, b, c⟩ => ⟨v, a, by rw [h1, h2]; exact b, c⟩
namespace LEq
def yN : MethodName := ⟨"java/lang/StringLatin1", "equals", "([B[B)Z"⟩
abbrev yB : ByteArray := jdk_43_method_13_code
theorem d0 : decode yB 0 = .ok (.aload_n 0, 1) := by decide +kernel
theorem d1 : decode yB 1 = .ok (.arraylength, 1) := by decide +kernel
theorem d2 : decode yB 2 = .ok (.aload_n 1, 1) := by decide +kernel
theorem d3 : decode yB 3 = .ok (.arraylength, 1) := by decide +kernel
theorem d4 : decode yB 4 = .ok (.if_icmp (.ne) 30, 3) := by decide +kernel
theorem d7 : decode yB 7 = .ok (.iconst 0, 1) := by decide +kernel
theorem d8 : decode yB 8 = .ok (.istore_n 2, 1) := by decide +kernel
theorem d9 : decode yB 9 = .ok (.iload_n 2, 1) := by decide +kernel
theorem d10 : decode yB 10 = .ok (.aload_n 0, 1) := by decide +kernel
theorem d11 : decode yB 11 = .ok (.arraylength, 1) := by decide +kernel
theorem d12 : decode yB 12 = .ok (.if_icmp (.ge) 20, 3) := by decide +kernel
theorem d15 : decode yB 15 = .ok (.aload_n 0, 1) := by decide +kernel
theorem d16 : decode yB 16 = .ok (.iload_n 2, 1) := by decide +kernel
theorem d17 : decode yB 17 = .ok (.baload, 1) := by decide +kernel
theorem d18 : decode yB 18 = .ok (.aload_n 1, 1) := by decide +kernel
theorem d19 : decode yB 19 = .ok (.iload_n 2, 1) := by decide +kernel
theorem d20 : decode yB 20 = .ok (.baload, 1) := by decide +kernel
theorem d21 : decode yB 21 = .ok (.if_icmp (.eq) 5, 3) := by decide +kernel
theorem d24 : decode yB 24 = .ok (.iconst 0, 1) := by decide +kernel
theorem d25 : decode yB 25 = .ok (.ireturn, 1) := by decide +kernel
theorem d26 : decode yB 26 = .ok (.iinc 2 1, 3) := by decide +kernel
theorem d29 : decode yB 29 = .ok (.goto (-20), 3) := by decide +kernel
theorem d32 : decode yB 32 = .ok (.iconst 1, 1) := by decide +kernel
theorem d33 : decode yB 33 = .ok (.ireturn, 1) := by decide +kernel
theorem d34 : decode yB 34 = .ok (.iconst 0, 1) := by decide +kernel
theorem d35 : decode yB 35 = .ok (.ireturn, 1) := by decide +kernel
def site : List Cond := []
def tab : Cond := tabOf yN yB 3 (some .boolean) site
def P (a : Addr) (A : Cell) (b : Addr) (B : Cell) (args : Array Value) (s : State) : Prop := args = #[.ref a, .ref b] ∧ XT.Arr .byte a A s ∧ Typed .byte A ∧ XT.Arr .byte b B s ∧ Typed .byte B
/-- whether two byte[] are equal, place for place -/
theorem law (l : Launch) (a : Addr) (A : Cell) (b : Addr) (B : Cell) : Law l yN 2 2 0 0 yB 3 (some .boolean) site (P a A b B) (Says01 (EqC A B)) [] 0 0 := by
  refine Law.of_walk (plainFor_of_name (by decide +kernel)) (by decide +kernel) (by decide +kernel) (by decide) (fun _ _ h => by rw [h.1]; rfl) (fun _ U U' hal hh h => ⟨h.1, h.2.1.mv hal hh, h.2.2.1, h.2.2.2.1.mv hal hh, h.2.2.2.2⟩) (fun r U U' V V' h1 hal h2 h => Says01.mv r U U' V V' h1 hal h2 h) ?_
  intro p e s m args below meth c s₁ X0 hexec hbytes hml hret hlk hnm hown hh0 W hP
  obtain ⟨rfl, hA, tA, hB, tB⟩ := hP
  have a31 := hA.2.2.2
  have b31 := hB.2.2.2
  have hA0 := hA.mv X0.warmed.alike hh0
  have hB0 := hB.mv X0.warmed.alike hh0
  have c1 : Steps p.tables e below (s₁.setTop (entryFrame m #[.ref a, .ref b] 3)) (s₁.setTop (mkF m 0 #[.val (.ref a), .val (.ref b), .unset] [])) := entry rfl
  have c2 : Steps p.tables e below (s₁.setTop (entryFrame m #[.ref a, .ref b] 3)) (s₁.setTop (mkF m 4 #[.val (.ref a), .val (.ref b), .unset] [.int (Int32.ofNat B.slots.size), .int (Int32.ofNat A.slots.size)])) := c1.trans (by
    refine XS.aloadN X0.here hexec rfl (hb hbytes d0) rfl rfl ?_
    refine X0.alen hexec hA0 rfl rfl (hb hbytes d1) ?_
    refine XS.aloadN X0.here hexec rfl (hb hbytes d2) rfl rfl ?_
    refine X0.alen hexec hB0 rfl rfl (hb hbytes d3) ?_
    exact Steps.refl _)
  by_cases hs : A.slots.size = B.slots.size
  · have c3 : Steps p.tables e below (s₁.setTop (entryFrame m #[.ref a, .ref b] 3)) (s₁.setTop (mkF m 9 #[.val (.ref a), .val (.ref b), .val (.int 0)] [])) := c2.trans (by
      refine XS.icmpNo X0.here hexec rfl (hb hbytes d4) rfl (ii_ne_f (by rw [hs])) ?_
      refine iconstV X0.here hexec rfl 0 (hb hbytes d7) (by decide) ?_
      refine XS.istoreN X0.here hexec rfl (hb hbytes d8) rfl rfl ?_
      exact Steps.refl _)
    have loop : ∀ (r i : Nat), i + r = A.slots.size → (∀ j, j < i → yv A j = yv B j) → Steps p.tables e below (s₁.setTop (entryFrame m #[.ref a, .ref b] 3)) (s₁.setTop (mkF m 9 #[.val (.ref a), .val (.ref b), .val (.int (Int32.ofNat i))] [])) → ∃ (pc : Nat) (Ls : Array Slot) (v : Int32), (pc = 25 ∨ pc = 33) ∧ ((v = 1 ∧ EqC A B) ∨ (v = 0 ∧ ¬ EqC A B)) ∧ Steps p.tables e below (s₁.setTop (entryFrame m #[.ref a, .ref b] 3)) (s₁.setTop (mkF m pc Ls [.int v])) := by
      intro r
      induction r with
      | zero =>
        intro i hi he cl
        exact ⟨33, _, 1, Or.inr rfl, Or.inl ⟨rfl, hs, fun j hj => he j (by omega)⟩, cl.trans (by
          refine XS.iloadN X0.here hexec rfl (hb hbytes d9) rfl ?_
          refine XS.aloadN X0.here hexec rfl (hb hbytes d10) rfl rfl ?_
          refine X0.alen hexec hA0 rfl rfl (hb hbytes d11) ?_
          refine XS.icmpYes X0.here hexec rfl (pc0 := 12) rfl (hb hbytes d12) rfl (ii_ge_t (nlt32 (by omega) (by omega))) (by decide) rfl ?_
          refine iconstV X0.here hexec rfl 1 (hb hbytes d32) (by decide) ?_
          exact Steps.refl _)⟩
      | succ r ih =>
        intro i hi he cl
        have c4 : Steps p.tables e below (s₁.setTop (entryFrame m #[.ref a, .ref b] 3)) (s₁.setTop (mkF m 21 #[.val (.ref a), .val (.ref b), .val (.int (Int32.ofNat i))] [.int (yv B i), .int (yv A i)])) := cl.trans (by
          refine XS.iloadN X0.here hexec rfl (hb hbytes d9) rfl ?_
          refine XS.aloadN X0.here hexec rfl (hb hbytes d10) rfl rfl ?_
          refine X0.alen hexec hA0 rfl rfl (hb hbytes d11) ?_
          refine XS.icmpNo X0.here hexec rfl (hb hbytes d12) rfl (ii_ge_f (lt32 (by omega) (by omega))) ?_
          refine XS.aloadN X0.here hexec rfl (hb hbytes d15) rfl rfl ?_
          refine XS.iloadN X0.here hexec rfl (hb hbytes d16) rfl ?_
          refine X0.aget hexec hA0 rfl (yv_get hA tA (i := i) (by omega)) rfl rfl (hb hbytes d17) ?_
          refine XS.aloadN X0.here hexec rfl (hb hbytes d18) rfl rfl ?_
          refine XS.iloadN X0.here hexec rfl (hb hbytes d19) rfl ?_
          refine X0.aget hexec hB0 rfl (yv_get hB tB (i := i) (by omega)) rfl rfl (hb hbytes d20) ?_
          exact Steps.refl _)
        by_cases hv : yv A i = yv B i
        · have c5 : Steps p.tables e below (s₁.setTop (entryFrame m #[.ref a, .ref b] 3)) (s₁.setTop (mkF m 9 #[.val (.ref a), .val (.ref b), .val (.int (Int32.ofNat i + 1))] [])) := c4.trans (by
            refine XS.icmpYes X0.here hexec rfl (pc0 := 21) rfl (hb hbytes d21) rfl (ii_eq_t hv) (by decide) rfl ?_
            refine iincV X0.here hexec rfl 1 (hb hbytes d26) (by decide) rfl rfl ?_
            refine XS.goto X0.here hexec rfl (pc0 := 29) rfl (hb hbytes d29) (by decide) rfl ?_
            exact Steps.refl _)
          rw [succ32] at c5
          exact ih (i + 1) (by omega) (fun j hj => by
            by_cases e : j = i
            · rw [e]; exact hv
            · exact he j (by omega)) c5
        · exact ⟨25, _, 0, Or.inl rfl, Or.inr ⟨rfl, fun q => hv (q.2 i (by omega))⟩, c4.trans (by
            refine XS.icmpNo X0.here hexec rfl (hb hbytes d21) rfl (ii_eq_f hv) ?_
            refine iconstV X0.here hexec rfl 0 (hb hbytes d24) (by decide) ?_
            exact Steps.refl _)⟩
    obtain ⟨pc, Ls, v, hpc, hv, cz⟩ := loop A.slots.size 0 (by omega) (fun j hj => absurd hj (Nat.not_lt_zero j)) c3
    have nv : narrow .boolean (.int v) = .int v := by rcases hv with ⟨rfl, -⟩ | ⟨rfl, -⟩ <;> rfl
    rcases hpc with rfl | rfl
    · exact ⟨s₁, some (.int v), _, _, _, X0, rfl, rfl, rfl, (fun h => by cases h), ⟨v, rfl, hh0, hv⟩, fun fs hl => cz.trans (X0.ireturnOut hexec hret nv (Or.inr (Or.inl rfl)) (hb hbytes d25) hl)⟩
    · exact ⟨s₁, some (.int v), _, _, _, X0, rfl, rfl, rfl, (fun h => by cases h), ⟨v, rfl, hh0, hv⟩, fun fs hl => cz.trans (X0.ireturnOut hexec hret nv (Or.inr (Or.inl rfl)) (hb hbytes d33) hl)⟩
  · have c3 : Steps p.tables e below (s₁.setTop (entryFrame m #[.ref a, .ref b] 3)) (s₁.setTop (mkF m 35 #[.val (.ref a), .val (.ref b), .unset] [.int 0])) := c2.trans (by
      refine XS.icmpYes X0.here hexec rfl (pc0 := 4) rfl (hb hbytes d4) rfl (ii_ne_t (ne32 a31 b31 hs)) (by decide) rfl ?_
      refine iconstV X0.here hexec rfl 0 (hb hbytes d34) (by decide) ?_
      exact Steps.refl _)
    exact ⟨s₁, some (.int 0), _, _, _, X0, rfl, rfl, rfl, (fun h => by cases h), ⟨0, rfl, hh0, Or.inr ⟨rfl, fun q => hs q.1⟩⟩, fun fs hl => c3.trans (X0.ireturnOut hexec hret rfl (Or.inr (Or.inl rfl)) (hb hbytes d35) hl)⟩
end LEq
theorem Cod.ty {cd : Int32} {n : Nat} {f : Nat → Int32} {V : Cell} (h : Cod cd n f V) : Typed .byte V := fun i v hv => by
  have hi : i < V.slots.size := (Array.getElem?_eq_some_iff.mp hv).1
  rcases h with ⟨-, k1, k2⟩ | ⟨-, k1, k2, -⟩
  · rw [(k2 i (by omega)).1] at hv; cases hv; exact fits_lo8 _
  · rcases Nat.mod_two_eq_zero_or_one i with e | e
    · obtain ⟨j, rfl⟩ : ∃ j, i = 2 * j := ⟨i / 2, by omega⟩
      rw [(k2 j (by omega)).1] at hv; cases hv; exact fits_lo8 _
    · obtain ⟨j, rfl⟩ : ∃ j, i = 2 * j + 1 := ⟨i / 2, by omega⟩
      rw [(k2 j (by omega)).2] at hv; cases hv; exact fits_lo8 _
/-- the same text -/
def SameT (n : Nat) (f : Nat → Int32) (k : Nat) (g : Nat → Int32) : Prop := n = k ∧ ∀ j, j < n → f j = g j
theorem lo8_inj {x y : Int32} (h0 : ¬ x < 0) (h1 : ¬ 255 < x) (k0 : ¬ y < 0) (k1 : ¬ 255 < y) (h : lo8 x = lo8 y) : x = y := by
  rw [← lo8_mask h0 h1, ← lo8_mask k0 k1, h]
/-- arrays coded by one coder are equal just where the texts are -/
theorem Cod.eqv {cd : Int32} {n k : Nat} {f g : Nat → Int32} {V V' : Cell} (h : Cod cd n f V) (h' : Cod cd k g V') (hf : ∀ j, j < n → ¬ f j < 0 ∧ ¬ 65535 < f j) (hg : ∀ j, j < k → ¬ g j < 0 ∧ ¬ 65535 < g j) : EqC V V' ↔ SameT n f k g := by
  have yvv : ∀ {W : Cell} {i : Nat} {x : Int32}, W.slots[i]? = some (.int x) → yv W i = x := fun q => by unfold yv; rw [q]
  rcases h with ⟨rfl, k1, k2⟩ | ⟨rfl, k1, k2, -⟩
  · rcases h' with ⟨-, m1, m2⟩ | ⟨e, -⟩
    · constructor
      · rintro ⟨e1, e2⟩
        refine ⟨by omega, fun j hj => ?_⟩
        have q := e2 j (by omega)
        rw [yvv (k2 j hj).1, yvv (m2 j (by omega)).1] at q
        exact lo8_inj (hf j hj).1 (k2 j hj).2 (hg j (by omega)).1 (m2 j (by omega)).2 q
      · rintro ⟨rfl, e2⟩
        refine ⟨by omega, fun j hj => ?_⟩
        rw [yvv (k2 j (by omega)).1, yvv (m2 j (by omega)).1, e2 j (by omega)]
    · exact absurd e (by decide)
  · rcases h' with ⟨e, -⟩ | ⟨-, m1, m2, -⟩
    · exact absurd e (by decide)
    · constructor
      · rintro ⟨e1, e2⟩
        refine ⟨by omega, fun j hj => ?_⟩
        have q1 := e2 (2 * j) (by omega)
        have q2 := e2 (2 * j + 1) (by omega)
        rw [yvv (k2 j hj).1, yvv (m2 j (by omega)).1] at q1
        rw [yvv (k2 j hj).2, yvv (m2 j (by omega)).2] at q2
        rw [← pair_says (hf j hj).1 (hf j hj).2, ← pair_says (hg j (by omega)).1 (hg j (by omega)).2, q1, q2]
      · rintro ⟨rfl, e2⟩
        refine ⟨by omega, fun i hi => ?_⟩
        rcases Nat.mod_two_eq_zero_or_one i with e | e
        · obtain ⟨j, rfl⟩ : ∃ j, i = 2 * j := ⟨i / 2, by omega⟩
          rw [yvv (k2 j (by omega)).1, yvv (m2 j (by omega)).1, e2 j (by omega)]
        · obtain ⟨j, rfl⟩ : ∃ j, i = 2 * j + 1 := ⟨i / 2, by omega⟩
          rw [yvv (k2 j (by omega)).2, yvv (m2 j (by omega)).2, e2 j (by omega)]
/-- two codings differ: so do the texts -/
theorem Cod.dif {cd cd' : Int32} {n k : Nat} {f g : Nat → Int32} {V V' : Cell} (h : Cod cd n f V) (h' : Cod cd' k g V') (hne : ¬ cd = cd') : ¬ SameT n f k g := by
  rintro ⟨rfl, e⟩
  rcases h with ⟨rfl, -, k2⟩ | ⟨rfl, -, -, j, hj, hw⟩
  · rcases h' with ⟨rfl, -⟩ | ⟨-, -, -, j, hj, hw⟩
    · exact hne rfl
    · exact (k2 j hj).2 (by rw [e j hj]; exact hw)
  · rcases h' with ⟨-, -, m2⟩ | ⟨rfl, -⟩
    · exact (m2 j hj).2 (by rw [← e j hj]; exact hw)
    · exact hne rfl
/-- an object of exactly C is an instance of C -/
theorem cinst {p : Program} {l : Launch} {e : Env} {R : Room} {s : State} {m : MethodId} {args : Array Value} {below : List Frame} {meth : Method} {c : Code} {T : State} {locs : List Loc} {cells slots : Nat} (X : Stand p l e R s m args below meth c T locs cells slots) (hexec : p.tables.exec = Jvm.exec) {own C : String} {index : Nat} (hown : s.vm.findClass own = some m.cls) (hlink : (Cond.classLink own index C).before args s = true) {a : Addr} (hE : Exact C a T)
    {g : JFrame} (hg : g.method = m) {rest : List Value} (hstack : g.stack = .ref a :: rest) (hdg : decode c.code g.pc = .ok (.instanceof index, 3)) :
    ∃ T', Stand p l e R s m args below meth c T' locs cells slots ∧ T'.heap = T.heap ∧ ∀ target, Steps p.tables e below (T'.setTop { g with pc := g.pc + 3, stack := .int 1 :: rest }) target → Steps p.tables e below (T.setTop g) target := by
  obtain ⟨cB, h1, D, h2, h3, h4⟩ := hE
  have h1' : s.vm.findClass C = some cB := by rw [← X.warmed.alike.findClass]; exact h1
  obtain ⟨vm', X', st⟩ := X.instanceofYes hexec hown hlink h2 h4 h1' (by rw [h3]; exact Jvm.Free.SB.assignable_self _ _) hg hstack hdg
  exact ⟨_, X', rfl, st⟩
theorem cself {p : Program} {l : Launch} {e : Env} {R : Room} {s : State} {m : MethodId} {args : Array Value} {below : List Frame} {meth : Method} {c : Code} {T : State} {locs : List Loc} {cells slots : Nat} (X : Stand p l e R s m args below meth c T locs cells slots) (hexec : p.tables.exec = Jvm.exec) {own C : String} {index : Nat} (hown : s.vm.findClass own = some m.cls) (hlink : (Cond.classLink own index C).before args s = true) {a : Addr} (hE : Exact C a T)
    {g : JFrame} (hg : g.method = m) {rest : List Value} (hstack : g.stack = .ref a :: rest) (hdg : decode c.code g.pc = .ok (.checkcast index, 3)) :
    ∃ T', Stand p l e R s m args below meth c T' locs cells slots ∧ T'.heap = T.heap ∧ ∀ target, Steps p.tables e below (T'.setTop { g with pc := g.pc + 3, stack := .ref a :: rest }) target → Steps p.tables e below (T.setTop g) target := by
  obtain ⟨cB, h1, D, h2, h3, h4⟩ := hE
  have h1' : s.vm.findClass C = some cB := by rw [← X.warmed.alike.findClass]; exact h1
  obtain ⟨vm', X', st⟩ := X.checkcastYes hexec hown hlink h2 h4 h1' (by rw [h3]; exact Jvm.Free.SB.assignable_self _ _) hg hstack hdg
  exact ⟨_, X', rfl, fun t h => st t (by rw [← hstack] at h; exact h)⟩
namespace SEq
def yN : MethodName := ⟨"java/lang/String", "equals", "(Ljava/lang/Object;)Z"⟩
abbrev yB : ByteArray := jdk_42_method_66_code
theorem d0 : decode yB 0 = .ok (.aload_n 0, 1) := by decide +kernel
theorem d1 : decode yB 1 = .ok (.aload_n 1, 1) := by decide +kernel
theorem d2 : decode yB 2 = .ok (.if_acmp (.ne) 5, 3) := by decide +kernel
theorem d5 : decode yB 5 = .ok (.iconst 1, 1) := by decide +kernel
theorem d6 : decode yB 6 = .ok (.ireturn, 1) := by decide +kernel
theorem d7 : decode yB 7 = .ok (.aload_n 1, 1) := by decide +kernel
theorem d8 : decode yB 8 = .ok (.instanceof 10, 3) := by decide +kernel
theorem d11 : decode yB 11 = .ok (.ifCond (.eq) 43, 3) := by decide +kernel
theorem d14 : decode yB 14 = .ok (.aload_n 1, 1) := by decide +kernel
theorem d15 : decode yB 15 = .ok (.checkcast 10, 3) := by decide +kernel
theorem d18 : decode yB 18 = .ok (.astore_n 2, 1) := by decide +kernel
theorem d19 : decode yB 19 = .ok (.getstatic 38, 3) := by decide +kernel
theorem d22 : decode yB 22 = .ok (.ifCond (.eq) 14, 3) := by decide +kernel
theorem d25 : decode yB 25 = .ok (.aload_n 0, 1) := by decide +kernel
theorem d26 : decode yB 26 = .ok (.getfield 15, 3) := by decide +kernel
theorem d29 : decode yB 29 = .ok (.aload_n 2, 1) := by decide +kernel
theorem d30 : decode yB 30 = .ok (.getfield 15, 3) := by decide +kernel
theorem d33 : decode yB 33 = .ok (.if_icmp (.ne) 21, 3) := by decide +kernel
theorem d36 : decode yB 36 = .ok (.aload_n 0, 1) := by decide +kernel
theorem d37 : decode yB 37 = .ok (.getfield 9, 3) := by decide +kernel
theorem d40 : decode yB 40 = .ok (.aload_n 2, 1) := by decide +kernel
theorem d41 : decode yB 41 = .ok (.getfield 9, 3) := by decide +kernel
theorem d44 : decode yB 44 = .ok (.invokestatic 541, 3) := by decide +kernel
theorem d47 : decode yB 47 = .ok (.ifCond (.eq) 7, 3) := by decide +kernel
theorem d50 : decode yB 50 = .ok (.iconst 1, 1) := by decide +kernel
theorem d51 : decode yB 51 = .ok (.goto 4, 3) := by decide +kernel
theorem d54 : decode yB 54 = .ok (.iconst 0, 1) := by decide +kernel
theorem d55 : decode yB 55 = .ok (.ireturn, 1) := by decide +kernel
def site : List Cond := [.classLink "java/lang/String" 10 "java/lang/String", .fieldLink "java/lang/String" 38 "java/lang/String" "COMPACT_STRINGS" "Z", .fieldLink "java/lang/String" 15 "java/lang/String" "coder" "B", .fieldLink "java/lang/String" 9 "java/lang/String" "value" "[B", LEq.tab] ++ staticW "java/lang/String" 541 LEq.yN
def tab : Cond := tabOf yN yB 3 (some .boolean) site
def P (x t : Addr) (V : Cell) (cd : Int32) (n : Nat) (f : Nat → Int32) (y t' : Addr) (V' : Cell) (cd' : Int32) (k : Nat) (g : Nat → Int32) (z : Int32) (args : Array Value) (s : State) : Prop := args = #[.ref x, .ref y] ∧ Txt x t V cd n f s ∧ Txt y t' V' cd' k g s ∧ StaticIs s "java/lang/String" "COMPACT_STRINGS" "Z" (.int z) ∧ ¬ z = 0
/-- equals(Object) of two Strings: whether the texts are the same -/
theorem law (l : Launch) (x t : Addr) (V : Cell) (cd : Int32) (n : Nat) (f : Nat → Int32) (y t' : Addr) (V' : Cell) (cd' : Int32) (k : Nat) (g : Nat → Int32) (z : Int32) : Law l yN 2 1 1 14 yB 3 (some .boolean) site (P x t V cd n f y t' V' cd' k g z) (Says01 (SameT n f k g)) [] 0 0 := by
  refine Law.of_walk (plainFor_of_name (by decide +kernel)) (by decide +kernel) (by decide +kernel) (by decide) (fun _ _ h => by rw [h.1]; rfl) (fun _ U U' hal hh h => ⟨h.1, h.2.1.mv hal hh, h.2.2.1.mv hal hh, h.2.2.2.1.there hal hh, h.2.2.2.2⟩) (fun r U U' V V' h1 hal h2 h => Says01.mv r U U' V V' h1 hal h2 h) ?_
  intro p e s m args below meth c s₁ X0 hexec hbytes hml hret hlk hnm hown hh0 W hP
  obtain ⟨rfl, hx, hy, s1, hz⟩ := hP
  have c1 : Steps p.tables e below (s₁.setTop (entryFrame m #[.ref x, .ref y] 3)) (s₁.setTop (mkF m 2 #[.val (.ref x), .val (.ref y), .unset] [.ref y, .ref x])) := Steps.trans (entry rfl) (by
    show Steps p.tables e below (s₁.setTop (mkF m 0 #[.val (.ref x), .val (.ref y), .unset] [])) _
    refine XS.aloadN X0.here hexec rfl (hb hbytes d0) rfl rfl ?_
    refine XS.aloadN X0.here hexec rfl (hb hbytes d1) rfl rfl ?_
    exact Steps.refl _)
  by_cases hxy : x = y
  · have c2 : Steps p.tables e below (s₁.setTop (entryFrame m #[.ref x, .ref y] 3)) (s₁.setTop (mkF m 6 #[.val (.ref x), .val (.ref y), .unset] [.int 1])) := c1.trans (by
      refine acmpNo X0.here hexec rfl (hb hbytes d2) rfl rfl rfl (by simp [acmp, hxy]) ?_
      refine iconstV X0.here hexec rfl 1 (hb hbytes d5) (by decide) ?_
      exact Steps.refl _)
    subst hxy
    have ec : cd = cd' := by
      obtain ⟨D, fd, a1, a2, a3⟩ := hx.2.2.1
      obtain ⟨D', fd', b1, b2, b3⟩ := hy.2.2.1
      cases a1.symm.trans b1
      obtain ⟨q1, q2, q3, q4⟩ := a2.1
      obtain ⟨r1, r2, r3, r4⟩ := b2.1
      cases q4.symm.trans r4
      cases a3.symm.trans b3; rfl
    have et : t = t' := by
      obtain ⟨D, fd, a1, a2, a3⟩ := hx.2.1
      obtain ⟨D', fd', b1, b2, b3⟩ := hy.2.1
      cases a1.symm.trans b1
      obtain ⟨q1, q2, q3, q4⟩ := a2.1
      obtain ⟨r1, r2, r3, r4⟩ := b2.1
      cases q4.symm.trans r4
      cases a3.symm.trans b3; rfl
    subst ec et
    have ev : V = V' := by cases hx.2.2.2.1.1.symm.trans hy.2.2.2.1.1; rfl
    subst ev
    have hs : SameT n f k g := (Cod.eqv hx.2.2.2.2.1 hy.2.2.2.2.1 hx.2.2.2.2.2 hy.2.2.2.2.2).mp ⟨rfl, fun _ _ => rfl⟩
    exact ⟨s₁, some (.int 1), _, _, _, X0, rfl, rfl, rfl, (fun h => by cases h), ⟨1, rfl, hh0, Or.inl ⟨rfl, hs⟩⟩, fun fs hl => c2.trans (X0.ireturnOut hexec hret rfl (Or.inr (Or.inl rfl)) (hb hbytes d6) hl)⟩
  · have c2 : Steps p.tables e below (s₁.setTop (entryFrame m #[.ref x, .ref y] 3)) (s₁.setTop (mkF m 8 #[.val (.ref x), .val (.ref y), .unset] [.ref y])) := c1.trans (by
      refine acmpYes X0.here hexec rfl (pc0 := 2) rfl (hb hbytes d2) rfl rfl rfl (by simp [acmp, hxy]) (by decide) rfl ?_
      refine XS.aloadN X0.here hexec rfl (hb hbytes d7) rfl rfl ?_
      exact Steps.refl _)
    obtain ⟨T3, X3, q3, st3⟩ := cinst X0 hexec hown (wk W (.classLink "java/lang/String" 10 "java/lang/String")) (hy.mv X0.warmed.alike hh0).1 (g := (mkF m 8 #[.val (.ref x), .val (.ref y), .unset] [.ref y])) rfl (rest := []) rfl (hb hbytes d8)
    have hh3 := q3.trans hh0
    have c4 : Steps p.tables e below (s₁.setTop (entryFrame m #[.ref x, .ref y] 3)) (T3.setTop (mkF m 15 #[.val (.ref x), .val (.ref y), .unset] [.ref y])) := (c2.trans (st3 _ (Steps.refl _))).trans (by
      refine XS.ifNo X3.here hexec rfl (hb hbytes d11) rfl (i0_eq_f (by decide)) ?_
      refine XS.aloadN X3.here hexec rfl (hb hbytes d14) rfl rfl ?_
      exact Steps.refl _)
    obtain ⟨T5, X5, q5, st5⟩ := cself X3 hexec hown (wk W (.classLink "java/lang/String" 10 "java/lang/String")) (hy.mv X3.warmed.alike hh3).1 (g := (mkF m 15 #[.val (.ref x), .val (.ref y), .unset] [.ref y])) rfl (rest := []) rfl (hb hbytes d15)
    have hh5 := q5.trans hh3
    have c6 : Steps p.tables e below (s₁.setTop (entryFrame m #[.ref x, .ref y] 3)) (T5.setTop (mkF m 19 #[.val (.ref x), .val (.ref y), .val (.ref y)] [])) := (c4.trans (st5 _ (Steps.refl _))).trans (by
      refine XS.astoreN X5.here hexec rfl (hb hbytes d18) rfl rfl rfl ?_
      exact Steps.refl _)
    obtain ⟨T7, X7, q7, st7⟩ := X5.sget hexec hown (wk W (.fieldLink "java/lang/String" 38 "java/lang/String" "COMPACT_STRINGS" "Z")) s1 (fun _ _ h => by rw [hh5]; exact h) (g := (mkF m 19 #[.val (.ref x), .val (.ref y), .val (.ref y)] [])) rfl (hb hbytes d19)
    have hh7 := q7.trans hh5
    have c8 : Steps p.tables e below (s₁.setTop (entryFrame m #[.ref x, .ref y] 3)) (T7.setTop (mkF m 26 #[.val (.ref x), .val (.ref y), .val (.ref y)] [.ref x])) := (c6.trans (st7 _ (Steps.refl _))).trans (by
      refine XS.ifNo X7.here hexec rfl (hb hbytes d22) rfl (i0_eq_f hz) ?_
      refine XS.aloadN X7.here hexec rfl (hb hbytes d25) rfl rfl ?_
      exact Steps.refl _)
    obtain ⟨T9, X9, q9, st9⟩ := X7.hget hexec hown (wk W (.fieldLink "java/lang/String" 15 "java/lang/String" "coder" "B")) (hx.mv X7.warmed.alike hh7).2.2.1 (g := (mkF m 26 #[.val (.ref x), .val (.ref y), .val (.ref y)] [.ref x])) rfl (rest := []) rfl (hb hbytes d26)
    have hh9 := q9.trans hh7
    have c10 : Steps p.tables e below (s₁.setTop (entryFrame m #[.ref x, .ref y] 3)) (T9.setTop (mkF m 30 #[.val (.ref x), .val (.ref y), .val (.ref y)] [.ref y, .int cd])) := (c8.trans (st9 _ (Steps.refl _))).trans (by
      refine XS.aloadN X9.here hexec rfl (hb hbytes d29) rfl rfl ?_
      exact Steps.refl _)
    obtain ⟨T11, X11, q11, st11⟩ := X9.hget hexec hown (wk W (.fieldLink "java/lang/String" 15 "java/lang/String" "coder" "B")) (hy.mv X9.warmed.alike hh9).2.2.1 (g := (mkF m 30 #[.val (.ref x), .val (.ref y), .val (.ref y)] [.ref y, .int cd])) rfl (rest := [.int cd]) rfl (hb hbytes d30)
    have hh11 := q11.trans hh9
    have c12 : Steps p.tables e below (s₁.setTop (entryFrame m #[.ref x, .ref y] 3)) (T11.setTop (mkF m 33 #[.val (.ref x), .val (.ref y), .val (.ref y)] [.int cd', .int cd])) := c10.trans (st11 _ (Steps.refl _))
    by_cases hcd : cd = cd'
    · subst hcd
      have c13 : Steps p.tables e below (s₁.setTop (entryFrame m #[.ref x, .ref y] 3)) (T11.setTop (mkF m 37 #[.val (.ref x), .val (.ref y), .val (.ref y)] [.ref x])) := c12.trans (by
        refine XS.icmpNo X11.here hexec rfl (hb hbytes d33) rfl (ii_ne_f rfl) ?_
        refine XS.aloadN X11.here hexec rfl (hb hbytes d36) rfl rfl ?_
        exact Steps.refl _)
      obtain ⟨T14, X14, q14, st14⟩ := X11.hget hexec hown (wk W (.fieldLink "java/lang/String" 9 "java/lang/String" "value" "[B")) (hx.mv X11.warmed.alike hh11).2.1 (g := (mkF m 37 #[.val (.ref x), .val (.ref y), .val (.ref y)] [.ref x])) rfl (rest := []) rfl (hb hbytes d37)
      have hh14 := q14.trans hh11
      have c15 : Steps p.tables e below (s₁.setTop (entryFrame m #[.ref x, .ref y] 3)) (T14.setTop (mkF m 41 #[.val (.ref x), .val (.ref y), .val (.ref y)] [.ref y, .ref t])) := (c13.trans (st14 _ (Steps.refl _))).trans (by
        refine XS.aloadN X14.here hexec rfl (hb hbytes d40) rfl rfl ?_
        exact Steps.refl _)
      obtain ⟨T16, X16, q16, st16⟩ := X14.hget hexec hown (wk W (.fieldLink "java/lang/String" 9 "java/lang/String" "value" "[B")) (hy.mv X14.warmed.alike hh14).2.1 (g := (mkF m 41 #[.val (.ref x), .val (.ref y), .val (.ref y)] [.ref y, .ref t])) rfl (rest := [.ref t]) rfl (hb hbytes d41)
      have hh16 := q16.trans hh14
      have c17 : Steps p.tables e below (s₁.setTop (entryFrame m #[.ref x, .ref y] 3)) (T16.setTop (mkF m 44 #[.val (.ref x), .val (.ref y), .val (.ref y)] [.ref t', .ref t])) := c15.trans (st16 _ (Steps.refl _))
      obtain ⟨v18, T18, X18, E18, g18⟩ := X16.callS hexec (LEq.law l t V t' V') hown (wks W (staticW "java/lang/String" 541 LEq.yN)) (wk W LEq.tab) (W := 0) (Nat.le_of_ble_eq_true rfl) (Nat.le_of_ble_eq_true rfl) (Nat.le_refl _) (Nat.le_refl _) (g := (mkF m 44 #[.val (.ref x), .val (.ref y), .val (.ref y)] [.ref t', .ref t])) rfl (by rw [hml]; rfl) c17 (argsL := [.ref t, .ref t']) (rest := []) rfl rfl (by show 2 * 0 + 0 ≤ _; decide) (hb hbytes d44) (⟨rfl, hx.2.2.2.1.mv X16.warmed.alike hh16, hx.2.2.2.2.1.ty, hy.2.2.2.1.mv X16.warmed.alike hh16, hy.2.2.2.2.1.ty⟩)
      obtain ⟨v, rfl, q18, hv⟩ := E18
      have iff := Cod.eqv hx.2.2.2.2.1 hy.2.2.2.2.1 hx.2.2.2.2.2 hy.2.2.2.2.2
      rcases hv with ⟨rfl, he⟩ | ⟨rfl, he⟩
      · have c19 : Steps p.tables e below (s₁.setTop (entryFrame m #[.ref x, .ref y] 3)) (T18.setTop (mkF m 55 #[.val (.ref x), .val (.ref y), .val (.ref y)] [.int 1])) := Steps.trans g18 (by
          refine XS.ifNo X18.here hexec rfl (hb hbytes d47) rfl (i0_eq_f (by decide)) ?_
          refine iconstV X18.here hexec rfl 1 (hb hbytes d50) (by decide) ?_
          refine XS.goto X18.here hexec rfl (pc0 := 51) rfl (hb hbytes d51) (by decide) rfl ?_
          exact Steps.refl _)
        exact ⟨T18, some (.int 1), _, _, _, X18, rfl, rfl, rfl, (fun h => by cases h), ⟨1, rfl, q18.trans hh16, Or.inl ⟨rfl, iff.mp he⟩⟩, fun fs hl => c19.trans (X18.ireturnOut hexec hret rfl (Or.inr (Or.inl rfl)) (hb hbytes d55) hl)⟩
      · have c19 : Steps p.tables e below (s₁.setTop (entryFrame m #[.ref x, .ref y] 3)) (T18.setTop (mkF m 55 #[.val (.ref x), .val (.ref y), .val (.ref y)] [.int 0])) := Steps.trans g18 (by
          refine XS.ifYes X18.here hexec rfl (pc0 := 47) rfl (hb hbytes d47) rfl (i0_eq_t rfl) (by decide) rfl ?_
          refine iconstV X18.here hexec rfl 0 (hb hbytes d54) (by decide) ?_
          exact Steps.refl _)
        exact ⟨T18, some (.int 0), _, _, _, X18, rfl, rfl, rfl, (fun h => by cases h), ⟨0, rfl, q18.trans hh16, Or.inr ⟨rfl, fun q => he (iff.mpr q)⟩⟩, fun fs hl => c19.trans (X18.ireturnOut hexec hret rfl (Or.inr (Or.inl rfl)) (hb hbytes d55) hl)⟩
    · have c13 : Steps p.tables e below (s₁.setTop (entryFrame m #[.ref x, .ref y] 3)) (T11.setTop (mkF m 55 #[.val (.ref x), .val (.ref y), .val (.ref y)] [.int 0])) := c12.trans (by
        refine XS.icmpYes X11.here hexec rfl (pc0 := 33) rfl (hb hbytes d33) rfl (ii_ne_t hcd) (by decide) rfl ?_
        refine iconstV X11.here hexec rfl 0 (hb hbytes d54) (by decide) ?_
        exact Steps.refl _)
      exact ⟨T11, some (.int 0), _, _, _, X11, rfl, rfl, rfl, (fun h => by cases h), ⟨0, rfl, hh11, Or.inr ⟨rfl, Cod.dif hx.2.2.2.2.1 hy.2.2.2.2.1 hcd⟩⟩, fun fs hl => c13.trans (X11.ireturnOut hexec hret rfl (Or.inr (Or.inl rfl)) (hb hbytes d55) hl)⟩
theorem pays {l : Launch} {R : Room} {p : Program} {e : Env} {below : List Frame} {s : State} {sargs : Array Value} {len W : Nat} (x t : Addr) (V : Cell) (cd : Int32) (n : Nat) (f : Nat → Int32) (y t' : Addr) (V' : Cell) (cd' : Int32) (k : Nat) (g : Nat → Int32) (z : Int32) (htab : tab.before sargs s = true) (hfr : 2 ≤ R.frames) (hlo : W + 28 ≤ R.locals) :
    Back l R p e below s sargs yN len W (fun A₁ a₁ => A₁.cells + 0 ≤ R.cells ∧ A₁.slots + 0 ≤ R.slots ∧ P x t V cd n f y t' V' cd' k g z a₁ A₁.U) (fun A₁ _ v₁ B₁ => Says01 (SameT n f k g) v₁ A₁.U B₁.U ∧ B₁.locs = A₁.locs ++ [] ∧ B₁.cells = A₁.cells + 0 ∧ B₁.slots = A₁.slots + 0) :=
  (law l x t V cd n f y t' V' cd' k g z).pays htab hfr (by omega)
end SEq
end StrChars
namespace StrChars.Road
open Jvm Sem ClassFile Op Lib Jvm.Stand Jvm.Free Jvm.Free.XT
open Jvm.Lib.Cold (StaticIs)
/-- the words of String.equals(Object) -/
abbrev wordsEq : List Jvm.Cond := [.code SEq.yN SEq.yB 3 (some .boolean), .initialized ST, .classLink ST 10 ST, .fieldLink ST 38 ST "COMPACT_STRINGS" "Z", .fieldLink ST 15 ST "coder" "B", .fieldLink ST 9 ST "value" "[B", .methodLink ST 541 LEq.yN, .static LEq.yN, .code LEq.yN LEq.yB 3 (some .boolean), .initialized "java/lang/StringLatin1"]
theorem tabEq_of {a : Array Value} {s : State} (h : ∀ w ∈ wordsEq, w.before a s = true) : SEq.tab.before a s = true := by
  have hl : LEq.tab.before a s = true := unparts (wk h (.code LEq.yN LEq.yB 3 (some .boolean))) (wks h (.initialized LEq.yN.cls :: LEq.site))
  have q := consq hl h
  exact unparts (wk q (.code SEq.yN SEq.yB 3 (some .boolean))) (wks q (.initialized SEq.yN.cls :: SEq.site))
theorem movedEq {Z s : State} {a0 args : Array Value} (hZ : Z.Warmed39 s.vm) (hw : ∀ d ∈ wordsEq, d.before a0 Z = true) : ∀ d ∈ wordsEq, d.before args s = true := fun d hd => by
  have t : ∀ d ∈ wordsEq, (d.onTables && d.keepsFace) = true := by decide +kernel
  exact RoadKit.mv hZ (hw d hd) (t d hd)
/-- the road's facts of a String, as the laws ask it -/
theorem txt_of {Z U : State} {a0 : Array Value} {kI : Nat} (wi : (Jvm.Cond.instantiable ST kI).before a0 Z = true) (al : Z.vm.Alike U.vm) {x t : Addr} {kb : ClassId} {cs : List Int32} {cd N2 : Int32} {vs : List Value} (E : RoadKit.Exa Z U.heap x ST) (V : RoadKit.Fld Z U.heap x ST "value" "[B" (.ref t)) (C : RoadKit.Fld Z U.heap x ST "coder" "B" (.int cd)) (K : RoadKit.Arv Z U.heap t kb .byte N2 vs (.int 0)) (hc : CodA cs cd N2 vs) (hb : ∀ c ∈ cs, ¬ c < 0 ∧ ¬ (65535 : Int32) < c) (l2 : cs.length ≤ 4000) :
    ∃ A, Txt x t A cd cs.length (fun j => cs.getD j 0) U := by
  obtain ⟨A, K1, K2, K3, K4, K5, K6⟩ := K
  have hcod := hc.cod (by omega) K3 K5
  obtain ⟨D, fV, fC, hB, F1, F2, g1, g2, -, -⟩ := strObj wi al E V C
  exact ⟨A, ⟨_, hB.2.2.1, D, hB.1, rfl, by cases q : D.vm <;> first | rfl | exact absurd q (hB.2.1.2 _)⟩, Has.of hB F1 g1, Has.of hB F2 g2, ⟨K1.1, State.isArrayOf_alike al K1.2.1, K1.2.2, by rcases hcod with ⟨-, q, -⟩ | ⟨-, q, -⟩ <;> omega⟩, hcod, fun j hj => by
    have e : cs.getD j 0 = cs[j] := by simp [List.getD_eq_getElem?_getD, hj]
    show ¬ cs.getD j 0 < 0 ∧ ¬ 65535 < cs.getD j 0
    rw [e]; exact hb _ (List.getElem_mem _)⟩
theorem same_list (cs ds : List Int32) : SameT cs.length (fun j => cs.getD j 0) ds.length (fun j => ds.getD j 0) ↔ cs = ds := by
  constructor
  · rintro ⟨e, q⟩
    refine List.ext_getElem e fun j h1 h2 => ?_
    have := q j h1
    simpa [List.getD_eq_getElem?_getD, h1, h2] using this
  · rintro rfl
    exact ⟨rfl, fun _ _ => rfl⟩
/-- **equals(Object) OF TWO SUCH STRINGS**: 1 just where the chars are the same -/
theorem eqW {p : Program} {l : Launch} {e : Env} {R : Room} {s : State} {args : Array Value} {below : List Frame} {len W : Nat} {Z : State} {a0 : Array Value} {h : Heap} (hZ : Z.Warmed39 s.vm) (hw : ∀ d ∈ wordsEq, d.before a0 Z = true) {kI : Nat} (wi : (Jvm.Cond.instantiable ST kI).before a0 Z = true)
    {x t : Addr} {kb : ClassId} {cs : List Int32} {cd N2 : Int32} {vs : List Value} (E : RoadKit.Exa Z h x ST) (V : RoadKit.Fld Z h x ST "value" "[B" (.ref t)) (C : RoadKit.Fld Z h x ST "coder" "B" (.int cd)) (K : RoadKit.Arv Z h t kb .byte N2 vs (.int 0)) (hc : CodA cs cd N2 vs) (hb : ∀ c ∈ cs, ¬ c < 0 ∧ ¬ (65535 : Int32) < c) (l2 : cs.length ≤ 4000)
    {y t' : Addr} {kb' : ClassId} {ds : List Int32} {cd' N2' : Int32} {vs' : List Value} (E' : RoadKit.Exa Z h y ST) (V' : RoadKit.Fld Z h y ST "value" "[B" (.ref t')) (C' : RoadKit.Fld Z h y ST "coder" "B" (.int cd')) (K' : RoadKit.Arv Z h t' kb' .byte N2' vs' (.int 0)) (hc' : CodA ds cd' N2' vs') (hb' : ∀ c ∈ ds, ¬ c < 0 ∧ ¬ (65535 : Int32) < c) (l2' : ds.length ≤ 4000)
    {z : Int32} (S : RoadKit.Sta Z h ST "COMPACT_STRINGS" "Z" (.int z)) (hz : ¬ z = 0) (hfr : 2 ≤ R.frames) (hlo : W + 28 ≤ R.locals) :
    Back l R p e below s args (⟨"java/lang/String", "equals", "(Ljava/lang/Object;)Z"⟩ : MethodName) len W (fun P a => a = #[.ref x, .ref y] ∧ P.U.heap = h ∧ P.cells + 0 ≤ R.cells ∧ P.slots + 0 ≤ R.slots)
      (fun P _ v B => ∃ L, (((v = some (.int 1) ∧ cs = ds) ∨ (v = some (.int 0) ∧ ¬ cs = ds)) ∧ L = [] ∧ B.U.heap = h) ∧ B.locs = P.locs ++ L ∧ B.cells = P.cells + 0 ∧ B.slots = P.slots + 0) := by
  intro m meth c P g ig mk a X hg hsize hdg hW hn hp'
  obtain ⟨rfl, rfl, r1, r2⟩ := hp'
  have al : Z.vm.Alike P.U.vm := hZ.alike.trans X.warmed.alike
  obtain ⟨A, hx⟩ := txt_of wi al E V C K hc hb l2
  obtain ⟨A', hy⟩ := txt_of wi al E' V' C' K' hc' hb' l2'
  obtain ⟨v, B, X', ⟨⟨w, hv, hh, hq⟩, hl, hk, hs⟩, st⟩ := SEq.pays x t A cd cs.length (fun j => cs.getD j 0) y t' A' cd' ds.length (fun j => ds.getD j 0) z (tabEq_of (movedEq hZ hw)) hfr hlo m meth c P g ig mk _ X hg hsize hdg hW hn ⟨r1, r2, rfl, hx, hy, sta_is al S, hz⟩
  refine ⟨v, B, X', ⟨[], ⟨?_, rfl, hh⟩, hl, hk, hs⟩, st⟩
  rcases hq with ⟨rfl, q⟩ | ⟨rfl, q⟩
  · exact Or.inl ⟨hv, (same_list cs ds).mp q⟩
  · exact Or.inr ⟨hv, fun e => q ((same_list cs ds).mpr e)⟩
end StrChars.Road
namespace StrChars
open Jvm Sem ClassFile Op Lib Jvm.Stand Jvm.Free.XT Jvm.Free.ALB Jvm.Free.JM Jvm.Free
open Jvm.Lib.Cold (StaticIs)
namespace ChN
def yN : MethodName := ⟨"java/lang/String", "charAt", "(I)C"⟩
abbrev yB : ByteArray := jdk_42_method_56_code
theorem d0 : decode yB 0 = .ok (.aload_n 0, 1) := by decide +kernel
theorem d1 : decode yB 1 = .ok (.invokevirtual 492, 3) := by decide +kernel
theorem d4 : decode yB 4 = .ok (.ifCond (.eq) 12, 3) := by decide +kernel
theorem d7 : decode yB 7 = .ok (.aload_n 0, 1) := by decide +kernel
theorem d8 : decode yB 8 = .ok (.getfield 9, 3) := by decide +kernel
theorem d11 : decode yB 11 = .ok (.iload_n 1, 1) := by decide +kernel
theorem d12 : decode yB 12 = .ok (.invokestatic 495, 3) := by decide +kernel
theorem d15 : decode yB 15 = .ok (.ireturn, 1) := by decide +kernel
def site : List Cond := [.fieldLink "java/lang/String" 9 "java/lang/String" "value" "[B", IsL.tab, LChA.tab] ++ virtW "java/lang/String" 492 "java/lang/String" IsL.yN IsL.yN ++ staticW "java/lang/String" 495 LChA.yN
def tab : Cond := tabOf yN yB 2 (some .char) site
def P (x t : Addr) (V : Cell) (n : Nat) (f : Nat → Int32) (z : Int32) (fm : Value) (i : Nat) (args : Array Value) (s : State) : Prop := args = #[.ref x, .int (Int32.ofNat i)] ∧ Txt x t V 0 n f s ∧ i < n ∧ StaticIs s "java/lang/String" "COMPACT_STRINGS" "Z" (.int z) ∧ ¬ z = 0 ∧ StaticIs s "jdk/internal/util/Preconditions" "SIOOBE_FORMATTER" "Ljava/util/function/BiFunction;" fm ∧ fm.isRef = true
def E (f : Nat → Int32) (i : Nat) (r : Option Value) (s u : State) : Prop := XT.PureE (some (.int (f i))) r s u
/-- charAt(i) of a Latin-1 String of n chars, i < n: f i -/
theorem law (l : Launch) (x t : Addr) (V : Cell) (n : Nat) (f : Nat → Int32) (z : Int32) (fm : Value) (i : Nat) : Law l yN 2 1 3 40 yB 2 (some .char) site (P x t V n f z fm i) (E f i) [] 0 0 := by
  refine Law.of_walk (plainFor_of_name (by decide +kernel)) (by decide +kernel) (by decide +kernel) (by decide) (fun _ _ h => by rw [h.1]; rfl) (fun _ U U' hal hh h => ⟨h.1, h.2.1.mv hal hh, h.2.2.1, h.2.2.2.1.there hal hh, h.2.2.2.2.1, h.2.2.2.2.2.1.there hal hh, h.2.2.2.2.2.2⟩) (fun r U U' V V' h1 hal h2 h => XT.PureE.mv r U U' V V' h1 hal h2 h) ?_
  intro p e s m args below meth c s₁ X0 hexec hbytes hml hret hlk hnm hown hh0 W hP
  obtain ⟨rfl, hx, hi, s1, hz, s3, rf⟩ := hP
  have v31 := hx.2.2.2.1.2.2.2
  have hr := hx.2.2.2.2.2 i hi
  have hx0 := hx.mv X0.warmed.alike hh0
  have c1 : Steps p.tables e below (s₁.setTop (entryFrame m #[.ref x, .int (Int32.ofNat i)] 2)) (s₁.setTop (mkF m 1 #[.val (.ref x), .val (.int (Int32.ofNat i))] [.ref x])) := Steps.trans (entry rfl) (by
    show Steps p.tables e below (s₁.setTop (mkF m 0 #[.val (.ref x), .val (.int (Int32.ofNat i))] [])) _
    refine XS.aloadN X0.here hexec rfl (hb hbytes d0) rfl rfl ?_
    exact Steps.refl _)
  obtain ⟨v2, T2, X2, E2, g2⟩ := X0.callV hexec (IsL.law l x 0 z) hown (wks W (virtW "java/lang/String" 492 "java/lang/String" IsL.yN IsL.yN)) rfl (by decide) (wk W IsL.tab) (W := 0) (Nat.le_of_ble_eq_true rfl) (Nat.le_of_ble_eq_true rfl) (Nat.le_refl _) (Nat.le_refl _) (hx0.1.fc X0.warmed.alike) hx0.1.is (g := (mkF m 1 #[.val (.ref x), .val (.int (Int32.ofNat i))] [.ref x])) rfl (by rw [hml]; rfl) c1 (argsL := []) (rest := []) rfl rfl (by show 2 * 0 + 0 ≤ _; decide) (hb hbytes d1) (⟨rfl, hx0.2.2.1, hx.2.2.2.2.1.cd, s1.there X0.warmed.alike hh0, hz⟩)
  obtain ⟨rfl, q2⟩ := E2
  have hh2 := q2.trans hh0
  have hx2 := hx.mv X2.warmed.alike hh2
  obtain ⟨-, k1, k2⟩ | ⟨k0, -⟩ := hx.2.2.2.2.1
  · have c3 : Steps p.tables e below (s₁.setTop (entryFrame m #[.ref x, .int (Int32.ofNat i)] 2)) (T2.setTop (mkF m 8 #[.val (.ref x), .val (.int (Int32.ofNat i))] [.ref x])) := Steps.trans g2 (by
      refine XS.ifNo X2.here hexec rfl (hb hbytes d4) rfl (i0_eq_f (by decide)) ?_
      refine XS.aloadN X2.here hexec rfl (hb hbytes d7) rfl rfl ?_
      exact Steps.refl _)
    obtain ⟨T4, X4, q4, st4⟩ := X2.hget hexec hown (wk W (.fieldLink "java/lang/String" 9 "java/lang/String" "value" "[B")) hx2.2.1 (g := (mkF m 8 #[.val (.ref x), .val (.int (Int32.ofNat i))] [.ref x])) rfl (rest := []) rfl (hb hbytes d8)
    have hh4 := q4.trans hh2
    have c5 : Steps p.tables e below (s₁.setTop (entryFrame m #[.ref x, .int (Int32.ofNat i)] 2)) (T4.setTop (mkF m 12 #[.val (.ref x), .val (.int (Int32.ofNat i))] [.int (Int32.ofNat i), .ref t])) := (c3.trans (st4 _ (Steps.refl _))).trans (by
      refine XS.iloadN X4.here hexec rfl (hb hbytes d11) rfl ?_
      exact Steps.refl _)
    obtain ⟨v6, T6, X6, E6, g6⟩ := X4.callS hexec (LChA.law l t V i (lo8 (f i)) fm) hown (wks W (staticW "java/lang/String" 495 LChA.yN)) (wk W LChA.tab) (W := 0) (Nat.le_of_ble_eq_true rfl) (Nat.le_of_ble_eq_true rfl) (Nat.le_refl _) (Nat.le_refl _) (g := (mkF m 12 #[.val (.ref x), .val (.int (Int32.ofNat i))] [.int (Int32.ofNat i), .ref t])) rfl (by rw [hml]; rfl) c5 (argsL := [.ref t, .int (Int32.ofNat i)]) (rest := []) rfl rfl (by show 2 * 0 + 0 ≤ _; decide) (hb hbytes d12) (⟨rfl, hx.2.2.2.1.mv X4.warmed.alike hh4, (k2 i hi).1, s3.there X4.warmed.alike hh4, rf⟩)
    obtain ⟨rfl, q6⟩ := E6
    rw [chr8_lo8 hr.1 (k2 i hi).2] at g6
    exact ⟨T6, some (.int (f i)), _, _, _, X6, rfl, rfl, rfl, (fun h => by cases h), ⟨rfl, q6.trans hh4⟩, fun fs hl => Steps.trans g6 (X6.ireturnOut hexec hret (narrow_ch hr.1 hr.2) (Or.inr (Or.inr (Or.inr (Or.inl rfl)))) (hb hbytes d15) hl)⟩
  · exact absurd k0 (by decide)
theorem pays {l : Launch} {R : Room} {p : Program} {e : Env} {below : List Frame} {s : State} {sargs : Array Value} {len W : Nat} (x t : Addr) (V : Cell) (n : Nat) (f : Nat → Int32) (z : Int32) (fm : Value) (i : Nat) (htab : tab.before sargs s = true) (hfr : 4 ≤ R.frames) (hlo : W + 53 ≤ R.locals) :
    Back l R p e below s sargs yN len W (fun A₁ a₁ => A₁.cells + 0 ≤ R.cells ∧ A₁.slots + 0 ≤ R.slots ∧ P x t V n f z fm i a₁ A₁.U) (fun A₁ _ v₁ B₁ => E f i v₁ A₁.U B₁.U ∧ B₁.locs = A₁.locs ++ [] ∧ B₁.cells = A₁.cells + 0 ∧ B₁.slots = A₁.slots + 0) :=
  (law l x t V n f z fm i).pays htab hfr (by omega)
end ChN
end StrChars
namespace StrChars.Road
open Jvm Sem ClassFile Op Lib Jvm.Stand Jvm.Free Jvm.Free.XT
open Jvm.Lib.Cold (StaticIs)
/-- the words of String.charAt(int), the Latin-1 road alone -/
abbrev wordsChN : List Jvm.Cond := [.code ChN.yN ChN.yB 2 (some .char), .initialized ST, .fieldLink ST 9 ST "value" "[B", .fieldLink ST 38 ST "COMPACT_STRINGS" "Z", .fieldLink ST 15 ST "coder" "B", .code IsL.yN IsL.yB 1 (some .boolean), .methodLink ST 492 IsL.yN, .declares IsL.yN, .selects ST IsL.yN IsL.yN, .instanceMethod IsL.yN,
  .methodLink ST 495 LChA.yN, .static LChA.yN, .code LChA.yN LChA.yB 2 (some .char), .initialized "java/lang/StringLatin1", .methodLink "java/lang/StringLatin1" 9 JO.Str_checkIndex.yN, .static JO.Str_checkIndex.yN, .code JO.Str_checkIndex.yN JO.Str_checkIndex.yB 2 none,
  .fieldLink ST 1053 "jdk/internal/util/Preconditions" "SIOOBE_FORMATTER" "Ljava/util/function/BiFunction;", .methodLink ST 1059 JC.PreCheck.yN, .static JC.PreCheck.yN, .code JC.PreCheck.yN JC.PreCheck.yB 3 (some .int), .initialized "jdk/internal/util/Preconditions"]
theorem tabChN_of {a : Array Value} {s : State} (h : ∀ w ∈ wordsChN, w.before a s = true) : ChN.tab.before a s = true := by
  have hp : JC.PreCheck.tab.before a s = true := unparts (wk h (.code JC.PreCheck.yN JC.PreCheck.yB 3 (some .int))) (wks h (.initialized JC.PreCheck.yN.cls :: JC.PreCheck.site))
  have qk := consq hp h
  have hk : JO.Str_checkIndex.tab.before a s = true := unparts (wk qk (.code JO.Str_checkIndex.yN JO.Str_checkIndex.yB 2 none)) (wks qk (.initialized JO.Str_checkIndex.yN.cls :: JO.Str_checkIndex.site))
  have ql := consq hk h
  have hl : LChA.tab.before a s = true := unparts (wk ql (.code LChA.yN LChA.yB 2 (some .char))) (wks ql (.initialized LChA.yN.cls :: LChA.site))
  have hi : IsL.tab.before a s = true := unparts (wk h (.code IsL.yN IsL.yB 1 (some .boolean))) (wks h (.initialized IsL.yN.cls :: IsL.site))
  have q := consq hi (consq hl h)
  exact unparts (wk q (.code ChN.yN ChN.yB 2 (some .char))) (wks q (.initialized ChN.yN.cls :: ChN.site))
theorem movedChN {Z s : State} {a0 args : Array Value} (hZ : Z.Warmed39 s.vm) (hw : ∀ d ∈ wordsChN, d.before a0 Z = true) : ∀ d ∈ wordsChN, d.before args s = true := fun d hd => by
  have t : ∀ d ∈ wordsChN, (d.onTables && d.keepsFace) = true := by decide +kernel
  exact RoadKit.mv hZ (hw d hd) (t d hd)
/-- **charAt(i) OF A LATIN-1 STRING**, i < n: the char -/
theorem chN {p : Program} {l : Launch} {e : Env} {R : Room} {s : State} {args : Array Value} {below : List Frame} {len W : Nat} {Z : State} {a0 : Array Value} {h : Heap} (hZ : Z.Warmed39 s.vm) (hw : ∀ d ∈ wordsChN, d.before a0 Z = true) {kI : Nat} (wi : (Jvm.Cond.instantiable ST kI).before a0 Z = true)
    {x t : Addr} {kb : ClassId} {cs : List Int32} {N2 z : Int32} {vs : List Value} {fm : Value} {i : Nat} {j : Int32} (E : RoadKit.Exa Z h x ST) (V : RoadKit.Fld Z h x ST "value" "[B" (.ref t)) (C : RoadKit.Fld Z h x ST "coder" "B" (.int 0)) (K : RoadKit.Arv Z h t kb .byte N2 vs (.int 0)) (hc : CodA cs 0 N2 vs) (hb : ∀ c ∈ cs, ¬ c < 0 ∧ ¬ (65535 : Int32) < c)
    (S : RoadKit.Sta Z h ST "COMPACT_STRINGS" "Z" (.int z)) (hz : ¬ z = 0) (F : RoadKit.Sta Z h "jdk/internal/util/Preconditions" "SIOOBE_FORMATTER" "Ljava/util/function/BiFunction;" fm) (rf : fm.isRef = true) (l2 : cs.length ≤ 4000) (hi : i < cs.length) (hj : j = Int32.ofNat i) (hfr : 4 ≤ R.frames) (hlo : W + 53 ≤ R.locals) :
    Back l R p e below s args (⟨"java/lang/String", "charAt", "(I)C"⟩ : MethodName) len W (fun P a => a = #[.ref x, .int j] ∧ P.U.heap = h ∧ P.cells + 0 ≤ R.cells ∧ P.slots + 0 ≤ R.slots)
      (fun P _ v B => ∃ L, (v = some (.int (cs.getD i 0)) ∧ L = [] ∧ B.U.heap = h) ∧ B.locs = P.locs ++ L ∧ B.cells = P.cells + 0 ∧ B.slots = P.slots + 0) := by
  subst hj
  intro m meth c P g ig mk a X hg hsize hdg hW hn hp'
  obtain ⟨rfl, rfl, r1, r2⟩ := hp'
  have al : Z.vm.Alike P.U.vm := hZ.alike.trans X.warmed.alike
  obtain ⟨A, hx⟩ := txt_of wi al E V C K hc hb l2
  obtain ⟨v, B, X', ⟨⟨hv, hh⟩, hl, hk, hs⟩, st⟩ := ChN.pays x t A cs.length (fun j => cs.getD j 0) z fm i (tabChN_of (movedChN hZ hw)) hfr hlo m meth c P g ig mk _ X hg hsize hdg hW hn ⟨r1, r2, rfl, hx, hi, sta_is al S, hz, sta_is al F, rf⟩
  exact ⟨v, B, X', ⟨[], ⟨hv, rfl, hh⟩, hl, hk, hs⟩, st⟩
/-- what backV says of its String, as the contracts of this text ask it: cs's low bytes, coder 0 -/
theorem codOf {cs : List Int32} {n : Nat} (hn : cs.length = n) (hb : ∀ c ∈ cs, ¬ 255 < c) : CodA cs 0 (Int32.ofNat n) ((cs.map lo8).map Value.int) := Or.inl ⟨rfl, by rw [hn], by simp [List.map_map, Function.comp_def], hb⟩
end StrChars.Road
end Jvm.Pilot.@@N@@
namespace Jvm.Pilot.@@N@@
open Jvm Jvm.ClassFile Sem Op Lib Jvm.Free Jvm.Stand Jvm.LawKit Jvm.RoadKit Bundle Jvm.Pilot.@@N@@.Jvm.D
/-- the run comes from A to the state U with the frame g on top -/
def own_To (tb : Tables) (e : Env) (below : List Frame) (A U : State) (g : JFrame) : Prop := ∀ t, Steps tb e below (U.setTop g) t → Steps tb e below A t
/-- what a body that writes nothing leaves -/
def own_Q (r : Option Value) (h0 : Heap) (n0 : Nat) (v : Option Value) (h : Heap) (L : List Loc) : Prop := v = r ∧ Fr n0 L ∧ h = h0
theorem own_fldint {args : Array Value} {Z : State} {t : Term} {x : Addr} {C n d : String} {k : Int32} (ht : t.eval args Z none [] Z = some (.ref x)) (h : (Jvm.Cond.eq (.field t C n d) (.int k)).value args Z none Z [] = some true) : Fld Z Z.heap x C n d (.int k) := by
  apply Fld.start
  obtain ⟨u, v, h1, h2, k1, -⟩ := cmp_v (Or.inl h)
  have e2 : v = .int k := (Option.some.inj (h2.symm.trans (Term.int_eval k)))
  subst e2
  cases u with
  | int z => rw [← fld_at ht, h1]; have := gotT (Cond.eq_ints h1 h2) h; rw [this]
  | long z => obtain ⟨_, q⟩ := k1; cases q
  | float z => obtain ⟨_, q⟩ := k1; cases q
  | double z => obtain ⟨_, q⟩ := k1; cases q
  | ref z => exact absurd k1.2 (by simp [Value.isRef])
  | null => exact absurd k1.2 (by simp [Value.isRef])
  | retAddr z => exact absurd k1.2 (by simp [Value.isRef])
abbrev ow_i (x : Int32) : Slot := .val (.int x)
abbrev ow_r (x : Addr) : Slot := .val (.ref x)
theorem own_le {n : Nat} : 2 * 0 + n ≤ n := by omega
abbrev ow {tb : Tables} {e : Env} {below : List Frame} {A : State} (U : State) (g : JFrame) : Prop := own_To tb e below A U g
abbrev ow_c (x : Int32) : Int32 := x.toUInt32.toUInt16.toUInt32.toInt32
theorem own_h {Z : State} {a0 : Array Value} (hw : ∀ d ∈ tables_1, d.before a0 Z = true) (i : Nat) {d : Jvm.Cond} (h : tables_1[i]? = some d) : d.before a0 Z = true := hw _ (List.mem_of_getElem? h)
abbrev own_y1 : MethodName := ⟨"com/example/callsite/callsite/model/MethodIdEqualsPinLaw", "className", "(II)Ljava/lang/String;"⟩
abbrev own_y2 : MethodName := ⟨"com/example/callsite/callsite/model/MethodIdEqualsPinLaw", "classChar", "(I)C"⟩
abbrev own_y3 : MethodName := ⟨"java/lang/String", "<init>", "([C)V"⟩
abbrev own_y4 : MethodName := ⟨"java/lang/String", "<init>", "([CIILjava/lang/Void;)V"⟩
abbrev own_y5 : MethodName := ⟨"java/lang/Object", "<init>", "()V"⟩
abbrev own_y6 : MethodName := ⟨"java/lang/StringUTF16", "compress", "([CII)[B"⟩
abbrev own_y7 : MethodName := ⟨"java/lang/StringUTF16", "compress", "([CI[BII)I"⟩
abbrev own_y8 : MethodName := ⟨"java/lang/StringUTF16", "coderFromArrayLen", "([BI)B"⟩
abbrev own_y9 : MethodName := ⟨"com/example/callsite/callsite/model/MethodIdEqualsPinLaw", "methodName", "(II)Ljava/lang/String;"⟩
abbrev own_y10 : MethodName := ⟨"com/example/callsite/callsite/model/MethodIdEqualsPinLaw", "descriptor", "(II)Ljava/lang/String;"⟩
abbrev own_y11 : MethodName := ⟨"com/example/callsite/callsite/model/MethodIdEqualsPinLaw", "baseType", "(I)C"⟩
abbrev own_y12 : MethodName := ⟨"java/lang/String", "charAt", "(I)C"⟩
abbrev own_y13 : MethodName := ⟨"java/lang/String", "isLatin1", "()Z"⟩
abbrev own_y14 : MethodName := ⟨"java/lang/StringLatin1", "charAt", "([BI)C"⟩
abbrev own_y15 : MethodName := ⟨"java/lang/String", "checkIndex", "(II)V"⟩
abbrev own_y16 : MethodName := ⟨"jdk/internal/util/Preconditions", "checkIndex", "(IILjava/util/function/BiFunction;)I"⟩
abbrev own_y17 : MethodName := ⟨"com/example/callsite/callsite/model/MethodId", "<init>", "(Ljava/lang/String;Ljava/lang/String;Ljava/lang/String;)V"⟩
abbrev own_y18 : MethodName := ⟨"java/lang/Record", "<init>", "()V"⟩
abbrev own_y19 : MethodName := ⟨"com/example/callsite/callsite/model/JvmNames", "isClassName", "(Ljava/lang/String;C)Z"⟩
abbrev own_y20 : MethodName := ⟨"java/lang/String", "startsWith", "(Ljava/lang/String;)Z"⟩
abbrev own_y21 : MethodName := ⟨"java/lang/String", "startsWith", "(Ljava/lang/String;I)Z"⟩
abbrev own_y22 : MethodName := ⟨"java/lang/String", "length", "()I"⟩
abbrev own_y23 : MethodName := ⟨"java/lang/String", "coder", "()B"⟩
abbrev own_y24 : MethodName := ⟨"jdk/internal/util/ArraysSupport", "mismatch", "([BI[BII)I"⟩
abbrev own_y25 : MethodName := ⟨"com/example/callsite/callsite/model/JvmNames", "isBinaryName", "(Ljava/lang/String;C)Z"⟩
abbrev own_y26 : MethodName := ⟨"java/lang/String", "indexOf", "(I)I"⟩
abbrev own_y27 : MethodName := ⟨"java/lang/String", "indexOf", "(II)I"⟩
abbrev own_y28 : MethodName := ⟨"java/lang/StringLatin1", "indexOf", "([BIII)I"⟩
abbrev own_y29 : MethodName := ⟨"java/lang/StringLatin1", "canEncode", "(I)Z"⟩
abbrev own_y30 : MethodName := ⟨"java/lang/Math", "max", "(II)I"⟩
abbrev own_y31 : MethodName := ⟨"java/lang/Math", "min", "(II)I"⟩
abbrev own_y32 : MethodName := ⟨"java/lang/StringLatin1", "indexOfChar", "([BIII)I"⟩
abbrev own_y33 : MethodName := ⟨"com/example/callsite/callsite/model/JvmNames", "isUnqualifiedName", "(Ljava/lang/String;II)Z"⟩
abbrev own_y34 : MethodName := ⟨"com/example/callsite/callsite/model/JvmNames", "isMethodName", "(Ljava/lang/String;)Z"⟩
abbrev own_y35 : MethodName := ⟨"com/example/callsite/callsite/model/JvmNames", "isInitialiserName", "(Ljava/lang/String;)Z"⟩
abbrev own_y36 : MethodName := ⟨"java/lang/String", "equals", "(Ljava/lang/Object;)Z"⟩
abbrev own_y37 : MethodName := ⟨"java/lang/StringLatin1", "equals", "([B[B)Z"⟩
abbrev own_y38 : MethodName := ⟨"com/example/callsite/callsite/model/JvmNames", "methodDescriptorRefusal", "(Ljava/lang/String;Ljava/lang/String;)Ljava/lang/String;"⟩
abbrev own_y39 : MethodName := ⟨"com/example/callsite/callsite/model/JvmNames", "parameterUnits", "(Ljava/lang/String;)I"⟩
abbrev own_y40 : MethodName := ⟨"com/example/callsite/callsite/model/JvmNames", "fieldTypeEnd", "(Ljava/lang/String;IC)I"⟩
abbrev own_y41 : MethodName := ⟨"com/example/callsite/callsite/model/JvmNames", "initialiserRefusal", "(Ljava/lang/String;Ljava/lang/String;)Ljava/lang/String;"⟩
abbrev own_y42 : MethodName := ⟨"java/lang/String", "endsWith", "(Ljava/lang/String;)Z"⟩
abbrev own_y43 : MethodName := ⟨"com/example/callsite/callsite/model/MethodId", "equals", "(Ljava/lang/Object;)Z"⟩
abbrev own_y44 : MethodName := ⟨"com/example/callsite/callsite/model/MethodIdEqualsPinLaw", "methodChar", "(I)C"⟩
/-- x is a compact String whose chars are cs (each 0 to 255) -/
def own_Str (Z : State) (h : Heap) (x : Addr) (cs : List Int32) : Prop := ∃ (t : Addr) (kb : ClassId) (N : Int32) (vs : List Value), Exa Z h x "java/lang/String" ∧ Fld Z h x "java/lang/String" "value" "[B" (.ref t) ∧ Fld Z h x "java/lang/String" "coder" "B" (.int 0) ∧ Arv Z h t kb .byte N vs (.int 0) ∧ StrChars.Road.CodA cs 0 N vs ∧ (∀ c ∈ cs, ¬ c < 0 ∧ ¬ (65535 : Int32) < c) ∧ cs.length ≤ 4000
theorem own_Str.exa {Z : State} {h : Heap} {x : Addr} {cs : List Int32} (S : own_Str Z h x cs) : Exa Z h x "java/lang/String" := by obtain ⟨_, _, _, _, E, _⟩ := S; exact E
theorem own_Str.lt {Z : State} {h : Heap} {x : Addr} {cs : List Int32} (S : own_Str Z h x cs) : x < h.size := S.exa.lt
theorem own_Str.ext {Z : State} {h h' : Heap} {x : Addr} {cs : List Int32} (S : own_Str Z h x cs) (E : Ext h h') : own_Str Z h' x cs := by
  obtain ⟨t, kb, N, vs, a, b, c, d, r⟩ := S
  exact ⟨t, kb, N, vs, a.ext E, b.ext E, c.ext E, d.ext E, r⟩
/-- an object of another class than String -/
def own_Oth (Z : State) (a0 : Array Value) (h : Heap) (y : Addr) : Prop := ∃ (C : String) (n : Nat), C ≠ "java/lang/String" ∧ Exa Z h y C ∧ (Jvm.Cond.instantiable C n).before a0 Z = true
theorem own_Str.keep {Z : State} {a0 : Array Value} {h h' : Heap} {x : Addr} {cs : List Int32} {ws : List Addr} (S : own_Str Z h x cs) (K : Keep h h' ws) (q : ∀ y ∈ ws, own_Oth Z a0 h y) : own_Str Z h' x cs := by
  obtain ⟨t, kb, N, vs, a, b, c, d, r⟩ := S
  have n1 : x ∉ ws := fun hm => by
    obtain ⟨C, n, hC, E, w⟩ := q x hm
    exact (Exa.ne E a hC) rfl
  have n2 : t ∉ ws := fun hm => by
    obtain ⟨C, n, hC, E, w⟩ := q t hm
    exact (Exa.neArv E d w) rfl
  exact ⟨t, kb, N, vs, a.keep K, b.keep K n1, c.keep K n1, d.keep K n2, r⟩
theorem own_notinst {Z : State} {a0 : Array Value} {K : String} {n : Nat} (w1 : (Jvm.Cond.superclass "java/lang/String" "java/lang/Object").before a0 Z = true) (w0 : (Jvm.Cond.noSuperclass "java/lang/Object").before a0 Z = true) (wk : (Jvm.Cond.instantiable K n).before a0 Z = true)
    (h1 : "java/lang/String" ≠ K) (h2 : "java/lang/Object" ≠ K) : ∃ c t, Z.vm.findClass "java/lang/String" = some c ∧ Z.vm.findClass K = some t ∧ Z.vm.assignable c t = false := by
  obtain ⟨t, kt, g0, g2, g5, gI, -⟩ := Cond.instantiable_spec wk
  have g7 : kt.isInterface = false := (Bool.or_eq_false_iff.mp gI).1
  obtain ⟨o, ko, o1, o2, o3, -, -⟩ := Cond.noSuperclass_spec w0
  obtain ⟨c, h0⟩ := found_sup w1
  obtain ⟨p, k, kp, p1, p2, p3, p4, p5, -, -⟩ := Cond.superclass_spec h0 w1
  cases o1.symm.trans p1
  have ne := ids_ne h0 g0 h1
  have ne2 := ids_ne o1 g0 h2
  have so : ∀ fuel, Z.vm.isSubclassAux fuel o t = false := fun fuel => by
    cases fuel with
    | zero => rfl
    | succ f => simp [Vm.isSubclassAux, ne2, o2, o3]
  have sc : ∀ fuel, Z.vm.isSubclassAux fuel c t = false := fun fuel => by
    cases fuel with
    | zero => rfl
    | succ f => simp [Vm.isSubclassAux, ne, p2, p4, so]
  refine ⟨c, t, h0, g0, ?_⟩
  show Z.vm.assignableAux (255 + 1) c t = false
  simp [Vm.assignableAux, ne, p2, g2, p5, g5, g7, Vm.isSubclass, sc]
/-- a String under construction, its value null yet, is no booked one -/
theorem own_safe_null {Z : State} {EL : List (String × Nat)} {vm : Vm} {h : Heap} {x : Addr} (hal : Z.vm.Alike vm) (E : Exa Z h x "java/lang/String") (F : Fld Z h x "java/lang/String" "value" "[B" .null) : Safe Z EL vm h x := fun B => by
  obtain ⟨cell, k, e1, e2, e3, -, -⟩ := E
  obtain ⟨cell', cf, kf, i, f, f1, f2, f3, f4, f5, f6, f7⟩ := F
  cases e1.symm.trans f1
  obtain ⟨p, -, u, a, -, q, -, G, rfl | rfl⟩ := B
  · cases (show h[q.sa]? = some q.sC from G.ha).symm.trans e1
    obtain ⟨cS, ⟨⟨-, -, -, ⟨c1, k1, i1, g1, -⟩, -, -, -, v1, -⟩, -⟩, -⟩ := G
    obtain ⟨k3, e3', -⟩ := State.fieldFound?_setVm (s := Z) hal f2
    have e4 := (show (Wst Z vm h).fieldFound? _ _ _ = _ from e3').symm.trans g1
    simp only [Option.some.injEq, Prod.mk.injEq] at e4
    rw [← e4.2.2.2, f7] at v1
    cases v1
  · cases (show h[q.sd]? = some q.SA from G.hd).symm.trans e1
    obtain ⟨cS, -, -, g, -⟩ := G
    have g' : vm.findClass "[B" = some q.SA.cls := g
    rw [hal.findClass] at g'
    obtain ⟨k1, q1, q2⟩ := Vm.findClass_spec g'
    obtain ⟨k2, q3, q4⟩ := Vm.findClass_spec e2
    cases q1.symm.trans q3
    exact absurd (q2.symm.trans q4) (by decide)
theorem own_up {c : Int32} (h : ¬ (255 : Int32) < c) : ¬ (65535 : Int32) < c := by
  rw [Int32.lt_iff_toInt_lt] at *
  have e1 : (255 : Int32).toInt = 255 := by decide
  have e2 : (65535 : Int32).toInt = 65535 := by decide
  omega
theorem own_mkStr {Z : State} {h : Heap} {x t : Addr} {kb : ClassId} {cs : List Int32} {n : Nat} (E : Exa Z h x "java/lang/String") (V : Fld Z h x "java/lang/String" "value" "[B" (.ref t)) (C : Fld Z h x "java/lang/String" "coder" "B" (.int 0)) (A : Arv Z h t kb .byte (Int32.ofNat n) ((cs.map (fun c => c.toInt8.toInt32)).map Value.int) (.int 0))
    (hn : cs.length = n) (hp : ∀ c ∈ cs, ¬ c < 0 ∧ ¬ (255 : Int32) < c) (l : n ≤ 4000) : own_Str Z h x cs :=
  ⟨t, kb, _, _, E, V, C, A, StrChars.Road.codOf hn (fun c hc => (hp c hc).2), fun c hc => ⟨(hp c hc).1, own_up (hp c hc).2⟩, by rw [hn]; exact l⟩
theorem own_wEq {Z : State} {a0 : Array Value} (hw : ∀ d ∈ tables_1, d.before a0 Z = true) : ∀ d ∈ StrChars.Road.wordsEq, d.before a0 Z = true := fun d hd => hw d ((by decide +kernel : ∀ d ∈ StrChars.Road.wordsEq, d ∈ tables_1) d hd)
theorem own_wNew {Z : State} {a0 : Array Value} (hw : ∀ d ∈ tables_1, d.before a0 Z = true) : ∀ d ∈ StrChars.Road.words, d.before a0 Z = true := fun d hd => hw d ((by decide +kernel : ∀ d ∈ StrChars.Road.words, d ∈ tables_1) d hd)
theorem own_clamp {i : Nat} (h : i < 2 ^ 31) : (Nat.toInt32 i).toNatClampNeg = i := by
  simp only [Int32.toNatClampNeg, len_toInt h]; rfl
theorem own_inb {c : Cell} {n j : Int32} {i : Nat} (S : c.slots.size = n.toNatClampNeg) (hj : j = Nat.toInt32 i) (hi : i < n.toNatClampNeg) : ¬ (j < 0 ∨ c.slots.size ≤ j.toNatClampNeg) := by
  subst hj; rw [S]; refine idx_in hi ?_
  have := n.toInt_lt
  simp only [Int32.toNatClampNeg]; omega
theorem own_idx {j : Int32} {i : Nat} (hj : j = Nat.toInt32 i) (h : i < 64) : j.toNatClampNeg = i := by subst hj; exact own_clamp (by omega)
theorem own_monoW {s t : State} {o : Outcome} {L : List Loc} {k n k' n' : Nat} (h : ReturnedEndW s o t L k n) (hk : k ≤ k') (hn : n ≤ n') : ReturnedEndW s o t L k' n' := ⟨h.1, h.2.1, h.2.2.1, h.2.2.2.mono hk hn⟩
abbrev own_all (b : ByteArray) (l : List (Nat × Instr × Nat)) : Prop := ∀ q ∈ l, decode b q.1 = .ok q.2
theorem own_at {c : Code} {b : ByteArray} {dl : List (Nat × Instr × Nat)} (hb : c.code = b) (hd : own_all b dl) (i : Nat) {pc : Nat} {x : Instr × Nat} (h : dl[i]? = some (pc, x)) : decode c.code pc = .ok x := by
  have q := hd (pc, x) (List.mem_of_getElem? h)
  rw [hb]; exact q
abbrev own_MF (l : Launch) (Z : State) (y : MethodName) (ws : List Jvm.Cond) (b : ByteArray) (ml : Nat) (rt : Option FieldType) (rm : Room) (A : Array Value) (h0 : Heap) (Q : Option Value → Heap → List Loc → Prop) : Prop :=
  MetFree l y (head1 (Jvm.Cond.code y b ml rt :: ws) rm) (fun a U => a = A ∧ Z.Warmed39 U.vm ∧ U.heap = h0) (fun _ _ _ _ _ => True) (fun _ U o U' => ∃ v L, o = .returned v ∧ Q v U'.heap L ∧ FrameEnd U o U' L rm.cells rm.slots)
abbrev own_MS (l : Launch) (Z : State) (y : MethodName) (ws : List Jvm.Cond) (b : ByteArray) (ml : Nat) (rt : Option FieldType) (rm : Room) (A : Array Value) (h0 : Heap) (CP : Vm → Heap → Vm → Heap → Prop) (Q : Option Value → Heap → List Loc → Prop) : Prop :=
  MetFree l y (head1 (Jvm.Cond.code y b ml rt :: ws) rm) (fun a U => a = A ∧ Z.Warmed39 U.vm ∧ U.heap = h0 ∧ CHv Z consts_1 U.vm h0) (fun _ _ _ _ _ => True) (fun _ U o U' => ∃ v L, o = .returned v ∧ Q v U'.heap L ∧ CP U.vm U.heap U'.vm U'.heap ∧ ReturnedEndW U o U' L rm.cells rm.slots)
/-- the run from A0 ends as a body's contract says -/
def own_G (tb : Tables) (e : Env) (below : List Frame) (A0 s : State) (rm : Room) (Q : Option Value → Heap → List Loc → Prop) : Prop :=
  ∃ s₂ o, Steps tb e below A0 s₂ ∧ s₂.status = .running ∧ Ended s₂ below o ∧ ∃ v L, o = .returned v ∧ Q v s₂.heap L ∧ FrameEnd s o s₂ L rm.cells rm.slots
def own_GS (tb : Tables) (e : Env) (below : List Frame) (A0 s : State) (rm : Room) (CP : Vm → Heap → Vm → Heap → Prop) (Q : Option Value → Heap → List Loc → Prop) : Prop :=
  ∃ s₂ o, Steps tb e below A0 s₂ ∧ s₂.status = .running ∧ Ended s₂ below o ∧ ∃ v L, o = .returned v ∧ Q v s₂.heap L ∧ CP s.vm s.heap s₂.vm s₂.heap ∧ ReturnedEndW s o s₂ L rm.cells rm.slots
theorem own_go {l : Launch} {Z : State} {y : MethodName} {ws : List Jvm.Cond} {b : ByteArray} {ml : Nat} {rt : Option FieldType} {rm : Room} {A : Array Value} {h0 : Heap} {Q : Option Value → Heap → List Loc → Prop} {F : MethodId → JFrame} {dl : List (Nat × Instr × Nat)} (C : String) (hC : y.cls = C) (hpl : plainFor y = true) (hF : ∀ m, entryFrame m A ml = F m) (hd : own_all b dl) (n0 : Nat)
    (body : ∀ (p : Program) (e : Env) (s : State) (m : MethodId) (below : List Frame) (meth : Method) (c : Code) (s₁ A0 : State), BodyLoose p l y (head1 (Jvm.Cond.code y b ml rt :: ws) rm) b ml rt e s m A below meth c s₁ → p.tables.exec = Jvm.exec → (∀ (i : Nat) {pc : Nat} {x : Instr × Nat}, dl[i]? = some (pc, x) → decode c.code pc = .ok x) → c.maxLocals = ml → s.vm.findClass C = some m.cls → meth.name = y.name →
      Stand p l e rm s m A below meth c s₁ [] 0 0 → Z.Warmed39 s.vm → s₁.heap = h0 → Fr n0 [] → own_To p.tables e below A0 s₁ (F m) → own_G p.tables e below A0 s rm Q) : own_MF l Z y ws b ml rt rm A h0 Q := by
  refine MetFree.of_bodySF hpl hisR ?_
  intro p e s m args below meth c s₁ Bd hml0 hP hK
  obtain ⟨rfl, hZ, hh⟩ := hP
  subst hC
  exact body p e s m below meth c s₁ _ Bd Bd.exec (own_at Bd.bytes hd) hml0 (findClass_of_methodNamed Bd.named) (name_of_methodNamed Bd.named Bd.method).1 (Stand.of_body Bd) hZ (by rw [← hh, Bd.state]; rfl) (Fr.nil n0) (fun t k => castTop (hF m) k)
theorem own_goS {l : Launch} {Z : State} {y : MethodName} {ws : List Jvm.Cond} {b : ByteArray} {ml : Nat} {rt : Option FieldType} {rm : Room} {A : Array Value} {h0 : Heap} {CP : Vm → Heap → Vm → Heap → Prop} {Q : Option Value → Heap → List Loc → Prop} {F : MethodId → JFrame} {dl : List (Nat × Instr × Nat)} (hCP : ∀ {vm : Vm} {h : Heap}, CHv Z consts_1 vm h → CP vm h vm h) (C : String) (hC : y.cls = C) (hpl : plainFor y = true) (hF : ∀ m, entryFrame m A ml = F m) (hd : own_all b dl) (n0 : Nat)
    (body : ∀ (p : Program) (e : Env) (s : State) (m : MethodId) (below : List Frame) (meth : Method) (c : Code) (s₁ A0 : State), BodyLoose p l y (head1 (Jvm.Cond.code y b ml rt :: ws) rm) b ml rt e s m A below meth c s₁ → p.tables.exec = Jvm.exec → (∀ (i : Nat) {pc : Nat} {x : Instr × Nat}, dl[i]? = some (pc, x) → decode c.code pc = .ok x) → c.maxLocals = ml → (s.setVm s.vm).vm.findClass C = some m.cls → meth.name = y.name →
      Stand p l e rm (s.setVm s.vm) m A below meth c s₁ [] 0 0 → Z.Warmed39 (s.setVm s.vm).vm → s₁.heap = h0 → Fr n0 [] → s.heap = h0 → CHv Z consts_1 s.vm h0 → s.Since s.vm 0 → 0 ≤ h0.size → CP s.vm h0 s.vm h0 → own_To p.tables e below A0 s₁ (F m) → own_GS p.tables e below A0 s rm CP Q) : own_MS l Z y ws b ml rt rm A h0 CP Q := by
  refine MetFree.of_bodySF hpl hisR ?_
  intro p e s m args below meth c s₁ Bd hml0 hP hK
  obtain ⟨rfl, hZ, hh, CH0⟩ := hP
  subst hC
  exact body p e s m below meth c s₁ _ Bd Bd.exec (own_at Bd.bytes hd) hml0 (findClass_of_methodNamed Bd.named) (name_of_methodNamed Bd.named Bd.method).1 (Stand.of_body Bd) hZ (by rw [← hh, Bd.state]; rfl) (Fr.nil n0) hh CH0 ((State.WarmedH.refl s).since _) (Nat.zero_le _) (hCP CH0) (fun t k => castTop (hF m) k)
section OwnEnd
variable {p : Program} {l : Launch} {e : Env} {R : Room} {s : State} {m : MethodId} {args : Array Value} {below : List Frame} {meth : Method} {c : Code} {T A0 : State} {locs : List Loc} {cells slots : Nat} {h h0 : Heap} {g : JFrame} {v : Option Value} {Q : Option Value → Heap → List Loc → Prop} {rm : Room}
theorem own_end (X : Stand p l e R s m args below meth c T locs cells slots) (hE : T.heap = h) (hlk : meth.locks = false) (hv : meth.sig.returnType = none → v = none) (k : own_To p.tables e below A0 T g) (st : ∀ fs, (∀ (f : JFrame) (acts : List Action), f.method = m → f.locked = none → f.entered = [] → (doReturn e (T.setTop f) acts v).1 = T.setFrames fs) → Steps p.tables e below (T.setTop g) (T.setFrames fs))
    (hQ : Q v h locs) (hc : cells ≤ rm.cells) (hs : slots ≤ rm.slots) : own_G p.tables e below A0 s rm Q := by
  obtain ⟨fs, hr, hrun, hended, hW, hsame⟩ := X.leave hv hlk
  exact ⟨_, _, k _ (st fs hr), hrun, hended, _, _, rfl, (by show Q v T.heap locs; rw [hE]; exact hQ), ⟨_, rfl⟩, hW, hsame.mono hc hs⟩
theorem own_endS {vm1 : Vm} {n : Nat} {CP : Vm → Heap → Vm → Heap → Prop} (X : Stand p l e R (s.setVm vm1) m args below meth c T locs cells slots) (hE : T.heap = h) (hS : s.Since vm1 n) (hn : n ≤ h.size) (hh : s.heap = h0) (hlk : meth.locks = false) (hv : meth.sig.returnType = none → v = none) (k : own_To p.tables e below A0 T g) (st : ∀ fs, (∀ (f : JFrame) (acts : List Action), f.method = m → f.locked = none → f.entered = [] → (doReturn e (T.setTop f) acts v).1 = T.setFrames fs) → Steps p.tables e below (T.setTop g) (T.setFrames fs))
    (hQ : Q v h locs) (C : CP s.vm h0 T.vm h) (hc : cells ≤ rm.cells) (hs : slots ≤ rm.slots) : own_GS p.tables e below A0 s rm CP Q := by
  obtain ⟨fs, hr, hrun, hended, hEnd⟩ := X.leaveW hS (by rw [hE]; exact hn) (v := v) hv hlk
  exact ⟨_, _, k _ (st fs hr), hrun, hended, _, _, rfl, (by show Q v T.heap locs; rw [hE]; exact hQ), (by show CP s.vm s.heap T.vm T.heap; rw [hh, hE]; exact C), own_monoW hEnd hc hs⟩
theorem own_vn {t : FieldType} (h : meth.sig.returnType = some t) : meth.sig.returnType = none → v = none := fun q => by rw [h] at q; cases q
theorem own_retA (X : Stand p l e R s m args below meth c T locs cells slots) (hx : p.tables.exec = Jvm.exec) {pc : Nat} {Ls : Array Slot} {a : Addr} {rest : List Value} {t : FieldType} (hret : meth.sig.returnType = some t) (ht : t.isReference = true) (hd : decode c.code pc = .ok (.areturn, 1)) {fs : List Frame}
    (hl : ∀ (f : JFrame) (acts : List Action), f.method = m → f.locked = none → f.entered = [] → (doReturn e (T.setTop f) acts (some (.ref a))).1 = T.setFrames fs) : Steps p.tables e below (T.setTop (mkF m pc Ls (.ref a :: rest))) (T.setFrames fs) := by
  have hm' : T.vm.method? m = some meth := X.method'
  show Steps p.tables e below (T.setTop { method := m, pc := pc, locals := Ls, stack := _ :: rest, locked := none }) _
  jvm_step X.here [X.here.top, hx, hd, hm', hret, ht, Value.isRef]
  first | (intro acts; rw [hl _ acts rfl rfl rfl]) | rw [hl _ _ rfl rfl rfl]
  exact Steps.refl _
theorem own_ret0 (X : Stand p l e R s m args below meth c T locs cells slots) (hx : p.tables.exec = Jvm.exec) {pc : Nat} {Ls : Array Slot} {rest : List Value} {t : FieldType} (hret : meth.sig.returnType = some t) (ht : t.isReference = true) (hd : decode c.code pc = .ok (.areturn, 1)) {fs : List Frame}
    (hl : ∀ (f : JFrame) (acts : List Action), f.method = m → f.locked = none → f.entered = [] → (doReturn e (T.setTop f) acts (some .null)).1 = T.setFrames fs) : Steps p.tables e below (T.setTop (mkF m pc Ls (.null :: rest))) (T.setFrames fs) := by
  have hm' : T.vm.method? m = some meth := X.method'
  show Steps p.tables e below (T.setTop { method := m, pc := pc, locals := Ls, stack := _ :: rest, locked := none }) _
  jvm_step X.here [X.here.top, hx, hd, hm', hret, ht, Value.isRef]
  first | (intro acts; rw [hl _ acts rfl rfl rfl]) | rw [hl _ _ rfl rfl rfl]
  exact Steps.refl _
end OwnEnd
theorem own_sta_keep {Z : State} {h h' : Heap} {C n d : String} {v : Value} {ws : List Addr} (F : Sta Z h C n d v) (K : Keep h h' ws) (q : ∀ x ∈ ws, ∀ cell : Cell, h[x]? = some cell → cell.vm.isStatics = false) : Sta Z h' C n d v := by
  obtain ⟨cf, i, k, f, st, cell, h1, h2, h3, h4, h5, h6, h7⟩ := F
  exact ⟨cf, i, k, f, st, cell, h1, h2, h3, h4, K.2.1 _ _ h5 (fun hm => by have := q st hm cell h5; rw [h6] at this; cases this), h6, h7⟩
theorem own_EW {Z : State} {a0 : Array Value} (hw : ∀ d ∈ tables_1, d.before a0 Z = true) : EW Z a0 consts_1 := (EW.cons (own_h hw 87 rfl) (by decide) (EW.cons (own_h hw 154 rfl) (by decide) (EW.cons (own_h hw 205 rfl) (by decide) (EW.cons (own_h hw 170 rfl) (by decide) (EW.cons (own_h hw 175 rfl) (by decide) (EW.cons (own_h hw 176 rfl) (by decide) (EW.cons (own_h hw 181 rfl) (by decide) (EW.cons (own_h hw 144 rfl) (by decide) (EW.cons (own_h hw 174 rfl) (by decide) (EW.cons (own_h hw 46 rfl) (by decide) EW.nil))))))))))
theorem own_wS {Z : State} {a0 : Array Value} (hw : ∀ d ∈ tables_1, d.before a0 Z = true) : ∀ a ∈ Bundle.stringAtoms, a.before a0 Z = true := fun d hd => hw d ((by decide +kernel : ∀ d ∈ Bundle.stringAtoms, d ∈ tables_1) d hd)
/-- the entry p stands resolved to a String in the tables vm -/
def own_res (Z : State) (vm : Vm) (p : String × Nat) : Bool := match (Z.setVm vm).resolvedAt? p.1 p.2 with | some (.string _) => true | _ => false
/-- how many entries of EL are not resolved -/
def own_un (Z : State) (EL : List (String × Nat)) (vm : Vm) : Nat := EL.countP fun p => !own_res Z vm p
theorem own_res_mono {Z : State} {vm vm1 : Vm} (h : (Z.setVm vm).Warmed39 vm1) {p : String × Nat} (q : own_res Z vm p = true) : own_res Z vm1 p = true := by
  unfold own_res at q ⊢
  cases hr : (Z.setVm vm).resolvedAt? p.1 p.2 with
  | none => rw [hr] at q; cases q
  | some r => have e := State.resolvedAt?_warmed39 h hr; rw [hr] at q; rw [show (Z.setVm vm1).resolvedAt? p.1 p.2 = some r from e]; exact q
theorem own_un_mono {Z : State} {vm vm1 : Vm} (h : (Z.setVm vm).Warmed39 vm1) (EL : List (String × Nat)) : own_un Z EL vm1 ≤ own_un Z EL vm :=
  List.countP_mono_left fun p _ q => by
    cases hb : own_res Z vm p with
    | false => rfl
    | true => rw [own_res_mono h hb] at q; cases q
theorem own_un_less {Z : State} {vm vm1 : Vm} (h : (Z.setVm vm).Warmed39 vm1) {p : String × Nat} (h0 : own_res Z vm p = false) (h1 : own_res Z vm1 p = true) : ∀ EL : List (String × Nat), p ∈ EL → own_un Z EL vm1 + 1 ≤ own_un Z EL vm
  | [], hp => by cases hp
  | q :: EL, hp => by
    have m := own_un_mono h EL
    unfold own_un at m ⊢
    rw [List.countP_cons, List.countP_cons]
    rcases List.mem_cons.mp hp with e | hq
    · subst e
      rw [h0, h1]; simp; omega
    · have r := own_un_less h h0 h1 EL hq
      unfold own_un at r
      cases hb : own_res Z vm q with
      | true => rw [own_res_mono h hb]; omega
      | false => cases hc : own_res Z vm1 q <;> simp <;> omega
theorem own_un_le (Z : State) (EL : List (String × Nat)) (vm : Vm) : own_un Z EL vm ≤ EL.length := List.countP_le_length
/-- what a resolved constant of EL is -/
theorem own_read {Z : State} {a0 : Array Value} {EL : List (String × Nat)} {own text : String} {index : Nat} {vm : Vm} {h : Heap} {a : Addr} {k0 : Class} {cc : ClassId} (hW : Z.Warmed39 vm) (hf : vm.findClass own = some cc) (hk0 : vm.classes[cc]? = some k0) (hres : k0.resolved[index]? = some (some (.string a)))
    (w : (Jvm.Cond.stringLink own index text).before a0 Z = true) (hmem : (own, index) ∈ EL) (H : CHv Z EL vm h)
    {vs : List Value} {z : Int32} (ht : (∀ c ∈ text.toList, c.toNat < 256) ∧ text.toList.map (fun c => Value.int (Jvm.Lit.byteI c.toNat.toUInt16)) = vs) (hz : ¬ z < 0) (hl : z.toNatClampNeg = vs.length) :
    ∃ (b : Addr) (k : ClassId), Exa Z h a "java/lang/String" ∧ Fld Z h a "java/lang/String" "coder" "B" (.int 0) ∧ Fld Z h a "java/lang/String" "value" "[B" (.ref b) ∧ Arv Z h b k .byte z vs (.int 0) ∧ a < h.size ∧ b < h.size ∧ (∀ x, Safe Z EL vm h x → x ≠ a ∧ x ≠ b) := by
  have hal : Z.vm.Alike vm := hW.alike
  have w2 : (Jvm.Cond.stringLink own index text).before a0 (Wst Z vm h) = true := mvS (s := { Z with heap := h }) hW w
  obtain ⟨k1, cf, i, units, c1, c2, c3, c4, -, txt, -⟩ := Cond.stringLink_spec (s := Wst Z vm h) (cur := cc) hf w2
  obtain rfl : k1 = k0 := Option.some.inj (c1.symm.trans hk0)
  have B : Booksv vm own index units a := ⟨cc, k1, cf, i, hf, hk0, c2, c3, c4, Or.inl hres⟩
  obtain ⟨q, hq, F⟩ := SlB.of (H _ hmem units a B)
  have far : ∀ x, Safe Z EL vm h x → x ≠ q.sa ∧ x ≠ q.sd := fun x S => ⟨fun u => S ⟨_, hmem, units, a, B, q, hq, F, Or.inl u⟩, fun u => S ⟨_, hmem, units, a, B, q, hq, F, Or.inr u⟩⟩
  obtain ⟨cS, ⟨⟨s1, s2, s3, ⟨cv, kv, iv, s4, t4⟩, ⟨cd, kd, ic, s5, t5⟩, s6, s7, s8, s9, s10, s11, s12, s13, s14, s15, s16⟩, fS, eS⟩, ⟨kS, x1, x2, x3⟩, fB, hb⟩ := F
  subst hq
  obtain ⟨kv', z4⟩ := ff_back (U := Wst Z vm h) hal s4
  obtain ⟨kd', z5⟩ := ff_back (U := Wst Z vm h) hal s5
  have fZ : Z.vm.findClass "java/lang/String" = some q.sC.cls := by rw [← hal.findClass, eS]; exact fS
  obtain ⟨kz, y1, -⟩ := Vm.findClass_spec fZ
  obtain ⟨kz', y2, y3⟩ := hal.2.2 _ _ y1
  have ez : kz' = kS := Option.some.inj (y2.symm.trans (eS ▸ x1))
  have gZ : Z.vm.findClass "[B" = some q.SA.cls := by rw [← hal.findClass]; exact fB
  obtain ⟨kb, y4, -⟩ := Vm.findClass_spec gZ
  obtain ⟨kb', y5, y6⟩ := hal.2.2 _ _ y4
  obtain ⟨v1, k9, v2, comp, v3⟩ := s11
  have e9 : k9 = kb' := Option.some.inj ((show vm.classes[q.SA.cls]? = some k9 from v2).symm.trans y5)
  have hA : Z.isArrayOf q.SA .byte := ⟨v1, kb, y4, comp, by rw [e9, y6] at v3; exact v3⟩
  have eu : vs = units.toList.map fun u => Value.int (Jvm.Lit.byteI u) := by rw [← ht.2, Jvm.ClassFile.units_of_text txt ht.1, List.map_map]; rfl
  have el : vs.length = units.size := by rw [eu]; simp
  have sl : q.SA.slots = units.map fun u => Value.int (Jvm.Lit.byteI u) := by rw [hb, SBG.stringBytes_lat (Jvm.ClassFile.lat_of_text txt ht.1)]; rfl
  have sz : q.SA.slots.size = units.size := by rw [sl, Array.size_map]
  have H2 : Has q.SA vs (.int 0) := fun j hj => by
    have hj' : j < units.size := by omega
    rw [sl, eu]; simp [hj']
  refine ⟨q.sd, q.SA.cls, ⟨q.sC, kz, s1, fZ, y1, s3, fun _ => by rw [x3, ← ez, y3]⟩, ⟨q.sC, cd, kd', ic, q.fSC, s1, z5, s7, s2, s3, by rw [← hal.assignable]; exact t5, s9⟩, ⟨q.sC, cv, kv', iv, q.fSV, s1, z4, s6, s2, s3, by rw [← hal.assignable]; exact t4, s8⟩,
    ⟨q.SA, ⟨s10, hA, s12⟩, rfl, by rw [sz, hl, el], hz, H2, fun j hj => ?_⟩, (Array.getElem?_eq_some_iff.mp s1).1, (Array.getElem?_eq_some_iff.mp s10).1, far⟩
  have r := s16 j hj
  rw [SBG.getD_of (H2 j hj)] at r
  exact r
/-- CHr, and the count: what the heap has grown by is paid by constants of EJ that have been resolved -/
def own_CP (Z : State) (EL EJ : List (String × Nat)) (vm : Vm) (h : Heap) (vm1 : Vm) (h' : Heap) : Prop := CHv Z EL vm1 h' ∧ CHr Z EL vm h vm1 h' ∧ h'.size + 2 * own_un Z EJ vm1 ≤ h.size + 2 * own_un Z EJ vm
theorem own_CP.refl {Z : State} {EL EJ : List (String × Nat)} {vm : Vm} {h : Heap} (H : CHv Z EL vm h) : own_CP Z EL EJ vm h vm h := ⟨H, CHr.refl H, Nat.le_refl _⟩
theorem own_CP.trans {Z : State} {EL EJ : List (String × Nat)} {vm vm1 vm2 : Vm} {h h' h2 : Heap} (A : own_CP Z EL EJ vm h vm1 h') (B : own_CP Z EL EJ vm1 h' vm2 h2) : own_CP Z EL EJ vm h vm2 h2 := ⟨B.1, A.2.1.trans B.2.1, Nat.le_trans B.2.2 A.2.2⟩
theorem own_CP.safe {Z : State} {EL EJ : List (String × Nat)} {vm vm1 : Vm} {h h' : Heap} (A : own_CP Z EL EJ vm h vm1 h') {x : Addr} (hx : x < h.size) (S : Safe Z EL vm h x) : Safe Z EL vm1 h' x := A.2.1.safe hx S
theorem own_CP.wr {Z : State} {EL EJ : List (String × Nat)} {vm : Vm} {h h' : Heap} {a : Addr} {sl : Nat} {v : Value} (W : Wr h h' a sl v) (S : Safe Z EL vm h a) (H : CHv Z EL vm h) : own_CP Z EL EJ vm h vm h' := ⟨(CHr.wr W S H).1, CHr.wr W S H, by obtain ⟨c0, -, -, -, rfl⟩ := W; simp⟩
theorem own_CP.at {p : Program} {l : Launch} {e : Env} {R : Room} {s : State} {m : MethodId} {args : Array Value} {below : List Frame} {meth : Method} {c : Code} {T : State} {locs : List Loc} {cells slots : Nat} {Z : State} {a0 : Array Value} {EL : List (String × Nat)} {h : Heap} {vm0 : Vm} (EJ : List (String × Nat))
    (X : Stand p l e R (s.setVm vm0) m args below meth c T locs cells slots) (hZ : Z.Warmed39 vm0) (w : EW Z a0 EL) (H : CHv Z EL vm0 h) : own_CP Z EL EJ vm0 h T.vm h := ⟨(CHv.at X hZ w H).1, CHv.at X hZ w H, by have u := own_un_mono (show (Z.setVm vm0).Warmed39 T.vm from X.warmed.wide) EJ; omega⟩
/-- a walk's count of new cells, as small as the heap tells -/
theorem own_tight {p : Program} {l : Launch} {e : Env} {R : Room} {s : State} {m : MethodId} {args : Array Value} {below : List Frame} {meth : Method} {c : Code} {T : State} {locs : List Loc} {cells slots : Nat} (X : Stand p l e R s m args below meth c T locs cells slots) {k : Nat} (h : T.heap.size ≤ s.heap.size + k) : Stand p l e R s m args below meth c T locs k slots :=
  { X with same := ⟨X.same.1, X.same.2.1, h, X.same.2.2.2⟩ }
/-- ldc of a constant of EL, each made at most once -/
theorem own_ldc {p : Program} {l : Launch} {e : Env} {R : Room} {s : State} {m : MethodId} {args : Array Value} {below : List Frame} {meth : Method} {c : Code} {T : State} {locs : List Loc} {cells slots : Nat} {Z : State} {a0 : Array Value} {EL : List (String × Nat)} {h : Heap} {vm0 : Vm} {own text : String} {index : Nat}
    (X : Stand p l e R (s.setVm vm0) m args below meth c T locs cells slots) (hx : p.tables.exec = Jvm.exec) (hZ : Z.Warmed39 vm0) (hown : vm0.findClass own = some m.cls) (w : (Jvm.Cond.stringLink own index text).before a0 Z = true) (wS : ∀ a ∈ Bundle.stringAtoms, a.before a0 Z = true)
    (eT : T.heap = h) {k0 : Nat} (hS : s.Since vm0 k0) (hk : k0 ≤ h.size) (hEL : EW Z a0 EL) (hmem : (own, index) ∈ EL) {EJ : List (String × Nat)} (hmJ : (own, index) ∈ EJ) (H : CHv Z EL vm0 h)
    {vs : List Value} {z : Int32} (ht : (∀ c ∈ text.toList, c.toNat < 256) ∧ text.toList.map (fun c => Value.int (Jvm.Lit.byteI c.toNat.toUInt16)) = vs) (hz : ¬ z < 0) (hl : z.toNatClampNeg = vs.length)
    {g : JFrame} (hg : g.method = m) (hd : decode c.code g.pc = .ok (.ldc index, 2)) {n : Nat} (hn : 4 * text.toList.length ≤ n) (hbig : n ≤ 536870912) (hc : cells + 2 ≤ R.cells) (hl' : slots + (n + 4) ≤ R.slots) :
    ∃ (a : Addr) (T' : State) (h' : Heap) (k1 : Nat) (b : Addr) (k : ClassId), Stand p l e R (s.setVm T'.vm) m args below meth c T' locs (cells + 2) (slots + (n + 4)) ∧ T'.heap = h' ∧ Ext h h' ∧ s.Since T'.vm k1 ∧ k1 ≤ h'.size ∧ Z.Warmed39 (s.setVm T'.vm).vm ∧ (s.setVm T'.vm).vm.findClass own = some m.cls ∧
      Exa Z h' a "java/lang/String" ∧ Fld Z h' a "java/lang/String" "coder" "B" (.int 0) ∧ Fld Z h' a "java/lang/String" "value" "[B" (.ref b) ∧ Arv Z h' b k .byte z vs (.int 0) ∧ a < h'.size ∧ b < h'.size ∧ own_CP Z EL EJ vm0 h T'.vm h' ∧ Lit (s.setVm T'.vm) own index a ∧ (∀ x, Safe Z EL T'.vm h' x → x ≠ a ∧ x ≠ b) ∧
      ∀ target, Steps p.tables e below (T'.setTop { g with pc := g.pc + 2, stack := .ref a :: g.stack }) target → Steps p.tables e below (T.setTop g) target := by
  subst eT
  have hZT : Z.Warmed39 T.vm := wtrans (s := s.setVm vm0) hZ X.warmed
  have fT : T.vm.findClass own = some m.cls := by rw [X.warmed.alike.findClass]; exact hown
  have A := CHv.at X hZ hEL H
  have u0 : own_un Z EJ T.vm ≤ own_un Z EJ vm0 := own_un_mono (show (Z.setVm vm0).Warmed39 T.vm from X.warmed.wide) EJ
  obtain ⟨k, cf, i, units, c1, c2, c3, c4, c5, c6, c7⟩ := Cond.stringLink_spec (s := s.setVm T.vm) (args := args) (cur := m.cls) fT (mvS hZT w)
  rcases c7 with c7 | ⟨a, c7⟩
  · have b1 : s.heap.size ≤ T.heap.size := X.same.2.1
    have b2 : T.heap.size ≤ s.heap.size + cells := X.heapSize
    obtain ⟨a, T', X', hS', ⟨kk, hkk, hrr⟩, hb, hTW, hint, st⟩ := (own_tight X (k := T.heap.size - s.heap.size) (show T.heap.size ≤ s.heap.size + (T.heap.size - s.heap.size) by omega)).ldcColdN hx (own := own) hown (mvS hZ w) (fun d hd => by
      have q := wS d hd
      simp only [Bundle.stringAtoms, List.mem_cons, List.not_mem_nil, or_false] at hd
      rcases hd with rfl | rfl | rfl | rfl | rfl | rfl | rfl
      · exact mv (s := s.setVm vm0) hZ q
      · exact mv (s := s.setVm vm0) hZ q
      · exact mvA (s := s.setVm vm0) hZ q
      · exact mv (s := s.setVm vm0) hZ q
      · exact mv (s := s.setVm vm0) hZ q
      · exact mv (s := s.setVm vm0) hZ q
      · exact mv (s := s.setVm vm0) hZ q) hg hd hn hbig (by omega) hl'
    have E := ext_of hb
    have hW : Z.Warmed39 T'.vm := State.Warmed39.trans (t := s.setVm vm0) hZ hS'.1
    have fT' : T'.vm.findClass own = some m.cls := by rw [hS'.1.alike.findClass]; exact hown
    have D := CHv.later (vm := T.vm) (vm1 := T'.vm) hZT (show (Wst Z T.vm T.heap).Warmed39 T'.vm from hTW) hEL E (hint.imp id fun ⟨us, _, e1, e2, e3⟩ => ⟨us, a, e1, e2, fun hl => by
      obtain ⟨q, cS, hq, r1, r2, r3, r4, r5⟩ := e3 hl
      have F : SlB T' q us := ⟨cS, r1, r2, r3, r4⟩
      refine ⟨q, hq, F.carry (V := Wst Z T'.vm T'.heap) (Vm.Alike.refl _) F.ha F.hd, ?_⟩
      rcases r5 with ⟨y, -⟩ | y
      · exact absurd y (Nat.not_lt_zero _)
      · exact y⟩) A.1
    have CU : CHr Z EL vm0 T.heap T'.vm T'.heap := A.trans ⟨D.1, E.1, D.2⟩
    obtain ⟨b, kb, E1, F1, F2, V1, l1, l2, far⟩ := own_read hW fT' hkk hrr w hmem CU.1 ht hz hl
    have n0 : own_res Z T.vm (own, index) = false := by
      have c1' : T.vm.classes[m.cls]? = some k := c1
      unfold own_res; simp [State.resolvedAt?, fT, c1', c7]
    have n1 : own_res Z T'.vm (own, index) = true := by unfold own_res; simp [State.resolvedAt?, fT', hkk, hrr]
    have u1 := own_un_less (show (Z.setVm T.vm).Warmed39 T'.vm from hTW) n0 n1 EJ hmJ
    have sz : T'.heap.size ≤ s.heap.size + (T.heap.size - s.heap.size + 2) := X'.heapSize
    exact ⟨a, T', _, _, b, kb, X'.mono (by omega) (Nat.le_refl _), rfl, E, hS.trans hS' (Nat.le_trans hk E.1), Nat.le_refl _, hW, fT', E1, F1, F2, V1, l1, l2, ⟨CU.1, CU, by omega⟩, by simp [Lit, State.resolvedAt?, fT', hkk, hrr], far, st⟩
  · obtain ⟨b, kb, E1, F1, F2, V1, l1, l2, far⟩ := own_read hZT fT c1 c7 w hmem A.1 ht hz hl
    have c1' : T.vm.classes[m.cls]? = some k := c1
    have hlit : Lit (s.setVm T.vm) own index a := by simp [Lit, State.resolvedAt?, fT, c1', c7]
    subst hg
    refine ⟨a, T, _, T.heap.size, b, kb, (X.mono (by omega) (by omega)).retabled X.warmed.wide, rfl, ⟨Nat.le_refl _, fun _ _ q => q⟩, hS.trans (X.warmed.since _) hk, Nat.le_refl _, hZT, fT, E1, F1, F2, V1, l1, l2, ⟨A.1, A, by omega⟩, hlit, far, fun target hrest => ?_⟩
    jvm_step X.here [hx, hd, ldc.wp_string (e := e) (s := T) (f := g) X.here.top c1 c2 c3 c7]
    exact hrest
/-- ldc of a constant that stands resolved -/
theorem own_again {p : Program} {l : Launch} {e : Env} {R : Room} {s : State} {m : MethodId} {args : Array Value} {below : List Frame} {meth : Method} {c : Code} {T : State} {locs : List Loc} {cells slots : Nat} {Z : State} {a0 : Array Value} {vm0 : Vm} {own text : String} {index : Nat} {a : Addr}
    (X : Stand p l e R (s.setVm vm0) m args below meth c T locs cells slots) (hx : p.tables.exec = Jvm.exec) (hZ : Z.Warmed39 vm0) (hown : vm0.findClass own = some m.cls) (w : (Jvm.Cond.stringLink own index text).before a0 Z = true) (hL : Lit (s.setVm vm0) own index a)
    {g : JFrame} (hg : g.method = m) (hd : decode c.code g.pc = .ok (.ldc index, 2)) : ∀ target, Steps p.tables e below (T.setTop { g with pc := g.pc + 2, stack := .ref a :: g.stack }) target → Steps p.tables e below (T.setTop g) target := by
  intro target hrest
  have hZT : Z.Warmed39 T.vm := wtrans (s := s.setVm vm0) hZ X.warmed
  have fT : T.vm.findClass own = some m.cls := by rw [X.warmed.alike.findClass]; exact hown
  obtain ⟨k, cf, i, units, c1, c2, c3, c4, c5, c6, c7⟩ := Cond.stringLink_spec (s := s.setVm T.vm) (args := args) (cur := m.cls) fT (mvS hZT w)
  have c1' : T.vm.classes[m.cls]? = some k := c1
  have r : (s.setVm T.vm).resolvedAt? own index = some (.string a) := State.resolvedAt?_warmed39 (s := s.setVm vm0) X.warmed.wide hL
  have r' : k.resolved[index]? = some (some (.string a)) := by
    rcases c7 with c7 | ⟨b, c7⟩
    · simp [State.resolvedAt?, fT, c1', c7] at r
    · simp [State.resolvedAt?, fT, c1', c7] at r; rw [c7, r]
  subst hg
  jvm_step X.here [hx, hd, ldc.wp_string (e := e) (s := T) (f := g) X.here.top c1 c2 c3 r']
  exact hrest
/-- a call by a contract that keeps the invariant and the count -/
theorem own_backP {p : Program} {l : Launch} {e : Env} {R : Room} {s : State} {args : Array Value} {below : List Frame} {Z : State} {a0 : Array Value} {EL EJ : List (String × Nat)} {h : Heap} {vm0 : Vm} {y : MethodName} {bytes : ByteArray} {maxL : Nat} {ret : Option FieldType} {rm : Room} {len W : Nat} {as' : Array Value} {Q : Option Value → Heap → List Loc → Prop}
    (hM : MetFree l y (head1 [Jvm.Cond.code y bytes maxL ret] rm) (fun a U => a = as' ∧ Z.Warmed39 U.vm ∧ U.heap = h ∧ CHv Z EL U.vm h) (fun _ _ _ _ _ => True) (fun _ U o U' => ∃ v L, o = .returned v ∧ Q v U'.heap L ∧ own_CP Z EL EJ U.vm U.heap U'.vm U'.heap ∧ ReturnedEndW U o U' L rm.cells rm.slots))
    (hZ : Z.Warmed39 vm0) (wc : (Jvm.Cond.code y bytes maxL ret).before a0 Z = true) (wz : (Jvm.Cond.initialized y.cls).before a0 Z = true) (hf : rm.frames + 1 ≤ R.frames) (hl : W + (maxL + 11) + rm.locals ≤ R.locals) (hEL : EW Z a0 EL) (H : CHv Z EL vm0 h) :
    BackS l R p e below (s.setVm vm0) args y len W (fun A a => a = as' ∧ A.U.heap = h ∧ A.cells + rm.cells ≤ R.cells ∧ A.slots + rm.slots ≤ R.slots)
      (fun A _ v B => ∃ L, Q v B.U.heap L ∧ B.locs = A.locs ++ L ∧ B.cells = A.cells + rm.cells ∧ B.slots = A.slots + rm.slots ∧ own_CP Z EL EJ vm0 h B.U.vm B.U.heap) :=
  BackS.of_freeW (bytes := bytes) (maxL := maxL) (ret := ret) (E := fun _ first o t L k n => k = rm.cells ∧ n = rm.slots ∧ (∃ v, o = .returned v ∧ Q v t.heap L) ∧ own_CP Z EL EJ first.vm first.heap t.vm t.heap) hM hf hl
    (fun m meth c A a Y hp => have hU : Z.Warmed39 A.U.vm := wtrans (s := s.setVm vm0) hZ Y.warmed
      ⟨by show (Jvm.Cond.and _ .tt).before a A.U = true; rw [Cond.before_and, mv hU wc]; rfl, mv hU wc, mv hU wz, hp.2.2.1, hp.2.2.2⟩)
    (fun m meth c A a g mk Y hp => ⟨hp.1, wtrans (s := s.setVm vm0) hZ Y.warmed, hp.2.1, (CHv.at Y hZ hEL H).1⟩) (fun _ _ _ _ _ _ _ _ _ => trivial)
    (fun _ _ _ _ ⟨v, L, h1, h2, h3, h4⟩ => ⟨L, _, _, h4, rfl, rfl, ⟨v, h1, h2⟩, h3⟩)
    (fun m meth c A a g mk v t L k n Y hp _ _ ⟨e1, e2, ⟨v', e3, e4⟩, e5⟩ => by
      cases e3; subst e1 e2
      refine ⟨L, e4, rfl, rfl, rfl, (own_CP.at EJ Y hZ hEL H).trans ?_⟩
      rw [← hp.2.1]; exact e5)
def own_J : List (String × Nat) := [("com/example/callsite/callsite/model/JvmNames", 7), ("com/example/callsite/callsite/model/JvmNames", 43), ("com/example/callsite/callsite/model/JvmNames", 48), ("com/example/callsite/callsite/model/JvmNames", 54), ("com/example/callsite/callsite/model/JvmNames", 60), ("com/example/callsite/callsite/model/JvmNames", 62), ("com/example/callsite/callsite/model/JvmNames", 99), ("com/example/callsite/callsite/model/JvmNames", 106), ("com/example/callsite/callsite/model/JvmNames", 108)]
theorem own_wCh {Z : State} {a0 : Array Value} (hw : ∀ d ∈ tables_1, d.before a0 Z = true) : ∀ d ∈ StrChars.Road.wordsChN, d.before a0 Z = true := fun d hd => hw d ((by decide +kernel : ∀ d ∈ StrChars.Road.wordsChN, d ∈ tables_1) d hd)
theorem own_Str.open_ {Z : State} {h : Heap} {x : Addr} {cs : List Int32} (S : own_Str Z h x cs) : ∃ (t : Addr) (kb : ClassId), Exa Z h x "java/lang/String" ∧ Fld Z h x "java/lang/String" "value" "[B" (.ref t) ∧ Fld Z h x "java/lang/String" "coder" "B" (.int 0) ∧ Arv Z h t kb .byte (Int32.ofNat cs.length) (cs.map fun c => Value.int c.toInt8.toInt32) (.int 0) := by
  obtain ⟨t, kb, N, vs, a, b, c, d, r, -, -⟩ := S
  rcases r with ⟨-, rfl, rfl, -⟩ | ⟨r, -⟩
  · exact ⟨t, kb, a, b, c, d⟩
  · exact absurd r (by decide)
theorem own_pdc : parseMethodDescriptor "(I)C" = some ⟨[.int], some .char⟩ := by decide +kernel
theorem own_pde : parseMethodDescriptor "(Ljava/lang/Object;)Z" = some ⟨[.object "java/lang/Object"], some .boolean⟩ := by decide +kernel
section OwnCall
variable {p : Program} {l : Launch} {e : Env} {R : Room} {s : State} {m : MethodId} {args : Array Value} {below : List Frame} {meth : Method} {c : Code} {T A0 : State} {locs : List Loc} {cells slots : Nat} {Z : State} {a0 : Array Value} {h : Heap} {g : JFrame} {own C : String} {index : Nat} {y : MethodName} {bytes : ByteArray} {maxL : Nat} {ret : Option FieldType} {rm : Room} {as' : Array Value} {Q : Option Value → Heap → List Loc → Prop} {b : Addr} {W : Nat} {cs ds : List Int32} {z : Int32} {fm : Value}
/-- a virtual call by a body's contract -/
theorem own_cV (X : Stand p l e R s m args below meth c T locs cells slots) (hx : p.tables.exec = Jvm.exec) (hw : ∀ d ∈ tables_1, d.before a0 Z = true) (hZ : Z.Warmed39 s.vm) (hown : s.vm.findClass own = some m.cls) (eT : T.heap = h) (k : own_To p.tables e below A0 T g) (hM : own_MF l Z y [] bytes maxL ret rm as' h Q)
    (i1 i2 i3 i4 i5 i6 : Nat) (e1 : tables_1[i1]? = some (.methodLink own index y)) (e2 : tables_1[i2]? = some (.declares y)) (e3 : tables_1[i3]? = some (.selects C y y)) (e4 : tables_1[i4]? = some (.instanceMethod y)) (e5 : tables_1[i5]? = some (.code y bytes maxL ret)) (e6 : tables_1[i6]? = some (.initialized y.cls)) (Ex : Exa Z h b C)
    (hy : y.cls ≠ "java/lang/invoke/MethodHandle" ∧ y.cls ≠ "java/lang/invoke/VarHandle") (hg : g.method = m) (hsize : g.locals.size = c.maxLocals) (argsL rest : List Value) (hlen : ∀ sig, parseMethodDescriptor y.desc = some sig → argsL.length = sig.parameters.length) (hstack : g.stack = argsL.reverse ++ .ref b :: rest) (ha : (.ref b :: argsL).toArray = as') (hW : 2 * g.monitorRoom + (rest.map fun v => v.category).sum ≤ W)
    (hdg : decode c.code g.pc = .ok (.invokevirtual index, 3)) (hf : rm.frames + 1 ≤ R.frames) (hl : W + (maxL + 11) + rm.locals ≤ R.locals) (hc : cells + rm.cells ≤ R.cells) (hs : slots + rm.slots ≤ R.slots) :
    ∃ v T' L, Stand p l e R s m args below meth c T' (locs ++ L) (cells + rm.cells) (slots + rm.slots) ∧ Q v T'.heap L ∧ own_To p.tables e below A0 T' { g with pc := g.pc + 3, stack := v.toList ++ rest } := by
  obtain ⟨cB, kB, qa, qb, qc⟩ := isOf hZ eT Ex
  obtain ⟨v, vm₁, ⟨T', L', k', n'⟩, -, X', ⟨L, hQ, l1, l2, l3⟩, st⟩ := X.virtualBack hx (y := y) (z := y) hown (mvT hZ (own_h hw i1 e1)) (mvT hZ (own_h hw i2 e2)) (notFace_of_selects (args := #[]) (mvT hZ (own_h hw i3 e3))) (mvT hZ (own_h hw i3 e3)) (mvT hZ (own_h hw i4 e4)) hy (backOf (W := W) hM hZ (own_h hw i5 e5) (own_h hw i6 e6) hf hl) qa qc hg hsize (Steps.refl _) hlen hstack hW hdg (fun _ _ => ⟨ha, eT, hc, hs⟩)
  dsimp only [Pt.U, Pt.locs, Pt.cells, Pt.slots] at X' l1 l2 l3 st hQ
  subst l1 l2 l3
  exact ⟨v, T', L, X', hQ, fun t q => k t (st.trans q)⟩
/-- a static call that may intern -/
theorem own_cSS {vm0 : Vm} {k0 rc rs : Nat} {CP : Vm → Heap → Vm → Heap → Prop} (X : Stand p l e R (s.setVm vm0) m args below meth c T locs cells slots) (hx : p.tables.exec = Jvm.exec) (hw : ∀ d ∈ tables_1, d.before a0 Z = true) (hZ : Z.Warmed39 (s.setVm vm0).vm) (hown : (s.setVm vm0).vm.findClass own = some m.cls) (eT : T.heap = h) (hS : s.Since vm0 k0) (hk : k0 ≤ h.size) (k : own_To p.tables e below A0 T g)
    (hK : BackS l R p e below (s.setVm vm0) args y 3 W (fun A a => a = as' ∧ A.U.heap = h ∧ A.cells + rc ≤ R.cells ∧ A.slots + rs ≤ R.slots) (fun A _ v B => ∃ L, Q v B.U.heap L ∧ B.locs = A.locs ++ L ∧ B.cells = A.cells + rc ∧ B.slots = A.slots + rs ∧ CP vm0 h B.U.vm B.U.heap))
    (i1 i2 i3 i4 : Nat) (e1 : tables_1[i1]? = some (.methodLink own index y)) (e2 : tables_1[i2]? = some (.static y)) (e3 : tables_1[i3]? = some (.initialized y.cls)) (e4 : tables_1[i4]? = some (.code y bytes maxL ret))
    (hy : y.cls ≠ "java/lang/invoke/MethodHandle" ∧ y.cls ≠ "java/lang/invoke/VarHandle") (hg : g.method = m) (hsize : g.locals.size = c.maxLocals) (argsL rest : List Value) (hlen : ∀ sig, parseMethodDescriptor y.desc = some sig → argsL.length = sig.parameters.length) (hstack : g.stack = argsL.reverse ++ rest) (ha : argsL.toArray = as') (hW : 2 * g.monitorRoom + (rest.map fun v => v.category).sum ≤ W)
    (hdg : decode c.code g.pc = .ok (.invokestatic index, 3)) (hc : cells + rc ≤ R.cells) (hs : slots + rs ≤ R.slots) :
    ∃ v T' L h', Stand p l e R (s.setVm T'.vm) m args below meth c T' (locs ++ L) (cells + rc) (slots + rs) ∧ s.Since T'.vm h'.size ∧ Z.Warmed39 (s.setVm T'.vm).vm ∧ (s.setVm T'.vm).vm.findClass own = some m.cls ∧ T'.heap = h' ∧ Q v h' L ∧ CP vm0 h T'.vm h' ∧ own_To p.tables e below A0 T' { g with pc := g.pc + 3, stack := v.toList ++ rest } := by
  obtain ⟨v, vm₁, ⟨T', L', k', n'⟩, -, X', hS', gr, ⟨L, hQ, l1, l2, l3, CU⟩, st⟩ := callSS X hx (y := y) hown (mvT hZ (own_h hw i1 e1)) (mvT hZ (own_h hw i2 e2)) (mvT hZ (own_h hw i3 e3)) (mvT hZ (own_h hw i4 e4)) hy hK hg hsize hlen hstack hW hdg (fun _ _ => ⟨ha, eT, hc, hs⟩)
  dsimp only [Pt.U, Pt.locs, Pt.cells, Pt.slots] at X' l1 l2 l3 st hQ hS' gr CU
  subst l1 l2 l3
  obtain ⟨X', hS', hZ', hown'⟩ := rebS hS (by rw [eT]; exact hk) X' hS' gr hZ hown
  exact ⟨v, T', L, T'.heap, X', hS', hZ', hown', rfl, hQ, CU, fun t q => k t (st.trans q)⟩
/-- String.charAt -/
theorem own_cCh (X : Stand p l e R s m args below meth c T locs cells slots) (hx : p.tables.exec = Jvm.exec) (hw : ∀ d ∈ tables_1, d.before a0 Z = true) (hZ : Z.Warmed39 s.vm) (hown : s.vm.findClass own = some m.cls) (eT : T.heap = h) (k : own_To p.tables e below A0 T g) (St : own_Str Z h b cs)
    (S1 : Sta Z h "java/lang/String" "COMPACT_STRINGS" "Z" (.int z)) (hz : ¬ z = 0) (S2 : Sta Z h "jdk/internal/util/Preconditions" "SIOOBE_FORMATTER" "Ljava/util/function/BiFunction;" fm) (rf : fm.isRef = true) (i : Nat) (j : Int32) (hi : i < cs.length) (hj : j = Int32.ofNat i) {kI : Nat}
    (i1 i2 i3 i4 i5 : Nat) (hy : y = ⟨"java/lang/String", "charAt", "(I)C"⟩) (e1 : tables_1[i1]? = some (.methodLink own index y)) (e2 : tables_1[i2]? = some (.declares y)) (e3 : tables_1[i3]? = some (.selects "java/lang/String" y y)) (e4 : tables_1[i4]? = some (.instanceMethod y)) (e5 : tables_1[i5]? = some (.instantiable "java/lang/String" kI))
    (hg : g.method = m) (hsize : g.locals.size = c.maxLocals) (rest : List Value) (hstack : g.stack = .int j :: .ref b :: rest) (hW : 2 * g.monitorRoom + (rest.map fun v => v.category).sum ≤ W) (hdg : decode c.code g.pc = .ok (.invokevirtual index, 3)) (hf : 4 ≤ R.frames) (hl : W + 53 ≤ R.locals) (hc : cells ≤ R.cells) (hs : slots ≤ R.slots) :
    ∃ T', Stand p l e R s m args below meth c T' locs cells slots ∧ T'.heap = h ∧ own_To p.tables e below A0 T' { g with pc := g.pc + 3, stack := .int (cs.getD i 0) :: rest } := by
  subst hy
  obtain ⟨ta, ka, na, va, Ea, Va, Ca, Aa, ha, ba, la⟩ := St
  obtain ⟨cB, kB, qa, qb, qc⟩ := isOf hZ eT Ea
  obtain ⟨v, vm₁, ⟨T', L', k', n'⟩, -, X', ⟨L, hQ, l1, l2, l3⟩, st⟩ := X.virtualBack hx (y := ⟨"java/lang/String", "charAt", "(I)C"⟩) (z := ⟨"java/lang/String", "charAt", "(I)C"⟩) hown (mvT hZ (own_h hw i1 e1)) (mvT hZ (own_h hw i2 e2)) (notFace_of_selects (args := #[]) (mvT hZ (own_h hw i3 e3))) (mvT hZ (own_h hw i3 e3)) (mvT hZ (own_h hw i4 e4)) (by decide) (StrChars.Road.chN (W := W) hZ (own_wCh hw) (kI := kI) (own_h hw i5 e5) Ea Va Ca Aa ha ba S1 hz S2 rf la (i := i) (j := j) hi hj hf hl) qa qc hg hsize (Steps.refl _) (argsL := [.int j]) (rest := rest) (lenOf own_pdc rfl) hstack hW hdg (fun _ _ => ⟨rfl, eT, hc, hs⟩)
  dsimp only [Pt.U, Pt.locs, Pt.cells, Pt.slots] at X' l1 l2 l3 st hQ
  obtain ⟨hv, rfl, e'⟩ := hQ
  subst hv
  rw [List.append_nil] at l1
  subst l1 l2 l3
  exact ⟨T', X', e', fun t q => k t (st.trans q)⟩
/-- String.equals -/
theorem own_cEq {b' : Addr} (X : Stand p l e R s m args below meth c T locs cells slots) (hx : p.tables.exec = Jvm.exec) (hw : ∀ d ∈ tables_1, d.before a0 Z = true) (hZ : Z.Warmed39 s.vm) (hown : s.vm.findClass own = some m.cls) (eT : T.heap = h) (k : own_To p.tables e below A0 T g) (St : own_Str Z h b cs) (St' : own_Str Z h b' ds)
    (S1 : Sta Z h "java/lang/String" "COMPACT_STRINGS" "Z" (.int z)) (hz : ¬ z = 0) (r : Int32) (hr : (r = 1 ∧ cs = ds) ∨ (r = 0 ∧ ¬ cs = ds)) {kI : Nat}
    (i1 i2 i3 i4 i5 : Nat) (hy : y = ⟨"java/lang/String", "equals", "(Ljava/lang/Object;)Z"⟩) (e1 : tables_1[i1]? = some (.methodLink own index y)) (e2 : tables_1[i2]? = some (.declares y)) (e3 : tables_1[i3]? = some (.selects "java/lang/String" y y)) (e4 : tables_1[i4]? = some (.instanceMethod y)) (e5 : tables_1[i5]? = some (.instantiable "java/lang/String" kI))
    (hg : g.method = m) (hsize : g.locals.size = c.maxLocals) (rest : List Value) (hstack : g.stack = .ref b' :: .ref b :: rest) (hW : 2 * g.monitorRoom + (rest.map fun v => v.category).sum ≤ W) (hdg : decode c.code g.pc = .ok (.invokevirtual index, 3)) (hf : 2 ≤ R.frames) (hl : W + 28 ≤ R.locals) (hc : cells ≤ R.cells) (hs : slots ≤ R.slots) :
    ∃ T', Stand p l e R s m args below meth c T' locs cells slots ∧ T'.heap = h ∧ own_To p.tables e below A0 T' { g with pc := g.pc + 3, stack := .int r :: rest } := by
  subst hy
  obtain ⟨ta, ka, na, va, Ea, Va, Ca, Aa, ha, ba, la⟩ := St
  obtain ⟨tb, kb, nb, vb, Eb, Vb, Cb, Ab, hb, bb, lb⟩ := St'
  obtain ⟨cB, kB, qa, qb, qc⟩ := isOf hZ eT Ea
  obtain ⟨v, vm₁, ⟨T', L', k', n'⟩, -, X', ⟨L, hQ, l1, l2, l3⟩, st⟩ := X.virtualBack hx (y := ⟨"java/lang/String", "equals", "(Ljava/lang/Object;)Z"⟩) (z := ⟨"java/lang/String", "equals", "(Ljava/lang/Object;)Z"⟩) hown (mvT hZ (own_h hw i1 e1)) (mvT hZ (own_h hw i2 e2)) (notFace_of_selects (args := #[]) (mvT hZ (own_h hw i3 e3))) (mvT hZ (own_h hw i3 e3)) (mvT hZ (own_h hw i4 e4)) (by decide) (StrChars.Road.eqW (W := W) hZ (own_wEq hw) (kI := kI) (own_h hw i5 e5) Ea Va Ca Aa ha ba la Eb Vb Cb Ab hb bb lb S1 hz hf hl) qa qc hg hsize (Steps.refl _) (argsL := [.ref b']) (rest := rest) (lenOf own_pde rfl) hstack hW hdg (fun _ _ => ⟨rfl, eT, hc, hs⟩)
  dsimp only [Pt.U, Pt.locs, Pt.cells, Pt.slots] at X' l1 l2 l3 st hQ
  obtain ⟨hv, rfl, e'⟩ := hQ
  have hv : v = some (.int r) := by
    rcases hr with ⟨rfl, a⟩ | ⟨rfl, a⟩
    · exact hv.elim (fun q => q.1) (fun q => absurd a q.2)
    · exact hv.elim (fun q => absurd q.2 a) (fun q => q.1)
  subst hv
  rw [List.append_nil] at l1
  subst l1 l2 l3
  exact ⟨T', X', e', fun t q => k t (st.trans q)⟩
end OwnCall
abbrev ow_L (p1 p2 p3 p4 p5 p6 : Int32) (x6 : Slot := .unset) (x7 : Slot := .unset) (x8 : Slot := .unset) (x9 : Slot := .unset) (x10 : Slot := .unset) (x11 : Slot := .unset) (x12 : Slot := .unset) (x13 : Slot := .unset) (x14 : Slot := .unset) (x15 : Slot := .unset) (x16 : Slot := .unset) (x17 : Slot := .unset) (x18 : Slot := .unset) (x19 : Slot := .unset) (x20 : Slot := .unset) (x21 : Slot := .unset) (x22 : Slot := .unset) (x23 : Slot := .unset) (x24 : Slot := .unset) : Array Slot := #[ow_i p1, ow_i p2, ow_i p3, ow_i p4, ow_i p5, ow_i p6, x6, x7, x8, x9, x10, x11, x12, x13, x14, x15, x16, x17, x18, x19, x20, x21, x22, x23, x24]
theorem own_d23 : own_all jdk_42_method_152_code [(0, .getstatic 38, 3), (3, .ifCond .eq 10, 3), (6, .aload_n 0, 1), (7, .getfield 15, 3), (10, .goto 4, 3), (14, .ireturn, 1)] := by decide +kernel
theorem own_ef23 (m : MethodId) (x0 : Addr) : entryFrame m #[(.ref x0)] 1 = mkF m 0 #[ow_r x0] [] := by first | (simp [entryFrame, mkF, argsToLocals, Value.category]; done) | rfl
theorem own_pn23 : plainName "java/lang/String" = true := by first | (simp [plainName, overriddenIn]; done) | decide +kernel
def own_f23 : Int32 := (0 : Int32)
set_option maxRecDepth 65536 in
set_option maxHeartbeats 40000000 in
theorem own_m23 (l : Launch) (Z : State) (a0 : Array Value) (hw : ∀ d ∈ tables_1, d.before a0 Z = true) (ws : List Jvm.Cond) (a1 : Addr) (w_COMPACT_STRINGS : Int32) (h0 : Heap) (n0 : Nat) (Z0 : n0 ≤ h0.size) (S_COMPACT_STRINGS : Sta Z h0 "java/lang/String" "COMPACT_STRINGS" "Z" (.int w_COMPACT_STRINGS)) (F_coder_a1 : Fld Z h0 a1 "java/lang/String" "coder" "B" (.int 0)) (hz : ¬ (w_COMPACT_STRINGS = (0 : Int32))) :
    own_MF l Z own_y23 ws jdk_42_method_152_code 1 (some .byte) ({ frames := 0, cells := 0, slots := 0, locals := 0 } : Room) #[(.ref a1)] h0 (own_Q (some (.int own_f23)) h0 n0) := by
  refine own_go "java/lang/String" rfl (plainFor_of_name own_pn23) (fun m => own_ef23 m a1) own_d23 n0 fun p e s m below meth c s₁ A0 Bd hx D hml hown hnm X0 hZ e0 N0 k => ?_
  obtain ⟨T1, X1, e1, st1⟩ := getS2 X0 hx hZ hown (host := "") (Or.inl (own_h hw 21 rfl)) Via.refl e0 S_COMPACT_STRINGS (g := (mkF m 0 #[ow_r a1] [])) rfl (D 0 rfl)
  replace k : ow T1 (mkF m 3 #[ow_r a1] [(.int w_COMPACT_STRINGS)]) := fun t q => k t (st1 t q)
  clear st1
  replace k : ow T1 (mkF m 6 #[ow_r a1] []) := fun t q => k t (XS.ifNo X1.here hx rfl (D 1 rfl) rfl ((if0 _ _).trans (feq (show ¬ (w_COMPACT_STRINGS = (0 : Int32)) from hz)).1) q)
  obtain ⟨T2, X2, e2, st2⟩ := getF X1 hx hZ hown (host := "") (Or.inl (own_h hw 33 rfl)) Via.refl e1 F_coder_a1 (g := (mkF m 7 #[ow_r a1] [(.ref a1)])) rfl rfl (D 3 rfl)
  replace k : ow T2 (mkF m 10 #[ow_r a1] [(.int 0)]) := fun t q => k t (XS.aloadN X1.here hx rfl (D 2 rfl) rfl rfl (st2 t q))
  clear st2
  replace k : ow T2 (mkF m 14 #[ow_r a1] [(.int 0)]) := fun t q => k t (XS.goto X2.here hx rfl (pc0 := 10) (pc' := 14) rfl (D 4 rfl) (by decide) (by decide) q)
  exact own_end (v := some (.int 0)) X2 e2 Bd.notSynchronized (own_vn Bd.returns) k (fun _ hr => retN X2 hx (t := .byte) Bd.returns (by simp) (D 5 rfl) (by first | exact hr | (rw [show nar .byte (0 : Int32) = (0 : Int32) from by decide]; exact hr))) ⟨by rw [show (own_f23) = (0 : Int32) from by unfold own_f23; rfl], N0, rfl⟩ (by decide) (by decide)
theorem own_d13 : own_all jdk_42_method_154_code [(0, .getstatic 38, 3), (3, .ifCond .eq 14, 3), (6, .aload_n 0, 1), (7, .getfield 15, 3), (10, .ifCond .ne 7, 3), (13, .iconst 1, 1), (14, .goto 4, 3), (18, .ireturn, 1)] := by decide +kernel
theorem own_ef13 (m : MethodId) (x0 : Addr) : entryFrame m #[(.ref x0)] 1 = mkF m 0 #[ow_r x0] [] := by first | (simp [entryFrame, mkF, argsToLocals, Value.category]; done) | rfl
theorem own_pn13 : plainName "java/lang/String" = true := by first | (simp [plainName, overriddenIn]; done) | decide +kernel
def own_f13 : Int32 := (1 : Int32)
set_option maxRecDepth 65536 in
set_option maxHeartbeats 40000000 in
theorem own_m13 (l : Launch) (Z : State) (a0 : Array Value) (hw : ∀ d ∈ tables_1, d.before a0 Z = true) (ws : List Jvm.Cond) (a1 : Addr) (w_COMPACT_STRINGS : Int32) (h0 : Heap) (n0 : Nat) (Z0 : n0 ≤ h0.size) (S_COMPACT_STRINGS : Sta Z h0 "java/lang/String" "COMPACT_STRINGS" "Z" (.int w_COMPACT_STRINGS)) (F_coder_a1 : Fld Z h0 a1 "java/lang/String" "coder" "B" (.int 0)) (hz : ¬ (w_COMPACT_STRINGS = (0 : Int32))) :
    own_MF l Z own_y13 ws jdk_42_method_154_code 1 (some .boolean) ({ frames := 0, cells := 0, slots := 0, locals := 0 } : Room) #[(.ref a1)] h0 (own_Q (some (.int own_f13)) h0 n0) := by
  refine own_go "java/lang/String" rfl (plainFor_of_name own_pn13) (fun m => own_ef13 m a1) own_d13 n0 fun p e s m below meth c s₁ A0 Bd hx D hml hown hnm X0 hZ e0 N0 k => ?_
  obtain ⟨T1, X1, e1, st1⟩ := getS2 X0 hx hZ hown (host := "") (Or.inl (own_h hw 21 rfl)) Via.refl e0 S_COMPACT_STRINGS (g := (mkF m 0 #[ow_r a1] [])) rfl (D 0 rfl)
  replace k : ow T1 (mkF m 3 #[ow_r a1] [(.int w_COMPACT_STRINGS)]) := fun t q => k t (st1 t q)
  clear st1
  replace k : ow T1 (mkF m 6 #[ow_r a1] []) := fun t q => k t (XS.ifNo X1.here hx rfl (D 1 rfl) rfl ((if0 _ _).trans (feq (show ¬ (w_COMPACT_STRINGS = (0 : Int32)) from hz)).1) q)
  obtain ⟨T2, X2, e2, st2⟩ := getF X1 hx hZ hown (host := "") (Or.inl (own_h hw 33 rfl)) Via.refl e1 F_coder_a1 (g := (mkF m 7 #[ow_r a1] [(.ref a1)])) rfl rfl (D 3 rfl)
  replace k : ow T2 (mkF m 10 #[ow_r a1] [(.int 0)]) := fun t q => k t (XS.aloadN X1.here hx rfl (D 2 rfl) rfl rfl (st2 t q))
  clear st2
  replace k : ow T2 (mkF m 13 #[ow_r a1] []) := fun t q => k t (XS.ifNo X2.here hx rfl (D 4 rfl) rfl ((if0 _ _).trans (teq (show (0 : Int32) = (0 : Int32) from (by decide))).2) q)
  replace k : ow T2 (mkF m 18 #[ow_r a1] [(.int 1)]) := fun t q => k t (XS.iconst X2.here hx rfl (D 5 rfl) (XS.goto X2.here hx rfl (pc0 := 14) (pc' := 18) rfl (D 6 rfl) (by decide) (by decide) q))
  exact own_end (v := some (.int 1)) X2 e2 Bd.notSynchronized (own_vn Bd.returns) k (fun _ hr => retN X2 hx (t := .boolean) Bd.returns (by simp) (D 7 rfl) (by first | exact hr | (rw [show nar .boolean (1 : Int32) = (1 : Int32) from by decide]; exact hr))) ⟨by rw [show (own_f13) = (1 : Int32) from by unfold own_f13; rfl], N0, rfl⟩ (by decide) (by decide)
theorem own_sh0 (x : Int32) : x >>> ((0 : Int32) &&& 31) = x := by
  have : ((0 : Int32) &&& 31) = 0 := by decide
  rw [this]; exact Int32.shiftRight_zero
theorem own_ofl {n : Nat} (h : n ≤ 4000) : (Int32.ofNat n).toInt = n := Int32.toInt_ofNat_small (by omega)
theorem own_cl {n : Nat} (h : n ≤ 4000) : (Int32.ofNat n).toNatClampNeg = n := by
  have e := own_ofl h
  unfold Int32.toNatClampNeg; rw [e]; simp
theorem own_ilt {i n : Nat} (h : i < n) (hl : n ≤ 4000) : Int32.ofNat i < Int32.ofNat n := by rw [Int32.lt_iff_toInt_lt, own_ofl hl, own_ofl (by omega)]; omega
theorem own_nlt {i n : Nat} (h : n ≤ i) (hl : i ≤ 4000) : ¬ (Int32.ofNat i < Int32.ofNat n) := by rw [Int32.lt_iff_toInt_lt, own_ofl hl, own_ofl (by omega)]; omega
theorem own_succ (i : Nat) : Int32.ofNat (i + 1) = Int32.ofNat i + (1 : Int32) := Int32.ofNat_add i 1
theorem own_getm {bs : List Int32} {i : Nat} {b : Int32} {d : Value} (h : bs[i]? = some b) : (bs.map Value.int).getD i d = .int b := by simp [List.getD_eq_getElem?_getD, h]
theorem own_drop {bs : List Int32} {i : Nat} {b : Int32} (h : bs[i]? = some b) : bs.drop i = b :: bs.drop (i + 1) := by
  obtain ⟨hi, e⟩ := List.getElem?_eq_some_iff.mp h
  rw [← e]; exact List.drop_eq_getElem_cons hi
/-- where x stands first in a list, counted from i -/
def own_ixA (x : Int32) : List Int32 → Nat → Int32
  | [], _ => -1
  | b :: bs, i => if b = x then Int32.ofNat i else own_ixA x bs (i + 1)
/-- where two lists differ first, counted from i -/
def own_mmA : List Int32 → List Int32 → Nat → Int32
  | a :: as, b :: bs, i => if a = b then own_mmA as bs (i + 1) else Int32.ofNat i
  | _, _, _ => -1
theorem own_mmA_nil (l : List Int32) (i : Nat) : own_mmA l [] i = -1 := by cases l <;> rfl
theorem own_subo {o m n : Nat} (h : o + m = n) : Int32.ofNat n - Int32.ofNat m = Int32.ofNat o := by
  subst h; rw [Int32.ofNat_add]; exact Int32.add_sub_cancel _ _
theorem own_subl {o m n : Nat} (h : o + m ≤ n) (hl : n ≤ 60) : ¬ (Int32.ofNat n - Int32.ofNat m < Int32.ofNat o) := by
  rw [own_subo (o := n - m) (by omega)]; exact own_nlt (by omega) (by omega)
theorem own_d22 : own_all jdk_42_method_54_code [(0, .aload_n 0, 1), (1, .getfield 9, 3), (4, .arraylength, 1), (5, .aload_n 0, 1), (6, .invokevirtual 335, 3), (9, .ishr, 1), (10, .ireturn, 1)] := by decide +kernel
theorem own_pd0 : parseMethodDescriptor "()B" = some ⟨[], some .byte⟩ := by decide +kernel
theorem own_ef22 (m : MethodId) (x0 : Addr) : entryFrame m #[(.ref x0)] 1 = mkF m 0 #[ow_r x0] [] := by first | (simp [entryFrame, mkF, argsToLocals, Value.category]; done) | rfl
theorem own_pn22 : plainName "java/lang/String" = true := by first | (simp [plainName, overriddenIn]; done) | decide +kernel
def own_f22 (bs : List Int32) : Int32 := (Int32.ofNat bs.length)
set_option maxRecDepth 65536 in
set_option maxHeartbeats 40000000 in
theorem own_m22 (l : Launch) (Z : State) (a0 : Array Value) (hw : ∀ d ∈ tables_1, d.before a0 Z = true) (ws : List Jvm.Cond) (a1 : Addr) (bs : List Int32) (w_value_a1 : Addr) (kc_w_value_a1 : ClassId) (w_COMPACT_STRINGS : Int32) (h0 : Heap) (n0 : Nat) (Z0 : n0 ≤ h0.size) (F_value_a1 : Fld Z h0 a1 "java/lang/String" "value" "[B" (.ref w_value_a1)) (V_w_value_a1 : Arv Z h0 w_value_a1 kc_w_value_a1 .byte (Int32.ofNat bs.length) (bs.map Value.int) (.int 0)) (S_COMPACT_STRINGS : Sta Z h0 "java/lang/String" "COMPACT_STRINGS" "Z" (.int w_COMPACT_STRINGS)) (F_coder_a1 : Fld Z h0 a1 "java/lang/String" "coder" "B" (.int 0)) (E_a1 : Exa Z h0 a1 "java/lang/String") (hz : ¬ (w_COMPACT_STRINGS = (0 : Int32))) :
    own_MF l Z own_y22 ws jdk_42_method_54_code 1 (some .int) ({ frames := 1, cells := 0, slots := 0, locals := 13 } : Room) #[(.ref a1)] h0 (own_Q (some (.int (own_f22 bs))) h0 n0) := by
  refine own_go "java/lang/String" rfl (plainFor_of_name own_pn22) (fun m => own_ef22 m a1) own_d22 n0 fun p e s m below meth c s₁ A0 Bd hx D hml hown hnm X0 hZ e0 N0 k => ?_
  obtain ⟨T1, X1, e1, st1⟩ := getF X0 hx hZ hown (host := "") (Or.inl (own_h hw 35 rfl)) Via.refl e0 F_value_a1 (g := (mkF m 1 #[ow_r a1] [(.ref a1)])) rfl rfl (D 1 rfl)
  replace k : ow T1 (mkF m 4 #[ow_r a1] [(.ref w_value_a1)]) := fun t q => k t (XS.aloadN X0.here hx rfl (D 0 rfl) rfl rfl (st1 t q))
  clear st1
  obtain ⟨cl2, Ar2, qa2, Sa2, Na2, Ha2, Ga2⟩ := id V_w_value_a1
  replace k : ow T1 (mkF m 5 #[ow_r a1] [(.int (Int32.ofNat bs.length))]) := fun t q => k t (X1.arraylength hx (by rw [e1]; exact Ar2.1) (State.isArrayOf_alike hZ.alike Ar2.2.1) (g := (mkF m 4 #[ow_r a1] [(.ref w_value_a1)])) rfl rfl (D 2 rfl) _ (by rw [len_of Sa2 Na2]; exact q))
  replace k : ow T1 (mkF m 6 #[ow_r a1] [(.ref a1), (.int (Int32.ofNat bs.length))]) := fun t q => k t (XS.aloadN X1.here hx rfl (D 3 rfl) rfl rfl q)
  obtain ⟨_, T3, L3, X3, hQ3, k⟩ := own_cV X1 hx hw hZ hown e1 k (own_m23 l Z a0 hw [] a1 w_COMPACT_STRINGS h0 n0 Z0 S_COMPACT_STRINGS F_coder_a1 hz) 103 104 106 105 107 9 rfl rfl rfl rfl rfl rfl E_a1 (by decide) rfl (by rw [hml]; rfl) [] [(.int (Int32.ofNat bs.length))] (lenOf own_pd0 rfl) rfl rfl (W := 1) own_le (D 4 rfl) (by decide) (by decide) (by decide) (by decide)
  rw [show own_f23 = (0 : Int32) from rfl] at hQ3
  obtain ⟨rfl, N3q, e3⟩ := hQ3
  have N3 := Fr.app N0 N3q
  replace k : ow T3 (mkF m 10 #[ow_r a1] [(.int (Int32.ofNat bs.length))]) := fun t q => k t (XS.ishr X3.here hx rfl (D 5 rfl) rfl (by rw [own_sh0]; exact q))
  exact own_end (v := some (.int (Int32.ofNat bs.length))) X3 e3 Bd.notSynchronized (own_vn Bd.returns) k (fun _ hr => retI X3 hx Bd.returns (D 6 rfl) hr) ⟨by rw [show (own_f22 bs) = (Int32.ofNat bs.length) from by unfold own_f22; rfl], N3, rfl⟩ (by decide) (by decide)
theorem own_d30 : own_all jdk_29_method_65_code [(0, .iload_n 0, 1), (1, .iload_n 1, 1), (2, .if_icmp .lt 7, 3), (9, .iload_n 1, 1), (10, .ireturn, 1), (5, .iload_n 0, 1), (6, .goto 4, 3)] := by decide +kernel
theorem own_ef30 (m : MethodId) (x0 : Int32) (x1 : Int32) : entryFrame m #[(.int x0), (.int x1)] 2 = mkF m 0 #[ow_i x0, ow_i x1] [] := by first | (simp [entryFrame, mkF, argsToLocals, Value.category]; done) | rfl
def own_f30 (p1 : Int32) (p2 : Int32) : Int32 := (if p1 < p2 then p2 else p1)
set_option maxRecDepth 65536 in
set_option maxHeartbeats 40000000 in
theorem own_m30 (l : Launch) (Z : State) (a0 : Array Value) (hw : ∀ d ∈ tables_1, d.before a0 Z = true) (ws : List Jvm.Cond) (p1 : Int32) (p2 : Int32) (h0 : Heap) (n0 : Nat) (Z0 : n0 ≤ h0.size) :
    own_MF l Z own_y30 ws jdk_29_method_65_code 2 (some .int) ({ frames := 0, cells := 0, slots := 0, locals := 0 } : Room) #[(.int p1), (.int p2)] h0 (own_Q (some (.int (own_f30 p1 p2))) h0 n0) := by
  refine own_go "java/lang/Math" rfl (Jvm.Free.JP.mathPlain rfl (by decide +kernel)) (fun m => own_ef30 m p1 p2) own_d30 n0 fun p e s m below meth c s₁ A0 Bd hx D hml hown hnm X0 hZ e0 N0 k => ?_
  by_cases hc1 : p1 < p2
  · replace k : ow s₁ (mkF m 9 #[ow_i p1, ow_i p2] []) := fun t q => k t (XS.iloadN X0.here hx rfl (D 0 rfl) rfl (XS.iloadN X0.here hx rfl (D 1 rfl) rfl (XS.icmpYes X0.here hx rfl (pc0 := 2) (pc' := 9) rfl (D 2 rfl) rfl (tlt (show p1 < p2 from hc1)).1 (by decide) (by decide) q)))
    replace k : ow s₁ (mkF m 10 #[ow_i p1, ow_i p2] [(.int p2)]) := fun t q => k t (XS.iloadN X0.here hx rfl (D 3 rfl) rfl q)
    exact own_end (v := some (.int p2)) X0 e0 Bd.notSynchronized (own_vn Bd.returns) k (fun _ hr => retI X0 hx Bd.returns (D 4 rfl) hr) ⟨by rw [show (own_f30 p1 p2) = p2 from by unfold own_f30; rw [if_pos hc1]], N0, rfl⟩ (by decide) (by decide)
  · replace k : ow s₁ (mkF m 5 #[ow_i p1, ow_i p2] []) := fun t q => k t (XS.iloadN X0.here hx rfl (D 0 rfl) rfl (XS.iloadN X0.here hx rfl (D 1 rfl) rfl (XS.icmpNo X0.here hx rfl (D 2 rfl) rfl (flt (show ¬ (p1 < p2) from hc1)).1 q)))
    replace k : ow s₁ (mkF m 10 #[ow_i p1, ow_i p2] [(.int p1)]) := fun t q => k t (XS.iloadN X0.here hx rfl (D 5 rfl) rfl (XS.goto X0.here hx rfl (pc0 := 6) (pc' := 10) rfl (D 6 rfl) (by decide) (by decide) q))
    exact own_end (v := some (.int p1)) X0 e0 Bd.notSynchronized (own_vn Bd.returns) k (fun _ hr => retI X0 hx Bd.returns (D 4 rfl) hr) ⟨by rw [show (own_f30 p1 p2) = p1 from by unfold own_f30; rw [if_neg hc1]], N0, rfl⟩ (by decide) (by decide)
theorem own_d31 : own_all jdk_29_method_69_code [(0, .iload_n 0, 1), (1, .iload_n 1, 1), (2, .if_icmp .gt 7, 3), (9, .iload_n 1, 1), (10, .ireturn, 1), (5, .iload_n 0, 1), (6, .goto 4, 3)] := by decide +kernel
theorem own_ef31 (m : MethodId) (x0 : Int32) (x1 : Int32) : entryFrame m #[(.int x0), (.int x1)] 2 = mkF m 0 #[ow_i x0, ow_i x1] [] := by first | (simp [entryFrame, mkF, argsToLocals, Value.category]; done) | rfl
def own_f31 (p1 : Int32) (p2 : Int32) : Int32 := (if p2 < p1 then p2 else p1)
set_option maxRecDepth 65536 in
set_option maxHeartbeats 40000000 in
theorem own_m31 (l : Launch) (Z : State) (a0 : Array Value) (hw : ∀ d ∈ tables_1, d.before a0 Z = true) (ws : List Jvm.Cond) (p1 : Int32) (p2 : Int32) (h0 : Heap) (n0 : Nat) (Z0 : n0 ≤ h0.size) :
    own_MF l Z own_y31 ws jdk_29_method_69_code 2 (some .int) ({ frames := 0, cells := 0, slots := 0, locals := 0 } : Room) #[(.int p1), (.int p2)] h0 (own_Q (some (.int (own_f31 p1 p2))) h0 n0) := by
  refine own_go "java/lang/Math" rfl (Jvm.Free.JP.mathPlain rfl (by decide +kernel)) (fun m => own_ef31 m p1 p2) own_d31 n0 fun p e s m below meth c s₁ A0 Bd hx D hml hown hnm X0 hZ e0 N0 k => ?_
  by_cases hc1 : p2 < p1
  · replace k : ow s₁ (mkF m 9 #[ow_i p1, ow_i p2] []) := fun t q => k t (XS.iloadN X0.here hx rfl (D 0 rfl) rfl (XS.iloadN X0.here hx rfl (D 1 rfl) rfl (XS.icmpYes X0.here hx rfl (pc0 := 2) (pc' := 9) rfl (D 2 rfl) rfl (tlt (show p2 < p1 from hc1)).2.2.1 (by decide) (by decide) q)))
    replace k : ow s₁ (mkF m 10 #[ow_i p1, ow_i p2] [(.int p2)]) := fun t q => k t (XS.iloadN X0.here hx rfl (D 3 rfl) rfl q)
    exact own_end (v := some (.int p2)) X0 e0 Bd.notSynchronized (own_vn Bd.returns) k (fun _ hr => retI X0 hx Bd.returns (D 4 rfl) hr) ⟨by rw [show (own_f31 p1 p2) = p2 from by unfold own_f31; rw [if_pos hc1]], N0, rfl⟩ (by decide) (by decide)
  · replace k : ow s₁ (mkF m 5 #[ow_i p1, ow_i p2] []) := fun t q => k t (XS.iloadN X0.here hx rfl (D 0 rfl) rfl (XS.iloadN X0.here hx rfl (D 1 rfl) rfl (XS.icmpNo X0.here hx rfl (D 2 rfl) rfl (flt (show ¬ (p2 < p1) from hc1)).2.2.1 q)))
    replace k : ow s₁ (mkF m 10 #[ow_i p1, ow_i p2] [(.int p1)]) := fun t q => k t (XS.iloadN X0.here hx rfl (D 5 rfl) rfl (XS.goto X0.here hx rfl (pc0 := 6) (pc' := 10) rfl (D 6 rfl) (by decide) (by decide) q))
    exact own_end (v := some (.int p1)) X0 e0 Bd.notSynchronized (own_vn Bd.returns) k (fun _ hr => retI X0 hx Bd.returns (D 4 rfl) hr) ⟨by rw [show (own_f31 p1 p2) = p1 from by unfold own_f31; rw [if_neg hc1]], N0, rfl⟩ (by decide) (by decide)
theorem own_d29 : own_all jdk_43_method_4_code [(0, .iload_n 0, 1), (1, .ifCond .lt 14, 3), (15, .iconst 0, 1), (16, .ireturn, 1), (4, .iload_n 0, 1), (5, .sipush 255, 3), (8, .if_icmp .gt 7, 3), (11, .iconst 1, 1), (12, .goto 4, 3)] := by decide +kernel
theorem own_ef29 (m : MethodId) (x0 : Int32) : entryFrame m #[(.int x0)] 1 = mkF m 0 #[ow_i x0] [] := by first | (simp [entryFrame, mkF, argsToLocals, Value.category]; done) | rfl
theorem own_pn29 : plainName "java/lang/StringLatin1" = true := by first | (simp [plainName, overriddenIn]; done) | decide +kernel
def own_f29 (p1 : Int32) : Int32 := (if p1 < (0 : Int32) then (0 : Int32) else (if (255 : Int32) < p1 then (0 : Int32) else (1 : Int32)))
set_option maxRecDepth 65536 in
set_option maxHeartbeats 40000000 in
theorem own_m29 (l : Launch) (Z : State) (a0 : Array Value) (hw : ∀ d ∈ tables_1, d.before a0 Z = true) (ws : List Jvm.Cond) (p1 : Int32) (h0 : Heap) (n0 : Nat) (Z0 : n0 ≤ h0.size) :
    own_MF l Z own_y29 ws jdk_43_method_4_code 1 (some .boolean) ({ frames := 0, cells := 0, slots := 0, locals := 0 } : Room) #[(.int p1)] h0 (own_Q (some (.int (own_f29 p1))) h0 n0) := by
  refine own_go "java/lang/StringLatin1" rfl (plainFor_of_name own_pn29) (fun m => own_ef29 m p1) own_d29 n0 fun p e s m below meth c s₁ A0 Bd hx D hml hown hnm X0 hZ e0 N0 k => ?_
  by_cases hc1 : p1 < (0 : Int32)
  · replace k : ow s₁ (mkF m 15 #[ow_i p1] []) := fun t q => k t (XS.iloadN X0.here hx rfl (D 0 rfl) rfl (XS.ifYes X0.here hx rfl (pc0 := 1) (pc' := 15) rfl (D 1 rfl) rfl ((if0 _ _).trans (tlt (show p1 < (0 : Int32) from hc1)).1) (by decide) (by decide) q))
    replace k : ow s₁ (mkF m 16 #[ow_i p1] [(.int 0)]) := fun t q => k t (XS.iconst X0.here hx rfl (D 2 rfl) q)
    exact own_end (v := some (.int 0)) X0 e0 Bd.notSynchronized (own_vn Bd.returns) k (fun _ hr => retN X0 hx (t := .boolean) Bd.returns (by simp) (D 3 rfl) (by first | exact hr | (rw [show nar .boolean (0 : Int32) = (0 : Int32) from by decide]; exact hr))) ⟨by rw [show (own_f29 p1) = (0 : Int32) from by unfold own_f29; rw [if_pos hc1]], N0, rfl⟩ (by decide) (by decide)
  · replace k : ow s₁ (mkF m 4 #[ow_i p1] []) := fun t q => k t (XS.iloadN X0.here hx rfl (D 0 rfl) rfl (XS.ifNo X0.here hx rfl (D 1 rfl) rfl ((if0 _ _).trans (flt (show ¬ (p1 < (0 : Int32)) from hc1)).1) q))
    by_cases hc2 : (255 : Int32) < p1
    · replace k : ow s₁ (mkF m 15 #[ow_i p1] []) := fun t q => k t (XS.iloadN X0.here hx rfl (D 4 rfl) rfl (XS.sipush X0.here hx rfl (D 5 rfl) (XS.icmpYes X0.here hx rfl (pc0 := 8) (pc' := 15) rfl (D 6 rfl) rfl (tlt (show (255 : Int32) < p1 from hc2)).2.2.1 (by decide) (by decide) q)))
      replace k : ow s₁ (mkF m 16 #[ow_i p1] [(.int 0)]) := fun t q => k t (XS.iconst X0.here hx rfl (D 2 rfl) q)
      exact own_end (v := some (.int 0)) X0 e0 Bd.notSynchronized (own_vn Bd.returns) k (fun _ hr => retN X0 hx (t := .boolean) Bd.returns (by simp) (D 3 rfl) (by first | exact hr | (rw [show nar .boolean (0 : Int32) = (0 : Int32) from by decide]; exact hr))) ⟨by rw [show (own_f29 p1) = (0 : Int32) from by unfold own_f29; rw [if_neg hc1, if_pos hc2]], N0, rfl⟩ (by decide) (by decide)
    · replace k : ow s₁ (mkF m 11 #[ow_i p1] []) := fun t q => k t (XS.iloadN X0.here hx rfl (D 4 rfl) rfl (XS.sipush X0.here hx rfl (D 5 rfl) (XS.icmpNo X0.here hx rfl (D 6 rfl) rfl (flt (show ¬ ((255 : Int32) < p1) from hc2)).2.2.1 q)))
      replace k : ow s₁ (mkF m 16 #[ow_i p1] [(.int 1)]) := fun t q => k t (XS.iconst X0.here hx rfl (D 7 rfl) (XS.goto X0.here hx rfl (pc0 := 12) (pc' := 16) rfl (D 8 rfl) (by decide) (by decide) q))
      exact own_end (v := some (.int 1)) X0 e0 Bd.notSynchronized (own_vn Bd.returns) k (fun _ hr => retN X0 hx (t := .boolean) Bd.returns (by simp) (D 3 rfl) (by first | exact hr | (rw [show nar .boolean (1 : Int32) = (1 : Int32) from by decide]; exact hr))) ⟨by rw [show (own_f29 p1) = (1 : Int32) from by unfold own_f29; rw [if_neg hc1, if_neg hc2]], N0, rfl⟩ (by decide) (by decide)
theorem own_d32 : own_all jdk_43_method_23_code [(0, .iload_n 1, 1), (1, .i2b, 1), (2, .istore 4, 2), (4, .iload_n 2, 1), (5, .istore 5, 2), (7, .iload 5, 2), (9, .iload_n 3, 1), (10, .if_icmp .ge 21, 3), (31, .iconst (-1), 1), (32, .ireturn, 1), (13, .aload_n 0, 1), (14, .iload 5, 2), (16, .baload, 1), (17, .iload 4, 2), (19, .if_icmp .ne 6, 3), (22, .iload 5, 2), (24, .ireturn, 1), (25, .iinc 5 1, 3), (28, .goto (-21), 3)] := by decide +kernel
theorem own_ef32 (m : MethodId) (x0 : Addr) (x1 : Int32) (x2 : Int32) (x3 : Int32) : entryFrame m #[(.ref x0), (.int x1), (.int x2), (.int x3)] 6 = mkF m 0 #[ow_r x0, ow_i x1, ow_i x2, ow_i x3, .unset, .unset] [] := by first | (simp [entryFrame, mkF, argsToLocals, Value.category]; done) | rfl
theorem own_pn32 : plainName "java/lang/StringLatin1" = true := by first | (simp [plainName, overriddenIn]; done) | decide +kernel
def own_f32 (p2 : Int32) (bs : List Int32) (f : Nat) : Int32 := (own_ixA (p2.toInt8.toInt32) (bs.drop f) f)
set_option maxRecDepth 65536 in
set_option maxHeartbeats 40000000 in
theorem own_m32 (l : Launch) (Z : State) (a0 : Array Value) (hw : ∀ d ∈ tables_1, d.before a0 Z = true) (ws : List Jvm.Cond) (a1 : Addr) (p2 : Int32) (bs : List Int32) (f : Nat) (kc_a1 : ClassId) (h0 : Heap) (n0 : Nat) (Z0 : n0 ≤ h0.size) (V_a1 : Arv Z h0 a1 kc_a1 .byte (Int32.ofNat bs.length) (bs.map Value.int) (.int 0)) (hl_bs : bs.length ≤ 60) (hf : f < bs.length) :
    own_MF l Z own_y32 ws jdk_43_method_23_code 6 (some .int) ({ frames := 0, cells := 0, slots := 0, locals := 0 } : Room) #[(.ref a1), (.int p2), (.int (Int32.ofNat f)), (.int (Int32.ofNat bs.length))] h0 (own_Q (some (.int (own_f32 p2 bs f))) h0 n0) := by
  refine own_go "java/lang/StringLatin1" rfl (plainFor_of_name own_pn32) (fun m => own_ef32 m a1 p2 (Int32.ofNat f) (Int32.ofNat bs.length)) own_d32 n0 fun p e s m below meth c s₁ A0 Bd hx D hml hown hnm X0 hZ e0 N0 k => ?_
  replace k : ow s₁ (mkF m 1 #[ow_r a1, ow_i p2, ow_i (Int32.ofNat f), ow_i (Int32.ofNat bs.length), .unset, .unset] [(.int p2)]) := fun t q => k t (XS.iloadN X0.here hx rfl (D 0 rfl) rfl q)
  replace k : ow s₁ (mkF m 2 #[ow_r a1, ow_i p2, ow_i (Int32.ofNat f), ow_i (Int32.ofNat bs.length), .unset, .unset] [(.int (p2.toInt8.toInt32))]) := fun t q => k t (XS.i2b X0.here hx rfl (D 1 rfl) rfl q)
  replace k : ow s₁ (mkF m 7 #[ow_r a1, ow_i p2, ow_i (Int32.ofNat f), ow_i (Int32.ofNat bs.length), ow_i (p2.toInt8.toInt32), ow_i (Int32.ofNat f)] []) := fun t q => k t (XS.istore X0.here hx rfl (D 2 rfl) rfl (l' := #[ow_r a1, ow_i p2, ow_i (Int32.ofNat f), ow_i (Int32.ofNat bs.length), ow_i (p2.toInt8.toInt32), .unset]) rfl (XS.iloadN X0.here hx rfl (D 3 rfl) rfl (XS.istore X0.here hx rfl (D 4 rfl) rfl (l' := #[ow_r a1, ow_i p2, ow_i (Int32.ofNat f), ow_i (Int32.ofNat bs.length), ow_i (p2.toInt8.toInt32), ow_i (Int32.ofNat f)]) rfl q)))
  obtain ⟨i, hi⟩ : ∃ i, i = f := ⟨_, rfl⟩
  replace k : own_To p.tables e below A0 s₁ (mkF m 7 #[ow_r a1, ow_i p2, ow_i (Int32.ofNat f), ow_i (Int32.ofNat bs.length), ow_i (p2.toInt8.toInt32), ow_i (Int32.ofNat i)] []) := by rw [hi]; exact k
  have hq : own_ixA (p2.toInt8.toInt32) (bs.drop i) i = (own_ixA (p2.toInt8.toInt32) (bs.drop f) f) := by subst hi; rfl
  obtain ⟨d, hd⟩ : ∃ d, i + d = bs.length := ⟨bs.length - i, by omega⟩
  clear hi
  induction d generalizing i with
  | zero =>
    replace k : ow s₁ (mkF m 31 #[ow_r a1, ow_i p2, ow_i (Int32.ofNat f), ow_i (Int32.ofNat bs.length), ow_i (p2.toInt8.toInt32), ow_i (Int32.ofNat i)] []) := fun t q => k t (XS.iload X0.here hx rfl (D 5 rfl) rfl (XS.iloadN X0.here hx rfl (D 6 rfl) rfl (XS.icmpYes X0.here hx rfl (pc0 := 10) (pc' := 31) rfl (D 7 rfl) rfl (flt (show ¬ ((Int32.ofNat i) < (Int32.ofNat bs.length)) from (own_nlt (by omega) (by omega)))).2.1 (by decide) (by decide) q)))
    replace k : ow s₁ (mkF m 32 #[ow_r a1, ow_i p2, ow_i (Int32.ofNat f), ow_i (Int32.ofNat bs.length), ow_i (p2.toInt8.toInt32), ow_i (Int32.ofNat i)] [(.int (-1 : Int32))]) := fun t q => k t (XS.iconst X0.here hx rfl (D 8 rfl) q)
    exact own_end (v := some (.int (-1 : Int32))) X0 e0 Bd.notSynchronized (own_vn Bd.returns) k (fun _ hr => retI X0 hx Bd.returns (D 9 rfl) hr) ⟨by rw [show (own_f32 p2 bs f) = (-1 : Int32) from by unfold own_f32; rw [← hq, List.drop_eq_nil_of_le (by omega)]; rfl], N0, rfl⟩ (by decide) (by decide)
  | succ d ih =>
    have hlt : i < bs.length := by omega
    replace k : ow s₁ (mkF m 13 #[ow_r a1, ow_i p2, ow_i (Int32.ofNat f), ow_i (Int32.ofNat bs.length), ow_i (p2.toInt8.toInt32), ow_i (Int32.ofNat i)] []) := fun t q => k t (XS.iload X0.here hx rfl (D 5 rfl) rfl (XS.iloadN X0.here hx rfl (D 6 rfl) rfl (XS.icmpNo X0.here hx rfl (D 7 rfl) rfl (tlt (show (Int32.ofNat i) < (Int32.ofNat bs.length) from (own_ilt hlt (by omega)))).2.1 q)))
    obtain ⟨b, hbi⟩ : ∃ b, bs[i]? = some b := ⟨_, List.getElem?_eq_getElem hlt⟩
    obtain ⟨cl1, Ar1, qa1, Sa1, Na1, Ha1, Ga1⟩ := id V_a1
    have at1 : cl1.slots[((Int32.ofNat i)).toNatClampNeg]? = some (.int b) := Ha1.at (own_inb Sa1 (rfl : (Int32.ofNat i) = Nat.toInt32 i) (by rw [own_cl (by omega)]; exact hlt)) (by rw [own_idx (rfl : (Int32.ofNat i) = Nat.toInt32 i) (by omega)]; exact (own_getm hbi))
    replace k : ow s₁ (mkF m 17 #[ow_r a1, ow_i p2, ow_i (Int32.ofNat f), ow_i (Int32.ofNat bs.length), ow_i (p2.toInt8.toInt32), ow_i (Int32.ofNat i)] [(.int b)]) := fun t q => k t (XS.aloadN X0.here hx rfl (D 10 rfl) rfl rfl (XS.iload X0.here hx rfl (D 11 rfl) rfl (X0.baloadBytes hx (j := (Int32.ofNat i)) (v := (.int b)) (by rw [e0]; exact Ar1.1) (State.isArrayOf_alike hZ.alike Ar1.2.1) Ar1.2.2 (own_inb Sa1 (rfl : (Int32.ofNat i) = Nat.toInt32 i) (by rw [own_cl (by omega)]; exact hlt)) at1 (g := (mkF m 16 #[ow_r a1, ow_i p2, ow_i (Int32.ofNat f), ow_i (Int32.ofNat bs.length), ow_i (p2.toInt8.toInt32), ow_i (Int32.ofNat i)] [(.int (Int32.ofNat i)), (.ref a1)])) rfl rfl (D 12 rfl) _ q)))
    by_cases hc2 : b = (p2.toInt8.toInt32)
    · replace k : ow s₁ (mkF m 22 #[ow_r a1, ow_i p2, ow_i (Int32.ofNat f), ow_i (Int32.ofNat bs.length), ow_i (p2.toInt8.toInt32), ow_i (Int32.ofNat i)] []) := fun t q => k t (XS.iload X0.here hx rfl (D 13 rfl) rfl (XS.icmpNo X0.here hx rfl (D 14 rfl) rfl (teq (show b = (p2.toInt8.toInt32) from hc2)).2 q))
      replace k : ow s₁ (mkF m 24 #[ow_r a1, ow_i p2, ow_i (Int32.ofNat f), ow_i (Int32.ofNat bs.length), ow_i (p2.toInt8.toInt32), ow_i (Int32.ofNat i)] [(.int (Int32.ofNat i))]) := fun t q => k t (XS.iload X0.here hx rfl (D 15 rfl) rfl q)
      exact own_end (v := some (.int (Int32.ofNat i))) X0 e0 Bd.notSynchronized (own_vn Bd.returns) k (fun _ hr => retI X0 hx Bd.returns (D 16 rfl) hr) ⟨by rw [show (own_f32 p2 bs f) = (Int32.ofNat i) from by unfold own_f32; rw [← hq, own_drop hbi]; exact if_pos hc2], N0, rfl⟩ (by decide) (by decide)
    · replace k : ow s₁ (mkF m 25 #[ow_r a1, ow_i p2, ow_i (Int32.ofNat f), ow_i (Int32.ofNat bs.length), ow_i (p2.toInt8.toInt32), ow_i (Int32.ofNat i)] []) := fun t q => k t (XS.iload X0.here hx rfl (D 13 rfl) rfl (XS.icmpYes X0.here hx rfl (pc0 := 19) (pc' := 25) rfl (D 14 rfl) rfl (feq (show ¬ (b = (p2.toInt8.toInt32)) from hc2)).2 (by decide) (by decide) q))
      replace k : ow s₁ (mkF m 28 #[ow_r a1, ow_i p2, ow_i (Int32.ofNat f), ow_i (Int32.ofNat bs.length), ow_i (p2.toInt8.toInt32), ow_i ((Int32.ofNat i) + (1 : Int32))] []) := fun t q => k t (XS.iinc X0.here hx rfl (D 17 rfl) rfl (l' := #[ow_r a1, ow_i p2, ow_i (Int32.ofNat f), ow_i (Int32.ofNat bs.length), ow_i (p2.toInt8.toInt32), ow_i ((Int32.ofNat i) + (1 : Int32))]) rfl q)
      replace k : ow s₁ (mkF m 7 #[ow_r a1, ow_i p2, ow_i (Int32.ofNat f), ow_i (Int32.ofNat bs.length), ow_i (p2.toInt8.toInt32), ow_i ((Int32.ofNat i) + (1 : Int32))] []) := fun t q => k t (XS.goto X0.here hx rfl (pc0 := 28) (pc' := 7) rfl (D 18 rfl) (by decide) (by decide) q)
      replace k : own_To p.tables e below A0 s₁ (mkF m 7 #[ow_r a1, ow_i p2, ow_i (Int32.ofNat f), ow_i (Int32.ofNat bs.length), ow_i (p2.toInt8.toInt32), ow_i (Int32.ofNat (i + 1))] []) := by rw [own_succ]; exact k
      exact ih (i + 1) k (by rw [← hq]; rw [own_drop hbi]; exact (if_neg hc2).symm) (by omega)
theorem own_d28 : own_all jdk_43_method_22_code [(0, .iload_n 1, 1), (1, .invokestatic 88, 3), (4, .ifCond .ne 5, 3), (9, .iload_n 2, 1), (10, .iconst 0, 1), (11, .invokestatic 92, 3), (14, .istore_n 2, 1), (15, .iload_n 3, 1), (16, .aload_n 0, 1), (17, .arraylength, 1), (18, .invokestatic 38, 3), (21, .istore_n 3, 1), (22, .iload_n 2, 1), (23, .iload_n 3, 1), (24, .if_icmp .lt 5, 3), (29, .aload_n 0, 1), (30, .iload_n 1, 1), (31, .iload_n 2, 1), (32, .iload_n 3, 1), (33, .invokestatic 95, 3), (36, .ireturn, 1)] := by decide +kernel
theorem own_pd1 : parseMethodDescriptor "(I)Z" = some ⟨[.int], some .boolean⟩ := by decide +kernel
theorem own_pd2 : parseMethodDescriptor "(II)I" = some ⟨[.int, .int], some .int⟩ := by decide +kernel
theorem own_pd3 : parseMethodDescriptor "([BIII)I" = some ⟨[(.array .byte), .int, .int, .int], some .int⟩ := by decide +kernel
theorem own_ef28 (m : MethodId) (x0 : Addr) (x1 : Int32) (x2 : Int32) (x3 : Int32) : entryFrame m #[(.ref x0), (.int x1), (.int x2), (.int x3)] 4 = mkF m 0 #[ow_r x0, ow_i x1, ow_i x2, ow_i x3] [] := by first | (simp [entryFrame, mkF, argsToLocals, Value.category]; done) | rfl
theorem own_pn28 : plainName "java/lang/StringLatin1" = true := by first | (simp [plainName, overriddenIn]; done) | decide +kernel
def own_f28 (p2 : Int32) (bs : List Int32) (f : Nat) : Int32 := (own_f32 p2 bs f)
set_option maxRecDepth 65536 in
set_option maxHeartbeats 40000000 in
theorem own_m28 (l : Launch) (Z : State) (a0 : Array Value) (hw : ∀ d ∈ tables_1, d.before a0 Z = true) (ws : List Jvm.Cond) (a1 : Addr) (p2 : Int32) (bs : List Int32) (f : Nat) (kc_a1 : ClassId) (h0 : Heap) (n0 : Nat) (Z0 : n0 ≤ h0.size) (V_a1 : Arv Z h0 a1 kc_a1 .byte (Int32.ofNat bs.length) (bs.map Value.int) (.int 0)) (hg0 : ¬ (p2 < (0 : Int32))) (hg1 : ¬ ((255 : Int32) < p2)) (hl_bs : bs.length ≤ 60) (hf : f < bs.length) :
    own_MF l Z own_y28 ws jdk_43_method_22_code 4 (some .int) ({ frames := 1, cells := 0, slots := 0, locals := 17 } : Room) #[(.ref a1), (.int p2), (.int (Int32.ofNat f)), (.int (Int32.ofNat bs.length))] h0 (own_Q (some (.int (own_f28 p2 bs f))) h0 n0) := by
  refine own_go "java/lang/StringLatin1" rfl (plainFor_of_name own_pn28) (fun m => own_ef28 m a1 p2 (Int32.ofNat f) (Int32.ofNat bs.length)) own_d28 n0 fun p e s m below meth c s₁ A0 Bd hx D hml hown hnm X0 hZ e0 N0 k => ?_
  obtain ⟨_, _, ⟨T1, L1, k1, n1⟩, -, X1, ⟨Lc1, hQ1, l1, y1, z1⟩, st1⟩ := Jvm.LawKit.callS X0 hx (y := own_y29) hown (mvT hZ (own_h hw 128 rfl)) (mvT hZ (own_h hw 129 rfl)) (mvT hZ (own_h hw 61 rfl)) (mvT hZ (own_h hw 130 rfl)) (by decide) (backOf (W := 0) (own_m29 l Z a0 hw [] p2 h0 n0 Z0 ) hZ (own_h hw 130 rfl) (own_h hw 61 rfl) (by decide) (by decide)) (g := (mkF m 1 #[ow_r a1, ow_i p2, ow_i (Int32.ofNat f), ow_i (Int32.ofNat bs.length)] [(.int p2)])) rfl (by rw [hml]; rfl) (argsL := [(.int p2)]) (rest := []) (lenOf own_pd1 rfl) rfl own_le (D 1 rfl) (fun _ _ => ⟨rfl, e0, (by decide : 0 + 0 ≤ _), (by decide : 0 + 0 ≤ _)⟩)
  dsimp only [Pt.U, Pt.locs, Pt.cells, Pt.slots] at X1 l1 y1 z1 st1 hQ1
  subst l1 y1 z1
  rw [show own_f29 p2 = (1 : Int32) from by unfold own_f29; rw [if_neg (show ¬ (p2 < (0 : Int32)) from hg0), if_neg (show ¬ ((255 : Int32) < p2) from hg1)]] at hQ1
  obtain ⟨rfl, N1q, e1⟩ := hQ1
  have N1 := Fr.app N0 N1q
  replace k : ow T1 (mkF m 4 #[ow_r a1, ow_i p2, ow_i (Int32.ofNat f), ow_i (Int32.ofNat bs.length)] [(.int 1)]) := fun t q => k t (XS.iloadN X0.here hx rfl (D 0 rfl) rfl (st1 t q))
  clear st1
  replace k : ow T1 (mkF m 9 #[ow_r a1, ow_i p2, ow_i (Int32.ofNat f), ow_i (Int32.ofNat bs.length)] []) := fun t q => k t (XS.ifYes X1.here hx rfl (pc0 := 4) (pc' := 9) rfl (D 2 rfl) rfl ((if0 _ _).trans (feq (show ¬ ((1 : Int32) = (0 : Int32)) from (by decide))).2) (by decide) (by decide) q)
  obtain ⟨_, _, ⟨T2, L2, k2, n2⟩, -, X2, ⟨Lc2, hQ2, l2, y2, z2⟩, st2⟩ := Jvm.LawKit.callS X1 hx (y := own_y30) hown (mvT hZ (own_h hw 131 rfl)) (mvT hZ (own_h hw 132 rfl)) (mvT hZ (own_h hw 133 rfl)) (mvT hZ (own_h hw 134 rfl)) (by decide) (backOf (W := 0) (own_m30 l Z a0 hw [] (Int32.ofNat f) (0 : Int32) h0 n0 Z0 ) hZ (own_h hw 134 rfl) (own_h hw 133 rfl) (by decide) (by decide)) (g := (mkF m 11 #[ow_r a1, ow_i p2, ow_i (Int32.ofNat f), ow_i (Int32.ofNat bs.length)] [(.int 0), (.int (Int32.ofNat f))])) rfl (by rw [hml]; rfl) (argsL := [(.int (Int32.ofNat f)), (.int 0)]) (rest := []) (lenOf own_pd2 rfl) rfl own_le (D 5 rfl) (fun _ _ => ⟨rfl, e1, (by decide : 0 + 0 ≤ _), (by decide : 0 + 0 ≤ _)⟩)
  dsimp only [Pt.U, Pt.locs, Pt.cells, Pt.slots] at X2 l2 y2 z2 st2 hQ2
  subst l2 y2 z2
  rw [show own_f30 (Int32.ofNat f) (0 : Int32) = (Int32.ofNat f) from by unfold own_f30; rw [if_neg (show ¬ ((Int32.ofNat f) < (0 : Int32)) from (own_nlt (n := 0) (by omega) (by omega)))]] at hQ2
  obtain ⟨rfl, N2q, e2⟩ := hQ2
  have N2 := Fr.app N1 N2q
  replace k : ow T2 (mkF m 14 #[ow_r a1, ow_i p2, ow_i (Int32.ofNat f), ow_i (Int32.ofNat bs.length)] [(.int (Int32.ofNat f))]) := fun t q => k t (XS.iloadN X1.here hx rfl (D 3 rfl) rfl (XS.iconst X1.here hx rfl (D 4 rfl) (st2 t q)))
  clear st2
  replace k : ow T2 (mkF m 17 #[ow_r a1, ow_i p2, ow_i (Int32.ofNat f), ow_i (Int32.ofNat bs.length)] [(.ref a1), (.int (Int32.ofNat bs.length))]) := fun t q => k t (XS.istoreN X2.here hx rfl (D 6 rfl) rfl (l' := #[ow_r a1, ow_i p2, ow_i (Int32.ofNat f), ow_i (Int32.ofNat bs.length)]) rfl (XS.iloadN X2.here hx rfl (D 7 rfl) rfl (XS.aloadN X2.here hx rfl (D 8 rfl) rfl rfl q)))
  obtain ⟨cl3, Ar3, qa3, Sa3, Na3, Ha3, Ga3⟩ := id V_a1
  replace k : ow T2 (mkF m 18 #[ow_r a1, ow_i p2, ow_i (Int32.ofNat f), ow_i (Int32.ofNat bs.length)] [(.int (Int32.ofNat bs.length)), (.int (Int32.ofNat bs.length))]) := fun t q => k t (X2.arraylength hx (by rw [e2]; exact Ar3.1) (State.isArrayOf_alike hZ.alike Ar3.2.1) (g := (mkF m 17 #[ow_r a1, ow_i p2, ow_i (Int32.ofNat f), ow_i (Int32.ofNat bs.length)] [(.ref a1), (.int (Int32.ofNat bs.length))])) rfl rfl (D 9 rfl) _ (by rw [len_of Sa3 Na3]; exact q))
  obtain ⟨_, _, ⟨T4, L4, k4, n4⟩, -, X4, ⟨Lc4, hQ4, l4, y4, z4⟩, st4⟩ := Jvm.LawKit.callS X2 hx (y := own_y31) hown (mvT hZ (own_h hw 135 rfl)) (mvT hZ (own_h hw 136 rfl)) (mvT hZ (own_h hw 133 rfl)) (mvT hZ (own_h hw 137 rfl)) (by decide) (backOf (W := 0) (own_m31 l Z a0 hw [] (Int32.ofNat bs.length) (Int32.ofNat bs.length) h0 n0 Z0 ) hZ (own_h hw 137 rfl) (own_h hw 133 rfl) (by decide) (by decide)) (g := (mkF m 18 #[ow_r a1, ow_i p2, ow_i (Int32.ofNat f), ow_i (Int32.ofNat bs.length)] [(.int (Int32.ofNat bs.length)), (.int (Int32.ofNat bs.length))])) rfl (by rw [hml]; rfl) (argsL := [(.int (Int32.ofNat bs.length)), (.int (Int32.ofNat bs.length))]) (rest := []) (lenOf own_pd2 rfl) rfl own_le (D 10 rfl) (fun _ _ => ⟨rfl, e2, (by decide : 0 + 0 ≤ _), (by decide : 0 + 0 ≤ _)⟩)
  dsimp only [Pt.U, Pt.locs, Pt.cells, Pt.slots] at X4 l4 y4 z4 st4 hQ4
  subst l4 y4 z4
  rw [show own_f31 (Int32.ofNat bs.length) (Int32.ofNat bs.length) = (Int32.ofNat bs.length) from by unfold own_f31; rw [if_neg (show ¬ ((Int32.ofNat bs.length) < (Int32.ofNat bs.length)) from (by rw [Int32.lt_iff_toInt_lt]; omega))]] at hQ4
  obtain ⟨rfl, N4q, e4⟩ := hQ4
  have N4 := Fr.app N2 N4q
  replace k : ow T4 (mkF m 21 #[ow_r a1, ow_i p2, ow_i (Int32.ofNat f), ow_i (Int32.ofNat bs.length)] [(.int (Int32.ofNat bs.length))]) := fun t q => k t (st4 t q)
  clear st4
  replace k : ow T4 (mkF m 24 #[ow_r a1, ow_i p2, ow_i (Int32.ofNat f), ow_i (Int32.ofNat bs.length)] [(.int (Int32.ofNat bs.length)), (.int (Int32.ofNat f))]) := fun t q => k t (XS.istoreN X4.here hx rfl (D 11 rfl) rfl (l' := #[ow_r a1, ow_i p2, ow_i (Int32.ofNat f), ow_i (Int32.ofNat bs.length)]) rfl (XS.iloadN X4.here hx rfl (D 12 rfl) rfl (XS.iloadN X4.here hx rfl (D 13 rfl) rfl q)))
  replace k : ow T4 (mkF m 29 #[ow_r a1, ow_i p2, ow_i (Int32.ofNat f), ow_i (Int32.ofNat bs.length)] []) := fun t q => k t (XS.icmpYes X4.here hx rfl (pc0 := 24) (pc' := 29) rfl (D 14 rfl) rfl (tlt (show (Int32.ofNat f) < (Int32.ofNat bs.length) from (own_ilt hf (by omega)))).1 (by decide) (by decide) q)
  replace k : ow T4 (mkF m 32 #[ow_r a1, ow_i p2, ow_i (Int32.ofNat f), ow_i (Int32.ofNat bs.length)] [(.int (Int32.ofNat f)), (.int p2), (.ref a1)]) := fun t q => k t (XS.aloadN X4.here hx rfl (D 15 rfl) rfl rfl (XS.iloadN X4.here hx rfl (D 16 rfl) rfl (XS.iloadN X4.here hx rfl (D 17 rfl) rfl q)))
  obtain ⟨_, _, ⟨T5, L5, k5, n5⟩, -, X5, ⟨Lc5, hQ5, l5, y5, z5⟩, st5⟩ := Jvm.LawKit.callS X4 hx (y := own_y32) hown (mvT hZ (own_h hw 138 rfl)) (mvT hZ (own_h hw 139 rfl)) (mvT hZ (own_h hw 61 rfl)) (mvT hZ (own_h hw 140 rfl)) (by decide) (backOf (W := 0) (own_m32 l Z a0 hw [] a1 p2 bs f kc_a1 h0 n0 Z0 V_a1 (by first | assumption | exact Nat.le_of_ble_eq_true rfl | rfl | omega | decide) (by first | assumption | exact Nat.le_of_ble_eq_true rfl | rfl | omega | decide)) hZ (own_h hw 140 rfl) (own_h hw 61 rfl) (by decide) (by decide)) (g := (mkF m 33 #[ow_r a1, ow_i p2, ow_i (Int32.ofNat f), ow_i (Int32.ofNat bs.length)] [(.int (Int32.ofNat bs.length)), (.int (Int32.ofNat f)), (.int p2), (.ref a1)])) rfl (by rw [hml]; rfl) (argsL := [(.ref a1), (.int p2), (.int (Int32.ofNat f)), (.int (Int32.ofNat bs.length))]) (rest := []) (lenOf own_pd3 rfl) rfl own_le (D 19 rfl) (fun _ _ => ⟨rfl, e4, (by decide : 0 + 0 ≤ _), (by decide : 0 + 0 ≤ _)⟩)
  dsimp only [Pt.U, Pt.locs, Pt.cells, Pt.slots] at X5 l5 y5 z5 st5 hQ5
  subst l5 y5 z5
  obtain ⟨rfl, N5q, e5⟩ := hQ5
  have N5 := Fr.app N4 N5q
  replace k : ow T5 (mkF m 36 #[ow_r a1, ow_i p2, ow_i (Int32.ofNat f), ow_i (Int32.ofNat bs.length)] [(.int (own_f32 p2 bs f))]) := fun t q => k t (XS.iloadN X4.here hx rfl (D 18 rfl) rfl (st5 t q))
  clear st5
  exact own_end (v := some (.int (own_f32 p2 bs f))) X5 e5 Bd.notSynchronized (own_vn Bd.returns) k (fun _ hr => retI X5 hx Bd.returns (D 20 rfl) hr) ⟨by rw [show (own_f28 p2 bs f) = (own_f32 p2 bs f) from by unfold own_f28; rfl], N5, rfl⟩ (by decide) (by decide)
theorem own_d27 : own_all jdk_42_method_80_code [(0, .aload_n 0, 1), (1, .invokevirtual 492, 3), (4, .ifCond .eq 19, 3), (7, .aload_n 0, 1), (8, .getfield 9, 3), (11, .iload_n 1, 1), (12, .iload_n 2, 1), (13, .aload_n 0, 1), (14, .invokevirtual 505, 3), (17, .invokestatic 637, 3), (20, .goto 16, 3), (36, .ireturn, 1)] := by decide +kernel
theorem own_pd4 : parseMethodDescriptor "()Z" = some ⟨[], some .boolean⟩ := by decide +kernel
theorem own_pd5 : parseMethodDescriptor "()I" = some ⟨[], some .int⟩ := by decide +kernel
theorem own_ef27 (m : MethodId) (x0 : Addr) (x1 : Int32) (x2 : Int32) : entryFrame m #[(.ref x0), (.int x1), (.int x2)] 3 = mkF m 0 #[ow_r x0, ow_i x1, ow_i x2] [] := by first | (simp [entryFrame, mkF, argsToLocals, Value.category]; done) | rfl
theorem own_pn27 : plainName "java/lang/String" = true := by first | (simp [plainName, overriddenIn]; done) | decide +kernel
def own_ix2 (p2 : Int32) (bs : List Int32) (f : Nat) : Int32 := (own_f28 p2 bs f)
set_option maxRecDepth 65536 in
set_option maxHeartbeats 40000000 in
theorem own_m27 (l : Launch) (Z : State) (a0 : Array Value) (hw : ∀ d ∈ tables_1, d.before a0 Z = true) (ws : List Jvm.Cond) (a1 : Addr) (p2 : Int32) (bs : List Int32) (f : Nat) (w_COMPACT_STRINGS : Int32) (w_value_a1 : Addr) (kc_w_value_a1 : ClassId) (h0 : Heap) (n0 : Nat) (Z0 : n0 ≤ h0.size) (S_COMPACT_STRINGS : Sta Z h0 "java/lang/String" "COMPACT_STRINGS" "Z" (.int w_COMPACT_STRINGS)) (F_coder_a1 : Fld Z h0 a1 "java/lang/String" "coder" "B" (.int 0)) (E_a1 : Exa Z h0 a1 "java/lang/String") (F_value_a1 : Fld Z h0 a1 "java/lang/String" "value" "[B" (.ref w_value_a1)) (V_w_value_a1 : Arv Z h0 w_value_a1 kc_w_value_a1 .byte (Int32.ofNat bs.length) (bs.map Value.int) (.int 0)) (hz : ¬ (w_COMPACT_STRINGS = (0 : Int32))) (hg0 : ¬ (p2 < (0 : Int32))) (hg1 : ¬ ((255 : Int32) < p2)) (hl_bs : bs.length ≤ 60) (hf : f < bs.length) :
    own_MF l Z own_y27 ws jdk_42_method_80_code 3 (some .int) ({ frames := 2, cells := 0, slots := 0, locals := 32 } : Room) #[(.ref a1), (.int p2), (.int (Int32.ofNat f))] h0 (own_Q (some (.int (own_ix2 p2 bs f))) h0 n0) := by
  refine own_go "java/lang/String" rfl (plainFor_of_name own_pn27) (fun m => own_ef27 m a1 p2 (Int32.ofNat f)) own_d27 n0 fun p e s m below meth c s₁ A0 Bd hx D hml hown hnm X0 hZ e0 N0 k => ?_
  replace k : ow s₁ (mkF m 1 #[ow_r a1, ow_i p2, ow_i (Int32.ofNat f)] [(.ref a1)]) := fun t q => k t (XS.aloadN X0.here hx rfl (D 0 rfl) rfl rfl q)
  obtain ⟨_, T1, L1, X1, hQ1, k⟩ := own_cV X0 hx hw hZ hown e0 k (own_m13 l Z a0 hw [] a1 w_COMPACT_STRINGS h0 n0 Z0 S_COMPACT_STRINGS F_coder_a1 hz) 54 55 57 56 58 9 rfl rfl rfl rfl rfl rfl E_a1 (by decide) rfl (by rw [hml]; rfl) [] [] (lenOf own_pd4 rfl) rfl rfl (W := 0) own_le (D 1 rfl) (by decide) (by decide) (by decide) (by decide)
  rw [show own_f13 = (1 : Int32) from rfl] at hQ1
  obtain ⟨rfl, N1q, e1⟩ := hQ1
  have N1 := Fr.app N0 N1q
  replace k : ow T1 (mkF m 7 #[ow_r a1, ow_i p2, ow_i (Int32.ofNat f)] []) := fun t q => k t (XS.ifNo X1.here hx rfl (D 2 rfl) rfl ((if0 _ _).trans (feq (show ¬ ((1 : Int32) = (0 : Int32)) from (by decide))).1) q)
  obtain ⟨T2, X2, e2, st2⟩ := getF X1 hx hZ hown (host := "") (Or.inl (own_h hw 35 rfl)) Via.refl e1 F_value_a1 (g := (mkF m 8 #[ow_r a1, ow_i p2, ow_i (Int32.ofNat f)] [(.ref a1)])) rfl rfl (D 4 rfl)
  replace k : ow T2 (mkF m 11 #[ow_r a1, ow_i p2, ow_i (Int32.ofNat f)] [(.ref w_value_a1)]) := fun t q => k t (XS.aloadN X1.here hx rfl (D 3 rfl) rfl rfl (st2 t q))
  clear st2
  replace k : ow T2 (mkF m 14 #[ow_r a1, ow_i p2, ow_i (Int32.ofNat f)] [(.ref a1), (.int (Int32.ofNat f)), (.int p2), (.ref w_value_a1)]) := fun t q => k t (XS.iloadN X2.here hx rfl (D 5 rfl) rfl (XS.iloadN X2.here hx rfl (D 6 rfl) rfl (XS.aloadN X2.here hx rfl (D 7 rfl) rfl rfl q)))
  obtain ⟨_, T3, L3, X3, hQ3, k⟩ := own_cV X2 hx hw hZ hown e2 k (own_m22 l Z a0 hw [] a1 bs w_value_a1 kc_w_value_a1 w_COMPACT_STRINGS h0 n0 Z0 F_value_a1 V_w_value_a1 S_COMPACT_STRINGS F_coder_a1 E_a1 hz) 98 99 101 100 102 9 rfl rfl rfl rfl rfl rfl E_a1 (by decide) rfl (by rw [hml]; rfl) [] [(.int (Int32.ofNat f)), (.int p2), (.ref w_value_a1)] (lenOf own_pd5 rfl) rfl rfl (W := 3) own_le (D 8 rfl) (by decide) (by decide) (by decide) (by decide)
  rw [show own_f22 bs = (Int32.ofNat bs.length) from rfl] at hQ3
  obtain ⟨rfl, N3q, e3⟩ := hQ3
  have N3 := Fr.app N1 N3q
  obtain ⟨_, _, ⟨T4, L4, k4, n4⟩, -, X4, ⟨Lc4, hQ4, l4, y4, z4⟩, st4⟩ := Jvm.LawKit.callS X3 hx (y := own_y28) hown (mvT hZ (own_h hw 125 rfl)) (mvT hZ (own_h hw 126 rfl)) (mvT hZ (own_h hw 61 rfl)) (mvT hZ (own_h hw 127 rfl)) (by decide) (backOf (W := 0) (own_m28 l Z a0 hw [] w_value_a1 p2 bs f kc_w_value_a1 h0 n0 Z0 V_w_value_a1 hg0 hg1 (by first | assumption | exact Nat.le_of_ble_eq_true rfl | rfl | omega | decide) (by first | assumption | exact Nat.le_of_ble_eq_true rfl | rfl | omega | decide)) hZ (own_h hw 127 rfl) (own_h hw 61 rfl) (by decide) (by decide)) (g := (mkF m 17 #[ow_r a1, ow_i p2, ow_i (Int32.ofNat f)] [(.int (Int32.ofNat bs.length)), (.int (Int32.ofNat f)), (.int p2), (.ref w_value_a1)])) rfl (by rw [hml]; rfl) (argsL := [(.ref w_value_a1), (.int p2), (.int (Int32.ofNat f)), (.int (Int32.ofNat bs.length))]) (rest := []) (lenOf own_pd3 rfl) rfl own_le (D 9 rfl) (fun _ _ => ⟨rfl, e3, (by decide : 0 + 0 ≤ _), (by decide : 0 + 0 ≤ _)⟩)
  dsimp only [Pt.U, Pt.locs, Pt.cells, Pt.slots] at X4 l4 y4 z4 st4 hQ4
  subst l4 y4 z4
  obtain ⟨rfl, N4q, e4⟩ := hQ4
  have N4 := Fr.app N3 N4q
  replace k : ow T4 (mkF m 20 #[ow_r a1, ow_i p2, ow_i (Int32.ofNat f)] [(.int (own_f28 p2 bs f))]) := fun t q => k t (st4 t q)
  clear st4
  replace k : ow T4 (mkF m 36 #[ow_r a1, ow_i p2, ow_i (Int32.ofNat f)] [(.int (own_f28 p2 bs f))]) := fun t q => k t (XS.goto X4.here hx rfl (pc0 := 20) (pc' := 36) rfl (D 10 rfl) (by decide) (by decide) q)
  exact own_end (v := some (.int (own_f28 p2 bs f))) X4 e4 Bd.notSynchronized (own_vn Bd.returns) k (fun _ hr => retI X4 hx Bd.returns (D 11 rfl) hr) ⟨by rw [show (own_ix2 p2 bs f) = (own_f28 p2 bs f) from by unfold own_ix2; rfl], N4, rfl⟩ (by decide) (by decide)
theorem own_d26 : own_all jdk_42_method_79_code [(0, .aload_n 0, 1), (1, .iload_n 1, 1), (2, .iconst 0, 1), (3, .invokevirtual 633, 3), (6, .ireturn, 1)] := by decide +kernel
theorem own_ef26 (m : MethodId) (x0 : Addr) (x1 : Int32) : entryFrame m #[(.ref x0), (.int x1)] 2 = mkF m 0 #[ow_r x0, ow_i x1] [] := by first | (simp [entryFrame, mkF, argsToLocals, Value.category]; done) | rfl
theorem own_pn26 : plainName "java/lang/String" = true := by first | (simp [plainName, overriddenIn]; done) | decide +kernel
def own_ix1 (p2 : Int32) (bs : List Int32) : Int32 := (own_ix2 p2 bs 0)
set_option maxRecDepth 65536 in
set_option maxHeartbeats 40000000 in
theorem own_m26 (l : Launch) (Z : State) (a0 : Array Value) (hw : ∀ d ∈ tables_1, d.before a0 Z = true) (ws : List Jvm.Cond) (a1 : Addr) (p2 : Int32) (bs : List Int32) (w_COMPACT_STRINGS : Int32) (w_value_a1 : Addr) (kc_w_value_a1 : ClassId) (h0 : Heap) (n0 : Nat) (Z0 : n0 ≤ h0.size) (S_COMPACT_STRINGS : Sta Z h0 "java/lang/String" "COMPACT_STRINGS" "Z" (.int w_COMPACT_STRINGS)) (F_coder_a1 : Fld Z h0 a1 "java/lang/String" "coder" "B" (.int 0)) (E_a1 : Exa Z h0 a1 "java/lang/String") (F_value_a1 : Fld Z h0 a1 "java/lang/String" "value" "[B" (.ref w_value_a1)) (V_w_value_a1 : Arv Z h0 w_value_a1 kc_w_value_a1 .byte (Int32.ofNat bs.length) (bs.map Value.int) (.int 0)) (hz : ¬ (w_COMPACT_STRINGS = (0 : Int32))) (hg0 : ¬ (p2 < (0 : Int32))) (hg1 : ¬ ((255 : Int32) < p2)) (hl_bs : bs.length ≤ 60) (hf : 0 < bs.length) :
    own_MF l Z own_y26 ws jdk_42_method_79_code 2 (some .int) ({ frames := 3, cells := 0, slots := 0, locals := 46 } : Room) #[(.ref a1), (.int p2)] h0 (own_Q (some (.int (own_ix1 p2 bs))) h0 n0) := by
  refine own_go "java/lang/String" rfl (plainFor_of_name own_pn26) (fun m => own_ef26 m a1 p2) own_d26 n0 fun p e s m below meth c s₁ A0 Bd hx D hml hown hnm X0 hZ e0 N0 k => ?_
  replace k : ow s₁ (mkF m 3 #[ow_r a1, ow_i p2] [(.int 0), (.int p2), (.ref a1)]) := fun t q => k t (XS.aloadN X0.here hx rfl (D 0 rfl) rfl rfl (XS.iloadN X0.here hx rfl (D 1 rfl) rfl (XS.iconst X0.here hx rfl (D 2 rfl) q)))
  obtain ⟨_, T1, L1, X1, hQ1, k⟩ := own_cV X0 hx hw hZ hown e0 k (own_m27 l Z a0 hw [] a1 p2 bs 0 w_COMPACT_STRINGS w_value_a1 kc_w_value_a1 h0 n0 Z0 S_COMPACT_STRINGS F_coder_a1 E_a1 F_value_a1 V_w_value_a1 hz hg0 hg1 (by first | assumption | exact Nat.le_of_ble_eq_true rfl | rfl | omega | decide) (by first | assumption | exact Nat.le_of_ble_eq_true rfl | rfl | omega | decide)) 120 121 123 122 124 9 rfl rfl rfl rfl rfl rfl E_a1 (by decide) rfl (by rw [hml]; rfl) [(.int p2), (.int 0)] [] (lenOf own_pd2 rfl) rfl rfl (W := 0) own_le (D 3 rfl) (by decide) (by decide) (by decide) (by decide)
  obtain ⟨rfl, N1q, e1⟩ := hQ1
  have N1 := Fr.app N0 N1q
  exact own_end (v := some (.int (own_ix2 p2 bs 0))) X1 e1 Bd.notSynchronized (own_vn Bd.returns) k (fun _ hr => retI X1 hx Bd.returns (D 4 rfl) hr) ⟨by rw [show (own_ix1 p2 bs) = (own_ix2 p2 bs 0) from by unfold own_ix1; rfl], N1, rfl⟩ (by decide) (by decide)
theorem own_d24 : own_all jdk_48_method_14_code [(0, .iconst 0, 1), (1, .istore 5, 2), (3, .iload 4, 2), (5, .bipush 7, 2), (7, .if_icmp .le 63, 3), (70, .iload 5, 2), (72, .iload 4, 2), (74, .if_icmp .ge 27, 3), (101, .iconst (-1), 1), (102, .ireturn, 1), (77, .aload_n 0, 1), (78, .iload_n 1, 1), (79, .iload 5, 2), (81, .iadd, 1), (82, .baload, 1), (83, .aload_n 2, 1), (84, .iload_n 3, 1), (85, .iload 5, 2), (87, .iadd, 1), (88, .baload, 1), (89, .if_icmp .eq 6, 3), (95, .iinc 5 1, 3), (98, .goto (-28), 3), (92, .iload 5, 2), (94, .ireturn, 1)] := by decide +kernel
theorem own_ef24_30 (m : MethodId) (x0 : Addr) (x1 : Int32) (x2 : Addr) (x4 : Int32) : entryFrame m #[(.ref x0), (.int x1), (.ref x2), (.int 0), (.int x4)] 8 = mkF m 0 #[ow_r x0, ow_i x1, ow_r x2, ow_i 0, ow_i x4, .unset, .unset, .unset] [] := by first | (simp [entryFrame, mkF, argsToLocals, Value.category]; done) | rfl
theorem own_pn24 : plainName "jdk/internal/util/ArraysSupport" = true := by first | (simp [plainName, overriddenIn]; done) | decide +kernel
def own_mis (bs : List Int32) (ds : List Int32) (oo : Nat) : Int32 := (own_mmA (bs.drop oo) ds 0)
set_option maxRecDepth 65536 in
set_option maxHeartbeats 40000000 in
theorem own_m24 (l : Launch) (Z : State) (a0 : Array Value) (hw : ∀ d ∈ tables_1, d.before a0 Z = true) (ws : List Jvm.Cond) (a1 : Addr) (a3 : Addr) (bs : List Int32) (ds : List Int32) (oo : Nat) (kc_a1 : ClassId) (kc_a3 : ClassId) (h0 : Heap) (n0 : Nat) (Z0 : n0 ≤ h0.size) (V_a1 : Arv Z h0 a1 kc_a1 .byte (Int32.ofNat bs.length) (bs.map Value.int) (.int 0)) (V_a3 : Arv Z h0 a3 kc_a3 .byte (Int32.ofNat ds.length) (ds.map Value.int) (.int 0)) (hl_bs : bs.length ≤ 60) (hd7 : ds.length ≤ 7) (ho : oo + ds.length ≤ bs.length) :
    own_MF l Z own_y24 ws jdk_48_method_14_code 8 (some .int) ({ frames := 0, cells := 0, slots := 0, locals := 0 } : Room) #[(.ref a1), (.int (Int32.ofNat oo)), (.ref a3), (.int 0), (.int (Int32.ofNat ds.length))] h0 (own_Q (some (.int (own_mis bs ds oo))) h0 n0) := by
  refine own_go "jdk/internal/util/ArraysSupport" rfl (plainFor_of_name own_pn24) (fun m => own_ef24_30 m a1 (Int32.ofNat oo) a3 (Int32.ofNat ds.length)) own_d24 n0 fun p e s m below meth c s₁ A0 Bd hx D hml hown hnm X0 hZ e0 N0 k => ?_
  replace k : ow s₁ (mkF m 5 #[ow_r a1, ow_i (Int32.ofNat oo), ow_r a3, ow_i 0, ow_i (Int32.ofNat ds.length), ow_i 0, .unset, .unset] [(.int (Int32.ofNat ds.length))]) := fun t q => k t (XS.iconst X0.here hx rfl (D 0 rfl) (XS.istore X0.here hx rfl (D 1 rfl) rfl (l' := #[ow_r a1, ow_i (Int32.ofNat oo), ow_r a3, ow_i 0, ow_i (Int32.ofNat ds.length), ow_i 0, .unset, .unset]) rfl (XS.iload X0.here hx rfl (D 2 rfl) rfl q)))
  replace k : ow s₁ (mkF m 70 #[ow_r a1, ow_i (Int32.ofNat oo), ow_r a3, ow_i 0, ow_i (Int32.ofNat ds.length), ow_i 0, .unset, .unset] []) := fun t q => k t (XS.bipush X0.here hx rfl (D 3 rfl) (XS.icmpYes X0.here hx rfl (pc0 := 7) (pc' := 70) rfl (D 4 rfl) rfl (flt (show ¬ ((7 : Int32) < (Int32.ofNat ds.length)) from (own_nlt (i := 7) hd7 (by omega)))).2.2.2 (by decide) (by decide) q))
  obtain ⟨i, hi⟩ : ∃ i, i = 0 := ⟨_, rfl⟩
  replace k : own_To p.tables e below A0 s₁ (mkF m 70 #[ow_r a1, ow_i (Int32.ofNat oo), ow_r a3, ow_i 0, ow_i (Int32.ofNat ds.length), ow_i (Int32.ofNat i), .unset, .unset] []) := by rw [hi]; exact k
  have hq : own_mmA (bs.drop (oo + i)) (ds.drop i) i = (own_mmA (bs.drop oo) ds 0) := by subst hi; rfl
  obtain ⟨d, hd⟩ : ∃ d, i + d = ds.length := ⟨ds.length - i, by omega⟩
  clear hi
  induction d generalizing i with
  | zero =>
    replace k : ow s₁ (mkF m 101 #[ow_r a1, ow_i (Int32.ofNat oo), ow_r a3, ow_i 0, ow_i (Int32.ofNat ds.length), ow_i (Int32.ofNat i), .unset, .unset] []) := fun t q => k t (XS.iload X0.here hx rfl (D 5 rfl) rfl (XS.iload X0.here hx rfl (D 6 rfl) rfl (XS.icmpYes X0.here hx rfl (pc0 := 74) (pc' := 101) rfl (D 7 rfl) rfl (flt (show ¬ ((Int32.ofNat i) < (Int32.ofNat ds.length)) from (own_nlt (by omega) (by omega)))).2.1 (by decide) (by decide) q)))
    replace k : ow s₁ (mkF m 102 #[ow_r a1, ow_i (Int32.ofNat oo), ow_r a3, ow_i 0, ow_i (Int32.ofNat ds.length), ow_i (Int32.ofNat i), .unset, .unset] [(.int (-1 : Int32))]) := fun t q => k t (XS.iconst X0.here hx rfl (D 8 rfl) q)
    exact own_end (v := some (.int (-1 : Int32))) X0 e0 Bd.notSynchronized (own_vn Bd.returns) k (fun _ hr => retI X0 hx Bd.returns (D 9 rfl) hr) ⟨by rw [show (own_mis bs ds oo) = (-1 : Int32) from by unfold own_mis; rw [← hq, List.drop_eq_nil_of_le (as := ds) (by omega)]; exact own_mmA_nil _ _], N0, rfl⟩ (by decide) (by decide)
  | succ d ih =>
    have hlt : i < ds.length := by omega
    replace k : ow s₁ (mkF m 77 #[ow_r a1, ow_i (Int32.ofNat oo), ow_r a3, ow_i 0, ow_i (Int32.ofNat ds.length), ow_i (Int32.ofNat i), .unset, .unset] []) := fun t q => k t (XS.iload X0.here hx rfl (D 5 rfl) rfl (XS.iload X0.here hx rfl (D 6 rfl) rfl (XS.icmpNo X0.here hx rfl (D 7 rfl) rfl (tlt (show (Int32.ofNat i) < (Int32.ofNat ds.length) from (own_ilt hlt (by omega)))).2.1 q)))
    obtain ⟨x, hxi⟩ : ∃ x, bs[oo + i]? = some x := ⟨_, List.getElem?_eq_getElem (by omega)⟩
    obtain ⟨y, hyi⟩ : ∃ y, ds[i]? = some y := ⟨_, List.getElem?_eq_getElem hlt⟩
    replace k : ow s₁ (mkF m 81 #[ow_r a1, ow_i (Int32.ofNat oo), ow_r a3, ow_i 0, ow_i (Int32.ofNat ds.length), ow_i (Int32.ofNat i), .unset, .unset] [(.int (Int32.ofNat i)), (.int (Int32.ofNat oo)), (.ref a1)]) := fun t q => k t (XS.aloadN X0.here hx rfl (D 10 rfl) rfl rfl (XS.iloadN X0.here hx rfl (D 11 rfl) rfl (XS.iload X0.here hx rfl (D 12 rfl) rfl q)))
    replace k : ow s₁ (mkF m 82 #[ow_r a1, ow_i (Int32.ofNat oo), ow_r a3, ow_i 0, ow_i (Int32.ofNat ds.length), ow_i (Int32.ofNat i), .unset, .unset] [(.int ((Int32.ofNat oo) + (Int32.ofNat i))), (.ref a1)]) := fun t q => k t (XS.iadd X0.here hx rfl (D 13 rfl) rfl q)
    obtain ⟨cl1, Ar1, qa1, Sa1, Na1, Ha1, Ga1⟩ := id V_a1
    have at1 : cl1.slots[(((Int32.ofNat oo) + (Int32.ofNat i))).toNatClampNeg]? = some (.int x) := Ha1.at (own_inb Sa1 (Int32.ofNat_add oo i).symm (by rw [own_cl (by omega)]; omega)) (by rw [own_idx (Int32.ofNat_add oo i).symm (by omega)]; exact (own_getm hxi))
    replace k : ow s₁ (mkF m 83 #[ow_r a1, ow_i (Int32.ofNat oo), ow_r a3, ow_i 0, ow_i (Int32.ofNat ds.length), ow_i (Int32.ofNat i), .unset, .unset] [(.int x)]) := fun t q => k t (X0.baloadBytes hx (j := ((Int32.ofNat oo) + (Int32.ofNat i))) (v := (.int x)) (by rw [e0]; exact Ar1.1) (State.isArrayOf_alike hZ.alike Ar1.2.1) Ar1.2.2 (own_inb Sa1 (Int32.ofNat_add oo i).symm (by rw [own_cl (by omega)]; omega)) at1 (g := (mkF m 82 #[ow_r a1, ow_i (Int32.ofNat oo), ow_r a3, ow_i 0, ow_i (Int32.ofNat ds.length), ow_i (Int32.ofNat i), .unset, .unset] [(.int ((Int32.ofNat oo) + (Int32.ofNat i))), (.ref a1)])) rfl rfl (D 14 rfl) _ q)
    replace k : ow s₁ (mkF m 87 #[ow_r a1, ow_i (Int32.ofNat oo), ow_r a3, ow_i 0, ow_i (Int32.ofNat ds.length), ow_i (Int32.ofNat i), .unset, .unset] [(.int (Int32.ofNat i)), (.int 0), (.ref a3), (.int x)]) := fun t q => k t (XS.aloadN X0.here hx rfl (D 15 rfl) rfl rfl (XS.iloadN X0.here hx rfl (D 16 rfl) rfl (XS.iload X0.here hx rfl (D 17 rfl) rfl q)))
    replace k : ow s₁ (mkF m 88 #[ow_r a1, ow_i (Int32.ofNat oo), ow_r a3, ow_i 0, ow_i (Int32.ofNat ds.length), ow_i (Int32.ofNat i), .unset, .unset] [(.int ((0 : Int32) + (Int32.ofNat i))), (.ref a3), (.int x)]) := fun t q => k t (XS.iadd X0.here hx rfl (D 18 rfl) rfl q)
    obtain ⟨cl2, Ar2, qa2, Sa2, Na2, Ha2, Ga2⟩ := id V_a3
    have at2 : cl2.slots[(((0 : Int32) + (Int32.ofNat i))).toNatClampNeg]? = some (.int y) := Ha2.at (own_inb Sa2 (Int32.zero_add _) (by rw [own_cl (by omega)]; exact hlt)) (by rw [own_idx (Int32.zero_add _) (by omega)]; exact (own_getm hyi))
    replace k : ow s₁ (mkF m 89 #[ow_r a1, ow_i (Int32.ofNat oo), ow_r a3, ow_i 0, ow_i (Int32.ofNat ds.length), ow_i (Int32.ofNat i), .unset, .unset] [(.int y), (.int x)]) := fun t q => k t (X0.baloadBytes hx (j := ((0 : Int32) + (Int32.ofNat i))) (v := (.int y)) (by rw [e0]; exact Ar2.1) (State.isArrayOf_alike hZ.alike Ar2.2.1) Ar2.2.2 (own_inb Sa2 (Int32.zero_add _) (by rw [own_cl (by omega)]; exact hlt)) at2 (g := (mkF m 88 #[ow_r a1, ow_i (Int32.ofNat oo), ow_r a3, ow_i 0, ow_i (Int32.ofNat ds.length), ow_i (Int32.ofNat i), .unset, .unset] [(.int ((0 : Int32) + (Int32.ofNat i))), (.ref a3), (.int x)])) rfl rfl (D 19 rfl) _ q)
    by_cases hc3 : x = y
    · replace k : ow s₁ (mkF m 95 #[ow_r a1, ow_i (Int32.ofNat oo), ow_r a3, ow_i 0, ow_i (Int32.ofNat ds.length), ow_i (Int32.ofNat i), .unset, .unset] []) := fun t q => k t (XS.icmpYes X0.here hx rfl (pc0 := 89) (pc' := 95) rfl (D 20 rfl) rfl (teq (show x = y from hc3)).1 (by decide) (by decide) q)
      replace k : ow s₁ (mkF m 98 #[ow_r a1, ow_i (Int32.ofNat oo), ow_r a3, ow_i 0, ow_i (Int32.ofNat ds.length), ow_i ((Int32.ofNat i) + (1 : Int32)), .unset, .unset] []) := fun t q => k t (XS.iinc X0.here hx rfl (D 21 rfl) rfl (l' := #[ow_r a1, ow_i (Int32.ofNat oo), ow_r a3, ow_i 0, ow_i (Int32.ofNat ds.length), ow_i ((Int32.ofNat i) + (1 : Int32)), .unset, .unset]) rfl q)
      replace k : ow s₁ (mkF m 70 #[ow_r a1, ow_i (Int32.ofNat oo), ow_r a3, ow_i 0, ow_i (Int32.ofNat ds.length), ow_i ((Int32.ofNat i) + (1 : Int32)), .unset, .unset] []) := fun t q => k t (XS.goto X0.here hx rfl (pc0 := 98) (pc' := 70) rfl (D 22 rfl) (by decide) (by decide) q)
      replace k : own_To p.tables e below A0 s₁ (mkF m 70 #[ow_r a1, ow_i (Int32.ofNat oo), ow_r a3, ow_i 0, ow_i (Int32.ofNat ds.length), ow_i (Int32.ofNat (i + 1)), .unset, .unset] []) := by rw [own_succ]; exact k
      exact ih (i + 1) k (by rw [← hq]; rw [own_drop hxi, own_drop hyi]; exact (if_pos hc3).symm) (by omega)
    · replace k : ow s₁ (mkF m 92 #[ow_r a1, ow_i (Int32.ofNat oo), ow_r a3, ow_i 0, ow_i (Int32.ofNat ds.length), ow_i (Int32.ofNat i), .unset, .unset] []) := fun t q => k t (XS.icmpNo X0.here hx rfl (D 20 rfl) rfl (feq (show ¬ (x = y) from hc3)).1 q)
      replace k : ow s₁ (mkF m 94 #[ow_r a1, ow_i (Int32.ofNat oo), ow_r a3, ow_i 0, ow_i (Int32.ofNat ds.length), ow_i (Int32.ofNat i), .unset, .unset] [(.int (Int32.ofNat i))]) := fun t q => k t (XS.iload X0.here hx rfl (D 23 rfl) rfl q)
      exact own_end (v := some (.int (Int32.ofNat i))) X0 e0 Bd.notSynchronized (own_vn Bd.returns) k (fun _ hr => retI X0 hx Bd.returns (D 24 rfl) hr) ⟨by rw [show (own_mis bs ds oo) = (Int32.ofNat i) from by unfold own_mis; rw [← hq, own_drop hxi, own_drop hyi]; exact if_neg hc3], N0, rfl⟩ (by decide) (by decide)
theorem own_d21 : own_all jdk_42_method_75_code [(0, .iload_n 2, 1), (1, .ifCond .lt 16, 3), (4, .iload_n 2, 1), (5, .aload_n 0, 1), (6, .invokevirtual 505, 3), (9, .aload_n 1, 1), (10, .invokevirtual 505, 3), (13, .isub, 1), (14, .if_icmp .le 5, 3), (19, .aload_n 0, 1), (20, .getfield 9, 3), (23, .astore_n 3, 1), (24, .aload_n 1, 1), (25, .getfield 9, 3), (28, .astore 4, 2), (30, .iconst 0, 1), (31, .istore 5, 2), (33, .aload 4, 2), (35, .arraylength, 1), (36, .istore 6, 2), (38, .aload_n 0, 1), (39, .invokevirtual 335, 3), (42, .istore 7, 2), (44, .iload 7, 2), (46, .aload_n 1, 1), (47, .invokevirtual 335, 3), (50, .if_icmp .ne 32, 3), (53, .iload 7, 2), (55, .iconst 1, 1), (56, .if_icmp .ne 7, 3), (63, .aload_n 3, 1), (64, .iload_n 2, 1), (65, .aload 4, 2), (67, .iconst 0, 1), (68, .iload 6, 2), (70, .invokestatic 607, 3), (73, .ifCond .ge 7, 3), (76, .iconst 1, 1), (77, .goto 4, 3), (81, .ireturn, 1), (80, .iconst 0, 1)] := by decide +kernel
theorem own_pd6 : parseMethodDescriptor "([BI[BII)I" = some ⟨[(.array .byte), .int, (.array .byte), .int, .int], some .int⟩ := by decide +kernel
theorem own_ef21 (m : MethodId) (x0 : Addr) (x1 : Addr) (x2 : Int32) : entryFrame m #[(.ref x0), (.ref x1), (.int x2)] 8 = mkF m 0 #[ow_r x0, ow_r x1, ow_i x2, .unset, .unset, .unset, .unset, .unset] [] := by first | (simp [entryFrame, mkF, argsToLocals, Value.category]; done) | rfl
theorem own_pn21 : plainName "java/lang/String" = true := by first | (simp [plainName, overriddenIn]; done) | decide +kernel
def own_f21 (bs : List Int32) (ds : List Int32) (oo : Nat) : Int32 := (if (own_mis bs ds oo) < (0 : Int32) then (1 : Int32) else (0 : Int32))
set_option maxRecDepth 65536 in
set_option maxHeartbeats 40000000 in
theorem own_m21 (l : Launch) (Z : State) (a0 : Array Value) (hw : ∀ d ∈ tables_1, d.before a0 Z = true) (ws : List Jvm.Cond) (a1 : Addr) (a2 : Addr) (bs : List Int32) (ds : List Int32) (oo : Nat) (w_value_a1 : Addr) (kc_w_value_a1 : ClassId) (w_COMPACT_STRINGS : Int32) (w_value_a2 : Addr) (kc_w_value_a2 : ClassId) (h0 : Heap) (n0 : Nat) (Z0 : n0 ≤ h0.size) (F_value_a1 : Fld Z h0 a1 "java/lang/String" "value" "[B" (.ref w_value_a1)) (V_w_value_a1 : Arv Z h0 w_value_a1 kc_w_value_a1 .byte (Int32.ofNat bs.length) (bs.map Value.int) (.int 0)) (S_COMPACT_STRINGS : Sta Z h0 "java/lang/String" "COMPACT_STRINGS" "Z" (.int w_COMPACT_STRINGS)) (F_coder_a1 : Fld Z h0 a1 "java/lang/String" "coder" "B" (.int 0)) (E_a1 : Exa Z h0 a1 "java/lang/String") (F_value_a2 : Fld Z h0 a2 "java/lang/String" "value" "[B" (.ref w_value_a2)) (V_w_value_a2 : Arv Z h0 w_value_a2 kc_w_value_a2 .byte (Int32.ofNat ds.length) (ds.map Value.int) (.int 0)) (F_coder_a2 : Fld Z h0 a2 "java/lang/String" "coder" "B" (.int 0)) (E_a2 : Exa Z h0 a2 "java/lang/String") (hz : ¬ (w_COMPACT_STRINGS = (0 : Int32))) (hl_bs : bs.length ≤ 60) (hd7 : ds.length ≤ 7) (ho : oo + ds.length ≤ bs.length) :
    own_MF l Z own_y21 ws jdk_42_method_75_code 8 (some .boolean) ({ frames := 2, cells := 0, slots := 0, locals := 27 } : Room) #[(.ref a1), (.ref a2), (.int (Int32.ofNat oo))] h0 (own_Q (some (.int (own_f21 bs ds oo))) h0 n0) := by
  refine own_go "java/lang/String" rfl (plainFor_of_name own_pn21) (fun m => own_ef21 m a1 a2 (Int32.ofNat oo)) own_d21 n0 fun p e s m below meth c s₁ A0 Bd hx D hml hown hnm X0 hZ e0 N0 k => ?_
  replace k : ow s₁ (mkF m 4 #[ow_r a1, ow_r a2, ow_i (Int32.ofNat oo), .unset, .unset, .unset, .unset, .unset] []) := fun t q => k t (XS.iloadN X0.here hx rfl (D 0 rfl) rfl (XS.ifNo X0.here hx rfl (D 1 rfl) rfl ((if0 _ _).trans (flt (show ¬ ((Int32.ofNat oo) < (0 : Int32)) from (own_nlt (n := 0) (by omega) (by omega)))).1) q))
  replace k : ow s₁ (mkF m 6 #[ow_r a1, ow_r a2, ow_i (Int32.ofNat oo), .unset, .unset, .unset, .unset, .unset] [(.ref a1), (.int (Int32.ofNat oo))]) := fun t q => k t (XS.iloadN X0.here hx rfl (D 2 rfl) rfl (XS.aloadN X0.here hx rfl (D 3 rfl) rfl rfl q))
  obtain ⟨_, T1, L1, X1, hQ1, k⟩ := own_cV X0 hx hw hZ hown e0 k (own_m22 l Z a0 hw [] a1 bs w_value_a1 kc_w_value_a1 w_COMPACT_STRINGS h0 n0 Z0 F_value_a1 V_w_value_a1 S_COMPACT_STRINGS F_coder_a1 E_a1 hz) 98 99 101 100 102 9 rfl rfl rfl rfl rfl rfl E_a1 (by decide) rfl (by rw [hml]; rfl) [] [(.int (Int32.ofNat oo))] (lenOf own_pd5 rfl) rfl rfl (W := 1) own_le (D 4 rfl) (by decide) (by decide) (by decide) (by decide)
  rw [show own_f22 bs = (Int32.ofNat bs.length) from rfl] at hQ1
  obtain ⟨rfl, N1q, e1⟩ := hQ1
  have N1 := Fr.app N0 N1q
  replace k : ow T1 (mkF m 10 #[ow_r a1, ow_r a2, ow_i (Int32.ofNat oo), .unset, .unset, .unset, .unset, .unset] [(.ref a2), (.int (Int32.ofNat bs.length)), (.int (Int32.ofNat oo))]) := fun t q => k t (XS.aloadN X1.here hx rfl (D 5 rfl) rfl rfl q)
  obtain ⟨_, T2, L2, X2, hQ2, k⟩ := own_cV X1 hx hw hZ hown e1 k (own_m22 l Z a0 hw [] a2 ds w_value_a2 kc_w_value_a2 w_COMPACT_STRINGS h0 n0 Z0 F_value_a2 V_w_value_a2 S_COMPACT_STRINGS F_coder_a2 E_a2 hz) 98 99 101 100 102 9 rfl rfl rfl rfl rfl rfl E_a2 (by decide) rfl (by rw [hml]; rfl) [] [(.int (Int32.ofNat bs.length)), (.int (Int32.ofNat oo))] (lenOf own_pd5 rfl) rfl rfl (W := 2) own_le (D 6 rfl) (by decide) (by decide) (by decide) (by decide)
  rw [show own_f22 ds = (Int32.ofNat ds.length) from rfl] at hQ2
  obtain ⟨rfl, N2q, e2⟩ := hQ2
  have N2 := Fr.app N1 N2q
  replace k : ow T2 (mkF m 14 #[ow_r a1, ow_r a2, ow_i (Int32.ofNat oo), .unset, .unset, .unset, .unset, .unset] [(.int ((Int32.ofNat bs.length) - (Int32.ofNat ds.length))), (.int (Int32.ofNat oo))]) := fun t q => k t (XS.isub X2.here hx rfl (D 7 rfl) rfl q)
  replace k : ow T2 (mkF m 19 #[ow_r a1, ow_r a2, ow_i (Int32.ofNat oo), .unset, .unset, .unset, .unset, .unset] []) := fun t q => k t (XS.icmpYes X2.here hx rfl (pc0 := 14) (pc' := 19) rfl (D 8 rfl) rfl (flt (show ¬ (((Int32.ofNat bs.length) - (Int32.ofNat ds.length)) < (Int32.ofNat oo)) from (own_subl ho hl_bs))).2.2.2 (by decide) (by decide) q)
  obtain ⟨T3, X3, e3, st3⟩ := getF X2 hx hZ hown (host := "") (Or.inl (own_h hw 35 rfl)) Via.refl e2 F_value_a1 (g := (mkF m 20 #[ow_r a1, ow_r a2, ow_i (Int32.ofNat oo), .unset, .unset, .unset, .unset, .unset] [(.ref a1)])) rfl rfl (D 10 rfl)
  replace k : ow T3 (mkF m 23 #[ow_r a1, ow_r a2, ow_i (Int32.ofNat oo), .unset, .unset, .unset, .unset, .unset] [(.ref w_value_a1)]) := fun t q => k t (XS.aloadN X2.here hx rfl (D 9 rfl) rfl rfl (st3 t q))
  clear st3
  obtain ⟨T4, X4, e4, st4⟩ := getF X3 hx hZ hown (host := "") (Or.inl (own_h hw 35 rfl)) Via.refl e3 F_value_a2 (g := (mkF m 25 #[ow_r a1, ow_r a2, ow_i (Int32.ofNat oo), ow_r w_value_a1, .unset, .unset, .unset, .unset] [(.ref a2)])) rfl rfl (D 13 rfl)
  replace k : ow T4 (mkF m 28 #[ow_r a1, ow_r a2, ow_i (Int32.ofNat oo), ow_r w_value_a1, .unset, .unset, .unset, .unset] [(.ref w_value_a2)]) := fun t q => k t (XS.astoreN X3.here hx rfl (D 11 rfl) rfl rfl (l' := #[ow_r a1, ow_r a2, ow_i (Int32.ofNat oo), ow_r w_value_a1, .unset, .unset, .unset, .unset]) rfl (XS.aloadN X3.here hx rfl (D 12 rfl) rfl rfl (st4 t q)))
  clear st4
  replace k : ow T4 (mkF m 33 #[ow_r a1, ow_r a2, ow_i (Int32.ofNat oo), ow_r w_value_a1, ow_r w_value_a2, ow_i 0, .unset, .unset] []) := fun t q => k t (XS.astore X4.here hx rfl (D 14 rfl) rfl rfl (l' := #[ow_r a1, ow_r a2, ow_i (Int32.ofNat oo), ow_r w_value_a1, ow_r w_value_a2, .unset, .unset, .unset]) rfl (XS.iconst X4.here hx rfl (D 15 rfl) (XS.istore X4.here hx rfl (D 16 rfl) rfl (l' := #[ow_r a1, ow_r a2, ow_i (Int32.ofNat oo), ow_r w_value_a1, ow_r w_value_a2, ow_i 0, .unset, .unset]) rfl q)))
  obtain ⟨cl5, Ar5, qa5, Sa5, Na5, Ha5, Ga5⟩ := id V_w_value_a2
  replace k : ow T4 (mkF m 36 #[ow_r a1, ow_r a2, ow_i (Int32.ofNat oo), ow_r w_value_a1, ow_r w_value_a2, ow_i 0, .unset, .unset] [(.int (Int32.ofNat ds.length))]) := fun t q => k t (XS.aload X4.here hx rfl (D 17 rfl) rfl rfl (X4.arraylength hx (by rw [e4]; exact Ar5.1) (State.isArrayOf_alike hZ.alike Ar5.2.1) (g := (mkF m 35 #[ow_r a1, ow_r a2, ow_i (Int32.ofNat oo), ow_r w_value_a1, ow_r w_value_a2, ow_i 0, .unset, .unset] [(.ref w_value_a2)])) rfl rfl (D 18 rfl) _ (by rw [len_of Sa5 Na5]; exact q)))
  replace k : ow T4 (mkF m 39 #[ow_r a1, ow_r a2, ow_i (Int32.ofNat oo), ow_r w_value_a1, ow_r w_value_a2, ow_i 0, ow_i (Int32.ofNat ds.length), .unset] [(.ref a1)]) := fun t q => k t (XS.istore X4.here hx rfl (D 19 rfl) rfl (l' := #[ow_r a1, ow_r a2, ow_i (Int32.ofNat oo), ow_r w_value_a1, ow_r w_value_a2, ow_i 0, ow_i (Int32.ofNat ds.length), .unset]) rfl (XS.aloadN X4.here hx rfl (D 20 rfl) rfl rfl q))
  obtain ⟨_, T6, L6, X6, hQ6, k⟩ := own_cV X4 hx hw hZ hown e4 k (own_m23 l Z a0 hw [] a1 w_COMPACT_STRINGS h0 n0 Z0 S_COMPACT_STRINGS F_coder_a1 hz) 103 104 106 105 107 9 rfl rfl rfl rfl rfl rfl E_a1 (by decide) rfl (by rw [hml]; rfl) [] [] (lenOf own_pd0 rfl) rfl rfl (W := 0) own_le (D 21 rfl) (by decide) (by decide) (by decide) (by decide)
  rw [show own_f23 = (0 : Int32) from rfl] at hQ6
  obtain ⟨rfl, N6q, e6⟩ := hQ6
  have N6 := Fr.app N2 N6q
  replace k : ow T6 (mkF m 47 #[ow_r a1, ow_r a2, ow_i (Int32.ofNat oo), ow_r w_value_a1, ow_r w_value_a2, ow_i 0, ow_i (Int32.ofNat ds.length), ow_i 0] [(.ref a2), (.int 0)]) := fun t q => k t (XS.istore X6.here hx rfl (D 22 rfl) rfl (l' := #[ow_r a1, ow_r a2, ow_i (Int32.ofNat oo), ow_r w_value_a1, ow_r w_value_a2, ow_i 0, ow_i (Int32.ofNat ds.length), ow_i 0]) rfl (XS.iload X6.here hx rfl (D 23 rfl) rfl (XS.aloadN X6.here hx rfl (D 24 rfl) rfl rfl q)))
  obtain ⟨_, T7, L7, X7, hQ7, k⟩ := own_cV X6 hx hw hZ hown e6 k (own_m23 l Z a0 hw [] a2 w_COMPACT_STRINGS h0 n0 Z0 S_COMPACT_STRINGS F_coder_a2 hz) 103 104 106 105 107 9 rfl rfl rfl rfl rfl rfl E_a2 (by decide) rfl (by rw [hml]; rfl) [] [(.int 0)] (lenOf own_pd0 rfl) rfl rfl (W := 1) own_le (D 25 rfl) (by decide) (by decide) (by decide) (by decide)
  rw [show own_f23 = (0 : Int32) from rfl] at hQ7
  obtain ⟨rfl, N7q, e7⟩ := hQ7
  have N7 := Fr.app N6 N7q
  replace k : ow T7 (mkF m 53 #[ow_r a1, ow_r a2, ow_i (Int32.ofNat oo), ow_r w_value_a1, ow_r w_value_a2, ow_i 0, ow_i (Int32.ofNat ds.length), ow_i 0] []) := fun t q => k t (XS.icmpNo X7.here hx rfl (D 26 rfl) rfl (teq (show (0 : Int32) = (0 : Int32) from (by decide))).2 q)
  replace k : ow T7 (mkF m 63 #[ow_r a1, ow_r a2, ow_i (Int32.ofNat oo), ow_r w_value_a1, ow_r w_value_a2, ow_i 0, ow_i (Int32.ofNat ds.length), ow_i 0] []) := fun t q => k t (XS.iload X7.here hx rfl (D 27 rfl) rfl (XS.iconst X7.here hx rfl (D 28 rfl) (XS.icmpYes X7.here hx rfl (pc0 := 56) (pc' := 63) rfl (D 29 rfl) rfl (feq (show ¬ ((0 : Int32) = (1 : Int32)) from (by decide))).2 (by decide) (by decide) q)))
  replace k : ow T7 (mkF m 67 #[ow_r a1, ow_r a2, ow_i (Int32.ofNat oo), ow_r w_value_a1, ow_r w_value_a2, ow_i 0, ow_i (Int32.ofNat ds.length), ow_i 0] [(.ref w_value_a2), (.int (Int32.ofNat oo)), (.ref w_value_a1)]) := fun t q => k t (XS.aloadN X7.here hx rfl (D 30 rfl) rfl rfl (XS.iloadN X7.here hx rfl (D 31 rfl) rfl (XS.aload X7.here hx rfl (D 32 rfl) rfl rfl q)))
  obtain ⟨_, _, ⟨T8, L8, k8, n8⟩, -, X8, ⟨Lc8, hQ8, l8, y8, z8⟩, st8⟩ := Jvm.LawKit.callS X7 hx (y := own_y24) hown (mvT hZ (own_h hw 108 rfl)) (mvT hZ (own_h hw 109 rfl)) (mvT hZ (own_h hw 110 rfl)) (mvT hZ (own_h hw 111 rfl)) (by decide) (backOf (W := 0) (own_m24 l Z a0 hw [] w_value_a1 w_value_a2 bs ds oo kc_w_value_a1 kc_w_value_a2 h0 n0 Z0 V_w_value_a1 V_w_value_a2 (by first | assumption | exact Nat.le_of_ble_eq_true rfl | rfl | omega | decide) (by first | assumption | exact Nat.le_of_ble_eq_true rfl | rfl | omega | decide) (by first | assumption | exact Nat.le_of_ble_eq_true rfl | rfl | omega | decide)) hZ (own_h hw 111 rfl) (own_h hw 110 rfl) (by decide) (by decide)) (g := (mkF m 70 #[ow_r a1, ow_r a2, ow_i (Int32.ofNat oo), ow_r w_value_a1, ow_r w_value_a2, ow_i 0, ow_i (Int32.ofNat ds.length), ow_i 0] [(.int (Int32.ofNat ds.length)), (.int 0), (.ref w_value_a2), (.int (Int32.ofNat oo)), (.ref w_value_a1)])) rfl (by rw [hml]; rfl) (argsL := [(.ref w_value_a1), (.int (Int32.ofNat oo)), (.ref w_value_a2), (.int 0), (.int (Int32.ofNat ds.length))]) (rest := []) (lenOf own_pd6 rfl) rfl own_le (D 35 rfl) (fun _ _ => ⟨rfl, e7, (by decide : 0 + 0 ≤ _), (by decide : 0 + 0 ≤ _)⟩)
  dsimp only [Pt.U, Pt.locs, Pt.cells, Pt.slots] at X8 l8 y8 z8 st8 hQ8
  subst l8 y8 z8
  obtain ⟨rfl, N8q, e8⟩ := hQ8
  have N8 := Fr.app N7 N8q
  replace k : ow T8 (mkF m 73 #[ow_r a1, ow_r a2, ow_i (Int32.ofNat oo), ow_r w_value_a1, ow_r w_value_a2, ow_i 0, ow_i (Int32.ofNat ds.length), ow_i 0] [(.int (own_mis bs ds oo))]) := fun t q => k t (XS.iconst X7.here hx rfl (D 33 rfl) (XS.iload X7.here hx rfl (D 34 rfl) rfl (st8 t q)))
  clear st8
  by_cases hc9 : (own_mis bs ds oo) < (0 : Int32)
  · replace k : ow T8 (mkF m 76 #[ow_r a1, ow_r a2, ow_i (Int32.ofNat oo), ow_r w_value_a1, ow_r w_value_a2, ow_i 0, ow_i (Int32.ofNat ds.length), ow_i 0] []) := fun t q => k t (XS.ifNo X8.here hx rfl (D 36 rfl) rfl ((if0 _ _).trans (tlt (show (own_mis bs ds oo) < (0 : Int32) from hc9)).2.1) q)
    replace k : ow T8 (mkF m 81 #[ow_r a1, ow_r a2, ow_i (Int32.ofNat oo), ow_r w_value_a1, ow_r w_value_a2, ow_i 0, ow_i (Int32.ofNat ds.length), ow_i 0] [(.int 1)]) := fun t q => k t (XS.iconst X8.here hx rfl (D 37 rfl) (XS.goto X8.here hx rfl (pc0 := 77) (pc' := 81) rfl (D 38 rfl) (by decide) (by decide) q))
    exact own_end (v := some (.int 1)) X8 e8 Bd.notSynchronized (own_vn Bd.returns) k (fun _ hr => retN X8 hx (t := .boolean) Bd.returns (by simp) (D 39 rfl) (by first | exact hr | (rw [show nar .boolean (1 : Int32) = (1 : Int32) from by decide]; exact hr))) ⟨by rw [show (own_f21 bs ds oo) = (1 : Int32) from by unfold own_f21; rw [if_pos hc9]], N8, rfl⟩ (by decide) (by decide)
  · replace k : ow T8 (mkF m 80 #[ow_r a1, ow_r a2, ow_i (Int32.ofNat oo), ow_r w_value_a1, ow_r w_value_a2, ow_i 0, ow_i (Int32.ofNat ds.length), ow_i 0] []) := fun t q => k t (XS.ifYes X8.here hx rfl (pc0 := 73) (pc' := 80) rfl (D 36 rfl) rfl ((if0 _ _).trans (flt (show ¬ ((own_mis bs ds oo) < (0 : Int32)) from hc9)).2.1) (by decide) (by decide) q)
    replace k : ow T8 (mkF m 81 #[ow_r a1, ow_r a2, ow_i (Int32.ofNat oo), ow_r w_value_a1, ow_r w_value_a2, ow_i 0, ow_i (Int32.ofNat ds.length), ow_i 0] [(.int 0)]) := fun t q => k t (XS.iconst X8.here hx rfl (D 40 rfl) q)
    exact own_end (v := some (.int 0)) X8 e8 Bd.notSynchronized (own_vn Bd.returns) k (fun _ hr => retN X8 hx (t := .boolean) Bd.returns (by simp) (D 39 rfl) (by first | exact hr | (rw [show nar .boolean (0 : Int32) = (0 : Int32) from by decide]; exact hr))) ⟨by rw [show (own_f21 bs ds oo) = (0 : Int32) from by unfold own_f21; rw [if_neg hc9]], N8, rfl⟩ (by decide) (by decide)
theorem own_d20 : own_all jdk_42_method_76_code [(0, .aload_n 0, 1), (1, .aload_n 1, 1), (2, .iconst 0, 1), (3, .invokevirtual 624, 3), (6, .ireturn, 1)] := by decide +kernel
theorem own_pd7 : parseMethodDescriptor "(Ljava/lang/String;I)Z" = some ⟨[(.object "java/lang/String"), .int], some .boolean⟩ := by decide +kernel
theorem own_ef20 (m : MethodId) (x0 : Addr) (x1 : Addr) : entryFrame m #[(.ref x0), (.ref x1)] 2 = mkF m 0 #[ow_r x0, ow_r x1] [] := by first | (simp [entryFrame, mkF, argsToLocals, Value.category]; done) | rfl
theorem own_pn20 : plainName "java/lang/String" = true := by first | (simp [plainName, overriddenIn]; done) | decide +kernel
def own_f20 (bs : List Int32) (ds : List Int32) : Int32 := (if (own_mis bs ds 0) < (0 : Int32) then (1 : Int32) else (0 : Int32))
set_option maxRecDepth 65536 in
set_option maxHeartbeats 40000000 in
theorem own_m20 (l : Launch) (Z : State) (a0 : Array Value) (hw : ∀ d ∈ tables_1, d.before a0 Z = true) (ws : List Jvm.Cond) (a1 : Addr) (a2 : Addr) (bs : List Int32) (ds : List Int32) (w_value_a1 : Addr) (kc_w_value_a1 : ClassId) (w_COMPACT_STRINGS : Int32) (w_value_a2 : Addr) (kc_w_value_a2 : ClassId) (h0 : Heap) (n0 : Nat) (Z0 : n0 ≤ h0.size) (F_value_a1 : Fld Z h0 a1 "java/lang/String" "value" "[B" (.ref w_value_a1)) (V_w_value_a1 : Arv Z h0 w_value_a1 kc_w_value_a1 .byte (Int32.ofNat bs.length) (bs.map Value.int) (.int 0)) (S_COMPACT_STRINGS : Sta Z h0 "java/lang/String" "COMPACT_STRINGS" "Z" (.int w_COMPACT_STRINGS)) (F_coder_a1 : Fld Z h0 a1 "java/lang/String" "coder" "B" (.int 0)) (E_a1 : Exa Z h0 a1 "java/lang/String") (F_value_a2 : Fld Z h0 a2 "java/lang/String" "value" "[B" (.ref w_value_a2)) (V_w_value_a2 : Arv Z h0 w_value_a2 kc_w_value_a2 .byte (Int32.ofNat ds.length) (ds.map Value.int) (.int 0)) (F_coder_a2 : Fld Z h0 a2 "java/lang/String" "coder" "B" (.int 0)) (E_a2 : Exa Z h0 a2 "java/lang/String") (hz : ¬ (w_COMPACT_STRINGS = (0 : Int32))) (hl_bs : bs.length ≤ 60) (hd7 : ds.length ≤ 7) (ho : 0 + ds.length ≤ bs.length) :
    own_MF l Z own_y20 ws jdk_42_method_76_code 2 (some .boolean) ({ frames := 3, cells := 0, slots := 0, locals := 46 } : Room) #[(.ref a1), (.ref a2)] h0 (own_Q (some (.int (own_f20 bs ds))) h0 n0) := by
  refine own_go "java/lang/String" rfl (plainFor_of_name own_pn20) (fun m => own_ef20 m a1 a2) own_d20 n0 fun p e s m below meth c s₁ A0 Bd hx D hml hown hnm X0 hZ e0 N0 k => ?_
  replace k : ow s₁ (mkF m 3 #[ow_r a1, ow_r a2] [(.int 0), (.ref a2), (.ref a1)]) := fun t q => k t (XS.aloadN X0.here hx rfl (D 0 rfl) rfl rfl (XS.aloadN X0.here hx rfl (D 1 rfl) rfl rfl (XS.iconst X0.here hx rfl (D 2 rfl) q)))
  by_cases hc1 : (own_mis bs ds 0) < (0 : Int32)
  · obtain ⟨_, T2, L2, X2, hQ2, k⟩ := own_cV X0 hx hw hZ hown e0 k (own_m21 l Z a0 hw [] a1 a2 bs ds 0 w_value_a1 kc_w_value_a1 w_COMPACT_STRINGS w_value_a2 kc_w_value_a2 h0 n0 Z0 F_value_a1 V_w_value_a1 S_COMPACT_STRINGS F_coder_a1 E_a1 F_value_a2 V_w_value_a2 F_coder_a2 E_a2 hz (by first | assumption | exact Nat.le_of_ble_eq_true rfl | rfl | omega | decide) (by first | assumption | exact Nat.le_of_ble_eq_true rfl | rfl | omega | decide) (by first | assumption | exact Nat.le_of_ble_eq_true rfl | rfl | omega | decide)) 93 94 96 95 97 9 rfl rfl rfl rfl rfl rfl E_a1 (by decide) rfl (by rw [hml]; rfl) [(.ref a2), (.int 0)] [] (lenOf own_pd7 rfl) rfl rfl (W := 0) own_le (D 3 rfl) (by decide) (by decide) (by decide) (by decide)
    rw [show own_f21 bs ds 0 = (1 : Int32) from by unfold own_f21; rw [if_pos (show (own_mis bs ds 0) < (0 : Int32) from hc1)]] at hQ2
    obtain ⟨rfl, N2q, e2⟩ := hQ2
    have N2 := Fr.app N0 N2q
    exact own_end (v := some (.int 1)) X2 e2 Bd.notSynchronized (own_vn Bd.returns) k (fun _ hr => retN X2 hx (t := .boolean) Bd.returns (by simp) (D 4 rfl) (by first | exact hr | (rw [show nar .boolean (1 : Int32) = (1 : Int32) from by decide]; exact hr))) ⟨by rw [show (own_f20 bs ds) = (1 : Int32) from by unfold own_f20; rw [if_pos hc1]], N2, rfl⟩ (by decide) (by decide)
  · obtain ⟨_, T3, L3, X3, hQ3, k⟩ := own_cV X0 hx hw hZ hown e0 k (own_m21 l Z a0 hw [] a1 a2 bs ds 0 w_value_a1 kc_w_value_a1 w_COMPACT_STRINGS w_value_a2 kc_w_value_a2 h0 n0 Z0 F_value_a1 V_w_value_a1 S_COMPACT_STRINGS F_coder_a1 E_a1 F_value_a2 V_w_value_a2 F_coder_a2 E_a2 hz (by first | assumption | exact Nat.le_of_ble_eq_true rfl | rfl | omega | decide) (by first | assumption | exact Nat.le_of_ble_eq_true rfl | rfl | omega | decide) (by first | assumption | exact Nat.le_of_ble_eq_true rfl | rfl | omega | decide)) 93 94 96 95 97 9 rfl rfl rfl rfl rfl rfl E_a1 (by decide) rfl (by rw [hml]; rfl) [(.ref a2), (.int 0)] [] (lenOf own_pd7 rfl) rfl rfl (W := 0) own_le (D 3 rfl) (by decide) (by decide) (by decide) (by decide)
    rw [show own_f21 bs ds 0 = (0 : Int32) from by unfold own_f21; rw [if_neg (show ¬ ((own_mis bs ds 0) < (0 : Int32)) from hc1)]] at hQ3
    obtain ⟨rfl, N3q, e3⟩ := hQ3
    have N3 := Fr.app N0 N3q
    exact own_end (v := some (.int 0)) X3 e3 Bd.notSynchronized (own_vn Bd.returns) k (fun _ hr => retN X3 hx (t := .boolean) Bd.returns (by simp) (D 4 rfl) (by first | exact hr | (rw [show nar .boolean (0 : Int32) = (0 : Int32) from by decide]; exact hr))) ⟨by rw [show (own_f20 bs ds) = (0 : Int32) from by unfold own_f20; rw [if_neg hc1]], N3, rfl⟩ (by decide) (by decide)
theorem own_d42 : own_all jdk_42_method_77_code [(0, .aload_n 0, 1), (1, .aload_n 1, 1), (2, .aload_n 0, 1), (3, .invokevirtual 505, 3), (6, .aload_n 1, 1), (7, .invokevirtual 505, 3), (10, .isub, 1), (11, .invokevirtual 624, 3), (14, .ireturn, 1)] := by decide +kernel
theorem own_ef42 (m : MethodId) (x0 : Addr) (x1 : Addr) : entryFrame m #[(.ref x0), (.ref x1)] 2 = mkF m 0 #[ow_r x0, ow_r x1] [] := by first | (simp [entryFrame, mkF, argsToLocals, Value.category]; done) | rfl
theorem own_pn42 : plainName "java/lang/String" = true := by first | (simp [plainName, overriddenIn]; done) | decide +kernel
def own_f42 (bs : List Int32) (ds : List Int32) (oo : Nat) : Int32 := (if (own_mis bs ds oo) < (0 : Int32) then (1 : Int32) else (0 : Int32))
set_option maxRecDepth 65536 in
set_option maxHeartbeats 40000000 in
theorem own_m42 (l : Launch) (Z : State) (a0 : Array Value) (hw : ∀ d ∈ tables_1, d.before a0 Z = true) (ws : List Jvm.Cond) (a1 : Addr) (a2 : Addr) (bs : List Int32) (ds : List Int32) (oo : Nat) (w_value_a1 : Addr) (kc_w_value_a1 : ClassId) (w_COMPACT_STRINGS : Int32) (w_value_a2 : Addr) (kc_w_value_a2 : ClassId) (h0 : Heap) (n0 : Nat) (Z0 : n0 ≤ h0.size) (F_value_a1 : Fld Z h0 a1 "java/lang/String" "value" "[B" (.ref w_value_a1)) (V_w_value_a1 : Arv Z h0 w_value_a1 kc_w_value_a1 .byte (Int32.ofNat bs.length) (bs.map Value.int) (.int 0)) (S_COMPACT_STRINGS : Sta Z h0 "java/lang/String" "COMPACT_STRINGS" "Z" (.int w_COMPACT_STRINGS)) (F_coder_a1 : Fld Z h0 a1 "java/lang/String" "coder" "B" (.int 0)) (E_a1 : Exa Z h0 a1 "java/lang/String") (F_value_a2 : Fld Z h0 a2 "java/lang/String" "value" "[B" (.ref w_value_a2)) (V_w_value_a2 : Arv Z h0 w_value_a2 kc_w_value_a2 .byte (Int32.ofNat ds.length) (ds.map Value.int) (.int 0)) (F_coder_a2 : Fld Z h0 a2 "java/lang/String" "coder" "B" (.int 0)) (E_a2 : Exa Z h0 a2 "java/lang/String") (hz : ¬ (w_COMPACT_STRINGS = (0 : Int32))) (hl_bs : bs.length ≤ 60) (hd7 : ds.length ≤ 7) (ho : oo + ds.length = bs.length) :
    own_MF l Z own_y42 ws jdk_42_method_77_code 2 (some .boolean) ({ frames := 3, cells := 0, slots := 0, locals := 46 } : Room) #[(.ref a1), (.ref a2)] h0 (own_Q (some (.int (own_f42 bs ds oo))) h0 n0) := by
  refine own_go "java/lang/String" rfl (plainFor_of_name own_pn42) (fun m => own_ef42 m a1 a2) own_d42 n0 fun p e s m below meth c s₁ A0 Bd hx D hml hown hnm X0 hZ e0 N0 k => ?_
  replace k : ow s₁ (mkF m 3 #[ow_r a1, ow_r a2] [(.ref a1), (.ref a2), (.ref a1)]) := fun t q => k t (XS.aloadN X0.here hx rfl (D 0 rfl) rfl rfl (XS.aloadN X0.here hx rfl (D 1 rfl) rfl rfl (XS.aloadN X0.here hx rfl (D 2 rfl) rfl rfl q)))
  obtain ⟨_, T1, L1, X1, hQ1, k⟩ := own_cV X0 hx hw hZ hown e0 k (own_m22 l Z a0 hw [] a1 bs w_value_a1 kc_w_value_a1 w_COMPACT_STRINGS h0 n0 Z0 F_value_a1 V_w_value_a1 S_COMPACT_STRINGS F_coder_a1 E_a1 hz) 98 99 101 100 102 9 rfl rfl rfl rfl rfl rfl E_a1 (by decide) rfl (by rw [hml]; rfl) [] [(.ref a2), (.ref a1)] (lenOf own_pd5 rfl) rfl rfl (W := 2) own_le (D 3 rfl) (by decide) (by decide) (by decide) (by decide)
  rw [show own_f22 bs = (Int32.ofNat bs.length) from rfl] at hQ1
  obtain ⟨rfl, N1q, e1⟩ := hQ1
  have N1 := Fr.app N0 N1q
  replace k : ow T1 (mkF m 7 #[ow_r a1, ow_r a2] [(.ref a2), (.int (Int32.ofNat bs.length)), (.ref a2), (.ref a1)]) := fun t q => k t (XS.aloadN X1.here hx rfl (D 4 rfl) rfl rfl q)
  obtain ⟨_, T2, L2, X2, hQ2, k⟩ := own_cV X1 hx hw hZ hown e1 k (own_m22 l Z a0 hw [] a2 ds w_value_a2 kc_w_value_a2 w_COMPACT_STRINGS h0 n0 Z0 F_value_a2 V_w_value_a2 S_COMPACT_STRINGS F_coder_a2 E_a2 hz) 98 99 101 100 102 9 rfl rfl rfl rfl rfl rfl E_a2 (by decide) rfl (by rw [hml]; rfl) [] [(.int (Int32.ofNat bs.length)), (.ref a2), (.ref a1)] (lenOf own_pd5 rfl) rfl rfl (W := 3) own_le (D 5 rfl) (by decide) (by decide) (by decide) (by decide)
  rw [show own_f22 ds = (Int32.ofNat ds.length) from rfl] at hQ2
  obtain ⟨rfl, N2q, e2⟩ := hQ2
  have N2 := Fr.app N1 N2q
  replace k : ow T2 (mkF m 11 #[ow_r a1, ow_r a2] [(.int ((Int32.ofNat bs.length) - (Int32.ofNat ds.length))), (.ref a2), (.ref a1)]) := fun t q => k t (XS.isub X2.here hx rfl (D 6 rfl) rfl q)
  replace k : own_To p.tables e below A0 T2 (mkF m 11 #[ow_r a1, ow_r a2] [(.int (Int32.ofNat oo)), (.ref a2), (.ref a1)]) := by rw [← own_subo ho]; exact k
  by_cases hc3 : (own_mis bs ds oo) < (0 : Int32)
  · obtain ⟨_, T4, L4, X4, hQ4, k⟩ := own_cV X2 hx hw hZ hown e2 k (own_m21 l Z a0 hw [] a1 a2 bs ds oo w_value_a1 kc_w_value_a1 w_COMPACT_STRINGS w_value_a2 kc_w_value_a2 h0 n0 Z0 F_value_a1 V_w_value_a1 S_COMPACT_STRINGS F_coder_a1 E_a1 F_value_a2 V_w_value_a2 F_coder_a2 E_a2 hz (by first | assumption | exact Nat.le_of_ble_eq_true rfl | rfl | omega | decide) (by first | assumption | exact Nat.le_of_ble_eq_true rfl | rfl | omega | decide) (by first | assumption | exact Nat.le_of_ble_eq_true rfl | rfl | omega | decide)) 93 94 96 95 97 9 rfl rfl rfl rfl rfl rfl E_a1 (by decide) rfl (by rw [hml]; rfl) [(.ref a2), (.int (Int32.ofNat oo))] [] (lenOf own_pd7 rfl) rfl rfl (W := 0) own_le (D 7 rfl) (by decide) (by decide) (by decide) (by decide)
    rw [show own_f21 bs ds oo = (1 : Int32) from by unfold own_f21; rw [if_pos (show (own_mis bs ds oo) < (0 : Int32) from hc3)]] at hQ4
    obtain ⟨rfl, N4q, e4⟩ := hQ4
    have N4 := Fr.app N2 N4q
    exact own_end (v := some (.int 1)) X4 e4 Bd.notSynchronized (own_vn Bd.returns) k (fun _ hr => retN X4 hx (t := .boolean) Bd.returns (by simp) (D 8 rfl) (by first | exact hr | (rw [show nar .boolean (1 : Int32) = (1 : Int32) from by decide]; exact hr))) ⟨by rw [show (own_f42 bs ds oo) = (1 : Int32) from by unfold own_f42; rw [if_pos hc3]], N4, rfl⟩ (by decide) (by decide)
  · obtain ⟨_, T5, L5, X5, hQ5, k⟩ := own_cV X2 hx hw hZ hown e2 k (own_m21 l Z a0 hw [] a1 a2 bs ds oo w_value_a1 kc_w_value_a1 w_COMPACT_STRINGS w_value_a2 kc_w_value_a2 h0 n0 Z0 F_value_a1 V_w_value_a1 S_COMPACT_STRINGS F_coder_a1 E_a1 F_value_a2 V_w_value_a2 F_coder_a2 E_a2 hz (by first | assumption | exact Nat.le_of_ble_eq_true rfl | rfl | omega | decide) (by first | assumption | exact Nat.le_of_ble_eq_true rfl | rfl | omega | decide) (by first | assumption | exact Nat.le_of_ble_eq_true rfl | rfl | omega | decide)) 93 94 96 95 97 9 rfl rfl rfl rfl rfl rfl E_a1 (by decide) rfl (by rw [hml]; rfl) [(.ref a2), (.int (Int32.ofNat oo))] [] (lenOf own_pd7 rfl) rfl rfl (W := 0) own_le (D 7 rfl) (by decide) (by decide) (by decide) (by decide)
    rw [show own_f21 bs ds oo = (0 : Int32) from by unfold own_f21; rw [if_neg (show ¬ ((own_mis bs ds oo) < (0 : Int32)) from hc3)]] at hQ5
    obtain ⟨rfl, N5q, e5⟩ := hQ5
    have N5 := Fr.app N2 N5q
    exact own_end (v := some (.int 0)) X5 e5 Bd.notSynchronized (own_vn Bd.returns) k (fun _ hr => retN X5 hx (t := .boolean) Bd.returns (by simp) (D 8 rfl) (by first | exact hr | (rw [show nar .boolean (0 : Int32) = (0 : Int32) from by decide]; exact hr))) ⟨by rw [show (own_f42 bs ds oo) = (0 : Int32) from by unfold own_f42; rw [if_neg hc3]], N5, rfl⟩ (by decide) (by decide)
/-- a char of a class name -/
def own_okc (c : Int32) : Prop := (¬ c < 0 ∧ ¬ (255 : Int32) < c) ∧ ¬ c = 46 ∧ ¬ c = 59 ∧ ¬ c = 91 ∧ ¬ c = 47
/-- a char of a method's name -/
def own_okm (c : Int32) : Prop := own_okc c ∧ ¬ c = 60 ∧ ¬ c = 62
/-- a base type's char -/
def own_okb (c : Int32) : Prop := c = 66 ∨ c = 67 ∨ c = 68 ∨ c = 70 ∨ c = 73 ∨ c = 74 ∨ c = 83 ∨ c = 90
theorem own_bn {c d : Int32} (hc : ¬ c < 0 ∧ ¬ (255 : Int32) < c) (e : d.toInt8.toInt32 = d) (d0 : ¬ d < 0) (d1 : ¬ (255 : Int32) < d) (h : ¬ c = d) : ¬ d = c.toInt8.toInt32 := fun q =>
  h (StrChars.lo8_inj hc.1 hc.2 d0 d1 (show c.toInt8.toInt32 = d.toInt8.toInt32 by rw [e]; exact q.symm))
theorem own_bn' {c d : Int32} (hc : ¬ c < 0 ∧ ¬ (255 : Int32) < c) (e : d.toInt8.toInt32 = d) (d0 : ¬ d < 0) (d1 : ¬ (255 : Int32) < d) (h : ¬ c = d) : ¬ c.toInt8.toInt32 = d.toInt8.toInt32 := fun q => own_bn hc e d0 d1 h (by rw [← e, ← q])
theorem own_ix4 {c : Int32} (h : own_okc c) : own_ix1 c ([46, 59, 91, 47] : List Int32) < (0 : Int32) := by
  obtain ⟨r, h1, h2, h3, h4⟩ := h
  show own_ixA c.toInt8.toInt32 [46, 59, 91, 47] 0 < 0
  unfold own_ixA; rw [if_neg (own_bn r (by decide) (by decide) (by decide) h1)]
  unfold own_ixA; rw [if_neg (own_bn r (by decide) (by decide) (by decide) h2)]
  unfold own_ixA; rw [if_neg (own_bn r (by decide) (by decide) (by decide) h3)]
  unfold own_ixA; rw [if_neg (own_bn r (by decide) (by decide) (by decide) h4)]
  show (-1 : Int32) < 0
  decide
theorem own_ixc2 {c0 c1 d : Int32} (r0 : ¬ c0 < 0 ∧ ¬ (255 : Int32) < c0) (r1 : ¬ c1 < 0 ∧ ¬ (255 : Int32) < c1) (e : d.toInt8.toInt32 = d) (d0 : ¬ d < 0) (d1 : ¬ (255 : Int32) < d) (h0 : ¬ c0 = d) (h1 : ¬ c1 = d) : own_ix1 d ([(c0.toInt8.toInt32), (c1.toInt8.toInt32)] : List Int32) = (-1 : Int32) := by
  show own_ixA d.toInt8.toInt32 [c0.toInt8.toInt32, c1.toInt8.toInt32] 0 = -1
  unfold own_ixA; rw [if_neg (own_bn' r0 e d0 d1 h0)]
  unfold own_ixA; rw [if_neg (own_bn' r1 e d0 d1 h1)]
  rfl
theorem own_ixc3 {c0 c1 : Int32} (h : own_okc c0) : own_ix1 (46 : Int32) ([(c0.toInt8.toInt32), 46, (c1.toInt8.toInt32)] : List Int32) = (1 : Int32) := by
  show own_ixA ((46 : Int32).toInt8.toInt32) [c0.toInt8.toInt32, 46, c1.toInt8.toInt32] 0 = 1
  unfold own_ixA; rw [if_neg (own_bn' h.1 (by decide) (by decide) (by decide) h.2.1)]
  unfold own_ixA; rw [if_pos (by decide)]; rfl
theorem own_ixc3b {c0 c1 : Int32} (h : own_okc c1) : own_ix2 (46 : Int32) ([(c0.toInt8.toInt32), 46, (c1.toInt8.toInt32)] : List Int32) 2 = (-1 : Int32) := by
  show own_ixA ((46 : Int32).toInt8.toInt32) [c1.toInt8.toInt32] 2 = -1
  unfold own_ixA; rw [if_neg (own_bn' h.1 (by decide) (by decide) (by decide) h.2.1)]; rfl
theorem own_ix8 {c : Int32} (h : own_okb c) : ¬ (own_ix1 c ([66, 67, 68, 70, 73, 74, 83, 90] : List Int32) < (0 : Int32)) := by
  show ¬ (own_ixA c.toInt8.toInt32 [66, 67, 68, 70, 73, 74, 83, 90] 0 < 0)
  rcases h with rfl | rfl | rfl | rfl | rfl | rfl | rfl | rfl <;> decide
theorem own_mis_no {b d : Int32} {bs : List Int32} (h : ¬ b = d) : ¬ (own_mis (b :: bs) [d] 0 < (0 : Int32)) := by
  show ¬ (own_mmA (b :: bs) [d] 0 < 0)
  unfold own_mmA; rw [if_neg h]; decide
theorem own_okb.rng {c : Int32} (h : own_okb c) : ¬ c < 0 ∧ ¬ (255 : Int32) < c := by rcases h with rfl | rfl | rfl | rfl | rfl | rfl | rfl | rfl <;> decide
theorem own_okb.ne {c : Int32} (h : own_okb c) : ¬ c = 41 ∧ ¬ c = 86 ∧ ¬ c = 91 ∧ ¬ c.toInt8.toInt32 = 86 := by rcases h with rfl | rfl | rfl | rfl | rfl | rfl | rfl | rfl <;> decide
theorem own_d33 : own_all prog_120_method_14_code [(0, .iload_n 1, 1), (1, .iload_n 2, 1), (2, .if_icmp .ne 5, 3), (7, .iload_n 1, 1), (8, .istore_n 3, 1), (9, .iload_n 3, 1), (10, .iload_n 2, 1), (11, .if_icmp .ge 24, 3), (14, .ldc 106, 2), (16, .aload_n 0, 1), (17, .iload_n 3, 1), (18, .invokevirtual 56, 3), (21, .invokevirtual 29, 3), (24, .ifCond .lt 5, 3), (29, .iinc 3 1, 3), (32, .goto (-23), 3), (35, .iconst 1, 1), (36, .ireturn, 1)] := by decide +kernel
theorem own_pd8 : parseMethodDescriptor "(I)I" = some ⟨[.int], some .int⟩ := by decide +kernel
theorem own_ef33_10_22 (m : MethodId) (x0 : Addr) : entryFrame m #[(.ref x0), (.int 0), (.int 2)] 4 = mkF m 0 #[ow_r x0, ow_i 0, ow_i 2, .unset] [] := by first | (simp [entryFrame, mkF, argsToLocals, Value.category]; done) | rfl
theorem own_pn33 : plainName "com/example/callsite/callsite/model/JvmNames" = true := by first | (simp [plainName, overriddenIn]; done) | decide +kernel
def own_m33_2_Q (Z : State) (a1 : Addr) (c0 : Int32) (c1 : Int32) (w_COMPACT_STRINGS : Int32) (w_SIOOBE_FORMATTER : Value) (h0 : Heap) (n0 : Nat) (v : Option Value) (h : Heap) (L : List Loc) : Prop := v = some (.int 1) ∧ Fr n0 L ∧ Keep h0 h []
set_option maxRecDepth 65536 in
set_option maxHeartbeats 40000000 in
theorem own_m33_2 (l : Launch) (Z : State) (a0 : Array Value) (hw : ∀ d ∈ tables_1, d.before a0 Z = true) (ws : List Jvm.Cond) (a1 : Addr) (c0 : Int32) (c1 : Int32) (w_COMPACT_STRINGS : Int32) (w_SIOOBE_FORMATTER : Value) (h0 : Heap) (n0 : Nat) (Z0 : n0 ≤ h0.size) (T_a1 : own_Str Z h0 a1 ([c0, c1] : List Int32)) (S_COMPACT_STRINGS : Sta Z h0 "java/lang/String" "COMPACT_STRINGS" "Z" (.int w_COMPACT_STRINGS)) (S_SIOOBE_FORMATTER : Sta Z h0 "jdk/internal/util/Preconditions" "SIOOBE_FORMATTER" "Ljava/util/function/BiFunction;" w_SIOOBE_FORMATTER) (hz : ¬ (w_COMPACT_STRINGS = (0 : Int32))) (hrS : w_SIOOBE_FORMATTER.isRef = true) (ok0 : own_okc c0) (ok1 : own_okc c1) :
    own_MS l Z own_y33 ws prog_120_method_14_code 4 (some .boolean) ({ frames := 4, cells := 2, slots := 20, locals := 59 } : Room) #[(.ref a1), (.int 0), (.int 2)] h0 (own_CP Z consts_1 own_J) (own_m33_2_Q Z a1 c0 c1 w_COMPACT_STRINGS w_SIOOBE_FORMATTER h0 n0) := by
  refine own_goS own_CP.refl "com/example/callsite/callsite/model/JvmNames" rfl (plainFor_of_name own_pn33) (fun m => own_ef33_10_22 m a1) own_d33 n0 fun p e s m below meth c s₁ A0 Bd hx D hml hown hnm X0 hZ e0 N0 hh CH0 hS0 hk0 CR0 k => ?_
  replace k : ow s₁ (mkF m 7 #[ow_r a1, ow_i 0, ow_i 2, .unset] []) := fun t q => k t (XS.iloadN X0.here hx rfl (D 0 rfl) rfl (XS.iloadN X0.here hx rfl (D 1 rfl) rfl (XS.icmpYes X0.here hx rfl (pc0 := 2) (pc' := 7) rfl (D 2 rfl) rfl (feq (show ¬ ((0 : Int32) = (2 : Int32)) from (by decide))).2 (by decide) (by decide) q)))
  replace k : ow s₁ (mkF m 10 #[ow_r a1, ow_i 0, ow_i 2, ow_i 0] [(.int 0)]) := fun t q => k t (XS.iloadN X0.here hx rfl (D 3 rfl) rfl (XS.istoreN X0.here hx rfl (D 4 rfl) rfl (l' := #[ow_r a1, ow_i 0, ow_i 2, ow_i 0]) rfl (XS.iloadN X0.here hx rfl (D 5 rfl) rfl q)))
  replace k : ow s₁ (mkF m 14 #[ow_r a1, ow_i 0, ow_i 2, ow_i 0] []) := fun t q => k t (XS.iloadN X0.here hx rfl (D 6 rfl) rfl (XS.icmpNo X0.here hx rfl (D 7 rfl) rfl (tlt (show (0 : Int32) < (2 : Int32) from (by decide))).2.1 q))
  obtain ⟨a21, T21, h21, k121, bs21, kc21, X21, e21, E21, hS21, hk21, hZ, hown, EX21, FC21, FV21, AV21, la21, lb21, CU21, LT21, SX21, st21⟩ := own_ldc X0 hx hZ hown (own_h hw 144 rfl) (own_wS hw) e0 hS0 hk0 (own_EW hw) (List.mem_of_getElem? (i := 7) rfl) (EJ := own_J) (List.mem_of_getElem? (i := 7) rfl) CH0 (vs := [(.int 46), (.int 59), (.int 91), (.int 47)]) (z := (4 : Int32)) ⟨by decide, by decide⟩ (by decide) (by decide) (g := (mkF m 14 #[ow_r a1, ow_i 0, ow_i 2, ow_i 0] [])) rfl (D 8 rfl) (n := 16) (by decide) (by decide) (by decide) (by decide)
  have Z21 : n0 ≤ h21.size := Nat.le_trans Z0 E21.1
  have K21 : Keep h0 h21 [] := (Keep.refl h0 []).ext E21
  have CR21 := CR0.trans CU21
  have CH21 := CU21.1
  replace k : ow T21 (mkF m 16 #[ow_r a1, ow_i 0, ow_i 2, ow_i 0] [(.ref a21)]) := fun t q => k t (st21 t q)
  clear st21
  replace k : ow T21 (mkF m 18 #[ow_r a1, ow_i 0, ow_i 2, ow_i 0] [(.int 0), (.ref a1), (.ref a21)]) := fun t q => k t (XS.aloadN X21.here hx rfl (D 9 rfl) rfl rfl (XS.iloadN X21.here hx rfl (D 10 rfl) rfl q))
  obtain ⟨T22, X22, e22, k⟩ := own_cCh X21 hx hw hZ hown e21 k (T_a1.ext E21) (S_COMPACT_STRINGS.ext E21) hz (S_SIOOBE_FORMATTER.ext E21) hrS 0 (0 : Int32) (Nat.le_of_ble_eq_true rfl) (by decide) 145 50 52 51 8 rfl rfl rfl rfl rfl rfl rfl (by rw [hml]; rfl) [(.ref a21)] rfl (W := 1) own_le (D 11 rfl) (by decide) (by decide) (by decide) (by decide)
  obtain ⟨_, T23, L23, X23, hQ23, k⟩ := own_cV X22 hx hw hZ hown e22 k (own_m26 l Z a0 hw [] a21 c0 ([46, 59, 91, 47] : List Int32) w_COMPACT_STRINGS bs21 kc21 h21 n0 Z21 (S_COMPACT_STRINGS.ext E21) FC21 EX21 FV21 AV21 hz ok0.1.1 ok0.1.2 (by first | assumption | exact Nat.le_of_ble_eq_true rfl | rfl | omega | decide) (by first | assumption | exact Nat.le_of_ble_eq_true rfl | rfl | omega | decide)) 115 116 118 117 119 9 rfl rfl rfl rfl rfl rfl EX21 (by decide) rfl (by rw [hml]; rfl) [(.int c0)] [] (lenOf own_pd8 rfl) rfl rfl (W := 0) own_le (D 12 rfl) (by decide) (by decide) (by decide) (by decide)
  obtain ⟨rfl, N23q, e23⟩ := hQ23
  have N23 := Fr.app N0 N23q
  replace k : ow T23 (mkF m 29 #[ow_r a1, ow_i 0, ow_i 2, ow_i 0] []) := fun t q => k t (XS.ifYes X23.here hx rfl (pc0 := 24) (pc' := 29) rfl (D 13 rfl) rfl ((if0 _ _).trans (tlt (show (own_ix1 c0 ([46, 59, 91, 47] : List Int32)) < (0 : Int32) from (own_ix4 ok0))).1) (by decide) (by decide) q)
  replace k : ow T23 (mkF m 32 #[ow_r a1, ow_i 0, ow_i 2, ow_i 1] []) := fun t q => k t (XS.iinc X23.here hx rfl (D 14 rfl) rfl (l' := #[ow_r a1, ow_i 0, ow_i 2, ow_i ((0 : Int32) + (1 : Int32))]) rfl (by rw [show ((0 : Int32) + (1 : Int32)) = (1 : Int32) from by decide]; exact q))
  replace k : ow T23 (mkF m 11 #[ow_r a1, ow_i 0, ow_i 2, ow_i 1] [(.int 2), (.int 1)]) := fun t q => k t (XS.goto X23.here hx rfl (pc0 := 32) (pc' := 9) rfl (D 15 rfl) (by decide) (by decide) (XS.iloadN X23.here hx rfl (D 5 rfl) rfl (XS.iloadN X23.here hx rfl (D 6 rfl) rfl q)))
  replace k : ow T23 (mkF m 14 #[ow_r a1, ow_i 0, ow_i 2, ow_i 1] []) := fun t q => k t (XS.icmpNo X23.here hx rfl (D 7 rfl) rfl (tlt (show (1 : Int32) < (2 : Int32) from (by decide))).2.1 q)
  replace k : ow T23 (mkF m 16 #[ow_r a1, ow_i 0, ow_i 2, ow_i 1] [(.ref a21)]) := fun t q => k t ((own_again X23 hx hZ hown (own_h hw 144 rfl) LT21 (g := (mkF m 14 #[ow_r a1, ow_i 0, ow_i 2, ow_i 1] [])) rfl (D 8 rfl)) t q)
  replace k : ow T23 (mkF m 18 #[ow_r a1, ow_i 0, ow_i 2, ow_i 1] [(.int 1), (.ref a1), (.ref a21)]) := fun t q => k t (XS.aloadN X23.here hx rfl (D 9 rfl) rfl rfl (XS.iloadN X23.here hx rfl (D 10 rfl) rfl q))
  obtain ⟨T25, X25, e25, k⟩ := own_cCh X23 hx hw hZ hown e23 k (T_a1.ext E21) (S_COMPACT_STRINGS.ext E21) hz (S_SIOOBE_FORMATTER.ext E21) hrS 1 (1 : Int32) (Nat.le_of_ble_eq_true rfl) (by decide) 145 50 52 51 8 rfl rfl rfl rfl rfl rfl rfl (by rw [hml]; rfl) [(.ref a21)] rfl (W := 1) own_le (D 11 rfl) (by decide) (by decide) (by decide) (by decide)
  obtain ⟨_, T26, L26, X26, hQ26, k⟩ := own_cV X25 hx hw hZ hown e25 k (own_m26 l Z a0 hw [] a21 c1 ([46, 59, 91, 47] : List Int32) w_COMPACT_STRINGS bs21 kc21 h21 n0 Z21 (S_COMPACT_STRINGS.ext E21) FC21 EX21 FV21 AV21 hz ok1.1.1 ok1.1.2 (by first | assumption | exact Nat.le_of_ble_eq_true rfl | rfl | omega | decide) (by first | assumption | exact Nat.le_of_ble_eq_true rfl | rfl | omega | decide)) 115 116 118 117 119 9 rfl rfl rfl rfl rfl rfl EX21 (by decide) rfl (by rw [hml]; rfl) [(.int c1)] [] (lenOf own_pd8 rfl) rfl rfl (W := 0) own_le (D 12 rfl) (by decide) (by decide) (by decide) (by decide)
  obtain ⟨rfl, N26q, e26⟩ := hQ26
  have N26 := Fr.app N23 N26q
  replace k : ow T26 (mkF m 29 #[ow_r a1, ow_i 0, ow_i 2, ow_i 1] []) := fun t q => k t (XS.ifYes X26.here hx rfl (pc0 := 24) (pc' := 29) rfl (D 13 rfl) rfl ((if0 _ _).trans (tlt (show (own_ix1 c1 ([46, 59, 91, 47] : List Int32)) < (0 : Int32) from (own_ix4 ok1))).1) (by decide) (by decide) q)
  replace k : ow T26 (mkF m 32 #[ow_r a1, ow_i 0, ow_i 2, ow_i 2] []) := fun t q => k t (XS.iinc X26.here hx rfl (D 14 rfl) rfl (l' := #[ow_r a1, ow_i 0, ow_i 2, ow_i ((1 : Int32) + (1 : Int32))]) rfl (by rw [show ((1 : Int32) + (1 : Int32)) = (2 : Int32) from by decide]; exact q))
  replace k : ow T26 (mkF m 11 #[ow_r a1, ow_i 0, ow_i 2, ow_i 2] [(.int 2), (.int 2)]) := fun t q => k t (XS.goto X26.here hx rfl (pc0 := 32) (pc' := 9) rfl (D 15 rfl) (by decide) (by decide) (XS.iloadN X26.here hx rfl (D 5 rfl) rfl (XS.iloadN X26.here hx rfl (D 6 rfl) rfl q)))
  replace k : ow T26 (mkF m 35 #[ow_r a1, ow_i 0, ow_i 2, ow_i 2] []) := fun t q => k t (XS.icmpYes X26.here hx rfl (pc0 := 11) (pc' := 35) rfl (D 7 rfl) rfl (flt (show ¬ ((2 : Int32) < (2 : Int32)) from (by decide))).2.1 (by decide) (by decide) q)
  replace k : ow T26 (mkF m 36 #[ow_r a1, ow_i 0, ow_i 2, ow_i 2] [(.int 1)]) := fun t q => k t (XS.iconst X26.here hx rfl (D 16 rfl) q)
  exact own_endS (v := some (.int 1)) X26 e26 hS21 hk21 hh Bd.notSynchronized (own_vn Bd.returns) k (fun _ hr => retN X26 hx (t := .boolean) Bd.returns (by simp) (D 17 rfl) hr) ⟨rfl, N26, K21⟩ (CR21.trans (own_CP.at own_J X26 hZ (own_EW hw) CH21)) (by decide) (by decide)
theorem own_ef33_10_21 (m : MethodId) (x0 : Addr) : entryFrame m #[(.ref x0), (.int 0), (.int 1)] 4 = mkF m 0 #[ow_r x0, ow_i 0, ow_i 1, .unset] [] := by first | (simp [entryFrame, mkF, argsToLocals, Value.category]; done) | rfl
def own_m33_3a_Q (Z : State) (a1 : Addr) (c0 : Int32) (c1 : Int32) (w_COMPACT_STRINGS : Int32) (w_SIOOBE_FORMATTER : Value) (h0 : Heap) (n0 : Nat) (v : Option Value) (h : Heap) (L : List Loc) : Prop := v = some (.int 1) ∧ Fr n0 L ∧ Keep h0 h []
set_option maxRecDepth 65536 in
set_option maxHeartbeats 40000000 in
theorem own_m33_3a (l : Launch) (Z : State) (a0 : Array Value) (hw : ∀ d ∈ tables_1, d.before a0 Z = true) (ws : List Jvm.Cond) (a1 : Addr) (c0 : Int32) (c1 : Int32) (w_COMPACT_STRINGS : Int32) (w_SIOOBE_FORMATTER : Value) (h0 : Heap) (n0 : Nat) (Z0 : n0 ≤ h0.size) (T_a1 : own_Str Z h0 a1 ([c0, 46, c1] : List Int32)) (S_COMPACT_STRINGS : Sta Z h0 "java/lang/String" "COMPACT_STRINGS" "Z" (.int w_COMPACT_STRINGS)) (S_SIOOBE_FORMATTER : Sta Z h0 "jdk/internal/util/Preconditions" "SIOOBE_FORMATTER" "Ljava/util/function/BiFunction;" w_SIOOBE_FORMATTER) (hz : ¬ (w_COMPACT_STRINGS = (0 : Int32))) (hrS : w_SIOOBE_FORMATTER.isRef = true) (ok0 : own_okc c0) (ok1 : own_okc c1) :
    own_MS l Z own_y33 ws prog_120_method_14_code 4 (some .boolean) ({ frames := 4, cells := 2, slots := 20, locals := 59 } : Room) #[(.ref a1), (.int 0), (.int 1)] h0 (own_CP Z consts_1 own_J) (own_m33_3a_Q Z a1 c0 c1 w_COMPACT_STRINGS w_SIOOBE_FORMATTER h0 n0) := by
  refine own_goS own_CP.refl "com/example/callsite/callsite/model/JvmNames" rfl (plainFor_of_name own_pn33) (fun m => own_ef33_10_21 m a1) own_d33 n0 fun p e s m below meth c s₁ A0 Bd hx D hml hown hnm X0 hZ e0 N0 hh CH0 hS0 hk0 CR0 k => ?_
  replace k : ow s₁ (mkF m 7 #[ow_r a1, ow_i 0, ow_i 1, .unset] []) := fun t q => k t (XS.iloadN X0.here hx rfl (D 0 rfl) rfl (XS.iloadN X0.here hx rfl (D 1 rfl) rfl (XS.icmpYes X0.here hx rfl (pc0 := 2) (pc' := 7) rfl (D 2 rfl) rfl (feq (show ¬ ((0 : Int32) = (1 : Int32)) from (by decide))).2 (by decide) (by decide) q)))
  replace k : ow s₁ (mkF m 10 #[ow_r a1, ow_i 0, ow_i 1, ow_i 0] [(.int 0)]) := fun t q => k t (XS.iloadN X0.here hx rfl (D 3 rfl) rfl (XS.istoreN X0.here hx rfl (D 4 rfl) rfl (l' := #[ow_r a1, ow_i 0, ow_i 1, ow_i 0]) rfl (XS.iloadN X0.here hx rfl (D 5 rfl) rfl q)))
  replace k : ow s₁ (mkF m 14 #[ow_r a1, ow_i 0, ow_i 1, ow_i 0] []) := fun t q => k t (XS.iloadN X0.here hx rfl (D 6 rfl) rfl (XS.icmpNo X0.here hx rfl (D 7 rfl) rfl (tlt (show (0 : Int32) < (1 : Int32) from (by decide))).2.1 q))
  obtain ⟨a21, T21, h21, k121, bs21, kc21, X21, e21, E21, hS21, hk21, hZ, hown, EX21, FC21, FV21, AV21, la21, lb21, CU21, LT21, SX21, st21⟩ := own_ldc X0 hx hZ hown (own_h hw 144 rfl) (own_wS hw) e0 hS0 hk0 (own_EW hw) (List.mem_of_getElem? (i := 7) rfl) (EJ := own_J) (List.mem_of_getElem? (i := 7) rfl) CH0 (vs := [(.int 46), (.int 59), (.int 91), (.int 47)]) (z := (4 : Int32)) ⟨by decide, by decide⟩ (by decide) (by decide) (g := (mkF m 14 #[ow_r a1, ow_i 0, ow_i 1, ow_i 0] [])) rfl (D 8 rfl) (n := 16) (by decide) (by decide) (by decide) (by decide)
  have Z21 : n0 ≤ h21.size := Nat.le_trans Z0 E21.1
  have K21 : Keep h0 h21 [] := (Keep.refl h0 []).ext E21
  have CR21 := CR0.trans CU21
  have CH21 := CU21.1
  replace k : ow T21 (mkF m 16 #[ow_r a1, ow_i 0, ow_i 1, ow_i 0] [(.ref a21)]) := fun t q => k t (st21 t q)
  clear st21
  replace k : ow T21 (mkF m 18 #[ow_r a1, ow_i 0, ow_i 1, ow_i 0] [(.int 0), (.ref a1), (.ref a21)]) := fun t q => k t (XS.aloadN X21.here hx rfl (D 9 rfl) rfl rfl (XS.iloadN X21.here hx rfl (D 10 rfl) rfl q))
  obtain ⟨T22, X22, e22, k⟩ := own_cCh X21 hx hw hZ hown e21 k (T_a1.ext E21) (S_COMPACT_STRINGS.ext E21) hz (S_SIOOBE_FORMATTER.ext E21) hrS 0 (0 : Int32) (Nat.le_of_ble_eq_true rfl) (by decide) 145 50 52 51 8 rfl rfl rfl rfl rfl rfl rfl (by rw [hml]; rfl) [(.ref a21)] rfl (W := 1) own_le (D 11 rfl) (by decide) (by decide) (by decide) (by decide)
  obtain ⟨_, T23, L23, X23, hQ23, k⟩ := own_cV X22 hx hw hZ hown e22 k (own_m26 l Z a0 hw [] a21 c0 ([46, 59, 91, 47] : List Int32) w_COMPACT_STRINGS bs21 kc21 h21 n0 Z21 (S_COMPACT_STRINGS.ext E21) FC21 EX21 FV21 AV21 hz ok0.1.1 ok0.1.2 (by first | assumption | exact Nat.le_of_ble_eq_true rfl | rfl | omega | decide) (by first | assumption | exact Nat.le_of_ble_eq_true rfl | rfl | omega | decide)) 115 116 118 117 119 9 rfl rfl rfl rfl rfl rfl EX21 (by decide) rfl (by rw [hml]; rfl) [(.int c0)] [] (lenOf own_pd8 rfl) rfl rfl (W := 0) own_le (D 12 rfl) (by decide) (by decide) (by decide) (by decide)
  obtain ⟨rfl, N23q, e23⟩ := hQ23
  have N23 := Fr.app N0 N23q
  replace k : ow T23 (mkF m 29 #[ow_r a1, ow_i 0, ow_i 1, ow_i 0] []) := fun t q => k t (XS.ifYes X23.here hx rfl (pc0 := 24) (pc' := 29) rfl (D 13 rfl) rfl ((if0 _ _).trans (tlt (show (own_ix1 c0 ([46, 59, 91, 47] : List Int32)) < (0 : Int32) from (own_ix4 ok0))).1) (by decide) (by decide) q)
  replace k : ow T23 (mkF m 32 #[ow_r a1, ow_i 0, ow_i 1, ow_i 1] []) := fun t q => k t (XS.iinc X23.here hx rfl (D 14 rfl) rfl (l' := #[ow_r a1, ow_i 0, ow_i 1, ow_i ((0 : Int32) + (1 : Int32))]) rfl (by rw [show ((0 : Int32) + (1 : Int32)) = (1 : Int32) from by decide]; exact q))
  replace k : ow T23 (mkF m 11 #[ow_r a1, ow_i 0, ow_i 1, ow_i 1] [(.int 1), (.int 1)]) := fun t q => k t (XS.goto X23.here hx rfl (pc0 := 32) (pc' := 9) rfl (D 15 rfl) (by decide) (by decide) (XS.iloadN X23.here hx rfl (D 5 rfl) rfl (XS.iloadN X23.here hx rfl (D 6 rfl) rfl q)))
  replace k : ow T23 (mkF m 35 #[ow_r a1, ow_i 0, ow_i 1, ow_i 1] []) := fun t q => k t (XS.icmpYes X23.here hx rfl (pc0 := 11) (pc' := 35) rfl (D 7 rfl) rfl (flt (show ¬ ((1 : Int32) < (1 : Int32)) from (by decide))).2.1 (by decide) (by decide) q)
  replace k : ow T23 (mkF m 36 #[ow_r a1, ow_i 0, ow_i 1, ow_i 1] [(.int 1)]) := fun t q => k t (XS.iconst X23.here hx rfl (D 16 rfl) q)
  exact own_endS (v := some (.int 1)) X23 e23 hS21 hk21 hh Bd.notSynchronized (own_vn Bd.returns) k (fun _ hr => retN X23 hx (t := .boolean) Bd.returns (by simp) (D 17 rfl) hr) ⟨rfl, N23, K21⟩ (CR21.trans (own_CP.at own_J X23 hZ (own_EW hw) CH21)) (by decide) (by decide)
theorem own_ef33_12_23 (m : MethodId) (x0 : Addr) : entryFrame m #[(.ref x0), (.int 2), (.int 3)] 4 = mkF m 0 #[ow_r x0, ow_i 2, ow_i 3, .unset] [] := by first | (simp [entryFrame, mkF, argsToLocals, Value.category]; done) | rfl
def own_m33_3b_Q (Z : State) (a1 : Addr) (c0 : Int32) (c1 : Int32) (w_COMPACT_STRINGS : Int32) (w_SIOOBE_FORMATTER : Value) (h0 : Heap) (n0 : Nat) (v : Option Value) (h : Heap) (L : List Loc) : Prop := v = some (.int 1) ∧ Fr n0 L ∧ Keep h0 h []
set_option maxRecDepth 65536 in
set_option maxHeartbeats 40000000 in
theorem own_m33_3b (l : Launch) (Z : State) (a0 : Array Value) (hw : ∀ d ∈ tables_1, d.before a0 Z = true) (ws : List Jvm.Cond) (a1 : Addr) (c0 : Int32) (c1 : Int32) (w_COMPACT_STRINGS : Int32) (w_SIOOBE_FORMATTER : Value) (h0 : Heap) (n0 : Nat) (Z0 : n0 ≤ h0.size) (T_a1 : own_Str Z h0 a1 ([c0, 46, c1] : List Int32)) (S_COMPACT_STRINGS : Sta Z h0 "java/lang/String" "COMPACT_STRINGS" "Z" (.int w_COMPACT_STRINGS)) (S_SIOOBE_FORMATTER : Sta Z h0 "jdk/internal/util/Preconditions" "SIOOBE_FORMATTER" "Ljava/util/function/BiFunction;" w_SIOOBE_FORMATTER) (hz : ¬ (w_COMPACT_STRINGS = (0 : Int32))) (hrS : w_SIOOBE_FORMATTER.isRef = true) (ok0 : own_okc c0) (ok1 : own_okc c1) :
    own_MS l Z own_y33 ws prog_120_method_14_code 4 (some .boolean) ({ frames := 4, cells := 2, slots := 20, locals := 59 } : Room) #[(.ref a1), (.int 2), (.int 3)] h0 (own_CP Z consts_1 own_J) (own_m33_3b_Q Z a1 c0 c1 w_COMPACT_STRINGS w_SIOOBE_FORMATTER h0 n0) := by
  refine own_goS own_CP.refl "com/example/callsite/callsite/model/JvmNames" rfl (plainFor_of_name own_pn33) (fun m => own_ef33_12_23 m a1) own_d33 n0 fun p e s m below meth c s₁ A0 Bd hx D hml hown hnm X0 hZ e0 N0 hh CH0 hS0 hk0 CR0 k => ?_
  replace k : ow s₁ (mkF m 7 #[ow_r a1, ow_i 2, ow_i 3, .unset] []) := fun t q => k t (XS.iloadN X0.here hx rfl (D 0 rfl) rfl (XS.iloadN X0.here hx rfl (D 1 rfl) rfl (XS.icmpYes X0.here hx rfl (pc0 := 2) (pc' := 7) rfl (D 2 rfl) rfl (feq (show ¬ ((2 : Int32) = (3 : Int32)) from (by decide))).2 (by decide) (by decide) q)))
  replace k : ow s₁ (mkF m 10 #[ow_r a1, ow_i 2, ow_i 3, ow_i 2] [(.int 2)]) := fun t q => k t (XS.iloadN X0.here hx rfl (D 3 rfl) rfl (XS.istoreN X0.here hx rfl (D 4 rfl) rfl (l' := #[ow_r a1, ow_i 2, ow_i 3, ow_i 2]) rfl (XS.iloadN X0.here hx rfl (D 5 rfl) rfl q)))
  replace k : ow s₁ (mkF m 14 #[ow_r a1, ow_i 2, ow_i 3, ow_i 2] []) := fun t q => k t (XS.iloadN X0.here hx rfl (D 6 rfl) rfl (XS.icmpNo X0.here hx rfl (D 7 rfl) rfl (tlt (show (2 : Int32) < (3 : Int32) from (by decide))).2.1 q))
  obtain ⟨a21, T21, h21, k121, bs21, kc21, X21, e21, E21, hS21, hk21, hZ, hown, EX21, FC21, FV21, AV21, la21, lb21, CU21, LT21, SX21, st21⟩ := own_ldc X0 hx hZ hown (own_h hw 144 rfl) (own_wS hw) e0 hS0 hk0 (own_EW hw) (List.mem_of_getElem? (i := 7) rfl) (EJ := own_J) (List.mem_of_getElem? (i := 7) rfl) CH0 (vs := [(.int 46), (.int 59), (.int 91), (.int 47)]) (z := (4 : Int32)) ⟨by decide, by decide⟩ (by decide) (by decide) (g := (mkF m 14 #[ow_r a1, ow_i 2, ow_i 3, ow_i 2] [])) rfl (D 8 rfl) (n := 16) (by decide) (by decide) (by decide) (by decide)
  have Z21 : n0 ≤ h21.size := Nat.le_trans Z0 E21.1
  have K21 : Keep h0 h21 [] := (Keep.refl h0 []).ext E21
  have CR21 := CR0.trans CU21
  have CH21 := CU21.1
  replace k : ow T21 (mkF m 16 #[ow_r a1, ow_i 2, ow_i 3, ow_i 2] [(.ref a21)]) := fun t q => k t (st21 t q)
  clear st21
  replace k : ow T21 (mkF m 18 #[ow_r a1, ow_i 2, ow_i 3, ow_i 2] [(.int 2), (.ref a1), (.ref a21)]) := fun t q => k t (XS.aloadN X21.here hx rfl (D 9 rfl) rfl rfl (XS.iloadN X21.here hx rfl (D 10 rfl) rfl q))
  obtain ⟨T22, X22, e22, k⟩ := own_cCh X21 hx hw hZ hown e21 k (T_a1.ext E21) (S_COMPACT_STRINGS.ext E21) hz (S_SIOOBE_FORMATTER.ext E21) hrS 2 (2 : Int32) (Nat.le_of_ble_eq_true rfl) (by decide) 145 50 52 51 8 rfl rfl rfl rfl rfl rfl rfl (by rw [hml]; rfl) [(.ref a21)] rfl (W := 1) own_le (D 11 rfl) (by decide) (by decide) (by decide) (by decide)
  obtain ⟨_, T23, L23, X23, hQ23, k⟩ := own_cV X22 hx hw hZ hown e22 k (own_m26 l Z a0 hw [] a21 c1 ([46, 59, 91, 47] : List Int32) w_COMPACT_STRINGS bs21 kc21 h21 n0 Z21 (S_COMPACT_STRINGS.ext E21) FC21 EX21 FV21 AV21 hz ok1.1.1 ok1.1.2 (by first | assumption | exact Nat.le_of_ble_eq_true rfl | rfl | omega | decide) (by first | assumption | exact Nat.le_of_ble_eq_true rfl | rfl | omega | decide)) 115 116 118 117 119 9 rfl rfl rfl rfl rfl rfl EX21 (by decide) rfl (by rw [hml]; rfl) [(.int c1)] [] (lenOf own_pd8 rfl) rfl rfl (W := 0) own_le (D 12 rfl) (by decide) (by decide) (by decide) (by decide)
  obtain ⟨rfl, N23q, e23⟩ := hQ23
  have N23 := Fr.app N0 N23q
  replace k : ow T23 (mkF m 29 #[ow_r a1, ow_i 2, ow_i 3, ow_i 2] []) := fun t q => k t (XS.ifYes X23.here hx rfl (pc0 := 24) (pc' := 29) rfl (D 13 rfl) rfl ((if0 _ _).trans (tlt (show (own_ix1 c1 ([46, 59, 91, 47] : List Int32)) < (0 : Int32) from (own_ix4 ok1))).1) (by decide) (by decide) q)
  replace k : ow T23 (mkF m 32 #[ow_r a1, ow_i 2, ow_i 3, ow_i 3] []) := fun t q => k t (XS.iinc X23.here hx rfl (D 14 rfl) rfl (l' := #[ow_r a1, ow_i 2, ow_i 3, ow_i ((2 : Int32) + (1 : Int32))]) rfl (by rw [show ((2 : Int32) + (1 : Int32)) = (3 : Int32) from by decide]; exact q))
  replace k : ow T23 (mkF m 11 #[ow_r a1, ow_i 2, ow_i 3, ow_i 3] [(.int 3), (.int 3)]) := fun t q => k t (XS.goto X23.here hx rfl (pc0 := 32) (pc' := 9) rfl (D 15 rfl) (by decide) (by decide) (XS.iloadN X23.here hx rfl (D 5 rfl) rfl (XS.iloadN X23.here hx rfl (D 6 rfl) rfl q)))
  replace k : ow T23 (mkF m 35 #[ow_r a1, ow_i 2, ow_i 3, ow_i 3] []) := fun t q => k t (XS.icmpYes X23.here hx rfl (pc0 := 11) (pc' := 35) rfl (D 7 rfl) rfl (flt (show ¬ ((3 : Int32) < (3 : Int32)) from (by decide))).2.1 (by decide) (by decide) q)
  replace k : ow T23 (mkF m 36 #[ow_r a1, ow_i 2, ow_i 3, ow_i 3] [(.int 1)]) := fun t q => k t (XS.iconst X23.here hx rfl (D 16 rfl) q)
  exact own_endS (v := some (.int 1)) X23 e23 hS21 hk21 hh Bd.notSynchronized (own_vn Bd.returns) k (fun _ hr => retN X23 hx (t := .boolean) Bd.returns (by simp) (D 17 rfl) hr) ⟨rfl, N23, K21⟩ (CR21.trans (own_CP.at own_J X23 hZ (own_EW hw) CH21)) (by decide) (by decide)
theorem own_d25 : own_all prog_120_method_3_code [(0, .iconst 0, 1), (1, .istore_n 2, 1), (2, .aload_n 0, 1), (3, .iload_n 1, 1), (4, .invokevirtual 29, 3), (7, .istore_n 3, 1), (8, .iload_n 3, 1), (9, .ifCond .lt 28, 3), (37, .aload_n 0, 1), (38, .iload_n 2, 1), (39, .aload_n 0, 1), (40, .invokevirtual 21, 3), (43, .invokestatic 33, 3), (46, .ireturn, 1), (12, .aload_n 0, 1), (13, .iload_n 2, 1), (14, .iload_n 3, 1), (15, .invokestatic 33, 3), (18, .ifCond .ne 5, 3), (23, .iload_n 3, 1), (24, .iconst 1, 1), (25, .iadd, 1), (26, .istore_n 2, 1), (27, .aload_n 0, 1), (28, .iload_n 1, 1), (29, .iload_n 2, 1), (30, .invokevirtual 37, 3), (33, .istore_n 3, 1), (34, .goto (-26), 3)] := by decide +kernel
theorem own_pd9 : parseMethodDescriptor "(Ljava/lang/String;II)Z" = some ⟨[(.object "java/lang/String"), .int, .int], some .boolean⟩ := by decide +kernel
theorem own_ef25_146 (m : MethodId) (x0 : Addr) : entryFrame m #[(.ref x0), (.int 46)] 4 = mkF m 0 #[ow_r x0, ow_i 46, .unset, .unset] [] := by first | (simp [entryFrame, mkF, argsToLocals, Value.category]; done) | rfl
theorem own_pn25 : plainName "com/example/callsite/callsite/model/JvmNames" = true := by first | (simp [plainName, overriddenIn]; done) | decide +kernel
def own_m25_2_Q (Z : State) (a1 : Addr) (c0 : Int32) (c1 : Int32) (w_COMPACT_STRINGS : Int32) (w_SIOOBE_FORMATTER : Value) (h0 : Heap) (n0 : Nat) (v : Option Value) (h : Heap) (L : List Loc) : Prop := v = some (.int 1) ∧ Fr n0 L ∧ Keep h0 h []
set_option maxRecDepth 65536 in
set_option maxHeartbeats 40000000 in
theorem own_m25_2 (l : Launch) (Z : State) (a0 : Array Value) (hw : ∀ d ∈ tables_1, d.before a0 Z = true) (ws : List Jvm.Cond) (a1 : Addr) (c0 : Int32) (c1 : Int32) (w_COMPACT_STRINGS : Int32) (w_SIOOBE_FORMATTER : Value) (h0 : Heap) (n0 : Nat) (Z0 : n0 ≤ h0.size) (T_a1 : own_Str Z h0 a1 ([c0, c1] : List Int32)) (S_COMPACT_STRINGS : Sta Z h0 "java/lang/String" "COMPACT_STRINGS" "Z" (.int w_COMPACT_STRINGS)) (S_SIOOBE_FORMATTER : Sta Z h0 "jdk/internal/util/Preconditions" "SIOOBE_FORMATTER" "Ljava/util/function/BiFunction;" w_SIOOBE_FORMATTER) (hz : ¬ (w_COMPACT_STRINGS = (0 : Int32))) (hrS : w_SIOOBE_FORMATTER.isRef = true) (ok0 : own_okc c0) (ok1 : own_okc c1) :
    own_MS l Z own_y25 ws prog_120_method_3_code 4 (some .boolean) ({ frames := 5, cells := 4, slots := 40, locals := 74 } : Room) #[(.ref a1), (.int 46)] h0 (own_CP Z consts_1 own_J) (own_m25_2_Q Z a1 c0 c1 w_COMPACT_STRINGS w_SIOOBE_FORMATTER h0 n0) := by
  refine own_goS own_CP.refl "com/example/callsite/callsite/model/JvmNames" rfl (plainFor_of_name own_pn25) (fun m => own_ef25_146 m a1) own_d25 n0 fun p e s m below meth c s₁ A0 Bd hx D hml hown hnm X0 hZ e0 N0 hh CH0 hS0 hk0 CR0 k => ?_
  replace k : ow s₁ (mkF m 3 #[ow_r a1, ow_i 46, ow_i 0, .unset] [(.ref a1)]) := fun t q => k t (XS.iconst X0.here hx rfl (D 0 rfl) (XS.istoreN X0.here hx rfl (D 1 rfl) rfl (l' := #[ow_r a1, ow_i 46, ow_i 0, .unset]) rfl (XS.aloadN X0.here hx rfl (D 2 rfl) rfl rfl q)))
  obtain ⟨bo21, ko21, Eo21, Vo21, Co21, Ao21⟩ := own_Str.open_ T_a1
  have Ao21 : Arv Z h0 bo21 ko21 .byte (2 : Int32) [(.int (c0.toInt8.toInt32)), (.int (c1.toInt8.toInt32))] (.int 0) := Ao21
  replace k : ow s₁ (mkF m 4 #[ow_r a1, ow_i 46, ow_i 0, .unset] [(.int 46), (.ref a1)]) := fun t q => k t (XS.iloadN X0.here hx rfl (D 3 rfl) rfl q)
  obtain ⟨_, T22, L22, X22, hQ22, k⟩ := own_cV X0 hx hw hZ hown e0 k (own_m26 l Z a0 hw [] a1 (46 : Int32) ([(c0.toInt8.toInt32), (c1.toInt8.toInt32)] : List Int32) w_COMPACT_STRINGS bo21 ko21 h0 n0 Z0 S_COMPACT_STRINGS Co21 Eo21 Vo21 Ao21 hz (by decide) (by decide) (by first | assumption | exact Nat.le_of_ble_eq_true rfl | rfl | omega | decide) (by first | assumption | exact Nat.le_of_ble_eq_true rfl | rfl | omega | decide)) 115 116 118 117 119 9 rfl rfl rfl rfl rfl rfl Eo21 (by decide) rfl (by rw [hml]; rfl) [(.int 46)] [] (lenOf own_pd8 rfl) rfl rfl (W := 0) own_le (D 4 rfl) (by decide) (by decide) (by decide) (by decide)
  obtain ⟨rfl, N22q, e22⟩ := hQ22
  have N22 := Fr.app N0 N22q
  rw [show (own_ix1 (46 : Int32) ([(c0.toInt8.toInt32), (c1.toInt8.toInt32)] : List Int32)) = (-1 : Int32) from (own_ixc2 ok0.1 ok1.1 (by decide) (by decide) (by decide) ok0.2.1 ok1.2.1)] at k
  replace k : ow T22 (mkF m 37 #[ow_r a1, ow_i 46, ow_i 0, ow_i (-1)] []) := fun t q => k t (XS.istoreN X22.here hx rfl (D 5 rfl) rfl (l' := #[ow_r a1, ow_i 46, ow_i 0, ow_i (-1)]) rfl (XS.iloadN X22.here hx rfl (D 6 rfl) rfl (XS.ifYes X22.here hx rfl (pc0 := 9) (pc' := 37) rfl (D 7 rfl) rfl ((if0 _ _).trans (tlt (show (-1 : Int32) < (0 : Int32) from (by decide))).1) (by decide) (by decide) q)))
  replace k : ow T22 (mkF m 40 #[ow_r a1, ow_i 46, ow_i 0, ow_i (-1)] [(.ref a1), (.int 0), (.ref a1)]) := fun t q => k t (XS.aloadN X22.here hx rfl (D 8 rfl) rfl rfl (XS.iloadN X22.here hx rfl (D 9 rfl) rfl (XS.aloadN X22.here hx rfl (D 10 rfl) rfl rfl q)))
  obtain ⟨_, T23, L23, X23, hQ23, k⟩ := own_cV X22 hx hw hZ hown e22 k (own_m22 l Z a0 hw [] a1 ([(c0.toInt8.toInt32), (c1.toInt8.toInt32)] : List Int32) bo21 ko21 w_COMPACT_STRINGS h0 n0 Z0 Vo21 Ao21 S_COMPACT_STRINGS Co21 Eo21 hz) 147 99 101 100 102 9 rfl rfl rfl rfl rfl rfl Eo21 (by decide) rfl (by rw [hml]; rfl) [] [(.int 0), (.ref a1)] (lenOf own_pd5 rfl) rfl rfl (W := 2) own_le (D 11 rfl) (by decide) (by decide) (by decide) (by decide)
  rw [show own_f22 ([(c0.toInt8.toInt32), (c1.toInt8.toInt32)] : List Int32) = (2 : Int32) from rfl] at hQ23
  obtain ⟨rfl, N23q, e23⟩ := hQ23
  have N23 := Fr.app N22 N23q
  obtain ⟨_, T24, L24, h24, X24, hS24, hZ, hown, e24, hQ24, CU24, k⟩ := own_cSS X23 hx hw hZ hown e23 hS0 hk0 k (own_backP (EJ := own_J) (W := 0) (own_m33_2 l Z a0 hw [] a1 c0 c1 w_COMPACT_STRINGS w_SIOOBE_FORMATTER h0 n0 Z0 T_a1 S_COMPACT_STRINGS S_SIOOBE_FORMATTER hz hrS ok0 ok1) hZ (own_h hw 143 rfl) (own_h hw 85 rfl) (by decide) (by decide) (own_EW hw) CH0) 141 142 85 143 rfl rfl rfl rfl (by decide) rfl (by rw [hml]; rfl) [(.ref a1), (.int 0), (.int 2)] [] (lenOf own_pd9 rfl) rfl rfl own_le (D 12 rfl) (by decide) (by decide)
  have hk24 := Nat.le_refl h24.size
  have CR24 := CR0.trans CU24
  have CH24 := CU24.1
  obtain ⟨rfl, N24q, KC24⟩ := hQ24
  have KK24 : Keep h0 h24 [] := (Keep.refl h0 []).trans KC24 all0
  have Z24 : n0 ≤ h24.size := Nat.le_trans Z0 KC24.1
  have N24 := Fr.app N23 N24q
  exact own_endS (v := some (.int 1)) X24 e24 hS24 hk24 hh Bd.notSynchronized (own_vn Bd.returns) k (fun _ hr => retN X24 hx (t := .boolean) Bd.returns (by simp) (D 13 rfl) hr) ⟨rfl, N24, KK24⟩ (CR24.trans (own_CP.at own_J X24 hZ (own_EW hw) CH24)) (by decide) (by decide)
def own_m25_3_Q (Z : State) (a1 : Addr) (c0 : Int32) (c1 : Int32) (w_COMPACT_STRINGS : Int32) (w_SIOOBE_FORMATTER : Value) (h0 : Heap) (n0 : Nat) (v : Option Value) (h : Heap) (L : List Loc) : Prop := v = some (.int 1) ∧ Fr n0 L ∧ Keep h0 h []
set_option maxRecDepth 65536 in
set_option maxHeartbeats 40000000 in
theorem own_m25_3 (l : Launch) (Z : State) (a0 : Array Value) (hw : ∀ d ∈ tables_1, d.before a0 Z = true) (ws : List Jvm.Cond) (a1 : Addr) (c0 : Int32) (c1 : Int32) (w_COMPACT_STRINGS : Int32) (w_SIOOBE_FORMATTER : Value) (h0 : Heap) (n0 : Nat) (Z0 : n0 ≤ h0.size) (T_a1 : own_Str Z h0 a1 ([c0, 46, c1] : List Int32)) (S_COMPACT_STRINGS : Sta Z h0 "java/lang/String" "COMPACT_STRINGS" "Z" (.int w_COMPACT_STRINGS)) (S_SIOOBE_FORMATTER : Sta Z h0 "jdk/internal/util/Preconditions" "SIOOBE_FORMATTER" "Ljava/util/function/BiFunction;" w_SIOOBE_FORMATTER) (hz : ¬ (w_COMPACT_STRINGS = (0 : Int32))) (hrS : w_SIOOBE_FORMATTER.isRef = true) (ok0 : own_okc c0) (ok1 : own_okc c1) :
    own_MS l Z own_y25 ws prog_120_method_3_code 4 (some .boolean) ({ frames := 5, cells := 4, slots := 40, locals := 74 } : Room) #[(.ref a1), (.int 46)] h0 (own_CP Z consts_1 own_J) (own_m25_3_Q Z a1 c0 c1 w_COMPACT_STRINGS w_SIOOBE_FORMATTER h0 n0) := by
  refine own_goS own_CP.refl "com/example/callsite/callsite/model/JvmNames" rfl (plainFor_of_name own_pn25) (fun m => own_ef25_146 m a1) own_d25 n0 fun p e s m below meth c s₁ A0 Bd hx D hml hown hnm X0 hZ e0 N0 hh CH0 hS0 hk0 CR0 k => ?_
  replace k : ow s₁ (mkF m 3 #[ow_r a1, ow_i 46, ow_i 0, .unset] [(.ref a1)]) := fun t q => k t (XS.iconst X0.here hx rfl (D 0 rfl) (XS.istoreN X0.here hx rfl (D 1 rfl) rfl (l' := #[ow_r a1, ow_i 46, ow_i 0, .unset]) rfl (XS.aloadN X0.here hx rfl (D 2 rfl) rfl rfl q)))
  obtain ⟨bo21, ko21, Eo21, Vo21, Co21, Ao21⟩ := own_Str.open_ T_a1
  have Ao21 : Arv Z h0 bo21 ko21 .byte (3 : Int32) [(.int (c0.toInt8.toInt32)), (.int 46), (.int (c1.toInt8.toInt32))] (.int 0) := Ao21
  replace k : ow s₁ (mkF m 4 #[ow_r a1, ow_i 46, ow_i 0, .unset] [(.int 46), (.ref a1)]) := fun t q => k t (XS.iloadN X0.here hx rfl (D 3 rfl) rfl q)
  obtain ⟨_, T22, L22, X22, hQ22, k⟩ := own_cV X0 hx hw hZ hown e0 k (own_m26 l Z a0 hw [] a1 (46 : Int32) ([(c0.toInt8.toInt32), 46, (c1.toInt8.toInt32)] : List Int32) w_COMPACT_STRINGS bo21 ko21 h0 n0 Z0 S_COMPACT_STRINGS Co21 Eo21 Vo21 Ao21 hz (by decide) (by decide) (by first | assumption | exact Nat.le_of_ble_eq_true rfl | rfl | omega | decide) (by first | assumption | exact Nat.le_of_ble_eq_true rfl | rfl | omega | decide)) 115 116 118 117 119 9 rfl rfl rfl rfl rfl rfl Eo21 (by decide) rfl (by rw [hml]; rfl) [(.int 46)] [] (lenOf own_pd8 rfl) rfl rfl (W := 0) own_le (D 4 rfl) (by decide) (by decide) (by decide) (by decide)
  obtain ⟨rfl, N22q, e22⟩ := hQ22
  have N22 := Fr.app N0 N22q
  rw [show (own_ix1 (46 : Int32) ([(c0.toInt8.toInt32), 46, (c1.toInt8.toInt32)] : List Int32)) = (1 : Int32) from (own_ixc3 ok0)] at k
  replace k : ow T22 (mkF m 12 #[ow_r a1, ow_i 46, ow_i 0, ow_i 1] []) := fun t q => k t (XS.istoreN X22.here hx rfl (D 5 rfl) rfl (l' := #[ow_r a1, ow_i 46, ow_i 0, ow_i 1]) rfl (XS.iloadN X22.here hx rfl (D 6 rfl) rfl (XS.ifNo X22.here hx rfl (D 7 rfl) rfl ((if0 _ _).trans (flt (show ¬ ((1 : Int32) < (0 : Int32)) from (by decide))).1) q)))
  replace k : ow T22 (mkF m 15 #[ow_r a1, ow_i 46, ow_i 0, ow_i 1] [(.int 1), (.int 0), (.ref a1)]) := fun t q => k t (XS.aloadN X22.here hx rfl (D 14 rfl) rfl rfl (XS.iloadN X22.here hx rfl (D 15 rfl) rfl (XS.iloadN X22.here hx rfl (D 16 rfl) rfl q)))
  obtain ⟨_, T23, L23, h23, X23, hS23, hZ, hown, e23, hQ23, CU23, k⟩ := own_cSS X22 hx hw hZ hown e22 hS0 hk0 k (own_backP (EJ := own_J) (W := 0) (own_m33_3a l Z a0 hw [] a1 c0 c1 w_COMPACT_STRINGS w_SIOOBE_FORMATTER h0 n0 Z0 T_a1 S_COMPACT_STRINGS S_SIOOBE_FORMATTER hz hrS ok0 ok1) hZ (own_h hw 143 rfl) (own_h hw 85 rfl) (by decide) (by decide) (own_EW hw) CH0) 141 142 85 143 rfl rfl rfl rfl (by decide) rfl (by rw [hml]; rfl) [(.ref a1), (.int 0), (.int 1)] [] (lenOf own_pd9 rfl) rfl rfl own_le (D 17 rfl) (by decide) (by decide)
  have hk23 := Nat.le_refl h23.size
  have CR23 := CR0.trans CU23
  have CH23 := CU23.1
  obtain ⟨rfl, N23q, KC23⟩ := hQ23
  have KK23 : Keep h0 h23 [] := (Keep.refl h0 []).trans KC23 all0
  have Z23 : n0 ≤ h23.size := Nat.le_trans Z0 KC23.1
  have N23 := Fr.app N22 N23q
  replace k : ow T23 (mkF m 23 #[ow_r a1, ow_i 46, ow_i 0, ow_i 1] []) := fun t q => k t (XS.ifYes X23.here hx rfl (pc0 := 18) (pc' := 23) rfl (D 18 rfl) rfl ((if0 _ _).trans (feq (show ¬ ((1 : Int32) = (0 : Int32)) from (by decide))).2) (by decide) (by decide) q)
  replace k : ow T23 (mkF m 25 #[ow_r a1, ow_i 46, ow_i 0, ow_i 1] [(.int 1), (.int 1)]) := fun t q => k t (XS.iloadN X23.here hx rfl (D 19 rfl) rfl (XS.iconst X23.here hx rfl (D 20 rfl) q))
  replace k : ow T23 (mkF m 26 #[ow_r a1, ow_i 46, ow_i 0, ow_i 1] [(.int 2)]) := fun t q => k t (XS.iadd X23.here hx rfl (D 21 rfl) rfl (by rw [show ((1 : Int32) + (1 : Int32)) = (2 : Int32) from by decide]; exact q))
  replace k : ow T23 (mkF m 29 #[ow_r a1, ow_i 46, ow_i 2, ow_i 1] [(.int 46), (.ref a1)]) := fun t q => k t (XS.istoreN X23.here hx rfl (D 22 rfl) rfl (l' := #[ow_r a1, ow_i 46, ow_i 2, ow_i 1]) rfl (XS.aloadN X23.here hx rfl (D 23 rfl) rfl rfl (XS.iloadN X23.here hx rfl (D 24 rfl) rfl q)))
  replace k : ow T23 (mkF m 30 #[ow_r a1, ow_i 46, ow_i 2, ow_i 1] [(.int 2), (.int 46), (.ref a1)]) := fun t q => k t (XS.iloadN X23.here hx rfl (D 25 rfl) rfl q)
  obtain ⟨_, T24, L24, X24, hQ24, k⟩ := own_cV X23 hx hw hZ hown e23 k (own_m27 l Z a0 hw [] a1 (46 : Int32) ([(c0.toInt8.toInt32), 46, (c1.toInt8.toInt32)] : List Int32) 2 w_COMPACT_STRINGS bo21 ko21 h23 n0 Z23 (own_sta_keep S_COMPACT_STRINGS KC23 ns0) (Co21.keep KC23 nin0) (Eo21.keep KC23) (Vo21.keep KC23 nin0) (Ao21.keep KC23 nin0) hz (by decide) (by decide) (by first | assumption | exact Nat.le_of_ble_eq_true rfl | rfl | omega | decide) (by first | assumption | exact Nat.le_of_ble_eq_true rfl | rfl | omega | decide)) 146 121 123 122 124 9 rfl rfl rfl rfl rfl rfl (Eo21.keep KC23) (by decide) rfl (by rw [hml]; rfl) [(.int 46), (.int 2)] [] (lenOf own_pd2 rfl) rfl rfl (W := 0) own_le (D 26 rfl) (by decide) (by decide) (by decide) (by decide)
  obtain ⟨rfl, N24q, e24⟩ := hQ24
  have N24 := Fr.app N23 N24q
  rw [show (own_ix2 (46 : Int32) ([(c0.toInt8.toInt32), 46, (c1.toInt8.toInt32)] : List Int32) 2) = (-1 : Int32) from (own_ixc3b ok1)] at k
  replace k : ow T24 (mkF m 9 #[ow_r a1, ow_i 46, ow_i 2, ow_i (-1)] [(.int (-1 : Int32))]) := fun t q => k t (XS.istoreN X24.here hx rfl (D 27 rfl) rfl (l' := #[ow_r a1, ow_i 46, ow_i 2, ow_i (-1)]) rfl (XS.goto X24.here hx rfl (pc0 := 34) (pc' := 8) rfl (D 28 rfl) (by decide) (by decide) (XS.iloadN X24.here hx rfl (D 6 rfl) rfl q)))
  replace k : ow T24 (mkF m 37 #[ow_r a1, ow_i 46, ow_i 2, ow_i (-1)] []) := fun t q => k t (XS.ifYes X24.here hx rfl (pc0 := 9) (pc' := 37) rfl (D 7 rfl) rfl ((if0 _ _).trans (tlt (show (-1 : Int32) < (0 : Int32) from (by decide))).1) (by decide) (by decide) q)
  replace k : ow T24 (mkF m 40 #[ow_r a1, ow_i 46, ow_i 2, ow_i (-1)] [(.ref a1), (.int 2), (.ref a1)]) := fun t q => k t (XS.aloadN X24.here hx rfl (D 8 rfl) rfl rfl (XS.iloadN X24.here hx rfl (D 9 rfl) rfl (XS.aloadN X24.here hx rfl (D 10 rfl) rfl rfl q)))
  obtain ⟨_, T25, L25, X25, hQ25, k⟩ := own_cV X24 hx hw hZ hown e24 k (own_m22 l Z a0 hw [] a1 ([(c0.toInt8.toInt32), 46, (c1.toInt8.toInt32)] : List Int32) bo21 ko21 w_COMPACT_STRINGS h23 n0 Z23 (Vo21.keep KC23 nin0) (Ao21.keep KC23 nin0) (own_sta_keep S_COMPACT_STRINGS KC23 ns0) (Co21.keep KC23 nin0) (Eo21.keep KC23) hz) 147 99 101 100 102 9 rfl rfl rfl rfl rfl rfl (Eo21.keep KC23) (by decide) rfl (by rw [hml]; rfl) [] [(.int 2), (.ref a1)] (lenOf own_pd5 rfl) rfl rfl (W := 2) own_le (D 11 rfl) (by decide) (by decide) (by decide) (by decide)
  rw [show own_f22 ([(c0.toInt8.toInt32), 46, (c1.toInt8.toInt32)] : List Int32) = (3 : Int32) from rfl] at hQ25
  obtain ⟨rfl, N25q, e25⟩ := hQ25
  have N25 := Fr.app N24 N25q
  obtain ⟨_, T26, L26, h26, X26, hS26, hZ, hown, e26, hQ26, CU26, k⟩ := own_cSS X25 hx hw hZ hown e25 hS23 hk23 k (own_backP (EJ := own_J) (W := 0) (own_m33_3b l Z a0 hw [] a1 c0 c1 w_COMPACT_STRINGS w_SIOOBE_FORMATTER h23 n0 Z23 (T_a1.keep (a0 := a0) KC23 all0) (own_sta_keep S_COMPACT_STRINGS KC23 ns0) (own_sta_keep S_SIOOBE_FORMATTER KC23 ns0) hz hrS ok0 ok1) hZ (own_h hw 143 rfl) (own_h hw 85 rfl) (by decide) (by decide) (own_EW hw) CH23) 141 142 85 143 rfl rfl rfl rfl (by decide) rfl (by rw [hml]; rfl) [(.ref a1), (.int 2), (.int 3)] [] (lenOf own_pd9 rfl) rfl rfl own_le (D 12 rfl) (by decide) (by decide)
  have hk26 := Nat.le_refl h26.size
  have CR26 := CR23.trans CU26
  have CH26 := CU26.1
  obtain ⟨rfl, N26q, KC26⟩ := hQ26
  have KK26 : Keep h0 h26 [] := KK23.trans KC26 all0
  have Z26 : n0 ≤ h26.size := Nat.le_trans Z23 KC26.1
  have N26 := Fr.app N25 N26q
  exact own_endS (v := some (.int 1)) X26 e26 hS26 hk26 hh Bd.notSynchronized (own_vn Bd.returns) k (fun _ hr => retN X26 hx (t := .boolean) Bd.returns (by simp) (D 13 rfl) hr) ⟨rfl, N26, KK26⟩ (CR26.trans (own_CP.at own_J X26 hZ (own_EW hw) CH26)) (by decide) (by decide)
theorem own_d19 : own_all prog_120_method_2_code [(0, .aload_n 0, 1), (1, .ldc 7, 2), (3, .invokevirtual 9, 3), (6, .ifCond .eq 22, 3), (28, .aload_n 0, 1), (29, .iload_n 1, 1), (30, .invokestatic 25, 3), (33, .ireturn, 1)] := by decide +kernel
theorem own_pd10 : parseMethodDescriptor "(Ljava/lang/String;)Z" = some ⟨[(.object "java/lang/String")], some .boolean⟩ := by decide +kernel
theorem own_pd11 : parseMethodDescriptor "(Ljava/lang/String;C)Z" = some ⟨[(.object "java/lang/String"), .char], some .boolean⟩ := by decide +kernel
theorem own_ef19_146 (m : MethodId) (x0 : Addr) : entryFrame m #[(.ref x0), (.int 46)] 2 = mkF m 0 #[ow_r x0, ow_i 46] [] := by first | (simp [entryFrame, mkF, argsToLocals, Value.category]; done) | rfl
theorem own_pn19 : plainName "com/example/callsite/callsite/model/JvmNames" = true := by first | (simp [plainName, overriddenIn]; done) | decide +kernel
def own_m19_2_Q (Z : State) (a1 : Addr) (c0 : Int32) (c1 : Int32) (w_COMPACT_STRINGS : Int32) (w_SIOOBE_FORMATTER : Value) (h0 : Heap) (n0 : Nat) (v : Option Value) (h : Heap) (L : List Loc) : Prop := v = some (.int 1) ∧ Fr n0 L ∧ Keep h0 h []
set_option maxRecDepth 65536 in
set_option maxHeartbeats 40000000 in
theorem own_m19_2 (l : Launch) (Z : State) (a0 : Array Value) (hw : ∀ d ∈ tables_1, d.before a0 Z = true) (ws : List Jvm.Cond) (a1 : Addr) (c0 : Int32) (c1 : Int32) (w_COMPACT_STRINGS : Int32) (w_SIOOBE_FORMATTER : Value) (h0 : Heap) (n0 : Nat) (Z0 : n0 ≤ h0.size) (T_a1 : own_Str Z h0 a1 ([c0, c1] : List Int32)) (S_COMPACT_STRINGS : Sta Z h0 "java/lang/String" "COMPACT_STRINGS" "Z" (.int w_COMPACT_STRINGS)) (S_SIOOBE_FORMATTER : Sta Z h0 "jdk/internal/util/Preconditions" "SIOOBE_FORMATTER" "Ljava/util/function/BiFunction;" w_SIOOBE_FORMATTER) (hz : ¬ (w_COMPACT_STRINGS = (0 : Int32))) (hrS : w_SIOOBE_FORMATTER.isRef = true) (ok0 : own_okc c0) (ok1 : own_okc c1) :
    own_MS l Z own_y19 ws prog_120_method_2_code 2 (some .boolean) ({ frames := 6, cells := 6, slots := 48, locals := 89 } : Room) #[(.ref a1), (.int 46)] h0 (own_CP Z consts_1 own_J) (own_m19_2_Q Z a1 c0 c1 w_COMPACT_STRINGS w_SIOOBE_FORMATTER h0 n0) := by
  refine own_goS own_CP.refl "com/example/callsite/callsite/model/JvmNames" rfl (plainFor_of_name own_pn19) (fun m => own_ef19_146 m a1) own_d19 n0 fun p e s m below meth c s₁ A0 Bd hx D hml hown hnm X0 hZ e0 N0 hh CH0 hS0 hk0 CR0 k => ?_
  obtain ⟨a21, T21, h21, k121, bs21, kc21, X21, e21, E21, hS21, hk21, hZ, hown, EX21, FC21, FV21, AV21, la21, lb21, CU21, LT21, SX21, st21⟩ := own_ldc X0 hx hZ hown (own_h hw 87 rfl) (own_wS hw) e0 hS0 hk0 (own_EW hw) (List.mem_of_getElem? (i := 0) rfl) (EJ := own_J) (List.mem_of_getElem? (i := 0) rfl) CH0 (vs := [(.int 91)]) (z := (1 : Int32)) ⟨by decide, by decide⟩ (by decide) (by decide) (g := (mkF m 1 #[ow_r a1, ow_i 46] [(.ref a1)])) rfl (D 1 rfl) (n := 4) (by decide) (by decide) (by decide) (by decide)
  have Z21 : n0 ≤ h21.size := Nat.le_trans Z0 E21.1
  have K21 : Keep h0 h21 [] := (Keep.refl h0 []).ext E21
  have CR21 := CR0.trans CU21
  have CH21 := CU21.1
  replace k : ow T21 (mkF m 3 #[ow_r a1, ow_i 46] [(.ref a21), (.ref a1)]) := fun t q => k t (XS.aloadN X0.here hx rfl (D 0 rfl) rfl rfl (st21 t q))
  clear st21
  obtain ⟨bo22, ko22, Eo22, Vo22, Co22, Ao22⟩ := own_Str.open_ (T_a1.ext E21)
  have Ao22 : Arv Z h21 bo22 ko22 .byte (2 : Int32) [(.int (c0.toInt8.toInt32)), (.int (c1.toInt8.toInt32))] (.int 0) := Ao22
  obtain ⟨_, T23, L23, X23, hQ23, k⟩ := own_cV X21 hx hw hZ hown e21 k (own_m20 l Z a0 hw [] a1 a21 ([(c0.toInt8.toInt32), (c1.toInt8.toInt32)] : List Int32) ([91] : List Int32) bo22 ko22 w_COMPACT_STRINGS bs21 kc21 h21 n0 Z21 Vo22 Ao22 (S_COMPACT_STRINGS.ext E21) Co22 Eo22 FV21 AV21 FC21 EX21 hz (by first | assumption | exact Nat.le_of_ble_eq_true rfl | rfl | omega | decide) (by first | assumption | exact Nat.le_of_ble_eq_true rfl | rfl | omega | decide) (by first | assumption | exact Nat.le_of_ble_eq_true rfl | rfl | omega | decide)) 88 89 91 90 92 9 rfl rfl rfl rfl rfl rfl Eo22 (by decide) rfl (by rw [hml]; rfl) [(.ref a21)] [] (lenOf own_pd10 rfl) rfl rfl (W := 0) own_le (D 2 rfl) (by decide) (by decide) (by decide) (by decide)
  rw [show own_f20 ([(c0.toInt8.toInt32), (c1.toInt8.toInt32)] : List Int32) ([91] : List Int32) = (0 : Int32) from by unfold own_f20; rw [if_neg (show ¬ ((own_mis ([(c0.toInt8.toInt32), (c1.toInt8.toInt32)] : List Int32) ([91] : List Int32) 0) < (0 : Int32)) from (own_mis_no (fun q => own_bn ok0.1 (by decide) (by decide) (by decide) ok0.2.2.2.1 q.symm)))]] at hQ23
  obtain ⟨rfl, N23q, e23⟩ := hQ23
  have N23 := Fr.app N0 N23q
  replace k : ow T23 (mkF m 28 #[ow_r a1, ow_i 46] []) := fun t q => k t (XS.ifYes X23.here hx rfl (pc0 := 6) (pc' := 28) rfl (D 3 rfl) rfl ((if0 _ _).trans (teq (show (0 : Int32) = (0 : Int32) from (by decide))).1) (by decide) (by decide) q)
  replace k : ow T23 (mkF m 30 #[ow_r a1, ow_i 46] [(.int 46), (.ref a1)]) := fun t q => k t (XS.aloadN X23.here hx rfl (D 4 rfl) rfl rfl (XS.iloadN X23.here hx rfl (D 5 rfl) rfl q))
  obtain ⟨_, T24, L24, h24, X24, hS24, hZ, hown, e24, hQ24, CU24, k⟩ := own_cSS X23 hx hw hZ hown e23 hS21 hk21 k (own_backP (EJ := own_J) (W := 0) (own_m25_2 l Z a0 hw [] a1 c0 c1 w_COMPACT_STRINGS w_SIOOBE_FORMATTER h21 n0 Z21 (T_a1.ext E21) (S_COMPACT_STRINGS.ext E21) (S_SIOOBE_FORMATTER.ext E21) hz hrS ok0 ok1) hZ (own_h hw 114 rfl) (own_h hw 85 rfl) (by decide) (by decide) (own_EW hw) CH21) 112 113 85 114 rfl rfl rfl rfl (by decide) rfl (by rw [hml]; rfl) [(.ref a1), (.int 46)] [] (lenOf own_pd11 rfl) rfl rfl own_le (D 6 rfl) (by decide) (by decide)
  have hk24 := Nat.le_refl h24.size
  have CR24 := CR21.trans CU24
  have CH24 := CU24.1
  obtain ⟨rfl, N24q, KC24⟩ := hQ24
  have KK24 : Keep h0 h24 [] := K21.trans KC24 all0
  have Z24 : n0 ≤ h24.size := Nat.le_trans Z21 KC24.1
  have N24 := Fr.app N23 N24q
  exact own_endS (v := some (.int 1)) X24 e24 hS24 hk24 hh Bd.notSynchronized (own_vn Bd.returns) k (fun _ hr => retN X24 hx (t := .boolean) Bd.returns (by simp) (D 7 rfl) hr) ⟨rfl, N24, KK24⟩ (CR24.trans (own_CP.at own_J X24 hZ (own_EW hw) CH24)) (by decide) (by decide)
def own_m19_3_Q (Z : State) (a1 : Addr) (c0 : Int32) (c1 : Int32) (w_COMPACT_STRINGS : Int32) (w_SIOOBE_FORMATTER : Value) (h0 : Heap) (n0 : Nat) (v : Option Value) (h : Heap) (L : List Loc) : Prop := v = some (.int 1) ∧ Fr n0 L ∧ Keep h0 h []
set_option maxRecDepth 65536 in
set_option maxHeartbeats 40000000 in
theorem own_m19_3 (l : Launch) (Z : State) (a0 : Array Value) (hw : ∀ d ∈ tables_1, d.before a0 Z = true) (ws : List Jvm.Cond) (a1 : Addr) (c0 : Int32) (c1 : Int32) (w_COMPACT_STRINGS : Int32) (w_SIOOBE_FORMATTER : Value) (h0 : Heap) (n0 : Nat) (Z0 : n0 ≤ h0.size) (T_a1 : own_Str Z h0 a1 ([c0, 46, c1] : List Int32)) (S_COMPACT_STRINGS : Sta Z h0 "java/lang/String" "COMPACT_STRINGS" "Z" (.int w_COMPACT_STRINGS)) (S_SIOOBE_FORMATTER : Sta Z h0 "jdk/internal/util/Preconditions" "SIOOBE_FORMATTER" "Ljava/util/function/BiFunction;" w_SIOOBE_FORMATTER) (hz : ¬ (w_COMPACT_STRINGS = (0 : Int32))) (hrS : w_SIOOBE_FORMATTER.isRef = true) (ok0 : own_okc c0) (ok1 : own_okc c1) :
    own_MS l Z own_y19 ws prog_120_method_2_code 2 (some .boolean) ({ frames := 6, cells := 6, slots := 48, locals := 89 } : Room) #[(.ref a1), (.int 46)] h0 (own_CP Z consts_1 own_J) (own_m19_3_Q Z a1 c0 c1 w_COMPACT_STRINGS w_SIOOBE_FORMATTER h0 n0) := by
  refine own_goS own_CP.refl "com/example/callsite/callsite/model/JvmNames" rfl (plainFor_of_name own_pn19) (fun m => own_ef19_146 m a1) own_d19 n0 fun p e s m below meth c s₁ A0 Bd hx D hml hown hnm X0 hZ e0 N0 hh CH0 hS0 hk0 CR0 k => ?_
  obtain ⟨a21, T21, h21, k121, bs21, kc21, X21, e21, E21, hS21, hk21, hZ, hown, EX21, FC21, FV21, AV21, la21, lb21, CU21, LT21, SX21, st21⟩ := own_ldc X0 hx hZ hown (own_h hw 87 rfl) (own_wS hw) e0 hS0 hk0 (own_EW hw) (List.mem_of_getElem? (i := 0) rfl) (EJ := own_J) (List.mem_of_getElem? (i := 0) rfl) CH0 (vs := [(.int 91)]) (z := (1 : Int32)) ⟨by decide, by decide⟩ (by decide) (by decide) (g := (mkF m 1 #[ow_r a1, ow_i 46] [(.ref a1)])) rfl (D 1 rfl) (n := 4) (by decide) (by decide) (by decide) (by decide)
  have Z21 : n0 ≤ h21.size := Nat.le_trans Z0 E21.1
  have K21 : Keep h0 h21 [] := (Keep.refl h0 []).ext E21
  have CR21 := CR0.trans CU21
  have CH21 := CU21.1
  replace k : ow T21 (mkF m 3 #[ow_r a1, ow_i 46] [(.ref a21), (.ref a1)]) := fun t q => k t (XS.aloadN X0.here hx rfl (D 0 rfl) rfl rfl (st21 t q))
  clear st21
  obtain ⟨bo22, ko22, Eo22, Vo22, Co22, Ao22⟩ := own_Str.open_ (T_a1.ext E21)
  have Ao22 : Arv Z h21 bo22 ko22 .byte (3 : Int32) [(.int (c0.toInt8.toInt32)), (.int 46), (.int (c1.toInt8.toInt32))] (.int 0) := Ao22
  obtain ⟨_, T23, L23, X23, hQ23, k⟩ := own_cV X21 hx hw hZ hown e21 k (own_m20 l Z a0 hw [] a1 a21 ([(c0.toInt8.toInt32), 46, (c1.toInt8.toInt32)] : List Int32) ([91] : List Int32) bo22 ko22 w_COMPACT_STRINGS bs21 kc21 h21 n0 Z21 Vo22 Ao22 (S_COMPACT_STRINGS.ext E21) Co22 Eo22 FV21 AV21 FC21 EX21 hz (by first | assumption | exact Nat.le_of_ble_eq_true rfl | rfl | omega | decide) (by first | assumption | exact Nat.le_of_ble_eq_true rfl | rfl | omega | decide) (by first | assumption | exact Nat.le_of_ble_eq_true rfl | rfl | omega | decide)) 88 89 91 90 92 9 rfl rfl rfl rfl rfl rfl Eo22 (by decide) rfl (by rw [hml]; rfl) [(.ref a21)] [] (lenOf own_pd10 rfl) rfl rfl (W := 0) own_le (D 2 rfl) (by decide) (by decide) (by decide) (by decide)
  rw [show own_f20 ([(c0.toInt8.toInt32), 46, (c1.toInt8.toInt32)] : List Int32) ([91] : List Int32) = (0 : Int32) from by unfold own_f20; rw [if_neg (show ¬ ((own_mis ([(c0.toInt8.toInt32), 46, (c1.toInt8.toInt32)] : List Int32) ([91] : List Int32) 0) < (0 : Int32)) from (own_mis_no (fun q => own_bn ok0.1 (by decide) (by decide) (by decide) ok0.2.2.2.1 q.symm)))]] at hQ23
  obtain ⟨rfl, N23q, e23⟩ := hQ23
  have N23 := Fr.app N0 N23q
  replace k : ow T23 (mkF m 28 #[ow_r a1, ow_i 46] []) := fun t q => k t (XS.ifYes X23.here hx rfl (pc0 := 6) (pc' := 28) rfl (D 3 rfl) rfl ((if0 _ _).trans (teq (show (0 : Int32) = (0 : Int32) from (by decide))).1) (by decide) (by decide) q)
  replace k : ow T23 (mkF m 30 #[ow_r a1, ow_i 46] [(.int 46), (.ref a1)]) := fun t q => k t (XS.aloadN X23.here hx rfl (D 4 rfl) rfl rfl (XS.iloadN X23.here hx rfl (D 5 rfl) rfl q))
  obtain ⟨_, T24, L24, h24, X24, hS24, hZ, hown, e24, hQ24, CU24, k⟩ := own_cSS X23 hx hw hZ hown e23 hS21 hk21 k (own_backP (EJ := own_J) (W := 0) (own_m25_3 l Z a0 hw [] a1 c0 c1 w_COMPACT_STRINGS w_SIOOBE_FORMATTER h21 n0 Z21 (T_a1.ext E21) (S_COMPACT_STRINGS.ext E21) (S_SIOOBE_FORMATTER.ext E21) hz hrS ok0 ok1) hZ (own_h hw 114 rfl) (own_h hw 85 rfl) (by decide) (by decide) (own_EW hw) CH21) 112 113 85 114 rfl rfl rfl rfl (by decide) rfl (by rw [hml]; rfl) [(.ref a1), (.int 46)] [] (lenOf own_pd11 rfl) rfl rfl own_le (D 6 rfl) (by decide) (by decide)
  have hk24 := Nat.le_refl h24.size
  have CR24 := CR21.trans CU24
  have CH24 := CU24.1
  obtain ⟨rfl, N24q, KC24⟩ := hQ24
  have KK24 : Keep h0 h24 [] := K21.trans KC24 all0
  have Z24 : n0 ≤ h24.size := Nat.le_trans Z21 KC24.1
  have N24 := Fr.app N23 N24q
  exact own_endS (v := some (.int 1)) X24 e24 hS24 hk24 hh Bd.notSynchronized (own_vn Bd.returns) k (fun _ hr => retN X24 hx (t := .boolean) Bd.returns (by simp) (D 7 rfl) hr) ⟨rfl, N24, KK24⟩ (CR24.trans (own_CP.at own_J X24 hZ (own_EW hw) CH24)) (by decide) (by decide)
theorem own_d35 : own_all prog_120_method_5_code [(0, .aload_n 0, 1), (1, .ldc 43, 2), (3, .invokevirtual 44, 3), (6, .ifCond .ne 12, 3), (18, .iconst 1, 1), (19, .goto 4, 3), (23, .ireturn, 1), (9, .aload_n 0, 1), (10, .ldc 48, 2), (12, .invokevirtual 44, 3), (15, .ifCond .eq 7, 3), (22, .iconst 0, 1)] := by decide +kernel
theorem own_ef35 (m : MethodId) (x0 : Addr) : entryFrame m #[(.ref x0)] 1 = mkF m 0 #[ow_r x0] [] := by first | (simp [entryFrame, mkF, argsToLocals, Value.category]; done) | rfl
theorem own_pn35 : plainName "com/example/callsite/callsite/model/JvmNames" = true := by first | (simp [plainName, overriddenIn]; done) | decide +kernel
def own_m35_6_Q (Z : State) (a1 : Addr) (w_COMPACT_STRINGS : Int32) (w_SIOOBE_FORMATTER : Value) (h0 : Heap) (n0 : Nat) (v : Option Value) (h : Heap) (L : List Loc) : Prop := v = some (.int 1) ∧ Fr n0 L ∧ Keep h0 h []
set_option maxRecDepth 65536 in
set_option maxHeartbeats 40000000 in
theorem own_m35_6 (l : Launch) (Z : State) (a0 : Array Value) (hw : ∀ d ∈ tables_1, d.before a0 Z = true) (ws : List Jvm.Cond) (a1 : Addr) (w_COMPACT_STRINGS : Int32) (w_SIOOBE_FORMATTER : Value) (h0 : Heap) (n0 : Nat) (Z0 : n0 ≤ h0.size) (T_a1 : own_Str Z h0 a1 ([60, 105, 110, 105, 116, 62] : List Int32)) (S_COMPACT_STRINGS : Sta Z h0 "java/lang/String" "COMPACT_STRINGS" "Z" (.int w_COMPACT_STRINGS)) (S_SIOOBE_FORMATTER : Sta Z h0 "jdk/internal/util/Preconditions" "SIOOBE_FORMATTER" "Ljava/util/function/BiFunction;" w_SIOOBE_FORMATTER) (hz : ¬ (w_COMPACT_STRINGS = (0 : Int32))) (hrS : w_SIOOBE_FORMATTER.isRef = true) :
    own_MS l Z own_y35 ws prog_120_method_5_code 1 (some .boolean) ({ frames := 2, cells := 4, slots := 64, locals := 28 } : Room) #[(.ref a1)] h0 (own_CP Z consts_1 own_J) (own_m35_6_Q Z a1 w_COMPACT_STRINGS w_SIOOBE_FORMATTER h0 n0) := by
  refine own_goS own_CP.refl "com/example/callsite/callsite/model/JvmNames" rfl (plainFor_of_name own_pn35) (fun m => own_ef35 m a1) own_d35 n0 fun p e s m below meth c s₁ A0 Bd hx D hml hown hnm X0 hZ e0 N0 hh CH0 hS0 hk0 CR0 k => ?_
  obtain ⟨a21, T21, h21, k121, bs21, kc21, X21, e21, E21, hS21, hk21, hZ, hown, EX21, FC21, FV21, AV21, la21, lb21, CU21, LT21, SX21, st21⟩ := own_ldc X0 hx hZ hown (own_h hw 154 rfl) (own_wS hw) e0 hS0 hk0 (own_EW hw) (List.mem_of_getElem? (i := 1) rfl) (EJ := own_J) (List.mem_of_getElem? (i := 1) rfl) CH0 (vs := [(.int 60), (.int 105), (.int 110), (.int 105), (.int 116), (.int 62)]) (z := (6 : Int32)) ⟨by decide, by decide⟩ (by decide) (by decide) (g := (mkF m 1 #[ow_r a1] [(.ref a1)])) rfl (D 1 rfl) (n := 24) (by decide) (by decide) (by decide) (by decide)
  have Z21 : n0 ≤ h21.size := Nat.le_trans Z0 E21.1
  have K21 : Keep h0 h21 [] := (Keep.refl h0 []).ext E21
  have CR21 := CR0.trans CU21
  have CH21 := CU21.1
  replace k : ow T21 (mkF m 3 #[ow_r a1] [(.ref a21), (.ref a1)]) := fun t q => k t (XS.aloadN X0.here hx rfl (D 0 rfl) rfl rfl (st21 t q))
  clear st21
  have TL22 : own_Str Z h21 a21 ([60, 105, 110, 105, 116, 62] : List Int32) := ⟨bs21, _, _, _, EX21, FV21, FC21, AV21, Or.inl ⟨rfl, rfl, rfl, by decide⟩, by decide, by decide⟩
  obtain ⟨T23, X23, e23, k⟩ := own_cEq X21 hx hw hZ hown e21 k (T_a1.ext E21) TL22 (S_COMPACT_STRINGS.ext E21) hz 1 (Or.inl ⟨rfl, rfl⟩) 155 156 158 157 8 rfl rfl rfl rfl rfl rfl rfl (by rw [hml]; rfl) [] rfl (W := 0) own_le (D 2 rfl) (by decide) (by decide) (by decide) (by decide)
  replace k : ow T23 (mkF m 18 #[ow_r a1] []) := fun t q => k t (XS.ifYes X23.here hx rfl (pc0 := 6) (pc' := 18) rfl (D 3 rfl) rfl ((if0 _ _).trans (feq (show ¬ ((1 : Int32) = (0 : Int32)) from (by decide))).2) (by decide) (by decide) q)
  replace k : ow T23 (mkF m 23 #[ow_r a1] [(.int 1)]) := fun t q => k t (XS.iconst X23.here hx rfl (D 4 rfl) (XS.goto X23.here hx rfl (pc0 := 19) (pc' := 23) rfl (D 5 rfl) (by decide) (by decide) q))
  exact own_endS (v := some (.int 1)) X23 e23 hS21 hk21 hh Bd.notSynchronized (own_vn Bd.returns) k (fun _ hr => retN X23 hx (t := .boolean) Bd.returns (by simp) (D 6 rfl) hr) ⟨rfl, N0, K21⟩ (CR21.trans (own_CP.at own_J X23 hZ (own_EW hw) CH21)) (by decide) (by decide)
def own_m35_8_Q (Z : State) (a1 : Addr) (w_COMPACT_STRINGS : Int32) (w_SIOOBE_FORMATTER : Value) (h0 : Heap) (n0 : Nat) (v : Option Value) (h : Heap) (L : List Loc) : Prop := v = some (.int 1) ∧ Fr n0 L ∧ Keep h0 h []
set_option maxRecDepth 65536 in
set_option maxHeartbeats 40000000 in
theorem own_m35_8 (l : Launch) (Z : State) (a0 : Array Value) (hw : ∀ d ∈ tables_1, d.before a0 Z = true) (ws : List Jvm.Cond) (a1 : Addr) (w_COMPACT_STRINGS : Int32) (w_SIOOBE_FORMATTER : Value) (h0 : Heap) (n0 : Nat) (Z0 : n0 ≤ h0.size) (T_a1 : own_Str Z h0 a1 ([60, 99, 108, 105, 110, 105, 116, 62] : List Int32)) (S_COMPACT_STRINGS : Sta Z h0 "java/lang/String" "COMPACT_STRINGS" "Z" (.int w_COMPACT_STRINGS)) (S_SIOOBE_FORMATTER : Sta Z h0 "jdk/internal/util/Preconditions" "SIOOBE_FORMATTER" "Ljava/util/function/BiFunction;" w_SIOOBE_FORMATTER) (hz : ¬ (w_COMPACT_STRINGS = (0 : Int32))) (hrS : w_SIOOBE_FORMATTER.isRef = true) :
    own_MS l Z own_y35 ws prog_120_method_5_code 1 (some .boolean) ({ frames := 2, cells := 4, slots := 64, locals := 28 } : Room) #[(.ref a1)] h0 (own_CP Z consts_1 own_J) (own_m35_8_Q Z a1 w_COMPACT_STRINGS w_SIOOBE_FORMATTER h0 n0) := by
  refine own_goS own_CP.refl "com/example/callsite/callsite/model/JvmNames" rfl (plainFor_of_name own_pn35) (fun m => own_ef35 m a1) own_d35 n0 fun p e s m below meth c s₁ A0 Bd hx D hml hown hnm X0 hZ e0 N0 hh CH0 hS0 hk0 CR0 k => ?_
  obtain ⟨a21, T21, h21, k121, bs21, kc21, X21, e21, E21, hS21, hk21, hZ, hown, EX21, FC21, FV21, AV21, la21, lb21, CU21, LT21, SX21, st21⟩ := own_ldc X0 hx hZ hown (own_h hw 154 rfl) (own_wS hw) e0 hS0 hk0 (own_EW hw) (List.mem_of_getElem? (i := 1) rfl) (EJ := own_J) (List.mem_of_getElem? (i := 1) rfl) CH0 (vs := [(.int 60), (.int 105), (.int 110), (.int 105), (.int 116), (.int 62)]) (z := (6 : Int32)) ⟨by decide, by decide⟩ (by decide) (by decide) (g := (mkF m 1 #[ow_r a1] [(.ref a1)])) rfl (D 1 rfl) (n := 24) (by decide) (by decide) (by decide) (by decide)
  have Z21 : n0 ≤ h21.size := Nat.le_trans Z0 E21.1
  have K21 : Keep h0 h21 [] := (Keep.refl h0 []).ext E21
  have CR21 := CR0.trans CU21
  have CH21 := CU21.1
  replace k : ow T21 (mkF m 3 #[ow_r a1] [(.ref a21), (.ref a1)]) := fun t q => k t (XS.aloadN X0.here hx rfl (D 0 rfl) rfl rfl (st21 t q))
  clear st21
  have TL22 : own_Str Z h21 a21 ([60, 105, 110, 105, 116, 62] : List Int32) := ⟨bs21, _, _, _, EX21, FV21, FC21, AV21, Or.inl ⟨rfl, rfl, rfl, by decide⟩, by decide, by decide⟩
  obtain ⟨T23, X23, e23, k⟩ := own_cEq X21 hx hw hZ hown e21 k (T_a1.ext E21) TL22 (S_COMPACT_STRINGS.ext E21) hz 0 (Or.inr ⟨rfl, (by decide)⟩) 155 156 158 157 8 rfl rfl rfl rfl rfl rfl rfl (by rw [hml]; rfl) [] rfl (W := 0) own_le (D 2 rfl) (by decide) (by decide) (by decide) (by decide)
  replace k : ow T23 (mkF m 9 #[ow_r a1] []) := fun t q => k t (XS.ifNo X23.here hx rfl (D 3 rfl) rfl ((if0 _ _).trans (teq (show (0 : Int32) = (0 : Int32) from (by decide))).2) q)
  obtain ⟨a24, T24, h24, k124, bs24, kc24, X24, e24, E24, hS24, hk24, hZ, hown, EX24, FC24, FV24, AV24, la24, lb24, CU24, LT24, SX24, st24⟩ := own_ldc X23 hx hZ hown (own_h hw 205 rfl) (own_wS hw) e23 hS21 hk21 (own_EW hw) (List.mem_of_getElem? (i := 2) rfl) (EJ := own_J) (List.mem_of_getElem? (i := 2) rfl) CH21 (vs := [(.int 60), (.int 99), (.int 108), (.int 105), (.int 110), (.int 105), (.int 116), (.int 62)]) (z := (8 : Int32)) ⟨by decide, by decide⟩ (by decide) (by decide) (g := (mkF m 10 #[ow_r a1] [(.ref a1)])) rfl (D 8 rfl) (n := 32) (by decide) (by decide) (by decide) (by decide)
  have Z24 : n0 ≤ h24.size := Nat.le_trans Z21 E24.1
  have K24 : Keep h0 h24 [] := K21.ext E24
  have CR24 := CR21.trans CU24
  have CH24 := CU24.1
  replace k : ow T24 (mkF m 12 #[ow_r a1] [(.ref a24), (.ref a1)]) := fun t q => k t (XS.aloadN X23.here hx rfl (D 7 rfl) rfl rfl (st24 t q))
  clear st24
  have TL25 : own_Str Z h24 a24 ([60, 99, 108, 105, 110, 105, 116, 62] : List Int32) := ⟨bs24, _, _, _, EX24, FV24, FC24, AV24, Or.inl ⟨rfl, rfl, rfl, by decide⟩, by decide, by decide⟩
  obtain ⟨T26, X26, e26, k⟩ := own_cEq X24 hx hw hZ hown e24 k ((T_a1.ext E21).ext E24) TL25 ((S_COMPACT_STRINGS.ext E21).ext E24) hz 1 (Or.inl ⟨rfl, rfl⟩) 155 156 158 157 8 rfl rfl rfl rfl rfl rfl rfl (by rw [hml]; rfl) [] rfl (W := 0) own_le (D 9 rfl) (by decide) (by decide) (by decide) (by decide)
  replace k : ow T26 (mkF m 18 #[ow_r a1] []) := fun t q => k t (XS.ifNo X26.here hx rfl (D 10 rfl) rfl ((if0 _ _).trans (feq (show ¬ ((1 : Int32) = (0 : Int32)) from (by decide))).1) q)
  replace k : ow T26 (mkF m 23 #[ow_r a1] [(.int 1)]) := fun t q => k t (XS.iconst X26.here hx rfl (D 4 rfl) (XS.goto X26.here hx rfl (pc0 := 19) (pc' := 23) rfl (D 5 rfl) (by decide) (by decide) q))
  exact own_endS (v := some (.int 1)) X26 e26 hS24 hk24 hh Bd.notSynchronized (own_vn Bd.returns) k (fun _ hr => retN X26 hx (t := .boolean) Bd.returns (by simp) (D 6 rfl) hr) ⟨rfl, N0, K24⟩ (CR24.trans (own_CP.at own_J X26 hZ (own_EW hw) CH24)) (by decide) (by decide)
def own_m35_2_Q (Z : State) (a1 : Addr) (c0 : Int32) (c1 : Int32) (w_COMPACT_STRINGS : Int32) (w_SIOOBE_FORMATTER : Value) (h0 : Heap) (n0 : Nat) (v : Option Value) (h : Heap) (L : List Loc) : Prop := v = some (.int 0) ∧ Fr n0 L ∧ Keep h0 h []
set_option maxRecDepth 65536 in
set_option maxHeartbeats 40000000 in
theorem own_m35_2 (l : Launch) (Z : State) (a0 : Array Value) (hw : ∀ d ∈ tables_1, d.before a0 Z = true) (ws : List Jvm.Cond) (a1 : Addr) (c0 : Int32) (c1 : Int32) (w_COMPACT_STRINGS : Int32) (w_SIOOBE_FORMATTER : Value) (h0 : Heap) (n0 : Nat) (Z0 : n0 ≤ h0.size) (T_a1 : own_Str Z h0 a1 ([c0, c1] : List Int32)) (S_COMPACT_STRINGS : Sta Z h0 "java/lang/String" "COMPACT_STRINGS" "Z" (.int w_COMPACT_STRINGS)) (S_SIOOBE_FORMATTER : Sta Z h0 "jdk/internal/util/Preconditions" "SIOOBE_FORMATTER" "Ljava/util/function/BiFunction;" w_SIOOBE_FORMATTER) (hz : ¬ (w_COMPACT_STRINGS = (0 : Int32))) (hrS : w_SIOOBE_FORMATTER.isRef = true) :
    own_MS l Z own_y35 ws prog_120_method_5_code 1 (some .boolean) ({ frames := 2, cells := 4, slots := 64, locals := 28 } : Room) #[(.ref a1)] h0 (own_CP Z consts_1 own_J) (own_m35_2_Q Z a1 c0 c1 w_COMPACT_STRINGS w_SIOOBE_FORMATTER h0 n0) := by
  refine own_goS own_CP.refl "com/example/callsite/callsite/model/JvmNames" rfl (plainFor_of_name own_pn35) (fun m => own_ef35 m a1) own_d35 n0 fun p e s m below meth c s₁ A0 Bd hx D hml hown hnm X0 hZ e0 N0 hh CH0 hS0 hk0 CR0 k => ?_
  obtain ⟨a21, T21, h21, k121, bs21, kc21, X21, e21, E21, hS21, hk21, hZ, hown, EX21, FC21, FV21, AV21, la21, lb21, CU21, LT21, SX21, st21⟩ := own_ldc X0 hx hZ hown (own_h hw 154 rfl) (own_wS hw) e0 hS0 hk0 (own_EW hw) (List.mem_of_getElem? (i := 1) rfl) (EJ := own_J) (List.mem_of_getElem? (i := 1) rfl) CH0 (vs := [(.int 60), (.int 105), (.int 110), (.int 105), (.int 116), (.int 62)]) (z := (6 : Int32)) ⟨by decide, by decide⟩ (by decide) (by decide) (g := (mkF m 1 #[ow_r a1] [(.ref a1)])) rfl (D 1 rfl) (n := 24) (by decide) (by decide) (by decide) (by decide)
  have Z21 : n0 ≤ h21.size := Nat.le_trans Z0 E21.1
  have K21 : Keep h0 h21 [] := (Keep.refl h0 []).ext E21
  have CR21 := CR0.trans CU21
  have CH21 := CU21.1
  replace k : ow T21 (mkF m 3 #[ow_r a1] [(.ref a21), (.ref a1)]) := fun t q => k t (XS.aloadN X0.here hx rfl (D 0 rfl) rfl rfl (st21 t q))
  clear st21
  have TL22 : own_Str Z h21 a21 ([60, 105, 110, 105, 116, 62] : List Int32) := ⟨bs21, _, _, _, EX21, FV21, FC21, AV21, Or.inl ⟨rfl, rfl, rfl, by decide⟩, by decide, by decide⟩
  obtain ⟨T23, X23, e23, k⟩ := own_cEq X21 hx hw hZ hown e21 k (T_a1.ext E21) TL22 (S_COMPACT_STRINGS.ext E21) hz 0 (Or.inr ⟨rfl, (by simp)⟩) 155 156 158 157 8 rfl rfl rfl rfl rfl rfl rfl (by rw [hml]; rfl) [] rfl (W := 0) own_le (D 2 rfl) (by decide) (by decide) (by decide) (by decide)
  replace k : ow T23 (mkF m 9 #[ow_r a1] []) := fun t q => k t (XS.ifNo X23.here hx rfl (D 3 rfl) rfl ((if0 _ _).trans (teq (show (0 : Int32) = (0 : Int32) from (by decide))).2) q)
  obtain ⟨a24, T24, h24, k124, bs24, kc24, X24, e24, E24, hS24, hk24, hZ, hown, EX24, FC24, FV24, AV24, la24, lb24, CU24, LT24, SX24, st24⟩ := own_ldc X23 hx hZ hown (own_h hw 205 rfl) (own_wS hw) e23 hS21 hk21 (own_EW hw) (List.mem_of_getElem? (i := 2) rfl) (EJ := own_J) (List.mem_of_getElem? (i := 2) rfl) CH21 (vs := [(.int 60), (.int 99), (.int 108), (.int 105), (.int 110), (.int 105), (.int 116), (.int 62)]) (z := (8 : Int32)) ⟨by decide, by decide⟩ (by decide) (by decide) (g := (mkF m 10 #[ow_r a1] [(.ref a1)])) rfl (D 8 rfl) (n := 32) (by decide) (by decide) (by decide) (by decide)
  have Z24 : n0 ≤ h24.size := Nat.le_trans Z21 E24.1
  have K24 : Keep h0 h24 [] := K21.ext E24
  have CR24 := CR21.trans CU24
  have CH24 := CU24.1
  replace k : ow T24 (mkF m 12 #[ow_r a1] [(.ref a24), (.ref a1)]) := fun t q => k t (XS.aloadN X23.here hx rfl (D 7 rfl) rfl rfl (st24 t q))
  clear st24
  have TL25 : own_Str Z h24 a24 ([60, 99, 108, 105, 110, 105, 116, 62] : List Int32) := ⟨bs24, _, _, _, EX24, FV24, FC24, AV24, Or.inl ⟨rfl, rfl, rfl, by decide⟩, by decide, by decide⟩
  obtain ⟨T26, X26, e26, k⟩ := own_cEq X24 hx hw hZ hown e24 k ((T_a1.ext E21).ext E24) TL25 ((S_COMPACT_STRINGS.ext E21).ext E24) hz 0 (Or.inr ⟨rfl, (by simp)⟩) 155 156 158 157 8 rfl rfl rfl rfl rfl rfl rfl (by rw [hml]; rfl) [] rfl (W := 0) own_le (D 9 rfl) (by decide) (by decide) (by decide) (by decide)
  replace k : ow T26 (mkF m 22 #[ow_r a1] []) := fun t q => k t (XS.ifYes X26.here hx rfl (pc0 := 15) (pc' := 22) rfl (D 10 rfl) rfl ((if0 _ _).trans (teq (show (0 : Int32) = (0 : Int32) from (by decide))).1) (by decide) (by decide) q)
  replace k : ow T26 (mkF m 23 #[ow_r a1] [(.int 0)]) := fun t q => k t (XS.iconst X26.here hx rfl (D 11 rfl) q)
  exact own_endS (v := some (.int 0)) X26 e26 hS24 hk24 hh Bd.notSynchronized (own_vn Bd.returns) k (fun _ hr => retN X26 hx (t := .boolean) Bd.returns (by simp) (D 6 rfl) hr) ⟨rfl, N0, K24⟩ (CR24.trans (own_CP.at own_J X26 hZ (own_EW hw) CH24)) (by decide) (by decide)
theorem own_d34 : own_all prog_120_method_4_code [(0, .aload_n 0, 1), (1, .invokestatic 40, 3), (4, .ifCond .eq 5, 3), (7, .iconst 1, 1), (8, .ireturn, 1), (9, .aload_n 0, 1), (10, .iconst 0, 1), (11, .aload_n 0, 1), (12, .invokevirtual 21, 3), (15, .invokestatic 33, 3), (18, .ifCond .eq 25, 3), (21, .aload_n 0, 1), (22, .bipush 60, 2), (24, .invokevirtual 29, 3), (27, .ifCond .ge 16, 3), (30, .aload_n 0, 1), (31, .bipush 62, 2), (33, .invokevirtual 29, 3), (36, .ifCond .ge 7, 3), (39, .iconst 1, 1), (40, .goto 4, 3), (44, .ireturn, 1)] := by decide +kernel
theorem own_ef34 (m : MethodId) (x0 : Addr) : entryFrame m #[(.ref x0)] 1 = mkF m 0 #[ow_r x0] [] := by first | (simp [entryFrame, mkF, argsToLocals, Value.category]; done) | rfl
theorem own_pn34 : plainName "com/example/callsite/callsite/model/JvmNames" = true := by first | (simp [plainName, overriddenIn]; done) | decide +kernel
def own_m34_6_Q (Z : State) (a1 : Addr) (w_COMPACT_STRINGS : Int32) (w_SIOOBE_FORMATTER : Value) (h0 : Heap) (n0 : Nat) (v : Option Value) (h : Heap) (L : List Loc) : Prop := v = some (.int 1) ∧ Fr n0 L ∧ Keep h0 h []
set_option maxRecDepth 65536 in
set_option maxHeartbeats 40000000 in
theorem own_m34_6 (l : Launch) (Z : State) (a0 : Array Value) (hw : ∀ d ∈ tables_1, d.before a0 Z = true) (ws : List Jvm.Cond) (a1 : Addr) (w_COMPACT_STRINGS : Int32) (w_SIOOBE_FORMATTER : Value) (h0 : Heap) (n0 : Nat) (Z0 : n0 ≤ h0.size) (T_a1 : own_Str Z h0 a1 ([60, 105, 110, 105, 116, 62] : List Int32)) (S_COMPACT_STRINGS : Sta Z h0 "java/lang/String" "COMPACT_STRINGS" "Z" (.int w_COMPACT_STRINGS)) (S_SIOOBE_FORMATTER : Sta Z h0 "jdk/internal/util/Preconditions" "SIOOBE_FORMATTER" "Ljava/util/function/BiFunction;" w_SIOOBE_FORMATTER) (hz : ¬ (w_COMPACT_STRINGS = (0 : Int32))) (hrS : w_SIOOBE_FORMATTER.isRef = true) :
    own_MS l Z own_y34 ws prog_120_method_4_code 1 (some .boolean) ({ frames := 3, cells := 4, slots := 64, locals := 40 } : Room) #[(.ref a1)] h0 (own_CP Z consts_1 own_J) (own_m34_6_Q Z a1 w_COMPACT_STRINGS w_SIOOBE_FORMATTER h0 n0) := by
  refine own_goS own_CP.refl "com/example/callsite/callsite/model/JvmNames" rfl (plainFor_of_name own_pn34) (fun m => own_ef34 m a1) own_d34 n0 fun p e s m below meth c s₁ A0 Bd hx D hml hown hnm X0 hZ e0 N0 hh CH0 hS0 hk0 CR0 k => ?_
  replace k : ow s₁ (mkF m 1 #[ow_r a1] [(.ref a1)]) := fun t q => k t (XS.aloadN X0.here hx rfl (D 0 rfl) rfl rfl q)
  obtain ⟨_, T21, L21, h21, X21, hS21, hZ, hown, e21, hQ21, CU21, k⟩ := own_cSS X0 hx hw hZ hown e0 hS0 hk0 k (own_backP (EJ := own_J) (W := 0) (own_m35_6 l Z a0 hw [] a1 w_COMPACT_STRINGS w_SIOOBE_FORMATTER h0 n0 Z0 T_a1 S_COMPACT_STRINGS S_SIOOBE_FORMATTER hz hrS) hZ (own_h hw 153 rfl) (own_h hw 85 rfl) (by decide) (by decide) (own_EW hw) CH0) 151 152 85 153 rfl rfl rfl rfl (by decide) rfl (by rw [hml]; rfl) [(.ref a1)] [] (lenOf own_pd10 rfl) rfl rfl own_le (D 1 rfl) (by decide) (by decide)
  have hk21 := Nat.le_refl h21.size
  have CR21 := CR0.trans CU21
  have CH21 := CU21.1
  obtain ⟨rfl, N21q, KC21⟩ := hQ21
  have KK21 : Keep h0 h21 [] := (Keep.refl h0 []).trans KC21 all0
  have Z21 : n0 ≤ h21.size := Nat.le_trans Z0 KC21.1
  have N21 := Fr.app N0 N21q
  replace k : ow T21 (mkF m 7 #[ow_r a1] []) := fun t q => k t (XS.ifNo X21.here hx rfl (D 2 rfl) rfl ((if0 _ _).trans (feq (show ¬ ((1 : Int32) = (0 : Int32)) from (by decide))).1) q)
  replace k : ow T21 (mkF m 8 #[ow_r a1] [(.int 1)]) := fun t q => k t (XS.iconst X21.here hx rfl (D 3 rfl) q)
  exact own_endS (v := some (.int 1)) X21 e21 hS21 hk21 hh Bd.notSynchronized (own_vn Bd.returns) k (fun _ hr => retN X21 hx (t := .boolean) Bd.returns (by simp) (D 4 rfl) hr) ⟨rfl, N21, KK21⟩ (CR21.trans (own_CP.at own_J X21 hZ (own_EW hw) CH21)) (by decide) (by decide)
def own_m34_8_Q (Z : State) (a1 : Addr) (w_COMPACT_STRINGS : Int32) (w_SIOOBE_FORMATTER : Value) (h0 : Heap) (n0 : Nat) (v : Option Value) (h : Heap) (L : List Loc) : Prop := v = some (.int 1) ∧ Fr n0 L ∧ Keep h0 h []
set_option maxRecDepth 65536 in
set_option maxHeartbeats 40000000 in
theorem own_m34_8 (l : Launch) (Z : State) (a0 : Array Value) (hw : ∀ d ∈ tables_1, d.before a0 Z = true) (ws : List Jvm.Cond) (a1 : Addr) (w_COMPACT_STRINGS : Int32) (w_SIOOBE_FORMATTER : Value) (h0 : Heap) (n0 : Nat) (Z0 : n0 ≤ h0.size) (T_a1 : own_Str Z h0 a1 ([60, 99, 108, 105, 110, 105, 116, 62] : List Int32)) (S_COMPACT_STRINGS : Sta Z h0 "java/lang/String" "COMPACT_STRINGS" "Z" (.int w_COMPACT_STRINGS)) (S_SIOOBE_FORMATTER : Sta Z h0 "jdk/internal/util/Preconditions" "SIOOBE_FORMATTER" "Ljava/util/function/BiFunction;" w_SIOOBE_FORMATTER) (hz : ¬ (w_COMPACT_STRINGS = (0 : Int32))) (hrS : w_SIOOBE_FORMATTER.isRef = true) :
    own_MS l Z own_y34 ws prog_120_method_4_code 1 (some .boolean) ({ frames := 3, cells := 4, slots := 64, locals := 40 } : Room) #[(.ref a1)] h0 (own_CP Z consts_1 own_J) (own_m34_8_Q Z a1 w_COMPACT_STRINGS w_SIOOBE_FORMATTER h0 n0) := by
  refine own_goS own_CP.refl "com/example/callsite/callsite/model/JvmNames" rfl (plainFor_of_name own_pn34) (fun m => own_ef34 m a1) own_d34 n0 fun p e s m below meth c s₁ A0 Bd hx D hml hown hnm X0 hZ e0 N0 hh CH0 hS0 hk0 CR0 k => ?_
  replace k : ow s₁ (mkF m 1 #[ow_r a1] [(.ref a1)]) := fun t q => k t (XS.aloadN X0.here hx rfl (D 0 rfl) rfl rfl q)
  obtain ⟨_, T21, L21, h21, X21, hS21, hZ, hown, e21, hQ21, CU21, k⟩ := own_cSS X0 hx hw hZ hown e0 hS0 hk0 k (own_backP (EJ := own_J) (W := 0) (own_m35_8 l Z a0 hw [] a1 w_COMPACT_STRINGS w_SIOOBE_FORMATTER h0 n0 Z0 T_a1 S_COMPACT_STRINGS S_SIOOBE_FORMATTER hz hrS) hZ (own_h hw 153 rfl) (own_h hw 85 rfl) (by decide) (by decide) (own_EW hw) CH0) 151 152 85 153 rfl rfl rfl rfl (by decide) rfl (by rw [hml]; rfl) [(.ref a1)] [] (lenOf own_pd10 rfl) rfl rfl own_le (D 1 rfl) (by decide) (by decide)
  have hk21 := Nat.le_refl h21.size
  have CR21 := CR0.trans CU21
  have CH21 := CU21.1
  obtain ⟨rfl, N21q, KC21⟩ := hQ21
  have KK21 : Keep h0 h21 [] := (Keep.refl h0 []).trans KC21 all0
  have Z21 : n0 ≤ h21.size := Nat.le_trans Z0 KC21.1
  have N21 := Fr.app N0 N21q
  replace k : ow T21 (mkF m 7 #[ow_r a1] []) := fun t q => k t (XS.ifNo X21.here hx rfl (D 2 rfl) rfl ((if0 _ _).trans (feq (show ¬ ((1 : Int32) = (0 : Int32)) from (by decide))).1) q)
  replace k : ow T21 (mkF m 8 #[ow_r a1] [(.int 1)]) := fun t q => k t (XS.iconst X21.here hx rfl (D 3 rfl) q)
  exact own_endS (v := some (.int 1)) X21 e21 hS21 hk21 hh Bd.notSynchronized (own_vn Bd.returns) k (fun _ hr => retN X21 hx (t := .boolean) Bd.returns (by simp) (D 4 rfl) hr) ⟨rfl, N21, KK21⟩ (CR21.trans (own_CP.at own_J X21 hZ (own_EW hw) CH21)) (by decide) (by decide)
def own_m34_2_Q (Z : State) (a1 : Addr) (c0 : Int32) (c1 : Int32) (w_COMPACT_STRINGS : Int32) (w_SIOOBE_FORMATTER : Value) (h0 : Heap) (n0 : Nat) (v : Option Value) (h : Heap) (L : List Loc) : Prop := v = some (.int 1) ∧ Fr n0 L ∧ Keep h0 h []
set_option maxRecDepth 65536 in
set_option maxHeartbeats 40000000 in
theorem own_m34_2 (l : Launch) (Z : State) (a0 : Array Value) (hw : ∀ d ∈ tables_1, d.before a0 Z = true) (ws : List Jvm.Cond) (a1 : Addr) (c0 : Int32) (c1 : Int32) (w_COMPACT_STRINGS : Int32) (w_SIOOBE_FORMATTER : Value) (h0 : Heap) (n0 : Nat) (Z0 : n0 ≤ h0.size) (T_a1 : own_Str Z h0 a1 ([c0, c1] : List Int32)) (S_COMPACT_STRINGS : Sta Z h0 "java/lang/String" "COMPACT_STRINGS" "Z" (.int w_COMPACT_STRINGS)) (S_SIOOBE_FORMATTER : Sta Z h0 "jdk/internal/util/Preconditions" "SIOOBE_FORMATTER" "Ljava/util/function/BiFunction;" w_SIOOBE_FORMATTER) (hz : ¬ (w_COMPACT_STRINGS = (0 : Int32))) (hrS : w_SIOOBE_FORMATTER.isRef = true) (ok0 : own_okm c0) (ok1 : own_okm c1) :
    own_MS l Z own_y34 ws prog_120_method_4_code 1 (some .boolean) ({ frames := 5, cells := 6, slots := 84, locals := 74 } : Room) #[(.ref a1)] h0 (own_CP Z consts_1 own_J) (own_m34_2_Q Z a1 c0 c1 w_COMPACT_STRINGS w_SIOOBE_FORMATTER h0 n0) := by
  refine own_goS own_CP.refl "com/example/callsite/callsite/model/JvmNames" rfl (plainFor_of_name own_pn34) (fun m => own_ef34 m a1) own_d34 n0 fun p e s m below meth c s₁ A0 Bd hx D hml hown hnm X0 hZ e0 N0 hh CH0 hS0 hk0 CR0 k => ?_
  replace k : ow s₁ (mkF m 1 #[ow_r a1] [(.ref a1)]) := fun t q => k t (XS.aloadN X0.here hx rfl (D 0 rfl) rfl rfl q)
  obtain ⟨_, T21, L21, h21, X21, hS21, hZ, hown, e21, hQ21, CU21, k⟩ := own_cSS X0 hx hw hZ hown e0 hS0 hk0 k (own_backP (EJ := own_J) (W := 0) (own_m35_2 l Z a0 hw [] a1 c0 c1 w_COMPACT_STRINGS w_SIOOBE_FORMATTER h0 n0 Z0 T_a1 S_COMPACT_STRINGS S_SIOOBE_FORMATTER hz hrS) hZ (own_h hw 153 rfl) (own_h hw 85 rfl) (by decide) (by decide) (own_EW hw) CH0) 151 152 85 153 rfl rfl rfl rfl (by decide) rfl (by rw [hml]; rfl) [(.ref a1)] [] (lenOf own_pd10 rfl) rfl rfl own_le (D 1 rfl) (by decide) (by decide)
  have hk21 := Nat.le_refl h21.size
  have CR21 := CR0.trans CU21
  have CH21 := CU21.1
  obtain ⟨rfl, N21q, KC21⟩ := hQ21
  have KK21 : Keep h0 h21 [] := (Keep.refl h0 []).trans KC21 all0
  have Z21 : n0 ≤ h21.size := Nat.le_trans Z0 KC21.1
  have N21 := Fr.app N0 N21q
  replace k : ow T21 (mkF m 9 #[ow_r a1] []) := fun t q => k t (XS.ifYes X21.here hx rfl (pc0 := 4) (pc' := 9) rfl (D 2 rfl) rfl ((if0 _ _).trans (teq (show (0 : Int32) = (0 : Int32) from (by decide))).1) (by decide) (by decide) q)
  replace k : ow T21 (mkF m 12 #[ow_r a1] [(.ref a1), (.int 0), (.ref a1)]) := fun t q => k t (XS.aloadN X21.here hx rfl (D 5 rfl) rfl rfl (XS.iconst X21.here hx rfl (D 6 rfl) (XS.aloadN X21.here hx rfl (D 7 rfl) rfl rfl q)))
  obtain ⟨bo22, ko22, Eo22, Vo22, Co22, Ao22⟩ := own_Str.open_ (T_a1.keep (a0 := a0) KC21 all0)
  have Ao22 : Arv Z h21 bo22 ko22 .byte (2 : Int32) [(.int (c0.toInt8.toInt32)), (.int (c1.toInt8.toInt32))] (.int 0) := Ao22
  obtain ⟨_, T23, L23, X23, hQ23, k⟩ := own_cV X21 hx hw hZ hown e21 k (own_m22 l Z a0 hw [] a1 ([(c0.toInt8.toInt32), (c1.toInt8.toInt32)] : List Int32) bo22 ko22 w_COMPACT_STRINGS h21 n0 Z21 Vo22 Ao22 (own_sta_keep S_COMPACT_STRINGS KC21 ns0) Co22 Eo22 hz) 147 99 101 100 102 9 rfl rfl rfl rfl rfl rfl Eo22 (by decide) rfl (by rw [hml]; rfl) [] [(.int 0), (.ref a1)] (lenOf own_pd5 rfl) rfl rfl (W := 2) own_le (D 8 rfl) (by decide) (by decide) (by decide) (by decide)
  rw [show own_f22 ([(c0.toInt8.toInt32), (c1.toInt8.toInt32)] : List Int32) = (2 : Int32) from rfl] at hQ23
  obtain ⟨rfl, N23q, e23⟩ := hQ23
  have N23 := Fr.app N21 N23q
  obtain ⟨_, T24, L24, h24, X24, hS24, hZ, hown, e24, hQ24, CU24, k⟩ := own_cSS X23 hx hw hZ hown e23 hS21 hk21 k (own_backP (EJ := own_J) (W := 0) (own_m33_2 l Z a0 hw [] a1 c0 c1 w_COMPACT_STRINGS w_SIOOBE_FORMATTER h21 n0 Z21 (T_a1.keep (a0 := a0) KC21 all0) (own_sta_keep S_COMPACT_STRINGS KC21 ns0) (own_sta_keep S_SIOOBE_FORMATTER KC21 ns0) hz hrS ok0.1 ok1.1) hZ (own_h hw 143 rfl) (own_h hw 85 rfl) (by decide) (by decide) (own_EW hw) CH21) 141 142 85 143 rfl rfl rfl rfl (by decide) rfl (by rw [hml]; rfl) [(.ref a1), (.int 0), (.int 2)] [] (lenOf own_pd9 rfl) rfl rfl own_le (D 9 rfl) (by decide) (by decide)
  have hk24 := Nat.le_refl h24.size
  have CR24 := CR21.trans CU24
  have CH24 := CU24.1
  obtain ⟨rfl, N24q, KC24⟩ := hQ24
  have KK24 : Keep h0 h24 [] := KK21.trans KC24 all0
  have Z24 : n0 ≤ h24.size := Nat.le_trans Z21 KC24.1
  have N24 := Fr.app N23 N24q
  replace k : ow T24 (mkF m 21 #[ow_r a1] []) := fun t q => k t (XS.ifNo X24.here hx rfl (D 10 rfl) rfl ((if0 _ _).trans (feq (show ¬ ((1 : Int32) = (0 : Int32)) from (by decide))).1) q)
  replace k : ow T24 (mkF m 24 #[ow_r a1] [(.int 60), (.ref a1)]) := fun t q => k t (XS.aloadN X24.here hx rfl (D 11 rfl) rfl rfl (XS.bipush X24.here hx rfl (D 12 rfl) q))
  obtain ⟨_, T25, L25, X25, hQ25, k⟩ := own_cV X24 hx hw hZ hown e24 k (own_m26 l Z a0 hw [] a1 (60 : Int32) ([(c0.toInt8.toInt32), (c1.toInt8.toInt32)] : List Int32) w_COMPACT_STRINGS bo22 ko22 h24 n0 Z24 (own_sta_keep (own_sta_keep S_COMPACT_STRINGS KC21 ns0) KC24 ns0) (Co22.keep KC24 nin0) (Eo22.keep KC24) (Vo22.keep KC24 nin0) (Ao22.keep KC24 nin0) hz (by decide) (by decide) (by first | assumption | exact Nat.le_of_ble_eq_true rfl | rfl | omega | decide) (by first | assumption | exact Nat.le_of_ble_eq_true rfl | rfl | omega | decide)) 115 116 118 117 119 9 rfl rfl rfl rfl rfl rfl (Eo22.keep KC24) (by decide) rfl (by rw [hml]; rfl) [(.int 60)] [] (lenOf own_pd8 rfl) rfl rfl (W := 0) own_le (D 13 rfl) (by decide) (by decide) (by decide) (by decide)
  obtain ⟨rfl, N25q, e25⟩ := hQ25
  have N25 := Fr.app N24 N25q
  replace k : ow T25 (mkF m 30 #[ow_r a1] []) := fun t q => k t (XS.ifNo X25.here hx rfl (D 14 rfl) rfl ((if0 _ _).trans (tlt (show (own_ix1 (60 : Int32) ([(c0.toInt8.toInt32), (c1.toInt8.toInt32)] : List Int32)) < (0 : Int32) from (by rw [own_ixc2 ok0.1.1 ok1.1.1 (by decide) (by decide) (by decide) ok0.2.1 ok1.2.1]; decide))).2.1) q)
  replace k : ow T25 (mkF m 33 #[ow_r a1] [(.int 62), (.ref a1)]) := fun t q => k t (XS.aloadN X25.here hx rfl (D 15 rfl) rfl rfl (XS.bipush X25.here hx rfl (D 16 rfl) q))
  obtain ⟨_, T26, L26, X26, hQ26, k⟩ := own_cV X25 hx hw hZ hown e25 k (own_m26 l Z a0 hw [] a1 (62 : Int32) ([(c0.toInt8.toInt32), (c1.toInt8.toInt32)] : List Int32) w_COMPACT_STRINGS bo22 ko22 h24 n0 Z24 (own_sta_keep (own_sta_keep S_COMPACT_STRINGS KC21 ns0) KC24 ns0) (Co22.keep KC24 nin0) (Eo22.keep KC24) (Vo22.keep KC24 nin0) (Ao22.keep KC24 nin0) hz (by decide) (by decide) (by first | assumption | exact Nat.le_of_ble_eq_true rfl | rfl | omega | decide) (by first | assumption | exact Nat.le_of_ble_eq_true rfl | rfl | omega | decide)) 115 116 118 117 119 9 rfl rfl rfl rfl rfl rfl (Eo22.keep KC24) (by decide) rfl (by rw [hml]; rfl) [(.int 62)] [] (lenOf own_pd8 rfl) rfl rfl (W := 0) own_le (D 17 rfl) (by decide) (by decide) (by decide) (by decide)
  obtain ⟨rfl, N26q, e26⟩ := hQ26
  have N26 := Fr.app N25 N26q
  replace k : ow T26 (mkF m 39 #[ow_r a1] []) := fun t q => k t (XS.ifNo X26.here hx rfl (D 18 rfl) rfl ((if0 _ _).trans (tlt (show (own_ix1 (62 : Int32) ([(c0.toInt8.toInt32), (c1.toInt8.toInt32)] : List Int32)) < (0 : Int32) from (by rw [own_ixc2 ok0.1.1 ok1.1.1 (by decide) (by decide) (by decide) ok0.2.2 ok1.2.2]; decide))).2.1) q)
  replace k : ow T26 (mkF m 44 #[ow_r a1] [(.int 1)]) := fun t q => k t (XS.iconst X26.here hx rfl (D 19 rfl) (XS.goto X26.here hx rfl (pc0 := 40) (pc' := 44) rfl (D 20 rfl) (by decide) (by decide) q))
  exact own_endS (v := some (.int 1)) X26 e26 hS24 hk24 hh Bd.notSynchronized (own_vn Bd.returns) k (fun _ hr => retN X26 hx (t := .boolean) Bd.returns (by simp) (D 21 rfl) hr) ⟨rfl, N26, KK24⟩ (CR24.trans (own_CP.at own_J X26 hZ (own_EW hw) CH24)) (by decide) (by decide)
theorem own_d40 : own_all prog_120_method_15_code [(0, .iload_n 1, 1), (1, .istore_n 3, 1), (2, .iload_n 3, 1), (3, .aload_n 0, 1), (4, .invokevirtual 21, 3), (7, .if_icmp .ge 19, 3), (10, .aload_n 0, 1), (11, .iload_n 3, 1), (12, .invokevirtual 56, 3), (15, .bipush 91, 2), (17, .if_icmp .ne 9, 3), (26, .iload_n 3, 1), (27, .aload_n 0, 1), (28, .invokevirtual 21, 3), (31, .if_icmp .eq 12, 3), (34, .iload_n 3, 1), (35, .iload_n 1, 1), (36, .isub, 1), (37, .sipush 255, 3), (40, .if_icmp .le 5, 3), (45, .aload_n 0, 1), (46, .iload_n 3, 1), (47, .invokevirtual 56, 3), (50, .istore 4, 2), (52, .ldc 108, 2), (54, .iload 4, 2), (56, .invokevirtual 29, 3), (59, .ifCond .lt 7, 3), (62, .iload_n 3, 1), (63, .iconst 1, 1), (64, .iadd, 1), (65, .ireturn, 1)] := by decide +kernel
theorem own_ef40_12_247 (m : MethodId) (x0 : Addr) : entryFrame m #[(.ref x0), (.int 2), (.int 47)] 6 = mkF m 0 #[ow_r x0, ow_i 2, ow_i 47, .unset, .unset, .unset] [] := by first | (simp [entryFrame, mkF, argsToLocals, Value.category]; done) | rfl
theorem own_pn40 : plainName "com/example/callsite/callsite/model/JvmNames" = true := by first | (simp [plainName, overriddenIn]; done) | decide +kernel
def own_m40_3_Q (Z : State) (a1 : Addr) (r : Int32) (w_COMPACT_STRINGS : Int32) (w_SIOOBE_FORMATTER : Value) (h0 : Heap) (n0 : Nat) (v : Option Value) (h : Heap) (L : List Loc) : Prop := v = some (.int 3) ∧ Fr n0 L ∧ Keep h0 h []
set_option maxRecDepth 65536 in
set_option maxHeartbeats 40000000 in
theorem own_m40_3 (l : Launch) (Z : State) (a0 : Array Value) (hw : ∀ d ∈ tables_1, d.before a0 Z = true) (ws : List Jvm.Cond) (a1 : Addr) (r : Int32) (w_COMPACT_STRINGS : Int32) (w_SIOOBE_FORMATTER : Value) (h0 : Heap) (n0 : Nat) (Z0 : n0 ≤ h0.size) (T_a1 : own_Str Z h0 a1 ([40, 41, r] : List Int32)) (S_COMPACT_STRINGS : Sta Z h0 "java/lang/String" "COMPACT_STRINGS" "Z" (.int w_COMPACT_STRINGS)) (S_SIOOBE_FORMATTER : Sta Z h0 "jdk/internal/util/Preconditions" "SIOOBE_FORMATTER" "Ljava/util/function/BiFunction;" w_SIOOBE_FORMATTER) (hz : ¬ (w_COMPACT_STRINGS = (0 : Int32))) (hrS : w_SIOOBE_FORMATTER.isRef = true) (okr : own_okb r) :
    own_MS l Z own_y40 ws prog_120_method_15_code 6 (some .int) ({ frames := 4, cells := 2, slots := 36, locals := 59 } : Room) #[(.ref a1), (.int 2), (.int 47)] h0 (own_CP Z consts_1 own_J) (own_m40_3_Q Z a1 r w_COMPACT_STRINGS w_SIOOBE_FORMATTER h0 n0) := by
  refine own_goS own_CP.refl "com/example/callsite/callsite/model/JvmNames" rfl (plainFor_of_name own_pn40) (fun m => own_ef40_12_247 m a1) own_d40 n0 fun p e s m below meth c s₁ A0 Bd hx D hml hown hnm X0 hZ e0 N0 hh CH0 hS0 hk0 CR0 k => ?_
  replace k : ow s₁ (mkF m 3 #[ow_r a1, ow_i 2, ow_i 47, ow_i 2, .unset, .unset] [(.int 2)]) := fun t q => k t (XS.iloadN X0.here hx rfl (D 0 rfl) rfl (XS.istoreN X0.here hx rfl (D 1 rfl) rfl (l' := #[ow_r a1, ow_i 2, ow_i 47, ow_i 2, .unset, .unset]) rfl (XS.iloadN X0.here hx rfl (D 2 rfl) rfl q)))
  obtain ⟨bo21, ko21, Eo21, Vo21, Co21, Ao21⟩ := own_Str.open_ T_a1
  have Ao21 : Arv Z h0 bo21 ko21 .byte (3 : Int32) [(.int 40), (.int 41), (.int (r.toInt8.toInt32))] (.int 0) := Ao21
  replace k : ow s₁ (mkF m 4 #[ow_r a1, ow_i 2, ow_i 47, ow_i 2, .unset, .unset] [(.ref a1), (.int 2)]) := fun t q => k t (XS.aloadN X0.here hx rfl (D 3 rfl) rfl rfl q)
  obtain ⟨_, T22, L22, X22, hQ22, k⟩ := own_cV X0 hx hw hZ hown e0 k (own_m22 l Z a0 hw [] a1 ([40, 41, (r.toInt8.toInt32)] : List Int32) bo21 ko21 w_COMPACT_STRINGS h0 n0 Z0 Vo21 Ao21 S_COMPACT_STRINGS Co21 Eo21 hz) 147 99 101 100 102 9 rfl rfl rfl rfl rfl rfl Eo21 (by decide) rfl (by rw [hml]; rfl) [] [(.int 2)] (lenOf own_pd5 rfl) rfl rfl (W := 1) own_le (D 4 rfl) (by decide) (by decide) (by decide) (by decide)
  rw [show own_f22 ([40, 41, (r.toInt8.toInt32)] : List Int32) = (3 : Int32) from rfl] at hQ22
  obtain ⟨rfl, N22q, e22⟩ := hQ22
  have N22 := Fr.app N0 N22q
  replace k : ow T22 (mkF m 10 #[ow_r a1, ow_i 2, ow_i 47, ow_i 2, .unset, .unset] []) := fun t q => k t (XS.icmpNo X22.here hx rfl (D 5 rfl) rfl (tlt (show (2 : Int32) < (3 : Int32) from (by decide))).2.1 q)
  replace k : ow T22 (mkF m 12 #[ow_r a1, ow_i 2, ow_i 47, ow_i 2, .unset, .unset] [(.int 2), (.ref a1)]) := fun t q => k t (XS.aloadN X22.here hx rfl (D 6 rfl) rfl rfl (XS.iloadN X22.here hx rfl (D 7 rfl) rfl q))
  obtain ⟨T23, X23, e23, k⟩ := own_cCh X22 hx hw hZ hown e22 k T_a1 S_COMPACT_STRINGS hz S_SIOOBE_FORMATTER hrS 2 (2 : Int32) (Nat.le_of_ble_eq_true rfl) (by decide) 145 50 52 51 8 rfl rfl rfl rfl rfl rfl rfl (by rw [hml]; rfl) [] rfl (W := 0) own_le (D 8 rfl) (by decide) (by decide) (by decide) (by decide)
  replace k : ow T23 (mkF m 26 #[ow_r a1, ow_i 2, ow_i 47, ow_i 2, .unset, .unset] []) := fun t q => k t (XS.bipush X23.here hx rfl (D 9 rfl) (XS.icmpYes X23.here hx rfl (pc0 := 17) (pc' := 26) rfl (D 10 rfl) rfl (feq (show ¬ (r = (91 : Int32)) from okr.ne.2.2.1)).2 (by decide) (by decide) q))
  replace k : ow T23 (mkF m 28 #[ow_r a1, ow_i 2, ow_i 47, ow_i 2, .unset, .unset] [(.ref a1), (.int 2)]) := fun t q => k t (XS.iloadN X23.here hx rfl (D 11 rfl) rfl (XS.aloadN X23.here hx rfl (D 12 rfl) rfl rfl q))
  obtain ⟨_, T24, L24, X24, hQ24, k⟩ := own_cV X23 hx hw hZ hown e23 k (own_m22 l Z a0 hw [] a1 ([40, 41, (r.toInt8.toInt32)] : List Int32) bo21 ko21 w_COMPACT_STRINGS h0 n0 Z0 Vo21 Ao21 S_COMPACT_STRINGS Co21 Eo21 hz) 147 99 101 100 102 9 rfl rfl rfl rfl rfl rfl Eo21 (by decide) rfl (by rw [hml]; rfl) [] [(.int 2)] (lenOf own_pd5 rfl) rfl rfl (W := 1) own_le (D 13 rfl) (by decide) (by decide) (by decide) (by decide)
  rw [show own_f22 ([40, 41, (r.toInt8.toInt32)] : List Int32) = (3 : Int32) from rfl] at hQ24
  obtain ⟨rfl, N24q, e24⟩ := hQ24
  have N24 := Fr.app N22 N24q
  replace k : ow T24 (mkF m 34 #[ow_r a1, ow_i 2, ow_i 47, ow_i 2, .unset, .unset] []) := fun t q => k t (XS.icmpNo X24.here hx rfl (D 14 rfl) rfl (feq (show ¬ ((2 : Int32) = (3 : Int32)) from (by decide))).1 q)
  replace k : ow T24 (mkF m 36 #[ow_r a1, ow_i 2, ow_i 47, ow_i 2, .unset, .unset] [(.int 2), (.int 2)]) := fun t q => k t (XS.iloadN X24.here hx rfl (D 15 rfl) rfl (XS.iloadN X24.here hx rfl (D 16 rfl) rfl q))
  replace k : ow T24 (mkF m 37 #[ow_r a1, ow_i 2, ow_i 47, ow_i 2, .unset, .unset] [(.int 0)]) := fun t q => k t (XS.isub X24.here hx rfl (D 17 rfl) rfl (by rw [show ((2 : Int32) - (2 : Int32)) = (0 : Int32) from by decide]; exact q))
  replace k : ow T24 (mkF m 45 #[ow_r a1, ow_i 2, ow_i 47, ow_i 2, .unset, .unset] []) := fun t q => k t (XS.sipush X24.here hx rfl (D 18 rfl) (XS.icmpYes X24.here hx rfl (pc0 := 40) (pc' := 45) rfl (D 19 rfl) rfl (flt (show ¬ ((255 : Int32) < (0 : Int32)) from (by decide))).2.2.2 (by decide) (by decide) q))
  replace k : ow T24 (mkF m 47 #[ow_r a1, ow_i 2, ow_i 47, ow_i 2, .unset, .unset] [(.int 2), (.ref a1)]) := fun t q => k t (XS.aloadN X24.here hx rfl (D 20 rfl) rfl rfl (XS.iloadN X24.here hx rfl (D 21 rfl) rfl q))
  obtain ⟨T25, X25, e25, k⟩ := own_cCh X24 hx hw hZ hown e24 k T_a1 S_COMPACT_STRINGS hz S_SIOOBE_FORMATTER hrS 2 (2 : Int32) (Nat.le_of_ble_eq_true rfl) (by decide) 145 50 52 51 8 rfl rfl rfl rfl rfl rfl rfl (by rw [hml]; rfl) [] rfl (W := 0) own_le (D 22 rfl) (by decide) (by decide) (by decide) (by decide)
  obtain ⟨a26, T26, h26, k126, bs26, kc26, X26, e26, E26, hS26, hk26, hZ, hown, EX26, FC26, FV26, AV26, la26, lb26, CU26, LT26, SX26, st26⟩ := own_ldc X25 hx hZ hown (own_h hw 174 rfl) (own_wS hw) e25 hS0 hk0 (own_EW hw) (List.mem_of_getElem? (i := 8) rfl) (EJ := own_J) (List.mem_of_getElem? (i := 8) rfl) CH0 (vs := [(.int 66), (.int 67), (.int 68), (.int 70), (.int 73), (.int 74), (.int 83), (.int 90)]) (z := (8 : Int32)) ⟨by decide, by decide⟩ (by decide) (by decide) (g := (mkF m 52 #[ow_r a1, ow_i 2, ow_i 47, ow_i 2, ow_i r, .unset] [])) rfl (D 24 rfl) (n := 32) (by decide) (by decide) (by decide) (by decide)
  have Z26 : n0 ≤ h26.size := Nat.le_trans Z0 E26.1
  have K26 : Keep h0 h26 [] := (Keep.refl h0 []).ext E26
  have CR26 := CR0.trans CU26
  have CH26 := CU26.1
  replace k : ow T26 (mkF m 54 #[ow_r a1, ow_i 2, ow_i 47, ow_i 2, ow_i r, .unset] [(.ref a26)]) := fun t q => k t (XS.istore X25.here hx rfl (D 23 rfl) rfl (l' := #[ow_r a1, ow_i 2, ow_i 47, ow_i 2, ow_i r, .unset]) rfl (st26 t q))
  clear st26
  replace k : ow T26 (mkF m 56 #[ow_r a1, ow_i 2, ow_i 47, ow_i 2, ow_i r, .unset] [(.int r), (.ref a26)]) := fun t q => k t (XS.iload X26.here hx rfl (D 25 rfl) rfl q)
  obtain ⟨_, T27, L27, X27, hQ27, k⟩ := own_cV X26 hx hw hZ hown e26 k (own_m26 l Z a0 hw [] a26 r ([66, 67, 68, 70, 73, 74, 83, 90] : List Int32) w_COMPACT_STRINGS bs26 kc26 h26 n0 Z26 (S_COMPACT_STRINGS.ext E26) FC26 EX26 FV26 AV26 hz okr.rng.1 okr.rng.2 (by first | assumption | exact Nat.le_of_ble_eq_true rfl | rfl | omega | decide) (by first | assumption | exact Nat.le_of_ble_eq_true rfl | rfl | omega | decide)) 115 116 118 117 119 9 rfl rfl rfl rfl rfl rfl EX26 (by decide) rfl (by rw [hml]; rfl) [(.int r)] [] (lenOf own_pd8 rfl) rfl rfl (W := 0) own_le (D 26 rfl) (by decide) (by decide) (by decide) (by decide)
  obtain ⟨rfl, N27q, e27⟩ := hQ27
  have N27 := Fr.app N24 N27q
  replace k : ow T27 (mkF m 62 #[ow_r a1, ow_i 2, ow_i 47, ow_i 2, ow_i r, .unset] []) := fun t q => k t (XS.ifNo X27.here hx rfl (D 27 rfl) rfl ((if0 _ _).trans (flt (show ¬ ((own_ix1 r ([66, 67, 68, 70, 73, 74, 83, 90] : List Int32)) < (0 : Int32)) from (own_ix8 okr))).1) q)
  replace k : ow T27 (mkF m 64 #[ow_r a1, ow_i 2, ow_i 47, ow_i 2, ow_i r, .unset] [(.int 1), (.int 2)]) := fun t q => k t (XS.iloadN X27.here hx rfl (D 28 rfl) rfl (XS.iconst X27.here hx rfl (D 29 rfl) q))
  replace k : ow T27 (mkF m 65 #[ow_r a1, ow_i 2, ow_i 47, ow_i 2, ow_i r, .unset] [(.int 3)]) := fun t q => k t (XS.iadd X27.here hx rfl (D 30 rfl) rfl (by rw [show ((2 : Int32) + (1 : Int32)) = (3 : Int32) from by decide]; exact q))
  exact own_endS (v := some (.int 3)) X27 e27 hS26 hk26 hh Bd.notSynchronized (own_vn Bd.returns) k (fun _ hr => retI X27 hx Bd.returns (D 31 rfl) hr) ⟨rfl, N27, K26⟩ (CR26.trans (own_CP.at own_J X27 hZ (own_EW hw) CH26)) (by decide) (by decide)
theorem own_ef40_11_247 (m : MethodId) (x0 : Addr) : entryFrame m #[(.ref x0), (.int 1), (.int 47)] 6 = mkF m 0 #[ow_r x0, ow_i 1, ow_i 47, .unset, .unset, .unset] [] := by first | (simp [entryFrame, mkF, argsToLocals, Value.category]; done) | rfl
def own_m40_4a_Q (Z : State) (a1 : Addr) (b : Int32) (r : Int32) (w_COMPACT_STRINGS : Int32) (w_SIOOBE_FORMATTER : Value) (h0 : Heap) (n0 : Nat) (v : Option Value) (h : Heap) (L : List Loc) : Prop := v = some (.int 2) ∧ Fr n0 L ∧ Keep h0 h []
set_option maxRecDepth 65536 in
set_option maxHeartbeats 40000000 in
theorem own_m40_4a (l : Launch) (Z : State) (a0 : Array Value) (hw : ∀ d ∈ tables_1, d.before a0 Z = true) (ws : List Jvm.Cond) (a1 : Addr) (b : Int32) (r : Int32) (w_COMPACT_STRINGS : Int32) (w_SIOOBE_FORMATTER : Value) (h0 : Heap) (n0 : Nat) (Z0 : n0 ≤ h0.size) (T_a1 : own_Str Z h0 a1 ([40, b, 41, r] : List Int32)) (S_COMPACT_STRINGS : Sta Z h0 "java/lang/String" "COMPACT_STRINGS" "Z" (.int w_COMPACT_STRINGS)) (S_SIOOBE_FORMATTER : Sta Z h0 "jdk/internal/util/Preconditions" "SIOOBE_FORMATTER" "Ljava/util/function/BiFunction;" w_SIOOBE_FORMATTER) (hz : ¬ (w_COMPACT_STRINGS = (0 : Int32))) (hrS : w_SIOOBE_FORMATTER.isRef = true) (okb : own_okb b) :
    own_MS l Z own_y40 ws prog_120_method_15_code 6 (some .int) ({ frames := 4, cells := 2, slots := 36, locals := 59 } : Room) #[(.ref a1), (.int 1), (.int 47)] h0 (own_CP Z consts_1 own_J) (own_m40_4a_Q Z a1 b r w_COMPACT_STRINGS w_SIOOBE_FORMATTER h0 n0) := by
  refine own_goS own_CP.refl "com/example/callsite/callsite/model/JvmNames" rfl (plainFor_of_name own_pn40) (fun m => own_ef40_11_247 m a1) own_d40 n0 fun p e s m below meth c s₁ A0 Bd hx D hml hown hnm X0 hZ e0 N0 hh CH0 hS0 hk0 CR0 k => ?_
  replace k : ow s₁ (mkF m 3 #[ow_r a1, ow_i 1, ow_i 47, ow_i 1, .unset, .unset] [(.int 1)]) := fun t q => k t (XS.iloadN X0.here hx rfl (D 0 rfl) rfl (XS.istoreN X0.here hx rfl (D 1 rfl) rfl (l' := #[ow_r a1, ow_i 1, ow_i 47, ow_i 1, .unset, .unset]) rfl (XS.iloadN X0.here hx rfl (D 2 rfl) rfl q)))
  obtain ⟨bo21, ko21, Eo21, Vo21, Co21, Ao21⟩ := own_Str.open_ T_a1
  have Ao21 : Arv Z h0 bo21 ko21 .byte (4 : Int32) [(.int 40), (.int (b.toInt8.toInt32)), (.int 41), (.int (r.toInt8.toInt32))] (.int 0) := Ao21
  replace k : ow s₁ (mkF m 4 #[ow_r a1, ow_i 1, ow_i 47, ow_i 1, .unset, .unset] [(.ref a1), (.int 1)]) := fun t q => k t (XS.aloadN X0.here hx rfl (D 3 rfl) rfl rfl q)
  obtain ⟨_, T22, L22, X22, hQ22, k⟩ := own_cV X0 hx hw hZ hown e0 k (own_m22 l Z a0 hw [] a1 ([40, (b.toInt8.toInt32), 41, (r.toInt8.toInt32)] : List Int32) bo21 ko21 w_COMPACT_STRINGS h0 n0 Z0 Vo21 Ao21 S_COMPACT_STRINGS Co21 Eo21 hz) 147 99 101 100 102 9 rfl rfl rfl rfl rfl rfl Eo21 (by decide) rfl (by rw [hml]; rfl) [] [(.int 1)] (lenOf own_pd5 rfl) rfl rfl (W := 1) own_le (D 4 rfl) (by decide) (by decide) (by decide) (by decide)
  rw [show own_f22 ([40, (b.toInt8.toInt32), 41, (r.toInt8.toInt32)] : List Int32) = (4 : Int32) from rfl] at hQ22
  obtain ⟨rfl, N22q, e22⟩ := hQ22
  have N22 := Fr.app N0 N22q
  replace k : ow T22 (mkF m 10 #[ow_r a1, ow_i 1, ow_i 47, ow_i 1, .unset, .unset] []) := fun t q => k t (XS.icmpNo X22.here hx rfl (D 5 rfl) rfl (tlt (show (1 : Int32) < (4 : Int32) from (by decide))).2.1 q)
  replace k : ow T22 (mkF m 12 #[ow_r a1, ow_i 1, ow_i 47, ow_i 1, .unset, .unset] [(.int 1), (.ref a1)]) := fun t q => k t (XS.aloadN X22.here hx rfl (D 6 rfl) rfl rfl (XS.iloadN X22.here hx rfl (D 7 rfl) rfl q))
  obtain ⟨T23, X23, e23, k⟩ := own_cCh X22 hx hw hZ hown e22 k T_a1 S_COMPACT_STRINGS hz S_SIOOBE_FORMATTER hrS 1 (1 : Int32) (Nat.le_of_ble_eq_true rfl) (by decide) 145 50 52 51 8 rfl rfl rfl rfl rfl rfl rfl (by rw [hml]; rfl) [] rfl (W := 0) own_le (D 8 rfl) (by decide) (by decide) (by decide) (by decide)
  replace k : ow T23 (mkF m 26 #[ow_r a1, ow_i 1, ow_i 47, ow_i 1, .unset, .unset] []) := fun t q => k t (XS.bipush X23.here hx rfl (D 9 rfl) (XS.icmpYes X23.here hx rfl (pc0 := 17) (pc' := 26) rfl (D 10 rfl) rfl (feq (show ¬ (b = (91 : Int32)) from okb.ne.2.2.1)).2 (by decide) (by decide) q))
  replace k : ow T23 (mkF m 28 #[ow_r a1, ow_i 1, ow_i 47, ow_i 1, .unset, .unset] [(.ref a1), (.int 1)]) := fun t q => k t (XS.iloadN X23.here hx rfl (D 11 rfl) rfl (XS.aloadN X23.here hx rfl (D 12 rfl) rfl rfl q))
  obtain ⟨_, T24, L24, X24, hQ24, k⟩ := own_cV X23 hx hw hZ hown e23 k (own_m22 l Z a0 hw [] a1 ([40, (b.toInt8.toInt32), 41, (r.toInt8.toInt32)] : List Int32) bo21 ko21 w_COMPACT_STRINGS h0 n0 Z0 Vo21 Ao21 S_COMPACT_STRINGS Co21 Eo21 hz) 147 99 101 100 102 9 rfl rfl rfl rfl rfl rfl Eo21 (by decide) rfl (by rw [hml]; rfl) [] [(.int 1)] (lenOf own_pd5 rfl) rfl rfl (W := 1) own_le (D 13 rfl) (by decide) (by decide) (by decide) (by decide)
  rw [show own_f22 ([40, (b.toInt8.toInt32), 41, (r.toInt8.toInt32)] : List Int32) = (4 : Int32) from rfl] at hQ24
  obtain ⟨rfl, N24q, e24⟩ := hQ24
  have N24 := Fr.app N22 N24q
  replace k : ow T24 (mkF m 34 #[ow_r a1, ow_i 1, ow_i 47, ow_i 1, .unset, .unset] []) := fun t q => k t (XS.icmpNo X24.here hx rfl (D 14 rfl) rfl (feq (show ¬ ((1 : Int32) = (4 : Int32)) from (by decide))).1 q)
  replace k : ow T24 (mkF m 36 #[ow_r a1, ow_i 1, ow_i 47, ow_i 1, .unset, .unset] [(.int 1), (.int 1)]) := fun t q => k t (XS.iloadN X24.here hx rfl (D 15 rfl) rfl (XS.iloadN X24.here hx rfl (D 16 rfl) rfl q))
  replace k : ow T24 (mkF m 37 #[ow_r a1, ow_i 1, ow_i 47, ow_i 1, .unset, .unset] [(.int 0)]) := fun t q => k t (XS.isub X24.here hx rfl (D 17 rfl) rfl (by rw [show ((1 : Int32) - (1 : Int32)) = (0 : Int32) from by decide]; exact q))
  replace k : ow T24 (mkF m 45 #[ow_r a1, ow_i 1, ow_i 47, ow_i 1, .unset, .unset] []) := fun t q => k t (XS.sipush X24.here hx rfl (D 18 rfl) (XS.icmpYes X24.here hx rfl (pc0 := 40) (pc' := 45) rfl (D 19 rfl) rfl (flt (show ¬ ((255 : Int32) < (0 : Int32)) from (by decide))).2.2.2 (by decide) (by decide) q))
  replace k : ow T24 (mkF m 47 #[ow_r a1, ow_i 1, ow_i 47, ow_i 1, .unset, .unset] [(.int 1), (.ref a1)]) := fun t q => k t (XS.aloadN X24.here hx rfl (D 20 rfl) rfl rfl (XS.iloadN X24.here hx rfl (D 21 rfl) rfl q))
  obtain ⟨T25, X25, e25, k⟩ := own_cCh X24 hx hw hZ hown e24 k T_a1 S_COMPACT_STRINGS hz S_SIOOBE_FORMATTER hrS 1 (1 : Int32) (Nat.le_of_ble_eq_true rfl) (by decide) 145 50 52 51 8 rfl rfl rfl rfl rfl rfl rfl (by rw [hml]; rfl) [] rfl (W := 0) own_le (D 22 rfl) (by decide) (by decide) (by decide) (by decide)
  obtain ⟨a26, T26, h26, k126, bs26, kc26, X26, e26, E26, hS26, hk26, hZ, hown, EX26, FC26, FV26, AV26, la26, lb26, CU26, LT26, SX26, st26⟩ := own_ldc X25 hx hZ hown (own_h hw 174 rfl) (own_wS hw) e25 hS0 hk0 (own_EW hw) (List.mem_of_getElem? (i := 8) rfl) (EJ := own_J) (List.mem_of_getElem? (i := 8) rfl) CH0 (vs := [(.int 66), (.int 67), (.int 68), (.int 70), (.int 73), (.int 74), (.int 83), (.int 90)]) (z := (8 : Int32)) ⟨by decide, by decide⟩ (by decide) (by decide) (g := (mkF m 52 #[ow_r a1, ow_i 1, ow_i 47, ow_i 1, ow_i b, .unset] [])) rfl (D 24 rfl) (n := 32) (by decide) (by decide) (by decide) (by decide)
  have Z26 : n0 ≤ h26.size := Nat.le_trans Z0 E26.1
  have K26 : Keep h0 h26 [] := (Keep.refl h0 []).ext E26
  have CR26 := CR0.trans CU26
  have CH26 := CU26.1
  replace k : ow T26 (mkF m 54 #[ow_r a1, ow_i 1, ow_i 47, ow_i 1, ow_i b, .unset] [(.ref a26)]) := fun t q => k t (XS.istore X25.here hx rfl (D 23 rfl) rfl (l' := #[ow_r a1, ow_i 1, ow_i 47, ow_i 1, ow_i b, .unset]) rfl (st26 t q))
  clear st26
  replace k : ow T26 (mkF m 56 #[ow_r a1, ow_i 1, ow_i 47, ow_i 1, ow_i b, .unset] [(.int b), (.ref a26)]) := fun t q => k t (XS.iload X26.here hx rfl (D 25 rfl) rfl q)
  obtain ⟨_, T27, L27, X27, hQ27, k⟩ := own_cV X26 hx hw hZ hown e26 k (own_m26 l Z a0 hw [] a26 b ([66, 67, 68, 70, 73, 74, 83, 90] : List Int32) w_COMPACT_STRINGS bs26 kc26 h26 n0 Z26 (S_COMPACT_STRINGS.ext E26) FC26 EX26 FV26 AV26 hz okb.rng.1 okb.rng.2 (by first | assumption | exact Nat.le_of_ble_eq_true rfl | rfl | omega | decide) (by first | assumption | exact Nat.le_of_ble_eq_true rfl | rfl | omega | decide)) 115 116 118 117 119 9 rfl rfl rfl rfl rfl rfl EX26 (by decide) rfl (by rw [hml]; rfl) [(.int b)] [] (lenOf own_pd8 rfl) rfl rfl (W := 0) own_le (D 26 rfl) (by decide) (by decide) (by decide) (by decide)
  obtain ⟨rfl, N27q, e27⟩ := hQ27
  have N27 := Fr.app N24 N27q
  replace k : ow T27 (mkF m 62 #[ow_r a1, ow_i 1, ow_i 47, ow_i 1, ow_i b, .unset] []) := fun t q => k t (XS.ifNo X27.here hx rfl (D 27 rfl) rfl ((if0 _ _).trans (flt (show ¬ ((own_ix1 b ([66, 67, 68, 70, 73, 74, 83, 90] : List Int32)) < (0 : Int32)) from (own_ix8 okb))).1) q)
  replace k : ow T27 (mkF m 64 #[ow_r a1, ow_i 1, ow_i 47, ow_i 1, ow_i b, .unset] [(.int 1), (.int 1)]) := fun t q => k t (XS.iloadN X27.here hx rfl (D 28 rfl) rfl (XS.iconst X27.here hx rfl (D 29 rfl) q))
  replace k : ow T27 (mkF m 65 #[ow_r a1, ow_i 1, ow_i 47, ow_i 1, ow_i b, .unset] [(.int 2)]) := fun t q => k t (XS.iadd X27.here hx rfl (D 30 rfl) rfl (by rw [show ((1 : Int32) + (1 : Int32)) = (2 : Int32) from by decide]; exact q))
  exact own_endS (v := some (.int 2)) X27 e27 hS26 hk26 hh Bd.notSynchronized (own_vn Bd.returns) k (fun _ hr => retI X27 hx Bd.returns (D 31 rfl) hr) ⟨rfl, N27, K26⟩ (CR26.trans (own_CP.at own_J X27 hZ (own_EW hw) CH26)) (by decide) (by decide)
theorem own_ef40_13_247 (m : MethodId) (x0 : Addr) : entryFrame m #[(.ref x0), (.int 3), (.int 47)] 6 = mkF m 0 #[ow_r x0, ow_i 3, ow_i 47, .unset, .unset, .unset] [] := by first | (simp [entryFrame, mkF, argsToLocals, Value.category]; done) | rfl
def own_m40_4b_Q (Z : State) (a1 : Addr) (b : Int32) (r : Int32) (w_COMPACT_STRINGS : Int32) (w_SIOOBE_FORMATTER : Value) (h0 : Heap) (n0 : Nat) (v : Option Value) (h : Heap) (L : List Loc) : Prop := v = some (.int 4) ∧ Fr n0 L ∧ Keep h0 h []
set_option maxRecDepth 65536 in
set_option maxHeartbeats 40000000 in
theorem own_m40_4b (l : Launch) (Z : State) (a0 : Array Value) (hw : ∀ d ∈ tables_1, d.before a0 Z = true) (ws : List Jvm.Cond) (a1 : Addr) (b : Int32) (r : Int32) (w_COMPACT_STRINGS : Int32) (w_SIOOBE_FORMATTER : Value) (h0 : Heap) (n0 : Nat) (Z0 : n0 ≤ h0.size) (T_a1 : own_Str Z h0 a1 ([40, b, 41, r] : List Int32)) (S_COMPACT_STRINGS : Sta Z h0 "java/lang/String" "COMPACT_STRINGS" "Z" (.int w_COMPACT_STRINGS)) (S_SIOOBE_FORMATTER : Sta Z h0 "jdk/internal/util/Preconditions" "SIOOBE_FORMATTER" "Ljava/util/function/BiFunction;" w_SIOOBE_FORMATTER) (hz : ¬ (w_COMPACT_STRINGS = (0 : Int32))) (hrS : w_SIOOBE_FORMATTER.isRef = true) (okr : own_okb r) :
    own_MS l Z own_y40 ws prog_120_method_15_code 6 (some .int) ({ frames := 4, cells := 2, slots := 36, locals := 59 } : Room) #[(.ref a1), (.int 3), (.int 47)] h0 (own_CP Z consts_1 own_J) (own_m40_4b_Q Z a1 b r w_COMPACT_STRINGS w_SIOOBE_FORMATTER h0 n0) := by
  refine own_goS own_CP.refl "com/example/callsite/callsite/model/JvmNames" rfl (plainFor_of_name own_pn40) (fun m => own_ef40_13_247 m a1) own_d40 n0 fun p e s m below meth c s₁ A0 Bd hx D hml hown hnm X0 hZ e0 N0 hh CH0 hS0 hk0 CR0 k => ?_
  replace k : ow s₁ (mkF m 3 #[ow_r a1, ow_i 3, ow_i 47, ow_i 3, .unset, .unset] [(.int 3)]) := fun t q => k t (XS.iloadN X0.here hx rfl (D 0 rfl) rfl (XS.istoreN X0.here hx rfl (D 1 rfl) rfl (l' := #[ow_r a1, ow_i 3, ow_i 47, ow_i 3, .unset, .unset]) rfl (XS.iloadN X0.here hx rfl (D 2 rfl) rfl q)))
  obtain ⟨bo21, ko21, Eo21, Vo21, Co21, Ao21⟩ := own_Str.open_ T_a1
  have Ao21 : Arv Z h0 bo21 ko21 .byte (4 : Int32) [(.int 40), (.int (b.toInt8.toInt32)), (.int 41), (.int (r.toInt8.toInt32))] (.int 0) := Ao21
  replace k : ow s₁ (mkF m 4 #[ow_r a1, ow_i 3, ow_i 47, ow_i 3, .unset, .unset] [(.ref a1), (.int 3)]) := fun t q => k t (XS.aloadN X0.here hx rfl (D 3 rfl) rfl rfl q)
  obtain ⟨_, T22, L22, X22, hQ22, k⟩ := own_cV X0 hx hw hZ hown e0 k (own_m22 l Z a0 hw [] a1 ([40, (b.toInt8.toInt32), 41, (r.toInt8.toInt32)] : List Int32) bo21 ko21 w_COMPACT_STRINGS h0 n0 Z0 Vo21 Ao21 S_COMPACT_STRINGS Co21 Eo21 hz) 147 99 101 100 102 9 rfl rfl rfl rfl rfl rfl Eo21 (by decide) rfl (by rw [hml]; rfl) [] [(.int 3)] (lenOf own_pd5 rfl) rfl rfl (W := 1) own_le (D 4 rfl) (by decide) (by decide) (by decide) (by decide)
  rw [show own_f22 ([40, (b.toInt8.toInt32), 41, (r.toInt8.toInt32)] : List Int32) = (4 : Int32) from rfl] at hQ22
  obtain ⟨rfl, N22q, e22⟩ := hQ22
  have N22 := Fr.app N0 N22q
  replace k : ow T22 (mkF m 10 #[ow_r a1, ow_i 3, ow_i 47, ow_i 3, .unset, .unset] []) := fun t q => k t (XS.icmpNo X22.here hx rfl (D 5 rfl) rfl (tlt (show (3 : Int32) < (4 : Int32) from (by decide))).2.1 q)
  replace k : ow T22 (mkF m 12 #[ow_r a1, ow_i 3, ow_i 47, ow_i 3, .unset, .unset] [(.int 3), (.ref a1)]) := fun t q => k t (XS.aloadN X22.here hx rfl (D 6 rfl) rfl rfl (XS.iloadN X22.here hx rfl (D 7 rfl) rfl q))
  obtain ⟨T23, X23, e23, k⟩ := own_cCh X22 hx hw hZ hown e22 k T_a1 S_COMPACT_STRINGS hz S_SIOOBE_FORMATTER hrS 3 (3 : Int32) (Nat.le_of_ble_eq_true rfl) (by decide) 145 50 52 51 8 rfl rfl rfl rfl rfl rfl rfl (by rw [hml]; rfl) [] rfl (W := 0) own_le (D 8 rfl) (by decide) (by decide) (by decide) (by decide)
  replace k : ow T23 (mkF m 26 #[ow_r a1, ow_i 3, ow_i 47, ow_i 3, .unset, .unset] []) := fun t q => k t (XS.bipush X23.here hx rfl (D 9 rfl) (XS.icmpYes X23.here hx rfl (pc0 := 17) (pc' := 26) rfl (D 10 rfl) rfl (feq (show ¬ (r = (91 : Int32)) from okr.ne.2.2.1)).2 (by decide) (by decide) q))
  replace k : ow T23 (mkF m 28 #[ow_r a1, ow_i 3, ow_i 47, ow_i 3, .unset, .unset] [(.ref a1), (.int 3)]) := fun t q => k t (XS.iloadN X23.here hx rfl (D 11 rfl) rfl (XS.aloadN X23.here hx rfl (D 12 rfl) rfl rfl q))
  obtain ⟨_, T24, L24, X24, hQ24, k⟩ := own_cV X23 hx hw hZ hown e23 k (own_m22 l Z a0 hw [] a1 ([40, (b.toInt8.toInt32), 41, (r.toInt8.toInt32)] : List Int32) bo21 ko21 w_COMPACT_STRINGS h0 n0 Z0 Vo21 Ao21 S_COMPACT_STRINGS Co21 Eo21 hz) 147 99 101 100 102 9 rfl rfl rfl rfl rfl rfl Eo21 (by decide) rfl (by rw [hml]; rfl) [] [(.int 3)] (lenOf own_pd5 rfl) rfl rfl (W := 1) own_le (D 13 rfl) (by decide) (by decide) (by decide) (by decide)
  rw [show own_f22 ([40, (b.toInt8.toInt32), 41, (r.toInt8.toInt32)] : List Int32) = (4 : Int32) from rfl] at hQ24
  obtain ⟨rfl, N24q, e24⟩ := hQ24
  have N24 := Fr.app N22 N24q
  replace k : ow T24 (mkF m 34 #[ow_r a1, ow_i 3, ow_i 47, ow_i 3, .unset, .unset] []) := fun t q => k t (XS.icmpNo X24.here hx rfl (D 14 rfl) rfl (feq (show ¬ ((3 : Int32) = (4 : Int32)) from (by decide))).1 q)
  replace k : ow T24 (mkF m 36 #[ow_r a1, ow_i 3, ow_i 47, ow_i 3, .unset, .unset] [(.int 3), (.int 3)]) := fun t q => k t (XS.iloadN X24.here hx rfl (D 15 rfl) rfl (XS.iloadN X24.here hx rfl (D 16 rfl) rfl q))
  replace k : ow T24 (mkF m 37 #[ow_r a1, ow_i 3, ow_i 47, ow_i 3, .unset, .unset] [(.int 0)]) := fun t q => k t (XS.isub X24.here hx rfl (D 17 rfl) rfl (by rw [show ((3 : Int32) - (3 : Int32)) = (0 : Int32) from by decide]; exact q))
  replace k : ow T24 (mkF m 45 #[ow_r a1, ow_i 3, ow_i 47, ow_i 3, .unset, .unset] []) := fun t q => k t (XS.sipush X24.here hx rfl (D 18 rfl) (XS.icmpYes X24.here hx rfl (pc0 := 40) (pc' := 45) rfl (D 19 rfl) rfl (flt (show ¬ ((255 : Int32) < (0 : Int32)) from (by decide))).2.2.2 (by decide) (by decide) q))
  replace k : ow T24 (mkF m 47 #[ow_r a1, ow_i 3, ow_i 47, ow_i 3, .unset, .unset] [(.int 3), (.ref a1)]) := fun t q => k t (XS.aloadN X24.here hx rfl (D 20 rfl) rfl rfl (XS.iloadN X24.here hx rfl (D 21 rfl) rfl q))
  obtain ⟨T25, X25, e25, k⟩ := own_cCh X24 hx hw hZ hown e24 k T_a1 S_COMPACT_STRINGS hz S_SIOOBE_FORMATTER hrS 3 (3 : Int32) (Nat.le_of_ble_eq_true rfl) (by decide) 145 50 52 51 8 rfl rfl rfl rfl rfl rfl rfl (by rw [hml]; rfl) [] rfl (W := 0) own_le (D 22 rfl) (by decide) (by decide) (by decide) (by decide)
  obtain ⟨a26, T26, h26, k126, bs26, kc26, X26, e26, E26, hS26, hk26, hZ, hown, EX26, FC26, FV26, AV26, la26, lb26, CU26, LT26, SX26, st26⟩ := own_ldc X25 hx hZ hown (own_h hw 174 rfl) (own_wS hw) e25 hS0 hk0 (own_EW hw) (List.mem_of_getElem? (i := 8) rfl) (EJ := own_J) (List.mem_of_getElem? (i := 8) rfl) CH0 (vs := [(.int 66), (.int 67), (.int 68), (.int 70), (.int 73), (.int 74), (.int 83), (.int 90)]) (z := (8 : Int32)) ⟨by decide, by decide⟩ (by decide) (by decide) (g := (mkF m 52 #[ow_r a1, ow_i 3, ow_i 47, ow_i 3, ow_i r, .unset] [])) rfl (D 24 rfl) (n := 32) (by decide) (by decide) (by decide) (by decide)
  have Z26 : n0 ≤ h26.size := Nat.le_trans Z0 E26.1
  have K26 : Keep h0 h26 [] := (Keep.refl h0 []).ext E26
  have CR26 := CR0.trans CU26
  have CH26 := CU26.1
  replace k : ow T26 (mkF m 54 #[ow_r a1, ow_i 3, ow_i 47, ow_i 3, ow_i r, .unset] [(.ref a26)]) := fun t q => k t (XS.istore X25.here hx rfl (D 23 rfl) rfl (l' := #[ow_r a1, ow_i 3, ow_i 47, ow_i 3, ow_i r, .unset]) rfl (st26 t q))
  clear st26
  replace k : ow T26 (mkF m 56 #[ow_r a1, ow_i 3, ow_i 47, ow_i 3, ow_i r, .unset] [(.int r), (.ref a26)]) := fun t q => k t (XS.iload X26.here hx rfl (D 25 rfl) rfl q)
  obtain ⟨_, T27, L27, X27, hQ27, k⟩ := own_cV X26 hx hw hZ hown e26 k (own_m26 l Z a0 hw [] a26 r ([66, 67, 68, 70, 73, 74, 83, 90] : List Int32) w_COMPACT_STRINGS bs26 kc26 h26 n0 Z26 (S_COMPACT_STRINGS.ext E26) FC26 EX26 FV26 AV26 hz okr.rng.1 okr.rng.2 (by first | assumption | exact Nat.le_of_ble_eq_true rfl | rfl | omega | decide) (by first | assumption | exact Nat.le_of_ble_eq_true rfl | rfl | omega | decide)) 115 116 118 117 119 9 rfl rfl rfl rfl rfl rfl EX26 (by decide) rfl (by rw [hml]; rfl) [(.int r)] [] (lenOf own_pd8 rfl) rfl rfl (W := 0) own_le (D 26 rfl) (by decide) (by decide) (by decide) (by decide)
  obtain ⟨rfl, N27q, e27⟩ := hQ27
  have N27 := Fr.app N24 N27q
  replace k : ow T27 (mkF m 62 #[ow_r a1, ow_i 3, ow_i 47, ow_i 3, ow_i r, .unset] []) := fun t q => k t (XS.ifNo X27.here hx rfl (D 27 rfl) rfl ((if0 _ _).trans (flt (show ¬ ((own_ix1 r ([66, 67, 68, 70, 73, 74, 83, 90] : List Int32)) < (0 : Int32)) from (own_ix8 okr))).1) q)
  replace k : ow T27 (mkF m 64 #[ow_r a1, ow_i 3, ow_i 47, ow_i 3, ow_i r, .unset] [(.int 1), (.int 3)]) := fun t q => k t (XS.iloadN X27.here hx rfl (D 28 rfl) rfl (XS.iconst X27.here hx rfl (D 29 rfl) q))
  replace k : ow T27 (mkF m 65 #[ow_r a1, ow_i 3, ow_i 47, ow_i 3, ow_i r, .unset] [(.int 4)]) := fun t q => k t (XS.iadd X27.here hx rfl (D 30 rfl) rfl (by rw [show ((3 : Int32) + (1 : Int32)) = (4 : Int32) from by decide]; exact q))
  exact own_endS (v := some (.int 4)) X27 e27 hS26 hk26 hh Bd.notSynchronized (own_vn Bd.returns) k (fun _ hr => retI X27 hx Bd.returns (D 31 rfl) hr) ⟨rfl, N27, K26⟩ (CR26.trans (own_CP.at own_J X27 hZ (own_EW hw) CH26)) (by decide) (by decide)
theorem own_d39 : own_all prog_120_method_8_code [(0, .aload_n 0, 1), (1, .ldc 54, 2), (3, .invokevirtual 9, 3), (6, .ifCond .ne 5, 3), (11, .iconst 0, 1), (12, .istore_n 1, 1), (13, .iconst 1, 1), (14, .istore_n 2, 1), (15, .iload_n 2, 1), (16, .aload_n 0, 1), (17, .invokevirtual 21, 3), (20, .if_icmp .ge 65, 3), (23, .aload_n 0, 1), (24, .iload_n 2, 1), (25, .invokevirtual 56, 3), (28, .bipush 41, 2), (30, .if_icmp .eq 55, 3), (85, .iload_n 2, 1), (86, .aload_n 0, 1), (87, .invokevirtual 21, 3), (90, .if_icmp .ne 5, 3), (95, .iload_n 2, 1), (96, .iconst 1, 1), (97, .iadd, 1), (98, .istore_n 3, 1), (99, .aload_n 0, 1), (100, .ldc 62, 2), (102, .iload_n 3, 1), (103, .invokevirtual 64, 3), (106, .ifCond .eq 19, 3), (109, .iload_n 3, 1), (110, .iconst 1, 1), (111, .iadd, 1), (112, .aload_n 0, 1), (113, .invokevirtual 21, 3), (116, .if_icmp .ne 7, 3), (119, .iload_n 1, 1), (120, .goto 4, 3), (124, .ireturn, 1), (33, .aload_n 0, 1), (34, .iload_n 2, 1), (35, .bipush 47, 2), (37, .invokestatic 15, 3), (40, .istore_n 3, 1), (41, .iload_n 3, 1), (42, .ifCond .ge 5, 3), (47, .ldc 60, 2), (49, .aload_n 0, 1), (50, .iload_n 2, 1), (51, .invokevirtual 56, 3), (54, .invokevirtual 29, 3), (57, .ifCond .lt 7, 3), (64, .iconst 0, 1), (60, .iconst 1, 1), (61, .goto 4, 3), (65, .istore 4, 2), (67, .iload_n 1, 1), (68, .iload 4, 2), (70, .ifCond .eq 7, 3), (77, .iconst 1, 1), (73, .iconst 2, 1), (74, .goto 4, 3), (78, .iadd, 1), (79, .istore_n 1, 1), (80, .iload_n 3, 1), (81, .istore_n 2, 1), (82, .goto (-67), 3), (125, .aload_n 0, 1), (126, .iload_n 3, 1), (127, .bipush 47, 2), (129, .invokestatic 15, 3), (132, .aload_n 0, 1), (133, .invokevirtual 21, 3), (136, .if_icmp .ne 7, 3), (139, .iload_n 1, 1), (140, .goto 4, 3), (144, .ireturn, 1)] := by decide +kernel
theorem own_pd12 : parseMethodDescriptor "(Ljava/lang/String;IC)I" = some ⟨[(.object "java/lang/String"), .int, .char], some .int⟩ := by decide +kernel
theorem own_ef39 (m : MethodId) (x0 : Addr) : entryFrame m #[(.ref x0)] 5 = mkF m 0 #[ow_r x0, .unset, .unset, .unset, .unset] [] := by first | (simp [entryFrame, mkF, argsToLocals, Value.category]; done) | rfl
theorem own_pn39 : plainName "com/example/callsite/callsite/model/JvmNames" = true := by first | (simp [plainName, overriddenIn]; done) | decide +kernel
def own_m39_3v_Q (Z : State) (a1 : Addr) (w_COMPACT_STRINGS : Int32) (w_SIOOBE_FORMATTER : Value) (h0 : Heap) (n0 : Nat) (v : Option Value) (h : Heap) (L : List Loc) : Prop := ∃ k : Int32, v = some (.int k) ∧ (¬ k < 0 ∧ ¬ (255 : Int32) < k) ∧ Fr n0 L ∧ Keep h0 h []
set_option maxRecDepth 65536 in
set_option maxHeartbeats 40000000 in
theorem own_m39_3v (l : Launch) (Z : State) (a0 : Array Value) (hw : ∀ d ∈ tables_1, d.before a0 Z = true) (ws : List Jvm.Cond) (a1 : Addr) (w_COMPACT_STRINGS : Int32) (w_SIOOBE_FORMATTER : Value) (h0 : Heap) (n0 : Nat) (Z0 : n0 ≤ h0.size) (T_a1 : own_Str Z h0 a1 ([40, 41, 86] : List Int32)) (S_COMPACT_STRINGS : Sta Z h0 "java/lang/String" "COMPACT_STRINGS" "Z" (.int w_COMPACT_STRINGS)) (S_SIOOBE_FORMATTER : Sta Z h0 "jdk/internal/util/Preconditions" "SIOOBE_FORMATTER" "Ljava/util/function/BiFunction;" w_SIOOBE_FORMATTER) (hz : ¬ (w_COMPACT_STRINGS = (0 : Int32))) (hrS : w_SIOOBE_FORMATTER.isRef = true) :
    own_MS l Z own_y39 ws prog_120_method_8_code 5 (some .int) ({ frames := 5, cells := 8, slots := 64, locals := 76 } : Room) #[(.ref a1)] h0 (own_CP Z consts_1 own_J) (own_m39_3v_Q Z a1 w_COMPACT_STRINGS w_SIOOBE_FORMATTER h0 n0) := by
  refine own_goS own_CP.refl "com/example/callsite/callsite/model/JvmNames" rfl (plainFor_of_name own_pn39) (fun m => own_ef39 m a1) own_d39 n0 fun p e s m below meth c s₁ A0 Bd hx D hml hown hnm X0 hZ e0 N0 hh CH0 hS0 hk0 CR0 k => ?_
  obtain ⟨a21, T21, h21, k121, bs21, kc21, X21, e21, E21, hS21, hk21, hZ, hown, EX21, FC21, FV21, AV21, la21, lb21, CU21, LT21, SX21, st21⟩ := own_ldc X0 hx hZ hown (own_h hw 170 rfl) (own_wS hw) e0 hS0 hk0 (own_EW hw) (List.mem_of_getElem? (i := 3) rfl) (EJ := own_J) (List.mem_of_getElem? (i := 3) rfl) CH0 (vs := [(.int 40)]) (z := (1 : Int32)) ⟨by decide, by decide⟩ (by decide) (by decide) (g := (mkF m 1 #[ow_r a1, .unset, .unset, .unset, .unset] [(.ref a1)])) rfl (D 1 rfl) (n := 4) (by decide) (by decide) (by decide) (by decide)
  have Z21 : n0 ≤ h21.size := Nat.le_trans Z0 E21.1
  have K21 : Keep h0 h21 [] := (Keep.refl h0 []).ext E21
  have CR21 := CR0.trans CU21
  have CH21 := CU21.1
  replace k : ow T21 (mkF m 3 #[ow_r a1, .unset, .unset, .unset, .unset] [(.ref a21), (.ref a1)]) := fun t q => k t (XS.aloadN X0.here hx rfl (D 0 rfl) rfl rfl (st21 t q))
  clear st21
  obtain ⟨bo22, ko22, Eo22, Vo22, Co22, Ao22⟩ := own_Str.open_ (T_a1.ext E21)
  have Ao22 : Arv Z h21 bo22 ko22 .byte (3 : Int32) [(.int 40), (.int 41), (.int 86)] (.int 0) := Ao22
  obtain ⟨_, T23, L23, X23, hQ23, k⟩ := own_cV X21 hx hw hZ hown e21 k (own_m20 l Z a0 hw [] a1 a21 ([40, 41, 86] : List Int32) ([40] : List Int32) bo22 ko22 w_COMPACT_STRINGS bs21 kc21 h21 n0 Z21 Vo22 Ao22 (S_COMPACT_STRINGS.ext E21) Co22 Eo22 FV21 AV21 FC21 EX21 hz (by first | assumption | exact Nat.le_of_ble_eq_true rfl | rfl | omega | decide) (by first | assumption | exact Nat.le_of_ble_eq_true rfl | rfl | omega | decide) (by first | assumption | exact Nat.le_of_ble_eq_true rfl | rfl | omega | decide)) 88 89 91 90 92 9 rfl rfl rfl rfl rfl rfl Eo22 (by decide) rfl (by rw [hml]; rfl) [(.ref a21)] [] (lenOf own_pd10 rfl) rfl rfl (W := 0) own_le (D 2 rfl) (by decide) (by decide) (by decide) (by decide)
  rw [show own_f20 ([40, 41, 86] : List Int32) ([40] : List Int32) = (1 : Int32) from by unfold own_f20; rw [if_pos (show (own_mis ([40, 41, 86] : List Int32) ([40] : List Int32) 0) < (0 : Int32) from (by show own_mmA ((40 : Int32) :: _) [(40 : Int32)] 0 < 0; unfold own_mmA; rw [if_pos rfl, own_mmA_nil]; decide))]] at hQ23
  obtain ⟨rfl, N23q, e23⟩ := hQ23
  have N23 := Fr.app N0 N23q
  replace k : ow T23 (mkF m 11 #[ow_r a1, .unset, .unset, .unset, .unset] []) := fun t q => k t (XS.ifYes X23.here hx rfl (pc0 := 6) (pc' := 11) rfl (D 3 rfl) rfl ((if0 _ _).trans (feq (show ¬ ((1 : Int32) = (0 : Int32)) from (by decide))).2) (by decide) (by decide) q)
  replace k : ow T23 (mkF m 14 #[ow_r a1, ow_i 0, .unset, .unset, .unset] [(.int 1)]) := fun t q => k t (XS.iconst X23.here hx rfl (D 4 rfl) (XS.istoreN X23.here hx rfl (D 5 rfl) rfl (l' := #[ow_r a1, ow_i 0, .unset, .unset, .unset]) rfl (XS.iconst X23.here hx rfl (D 6 rfl) q)))
  replace k : ow T23 (mkF m 17 #[ow_r a1, ow_i 0, ow_i 1, .unset, .unset] [(.ref a1), (.int 1)]) := fun t q => k t (XS.istoreN X23.here hx rfl (D 7 rfl) rfl (l' := #[ow_r a1, ow_i 0, ow_i 1, .unset, .unset]) rfl (XS.iloadN X23.here hx rfl (D 8 rfl) rfl (XS.aloadN X23.here hx rfl (D 9 rfl) rfl rfl q)))
  obtain ⟨_, T24, L24, X24, hQ24, k⟩ := own_cV X23 hx hw hZ hown e23 k (own_m22 l Z a0 hw [] a1 ([40, 41, 86] : List Int32) bo22 ko22 w_COMPACT_STRINGS h21 n0 Z21 Vo22 Ao22 (S_COMPACT_STRINGS.ext E21) Co22 Eo22 hz) 147 99 101 100 102 9 rfl rfl rfl rfl rfl rfl Eo22 (by decide) rfl (by rw [hml]; rfl) [] [(.int 1)] (lenOf own_pd5 rfl) rfl rfl (W := 1) own_le (D 10 rfl) (by decide) (by decide) (by decide) (by decide)
  rw [show own_f22 ([40, 41, 86] : List Int32) = (3 : Int32) from rfl] at hQ24
  obtain ⟨rfl, N24q, e24⟩ := hQ24
  have N24 := Fr.app N23 N24q
  replace k : ow T24 (mkF m 23 #[ow_r a1, ow_i 0, ow_i 1, .unset, .unset] []) := fun t q => k t (XS.icmpNo X24.here hx rfl (D 11 rfl) rfl (tlt (show (1 : Int32) < (3 : Int32) from (by decide))).2.1 q)
  replace k : ow T24 (mkF m 25 #[ow_r a1, ow_i 0, ow_i 1, .unset, .unset] [(.int 1), (.ref a1)]) := fun t q => k t (XS.aloadN X24.here hx rfl (D 12 rfl) rfl rfl (XS.iloadN X24.here hx rfl (D 13 rfl) rfl q))
  obtain ⟨T25, X25, e25, k⟩ := own_cCh X24 hx hw hZ hown e24 k (T_a1.ext E21) (S_COMPACT_STRINGS.ext E21) hz (S_SIOOBE_FORMATTER.ext E21) hrS 1 (1 : Int32) (Nat.le_of_ble_eq_true rfl) (by decide) 145 50 52 51 8 rfl rfl rfl rfl rfl rfl rfl (by rw [hml]; rfl) [] rfl (W := 0) own_le (D 14 rfl) (by decide) (by decide) (by decide) (by decide)
  replace k : ow T25 (mkF m 85 #[ow_r a1, ow_i 0, ow_i 1, .unset, .unset] []) := fun t q => k t (XS.bipush X25.here hx rfl (D 15 rfl) (XS.icmpYes X25.here hx rfl (pc0 := 30) (pc' := 85) rfl (D 16 rfl) rfl (teq (show (41 : Int32) = (41 : Int32) from (by decide))).1 (by decide) (by decide) q))
  replace k : ow T25 (mkF m 87 #[ow_r a1, ow_i 0, ow_i 1, .unset, .unset] [(.ref a1), (.int 1)]) := fun t q => k t (XS.iloadN X25.here hx rfl (D 17 rfl) rfl (XS.aloadN X25.here hx rfl (D 18 rfl) rfl rfl q))
  obtain ⟨_, T26, L26, X26, hQ26, k⟩ := own_cV X25 hx hw hZ hown e25 k (own_m22 l Z a0 hw [] a1 ([40, 41, 86] : List Int32) bo22 ko22 w_COMPACT_STRINGS h21 n0 Z21 Vo22 Ao22 (S_COMPACT_STRINGS.ext E21) Co22 Eo22 hz) 147 99 101 100 102 9 rfl rfl rfl rfl rfl rfl Eo22 (by decide) rfl (by rw [hml]; rfl) [] [(.int 1)] (lenOf own_pd5 rfl) rfl rfl (W := 1) own_le (D 19 rfl) (by decide) (by decide) (by decide) (by decide)
  rw [show own_f22 ([40, 41, 86] : List Int32) = (3 : Int32) from rfl] at hQ26
  obtain ⟨rfl, N26q, e26⟩ := hQ26
  have N26 := Fr.app N24 N26q
  replace k : ow T26 (mkF m 95 #[ow_r a1, ow_i 0, ow_i 1, .unset, .unset] []) := fun t q => k t (XS.icmpYes X26.here hx rfl (pc0 := 90) (pc' := 95) rfl (D 20 rfl) rfl (feq (show ¬ ((1 : Int32) = (3 : Int32)) from (by decide))).2 (by decide) (by decide) q)
  replace k : ow T26 (mkF m 97 #[ow_r a1, ow_i 0, ow_i 1, .unset, .unset] [(.int 1), (.int 1)]) := fun t q => k t (XS.iloadN X26.here hx rfl (D 21 rfl) rfl (XS.iconst X26.here hx rfl (D 22 rfl) q))
  replace k : ow T26 (mkF m 98 #[ow_r a1, ow_i 0, ow_i 1, .unset, .unset] [(.int 2)]) := fun t q => k t (XS.iadd X26.here hx rfl (D 23 rfl) rfl (by rw [show ((1 : Int32) + (1 : Int32)) = (2 : Int32) from by decide]; exact q))
  obtain ⟨a27, T27, h27, k127, bs27, kc27, X27, e27, E27, hS27, hk27, hZ, hown, EX27, FC27, FV27, AV27, la27, lb27, CU27, LT27, SX27, st27⟩ := own_ldc X26 hx hZ hown (own_h hw 176 rfl) (own_wS hw) e26 hS21 hk21 (own_EW hw) (List.mem_of_getElem? (i := 5) rfl) (EJ := own_J) (List.mem_of_getElem? (i := 5) rfl) CH21 (vs := [(.int 86)]) (z := (1 : Int32)) ⟨by decide, by decide⟩ (by decide) (by decide) (g := (mkF m 100 #[ow_r a1, ow_i 0, ow_i 1, ow_i 2, .unset] [(.ref a1)])) rfl (D 26 rfl) (n := 4) (by decide) (by decide) (by decide) (by decide)
  have Z27 : n0 ≤ h27.size := Nat.le_trans Z21 E27.1
  have K27 : Keep h0 h27 [] := K21.ext E27
  have CR27 := CR21.trans CU27
  have CH27 := CU27.1
  replace k : ow T27 (mkF m 102 #[ow_r a1, ow_i 0, ow_i 1, ow_i 2, .unset] [(.ref a27), (.ref a1)]) := fun t q => k t (XS.istoreN X26.here hx rfl (D 24 rfl) rfl (l' := #[ow_r a1, ow_i 0, ow_i 1, ow_i 2, .unset]) rfl (XS.aloadN X26.here hx rfl (D 25 rfl) rfl rfl (st27 t q)))
  clear st27
  replace k : ow T27 (mkF m 103 #[ow_r a1, ow_i 0, ow_i 1, ow_i 2, .unset] [(.int 2), (.ref a27), (.ref a1)]) := fun t q => k t (XS.iloadN X27.here hx rfl (D 27 rfl) rfl q)
  obtain ⟨_, T28, L28, X28, hQ28, k⟩ := own_cV X27 hx hw hZ hown e27 k (own_m21 l Z a0 hw [] a1 a27 ([40, 41, 86] : List Int32) ([86] : List Int32) 2 bo22 ko22 w_COMPACT_STRINGS bs27 kc27 h27 n0 Z27 (Vo22.ext E27) (Ao22.ext E27) ((S_COMPACT_STRINGS.ext E21).ext E27) (Co22.ext E27) (Eo22.ext E27) FV27 AV27 FC27 EX27 hz (by first | assumption | exact Nat.le_of_ble_eq_true rfl | rfl | omega | decide) (by first | assumption | exact Nat.le_of_ble_eq_true rfl | rfl | omega | decide) (by first | assumption | exact Nat.le_of_ble_eq_true rfl | rfl | omega | decide)) 177 94 96 95 97 9 rfl rfl rfl rfl rfl rfl (Eo22.ext E27) (by decide) rfl (by rw [hml]; rfl) [(.ref a27), (.int 2)] [] (lenOf own_pd7 rfl) rfl rfl (W := 0) own_le (D 28 rfl) (by decide) (by decide) (by decide) (by decide)
  rw [show own_f21 ([40, 41, 86] : List Int32) ([86] : List Int32) 2 = (1 : Int32) from by unfold own_f21; rw [if_pos (show (own_mis ([40, 41, 86] : List Int32) ([86] : List Int32) 2) < (0 : Int32) from (by show own_mmA [(86 : Int32)] [(86 : Int32)] 0 < 0; decide))]] at hQ28
  obtain ⟨rfl, N28q, e28⟩ := hQ28
  have N28 := Fr.app N26 N28q
  replace k : ow T28 (mkF m 109 #[ow_r a1, ow_i 0, ow_i 1, ow_i 2, .unset] []) := fun t q => k t (XS.ifNo X28.here hx rfl (D 29 rfl) rfl ((if0 _ _).trans (feq (show ¬ ((1 : Int32) = (0 : Int32)) from (by decide))).1) q)
  replace k : ow T28 (mkF m 111 #[ow_r a1, ow_i 0, ow_i 1, ow_i 2, .unset] [(.int 1), (.int 2)]) := fun t q => k t (XS.iloadN X28.here hx rfl (D 30 rfl) rfl (XS.iconst X28.here hx rfl (D 31 rfl) q))
  replace k : ow T28 (mkF m 112 #[ow_r a1, ow_i 0, ow_i 1, ow_i 2, .unset] [(.int 3)]) := fun t q => k t (XS.iadd X28.here hx rfl (D 32 rfl) rfl (by rw [show ((2 : Int32) + (1 : Int32)) = (3 : Int32) from by decide]; exact q))
  replace k : ow T28 (mkF m 113 #[ow_r a1, ow_i 0, ow_i 1, ow_i 2, .unset] [(.ref a1), (.int 3)]) := fun t q => k t (XS.aloadN X28.here hx rfl (D 33 rfl) rfl rfl q)
  obtain ⟨_, T29, L29, X29, hQ29, k⟩ := own_cV X28 hx hw hZ hown e28 k (own_m22 l Z a0 hw [] a1 ([40, 41, 86] : List Int32) bo22 ko22 w_COMPACT_STRINGS h27 n0 Z27 (Vo22.ext E27) (Ao22.ext E27) ((S_COMPACT_STRINGS.ext E21).ext E27) (Co22.ext E27) (Eo22.ext E27) hz) 147 99 101 100 102 9 rfl rfl rfl rfl rfl rfl (Eo22.ext E27) (by decide) rfl (by rw [hml]; rfl) [] [(.int 3)] (lenOf own_pd5 rfl) rfl rfl (W := 1) own_le (D 34 rfl) (by decide) (by decide) (by decide) (by decide)
  rw [show own_f22 ([40, 41, 86] : List Int32) = (3 : Int32) from rfl] at hQ29
  obtain ⟨rfl, N29q, e29⟩ := hQ29
  have N29 := Fr.app N28 N29q
  replace k : ow T29 (mkF m 119 #[ow_r a1, ow_i 0, ow_i 1, ow_i 2, .unset] []) := fun t q => k t (XS.icmpNo X29.here hx rfl (D 35 rfl) rfl (teq (show (3 : Int32) = (3 : Int32) from (by decide))).2 q)
  replace k : ow T29 (mkF m 124 #[ow_r a1, ow_i 0, ow_i 1, ow_i 2, .unset] [(.int 0)]) := fun t q => k t (XS.iloadN X29.here hx rfl (D 36 rfl) rfl (XS.goto X29.here hx rfl (pc0 := 120) (pc' := 124) rfl (D 37 rfl) (by decide) (by decide) q))
  exact own_endS (v := some (.int 0)) X29 e29 hS27 hk27 hh Bd.notSynchronized (own_vn Bd.returns) k (fun _ hr => retI X29 hx Bd.returns (D 38 rfl) hr) ⟨(0 : Int32), rfl, ⟨by decide, by decide⟩, N29, K27⟩ (CR27.trans (own_CP.at own_J X29 hZ (own_EW hw) CH27)) (by decide) (by decide)
def own_m39_4v_Q (Z : State) (a1 : Addr) (b : Int32) (w_COMPACT_STRINGS : Int32) (w_SIOOBE_FORMATTER : Value) (h0 : Heap) (n0 : Nat) (v : Option Value) (h : Heap) (L : List Loc) : Prop := ∃ k : Int32, v = some (.int k) ∧ (¬ k < 0 ∧ ¬ (255 : Int32) < k) ∧ Fr n0 L ∧ Keep h0 h []
set_option maxRecDepth 65536 in
set_option maxHeartbeats 40000000 in
theorem own_m39_4v (l : Launch) (Z : State) (a0 : Array Value) (hw : ∀ d ∈ tables_1, d.before a0 Z = true) (ws : List Jvm.Cond) (a1 : Addr) (b : Int32) (w_COMPACT_STRINGS : Int32) (w_SIOOBE_FORMATTER : Value) (h0 : Heap) (n0 : Nat) (Z0 : n0 ≤ h0.size) (T_a1 : own_Str Z h0 a1 ([40, b, 41, 86] : List Int32)) (S_COMPACT_STRINGS : Sta Z h0 "java/lang/String" "COMPACT_STRINGS" "Z" (.int w_COMPACT_STRINGS)) (S_SIOOBE_FORMATTER : Sta Z h0 "jdk/internal/util/Preconditions" "SIOOBE_FORMATTER" "Ljava/util/function/BiFunction;" w_SIOOBE_FORMATTER) (hz : ¬ (w_COMPACT_STRINGS = (0 : Int32))) (hrS : w_SIOOBE_FORMATTER.isRef = true) (okb : own_okb b) :
    own_MS l Z own_y39 ws prog_120_method_8_code 5 (some .int) ({ frames := 5, cells := 8, slots := 64, locals := 76 } : Room) #[(.ref a1)] h0 (own_CP Z consts_1 own_J) (own_m39_4v_Q Z a1 b w_COMPACT_STRINGS w_SIOOBE_FORMATTER h0 n0) := by
  refine own_goS own_CP.refl "com/example/callsite/callsite/model/JvmNames" rfl (plainFor_of_name own_pn39) (fun m => own_ef39 m a1) own_d39 n0 fun p e s m below meth c s₁ A0 Bd hx D hml hown hnm X0 hZ e0 N0 hh CH0 hS0 hk0 CR0 k => ?_
  obtain ⟨a21, T21, h21, k121, bs21, kc21, X21, e21, E21, hS21, hk21, hZ, hown, EX21, FC21, FV21, AV21, la21, lb21, CU21, LT21, SX21, st21⟩ := own_ldc X0 hx hZ hown (own_h hw 170 rfl) (own_wS hw) e0 hS0 hk0 (own_EW hw) (List.mem_of_getElem? (i := 3) rfl) (EJ := own_J) (List.mem_of_getElem? (i := 3) rfl) CH0 (vs := [(.int 40)]) (z := (1 : Int32)) ⟨by decide, by decide⟩ (by decide) (by decide) (g := (mkF m 1 #[ow_r a1, .unset, .unset, .unset, .unset] [(.ref a1)])) rfl (D 1 rfl) (n := 4) (by decide) (by decide) (by decide) (by decide)
  have Z21 : n0 ≤ h21.size := Nat.le_trans Z0 E21.1
  have K21 : Keep h0 h21 [] := (Keep.refl h0 []).ext E21
  have CR21 := CR0.trans CU21
  have CH21 := CU21.1
  replace k : ow T21 (mkF m 3 #[ow_r a1, .unset, .unset, .unset, .unset] [(.ref a21), (.ref a1)]) := fun t q => k t (XS.aloadN X0.here hx rfl (D 0 rfl) rfl rfl (st21 t q))
  clear st21
  obtain ⟨bo22, ko22, Eo22, Vo22, Co22, Ao22⟩ := own_Str.open_ (T_a1.ext E21)
  have Ao22 : Arv Z h21 bo22 ko22 .byte (4 : Int32) [(.int 40), (.int (b.toInt8.toInt32)), (.int 41), (.int 86)] (.int 0) := Ao22
  obtain ⟨_, T23, L23, X23, hQ23, k⟩ := own_cV X21 hx hw hZ hown e21 k (own_m20 l Z a0 hw [] a1 a21 ([40, (b.toInt8.toInt32), 41, 86] : List Int32) ([40] : List Int32) bo22 ko22 w_COMPACT_STRINGS bs21 kc21 h21 n0 Z21 Vo22 Ao22 (S_COMPACT_STRINGS.ext E21) Co22 Eo22 FV21 AV21 FC21 EX21 hz (by first | assumption | exact Nat.le_of_ble_eq_true rfl | rfl | omega | decide) (by first | assumption | exact Nat.le_of_ble_eq_true rfl | rfl | omega | decide) (by first | assumption | exact Nat.le_of_ble_eq_true rfl | rfl | omega | decide)) 88 89 91 90 92 9 rfl rfl rfl rfl rfl rfl Eo22 (by decide) rfl (by rw [hml]; rfl) [(.ref a21)] [] (lenOf own_pd10 rfl) rfl rfl (W := 0) own_le (D 2 rfl) (by decide) (by decide) (by decide) (by decide)
  rw [show own_f20 ([40, (b.toInt8.toInt32), 41, 86] : List Int32) ([40] : List Int32) = (1 : Int32) from by unfold own_f20; rw [if_pos (show (own_mis ([40, (b.toInt8.toInt32), 41, 86] : List Int32) ([40] : List Int32) 0) < (0 : Int32) from (by show own_mmA ((40 : Int32) :: _) [(40 : Int32)] 0 < 0; unfold own_mmA; rw [if_pos rfl, own_mmA_nil]; decide))]] at hQ23
  obtain ⟨rfl, N23q, e23⟩ := hQ23
  have N23 := Fr.app N0 N23q
  replace k : ow T23 (mkF m 11 #[ow_r a1, .unset, .unset, .unset, .unset] []) := fun t q => k t (XS.ifYes X23.here hx rfl (pc0 := 6) (pc' := 11) rfl (D 3 rfl) rfl ((if0 _ _).trans (feq (show ¬ ((1 : Int32) = (0 : Int32)) from (by decide))).2) (by decide) (by decide) q)
  replace k : ow T23 (mkF m 14 #[ow_r a1, ow_i 0, .unset, .unset, .unset] [(.int 1)]) := fun t q => k t (XS.iconst X23.here hx rfl (D 4 rfl) (XS.istoreN X23.here hx rfl (D 5 rfl) rfl (l' := #[ow_r a1, ow_i 0, .unset, .unset, .unset]) rfl (XS.iconst X23.here hx rfl (D 6 rfl) q)))
  replace k : ow T23 (mkF m 17 #[ow_r a1, ow_i 0, ow_i 1, .unset, .unset] [(.ref a1), (.int 1)]) := fun t q => k t (XS.istoreN X23.here hx rfl (D 7 rfl) rfl (l' := #[ow_r a1, ow_i 0, ow_i 1, .unset, .unset]) rfl (XS.iloadN X23.here hx rfl (D 8 rfl) rfl (XS.aloadN X23.here hx rfl (D 9 rfl) rfl rfl q)))
  obtain ⟨_, T24, L24, X24, hQ24, k⟩ := own_cV X23 hx hw hZ hown e23 k (own_m22 l Z a0 hw [] a1 ([40, (b.toInt8.toInt32), 41, 86] : List Int32) bo22 ko22 w_COMPACT_STRINGS h21 n0 Z21 Vo22 Ao22 (S_COMPACT_STRINGS.ext E21) Co22 Eo22 hz) 147 99 101 100 102 9 rfl rfl rfl rfl rfl rfl Eo22 (by decide) rfl (by rw [hml]; rfl) [] [(.int 1)] (lenOf own_pd5 rfl) rfl rfl (W := 1) own_le (D 10 rfl) (by decide) (by decide) (by decide) (by decide)
  rw [show own_f22 ([40, (b.toInt8.toInt32), 41, 86] : List Int32) = (4 : Int32) from rfl] at hQ24
  obtain ⟨rfl, N24q, e24⟩ := hQ24
  have N24 := Fr.app N23 N24q
  replace k : ow T24 (mkF m 23 #[ow_r a1, ow_i 0, ow_i 1, .unset, .unset] []) := fun t q => k t (XS.icmpNo X24.here hx rfl (D 11 rfl) rfl (tlt (show (1 : Int32) < (4 : Int32) from (by decide))).2.1 q)
  replace k : ow T24 (mkF m 25 #[ow_r a1, ow_i 0, ow_i 1, .unset, .unset] [(.int 1), (.ref a1)]) := fun t q => k t (XS.aloadN X24.here hx rfl (D 12 rfl) rfl rfl (XS.iloadN X24.here hx rfl (D 13 rfl) rfl q))
  obtain ⟨T25, X25, e25, k⟩ := own_cCh X24 hx hw hZ hown e24 k (T_a1.ext E21) (S_COMPACT_STRINGS.ext E21) hz (S_SIOOBE_FORMATTER.ext E21) hrS 1 (1 : Int32) (Nat.le_of_ble_eq_true rfl) (by decide) 145 50 52 51 8 rfl rfl rfl rfl rfl rfl rfl (by rw [hml]; rfl) [] rfl (W := 0) own_le (D 14 rfl) (by decide) (by decide) (by decide) (by decide)
  replace k : ow T25 (mkF m 33 #[ow_r a1, ow_i 0, ow_i 1, .unset, .unset] []) := fun t q => k t (XS.bipush X25.here hx rfl (D 15 rfl) (XS.icmpNo X25.here hx rfl (D 16 rfl) rfl (feq (show ¬ (b = (41 : Int32)) from okb.ne.1)).1 q))
  replace k : ow T25 (mkF m 37 #[ow_r a1, ow_i 0, ow_i 1, .unset, .unset] [(.int 47), (.int 1), (.ref a1)]) := fun t q => k t (XS.aloadN X25.here hx rfl (D 39 rfl) rfl rfl (XS.iloadN X25.here hx rfl (D 40 rfl) rfl (XS.bipush X25.here hx rfl (D 41 rfl) q)))
  obtain ⟨_, T26, L26, h26, X26, hS26, hZ, hown, e26, hQ26, CU26, k⟩ := own_cSS X25 hx hw hZ hown e25 hS21 hk21 k (own_backP (EJ := own_J) (W := 0) (own_m40_4a l Z a0 hw [] a1 b (86 : Int32) w_COMPACT_STRINGS w_SIOOBE_FORMATTER h21 n0 Z21 (T_a1.ext E21) (S_COMPACT_STRINGS.ext E21) (S_SIOOBE_FORMATTER.ext E21) hz hrS okb) hZ (own_h hw 173 rfl) (own_h hw 85 rfl) (by decide) (by decide) (own_EW hw) CH21) 171 172 85 173 rfl rfl rfl rfl (by decide) rfl (by rw [hml]; rfl) [(.ref a1), (.int 1), (.int 47)] [] (lenOf own_pd12 rfl) rfl rfl own_le (D 42 rfl) (by decide) (by decide)
  have hk26 := Nat.le_refl h26.size
  have CR26 := CR21.trans CU26
  have CH26 := CU26.1
  obtain ⟨rfl, N26q, KC26⟩ := hQ26
  have KK26 : Keep h0 h26 [] := K21.trans KC26 all0
  have Z26 : n0 ≤ h26.size := Nat.le_trans Z21 KC26.1
  have N26 := Fr.app N24 N26q
  replace k : ow T26 (mkF m 47 #[ow_r a1, ow_i 0, ow_i 1, ow_i 2, .unset] []) := fun t q => k t (XS.istoreN X26.here hx rfl (D 43 rfl) rfl (l' := #[ow_r a1, ow_i 0, ow_i 1, ow_i 2, .unset]) rfl (XS.iloadN X26.here hx rfl (D 44 rfl) rfl (XS.ifYes X26.here hx rfl (pc0 := 42) (pc' := 47) rfl (D 45 rfl) rfl ((if0 _ _).trans (flt (show ¬ ((2 : Int32) < (0 : Int32)) from (by decide))).2.1) (by decide) (by decide) q)))
  obtain ⟨a27, T27, h27, k127, bs27, kc27, X27, e27, E27, hS27, hk27, hZ, hown, EX27, FC27, FV27, AV27, la27, lb27, CU27, LT27, SX27, st27⟩ := own_ldc X26 hx hZ hown (own_h hw 175 rfl) (own_wS hw) e26 hS26 hk26 (own_EW hw) (List.mem_of_getElem? (i := 4) rfl) (EJ := own_J) (List.mem_of_getElem? (i := 4) rfl) CH26 (vs := [(.int 68), (.int 74)]) (z := (2 : Int32)) ⟨by decide, by decide⟩ (by decide) (by decide) (g := (mkF m 47 #[ow_r a1, ow_i 0, ow_i 1, ow_i 2, .unset] [])) rfl (D 46 rfl) (n := 8) (by decide) (by decide) (by decide) (by decide)
  have Z27 : n0 ≤ h27.size := Nat.le_trans Z26 E27.1
  have K27 : Keep h0 h27 [] := KK26.ext E27
  have CR27 := CR26.trans CU27
  have CH27 := CU27.1
  replace k : ow T27 (mkF m 49 #[ow_r a1, ow_i 0, ow_i 1, ow_i 2, .unset] [(.ref a27)]) := fun t q => k t (st27 t q)
  clear st27
  replace k : ow T27 (mkF m 51 #[ow_r a1, ow_i 0, ow_i 1, ow_i 2, .unset] [(.int 1), (.ref a1), (.ref a27)]) := fun t q => k t (XS.aloadN X27.here hx rfl (D 47 rfl) rfl rfl (XS.iloadN X27.here hx rfl (D 48 rfl) rfl q))
  obtain ⟨T28, X28, e28, k⟩ := own_cCh X27 hx hw hZ hown e27 k (((T_a1.ext E21).keep (a0 := a0) KC26 all0).ext E27) ((own_sta_keep (S_COMPACT_STRINGS.ext E21) KC26 ns0).ext E27) hz ((own_sta_keep (S_SIOOBE_FORMATTER.ext E21) KC26 ns0).ext E27) hrS 1 (1 : Int32) (Nat.le_of_ble_eq_true rfl) (by decide) 145 50 52 51 8 rfl rfl rfl rfl rfl rfl rfl (by rw [hml]; rfl) [(.ref a27)] rfl (W := 1) own_le (D 49 rfl) (by decide) (by decide) (by decide) (by decide)
  obtain ⟨_, T29, L29, X29, hQ29, k⟩ := own_cV X28 hx hw hZ hown e28 k (own_m26 l Z a0 hw [] a27 b ([68, 74] : List Int32) w_COMPACT_STRINGS bs27 kc27 h27 n0 Z27 ((own_sta_keep (S_COMPACT_STRINGS.ext E21) KC26 ns0).ext E27) FC27 EX27 FV27 AV27 hz okb.rng.1 okb.rng.2 (by first | assumption | exact Nat.le_of_ble_eq_true rfl | rfl | omega | decide) (by first | assumption | exact Nat.le_of_ble_eq_true rfl | rfl | omega | decide)) 115 116 118 117 119 9 rfl rfl rfl rfl rfl rfl EX27 (by decide) rfl (by rw [hml]; rfl) [(.int b)] [] (lenOf own_pd8 rfl) rfl rfl (W := 0) own_le (D 50 rfl) (by decide) (by decide) (by decide) (by decide)
  obtain ⟨rfl, N29q, e29⟩ := hQ29
  have N29 := Fr.app N26 N29q
  replace k : own_To p.tables e below A0 T29 (mkF m 65 #[ow_r a1, ow_i 0, ow_i 1, ow_i 2, .unset] [(.int (if (own_ix1 b ([68, 74] : List Int32)) < (0 : Int32) then (0 : Int32) else (1 : Int32)))]) := by
    by_cases hj30 : (own_ix1 b ([68, 74] : List Int32)) < (0 : Int32)
    · simp only [if_pos hj30]
      replace k : ow T29 (mkF m 64 #[ow_r a1, ow_i 0, ow_i 1, ow_i 2, .unset] []) := fun t q => k t (XS.ifYes X29.here hx rfl (pc0 := 57) (pc' := 64) rfl (D 51 rfl) rfl ((if0 _ _).trans (tlt (show (own_ix1 b ([68, 74] : List Int32)) < (0 : Int32) from hj30)).1) (by decide) (by decide) q)
      replace k : ow T29 (mkF m 65 #[ow_r a1, ow_i 0, ow_i 1, ow_i 2, .unset] [(.int 0)]) := fun t q => k t (XS.iconst X29.here hx rfl (D 52 rfl) q)
      exact k
    · simp only [if_neg hj30]
      replace k : ow T29 (mkF m 60 #[ow_r a1, ow_i 0, ow_i 1, ow_i 2, .unset] []) := fun t q => k t (XS.ifNo X29.here hx rfl (D 51 rfl) rfl ((if0 _ _).trans (flt (show ¬ ((own_ix1 b ([68, 74] : List Int32)) < (0 : Int32)) from hj30)).1) q)
      replace k : ow T29 (mkF m 65 #[ow_r a1, ow_i 0, ow_i 1, ow_i 2, .unset] [(.int 1)]) := fun t q => k t (XS.iconst X29.here hx rfl (D 53 rfl) (XS.goto X29.here hx rfl (pc0 := 61) (pc' := 65) rfl (D 54 rfl) (by decide) (by decide) q))
      exact k
  replace k : ow T29 (mkF m 70 #[ow_r a1, ow_i 0, ow_i 1, ow_i 2, ow_i (if (own_ix1 b ([68, 74] : List Int32)) < (0 : Int32) then (0 : Int32) else (1 : Int32))] [(.int (if (own_ix1 b ([68, 74] : List Int32)) < (0 : Int32) then (0 : Int32) else (1 : Int32))), (.int 0)]) := fun t q => k t (XS.istore X29.here hx rfl (D 55 rfl) rfl (l' := #[ow_r a1, ow_i 0, ow_i 1, ow_i 2, ow_i (if (own_ix1 b ([68, 74] : List Int32)) < (0 : Int32) then (0 : Int32) else (1 : Int32))]) rfl (XS.iloadN X29.here hx rfl (D 56 rfl) rfl (XS.iload X29.here hx rfl (D 57 rfl) rfl q)))
  replace k : own_To p.tables e below A0 T29 (mkF m 78 #[ow_r a1, ow_i 0, ow_i 1, ow_i 2, ow_i (if (own_ix1 b ([68, 74] : List Int32)) < (0 : Int32) then (0 : Int32) else (1 : Int32))] [(.int (if (if (own_ix1 b ([68, 74] : List Int32)) < (0 : Int32) then (0 : Int32) else (1 : Int32)) = (0 : Int32) then (1 : Int32) else (2 : Int32))), (.int 0)]) := by
    by_cases hj31 : (if (own_ix1 b ([68, 74] : List Int32)) < (0 : Int32) then (0 : Int32) else (1 : Int32)) = (0 : Int32)
    · simp only [if_pos hj31]
      replace k : ow T29 (mkF m 77 #[ow_r a1, ow_i 0, ow_i 1, ow_i 2, ow_i (if (own_ix1 b ([68, 74] : List Int32)) < (0 : Int32) then (0 : Int32) else (1 : Int32))] [(.int 0)]) := fun t q => k t (XS.ifYes X29.here hx rfl (pc0 := 70) (pc' := 77) rfl (D 58 rfl) rfl ((if0 _ _).trans (teq (show (if (own_ix1 b ([68, 74] : List Int32)) < (0 : Int32) then (0 : Int32) else (1 : Int32)) = (0 : Int32) from hj31)).1) (by decide) (by decide) q)
      replace k : ow T29 (mkF m 78 #[ow_r a1, ow_i 0, ow_i 1, ow_i 2, ow_i (if (own_ix1 b ([68, 74] : List Int32)) < (0 : Int32) then (0 : Int32) else (1 : Int32))] [(.int 1), (.int 0)]) := fun t q => k t (XS.iconst X29.here hx rfl (D 59 rfl) q)
      exact k
    · simp only [if_neg hj31]
      replace k : ow T29 (mkF m 73 #[ow_r a1, ow_i 0, ow_i 1, ow_i 2, ow_i (if (own_ix1 b ([68, 74] : List Int32)) < (0 : Int32) then (0 : Int32) else (1 : Int32))] [(.int 0)]) := fun t q => k t (XS.ifNo X29.here hx rfl (D 58 rfl) rfl ((if0 _ _).trans (feq (show ¬ ((if (own_ix1 b ([68, 74] : List Int32)) < (0 : Int32) then (0 : Int32) else (1 : Int32)) = (0 : Int32)) from hj31)).1) q)
      replace k : ow T29 (mkF m 78 #[ow_r a1, ow_i 0, ow_i 1, ow_i 2, ow_i (if (own_ix1 b ([68, 74] : List Int32)) < (0 : Int32) then (0 : Int32) else (1 : Int32))] [(.int 2), (.int 0)]) := fun t q => k t (XS.iconst X29.here hx rfl (D 60 rfl) (XS.goto X29.here hx rfl (pc0 := 74) (pc' := 78) rfl (D 61 rfl) (by decide) (by decide) q))
      exact k
  replace k : ow T29 (mkF m 79 #[ow_r a1, ow_i 0, ow_i 1, ow_i 2, ow_i (if (own_ix1 b ([68, 74] : List Int32)) < (0 : Int32) then (0 : Int32) else (1 : Int32))] [(.int ((0 : Int32) + (if (if (own_ix1 b ([68, 74] : List Int32)) < (0 : Int32) then (0 : Int32) else (1 : Int32)) = (0 : Int32) then (1 : Int32) else (2 : Int32))))]) := fun t q => k t (XS.iadd X29.here hx rfl (D 62 rfl) rfl q)
  replace k : ow T29 (mkF m 82 #[ow_r a1, ow_i ((0 : Int32) + (if (if (own_ix1 b ([68, 74] : List Int32)) < (0 : Int32) then (0 : Int32) else (1 : Int32)) = (0 : Int32) then (1 : Int32) else (2 : Int32))), ow_i 2, ow_i 2, ow_i (if (own_ix1 b ([68, 74] : List Int32)) < (0 : Int32) then (0 : Int32) else (1 : Int32))] []) := fun t q => k t (XS.istoreN X29.here hx rfl (D 63 rfl) rfl (l' := #[ow_r a1, ow_i ((0 : Int32) + (if (if (own_ix1 b ([68, 74] : List Int32)) < (0 : Int32) then (0 : Int32) else (1 : Int32)) = (0 : Int32) then (1 : Int32) else (2 : Int32))), ow_i 1, ow_i 2, ow_i (if (own_ix1 b ([68, 74] : List Int32)) < (0 : Int32) then (0 : Int32) else (1 : Int32))]) rfl (XS.iloadN X29.here hx rfl (D 64 rfl) rfl (XS.istoreN X29.here hx rfl (D 65 rfl) rfl (l' := #[ow_r a1, ow_i ((0 : Int32) + (if (if (own_ix1 b ([68, 74] : List Int32)) < (0 : Int32) then (0 : Int32) else (1 : Int32)) = (0 : Int32) then (1 : Int32) else (2 : Int32))), ow_i 2, ow_i 2, ow_i (if (own_ix1 b ([68, 74] : List Int32)) < (0 : Int32) then (0 : Int32) else (1 : Int32))]) rfl q)))
  replace k : ow T29 (mkF m 17 #[ow_r a1, ow_i ((0 : Int32) + (if (if (own_ix1 b ([68, 74] : List Int32)) < (0 : Int32) then (0 : Int32) else (1 : Int32)) = (0 : Int32) then (1 : Int32) else (2 : Int32))), ow_i 2, ow_i 2, ow_i (if (own_ix1 b ([68, 74] : List Int32)) < (0 : Int32) then (0 : Int32) else (1 : Int32))] [(.ref a1), (.int 2)]) := fun t q => k t (XS.goto X29.here hx rfl (pc0 := 82) (pc' := 15) rfl (D 66 rfl) (by decide) (by decide) (XS.iloadN X29.here hx rfl (D 8 rfl) rfl (XS.aloadN X29.here hx rfl (D 9 rfl) rfl rfl q)))
  obtain ⟨_, T32, L32, X32, hQ32, k⟩ := own_cV X29 hx hw hZ hown e29 k (own_m22 l Z a0 hw [] a1 ([40, (b.toInt8.toInt32), 41, 86] : List Int32) bo22 ko22 w_COMPACT_STRINGS h27 n0 Z27 ((Vo22.keep KC26 nin0).ext E27) ((Ao22.keep KC26 nin0).ext E27) ((own_sta_keep (S_COMPACT_STRINGS.ext E21) KC26 ns0).ext E27) ((Co22.keep KC26 nin0).ext E27) ((Eo22.keep KC26).ext E27) hz) 147 99 101 100 102 9 rfl rfl rfl rfl rfl rfl ((Eo22.keep KC26).ext E27) (by decide) rfl (by rw [hml]; rfl) [] [(.int 2)] (lenOf own_pd5 rfl) rfl rfl (W := 1) own_le (D 10 rfl) (by decide) (by decide) (by decide) (by decide)
  rw [show own_f22 ([40, (b.toInt8.toInt32), 41, 86] : List Int32) = (4 : Int32) from rfl] at hQ32
  obtain ⟨rfl, N32q, e32⟩ := hQ32
  have N32 := Fr.app N29 N32q
  replace k : ow T32 (mkF m 23 #[ow_r a1, ow_i ((0 : Int32) + (if (if (own_ix1 b ([68, 74] : List Int32)) < (0 : Int32) then (0 : Int32) else (1 : Int32)) = (0 : Int32) then (1 : Int32) else (2 : Int32))), ow_i 2, ow_i 2, ow_i (if (own_ix1 b ([68, 74] : List Int32)) < (0 : Int32) then (0 : Int32) else (1 : Int32))] []) := fun t q => k t (XS.icmpNo X32.here hx rfl (D 11 rfl) rfl (tlt (show (2 : Int32) < (4 : Int32) from (by decide))).2.1 q)
  replace k : ow T32 (mkF m 25 #[ow_r a1, ow_i ((0 : Int32) + (if (if (own_ix1 b ([68, 74] : List Int32)) < (0 : Int32) then (0 : Int32) else (1 : Int32)) = (0 : Int32) then (1 : Int32) else (2 : Int32))), ow_i 2, ow_i 2, ow_i (if (own_ix1 b ([68, 74] : List Int32)) < (0 : Int32) then (0 : Int32) else (1 : Int32))] [(.int 2), (.ref a1)]) := fun t q => k t (XS.aloadN X32.here hx rfl (D 12 rfl) rfl rfl (XS.iloadN X32.here hx rfl (D 13 rfl) rfl q))
  obtain ⟨T33, X33, e33, k⟩ := own_cCh X32 hx hw hZ hown e32 k (((T_a1.ext E21).keep (a0 := a0) KC26 all0).ext E27) ((own_sta_keep (S_COMPACT_STRINGS.ext E21) KC26 ns0).ext E27) hz ((own_sta_keep (S_SIOOBE_FORMATTER.ext E21) KC26 ns0).ext E27) hrS 2 (2 : Int32) (Nat.le_of_ble_eq_true rfl) (by decide) 145 50 52 51 8 rfl rfl rfl rfl rfl rfl rfl (by rw [hml]; rfl) [] rfl (W := 0) own_le (D 14 rfl) (by decide) (by decide) (by decide) (by decide)
  replace k : ow T33 (mkF m 85 #[ow_r a1, ow_i ((0 : Int32) + (if (if (own_ix1 b ([68, 74] : List Int32)) < (0 : Int32) then (0 : Int32) else (1 : Int32)) = (0 : Int32) then (1 : Int32) else (2 : Int32))), ow_i 2, ow_i 2, ow_i (if (own_ix1 b ([68, 74] : List Int32)) < (0 : Int32) then (0 : Int32) else (1 : Int32))] []) := fun t q => k t (XS.bipush X33.here hx rfl (D 15 rfl) (XS.icmpYes X33.here hx rfl (pc0 := 30) (pc' := 85) rfl (D 16 rfl) rfl (teq (show (41 : Int32) = (41 : Int32) from (by decide))).1 (by decide) (by decide) q))
  replace k : ow T33 (mkF m 87 #[ow_r a1, ow_i ((0 : Int32) + (if (if (own_ix1 b ([68, 74] : List Int32)) < (0 : Int32) then (0 : Int32) else (1 : Int32)) = (0 : Int32) then (1 : Int32) else (2 : Int32))), ow_i 2, ow_i 2, ow_i (if (own_ix1 b ([68, 74] : List Int32)) < (0 : Int32) then (0 : Int32) else (1 : Int32))] [(.ref a1), (.int 2)]) := fun t q => k t (XS.iloadN X33.here hx rfl (D 17 rfl) rfl (XS.aloadN X33.here hx rfl (D 18 rfl) rfl rfl q))
  obtain ⟨_, T34, L34, X34, hQ34, k⟩ := own_cV X33 hx hw hZ hown e33 k (own_m22 l Z a0 hw [] a1 ([40, (b.toInt8.toInt32), 41, 86] : List Int32) bo22 ko22 w_COMPACT_STRINGS h27 n0 Z27 ((Vo22.keep KC26 nin0).ext E27) ((Ao22.keep KC26 nin0).ext E27) ((own_sta_keep (S_COMPACT_STRINGS.ext E21) KC26 ns0).ext E27) ((Co22.keep KC26 nin0).ext E27) ((Eo22.keep KC26).ext E27) hz) 147 99 101 100 102 9 rfl rfl rfl rfl rfl rfl ((Eo22.keep KC26).ext E27) (by decide) rfl (by rw [hml]; rfl) [] [(.int 2)] (lenOf own_pd5 rfl) rfl rfl (W := 1) own_le (D 19 rfl) (by decide) (by decide) (by decide) (by decide)
  rw [show own_f22 ([40, (b.toInt8.toInt32), 41, 86] : List Int32) = (4 : Int32) from rfl] at hQ34
  obtain ⟨rfl, N34q, e34⟩ := hQ34
  have N34 := Fr.app N32 N34q
  replace k : ow T34 (mkF m 95 #[ow_r a1, ow_i ((0 : Int32) + (if (if (own_ix1 b ([68, 74] : List Int32)) < (0 : Int32) then (0 : Int32) else (1 : Int32)) = (0 : Int32) then (1 : Int32) else (2 : Int32))), ow_i 2, ow_i 2, ow_i (if (own_ix1 b ([68, 74] : List Int32)) < (0 : Int32) then (0 : Int32) else (1 : Int32))] []) := fun t q => k t (XS.icmpYes X34.here hx rfl (pc0 := 90) (pc' := 95) rfl (D 20 rfl) rfl (feq (show ¬ ((2 : Int32) = (4 : Int32)) from (by decide))).2 (by decide) (by decide) q)
  replace k : ow T34 (mkF m 97 #[ow_r a1, ow_i ((0 : Int32) + (if (if (own_ix1 b ([68, 74] : List Int32)) < (0 : Int32) then (0 : Int32) else (1 : Int32)) = (0 : Int32) then (1 : Int32) else (2 : Int32))), ow_i 2, ow_i 2, ow_i (if (own_ix1 b ([68, 74] : List Int32)) < (0 : Int32) then (0 : Int32) else (1 : Int32))] [(.int 1), (.int 2)]) := fun t q => k t (XS.iloadN X34.here hx rfl (D 21 rfl) rfl (XS.iconst X34.here hx rfl (D 22 rfl) q))
  replace k : ow T34 (mkF m 98 #[ow_r a1, ow_i ((0 : Int32) + (if (if (own_ix1 b ([68, 74] : List Int32)) < (0 : Int32) then (0 : Int32) else (1 : Int32)) = (0 : Int32) then (1 : Int32) else (2 : Int32))), ow_i 2, ow_i 2, ow_i (if (own_ix1 b ([68, 74] : List Int32)) < (0 : Int32) then (0 : Int32) else (1 : Int32))] [(.int 3)]) := fun t q => k t (XS.iadd X34.here hx rfl (D 23 rfl) rfl (by rw [show ((2 : Int32) + (1 : Int32)) = (3 : Int32) from by decide]; exact q))
  obtain ⟨a35, T35, h35, k135, bs35, kc35, X35, e35, E35, hS35, hk35, hZ, hown, EX35, FC35, FV35, AV35, la35, lb35, CU35, LT35, SX35, st35⟩ := own_ldc X34 hx hZ hown (own_h hw 176 rfl) (own_wS hw) e34 hS27 hk27 (own_EW hw) (List.mem_of_getElem? (i := 5) rfl) (EJ := own_J) (List.mem_of_getElem? (i := 5) rfl) CH27 (vs := [(.int 86)]) (z := (1 : Int32)) ⟨by decide, by decide⟩ (by decide) (by decide) (g := (mkF m 100 #[ow_r a1, ow_i ((0 : Int32) + (if (if (own_ix1 b ([68, 74] : List Int32)) < (0 : Int32) then (0 : Int32) else (1 : Int32)) = (0 : Int32) then (1 : Int32) else (2 : Int32))), ow_i 2, ow_i 3, ow_i (if (own_ix1 b ([68, 74] : List Int32)) < (0 : Int32) then (0 : Int32) else (1 : Int32))] [(.ref a1)])) rfl (D 26 rfl) (n := 4) (by decide) (by decide) (by decide) (by decide)
  have Z35 : n0 ≤ h35.size := Nat.le_trans Z27 E35.1
  have K35 : Keep h0 h35 [] := K27.ext E35
  have CR35 := CR27.trans CU35
  have CH35 := CU35.1
  replace k : ow T35 (mkF m 102 #[ow_r a1, ow_i ((0 : Int32) + (if (if (own_ix1 b ([68, 74] : List Int32)) < (0 : Int32) then (0 : Int32) else (1 : Int32)) = (0 : Int32) then (1 : Int32) else (2 : Int32))), ow_i 2, ow_i 3, ow_i (if (own_ix1 b ([68, 74] : List Int32)) < (0 : Int32) then (0 : Int32) else (1 : Int32))] [(.ref a35), (.ref a1)]) := fun t q => k t (XS.istoreN X34.here hx rfl (D 24 rfl) rfl (l' := #[ow_r a1, ow_i ((0 : Int32) + (if (if (own_ix1 b ([68, 74] : List Int32)) < (0 : Int32) then (0 : Int32) else (1 : Int32)) = (0 : Int32) then (1 : Int32) else (2 : Int32))), ow_i 2, ow_i 3, ow_i (if (own_ix1 b ([68, 74] : List Int32)) < (0 : Int32) then (0 : Int32) else (1 : Int32))]) rfl (XS.aloadN X34.here hx rfl (D 25 rfl) rfl rfl (st35 t q)))
  clear st35
  replace k : ow T35 (mkF m 103 #[ow_r a1, ow_i ((0 : Int32) + (if (if (own_ix1 b ([68, 74] : List Int32)) < (0 : Int32) then (0 : Int32) else (1 : Int32)) = (0 : Int32) then (1 : Int32) else (2 : Int32))), ow_i 2, ow_i 3, ow_i (if (own_ix1 b ([68, 74] : List Int32)) < (0 : Int32) then (0 : Int32) else (1 : Int32))] [(.int 3), (.ref a35), (.ref a1)]) := fun t q => k t (XS.iloadN X35.here hx rfl (D 27 rfl) rfl q)
  obtain ⟨_, T36, L36, X36, hQ36, k⟩ := own_cV X35 hx hw hZ hown e35 k (own_m21 l Z a0 hw [] a1 a35 ([40, (b.toInt8.toInt32), 41, 86] : List Int32) ([86] : List Int32) 3 bo22 ko22 w_COMPACT_STRINGS bs35 kc35 h35 n0 Z35 (((Vo22.keep KC26 nin0).ext E27).ext E35) (((Ao22.keep KC26 nin0).ext E27).ext E35) (((own_sta_keep (S_COMPACT_STRINGS.ext E21) KC26 ns0).ext E27).ext E35) (((Co22.keep KC26 nin0).ext E27).ext E35) (((Eo22.keep KC26).ext E27).ext E35) FV35 AV35 FC35 EX35 hz (by first | assumption | exact Nat.le_of_ble_eq_true rfl | rfl | omega | decide) (by first | assumption | exact Nat.le_of_ble_eq_true rfl | rfl | omega | decide) (by first | assumption | exact Nat.le_of_ble_eq_true rfl | rfl | omega | decide)) 177 94 96 95 97 9 rfl rfl rfl rfl rfl rfl (((Eo22.keep KC26).ext E27).ext E35) (by decide) rfl (by rw [hml]; rfl) [(.ref a35), (.int 3)] [] (lenOf own_pd7 rfl) rfl rfl (W := 0) own_le (D 28 rfl) (by decide) (by decide) (by decide) (by decide)
  rw [show own_f21 ([40, (b.toInt8.toInt32), 41, 86] : List Int32) ([86] : List Int32) 3 = (1 : Int32) from by unfold own_f21; rw [if_pos (show (own_mis ([40, (b.toInt8.toInt32), 41, 86] : List Int32) ([86] : List Int32) 3) < (0 : Int32) from (by show own_mmA [(86 : Int32)] [(86 : Int32)] 0 < 0; decide))]] at hQ36
  obtain ⟨rfl, N36q, e36⟩ := hQ36
  have N36 := Fr.app N34 N36q
  replace k : ow T36 (mkF m 109 #[ow_r a1, ow_i ((0 : Int32) + (if (if (own_ix1 b ([68, 74] : List Int32)) < (0 : Int32) then (0 : Int32) else (1 : Int32)) = (0 : Int32) then (1 : Int32) else (2 : Int32))), ow_i 2, ow_i 3, ow_i (if (own_ix1 b ([68, 74] : List Int32)) < (0 : Int32) then (0 : Int32) else (1 : Int32))] []) := fun t q => k t (XS.ifNo X36.here hx rfl (D 29 rfl) rfl ((if0 _ _).trans (feq (show ¬ ((1 : Int32) = (0 : Int32)) from (by decide))).1) q)
  replace k : ow T36 (mkF m 111 #[ow_r a1, ow_i ((0 : Int32) + (if (if (own_ix1 b ([68, 74] : List Int32)) < (0 : Int32) then (0 : Int32) else (1 : Int32)) = (0 : Int32) then (1 : Int32) else (2 : Int32))), ow_i 2, ow_i 3, ow_i (if (own_ix1 b ([68, 74] : List Int32)) < (0 : Int32) then (0 : Int32) else (1 : Int32))] [(.int 1), (.int 3)]) := fun t q => k t (XS.iloadN X36.here hx rfl (D 30 rfl) rfl (XS.iconst X36.here hx rfl (D 31 rfl) q))
  replace k : ow T36 (mkF m 112 #[ow_r a1, ow_i ((0 : Int32) + (if (if (own_ix1 b ([68, 74] : List Int32)) < (0 : Int32) then (0 : Int32) else (1 : Int32)) = (0 : Int32) then (1 : Int32) else (2 : Int32))), ow_i 2, ow_i 3, ow_i (if (own_ix1 b ([68, 74] : List Int32)) < (0 : Int32) then (0 : Int32) else (1 : Int32))] [(.int 4)]) := fun t q => k t (XS.iadd X36.here hx rfl (D 32 rfl) rfl (by rw [show ((3 : Int32) + (1 : Int32)) = (4 : Int32) from by decide]; exact q))
  replace k : ow T36 (mkF m 113 #[ow_r a1, ow_i ((0 : Int32) + (if (if (own_ix1 b ([68, 74] : List Int32)) < (0 : Int32) then (0 : Int32) else (1 : Int32)) = (0 : Int32) then (1 : Int32) else (2 : Int32))), ow_i 2, ow_i 3, ow_i (if (own_ix1 b ([68, 74] : List Int32)) < (0 : Int32) then (0 : Int32) else (1 : Int32))] [(.ref a1), (.int 4)]) := fun t q => k t (XS.aloadN X36.here hx rfl (D 33 rfl) rfl rfl q)
  obtain ⟨_, T37, L37, X37, hQ37, k⟩ := own_cV X36 hx hw hZ hown e36 k (own_m22 l Z a0 hw [] a1 ([40, (b.toInt8.toInt32), 41, 86] : List Int32) bo22 ko22 w_COMPACT_STRINGS h35 n0 Z35 (((Vo22.keep KC26 nin0).ext E27).ext E35) (((Ao22.keep KC26 nin0).ext E27).ext E35) (((own_sta_keep (S_COMPACT_STRINGS.ext E21) KC26 ns0).ext E27).ext E35) (((Co22.keep KC26 nin0).ext E27).ext E35) (((Eo22.keep KC26).ext E27).ext E35) hz) 147 99 101 100 102 9 rfl rfl rfl rfl rfl rfl (((Eo22.keep KC26).ext E27).ext E35) (by decide) rfl (by rw [hml]; rfl) [] [(.int 4)] (lenOf own_pd5 rfl) rfl rfl (W := 1) own_le (D 34 rfl) (by decide) (by decide) (by decide) (by decide)
  rw [show own_f22 ([40, (b.toInt8.toInt32), 41, 86] : List Int32) = (4 : Int32) from rfl] at hQ37
  obtain ⟨rfl, N37q, e37⟩ := hQ37
  have N37 := Fr.app N36 N37q
  replace k : ow T37 (mkF m 119 #[ow_r a1, ow_i ((0 : Int32) + (if (if (own_ix1 b ([68, 74] : List Int32)) < (0 : Int32) then (0 : Int32) else (1 : Int32)) = (0 : Int32) then (1 : Int32) else (2 : Int32))), ow_i 2, ow_i 3, ow_i (if (own_ix1 b ([68, 74] : List Int32)) < (0 : Int32) then (0 : Int32) else (1 : Int32))] []) := fun t q => k t (XS.icmpNo X37.here hx rfl (D 35 rfl) rfl (teq (show (4 : Int32) = (4 : Int32) from (by decide))).2 q)
  replace k : ow T37 (mkF m 124 #[ow_r a1, ow_i ((0 : Int32) + (if (if (own_ix1 b ([68, 74] : List Int32)) < (0 : Int32) then (0 : Int32) else (1 : Int32)) = (0 : Int32) then (1 : Int32) else (2 : Int32))), ow_i 2, ow_i 3, ow_i (if (own_ix1 b ([68, 74] : List Int32)) < (0 : Int32) then (0 : Int32) else (1 : Int32))] [(.int ((0 : Int32) + (if (if (own_ix1 b ([68, 74] : List Int32)) < (0 : Int32) then (0 : Int32) else (1 : Int32)) = (0 : Int32) then (1 : Int32) else (2 : Int32))))]) := fun t q => k t (XS.iloadN X37.here hx rfl (D 36 rfl) rfl (XS.goto X37.here hx rfl (pc0 := 120) (pc' := 124) rfl (D 37 rfl) (by decide) (by decide) q))
  exact own_endS (v := some (.int ((0 : Int32) + (if (if (own_ix1 b ([68, 74] : List Int32)) < (0 : Int32) then (0 : Int32) else (1 : Int32)) = (0 : Int32) then (1 : Int32) else (2 : Int32))))) X37 e37 hS35 hk35 hh Bd.notSynchronized (own_vn Bd.returns) k (fun _ hr => retI X37 hx Bd.returns (D 38 rfl) hr) ⟨((0 : Int32) + (if (if (own_ix1 b ([68, 74] : List Int32)) < (0 : Int32) then (0 : Int32) else (1 : Int32)) = (0 : Int32) then (1 : Int32) else (2 : Int32))), rfl, ⟨by repeat' split <;> decide, by repeat' split <;> decide⟩, N37, K35⟩ (CR35.trans (own_CP.at own_J X37 hZ (own_EW hw) CH35)) (by decide) (by decide)
def own_m39_3b_Q (Z : State) (a1 : Addr) (r : Int32) (w_COMPACT_STRINGS : Int32) (w_SIOOBE_FORMATTER : Value) (h0 : Heap) (n0 : Nat) (v : Option Value) (h : Heap) (L : List Loc) : Prop := ∃ k : Int32, v = some (.int k) ∧ (¬ k < 0 ∧ ¬ (255 : Int32) < k) ∧ Fr n0 L ∧ Keep h0 h []
set_option maxRecDepth 65536 in
set_option maxHeartbeats 40000000 in
theorem own_m39_3b (l : Launch) (Z : State) (a0 : Array Value) (hw : ∀ d ∈ tables_1, d.before a0 Z = true) (ws : List Jvm.Cond) (a1 : Addr) (r : Int32) (w_COMPACT_STRINGS : Int32) (w_SIOOBE_FORMATTER : Value) (h0 : Heap) (n0 : Nat) (Z0 : n0 ≤ h0.size) (T_a1 : own_Str Z h0 a1 ([40, 41, r] : List Int32)) (S_COMPACT_STRINGS : Sta Z h0 "java/lang/String" "COMPACT_STRINGS" "Z" (.int w_COMPACT_STRINGS)) (S_SIOOBE_FORMATTER : Sta Z h0 "jdk/internal/util/Preconditions" "SIOOBE_FORMATTER" "Ljava/util/function/BiFunction;" w_SIOOBE_FORMATTER) (hz : ¬ (w_COMPACT_STRINGS = (0 : Int32))) (hrS : w_SIOOBE_FORMATTER.isRef = true) (okr : own_okb r) :
    own_MS l Z own_y39 ws prog_120_method_8_code 5 (some .int) ({ frames := 5, cells := 10, slots := 100, locals := 76 } : Room) #[(.ref a1)] h0 (own_CP Z consts_1 own_J) (own_m39_3b_Q Z a1 r w_COMPACT_STRINGS w_SIOOBE_FORMATTER h0 n0) := by
  refine own_goS own_CP.refl "com/example/callsite/callsite/model/JvmNames" rfl (plainFor_of_name own_pn39) (fun m => own_ef39 m a1) own_d39 n0 fun p e s m below meth c s₁ A0 Bd hx D hml hown hnm X0 hZ e0 N0 hh CH0 hS0 hk0 CR0 k => ?_
  obtain ⟨a21, T21, h21, k121, bs21, kc21, X21, e21, E21, hS21, hk21, hZ, hown, EX21, FC21, FV21, AV21, la21, lb21, CU21, LT21, SX21, st21⟩ := own_ldc X0 hx hZ hown (own_h hw 170 rfl) (own_wS hw) e0 hS0 hk0 (own_EW hw) (List.mem_of_getElem? (i := 3) rfl) (EJ := own_J) (List.mem_of_getElem? (i := 3) rfl) CH0 (vs := [(.int 40)]) (z := (1 : Int32)) ⟨by decide, by decide⟩ (by decide) (by decide) (g := (mkF m 1 #[ow_r a1, .unset, .unset, .unset, .unset] [(.ref a1)])) rfl (D 1 rfl) (n := 4) (by decide) (by decide) (by decide) (by decide)
  have Z21 : n0 ≤ h21.size := Nat.le_trans Z0 E21.1
  have K21 : Keep h0 h21 [] := (Keep.refl h0 []).ext E21
  have CR21 := CR0.trans CU21
  have CH21 := CU21.1
  replace k : ow T21 (mkF m 3 #[ow_r a1, .unset, .unset, .unset, .unset] [(.ref a21), (.ref a1)]) := fun t q => k t (XS.aloadN X0.here hx rfl (D 0 rfl) rfl rfl (st21 t q))
  clear st21
  obtain ⟨bo22, ko22, Eo22, Vo22, Co22, Ao22⟩ := own_Str.open_ (T_a1.ext E21)
  have Ao22 : Arv Z h21 bo22 ko22 .byte (3 : Int32) [(.int 40), (.int 41), (.int (r.toInt8.toInt32))] (.int 0) := Ao22
  obtain ⟨_, T23, L23, X23, hQ23, k⟩ := own_cV X21 hx hw hZ hown e21 k (own_m20 l Z a0 hw [] a1 a21 ([40, 41, (r.toInt8.toInt32)] : List Int32) ([40] : List Int32) bo22 ko22 w_COMPACT_STRINGS bs21 kc21 h21 n0 Z21 Vo22 Ao22 (S_COMPACT_STRINGS.ext E21) Co22 Eo22 FV21 AV21 FC21 EX21 hz (by first | assumption | exact Nat.le_of_ble_eq_true rfl | rfl | omega | decide) (by first | assumption | exact Nat.le_of_ble_eq_true rfl | rfl | omega | decide) (by first | assumption | exact Nat.le_of_ble_eq_true rfl | rfl | omega | decide)) 88 89 91 90 92 9 rfl rfl rfl rfl rfl rfl Eo22 (by decide) rfl (by rw [hml]; rfl) [(.ref a21)] [] (lenOf own_pd10 rfl) rfl rfl (W := 0) own_le (D 2 rfl) (by decide) (by decide) (by decide) (by decide)
  rw [show own_f20 ([40, 41, (r.toInt8.toInt32)] : List Int32) ([40] : List Int32) = (1 : Int32) from by unfold own_f20; rw [if_pos (show (own_mis ([40, 41, (r.toInt8.toInt32)] : List Int32) ([40] : List Int32) 0) < (0 : Int32) from (by show own_mmA ((40 : Int32) :: _) [(40 : Int32)] 0 < 0; unfold own_mmA; rw [if_pos rfl, own_mmA_nil]; decide))]] at hQ23
  obtain ⟨rfl, N23q, e23⟩ := hQ23
  have N23 := Fr.app N0 N23q
  replace k : ow T23 (mkF m 11 #[ow_r a1, .unset, .unset, .unset, .unset] []) := fun t q => k t (XS.ifYes X23.here hx rfl (pc0 := 6) (pc' := 11) rfl (D 3 rfl) rfl ((if0 _ _).trans (feq (show ¬ ((1 : Int32) = (0 : Int32)) from (by decide))).2) (by decide) (by decide) q)
  replace k : ow T23 (mkF m 14 #[ow_r a1, ow_i 0, .unset, .unset, .unset] [(.int 1)]) := fun t q => k t (XS.iconst X23.here hx rfl (D 4 rfl) (XS.istoreN X23.here hx rfl (D 5 rfl) rfl (l' := #[ow_r a1, ow_i 0, .unset, .unset, .unset]) rfl (XS.iconst X23.here hx rfl (D 6 rfl) q)))
  replace k : ow T23 (mkF m 17 #[ow_r a1, ow_i 0, ow_i 1, .unset, .unset] [(.ref a1), (.int 1)]) := fun t q => k t (XS.istoreN X23.here hx rfl (D 7 rfl) rfl (l' := #[ow_r a1, ow_i 0, ow_i 1, .unset, .unset]) rfl (XS.iloadN X23.here hx rfl (D 8 rfl) rfl (XS.aloadN X23.here hx rfl (D 9 rfl) rfl rfl q)))
  obtain ⟨_, T24, L24, X24, hQ24, k⟩ := own_cV X23 hx hw hZ hown e23 k (own_m22 l Z a0 hw [] a1 ([40, 41, (r.toInt8.toInt32)] : List Int32) bo22 ko22 w_COMPACT_STRINGS h21 n0 Z21 Vo22 Ao22 (S_COMPACT_STRINGS.ext E21) Co22 Eo22 hz) 147 99 101 100 102 9 rfl rfl rfl rfl rfl rfl Eo22 (by decide) rfl (by rw [hml]; rfl) [] [(.int 1)] (lenOf own_pd5 rfl) rfl rfl (W := 1) own_le (D 10 rfl) (by decide) (by decide) (by decide) (by decide)
  rw [show own_f22 ([40, 41, (r.toInt8.toInt32)] : List Int32) = (3 : Int32) from rfl] at hQ24
  obtain ⟨rfl, N24q, e24⟩ := hQ24
  have N24 := Fr.app N23 N24q
  replace k : ow T24 (mkF m 23 #[ow_r a1, ow_i 0, ow_i 1, .unset, .unset] []) := fun t q => k t (XS.icmpNo X24.here hx rfl (D 11 rfl) rfl (tlt (show (1 : Int32) < (3 : Int32) from (by decide))).2.1 q)
  replace k : ow T24 (mkF m 25 #[ow_r a1, ow_i 0, ow_i 1, .unset, .unset] [(.int 1), (.ref a1)]) := fun t q => k t (XS.aloadN X24.here hx rfl (D 12 rfl) rfl rfl (XS.iloadN X24.here hx rfl (D 13 rfl) rfl q))
  obtain ⟨T25, X25, e25, k⟩ := own_cCh X24 hx hw hZ hown e24 k (T_a1.ext E21) (S_COMPACT_STRINGS.ext E21) hz (S_SIOOBE_FORMATTER.ext E21) hrS 1 (1 : Int32) (Nat.le_of_ble_eq_true rfl) (by decide) 145 50 52 51 8 rfl rfl rfl rfl rfl rfl rfl (by rw [hml]; rfl) [] rfl (W := 0) own_le (D 14 rfl) (by decide) (by decide) (by decide) (by decide)
  replace k : ow T25 (mkF m 85 #[ow_r a1, ow_i 0, ow_i 1, .unset, .unset] []) := fun t q => k t (XS.bipush X25.here hx rfl (D 15 rfl) (XS.icmpYes X25.here hx rfl (pc0 := 30) (pc' := 85) rfl (D 16 rfl) rfl (teq (show (41 : Int32) = (41 : Int32) from (by decide))).1 (by decide) (by decide) q))
  replace k : ow T25 (mkF m 87 #[ow_r a1, ow_i 0, ow_i 1, .unset, .unset] [(.ref a1), (.int 1)]) := fun t q => k t (XS.iloadN X25.here hx rfl (D 17 rfl) rfl (XS.aloadN X25.here hx rfl (D 18 rfl) rfl rfl q))
  obtain ⟨_, T26, L26, X26, hQ26, k⟩ := own_cV X25 hx hw hZ hown e25 k (own_m22 l Z a0 hw [] a1 ([40, 41, (r.toInt8.toInt32)] : List Int32) bo22 ko22 w_COMPACT_STRINGS h21 n0 Z21 Vo22 Ao22 (S_COMPACT_STRINGS.ext E21) Co22 Eo22 hz) 147 99 101 100 102 9 rfl rfl rfl rfl rfl rfl Eo22 (by decide) rfl (by rw [hml]; rfl) [] [(.int 1)] (lenOf own_pd5 rfl) rfl rfl (W := 1) own_le (D 19 rfl) (by decide) (by decide) (by decide) (by decide)
  rw [show own_f22 ([40, 41, (r.toInt8.toInt32)] : List Int32) = (3 : Int32) from rfl] at hQ26
  obtain ⟨rfl, N26q, e26⟩ := hQ26
  have N26 := Fr.app N24 N26q
  replace k : ow T26 (mkF m 95 #[ow_r a1, ow_i 0, ow_i 1, .unset, .unset] []) := fun t q => k t (XS.icmpYes X26.here hx rfl (pc0 := 90) (pc' := 95) rfl (D 20 rfl) rfl (feq (show ¬ ((1 : Int32) = (3 : Int32)) from (by decide))).2 (by decide) (by decide) q)
  replace k : ow T26 (mkF m 97 #[ow_r a1, ow_i 0, ow_i 1, .unset, .unset] [(.int 1), (.int 1)]) := fun t q => k t (XS.iloadN X26.here hx rfl (D 21 rfl) rfl (XS.iconst X26.here hx rfl (D 22 rfl) q))
  replace k : ow T26 (mkF m 98 #[ow_r a1, ow_i 0, ow_i 1, .unset, .unset] [(.int 2)]) := fun t q => k t (XS.iadd X26.here hx rfl (D 23 rfl) rfl (by rw [show ((1 : Int32) + (1 : Int32)) = (2 : Int32) from by decide]; exact q))
  obtain ⟨a27, T27, h27, k127, bs27, kc27, X27, e27, E27, hS27, hk27, hZ, hown, EX27, FC27, FV27, AV27, la27, lb27, CU27, LT27, SX27, st27⟩ := own_ldc X26 hx hZ hown (own_h hw 176 rfl) (own_wS hw) e26 hS21 hk21 (own_EW hw) (List.mem_of_getElem? (i := 5) rfl) (EJ := own_J) (List.mem_of_getElem? (i := 5) rfl) CH21 (vs := [(.int 86)]) (z := (1 : Int32)) ⟨by decide, by decide⟩ (by decide) (by decide) (g := (mkF m 100 #[ow_r a1, ow_i 0, ow_i 1, ow_i 2, .unset] [(.ref a1)])) rfl (D 26 rfl) (n := 4) (by decide) (by decide) (by decide) (by decide)
  have Z27 : n0 ≤ h27.size := Nat.le_trans Z21 E27.1
  have K27 : Keep h0 h27 [] := K21.ext E27
  have CR27 := CR21.trans CU27
  have CH27 := CU27.1
  replace k : ow T27 (mkF m 102 #[ow_r a1, ow_i 0, ow_i 1, ow_i 2, .unset] [(.ref a27), (.ref a1)]) := fun t q => k t (XS.istoreN X26.here hx rfl (D 24 rfl) rfl (l' := #[ow_r a1, ow_i 0, ow_i 1, ow_i 2, .unset]) rfl (XS.aloadN X26.here hx rfl (D 25 rfl) rfl rfl (st27 t q)))
  clear st27
  replace k : ow T27 (mkF m 103 #[ow_r a1, ow_i 0, ow_i 1, ow_i 2, .unset] [(.int 2), (.ref a27), (.ref a1)]) := fun t q => k t (XS.iloadN X27.here hx rfl (D 27 rfl) rfl q)
  obtain ⟨_, T28, L28, X28, hQ28, k⟩ := own_cV X27 hx hw hZ hown e27 k (own_m21 l Z a0 hw [] a1 a27 ([40, 41, (r.toInt8.toInt32)] : List Int32) ([86] : List Int32) 2 bo22 ko22 w_COMPACT_STRINGS bs27 kc27 h27 n0 Z27 (Vo22.ext E27) (Ao22.ext E27) ((S_COMPACT_STRINGS.ext E21).ext E27) (Co22.ext E27) (Eo22.ext E27) FV27 AV27 FC27 EX27 hz (by first | assumption | exact Nat.le_of_ble_eq_true rfl | rfl | omega | decide) (by first | assumption | exact Nat.le_of_ble_eq_true rfl | rfl | omega | decide) (by first | assumption | exact Nat.le_of_ble_eq_true rfl | rfl | omega | decide)) 177 94 96 95 97 9 rfl rfl rfl rfl rfl rfl (Eo22.ext E27) (by decide) rfl (by rw [hml]; rfl) [(.ref a27), (.int 2)] [] (lenOf own_pd7 rfl) rfl rfl (W := 0) own_le (D 28 rfl) (by decide) (by decide) (by decide) (by decide)
  rw [show own_f21 ([40, 41, (r.toInt8.toInt32)] : List Int32) ([86] : List Int32) 2 = (0 : Int32) from by unfold own_f21; rw [if_neg (show ¬ ((own_mis ([40, 41, (r.toInt8.toInt32)] : List Int32) ([86] : List Int32) 2) < (0 : Int32)) from (by show ¬ (own_mmA [r.toInt8.toInt32] [86] 0 < 0); exact own_mis_no okr.ne.2.2.2))]] at hQ28
  obtain ⟨rfl, N28q, e28⟩ := hQ28
  have N28 := Fr.app N26 N28q
  replace k : ow T28 (mkF m 125 #[ow_r a1, ow_i 0, ow_i 1, ow_i 2, .unset] []) := fun t q => k t (XS.ifYes X28.here hx rfl (pc0 := 106) (pc' := 125) rfl (D 29 rfl) rfl ((if0 _ _).trans (teq (show (0 : Int32) = (0 : Int32) from (by decide))).1) (by decide) (by decide) q)
  replace k : ow T28 (mkF m 129 #[ow_r a1, ow_i 0, ow_i 1, ow_i 2, .unset] [(.int 47), (.int 2), (.ref a1)]) := fun t q => k t (XS.aloadN X28.here hx rfl (D 67 rfl) rfl rfl (XS.iloadN X28.here hx rfl (D 68 rfl) rfl (XS.bipush X28.here hx rfl (D 69 rfl) q)))
  obtain ⟨_, T29, L29, h29, X29, hS29, hZ, hown, e29, hQ29, CU29, k⟩ := own_cSS X28 hx hw hZ hown e28 hS27 hk27 k (own_backP (EJ := own_J) (W := 0) (own_m40_3 l Z a0 hw [] a1 r w_COMPACT_STRINGS w_SIOOBE_FORMATTER h27 n0 Z27 ((T_a1.ext E21).ext E27) ((S_COMPACT_STRINGS.ext E21).ext E27) ((S_SIOOBE_FORMATTER.ext E21).ext E27) hz hrS okr) hZ (own_h hw 173 rfl) (own_h hw 85 rfl) (by decide) (by decide) (own_EW hw) CH27) 171 172 85 173 rfl rfl rfl rfl (by decide) rfl (by rw [hml]; rfl) [(.ref a1), (.int 2), (.int 47)] [] (lenOf own_pd12 rfl) rfl rfl own_le (D 70 rfl) (by decide) (by decide)
  have hk29 := Nat.le_refl h29.size
  have CR29 := CR27.trans CU29
  have CH29 := CU29.1
  obtain ⟨rfl, N29q, KC29⟩ := hQ29
  have KK29 : Keep h0 h29 [] := K27.trans KC29 all0
  have Z29 : n0 ≤ h29.size := Nat.le_trans Z27 KC29.1
  have N29 := Fr.app N28 N29q
  replace k : ow T29 (mkF m 133 #[ow_r a1, ow_i 0, ow_i 1, ow_i 2, .unset] [(.ref a1), (.int 3)]) := fun t q => k t (XS.aloadN X29.here hx rfl (D 71 rfl) rfl rfl q)
  obtain ⟨_, T30, L30, X30, hQ30, k⟩ := own_cV X29 hx hw hZ hown e29 k (own_m22 l Z a0 hw [] a1 ([40, 41, (r.toInt8.toInt32)] : List Int32) bo22 ko22 w_COMPACT_STRINGS h29 n0 Z29 ((Vo22.ext E27).keep KC29 nin0) ((Ao22.ext E27).keep KC29 nin0) (own_sta_keep ((S_COMPACT_STRINGS.ext E21).ext E27) KC29 ns0) ((Co22.ext E27).keep KC29 nin0) ((Eo22.ext E27).keep KC29) hz) 147 99 101 100 102 9 rfl rfl rfl rfl rfl rfl ((Eo22.ext E27).keep KC29) (by decide) rfl (by rw [hml]; rfl) [] [(.int 3)] (lenOf own_pd5 rfl) rfl rfl (W := 1) own_le (D 72 rfl) (by decide) (by decide) (by decide) (by decide)
  rw [show own_f22 ([40, 41, (r.toInt8.toInt32)] : List Int32) = (3 : Int32) from rfl] at hQ30
  obtain ⟨rfl, N30q, e30⟩ := hQ30
  have N30 := Fr.app N29 N30q
  replace k : ow T30 (mkF m 139 #[ow_r a1, ow_i 0, ow_i 1, ow_i 2, .unset] []) := fun t q => k t (XS.icmpNo X30.here hx rfl (D 73 rfl) rfl (teq (show (3 : Int32) = (3 : Int32) from (by decide))).2 q)
  replace k : ow T30 (mkF m 144 #[ow_r a1, ow_i 0, ow_i 1, ow_i 2, .unset] [(.int 0)]) := fun t q => k t (XS.iloadN X30.here hx rfl (D 74 rfl) rfl (XS.goto X30.here hx rfl (pc0 := 140) (pc' := 144) rfl (D 75 rfl) (by decide) (by decide) q))
  exact own_endS (v := some (.int 0)) X30 e30 hS29 hk29 hh Bd.notSynchronized (own_vn Bd.returns) k (fun _ hr => retI X30 hx Bd.returns (D 76 rfl) hr) ⟨(0 : Int32), rfl, ⟨by decide, by decide⟩, N30, KK29⟩ (CR29.trans (own_CP.at own_J X30 hZ (own_EW hw) CH29)) (by decide) (by decide)
def own_m39_4b_Q (Z : State) (a1 : Addr) (b : Int32) (r : Int32) (w_COMPACT_STRINGS : Int32) (w_SIOOBE_FORMATTER : Value) (h0 : Heap) (n0 : Nat) (v : Option Value) (h : Heap) (L : List Loc) : Prop := ∃ k : Int32, v = some (.int k) ∧ (¬ k < 0 ∧ ¬ (255 : Int32) < k) ∧ Fr n0 L ∧ Keep h0 h []
set_option maxRecDepth 65536 in
set_option maxHeartbeats 40000000 in
theorem own_m39_4b (l : Launch) (Z : State) (a0 : Array Value) (hw : ∀ d ∈ tables_1, d.before a0 Z = true) (ws : List Jvm.Cond) (a1 : Addr) (b : Int32) (r : Int32) (w_COMPACT_STRINGS : Int32) (w_SIOOBE_FORMATTER : Value) (h0 : Heap) (n0 : Nat) (Z0 : n0 ≤ h0.size) (T_a1 : own_Str Z h0 a1 ([40, b, 41, r] : List Int32)) (S_COMPACT_STRINGS : Sta Z h0 "java/lang/String" "COMPACT_STRINGS" "Z" (.int w_COMPACT_STRINGS)) (S_SIOOBE_FORMATTER : Sta Z h0 "jdk/internal/util/Preconditions" "SIOOBE_FORMATTER" "Ljava/util/function/BiFunction;" w_SIOOBE_FORMATTER) (hz : ¬ (w_COMPACT_STRINGS = (0 : Int32))) (hrS : w_SIOOBE_FORMATTER.isRef = true) (okb : own_okb b) (okr : own_okb r) :
    own_MS l Z own_y39 ws prog_120_method_8_code 5 (some .int) ({ frames := 5, cells := 10, slots := 100, locals := 76 } : Room) #[(.ref a1)] h0 (own_CP Z consts_1 own_J) (own_m39_4b_Q Z a1 b r w_COMPACT_STRINGS w_SIOOBE_FORMATTER h0 n0) := by
  refine own_goS own_CP.refl "com/example/callsite/callsite/model/JvmNames" rfl (plainFor_of_name own_pn39) (fun m => own_ef39 m a1) own_d39 n0 fun p e s m below meth c s₁ A0 Bd hx D hml hown hnm X0 hZ e0 N0 hh CH0 hS0 hk0 CR0 k => ?_
  obtain ⟨a21, T21, h21, k121, bs21, kc21, X21, e21, E21, hS21, hk21, hZ, hown, EX21, FC21, FV21, AV21, la21, lb21, CU21, LT21, SX21, st21⟩ := own_ldc X0 hx hZ hown (own_h hw 170 rfl) (own_wS hw) e0 hS0 hk0 (own_EW hw) (List.mem_of_getElem? (i := 3) rfl) (EJ := own_J) (List.mem_of_getElem? (i := 3) rfl) CH0 (vs := [(.int 40)]) (z := (1 : Int32)) ⟨by decide, by decide⟩ (by decide) (by decide) (g := (mkF m 1 #[ow_r a1, .unset, .unset, .unset, .unset] [(.ref a1)])) rfl (D 1 rfl) (n := 4) (by decide) (by decide) (by decide) (by decide)
  have Z21 : n0 ≤ h21.size := Nat.le_trans Z0 E21.1
  have K21 : Keep h0 h21 [] := (Keep.refl h0 []).ext E21
  have CR21 := CR0.trans CU21
  have CH21 := CU21.1
  replace k : ow T21 (mkF m 3 #[ow_r a1, .unset, .unset, .unset, .unset] [(.ref a21), (.ref a1)]) := fun t q => k t (XS.aloadN X0.here hx rfl (D 0 rfl) rfl rfl (st21 t q))
  clear st21
  obtain ⟨bo22, ko22, Eo22, Vo22, Co22, Ao22⟩ := own_Str.open_ (T_a1.ext E21)
  have Ao22 : Arv Z h21 bo22 ko22 .byte (4 : Int32) [(.int 40), (.int (b.toInt8.toInt32)), (.int 41), (.int (r.toInt8.toInt32))] (.int 0) := Ao22
  obtain ⟨_, T23, L23, X23, hQ23, k⟩ := own_cV X21 hx hw hZ hown e21 k (own_m20 l Z a0 hw [] a1 a21 ([40, (b.toInt8.toInt32), 41, (r.toInt8.toInt32)] : List Int32) ([40] : List Int32) bo22 ko22 w_COMPACT_STRINGS bs21 kc21 h21 n0 Z21 Vo22 Ao22 (S_COMPACT_STRINGS.ext E21) Co22 Eo22 FV21 AV21 FC21 EX21 hz (by first | assumption | exact Nat.le_of_ble_eq_true rfl | rfl | omega | decide) (by first | assumption | exact Nat.le_of_ble_eq_true rfl | rfl | omega | decide) (by first | assumption | exact Nat.le_of_ble_eq_true rfl | rfl | omega | decide)) 88 89 91 90 92 9 rfl rfl rfl rfl rfl rfl Eo22 (by decide) rfl (by rw [hml]; rfl) [(.ref a21)] [] (lenOf own_pd10 rfl) rfl rfl (W := 0) own_le (D 2 rfl) (by decide) (by decide) (by decide) (by decide)
  rw [show own_f20 ([40, (b.toInt8.toInt32), 41, (r.toInt8.toInt32)] : List Int32) ([40] : List Int32) = (1 : Int32) from by unfold own_f20; rw [if_pos (show (own_mis ([40, (b.toInt8.toInt32), 41, (r.toInt8.toInt32)] : List Int32) ([40] : List Int32) 0) < (0 : Int32) from (by show own_mmA ((40 : Int32) :: _) [(40 : Int32)] 0 < 0; unfold own_mmA; rw [if_pos rfl, own_mmA_nil]; decide))]] at hQ23
  obtain ⟨rfl, N23q, e23⟩ := hQ23
  have N23 := Fr.app N0 N23q
  replace k : ow T23 (mkF m 11 #[ow_r a1, .unset, .unset, .unset, .unset] []) := fun t q => k t (XS.ifYes X23.here hx rfl (pc0 := 6) (pc' := 11) rfl (D 3 rfl) rfl ((if0 _ _).trans (feq (show ¬ ((1 : Int32) = (0 : Int32)) from (by decide))).2) (by decide) (by decide) q)
  replace k : ow T23 (mkF m 14 #[ow_r a1, ow_i 0, .unset, .unset, .unset] [(.int 1)]) := fun t q => k t (XS.iconst X23.here hx rfl (D 4 rfl) (XS.istoreN X23.here hx rfl (D 5 rfl) rfl (l' := #[ow_r a1, ow_i 0, .unset, .unset, .unset]) rfl (XS.iconst X23.here hx rfl (D 6 rfl) q)))
  replace k : ow T23 (mkF m 17 #[ow_r a1, ow_i 0, ow_i 1, .unset, .unset] [(.ref a1), (.int 1)]) := fun t q => k t (XS.istoreN X23.here hx rfl (D 7 rfl) rfl (l' := #[ow_r a1, ow_i 0, ow_i 1, .unset, .unset]) rfl (XS.iloadN X23.here hx rfl (D 8 rfl) rfl (XS.aloadN X23.here hx rfl (D 9 rfl) rfl rfl q)))
  obtain ⟨_, T24, L24, X24, hQ24, k⟩ := own_cV X23 hx hw hZ hown e23 k (own_m22 l Z a0 hw [] a1 ([40, (b.toInt8.toInt32), 41, (r.toInt8.toInt32)] : List Int32) bo22 ko22 w_COMPACT_STRINGS h21 n0 Z21 Vo22 Ao22 (S_COMPACT_STRINGS.ext E21) Co22 Eo22 hz) 147 99 101 100 102 9 rfl rfl rfl rfl rfl rfl Eo22 (by decide) rfl (by rw [hml]; rfl) [] [(.int 1)] (lenOf own_pd5 rfl) rfl rfl (W := 1) own_le (D 10 rfl) (by decide) (by decide) (by decide) (by decide)
  rw [show own_f22 ([40, (b.toInt8.toInt32), 41, (r.toInt8.toInt32)] : List Int32) = (4 : Int32) from rfl] at hQ24
  obtain ⟨rfl, N24q, e24⟩ := hQ24
  have N24 := Fr.app N23 N24q
  replace k : ow T24 (mkF m 23 #[ow_r a1, ow_i 0, ow_i 1, .unset, .unset] []) := fun t q => k t (XS.icmpNo X24.here hx rfl (D 11 rfl) rfl (tlt (show (1 : Int32) < (4 : Int32) from (by decide))).2.1 q)
  replace k : ow T24 (mkF m 25 #[ow_r a1, ow_i 0, ow_i 1, .unset, .unset] [(.int 1), (.ref a1)]) := fun t q => k t (XS.aloadN X24.here hx rfl (D 12 rfl) rfl rfl (XS.iloadN X24.here hx rfl (D 13 rfl) rfl q))
  obtain ⟨T25, X25, e25, k⟩ := own_cCh X24 hx hw hZ hown e24 k (T_a1.ext E21) (S_COMPACT_STRINGS.ext E21) hz (S_SIOOBE_FORMATTER.ext E21) hrS 1 (1 : Int32) (Nat.le_of_ble_eq_true rfl) (by decide) 145 50 52 51 8 rfl rfl rfl rfl rfl rfl rfl (by rw [hml]; rfl) [] rfl (W := 0) own_le (D 14 rfl) (by decide) (by decide) (by decide) (by decide)
  replace k : ow T25 (mkF m 33 #[ow_r a1, ow_i 0, ow_i 1, .unset, .unset] []) := fun t q => k t (XS.bipush X25.here hx rfl (D 15 rfl) (XS.icmpNo X25.here hx rfl (D 16 rfl) rfl (feq (show ¬ (b = (41 : Int32)) from okb.ne.1)).1 q))
  replace k : ow T25 (mkF m 37 #[ow_r a1, ow_i 0, ow_i 1, .unset, .unset] [(.int 47), (.int 1), (.ref a1)]) := fun t q => k t (XS.aloadN X25.here hx rfl (D 39 rfl) rfl rfl (XS.iloadN X25.here hx rfl (D 40 rfl) rfl (XS.bipush X25.here hx rfl (D 41 rfl) q)))
  obtain ⟨_, T26, L26, h26, X26, hS26, hZ, hown, e26, hQ26, CU26, k⟩ := own_cSS X25 hx hw hZ hown e25 hS21 hk21 k (own_backP (EJ := own_J) (W := 0) (own_m40_4a l Z a0 hw [] a1 b r w_COMPACT_STRINGS w_SIOOBE_FORMATTER h21 n0 Z21 (T_a1.ext E21) (S_COMPACT_STRINGS.ext E21) (S_SIOOBE_FORMATTER.ext E21) hz hrS okb) hZ (own_h hw 173 rfl) (own_h hw 85 rfl) (by decide) (by decide) (own_EW hw) CH21) 171 172 85 173 rfl rfl rfl rfl (by decide) rfl (by rw [hml]; rfl) [(.ref a1), (.int 1), (.int 47)] [] (lenOf own_pd12 rfl) rfl rfl own_le (D 42 rfl) (by decide) (by decide)
  have hk26 := Nat.le_refl h26.size
  have CR26 := CR21.trans CU26
  have CH26 := CU26.1
  obtain ⟨rfl, N26q, KC26⟩ := hQ26
  have KK26 : Keep h0 h26 [] := K21.trans KC26 all0
  have Z26 : n0 ≤ h26.size := Nat.le_trans Z21 KC26.1
  have N26 := Fr.app N24 N26q
  replace k : ow T26 (mkF m 47 #[ow_r a1, ow_i 0, ow_i 1, ow_i 2, .unset] []) := fun t q => k t (XS.istoreN X26.here hx rfl (D 43 rfl) rfl (l' := #[ow_r a1, ow_i 0, ow_i 1, ow_i 2, .unset]) rfl (XS.iloadN X26.here hx rfl (D 44 rfl) rfl (XS.ifYes X26.here hx rfl (pc0 := 42) (pc' := 47) rfl (D 45 rfl) rfl ((if0 _ _).trans (flt (show ¬ ((2 : Int32) < (0 : Int32)) from (by decide))).2.1) (by decide) (by decide) q)))
  obtain ⟨a27, T27, h27, k127, bs27, kc27, X27, e27, E27, hS27, hk27, hZ, hown, EX27, FC27, FV27, AV27, la27, lb27, CU27, LT27, SX27, st27⟩ := own_ldc X26 hx hZ hown (own_h hw 175 rfl) (own_wS hw) e26 hS26 hk26 (own_EW hw) (List.mem_of_getElem? (i := 4) rfl) (EJ := own_J) (List.mem_of_getElem? (i := 4) rfl) CH26 (vs := [(.int 68), (.int 74)]) (z := (2 : Int32)) ⟨by decide, by decide⟩ (by decide) (by decide) (g := (mkF m 47 #[ow_r a1, ow_i 0, ow_i 1, ow_i 2, .unset] [])) rfl (D 46 rfl) (n := 8) (by decide) (by decide) (by decide) (by decide)
  have Z27 : n0 ≤ h27.size := Nat.le_trans Z26 E27.1
  have K27 : Keep h0 h27 [] := KK26.ext E27
  have CR27 := CR26.trans CU27
  have CH27 := CU27.1
  replace k : ow T27 (mkF m 49 #[ow_r a1, ow_i 0, ow_i 1, ow_i 2, .unset] [(.ref a27)]) := fun t q => k t (st27 t q)
  clear st27
  replace k : ow T27 (mkF m 51 #[ow_r a1, ow_i 0, ow_i 1, ow_i 2, .unset] [(.int 1), (.ref a1), (.ref a27)]) := fun t q => k t (XS.aloadN X27.here hx rfl (D 47 rfl) rfl rfl (XS.iloadN X27.here hx rfl (D 48 rfl) rfl q))
  obtain ⟨T28, X28, e28, k⟩ := own_cCh X27 hx hw hZ hown e27 k (((T_a1.ext E21).keep (a0 := a0) KC26 all0).ext E27) ((own_sta_keep (S_COMPACT_STRINGS.ext E21) KC26 ns0).ext E27) hz ((own_sta_keep (S_SIOOBE_FORMATTER.ext E21) KC26 ns0).ext E27) hrS 1 (1 : Int32) (Nat.le_of_ble_eq_true rfl) (by decide) 145 50 52 51 8 rfl rfl rfl rfl rfl rfl rfl (by rw [hml]; rfl) [(.ref a27)] rfl (W := 1) own_le (D 49 rfl) (by decide) (by decide) (by decide) (by decide)
  obtain ⟨_, T29, L29, X29, hQ29, k⟩ := own_cV X28 hx hw hZ hown e28 k (own_m26 l Z a0 hw [] a27 b ([68, 74] : List Int32) w_COMPACT_STRINGS bs27 kc27 h27 n0 Z27 ((own_sta_keep (S_COMPACT_STRINGS.ext E21) KC26 ns0).ext E27) FC27 EX27 FV27 AV27 hz okb.rng.1 okb.rng.2 (by first | assumption | exact Nat.le_of_ble_eq_true rfl | rfl | omega | decide) (by first | assumption | exact Nat.le_of_ble_eq_true rfl | rfl | omega | decide)) 115 116 118 117 119 9 rfl rfl rfl rfl rfl rfl EX27 (by decide) rfl (by rw [hml]; rfl) [(.int b)] [] (lenOf own_pd8 rfl) rfl rfl (W := 0) own_le (D 50 rfl) (by decide) (by decide) (by decide) (by decide)
  obtain ⟨rfl, N29q, e29⟩ := hQ29
  have N29 := Fr.app N26 N29q
  replace k : own_To p.tables e below A0 T29 (mkF m 65 #[ow_r a1, ow_i 0, ow_i 1, ow_i 2, .unset] [(.int (if (own_ix1 b ([68, 74] : List Int32)) < (0 : Int32) then (0 : Int32) else (1 : Int32)))]) := by
    by_cases hj30 : (own_ix1 b ([68, 74] : List Int32)) < (0 : Int32)
    · simp only [if_pos hj30]
      replace k : ow T29 (mkF m 64 #[ow_r a1, ow_i 0, ow_i 1, ow_i 2, .unset] []) := fun t q => k t (XS.ifYes X29.here hx rfl (pc0 := 57) (pc' := 64) rfl (D 51 rfl) rfl ((if0 _ _).trans (tlt (show (own_ix1 b ([68, 74] : List Int32)) < (0 : Int32) from hj30)).1) (by decide) (by decide) q)
      replace k : ow T29 (mkF m 65 #[ow_r a1, ow_i 0, ow_i 1, ow_i 2, .unset] [(.int 0)]) := fun t q => k t (XS.iconst X29.here hx rfl (D 52 rfl) q)
      exact k
    · simp only [if_neg hj30]
      replace k : ow T29 (mkF m 60 #[ow_r a1, ow_i 0, ow_i 1, ow_i 2, .unset] []) := fun t q => k t (XS.ifNo X29.here hx rfl (D 51 rfl) rfl ((if0 _ _).trans (flt (show ¬ ((own_ix1 b ([68, 74] : List Int32)) < (0 : Int32)) from hj30)).1) q)
      replace k : ow T29 (mkF m 65 #[ow_r a1, ow_i 0, ow_i 1, ow_i 2, .unset] [(.int 1)]) := fun t q => k t (XS.iconst X29.here hx rfl (D 53 rfl) (XS.goto X29.here hx rfl (pc0 := 61) (pc' := 65) rfl (D 54 rfl) (by decide) (by decide) q))
      exact k
  replace k : ow T29 (mkF m 70 #[ow_r a1, ow_i 0, ow_i 1, ow_i 2, ow_i (if (own_ix1 b ([68, 74] : List Int32)) < (0 : Int32) then (0 : Int32) else (1 : Int32))] [(.int (if (own_ix1 b ([68, 74] : List Int32)) < (0 : Int32) then (0 : Int32) else (1 : Int32))), (.int 0)]) := fun t q => k t (XS.istore X29.here hx rfl (D 55 rfl) rfl (l' := #[ow_r a1, ow_i 0, ow_i 1, ow_i 2, ow_i (if (own_ix1 b ([68, 74] : List Int32)) < (0 : Int32) then (0 : Int32) else (1 : Int32))]) rfl (XS.iloadN X29.here hx rfl (D 56 rfl) rfl (XS.iload X29.here hx rfl (D 57 rfl) rfl q)))
  replace k : own_To p.tables e below A0 T29 (mkF m 78 #[ow_r a1, ow_i 0, ow_i 1, ow_i 2, ow_i (if (own_ix1 b ([68, 74] : List Int32)) < (0 : Int32) then (0 : Int32) else (1 : Int32))] [(.int (if (if (own_ix1 b ([68, 74] : List Int32)) < (0 : Int32) then (0 : Int32) else (1 : Int32)) = (0 : Int32) then (1 : Int32) else (2 : Int32))), (.int 0)]) := by
    by_cases hj31 : (if (own_ix1 b ([68, 74] : List Int32)) < (0 : Int32) then (0 : Int32) else (1 : Int32)) = (0 : Int32)
    · simp only [if_pos hj31]
      replace k : ow T29 (mkF m 77 #[ow_r a1, ow_i 0, ow_i 1, ow_i 2, ow_i (if (own_ix1 b ([68, 74] : List Int32)) < (0 : Int32) then (0 : Int32) else (1 : Int32))] [(.int 0)]) := fun t q => k t (XS.ifYes X29.here hx rfl (pc0 := 70) (pc' := 77) rfl (D 58 rfl) rfl ((if0 _ _).trans (teq (show (if (own_ix1 b ([68, 74] : List Int32)) < (0 : Int32) then (0 : Int32) else (1 : Int32)) = (0 : Int32) from hj31)).1) (by decide) (by decide) q)
      replace k : ow T29 (mkF m 78 #[ow_r a1, ow_i 0, ow_i 1, ow_i 2, ow_i (if (own_ix1 b ([68, 74] : List Int32)) < (0 : Int32) then (0 : Int32) else (1 : Int32))] [(.int 1), (.int 0)]) := fun t q => k t (XS.iconst X29.here hx rfl (D 59 rfl) q)
      exact k
    · simp only [if_neg hj31]
      replace k : ow T29 (mkF m 73 #[ow_r a1, ow_i 0, ow_i 1, ow_i 2, ow_i (if (own_ix1 b ([68, 74] : List Int32)) < (0 : Int32) then (0 : Int32) else (1 : Int32))] [(.int 0)]) := fun t q => k t (XS.ifNo X29.here hx rfl (D 58 rfl) rfl ((if0 _ _).trans (feq (show ¬ ((if (own_ix1 b ([68, 74] : List Int32)) < (0 : Int32) then (0 : Int32) else (1 : Int32)) = (0 : Int32)) from hj31)).1) q)
      replace k : ow T29 (mkF m 78 #[ow_r a1, ow_i 0, ow_i 1, ow_i 2, ow_i (if (own_ix1 b ([68, 74] : List Int32)) < (0 : Int32) then (0 : Int32) else (1 : Int32))] [(.int 2), (.int 0)]) := fun t q => k t (XS.iconst X29.here hx rfl (D 60 rfl) (XS.goto X29.here hx rfl (pc0 := 74) (pc' := 78) rfl (D 61 rfl) (by decide) (by decide) q))
      exact k
  replace k : ow T29 (mkF m 79 #[ow_r a1, ow_i 0, ow_i 1, ow_i 2, ow_i (if (own_ix1 b ([68, 74] : List Int32)) < (0 : Int32) then (0 : Int32) else (1 : Int32))] [(.int ((0 : Int32) + (if (if (own_ix1 b ([68, 74] : List Int32)) < (0 : Int32) then (0 : Int32) else (1 : Int32)) = (0 : Int32) then (1 : Int32) else (2 : Int32))))]) := fun t q => k t (XS.iadd X29.here hx rfl (D 62 rfl) rfl q)
  replace k : ow T29 (mkF m 82 #[ow_r a1, ow_i ((0 : Int32) + (if (if (own_ix1 b ([68, 74] : List Int32)) < (0 : Int32) then (0 : Int32) else (1 : Int32)) = (0 : Int32) then (1 : Int32) else (2 : Int32))), ow_i 2, ow_i 2, ow_i (if (own_ix1 b ([68, 74] : List Int32)) < (0 : Int32) then (0 : Int32) else (1 : Int32))] []) := fun t q => k t (XS.istoreN X29.here hx rfl (D 63 rfl) rfl (l' := #[ow_r a1, ow_i ((0 : Int32) + (if (if (own_ix1 b ([68, 74] : List Int32)) < (0 : Int32) then (0 : Int32) else (1 : Int32)) = (0 : Int32) then (1 : Int32) else (2 : Int32))), ow_i 1, ow_i 2, ow_i (if (own_ix1 b ([68, 74] : List Int32)) < (0 : Int32) then (0 : Int32) else (1 : Int32))]) rfl (XS.iloadN X29.here hx rfl (D 64 rfl) rfl (XS.istoreN X29.here hx rfl (D 65 rfl) rfl (l' := #[ow_r a1, ow_i ((0 : Int32) + (if (if (own_ix1 b ([68, 74] : List Int32)) < (0 : Int32) then (0 : Int32) else (1 : Int32)) = (0 : Int32) then (1 : Int32) else (2 : Int32))), ow_i 2, ow_i 2, ow_i (if (own_ix1 b ([68, 74] : List Int32)) < (0 : Int32) then (0 : Int32) else (1 : Int32))]) rfl q)))
  replace k : ow T29 (mkF m 17 #[ow_r a1, ow_i ((0 : Int32) + (if (if (own_ix1 b ([68, 74] : List Int32)) < (0 : Int32) then (0 : Int32) else (1 : Int32)) = (0 : Int32) then (1 : Int32) else (2 : Int32))), ow_i 2, ow_i 2, ow_i (if (own_ix1 b ([68, 74] : List Int32)) < (0 : Int32) then (0 : Int32) else (1 : Int32))] [(.ref a1), (.int 2)]) := fun t q => k t (XS.goto X29.here hx rfl (pc0 := 82) (pc' := 15) rfl (D 66 rfl) (by decide) (by decide) (XS.iloadN X29.here hx rfl (D 8 rfl) rfl (XS.aloadN X29.here hx rfl (D 9 rfl) rfl rfl q)))
  obtain ⟨_, T32, L32, X32, hQ32, k⟩ := own_cV X29 hx hw hZ hown e29 k (own_m22 l Z a0 hw [] a1 ([40, (b.toInt8.toInt32), 41, (r.toInt8.toInt32)] : List Int32) bo22 ko22 w_COMPACT_STRINGS h27 n0 Z27 ((Vo22.keep KC26 nin0).ext E27) ((Ao22.keep KC26 nin0).ext E27) ((own_sta_keep (S_COMPACT_STRINGS.ext E21) KC26 ns0).ext E27) ((Co22.keep KC26 nin0).ext E27) ((Eo22.keep KC26).ext E27) hz) 147 99 101 100 102 9 rfl rfl rfl rfl rfl rfl ((Eo22.keep KC26).ext E27) (by decide) rfl (by rw [hml]; rfl) [] [(.int 2)] (lenOf own_pd5 rfl) rfl rfl (W := 1) own_le (D 10 rfl) (by decide) (by decide) (by decide) (by decide)
  rw [show own_f22 ([40, (b.toInt8.toInt32), 41, (r.toInt8.toInt32)] : List Int32) = (4 : Int32) from rfl] at hQ32
  obtain ⟨rfl, N32q, e32⟩ := hQ32
  have N32 := Fr.app N29 N32q
  replace k : ow T32 (mkF m 23 #[ow_r a1, ow_i ((0 : Int32) + (if (if (own_ix1 b ([68, 74] : List Int32)) < (0 : Int32) then (0 : Int32) else (1 : Int32)) = (0 : Int32) then (1 : Int32) else (2 : Int32))), ow_i 2, ow_i 2, ow_i (if (own_ix1 b ([68, 74] : List Int32)) < (0 : Int32) then (0 : Int32) else (1 : Int32))] []) := fun t q => k t (XS.icmpNo X32.here hx rfl (D 11 rfl) rfl (tlt (show (2 : Int32) < (4 : Int32) from (by decide))).2.1 q)
  replace k : ow T32 (mkF m 25 #[ow_r a1, ow_i ((0 : Int32) + (if (if (own_ix1 b ([68, 74] : List Int32)) < (0 : Int32) then (0 : Int32) else (1 : Int32)) = (0 : Int32) then (1 : Int32) else (2 : Int32))), ow_i 2, ow_i 2, ow_i (if (own_ix1 b ([68, 74] : List Int32)) < (0 : Int32) then (0 : Int32) else (1 : Int32))] [(.int 2), (.ref a1)]) := fun t q => k t (XS.aloadN X32.here hx rfl (D 12 rfl) rfl rfl (XS.iloadN X32.here hx rfl (D 13 rfl) rfl q))
  obtain ⟨T33, X33, e33, k⟩ := own_cCh X32 hx hw hZ hown e32 k (((T_a1.ext E21).keep (a0 := a0) KC26 all0).ext E27) ((own_sta_keep (S_COMPACT_STRINGS.ext E21) KC26 ns0).ext E27) hz ((own_sta_keep (S_SIOOBE_FORMATTER.ext E21) KC26 ns0).ext E27) hrS 2 (2 : Int32) (Nat.le_of_ble_eq_true rfl) (by decide) 145 50 52 51 8 rfl rfl rfl rfl rfl rfl rfl (by rw [hml]; rfl) [] rfl (W := 0) own_le (D 14 rfl) (by decide) (by decide) (by decide) (by decide)
  replace k : ow T33 (mkF m 85 #[ow_r a1, ow_i ((0 : Int32) + (if (if (own_ix1 b ([68, 74] : List Int32)) < (0 : Int32) then (0 : Int32) else (1 : Int32)) = (0 : Int32) then (1 : Int32) else (2 : Int32))), ow_i 2, ow_i 2, ow_i (if (own_ix1 b ([68, 74] : List Int32)) < (0 : Int32) then (0 : Int32) else (1 : Int32))] []) := fun t q => k t (XS.bipush X33.here hx rfl (D 15 rfl) (XS.icmpYes X33.here hx rfl (pc0 := 30) (pc' := 85) rfl (D 16 rfl) rfl (teq (show (41 : Int32) = (41 : Int32) from (by decide))).1 (by decide) (by decide) q))
  replace k : ow T33 (mkF m 87 #[ow_r a1, ow_i ((0 : Int32) + (if (if (own_ix1 b ([68, 74] : List Int32)) < (0 : Int32) then (0 : Int32) else (1 : Int32)) = (0 : Int32) then (1 : Int32) else (2 : Int32))), ow_i 2, ow_i 2, ow_i (if (own_ix1 b ([68, 74] : List Int32)) < (0 : Int32) then (0 : Int32) else (1 : Int32))] [(.ref a1), (.int 2)]) := fun t q => k t (XS.iloadN X33.here hx rfl (D 17 rfl) rfl (XS.aloadN X33.here hx rfl (D 18 rfl) rfl rfl q))
  obtain ⟨_, T34, L34, X34, hQ34, k⟩ := own_cV X33 hx hw hZ hown e33 k (own_m22 l Z a0 hw [] a1 ([40, (b.toInt8.toInt32), 41, (r.toInt8.toInt32)] : List Int32) bo22 ko22 w_COMPACT_STRINGS h27 n0 Z27 ((Vo22.keep KC26 nin0).ext E27) ((Ao22.keep KC26 nin0).ext E27) ((own_sta_keep (S_COMPACT_STRINGS.ext E21) KC26 ns0).ext E27) ((Co22.keep KC26 nin0).ext E27) ((Eo22.keep KC26).ext E27) hz) 147 99 101 100 102 9 rfl rfl rfl rfl rfl rfl ((Eo22.keep KC26).ext E27) (by decide) rfl (by rw [hml]; rfl) [] [(.int 2)] (lenOf own_pd5 rfl) rfl rfl (W := 1) own_le (D 19 rfl) (by decide) (by decide) (by decide) (by decide)
  rw [show own_f22 ([40, (b.toInt8.toInt32), 41, (r.toInt8.toInt32)] : List Int32) = (4 : Int32) from rfl] at hQ34
  obtain ⟨rfl, N34q, e34⟩ := hQ34
  have N34 := Fr.app N32 N34q
  replace k : ow T34 (mkF m 95 #[ow_r a1, ow_i ((0 : Int32) + (if (if (own_ix1 b ([68, 74] : List Int32)) < (0 : Int32) then (0 : Int32) else (1 : Int32)) = (0 : Int32) then (1 : Int32) else (2 : Int32))), ow_i 2, ow_i 2, ow_i (if (own_ix1 b ([68, 74] : List Int32)) < (0 : Int32) then (0 : Int32) else (1 : Int32))] []) := fun t q => k t (XS.icmpYes X34.here hx rfl (pc0 := 90) (pc' := 95) rfl (D 20 rfl) rfl (feq (show ¬ ((2 : Int32) = (4 : Int32)) from (by decide))).2 (by decide) (by decide) q)
  replace k : ow T34 (mkF m 97 #[ow_r a1, ow_i ((0 : Int32) + (if (if (own_ix1 b ([68, 74] : List Int32)) < (0 : Int32) then (0 : Int32) else (1 : Int32)) = (0 : Int32) then (1 : Int32) else (2 : Int32))), ow_i 2, ow_i 2, ow_i (if (own_ix1 b ([68, 74] : List Int32)) < (0 : Int32) then (0 : Int32) else (1 : Int32))] [(.int 1), (.int 2)]) := fun t q => k t (XS.iloadN X34.here hx rfl (D 21 rfl) rfl (XS.iconst X34.here hx rfl (D 22 rfl) q))
  replace k : ow T34 (mkF m 98 #[ow_r a1, ow_i ((0 : Int32) + (if (if (own_ix1 b ([68, 74] : List Int32)) < (0 : Int32) then (0 : Int32) else (1 : Int32)) = (0 : Int32) then (1 : Int32) else (2 : Int32))), ow_i 2, ow_i 2, ow_i (if (own_ix1 b ([68, 74] : List Int32)) < (0 : Int32) then (0 : Int32) else (1 : Int32))] [(.int 3)]) := fun t q => k t (XS.iadd X34.here hx rfl (D 23 rfl) rfl (by rw [show ((2 : Int32) + (1 : Int32)) = (3 : Int32) from by decide]; exact q))
  obtain ⟨a35, T35, h35, k135, bs35, kc35, X35, e35, E35, hS35, hk35, hZ, hown, EX35, FC35, FV35, AV35, la35, lb35, CU35, LT35, SX35, st35⟩ := own_ldc X34 hx hZ hown (own_h hw 176 rfl) (own_wS hw) e34 hS27 hk27 (own_EW hw) (List.mem_of_getElem? (i := 5) rfl) (EJ := own_J) (List.mem_of_getElem? (i := 5) rfl) CH27 (vs := [(.int 86)]) (z := (1 : Int32)) ⟨by decide, by decide⟩ (by decide) (by decide) (g := (mkF m 100 #[ow_r a1, ow_i ((0 : Int32) + (if (if (own_ix1 b ([68, 74] : List Int32)) < (0 : Int32) then (0 : Int32) else (1 : Int32)) = (0 : Int32) then (1 : Int32) else (2 : Int32))), ow_i 2, ow_i 3, ow_i (if (own_ix1 b ([68, 74] : List Int32)) < (0 : Int32) then (0 : Int32) else (1 : Int32))] [(.ref a1)])) rfl (D 26 rfl) (n := 4) (by decide) (by decide) (by decide) (by decide)
  have Z35 : n0 ≤ h35.size := Nat.le_trans Z27 E35.1
  have K35 : Keep h0 h35 [] := K27.ext E35
  have CR35 := CR27.trans CU35
  have CH35 := CU35.1
  replace k : ow T35 (mkF m 102 #[ow_r a1, ow_i ((0 : Int32) + (if (if (own_ix1 b ([68, 74] : List Int32)) < (0 : Int32) then (0 : Int32) else (1 : Int32)) = (0 : Int32) then (1 : Int32) else (2 : Int32))), ow_i 2, ow_i 3, ow_i (if (own_ix1 b ([68, 74] : List Int32)) < (0 : Int32) then (0 : Int32) else (1 : Int32))] [(.ref a35), (.ref a1)]) := fun t q => k t (XS.istoreN X34.here hx rfl (D 24 rfl) rfl (l' := #[ow_r a1, ow_i ((0 : Int32) + (if (if (own_ix1 b ([68, 74] : List Int32)) < (0 : Int32) then (0 : Int32) else (1 : Int32)) = (0 : Int32) then (1 : Int32) else (2 : Int32))), ow_i 2, ow_i 3, ow_i (if (own_ix1 b ([68, 74] : List Int32)) < (0 : Int32) then (0 : Int32) else (1 : Int32))]) rfl (XS.aloadN X34.here hx rfl (D 25 rfl) rfl rfl (st35 t q)))
  clear st35
  replace k : ow T35 (mkF m 103 #[ow_r a1, ow_i ((0 : Int32) + (if (if (own_ix1 b ([68, 74] : List Int32)) < (0 : Int32) then (0 : Int32) else (1 : Int32)) = (0 : Int32) then (1 : Int32) else (2 : Int32))), ow_i 2, ow_i 3, ow_i (if (own_ix1 b ([68, 74] : List Int32)) < (0 : Int32) then (0 : Int32) else (1 : Int32))] [(.int 3), (.ref a35), (.ref a1)]) := fun t q => k t (XS.iloadN X35.here hx rfl (D 27 rfl) rfl q)
  obtain ⟨_, T36, L36, X36, hQ36, k⟩ := own_cV X35 hx hw hZ hown e35 k (own_m21 l Z a0 hw [] a1 a35 ([40, (b.toInt8.toInt32), 41, (r.toInt8.toInt32)] : List Int32) ([86] : List Int32) 3 bo22 ko22 w_COMPACT_STRINGS bs35 kc35 h35 n0 Z35 (((Vo22.keep KC26 nin0).ext E27).ext E35) (((Ao22.keep KC26 nin0).ext E27).ext E35) (((own_sta_keep (S_COMPACT_STRINGS.ext E21) KC26 ns0).ext E27).ext E35) (((Co22.keep KC26 nin0).ext E27).ext E35) (((Eo22.keep KC26).ext E27).ext E35) FV35 AV35 FC35 EX35 hz (by first | assumption | exact Nat.le_of_ble_eq_true rfl | rfl | omega | decide) (by first | assumption | exact Nat.le_of_ble_eq_true rfl | rfl | omega | decide) (by first | assumption | exact Nat.le_of_ble_eq_true rfl | rfl | omega | decide)) 177 94 96 95 97 9 rfl rfl rfl rfl rfl rfl (((Eo22.keep KC26).ext E27).ext E35) (by decide) rfl (by rw [hml]; rfl) [(.ref a35), (.int 3)] [] (lenOf own_pd7 rfl) rfl rfl (W := 0) own_le (D 28 rfl) (by decide) (by decide) (by decide) (by decide)
  rw [show own_f21 ([40, (b.toInt8.toInt32), 41, (r.toInt8.toInt32)] : List Int32) ([86] : List Int32) 3 = (0 : Int32) from by unfold own_f21; rw [if_neg (show ¬ ((own_mis ([40, (b.toInt8.toInt32), 41, (r.toInt8.toInt32)] : List Int32) ([86] : List Int32) 3) < (0 : Int32)) from (by show ¬ (own_mmA [r.toInt8.toInt32] [86] 0 < 0); exact own_mis_no okr.ne.2.2.2))]] at hQ36
  obtain ⟨rfl, N36q, e36⟩ := hQ36
  have N36 := Fr.app N34 N36q
  replace k : ow T36 (mkF m 125 #[ow_r a1, ow_i ((0 : Int32) + (if (if (own_ix1 b ([68, 74] : List Int32)) < (0 : Int32) then (0 : Int32) else (1 : Int32)) = (0 : Int32) then (1 : Int32) else (2 : Int32))), ow_i 2, ow_i 3, ow_i (if (own_ix1 b ([68, 74] : List Int32)) < (0 : Int32) then (0 : Int32) else (1 : Int32))] []) := fun t q => k t (XS.ifYes X36.here hx rfl (pc0 := 106) (pc' := 125) rfl (D 29 rfl) rfl ((if0 _ _).trans (teq (show (0 : Int32) = (0 : Int32) from (by decide))).1) (by decide) (by decide) q)
  replace k : ow T36 (mkF m 129 #[ow_r a1, ow_i ((0 : Int32) + (if (if (own_ix1 b ([68, 74] : List Int32)) < (0 : Int32) then (0 : Int32) else (1 : Int32)) = (0 : Int32) then (1 : Int32) else (2 : Int32))), ow_i 2, ow_i 3, ow_i (if (own_ix1 b ([68, 74] : List Int32)) < (0 : Int32) then (0 : Int32) else (1 : Int32))] [(.int 47), (.int 3), (.ref a1)]) := fun t q => k t (XS.aloadN X36.here hx rfl (D 67 rfl) rfl rfl (XS.iloadN X36.here hx rfl (D 68 rfl) rfl (XS.bipush X36.here hx rfl (D 69 rfl) q)))
  obtain ⟨_, T37, L37, h37, X37, hS37, hZ, hown, e37, hQ37, CU37, k⟩ := own_cSS X36 hx hw hZ hown e36 hS35 hk35 k (own_backP (EJ := own_J) (W := 0) (own_m40_4b l Z a0 hw [] a1 b r w_COMPACT_STRINGS w_SIOOBE_FORMATTER h35 n0 Z35 ((((T_a1.ext E21).keep (a0 := a0) KC26 all0).ext E27).ext E35) (((own_sta_keep (S_COMPACT_STRINGS.ext E21) KC26 ns0).ext E27).ext E35) (((own_sta_keep (S_SIOOBE_FORMATTER.ext E21) KC26 ns0).ext E27).ext E35) hz hrS okr) hZ (own_h hw 173 rfl) (own_h hw 85 rfl) (by decide) (by decide) (own_EW hw) CH35) 171 172 85 173 rfl rfl rfl rfl (by decide) rfl (by rw [hml]; rfl) [(.ref a1), (.int 3), (.int 47)] [] (lenOf own_pd12 rfl) rfl rfl own_le (D 70 rfl) (by decide) (by decide)
  have hk37 := Nat.le_refl h37.size
  have CR37 := CR35.trans CU37
  have CH37 := CU37.1
  obtain ⟨rfl, N37q, KC37⟩ := hQ37
  have KK37 : Keep h0 h37 [] := K35.trans KC37 all0
  have Z37 : n0 ≤ h37.size := Nat.le_trans Z35 KC37.1
  have N37 := Fr.app N36 N37q
  replace k : ow T37 (mkF m 133 #[ow_r a1, ow_i ((0 : Int32) + (if (if (own_ix1 b ([68, 74] : List Int32)) < (0 : Int32) then (0 : Int32) else (1 : Int32)) = (0 : Int32) then (1 : Int32) else (2 : Int32))), ow_i 2, ow_i 3, ow_i (if (own_ix1 b ([68, 74] : List Int32)) < (0 : Int32) then (0 : Int32) else (1 : Int32))] [(.ref a1), (.int 4)]) := fun t q => k t (XS.aloadN X37.here hx rfl (D 71 rfl) rfl rfl q)
  obtain ⟨_, T38, L38, X38, hQ38, k⟩ := own_cV X37 hx hw hZ hown e37 k (own_m22 l Z a0 hw [] a1 ([40, (b.toInt8.toInt32), 41, (r.toInt8.toInt32)] : List Int32) bo22 ko22 w_COMPACT_STRINGS h37 n0 Z37 ((((Vo22.keep KC26 nin0).ext E27).ext E35).keep KC37 nin0) ((((Ao22.keep KC26 nin0).ext E27).ext E35).keep KC37 nin0) (own_sta_keep (((own_sta_keep (S_COMPACT_STRINGS.ext E21) KC26 ns0).ext E27).ext E35) KC37 ns0) ((((Co22.keep KC26 nin0).ext E27).ext E35).keep KC37 nin0) ((((Eo22.keep KC26).ext E27).ext E35).keep KC37) hz) 147 99 101 100 102 9 rfl rfl rfl rfl rfl rfl ((((Eo22.keep KC26).ext E27).ext E35).keep KC37) (by decide) rfl (by rw [hml]; rfl) [] [(.int 4)] (lenOf own_pd5 rfl) rfl rfl (W := 1) own_le (D 72 rfl) (by decide) (by decide) (by decide) (by decide)
  rw [show own_f22 ([40, (b.toInt8.toInt32), 41, (r.toInt8.toInt32)] : List Int32) = (4 : Int32) from rfl] at hQ38
  obtain ⟨rfl, N38q, e38⟩ := hQ38
  have N38 := Fr.app N37 N38q
  replace k : ow T38 (mkF m 139 #[ow_r a1, ow_i ((0 : Int32) + (if (if (own_ix1 b ([68, 74] : List Int32)) < (0 : Int32) then (0 : Int32) else (1 : Int32)) = (0 : Int32) then (1 : Int32) else (2 : Int32))), ow_i 2, ow_i 3, ow_i (if (own_ix1 b ([68, 74] : List Int32)) < (0 : Int32) then (0 : Int32) else (1 : Int32))] []) := fun t q => k t (XS.icmpNo X38.here hx rfl (D 73 rfl) rfl (teq (show (4 : Int32) = (4 : Int32) from (by decide))).2 q)
  replace k : ow T38 (mkF m 144 #[ow_r a1, ow_i ((0 : Int32) + (if (if (own_ix1 b ([68, 74] : List Int32)) < (0 : Int32) then (0 : Int32) else (1 : Int32)) = (0 : Int32) then (1 : Int32) else (2 : Int32))), ow_i 2, ow_i 3, ow_i (if (own_ix1 b ([68, 74] : List Int32)) < (0 : Int32) then (0 : Int32) else (1 : Int32))] [(.int ((0 : Int32) + (if (if (own_ix1 b ([68, 74] : List Int32)) < (0 : Int32) then (0 : Int32) else (1 : Int32)) = (0 : Int32) then (1 : Int32) else (2 : Int32))))]) := fun t q => k t (XS.iloadN X38.here hx rfl (D 74 rfl) rfl (XS.goto X38.here hx rfl (pc0 := 140) (pc' := 144) rfl (D 75 rfl) (by decide) (by decide) q))
  exact own_endS (v := some (.int ((0 : Int32) + (if (if (own_ix1 b ([68, 74] : List Int32)) < (0 : Int32) then (0 : Int32) else (1 : Int32)) = (0 : Int32) then (1 : Int32) else (2 : Int32))))) X38 e38 hS37 hk37 hh Bd.notSynchronized (own_vn Bd.returns) k (fun _ hr => retI X38 hx Bd.returns (D 76 rfl) hr) ⟨((0 : Int32) + (if (if (own_ix1 b ([68, 74] : List Int32)) < (0 : Int32) then (0 : Int32) else (1 : Int32)) = (0 : Int32) then (1 : Int32) else (2 : Int32))), rfl, ⟨by repeat' split <;> decide, by repeat' split <;> decide⟩, N38, KK37⟩ (CR37.trans (own_CP.at own_J X38 hZ (own_EW hw) CH37)) (by decide) (by decide)
theorem own_d41 : own_all prog_120_method_13_code [(0, .aload_n 0, 1), (1, .invokestatic 40, 3), (4, .ifCond .eq 28, 3), (7, .aload_n 1, 1), (8, .ldc 99, 2), (10, .invokevirtual 101, 3), (13, .ifCond .ne 19, 3), (32, .aconst_null, 1), (33, .areturn, 1)] := by decide +kernel
theorem own_ef41 (m : MethodId) (x0 : Addr) (x1 : Addr) : entryFrame m #[(.ref x0), (.ref x1)] 2 = mkF m 0 #[ow_r x0, ow_r x1] [] := by first | (simp [entryFrame, mkF, argsToLocals, Value.category]; done) | rfl
theorem own_pn41 : plainName "com/example/callsite/callsite/model/JvmNames" = true := by first | (simp [plainName, overriddenIn]; done) | decide +kernel
def own_m41_6_3_Q (Z : State) (a1 : Addr) (a2 : Addr) (w_COMPACT_STRINGS : Int32) (w_SIOOBE_FORMATTER : Value) (h0 : Heap) (n0 : Nat) (v : Option Value) (h : Heap) (L : List Loc) : Prop := v = some .null ∧ Fr n0 L ∧ Keep h0 h []
set_option maxRecDepth 65536 in
set_option maxHeartbeats 40000000 in
theorem own_m41_6_3 (l : Launch) (Z : State) (a0 : Array Value) (hw : ∀ d ∈ tables_1, d.before a0 Z = true) (ws : List Jvm.Cond) (a1 : Addr) (a2 : Addr) (w_COMPACT_STRINGS : Int32) (w_SIOOBE_FORMATTER : Value) (h0 : Heap) (n0 : Nat) (Z0 : n0 ≤ h0.size) (T_a1 : own_Str Z h0 a1 ([60, 105, 110, 105, 116, 62] : List Int32)) (T_a2 : own_Str Z h0 a2 ([40, 41, 86] : List Int32)) (S_COMPACT_STRINGS : Sta Z h0 "java/lang/String" "COMPACT_STRINGS" "Z" (.int w_COMPACT_STRINGS)) (S_SIOOBE_FORMATTER : Sta Z h0 "jdk/internal/util/Preconditions" "SIOOBE_FORMATTER" "Ljava/util/function/BiFunction;" w_SIOOBE_FORMATTER) (hz : ¬ (w_COMPACT_STRINGS = (0 : Int32))) (hrS : w_SIOOBE_FORMATTER.isRef = true) :
    own_MS l Z own_y41 ws prog_120_method_13_code 2 (some (.object "java/lang/String")) ({ frames := 4, cells := 6, slots := 76, locals := 59 } : Room) #[(.ref a1), (.ref a2)] h0 (own_CP Z consts_1 own_J) (own_m41_6_3_Q Z a1 a2 w_COMPACT_STRINGS w_SIOOBE_FORMATTER h0 n0) := by
  refine own_goS own_CP.refl "com/example/callsite/callsite/model/JvmNames" rfl (plainFor_of_name own_pn41) (fun m => own_ef41 m a1 a2) own_d41 n0 fun p e s m below meth c s₁ A0 Bd hx D hml hown hnm X0 hZ e0 N0 hh CH0 hS0 hk0 CR0 k => ?_
  replace k : ow s₁ (mkF m 1 #[ow_r a1, ow_r a2] [(.ref a1)]) := fun t q => k t (XS.aloadN X0.here hx rfl (D 0 rfl) rfl rfl q)
  obtain ⟨_, T21, L21, h21, X21, hS21, hZ, hown, e21, hQ21, CU21, k⟩ := own_cSS X0 hx hw hZ hown e0 hS0 hk0 k (own_backP (EJ := own_J) (W := 0) (own_m35_6 l Z a0 hw [] a1 w_COMPACT_STRINGS w_SIOOBE_FORMATTER h0 n0 Z0 T_a1 S_COMPACT_STRINGS S_SIOOBE_FORMATTER hz hrS) hZ (own_h hw 153 rfl) (own_h hw 85 rfl) (by decide) (by decide) (own_EW hw) CH0) 151 152 85 153 rfl rfl rfl rfl (by decide) rfl (by rw [hml]; rfl) [(.ref a1)] [] (lenOf own_pd10 rfl) rfl rfl own_le (D 1 rfl) (by decide) (by decide)
  have hk21 := Nat.le_refl h21.size
  have CR21 := CR0.trans CU21
  have CH21 := CU21.1
  obtain ⟨rfl, N21q, KC21⟩ := hQ21
  have KK21 : Keep h0 h21 [] := (Keep.refl h0 []).trans KC21 all0
  have Z21 : n0 ≤ h21.size := Nat.le_trans Z0 KC21.1
  have N21 := Fr.app N0 N21q
  replace k : ow T21 (mkF m 7 #[ow_r a1, ow_r a2] []) := fun t q => k t (XS.ifNo X21.here hx rfl (D 2 rfl) rfl ((if0 _ _).trans (feq (show ¬ ((1 : Int32) = (0 : Int32)) from (by decide))).1) q)
  obtain ⟨a22, T22, h22, k122, bs22, kc22, X22, e22, E22, hS22, hk22, hZ, hown, EX22, FC22, FV22, AV22, la22, lb22, CU22, LT22, SX22, st22⟩ := own_ldc X21 hx hZ hown (own_h hw 181 rfl) (own_wS hw) e21 hS21 hk21 (own_EW hw) (List.mem_of_getElem? (i := 6) rfl) (EJ := own_J) (List.mem_of_getElem? (i := 6) rfl) CH21 (vs := [(.int 41), (.int 86)]) (z := (2 : Int32)) ⟨by decide, by decide⟩ (by decide) (by decide) (g := (mkF m 8 #[ow_r a1, ow_r a2] [(.ref a2)])) rfl (D 4 rfl) (n := 8) (by decide) (by decide) (by decide) (by decide)
  have Z22 : n0 ≤ h22.size := Nat.le_trans Z21 E22.1
  have K22 : Keep h0 h22 [] := KK21.ext E22
  have CR22 := CR21.trans CU22
  have CH22 := CU22.1
  replace k : ow T22 (mkF m 10 #[ow_r a1, ow_r a2] [(.ref a22), (.ref a2)]) := fun t q => k t (XS.aloadN X21.here hx rfl (D 3 rfl) rfl rfl (st22 t q))
  clear st22
  obtain ⟨bo23, ko23, Eo23, Vo23, Co23, Ao23⟩ := own_Str.open_ ((T_a2.keep (a0 := a0) KC21 all0).ext E22)
  have Ao23 : Arv Z h22 bo23 ko23 .byte (3 : Int32) [(.int 40), (.int 41), (.int 86)] (.int 0) := Ao23
  obtain ⟨_, T24, L24, X24, hQ24, k⟩ := own_cV X22 hx hw hZ hown e22 k (own_m42 l Z a0 hw [] a2 a22 ([40, 41, 86] : List Int32) ([41, 86] : List Int32) 1 bo23 ko23 w_COMPACT_STRINGS bs22 kc22 h22 n0 Z22 Vo23 Ao23 ((own_sta_keep S_COMPACT_STRINGS KC21 ns0).ext E22) Co23 Eo23 FV22 AV22 FC22 EX22 hz (by first | assumption | exact Nat.le_of_ble_eq_true rfl | rfl | omega | decide) (by first | assumption | exact Nat.le_of_ble_eq_true rfl | rfl | omega | decide) (by first | assumption | exact Nat.le_of_ble_eq_true rfl | rfl | omega | decide)) 182 183 185 184 186 9 rfl rfl rfl rfl rfl rfl Eo23 (by decide) rfl (by rw [hml]; rfl) [(.ref a22)] [] (lenOf own_pd10 rfl) rfl rfl (W := 0) own_le (D 5 rfl) (by decide) (by decide) (by decide) (by decide)
  rw [show own_f42 ([40, 41, 86] : List Int32) ([41, 86] : List Int32) 1 = (1 : Int32) from by unfold own_f42; rw [if_pos (show (own_mis ([40, 41, 86] : List Int32) ([41, 86] : List Int32) 1) < (0 : Int32) from (by show own_mmA [(41 : Int32), (86 : Int32)] [(41 : Int32), (86 : Int32)] 0 < 0; decide))]] at hQ24
  obtain ⟨rfl, N24q, e24⟩ := hQ24
  have N24 := Fr.app N21 N24q
  replace k : ow T24 (mkF m 32 #[ow_r a1, ow_r a2] []) := fun t q => k t (XS.ifYes X24.here hx rfl (pc0 := 13) (pc' := 32) rfl (D 6 rfl) rfl ((if0 _ _).trans (feq (show ¬ ((1 : Int32) = (0 : Int32)) from (by decide))).2) (by decide) (by decide) q)
  replace k : ow T24 (mkF m 33 #[ow_r a1, ow_r a2] [.null]) := fun t q => k t (XS.aconstNull X24.here hx rfl (D 7 rfl) q)
  exact own_endS (v := some .null) X24 e24 hS22 hk22 hh Bd.notSynchronized (own_vn Bd.returns) k (fun _ hr => own_ret0 X24 hx Bd.returns rfl (D 8 rfl) hr) ⟨rfl, N24, K22⟩ (CR22.trans (own_CP.at own_J X24 hZ (own_EW hw) CH22)) (by decide) (by decide)
def own_m41_6_4_Q (Z : State) (a1 : Addr) (a2 : Addr) (b : Int32) (w_COMPACT_STRINGS : Int32) (w_SIOOBE_FORMATTER : Value) (h0 : Heap) (n0 : Nat) (v : Option Value) (h : Heap) (L : List Loc) : Prop := v = some .null ∧ Fr n0 L ∧ Keep h0 h []
set_option maxRecDepth 65536 in
set_option maxHeartbeats 40000000 in
theorem own_m41_6_4 (l : Launch) (Z : State) (a0 : Array Value) (hw : ∀ d ∈ tables_1, d.before a0 Z = true) (ws : List Jvm.Cond) (a1 : Addr) (a2 : Addr) (b : Int32) (w_COMPACT_STRINGS : Int32) (w_SIOOBE_FORMATTER : Value) (h0 : Heap) (n0 : Nat) (Z0 : n0 ≤ h0.size) (T_a1 : own_Str Z h0 a1 ([60, 105, 110, 105, 116, 62] : List Int32)) (T_a2 : own_Str Z h0 a2 ([40, b, 41, 86] : List Int32)) (S_COMPACT_STRINGS : Sta Z h0 "java/lang/String" "COMPACT_STRINGS" "Z" (.int w_COMPACT_STRINGS)) (S_SIOOBE_FORMATTER : Sta Z h0 "jdk/internal/util/Preconditions" "SIOOBE_FORMATTER" "Ljava/util/function/BiFunction;" w_SIOOBE_FORMATTER) (hz : ¬ (w_COMPACT_STRINGS = (0 : Int32))) (hrS : w_SIOOBE_FORMATTER.isRef = true) (okb : own_okb b) :
    own_MS l Z own_y41 ws prog_120_method_13_code 2 (some (.object "java/lang/String")) ({ frames := 4, cells := 6, slots := 76, locals := 59 } : Room) #[(.ref a1), (.ref a2)] h0 (own_CP Z consts_1 own_J) (own_m41_6_4_Q Z a1 a2 b w_COMPACT_STRINGS w_SIOOBE_FORMATTER h0 n0) := by
  refine own_goS own_CP.refl "com/example/callsite/callsite/model/JvmNames" rfl (plainFor_of_name own_pn41) (fun m => own_ef41 m a1 a2) own_d41 n0 fun p e s m below meth c s₁ A0 Bd hx D hml hown hnm X0 hZ e0 N0 hh CH0 hS0 hk0 CR0 k => ?_
  replace k : ow s₁ (mkF m 1 #[ow_r a1, ow_r a2] [(.ref a1)]) := fun t q => k t (XS.aloadN X0.here hx rfl (D 0 rfl) rfl rfl q)
  obtain ⟨_, T21, L21, h21, X21, hS21, hZ, hown, e21, hQ21, CU21, k⟩ := own_cSS X0 hx hw hZ hown e0 hS0 hk0 k (own_backP (EJ := own_J) (W := 0) (own_m35_6 l Z a0 hw [] a1 w_COMPACT_STRINGS w_SIOOBE_FORMATTER h0 n0 Z0 T_a1 S_COMPACT_STRINGS S_SIOOBE_FORMATTER hz hrS) hZ (own_h hw 153 rfl) (own_h hw 85 rfl) (by decide) (by decide) (own_EW hw) CH0) 151 152 85 153 rfl rfl rfl rfl (by decide) rfl (by rw [hml]; rfl) [(.ref a1)] [] (lenOf own_pd10 rfl) rfl rfl own_le (D 1 rfl) (by decide) (by decide)
  have hk21 := Nat.le_refl h21.size
  have CR21 := CR0.trans CU21
  have CH21 := CU21.1
  obtain ⟨rfl, N21q, KC21⟩ := hQ21
  have KK21 : Keep h0 h21 [] := (Keep.refl h0 []).trans KC21 all0
  have Z21 : n0 ≤ h21.size := Nat.le_trans Z0 KC21.1
  have N21 := Fr.app N0 N21q
  replace k : ow T21 (mkF m 7 #[ow_r a1, ow_r a2] []) := fun t q => k t (XS.ifNo X21.here hx rfl (D 2 rfl) rfl ((if0 _ _).trans (feq (show ¬ ((1 : Int32) = (0 : Int32)) from (by decide))).1) q)
  obtain ⟨a22, T22, h22, k122, bs22, kc22, X22, e22, E22, hS22, hk22, hZ, hown, EX22, FC22, FV22, AV22, la22, lb22, CU22, LT22, SX22, st22⟩ := own_ldc X21 hx hZ hown (own_h hw 181 rfl) (own_wS hw) e21 hS21 hk21 (own_EW hw) (List.mem_of_getElem? (i := 6) rfl) (EJ := own_J) (List.mem_of_getElem? (i := 6) rfl) CH21 (vs := [(.int 41), (.int 86)]) (z := (2 : Int32)) ⟨by decide, by decide⟩ (by decide) (by decide) (g := (mkF m 8 #[ow_r a1, ow_r a2] [(.ref a2)])) rfl (D 4 rfl) (n := 8) (by decide) (by decide) (by decide) (by decide)
  have Z22 : n0 ≤ h22.size := Nat.le_trans Z21 E22.1
  have K22 : Keep h0 h22 [] := KK21.ext E22
  have CR22 := CR21.trans CU22
  have CH22 := CU22.1
  replace k : ow T22 (mkF m 10 #[ow_r a1, ow_r a2] [(.ref a22), (.ref a2)]) := fun t q => k t (XS.aloadN X21.here hx rfl (D 3 rfl) rfl rfl (st22 t q))
  clear st22
  obtain ⟨bo23, ko23, Eo23, Vo23, Co23, Ao23⟩ := own_Str.open_ ((T_a2.keep (a0 := a0) KC21 all0).ext E22)
  have Ao23 : Arv Z h22 bo23 ko23 .byte (4 : Int32) [(.int 40), (.int (b.toInt8.toInt32)), (.int 41), (.int 86)] (.int 0) := Ao23
  obtain ⟨_, T24, L24, X24, hQ24, k⟩ := own_cV X22 hx hw hZ hown e22 k (own_m42 l Z a0 hw [] a2 a22 ([40, (b.toInt8.toInt32), 41, 86] : List Int32) ([41, 86] : List Int32) 2 bo23 ko23 w_COMPACT_STRINGS bs22 kc22 h22 n0 Z22 Vo23 Ao23 ((own_sta_keep S_COMPACT_STRINGS KC21 ns0).ext E22) Co23 Eo23 FV22 AV22 FC22 EX22 hz (by first | assumption | exact Nat.le_of_ble_eq_true rfl | rfl | omega | decide) (by first | assumption | exact Nat.le_of_ble_eq_true rfl | rfl | omega | decide) (by first | assumption | exact Nat.le_of_ble_eq_true rfl | rfl | omega | decide)) 182 183 185 184 186 9 rfl rfl rfl rfl rfl rfl Eo23 (by decide) rfl (by rw [hml]; rfl) [(.ref a22)] [] (lenOf own_pd10 rfl) rfl rfl (W := 0) own_le (D 5 rfl) (by decide) (by decide) (by decide) (by decide)
  rw [show own_f42 ([40, (b.toInt8.toInt32), 41, 86] : List Int32) ([41, 86] : List Int32) 2 = (1 : Int32) from by unfold own_f42; rw [if_pos (show (own_mis ([40, (b.toInt8.toInt32), 41, 86] : List Int32) ([41, 86] : List Int32) 2) < (0 : Int32) from (by show own_mmA [(41 : Int32), (86 : Int32)] [(41 : Int32), (86 : Int32)] 0 < 0; decide))]] at hQ24
  obtain ⟨rfl, N24q, e24⟩ := hQ24
  have N24 := Fr.app N21 N24q
  replace k : ow T24 (mkF m 32 #[ow_r a1, ow_r a2] []) := fun t q => k t (XS.ifYes X24.here hx rfl (pc0 := 13) (pc' := 32) rfl (D 6 rfl) rfl ((if0 _ _).trans (feq (show ¬ ((1 : Int32) = (0 : Int32)) from (by decide))).2) (by decide) (by decide) q)
  replace k : ow T24 (mkF m 33 #[ow_r a1, ow_r a2] [.null]) := fun t q => k t (XS.aconstNull X24.here hx rfl (D 7 rfl) q)
  exact own_endS (v := some .null) X24 e24 hS22 hk22 hh Bd.notSynchronized (own_vn Bd.returns) k (fun _ hr => own_ret0 X24 hx Bd.returns rfl (D 8 rfl) hr) ⟨rfl, N24, K22⟩ (CR22.trans (own_CP.at own_J X24 hZ (own_EW hw) CH22)) (by decide) (by decide)
def own_m41_8_3_Q (Z : State) (a1 : Addr) (a2 : Addr) (w_COMPACT_STRINGS : Int32) (w_SIOOBE_FORMATTER : Value) (h0 : Heap) (n0 : Nat) (v : Option Value) (h : Heap) (L : List Loc) : Prop := v = some .null ∧ Fr n0 L ∧ Keep h0 h []
set_option maxRecDepth 65536 in
set_option maxHeartbeats 40000000 in
theorem own_m41_8_3 (l : Launch) (Z : State) (a0 : Array Value) (hw : ∀ d ∈ tables_1, d.before a0 Z = true) (ws : List Jvm.Cond) (a1 : Addr) (a2 : Addr) (w_COMPACT_STRINGS : Int32) (w_SIOOBE_FORMATTER : Value) (h0 : Heap) (n0 : Nat) (Z0 : n0 ≤ h0.size) (T_a1 : own_Str Z h0 a1 ([60, 99, 108, 105, 110, 105, 116, 62] : List Int32)) (T_a2 : own_Str Z h0 a2 ([40, 41, 86] : List Int32)) (S_COMPACT_STRINGS : Sta Z h0 "java/lang/String" "COMPACT_STRINGS" "Z" (.int w_COMPACT_STRINGS)) (S_SIOOBE_FORMATTER : Sta Z h0 "jdk/internal/util/Preconditions" "SIOOBE_FORMATTER" "Ljava/util/function/BiFunction;" w_SIOOBE_FORMATTER) (hz : ¬ (w_COMPACT_STRINGS = (0 : Int32))) (hrS : w_SIOOBE_FORMATTER.isRef = true) :
    own_MS l Z own_y41 ws prog_120_method_13_code 2 (some (.object "java/lang/String")) ({ frames := 4, cells := 6, slots := 76, locals := 59 } : Room) #[(.ref a1), (.ref a2)] h0 (own_CP Z consts_1 own_J) (own_m41_8_3_Q Z a1 a2 w_COMPACT_STRINGS w_SIOOBE_FORMATTER h0 n0) := by
  refine own_goS own_CP.refl "com/example/callsite/callsite/model/JvmNames" rfl (plainFor_of_name own_pn41) (fun m => own_ef41 m a1 a2) own_d41 n0 fun p e s m below meth c s₁ A0 Bd hx D hml hown hnm X0 hZ e0 N0 hh CH0 hS0 hk0 CR0 k => ?_
  replace k : ow s₁ (mkF m 1 #[ow_r a1, ow_r a2] [(.ref a1)]) := fun t q => k t (XS.aloadN X0.here hx rfl (D 0 rfl) rfl rfl q)
  obtain ⟨_, T21, L21, h21, X21, hS21, hZ, hown, e21, hQ21, CU21, k⟩ := own_cSS X0 hx hw hZ hown e0 hS0 hk0 k (own_backP (EJ := own_J) (W := 0) (own_m35_8 l Z a0 hw [] a1 w_COMPACT_STRINGS w_SIOOBE_FORMATTER h0 n0 Z0 T_a1 S_COMPACT_STRINGS S_SIOOBE_FORMATTER hz hrS) hZ (own_h hw 153 rfl) (own_h hw 85 rfl) (by decide) (by decide) (own_EW hw) CH0) 151 152 85 153 rfl rfl rfl rfl (by decide) rfl (by rw [hml]; rfl) [(.ref a1)] [] (lenOf own_pd10 rfl) rfl rfl own_le (D 1 rfl) (by decide) (by decide)
  have hk21 := Nat.le_refl h21.size
  have CR21 := CR0.trans CU21
  have CH21 := CU21.1
  obtain ⟨rfl, N21q, KC21⟩ := hQ21
  have KK21 : Keep h0 h21 [] := (Keep.refl h0 []).trans KC21 all0
  have Z21 : n0 ≤ h21.size := Nat.le_trans Z0 KC21.1
  have N21 := Fr.app N0 N21q
  replace k : ow T21 (mkF m 7 #[ow_r a1, ow_r a2] []) := fun t q => k t (XS.ifNo X21.here hx rfl (D 2 rfl) rfl ((if0 _ _).trans (feq (show ¬ ((1 : Int32) = (0 : Int32)) from (by decide))).1) q)
  obtain ⟨a22, T22, h22, k122, bs22, kc22, X22, e22, E22, hS22, hk22, hZ, hown, EX22, FC22, FV22, AV22, la22, lb22, CU22, LT22, SX22, st22⟩ := own_ldc X21 hx hZ hown (own_h hw 181 rfl) (own_wS hw) e21 hS21 hk21 (own_EW hw) (List.mem_of_getElem? (i := 6) rfl) (EJ := own_J) (List.mem_of_getElem? (i := 6) rfl) CH21 (vs := [(.int 41), (.int 86)]) (z := (2 : Int32)) ⟨by decide, by decide⟩ (by decide) (by decide) (g := (mkF m 8 #[ow_r a1, ow_r a2] [(.ref a2)])) rfl (D 4 rfl) (n := 8) (by decide) (by decide) (by decide) (by decide)
  have Z22 : n0 ≤ h22.size := Nat.le_trans Z21 E22.1
  have K22 : Keep h0 h22 [] := KK21.ext E22
  have CR22 := CR21.trans CU22
  have CH22 := CU22.1
  replace k : ow T22 (mkF m 10 #[ow_r a1, ow_r a2] [(.ref a22), (.ref a2)]) := fun t q => k t (XS.aloadN X21.here hx rfl (D 3 rfl) rfl rfl (st22 t q))
  clear st22
  obtain ⟨bo23, ko23, Eo23, Vo23, Co23, Ao23⟩ := own_Str.open_ ((T_a2.keep (a0 := a0) KC21 all0).ext E22)
  have Ao23 : Arv Z h22 bo23 ko23 .byte (3 : Int32) [(.int 40), (.int 41), (.int 86)] (.int 0) := Ao23
  obtain ⟨_, T24, L24, X24, hQ24, k⟩ := own_cV X22 hx hw hZ hown e22 k (own_m42 l Z a0 hw [] a2 a22 ([40, 41, 86] : List Int32) ([41, 86] : List Int32) 1 bo23 ko23 w_COMPACT_STRINGS bs22 kc22 h22 n0 Z22 Vo23 Ao23 ((own_sta_keep S_COMPACT_STRINGS KC21 ns0).ext E22) Co23 Eo23 FV22 AV22 FC22 EX22 hz (by first | assumption | exact Nat.le_of_ble_eq_true rfl | rfl | omega | decide) (by first | assumption | exact Nat.le_of_ble_eq_true rfl | rfl | omega | decide) (by first | assumption | exact Nat.le_of_ble_eq_true rfl | rfl | omega | decide)) 182 183 185 184 186 9 rfl rfl rfl rfl rfl rfl Eo23 (by decide) rfl (by rw [hml]; rfl) [(.ref a22)] [] (lenOf own_pd10 rfl) rfl rfl (W := 0) own_le (D 5 rfl) (by decide) (by decide) (by decide) (by decide)
  rw [show own_f42 ([40, 41, 86] : List Int32) ([41, 86] : List Int32) 1 = (1 : Int32) from by unfold own_f42; rw [if_pos (show (own_mis ([40, 41, 86] : List Int32) ([41, 86] : List Int32) 1) < (0 : Int32) from (by show own_mmA [(41 : Int32), (86 : Int32)] [(41 : Int32), (86 : Int32)] 0 < 0; decide))]] at hQ24
  obtain ⟨rfl, N24q, e24⟩ := hQ24
  have N24 := Fr.app N21 N24q
  replace k : ow T24 (mkF m 32 #[ow_r a1, ow_r a2] []) := fun t q => k t (XS.ifYes X24.here hx rfl (pc0 := 13) (pc' := 32) rfl (D 6 rfl) rfl ((if0 _ _).trans (feq (show ¬ ((1 : Int32) = (0 : Int32)) from (by decide))).2) (by decide) (by decide) q)
  replace k : ow T24 (mkF m 33 #[ow_r a1, ow_r a2] [.null]) := fun t q => k t (XS.aconstNull X24.here hx rfl (D 7 rfl) q)
  exact own_endS (v := some .null) X24 e24 hS22 hk22 hh Bd.notSynchronized (own_vn Bd.returns) k (fun _ hr => own_ret0 X24 hx Bd.returns rfl (D 8 rfl) hr) ⟨rfl, N24, K22⟩ (CR22.trans (own_CP.at own_J X24 hZ (own_EW hw) CH22)) (by decide) (by decide)
def own_m41_8_4_Q (Z : State) (a1 : Addr) (a2 : Addr) (b : Int32) (w_COMPACT_STRINGS : Int32) (w_SIOOBE_FORMATTER : Value) (h0 : Heap) (n0 : Nat) (v : Option Value) (h : Heap) (L : List Loc) : Prop := v = some .null ∧ Fr n0 L ∧ Keep h0 h []
set_option maxRecDepth 65536 in
set_option maxHeartbeats 40000000 in
theorem own_m41_8_4 (l : Launch) (Z : State) (a0 : Array Value) (hw : ∀ d ∈ tables_1, d.before a0 Z = true) (ws : List Jvm.Cond) (a1 : Addr) (a2 : Addr) (b : Int32) (w_COMPACT_STRINGS : Int32) (w_SIOOBE_FORMATTER : Value) (h0 : Heap) (n0 : Nat) (Z0 : n0 ≤ h0.size) (T_a1 : own_Str Z h0 a1 ([60, 99, 108, 105, 110, 105, 116, 62] : List Int32)) (T_a2 : own_Str Z h0 a2 ([40, b, 41, 86] : List Int32)) (S_COMPACT_STRINGS : Sta Z h0 "java/lang/String" "COMPACT_STRINGS" "Z" (.int w_COMPACT_STRINGS)) (S_SIOOBE_FORMATTER : Sta Z h0 "jdk/internal/util/Preconditions" "SIOOBE_FORMATTER" "Ljava/util/function/BiFunction;" w_SIOOBE_FORMATTER) (hz : ¬ (w_COMPACT_STRINGS = (0 : Int32))) (hrS : w_SIOOBE_FORMATTER.isRef = true) (okb : own_okb b) :
    own_MS l Z own_y41 ws prog_120_method_13_code 2 (some (.object "java/lang/String")) ({ frames := 4, cells := 6, slots := 76, locals := 59 } : Room) #[(.ref a1), (.ref a2)] h0 (own_CP Z consts_1 own_J) (own_m41_8_4_Q Z a1 a2 b w_COMPACT_STRINGS w_SIOOBE_FORMATTER h0 n0) := by
  refine own_goS own_CP.refl "com/example/callsite/callsite/model/JvmNames" rfl (plainFor_of_name own_pn41) (fun m => own_ef41 m a1 a2) own_d41 n0 fun p e s m below meth c s₁ A0 Bd hx D hml hown hnm X0 hZ e0 N0 hh CH0 hS0 hk0 CR0 k => ?_
  replace k : ow s₁ (mkF m 1 #[ow_r a1, ow_r a2] [(.ref a1)]) := fun t q => k t (XS.aloadN X0.here hx rfl (D 0 rfl) rfl rfl q)
  obtain ⟨_, T21, L21, h21, X21, hS21, hZ, hown, e21, hQ21, CU21, k⟩ := own_cSS X0 hx hw hZ hown e0 hS0 hk0 k (own_backP (EJ := own_J) (W := 0) (own_m35_8 l Z a0 hw [] a1 w_COMPACT_STRINGS w_SIOOBE_FORMATTER h0 n0 Z0 T_a1 S_COMPACT_STRINGS S_SIOOBE_FORMATTER hz hrS) hZ (own_h hw 153 rfl) (own_h hw 85 rfl) (by decide) (by decide) (own_EW hw) CH0) 151 152 85 153 rfl rfl rfl rfl (by decide) rfl (by rw [hml]; rfl) [(.ref a1)] [] (lenOf own_pd10 rfl) rfl rfl own_le (D 1 rfl) (by decide) (by decide)
  have hk21 := Nat.le_refl h21.size
  have CR21 := CR0.trans CU21
  have CH21 := CU21.1
  obtain ⟨rfl, N21q, KC21⟩ := hQ21
  have KK21 : Keep h0 h21 [] := (Keep.refl h0 []).trans KC21 all0
  have Z21 : n0 ≤ h21.size := Nat.le_trans Z0 KC21.1
  have N21 := Fr.app N0 N21q
  replace k : ow T21 (mkF m 7 #[ow_r a1, ow_r a2] []) := fun t q => k t (XS.ifNo X21.here hx rfl (D 2 rfl) rfl ((if0 _ _).trans (feq (show ¬ ((1 : Int32) = (0 : Int32)) from (by decide))).1) q)
  obtain ⟨a22, T22, h22, k122, bs22, kc22, X22, e22, E22, hS22, hk22, hZ, hown, EX22, FC22, FV22, AV22, la22, lb22, CU22, LT22, SX22, st22⟩ := own_ldc X21 hx hZ hown (own_h hw 181 rfl) (own_wS hw) e21 hS21 hk21 (own_EW hw) (List.mem_of_getElem? (i := 6) rfl) (EJ := own_J) (List.mem_of_getElem? (i := 6) rfl) CH21 (vs := [(.int 41), (.int 86)]) (z := (2 : Int32)) ⟨by decide, by decide⟩ (by decide) (by decide) (g := (mkF m 8 #[ow_r a1, ow_r a2] [(.ref a2)])) rfl (D 4 rfl) (n := 8) (by decide) (by decide) (by decide) (by decide)
  have Z22 : n0 ≤ h22.size := Nat.le_trans Z21 E22.1
  have K22 : Keep h0 h22 [] := KK21.ext E22
  have CR22 := CR21.trans CU22
  have CH22 := CU22.1
  replace k : ow T22 (mkF m 10 #[ow_r a1, ow_r a2] [(.ref a22), (.ref a2)]) := fun t q => k t (XS.aloadN X21.here hx rfl (D 3 rfl) rfl rfl (st22 t q))
  clear st22
  obtain ⟨bo23, ko23, Eo23, Vo23, Co23, Ao23⟩ := own_Str.open_ ((T_a2.keep (a0 := a0) KC21 all0).ext E22)
  have Ao23 : Arv Z h22 bo23 ko23 .byte (4 : Int32) [(.int 40), (.int (b.toInt8.toInt32)), (.int 41), (.int 86)] (.int 0) := Ao23
  obtain ⟨_, T24, L24, X24, hQ24, k⟩ := own_cV X22 hx hw hZ hown e22 k (own_m42 l Z a0 hw [] a2 a22 ([40, (b.toInt8.toInt32), 41, 86] : List Int32) ([41, 86] : List Int32) 2 bo23 ko23 w_COMPACT_STRINGS bs22 kc22 h22 n0 Z22 Vo23 Ao23 ((own_sta_keep S_COMPACT_STRINGS KC21 ns0).ext E22) Co23 Eo23 FV22 AV22 FC22 EX22 hz (by first | assumption | exact Nat.le_of_ble_eq_true rfl | rfl | omega | decide) (by first | assumption | exact Nat.le_of_ble_eq_true rfl | rfl | omega | decide) (by first | assumption | exact Nat.le_of_ble_eq_true rfl | rfl | omega | decide)) 182 183 185 184 186 9 rfl rfl rfl rfl rfl rfl Eo23 (by decide) rfl (by rw [hml]; rfl) [(.ref a22)] [] (lenOf own_pd10 rfl) rfl rfl (W := 0) own_le (D 5 rfl) (by decide) (by decide) (by decide) (by decide)
  rw [show own_f42 ([40, (b.toInt8.toInt32), 41, 86] : List Int32) ([41, 86] : List Int32) 2 = (1 : Int32) from by unfold own_f42; rw [if_pos (show (own_mis ([40, (b.toInt8.toInt32), 41, 86] : List Int32) ([41, 86] : List Int32) 2) < (0 : Int32) from (by show own_mmA [(41 : Int32), (86 : Int32)] [(41 : Int32), (86 : Int32)] 0 < 0; decide))]] at hQ24
  obtain ⟨rfl, N24q, e24⟩ := hQ24
  have N24 := Fr.app N21 N24q
  replace k : ow T24 (mkF m 32 #[ow_r a1, ow_r a2] []) := fun t q => k t (XS.ifYes X24.here hx rfl (pc0 := 13) (pc' := 32) rfl (D 6 rfl) rfl ((if0 _ _).trans (feq (show ¬ ((1 : Int32) = (0 : Int32)) from (by decide))).2) (by decide) (by decide) q)
  replace k : ow T24 (mkF m 33 #[ow_r a1, ow_r a2] [.null]) := fun t q => k t (XS.aconstNull X24.here hx rfl (D 7 rfl) q)
  exact own_endS (v := some .null) X24 e24 hS22 hk22 hh Bd.notSynchronized (own_vn Bd.returns) k (fun _ hr => own_ret0 X24 hx Bd.returns rfl (D 8 rfl) hr) ⟨rfl, N24, K22⟩ (CR22.trans (own_CP.at own_J X24 hZ (own_EW hw) CH22)) (by decide) (by decide)
def own_m41_2_Q (Z : State) (a1 : Addr) (a2 : Addr) (c0 : Int32) (c1 : Int32) (w_COMPACT_STRINGS : Int32) (w_SIOOBE_FORMATTER : Value) (h0 : Heap) (n0 : Nat) (v : Option Value) (h : Heap) (L : List Loc) : Prop := v = some .null ∧ Fr n0 L ∧ Keep h0 h []
set_option maxRecDepth 65536 in
set_option maxHeartbeats 40000000 in
theorem own_m41_2 (l : Launch) (Z : State) (a0 : Array Value) (hw : ∀ d ∈ tables_1, d.before a0 Z = true) (ws : List Jvm.Cond) (a1 : Addr) (a2 : Addr) (c0 : Int32) (c1 : Int32) (w_COMPACT_STRINGS : Int32) (w_SIOOBE_FORMATTER : Value) (h0 : Heap) (n0 : Nat) (Z0 : n0 ≤ h0.size) (T_a1 : own_Str Z h0 a1 ([c0, c1] : List Int32)) (S_COMPACT_STRINGS : Sta Z h0 "java/lang/String" "COMPACT_STRINGS" "Z" (.int w_COMPACT_STRINGS)) (S_SIOOBE_FORMATTER : Sta Z h0 "jdk/internal/util/Preconditions" "SIOOBE_FORMATTER" "Ljava/util/function/BiFunction;" w_SIOOBE_FORMATTER) (hz : ¬ (w_COMPACT_STRINGS = (0 : Int32))) (hrS : w_SIOOBE_FORMATTER.isRef = true) :
    own_MS l Z own_y41 ws prog_120_method_13_code 2 (some (.object "java/lang/String")) ({ frames := 3, cells := 4, slots := 64, locals := 40 } : Room) #[(.ref a1), (.ref a2)] h0 (own_CP Z consts_1 own_J) (own_m41_2_Q Z a1 a2 c0 c1 w_COMPACT_STRINGS w_SIOOBE_FORMATTER h0 n0) := by
  refine own_goS own_CP.refl "com/example/callsite/callsite/model/JvmNames" rfl (plainFor_of_name own_pn41) (fun m => own_ef41 m a1 a2) own_d41 n0 fun p e s m below meth c s₁ A0 Bd hx D hml hown hnm X0 hZ e0 N0 hh CH0 hS0 hk0 CR0 k => ?_
  replace k : ow s₁ (mkF m 1 #[ow_r a1, ow_r a2] [(.ref a1)]) := fun t q => k t (XS.aloadN X0.here hx rfl (D 0 rfl) rfl rfl q)
  obtain ⟨_, T21, L21, h21, X21, hS21, hZ, hown, e21, hQ21, CU21, k⟩ := own_cSS X0 hx hw hZ hown e0 hS0 hk0 k (own_backP (EJ := own_J) (W := 0) (own_m35_2 l Z a0 hw [] a1 c0 c1 w_COMPACT_STRINGS w_SIOOBE_FORMATTER h0 n0 Z0 T_a1 S_COMPACT_STRINGS S_SIOOBE_FORMATTER hz hrS) hZ (own_h hw 153 rfl) (own_h hw 85 rfl) (by decide) (by decide) (own_EW hw) CH0) 151 152 85 153 rfl rfl rfl rfl (by decide) rfl (by rw [hml]; rfl) [(.ref a1)] [] (lenOf own_pd10 rfl) rfl rfl own_le (D 1 rfl) (by decide) (by decide)
  have hk21 := Nat.le_refl h21.size
  have CR21 := CR0.trans CU21
  have CH21 := CU21.1
  obtain ⟨rfl, N21q, KC21⟩ := hQ21
  have KK21 : Keep h0 h21 [] := (Keep.refl h0 []).trans KC21 all0
  have Z21 : n0 ≤ h21.size := Nat.le_trans Z0 KC21.1
  have N21 := Fr.app N0 N21q
  replace k : ow T21 (mkF m 32 #[ow_r a1, ow_r a2] []) := fun t q => k t (XS.ifYes X21.here hx rfl (pc0 := 4) (pc' := 32) rfl (D 2 rfl) rfl ((if0 _ _).trans (teq (show (0 : Int32) = (0 : Int32) from (by decide))).1) (by decide) (by decide) q)
  replace k : ow T21 (mkF m 33 #[ow_r a1, ow_r a2] [.null]) := fun t q => k t (XS.aconstNull X21.here hx rfl (D 7 rfl) q)
  exact own_endS (v := some .null) X21 e21 hS21 hk21 hh Bd.notSynchronized (own_vn Bd.returns) k (fun _ hr => own_ret0 X21 hx Bd.returns rfl (D 8 rfl) hr) ⟨rfl, N21, KK21⟩ (CR21.trans (own_CP.at own_J X21 hZ (own_EW hw) CH21)) (by decide) (by decide)
def own_okC (cs : List Int32) : Prop := ∃ c0 c1, own_okc c0 ∧ own_okc c1 ∧ (cs = ([c0, c1] : List Int32) ∨ cs = ([c0, 46, c1] : List Int32))
def own_okM (cs : List Int32) : Prop := cs = ([60, 105, 110, 105, 116, 62] : List Int32) ∨ cs = ([60, 99, 108, 105, 110, 105, 116, 62] : List Int32) ∨ ∃ c0 c1, own_okm c0 ∧ own_okm c1 ∧ cs = ([c0, c1] : List Int32)
def own_okD (ds : List Int32) : Prop := ∃ b r, own_okb b ∧ own_okb r ∧ (ds = ([40, 41, 86] : List Int32) ∨ ds = ([40, 41, r] : List Int32) ∨ ds = ([40, b, 41, 86] : List Int32) ∨ ds = ([40, b, 41, r] : List Int32))
def own_okMD (cs ds : List Int32) : Prop := (∃ b, own_okb b ∧ ((cs = ([60, 105, 110, 105, 116, 62] : List Int32) ∧ ds = ([40, 41, 86] : List Int32)) ∨ (cs = ([60, 105, 110, 105, 116, 62] : List Int32) ∧ ds = ([40, b, 41, 86] : List Int32)) ∨ (cs = ([60, 99, 108, 105, 110, 105, 116, 62] : List Int32) ∧ ds = ([40, 41, 86] : List Int32)) ∨ (cs = ([60, 99, 108, 105, 110, 105, 116, 62] : List Int32) ∧ ds = ([40, b, 41, 86] : List Int32)))) ∨ ∃ c0 c1, cs = ([c0, c1] : List Int32)
def own_isI (cs : List Int32) : Prop := cs = ([60, 105, 110, 105, 116, 62] : List Int32) ∨ cs = ([60, 99, 108, 105, 110, 105, 116, 62] : List Int32)
def own_isM (cs : List Int32) : Prop := ∃ c0 c1, own_okm c0 ∧ own_okm c1 ∧ cs = ([c0, c1] : List Int32)
def own_okB (ds : List Int32) : Prop := ∃ b r, own_okb b ∧ own_okb r ∧ (ds = ([40, 41, r] : List Int32) ∨ ds = ([40, b, 41, r] : List Int32))
def own_okV (ds : List Int32) : Prop := ∃ b, own_okb b ∧ (ds = ([40, 41, 86] : List Int32) ∨ ds = ([40, b, 41, 86] : List Int32))
def own_CN_Q (Z : State) (a1 : Addr) (w_COMPACT_STRINGS : Int32) (w_SIOOBE_FORMATTER : Value) (cs_a1 : List Int32) (h0 : Heap) (n0 : Nat) (v : Option Value) (h : Heap) (L : List Loc) : Prop := v = some (.int 1) ∧ Fr n0 L ∧ Keep h0 h []
theorem own_CN (l : Launch) (Z : State) (a0 : Array Value) (hw : ∀ d ∈ tables_1, d.before a0 Z = true) (ws : List Jvm.Cond) (a1 : Addr) (w_COMPACT_STRINGS : Int32) (w_SIOOBE_FORMATTER : Value) (cs_a1 : List Int32) (h0 : Heap) (n0 : Nat) (Z0 : n0 ≤ h0.size) (S_COMPACT_STRINGS : Sta Z h0 "java/lang/String" "COMPACT_STRINGS" "Z" (.int w_COMPACT_STRINGS)) (S_SIOOBE_FORMATTER : Sta Z h0 "jdk/internal/util/Preconditions" "SIOOBE_FORMATTER" "Ljava/util/function/BiFunction;" w_SIOOBE_FORMATTER) (T_a1 : own_Str Z h0 a1 cs_a1) (hz : ¬ (w_COMPACT_STRINGS = (0 : Int32))) (hrS : w_SIOOBE_FORMATTER.isRef = true) (hC : own_okC cs_a1) :
    own_MS l Z own_y19 ws prog_120_method_2_code 2 (some .boolean) ({ frames := 6, cells := 6, slots := 48, locals := 89 } : Room) #[(.ref a1), (.int 46)] h0 (own_CP Z consts_1 own_J) (own_CN_Q Z a1 w_COMPACT_STRINGS w_SIOOBE_FORMATTER cs_a1 h0 n0) := by
  rcases hC with ⟨c0, c1, ok0, ok1, rfl | rfl⟩
  · exact own_m19_2 l Z a0 hw ws a1 c0 c1 w_COMPACT_STRINGS w_SIOOBE_FORMATTER h0 n0 Z0 T_a1 S_COMPACT_STRINGS S_SIOOBE_FORMATTER hz hrS ok0 ok1
  · exact own_m19_3 l Z a0 hw ws a1 c0 c1 w_COMPACT_STRINGS w_SIOOBE_FORMATTER h0 n0 Z0 T_a1 S_COMPACT_STRINGS S_SIOOBE_FORMATTER hz hrS ok0 ok1
def own_MNi_Q (Z : State) (a1 : Addr) (w_COMPACT_STRINGS : Int32) (w_SIOOBE_FORMATTER : Value) (cs_a1 : List Int32) (h0 : Heap) (n0 : Nat) (v : Option Value) (h : Heap) (L : List Loc) : Prop := v = some (.int 1) ∧ Fr n0 L ∧ Keep h0 h []
theorem own_MNi (l : Launch) (Z : State) (a0 : Array Value) (hw : ∀ d ∈ tables_1, d.before a0 Z = true) (ws : List Jvm.Cond) (a1 : Addr) (w_COMPACT_STRINGS : Int32) (w_SIOOBE_FORMATTER : Value) (cs_a1 : List Int32) (h0 : Heap) (n0 : Nat) (Z0 : n0 ≤ h0.size) (S_COMPACT_STRINGS : Sta Z h0 "java/lang/String" "COMPACT_STRINGS" "Z" (.int w_COMPACT_STRINGS)) (S_SIOOBE_FORMATTER : Sta Z h0 "jdk/internal/util/Preconditions" "SIOOBE_FORMATTER" "Ljava/util/function/BiFunction;" w_SIOOBE_FORMATTER) (T_a1 : own_Str Z h0 a1 cs_a1) (hz : ¬ (w_COMPACT_STRINGS = (0 : Int32))) (hrS : w_SIOOBE_FORMATTER.isRef = true) (hI : own_isI cs_a1) :
    own_MS l Z own_y34 ws prog_120_method_4_code 1 (some .boolean) ({ frames := 3, cells := 4, slots := 64, locals := 40 } : Room) #[(.ref a1)] h0 (own_CP Z consts_1 own_J) (own_MNi_Q Z a1 w_COMPACT_STRINGS w_SIOOBE_FORMATTER cs_a1 h0 n0) := by
  rcases hI with rfl | rfl
  · exact own_m34_6 l Z a0 hw ws a1 w_COMPACT_STRINGS w_SIOOBE_FORMATTER h0 n0 Z0 T_a1 S_COMPACT_STRINGS S_SIOOBE_FORMATTER hz hrS
  · exact own_m34_8 l Z a0 hw ws a1 w_COMPACT_STRINGS w_SIOOBE_FORMATTER h0 n0 Z0 T_a1 S_COMPACT_STRINGS S_SIOOBE_FORMATTER hz hrS
def own_MNm_Q (Z : State) (a1 : Addr) (w_COMPACT_STRINGS : Int32) (w_SIOOBE_FORMATTER : Value) (cs_a1 : List Int32) (h0 : Heap) (n0 : Nat) (v : Option Value) (h : Heap) (L : List Loc) : Prop := v = some (.int 1) ∧ Fr n0 L ∧ Keep h0 h []
theorem own_MNm (l : Launch) (Z : State) (a0 : Array Value) (hw : ∀ d ∈ tables_1, d.before a0 Z = true) (ws : List Jvm.Cond) (a1 : Addr) (w_COMPACT_STRINGS : Int32) (w_SIOOBE_FORMATTER : Value) (cs_a1 : List Int32) (h0 : Heap) (n0 : Nat) (Z0 : n0 ≤ h0.size) (S_COMPACT_STRINGS : Sta Z h0 "java/lang/String" "COMPACT_STRINGS" "Z" (.int w_COMPACT_STRINGS)) (S_SIOOBE_FORMATTER : Sta Z h0 "jdk/internal/util/Preconditions" "SIOOBE_FORMATTER" "Ljava/util/function/BiFunction;" w_SIOOBE_FORMATTER) (T_a1 : own_Str Z h0 a1 cs_a1) (hz : ¬ (w_COMPACT_STRINGS = (0 : Int32))) (hrS : w_SIOOBE_FORMATTER.isRef = true) (hM : own_isM cs_a1) :
    own_MS l Z own_y34 ws prog_120_method_4_code 1 (some .boolean) ({ frames := 5, cells := 6, slots := 84, locals := 74 } : Room) #[(.ref a1)] h0 (own_CP Z consts_1 own_J) (own_MNm_Q Z a1 w_COMPACT_STRINGS w_SIOOBE_FORMATTER cs_a1 h0 n0) := by
  rcases hM with ⟨c0, c1, ok0, ok1, rfl⟩
  · exact own_m34_2 l Z a0 hw ws a1 c0 c1 w_COMPACT_STRINGS w_SIOOBE_FORMATTER h0 n0 Z0 T_a1 S_COMPACT_STRINGS S_SIOOBE_FORMATTER hz hrS ok0 ok1
def own_PUv_Q (Z : State) (a1 : Addr) (w_COMPACT_STRINGS : Int32) (w_SIOOBE_FORMATTER : Value) (cs_a1 : List Int32) (h0 : Heap) (n0 : Nat) (v : Option Value) (h : Heap) (L : List Loc) : Prop := ∃ k : Int32, v = some (.int k) ∧ (¬ k < 0 ∧ ¬ (255 : Int32) < k) ∧ Fr n0 L ∧ Keep h0 h []
theorem own_PUv (l : Launch) (Z : State) (a0 : Array Value) (hw : ∀ d ∈ tables_1, d.before a0 Z = true) (ws : List Jvm.Cond) (a1 : Addr) (w_COMPACT_STRINGS : Int32) (w_SIOOBE_FORMATTER : Value) (cs_a1 : List Int32) (h0 : Heap) (n0 : Nat) (Z0 : n0 ≤ h0.size) (S_COMPACT_STRINGS : Sta Z h0 "java/lang/String" "COMPACT_STRINGS" "Z" (.int w_COMPACT_STRINGS)) (S_SIOOBE_FORMATTER : Sta Z h0 "jdk/internal/util/Preconditions" "SIOOBE_FORMATTER" "Ljava/util/function/BiFunction;" w_SIOOBE_FORMATTER) (T_a1 : own_Str Z h0 a1 cs_a1) (hz : ¬ (w_COMPACT_STRINGS = (0 : Int32))) (hrS : w_SIOOBE_FORMATTER.isRef = true) (hV : own_okV cs_a1) :
    own_MS l Z own_y39 ws prog_120_method_8_code 5 (some .int) ({ frames := 5, cells := 8, slots := 64, locals := 76 } : Room) #[(.ref a1)] h0 (own_CP Z consts_1 own_J) (own_PUv_Q Z a1 w_COMPACT_STRINGS w_SIOOBE_FORMATTER cs_a1 h0 n0) := by
  rcases hV with ⟨b, okb, rfl | rfl⟩
  · exact own_m39_3v l Z a0 hw ws a1 w_COMPACT_STRINGS w_SIOOBE_FORMATTER h0 n0 Z0 T_a1 S_COMPACT_STRINGS S_SIOOBE_FORMATTER hz hrS
  · exact own_m39_4v l Z a0 hw ws a1 b w_COMPACT_STRINGS w_SIOOBE_FORMATTER h0 n0 Z0 T_a1 S_COMPACT_STRINGS S_SIOOBE_FORMATTER hz hrS okb
def own_PUb_Q (Z : State) (a1 : Addr) (w_COMPACT_STRINGS : Int32) (w_SIOOBE_FORMATTER : Value) (cs_a1 : List Int32) (h0 : Heap) (n0 : Nat) (v : Option Value) (h : Heap) (L : List Loc) : Prop := ∃ k : Int32, v = some (.int k) ∧ (¬ k < 0 ∧ ¬ (255 : Int32) < k) ∧ Fr n0 L ∧ Keep h0 h []
theorem own_PUb (l : Launch) (Z : State) (a0 : Array Value) (hw : ∀ d ∈ tables_1, d.before a0 Z = true) (ws : List Jvm.Cond) (a1 : Addr) (w_COMPACT_STRINGS : Int32) (w_SIOOBE_FORMATTER : Value) (cs_a1 : List Int32) (h0 : Heap) (n0 : Nat) (Z0 : n0 ≤ h0.size) (S_COMPACT_STRINGS : Sta Z h0 "java/lang/String" "COMPACT_STRINGS" "Z" (.int w_COMPACT_STRINGS)) (S_SIOOBE_FORMATTER : Sta Z h0 "jdk/internal/util/Preconditions" "SIOOBE_FORMATTER" "Ljava/util/function/BiFunction;" w_SIOOBE_FORMATTER) (T_a1 : own_Str Z h0 a1 cs_a1) (hz : ¬ (w_COMPACT_STRINGS = (0 : Int32))) (hrS : w_SIOOBE_FORMATTER.isRef = true) (hB : own_okB cs_a1) :
    own_MS l Z own_y39 ws prog_120_method_8_code 5 (some .int) ({ frames := 5, cells := 10, slots := 100, locals := 76 } : Room) #[(.ref a1)] h0 (own_CP Z consts_1 own_J) (own_PUb_Q Z a1 w_COMPACT_STRINGS w_SIOOBE_FORMATTER cs_a1 h0 n0) := by
  rcases hB with ⟨b, r, okb, okr, rfl | rfl⟩
  · exact own_m39_3b l Z a0 hw ws a1 r w_COMPACT_STRINGS w_SIOOBE_FORMATTER h0 n0 Z0 T_a1 S_COMPACT_STRINGS S_SIOOBE_FORMATTER hz hrS okr
  · exact own_m39_4b l Z a0 hw ws a1 b r w_COMPACT_STRINGS w_SIOOBE_FORMATTER h0 n0 Z0 T_a1 S_COMPACT_STRINGS S_SIOOBE_FORMATTER hz hrS okb okr
def own_IRi_Q (Z : State) (a1 : Addr) (a2 : Addr) (w_COMPACT_STRINGS : Int32) (w_SIOOBE_FORMATTER : Value) (cs_a1 : List Int32) (cs_a2 : List Int32) (h0 : Heap) (n0 : Nat) (v : Option Value) (h : Heap) (L : List Loc) : Prop := v = some .null ∧ Fr n0 L ∧ Keep h0 h []
theorem own_IRi (l : Launch) (Z : State) (a0 : Array Value) (hw : ∀ d ∈ tables_1, d.before a0 Z = true) (ws : List Jvm.Cond) (a1 : Addr) (a2 : Addr) (w_COMPACT_STRINGS : Int32) (w_SIOOBE_FORMATTER : Value) (cs_a1 : List Int32) (cs_a2 : List Int32) (h0 : Heap) (n0 : Nat) (Z0 : n0 ≤ h0.size) (S_COMPACT_STRINGS : Sta Z h0 "java/lang/String" "COMPACT_STRINGS" "Z" (.int w_COMPACT_STRINGS)) (S_SIOOBE_FORMATTER : Sta Z h0 "jdk/internal/util/Preconditions" "SIOOBE_FORMATTER" "Ljava/util/function/BiFunction;" w_SIOOBE_FORMATTER) (T_a1 : own_Str Z h0 a1 cs_a1) (T_a2 : own_Str Z h0 a2 cs_a2) (hz : ¬ (w_COMPACT_STRINGS = (0 : Int32))) (hrS : w_SIOOBE_FORMATTER.isRef = true) (hI : own_isI cs_a1) (hV : own_okV cs_a2) :
    own_MS l Z own_y41 ws prog_120_method_13_code 2 (some (.object "java/lang/String")) ({ frames := 4, cells := 6, slots := 76, locals := 59 } : Room) #[(.ref a1), (.ref a2)] h0 (own_CP Z consts_1 own_J) (own_IRi_Q Z a1 a2 w_COMPACT_STRINGS w_SIOOBE_FORMATTER cs_a1 cs_a2 h0 n0) := by
  rcases hI with rfl | rfl <;> rcases hV with ⟨b, okb, rfl | rfl⟩
  · exact own_m41_6_3 l Z a0 hw ws a1 a2 w_COMPACT_STRINGS w_SIOOBE_FORMATTER h0 n0 Z0 T_a1 T_a2 S_COMPACT_STRINGS S_SIOOBE_FORMATTER hz hrS
  · exact own_m41_6_4 l Z a0 hw ws a1 a2 b w_COMPACT_STRINGS w_SIOOBE_FORMATTER h0 n0 Z0 T_a1 T_a2 S_COMPACT_STRINGS S_SIOOBE_FORMATTER hz hrS okb
  · exact own_m41_8_3 l Z a0 hw ws a1 a2 w_COMPACT_STRINGS w_SIOOBE_FORMATTER h0 n0 Z0 T_a1 T_a2 S_COMPACT_STRINGS S_SIOOBE_FORMATTER hz hrS
  · exact own_m41_8_4 l Z a0 hw ws a1 a2 b w_COMPACT_STRINGS w_SIOOBE_FORMATTER h0 n0 Z0 T_a1 T_a2 S_COMPACT_STRINGS S_SIOOBE_FORMATTER hz hrS okb
def own_IRm_Q (Z : State) (a1 : Addr) (a2 : Addr) (w_COMPACT_STRINGS : Int32) (w_SIOOBE_FORMATTER : Value) (cs_a1 : List Int32) (h0 : Heap) (n0 : Nat) (v : Option Value) (h : Heap) (L : List Loc) : Prop := v = some .null ∧ Fr n0 L ∧ Keep h0 h []
theorem own_IRm (l : Launch) (Z : State) (a0 : Array Value) (hw : ∀ d ∈ tables_1, d.before a0 Z = true) (ws : List Jvm.Cond) (a1 : Addr) (a2 : Addr) (w_COMPACT_STRINGS : Int32) (w_SIOOBE_FORMATTER : Value) (cs_a1 : List Int32) (h0 : Heap) (n0 : Nat) (Z0 : n0 ≤ h0.size) (S_COMPACT_STRINGS : Sta Z h0 "java/lang/String" "COMPACT_STRINGS" "Z" (.int w_COMPACT_STRINGS)) (S_SIOOBE_FORMATTER : Sta Z h0 "jdk/internal/util/Preconditions" "SIOOBE_FORMATTER" "Ljava/util/function/BiFunction;" w_SIOOBE_FORMATTER) (T_a1 : own_Str Z h0 a1 cs_a1) (hz : ¬ (w_COMPACT_STRINGS = (0 : Int32))) (hrS : w_SIOOBE_FORMATTER.isRef = true) (hM : own_isM cs_a1) :
    own_MS l Z own_y41 ws prog_120_method_13_code 2 (some (.object "java/lang/String")) ({ frames := 3, cells := 4, slots := 64, locals := 40 } : Room) #[(.ref a1), (.ref a2)] h0 (own_CP Z consts_1 own_J) (own_IRm_Q Z a1 a2 w_COMPACT_STRINGS w_SIOOBE_FORMATTER cs_a1 h0 n0) := by
  rcases hM with ⟨c0, c1, ok0, ok1, rfl⟩
  · exact own_m41_2 l Z a0 hw ws a1 a2 c0 c1 w_COMPACT_STRINGS w_SIOOBE_FORMATTER h0 n0 Z0 T_a1 S_COMPACT_STRINGS S_SIOOBE_FORMATTER hz hrS
theorem own_d38 : own_all prog_120_method_9_code [(0, .aload_n 1, 1), (1, .invokestatic 50, 3), (4, .istore_n 2, 1), (5, .iload_n 2, 1), (6, .ifCond .ge 10, 3), (16, .iload_n 2, 1), (17, .sipush 255, 3), (20, .if_icmp .le 16, 3), (36, .aload_n 0, 1), (37, .aload_n 1, 1), (38, .invokestatic 80, 3), (41, .areturn, 1)] := by decide +kernel
theorem own_pd13 : parseMethodDescriptor "(Ljava/lang/String;)I" = some ⟨[(.object "java/lang/String")], some .int⟩ := by decide +kernel
theorem own_pd14 : parseMethodDescriptor "(Ljava/lang/String;Ljava/lang/String;)Ljava/lang/String;" = some ⟨[(.object "java/lang/String"), (.object "java/lang/String")], some (.object "java/lang/String")⟩ := by decide +kernel
theorem own_ef38 (m : MethodId) (x0 : Addr) (x1 : Addr) : entryFrame m #[(.ref x0), (.ref x1)] 3 = mkF m 0 #[ow_r x0, ow_r x1, .unset] [] := by first | (simp [entryFrame, mkF, argsToLocals, Value.category]; done) | rfl
theorem own_pn38 : plainName "com/example/callsite/callsite/model/JvmNames" = true := by first | (simp [plainName, overriddenIn]; done) | decide +kernel
def own_m38_i_Q (Z : State) (a1 : Addr) (a2 : Addr) (w_COMPACT_STRINGS : Int32) (w_SIOOBE_FORMATTER : Value) (cs_a2 : List Int32) (cs_a1 : List Int32) (h0 : Heap) (n0 : Nat) (v : Option Value) (h : Heap) (L : List Loc) : Prop := v = some .null ∧ Fr n0 L ∧ Keep h0 h []
set_option maxRecDepth 65536 in
set_option maxHeartbeats 40000000 in
theorem own_m38_i (l : Launch) (Z : State) (a0 : Array Value) (hw : ∀ d ∈ tables_1, d.before a0 Z = true) (ws : List Jvm.Cond) (a1 : Addr) (a2 : Addr) (w_COMPACT_STRINGS : Int32) (w_SIOOBE_FORMATTER : Value) (cs_a2 : List Int32) (cs_a1 : List Int32) (h0 : Heap) (n0 : Nat) (Z0 : n0 ≤ h0.size) (S_COMPACT_STRINGS : Sta Z h0 "java/lang/String" "COMPACT_STRINGS" "Z" (.int w_COMPACT_STRINGS)) (S_SIOOBE_FORMATTER : Sta Z h0 "jdk/internal/util/Preconditions" "SIOOBE_FORMATTER" "Ljava/util/function/BiFunction;" w_SIOOBE_FORMATTER) (T_a2 : own_Str Z h0 a2 cs_a2) (T_a1 : own_Str Z h0 a1 cs_a1) (hz : ¬ (w_COMPACT_STRINGS = (0 : Int32))) (hrS : w_SIOOBE_FORMATTER.isRef = true) (hI : own_isI cs_a1) (hV : own_okV cs_a2) :
    own_MS l Z own_y38 ws prog_120_method_9_code 3 (some (.object "java/lang/String")) ({ frames := 6, cells := 14, slots := 140, locals := 92 } : Room) #[(.ref a1), (.ref a2)] h0 (own_CP Z consts_1 own_J) (own_m38_i_Q Z a1 a2 w_COMPACT_STRINGS w_SIOOBE_FORMATTER cs_a2 cs_a1 h0 n0) := by
  refine own_goS own_CP.refl "com/example/callsite/callsite/model/JvmNames" rfl (plainFor_of_name own_pn38) (fun m => own_ef38 m a1 a2) own_d38 n0 fun p e s m below meth c s₁ A0 Bd hx D hml hown hnm X0 hZ e0 N0 hh CH0 hS0 hk0 CR0 k => ?_
  replace k : ow s₁ (mkF m 1 #[ow_r a1, ow_r a2, .unset] [(.ref a2)]) := fun t q => k t (XS.aloadN X0.here hx rfl (D 0 rfl) rfl rfl q)
  obtain ⟨_, T21, L21, h21, X21, hS21, hZ, hown, e21, hQ21, CU21, k⟩ := own_cSS X0 hx hw hZ hown e0 hS0 hk0 k (own_backP (EJ := own_J) (W := 0) (own_PUv l Z a0 hw [] a2 w_COMPACT_STRINGS w_SIOOBE_FORMATTER cs_a2 h0 n0 Z0 S_COMPACT_STRINGS S_SIOOBE_FORMATTER T_a2 hz hrS hV) hZ (own_h hw 169 rfl) (own_h hw 85 rfl) (by decide) (by decide) (own_EW hw) CH0) 167 168 85 169 rfl rfl rfl rfl (by decide) rfl (by rw [hml]; rfl) [(.ref a2)] [] (lenOf own_pd13 rfl) rfl rfl own_le (D 1 rfl) (by decide) (by decide)
  have hk21 := Nat.le_refl h21.size
  have CR21 := CR0.trans CU21
  have CH21 := CU21.1
  obtain ⟨u21, rfl, hu21, N21q, KC21⟩ := hQ21
  have KK21 : Keep h0 h21 [] := (Keep.refl h0 []).trans KC21 all0
  have Z21 : n0 ≤ h21.size := Nat.le_trans Z0 KC21.1
  have N21 := Fr.app N0 N21q
  replace k : ow T21 (mkF m 16 #[ow_r a1, ow_r a2, ow_i u21] []) := fun t q => k t (XS.istoreN X21.here hx rfl (D 2 rfl) rfl (l' := #[ow_r a1, ow_r a2, ow_i u21]) rfl (XS.iloadN X21.here hx rfl (D 3 rfl) rfl (XS.ifYes X21.here hx rfl (pc0 := 6) (pc' := 16) rfl (D 4 rfl) rfl ((if0 _ _).trans (flt (show ¬ (u21 < (0 : Int32)) from hu21.1)).2.1) (by decide) (by decide) q)))
  replace k : ow T21 (mkF m 36 #[ow_r a1, ow_r a2, ow_i u21] []) := fun t q => k t (XS.iloadN X21.here hx rfl (D 5 rfl) rfl (XS.sipush X21.here hx rfl (D 6 rfl) (XS.icmpYes X21.here hx rfl (pc0 := 20) (pc' := 36) rfl (D 7 rfl) rfl (flt (show ¬ ((255 : Int32) < u21) from hu21.2)).2.2.2 (by decide) (by decide) q)))
  replace k : ow T21 (mkF m 38 #[ow_r a1, ow_r a2, ow_i u21] [(.ref a2), (.ref a1)]) := fun t q => k t (XS.aloadN X21.here hx rfl (D 8 rfl) rfl rfl (XS.aloadN X21.here hx rfl (D 9 rfl) rfl rfl q))
  obtain ⟨_, T22, L22, h22, X22, hS22, hZ, hown, e22, hQ22, CU22, k⟩ := own_cSS X21 hx hw hZ hown e21 hS21 hk21 k (own_backP (EJ := own_J) (W := 0) (own_IRi l Z a0 hw [] a1 a2 w_COMPACT_STRINGS w_SIOOBE_FORMATTER cs_a1 cs_a2 h21 n0 Z21 (own_sta_keep S_COMPACT_STRINGS KC21 ns0) (own_sta_keep S_SIOOBE_FORMATTER KC21 ns0) (T_a1.keep (a0 := a0) KC21 all0) (T_a2.keep (a0 := a0) KC21 all0) hz hrS hI hV) hZ (own_h hw 180 rfl) (own_h hw 85 rfl) (by decide) (by decide) (own_EW hw) CH21) 178 179 85 180 rfl rfl rfl rfl (by decide) rfl (by rw [hml]; rfl) [(.ref a1), (.ref a2)] [] (lenOf own_pd14 rfl) rfl rfl own_le (D 10 rfl) (by decide) (by decide)
  have hk22 := Nat.le_refl h22.size
  have CR22 := CR21.trans CU22
  have CH22 := CU22.1
  obtain ⟨rfl, N22q, KC22⟩ := hQ22
  have KK22 : Keep h0 h22 [] := KK21.trans KC22 all0
  have Z22 : n0 ≤ h22.size := Nat.le_trans Z21 KC22.1
  have N22 := Fr.app N21 N22q
  exact own_endS (v := some .null) X22 e22 hS22 hk22 hh Bd.notSynchronized (own_vn Bd.returns) k (fun _ hr => own_ret0 X22 hx Bd.returns rfl (D 11 rfl) hr) ⟨rfl, N22, KK22⟩ (CR22.trans (own_CP.at own_J X22 hZ (own_EW hw) CH22)) (by decide) (by decide)
def own_m38_m_Q (Z : State) (a1 : Addr) (a2 : Addr) (w_COMPACT_STRINGS : Int32) (w_SIOOBE_FORMATTER : Value) (cs_a2 : List Int32) (cs_a1 : List Int32) (h0 : Heap) (n0 : Nat) (v : Option Value) (h : Heap) (L : List Loc) : Prop := v = some .null ∧ Fr n0 L ∧ Keep h0 h []
set_option maxRecDepth 65536 in
set_option maxHeartbeats 40000000 in
theorem own_m38_m (l : Launch) (Z : State) (a0 : Array Value) (hw : ∀ d ∈ tables_1, d.before a0 Z = true) (ws : List Jvm.Cond) (a1 : Addr) (a2 : Addr) (w_COMPACT_STRINGS : Int32) (w_SIOOBE_FORMATTER : Value) (cs_a2 : List Int32) (cs_a1 : List Int32) (h0 : Heap) (n0 : Nat) (Z0 : n0 ≤ h0.size) (S_COMPACT_STRINGS : Sta Z h0 "java/lang/String" "COMPACT_STRINGS" "Z" (.int w_COMPACT_STRINGS)) (S_SIOOBE_FORMATTER : Sta Z h0 "jdk/internal/util/Preconditions" "SIOOBE_FORMATTER" "Ljava/util/function/BiFunction;" w_SIOOBE_FORMATTER) (T_a2 : own_Str Z h0 a2 cs_a2) (T_a1 : own_Str Z h0 a1 cs_a1) (hz : ¬ (w_COMPACT_STRINGS = (0 : Int32))) (hrS : w_SIOOBE_FORMATTER.isRef = true) (hM : own_isM cs_a1) (hB : own_okB cs_a2) :
    own_MS l Z own_y38 ws prog_120_method_9_code 3 (some (.object "java/lang/String")) ({ frames := 6, cells := 14, slots := 164, locals := 92 } : Room) #[(.ref a1), (.ref a2)] h0 (own_CP Z consts_1 own_J) (own_m38_m_Q Z a1 a2 w_COMPACT_STRINGS w_SIOOBE_FORMATTER cs_a2 cs_a1 h0 n0) := by
  refine own_goS own_CP.refl "com/example/callsite/callsite/model/JvmNames" rfl (plainFor_of_name own_pn38) (fun m => own_ef38 m a1 a2) own_d38 n0 fun p e s m below meth c s₁ A0 Bd hx D hml hown hnm X0 hZ e0 N0 hh CH0 hS0 hk0 CR0 k => ?_
  replace k : ow s₁ (mkF m 1 #[ow_r a1, ow_r a2, .unset] [(.ref a2)]) := fun t q => k t (XS.aloadN X0.here hx rfl (D 0 rfl) rfl rfl q)
  obtain ⟨_, T21, L21, h21, X21, hS21, hZ, hown, e21, hQ21, CU21, k⟩ := own_cSS X0 hx hw hZ hown e0 hS0 hk0 k (own_backP (EJ := own_J) (W := 0) (own_PUb l Z a0 hw [] a2 w_COMPACT_STRINGS w_SIOOBE_FORMATTER cs_a2 h0 n0 Z0 S_COMPACT_STRINGS S_SIOOBE_FORMATTER T_a2 hz hrS hB) hZ (own_h hw 169 rfl) (own_h hw 85 rfl) (by decide) (by decide) (own_EW hw) CH0) 167 168 85 169 rfl rfl rfl rfl (by decide) rfl (by rw [hml]; rfl) [(.ref a2)] [] (lenOf own_pd13 rfl) rfl rfl own_le (D 1 rfl) (by decide) (by decide)
  have hk21 := Nat.le_refl h21.size
  have CR21 := CR0.trans CU21
  have CH21 := CU21.1
  obtain ⟨u21, rfl, hu21, N21q, KC21⟩ := hQ21
  have KK21 : Keep h0 h21 [] := (Keep.refl h0 []).trans KC21 all0
  have Z21 : n0 ≤ h21.size := Nat.le_trans Z0 KC21.1
  have N21 := Fr.app N0 N21q
  replace k : ow T21 (mkF m 16 #[ow_r a1, ow_r a2, ow_i u21] []) := fun t q => k t (XS.istoreN X21.here hx rfl (D 2 rfl) rfl (l' := #[ow_r a1, ow_r a2, ow_i u21]) rfl (XS.iloadN X21.here hx rfl (D 3 rfl) rfl (XS.ifYes X21.here hx rfl (pc0 := 6) (pc' := 16) rfl (D 4 rfl) rfl ((if0 _ _).trans (flt (show ¬ (u21 < (0 : Int32)) from hu21.1)).2.1) (by decide) (by decide) q)))
  replace k : ow T21 (mkF m 36 #[ow_r a1, ow_r a2, ow_i u21] []) := fun t q => k t (XS.iloadN X21.here hx rfl (D 5 rfl) rfl (XS.sipush X21.here hx rfl (D 6 rfl) (XS.icmpYes X21.here hx rfl (pc0 := 20) (pc' := 36) rfl (D 7 rfl) rfl (flt (show ¬ ((255 : Int32) < u21) from hu21.2)).2.2.2 (by decide) (by decide) q)))
  replace k : ow T21 (mkF m 38 #[ow_r a1, ow_r a2, ow_i u21] [(.ref a2), (.ref a1)]) := fun t q => k t (XS.aloadN X21.here hx rfl (D 8 rfl) rfl rfl (XS.aloadN X21.here hx rfl (D 9 rfl) rfl rfl q))
  obtain ⟨_, T22, L22, h22, X22, hS22, hZ, hown, e22, hQ22, CU22, k⟩ := own_cSS X21 hx hw hZ hown e21 hS21 hk21 k (own_backP (EJ := own_J) (W := 0) (own_IRm l Z a0 hw [] a1 a2 w_COMPACT_STRINGS w_SIOOBE_FORMATTER cs_a1 h21 n0 Z21 (own_sta_keep S_COMPACT_STRINGS KC21 ns0) (own_sta_keep S_SIOOBE_FORMATTER KC21 ns0) (T_a1.keep (a0 := a0) KC21 all0) hz hrS hM) hZ (own_h hw 180 rfl) (own_h hw 85 rfl) (by decide) (by decide) (own_EW hw) CH21) 178 179 85 180 rfl rfl rfl rfl (by decide) rfl (by rw [hml]; rfl) [(.ref a1), (.ref a2)] [] (lenOf own_pd14 rfl) rfl rfl own_le (D 10 rfl) (by decide) (by decide)
  have hk22 := Nat.le_refl h22.size
  have CR22 := CR21.trans CU22
  have CH22 := CU22.1
  obtain ⟨rfl, N22q, KC22⟩ := hQ22
  have KK22 : Keep h0 h22 [] := KK21.trans KC22 all0
  have Z22 : n0 ≤ h22.size := Nat.le_trans Z21 KC22.1
  have N22 := Fr.app N21 N22q
  exact own_endS (v := some .null) X22 e22 hS22 hk22 hh Bd.notSynchronized (own_vn Bd.returns) k (fun _ hr => own_ret0 X22 hx Bd.returns rfl (D 11 rfl) hr) ⟨rfl, N22, KK22⟩ (CR22.trans (own_CP.at own_J X22 hZ (own_EW hw) CH22)) (by decide) (by decide)
def own_m38_n_Q (Z : State) (a1 : Addr) (a2 : Addr) (w_COMPACT_STRINGS : Int32) (w_SIOOBE_FORMATTER : Value) (cs_a2 : List Int32) (cs_a1 : List Int32) (h0 : Heap) (n0 : Nat) (v : Option Value) (h : Heap) (L : List Loc) : Prop := v = some .null ∧ Fr n0 L ∧ Keep h0 h []
set_option maxRecDepth 65536 in
set_option maxHeartbeats 40000000 in
theorem own_m38_n (l : Launch) (Z : State) (a0 : Array Value) (hw : ∀ d ∈ tables_1, d.before a0 Z = true) (ws : List Jvm.Cond) (a1 : Addr) (a2 : Addr) (w_COMPACT_STRINGS : Int32) (w_SIOOBE_FORMATTER : Value) (cs_a2 : List Int32) (cs_a1 : List Int32) (h0 : Heap) (n0 : Nat) (Z0 : n0 ≤ h0.size) (S_COMPACT_STRINGS : Sta Z h0 "java/lang/String" "COMPACT_STRINGS" "Z" (.int w_COMPACT_STRINGS)) (S_SIOOBE_FORMATTER : Sta Z h0 "jdk/internal/util/Preconditions" "SIOOBE_FORMATTER" "Ljava/util/function/BiFunction;" w_SIOOBE_FORMATTER) (T_a2 : own_Str Z h0 a2 cs_a2) (T_a1 : own_Str Z h0 a1 cs_a1) (hz : ¬ (w_COMPACT_STRINGS = (0 : Int32))) (hrS : w_SIOOBE_FORMATTER.isRef = true) (hM : own_isM cs_a1) (hV : own_okV cs_a2) :
    own_MS l Z own_y38 ws prog_120_method_9_code 3 (some (.object "java/lang/String")) ({ frames := 6, cells := 14, slots := 164, locals := 92 } : Room) #[(.ref a1), (.ref a2)] h0 (own_CP Z consts_1 own_J) (own_m38_n_Q Z a1 a2 w_COMPACT_STRINGS w_SIOOBE_FORMATTER cs_a2 cs_a1 h0 n0) := by
  refine own_goS own_CP.refl "com/example/callsite/callsite/model/JvmNames" rfl (plainFor_of_name own_pn38) (fun m => own_ef38 m a1 a2) own_d38 n0 fun p e s m below meth c s₁ A0 Bd hx D hml hown hnm X0 hZ e0 N0 hh CH0 hS0 hk0 CR0 k => ?_
  replace k : ow s₁ (mkF m 1 #[ow_r a1, ow_r a2, .unset] [(.ref a2)]) := fun t q => k t (XS.aloadN X0.here hx rfl (D 0 rfl) rfl rfl q)
  obtain ⟨_, T21, L21, h21, X21, hS21, hZ, hown, e21, hQ21, CU21, k⟩ := own_cSS X0 hx hw hZ hown e0 hS0 hk0 k (own_backP (EJ := own_J) (W := 0) (own_PUv l Z a0 hw [] a2 w_COMPACT_STRINGS w_SIOOBE_FORMATTER cs_a2 h0 n0 Z0 S_COMPACT_STRINGS S_SIOOBE_FORMATTER T_a2 hz hrS hV) hZ (own_h hw 169 rfl) (own_h hw 85 rfl) (by decide) (by decide) (own_EW hw) CH0) 167 168 85 169 rfl rfl rfl rfl (by decide) rfl (by rw [hml]; rfl) [(.ref a2)] [] (lenOf own_pd13 rfl) rfl rfl own_le (D 1 rfl) (by decide) (by decide)
  have hk21 := Nat.le_refl h21.size
  have CR21 := CR0.trans CU21
  have CH21 := CU21.1
  obtain ⟨u21, rfl, hu21, N21q, KC21⟩ := hQ21
  have KK21 : Keep h0 h21 [] := (Keep.refl h0 []).trans KC21 all0
  have Z21 : n0 ≤ h21.size := Nat.le_trans Z0 KC21.1
  have N21 := Fr.app N0 N21q
  replace k : ow T21 (mkF m 16 #[ow_r a1, ow_r a2, ow_i u21] []) := fun t q => k t (XS.istoreN X21.here hx rfl (D 2 rfl) rfl (l' := #[ow_r a1, ow_r a2, ow_i u21]) rfl (XS.iloadN X21.here hx rfl (D 3 rfl) rfl (XS.ifYes X21.here hx rfl (pc0 := 6) (pc' := 16) rfl (D 4 rfl) rfl ((if0 _ _).trans (flt (show ¬ (u21 < (0 : Int32)) from hu21.1)).2.1) (by decide) (by decide) q)))
  replace k : ow T21 (mkF m 36 #[ow_r a1, ow_r a2, ow_i u21] []) := fun t q => k t (XS.iloadN X21.here hx rfl (D 5 rfl) rfl (XS.sipush X21.here hx rfl (D 6 rfl) (XS.icmpYes X21.here hx rfl (pc0 := 20) (pc' := 36) rfl (D 7 rfl) rfl (flt (show ¬ ((255 : Int32) < u21) from hu21.2)).2.2.2 (by decide) (by decide) q)))
  replace k : ow T21 (mkF m 38 #[ow_r a1, ow_r a2, ow_i u21] [(.ref a2), (.ref a1)]) := fun t q => k t (XS.aloadN X21.here hx rfl (D 8 rfl) rfl rfl (XS.aloadN X21.here hx rfl (D 9 rfl) rfl rfl q))
  obtain ⟨_, T22, L22, h22, X22, hS22, hZ, hown, e22, hQ22, CU22, k⟩ := own_cSS X21 hx hw hZ hown e21 hS21 hk21 k (own_backP (EJ := own_J) (W := 0) (own_IRm l Z a0 hw [] a1 a2 w_COMPACT_STRINGS w_SIOOBE_FORMATTER cs_a1 h21 n0 Z21 (own_sta_keep S_COMPACT_STRINGS KC21 ns0) (own_sta_keep S_SIOOBE_FORMATTER KC21 ns0) (T_a1.keep (a0 := a0) KC21 all0) hz hrS hM) hZ (own_h hw 180 rfl) (own_h hw 85 rfl) (by decide) (by decide) (own_EW hw) CH21) 178 179 85 180 rfl rfl rfl rfl (by decide) rfl (by rw [hml]; rfl) [(.ref a1), (.ref a2)] [] (lenOf own_pd14 rfl) rfl rfl own_le (D 10 rfl) (by decide) (by decide)
  have hk22 := Nat.le_refl h22.size
  have CR22 := CR21.trans CU22
  have CH22 := CU22.1
  obtain ⟨rfl, N22q, KC22⟩ := hQ22
  have KK22 : Keep h0 h22 [] := KK21.trans KC22 all0
  have Z22 : n0 ≤ h22.size := Nat.le_trans Z21 KC22.1
  have N22 := Fr.app N21 N22q
  exact own_endS (v := some .null) X22 e22 hS22 hk22 hh Bd.notSynchronized (own_vn Bd.returns) k (fun _ hr => own_ret0 X22 hx Bd.returns rfl (D 11 rfl) hr) ⟨rfl, N22, KK22⟩ (CR22.trans (own_CP.at own_J X22 hZ (own_EW hw) CH22)) (by decide) (by decide)
def own_MDm_Q (Z : State) (a1 : Addr) (a2 : Addr) (w_COMPACT_STRINGS : Int32) (w_SIOOBE_FORMATTER : Value) (cs_a1 : List Int32) (cs_a2 : List Int32) (h0 : Heap) (n0 : Nat) (v : Option Value) (h : Heap) (L : List Loc) : Prop := v = some .null ∧ Fr n0 L ∧ Keep h0 h []
theorem own_MDm (l : Launch) (Z : State) (a0 : Array Value) (hw : ∀ d ∈ tables_1, d.before a0 Z = true) (ws : List Jvm.Cond) (a1 : Addr) (a2 : Addr) (w_COMPACT_STRINGS : Int32) (w_SIOOBE_FORMATTER : Value) (cs_a1 : List Int32) (cs_a2 : List Int32) (h0 : Heap) (n0 : Nat) (Z0 : n0 ≤ h0.size) (S_COMPACT_STRINGS : Sta Z h0 "java/lang/String" "COMPACT_STRINGS" "Z" (.int w_COMPACT_STRINGS)) (S_SIOOBE_FORMATTER : Sta Z h0 "jdk/internal/util/Preconditions" "SIOOBE_FORMATTER" "Ljava/util/function/BiFunction;" w_SIOOBE_FORMATTER) (T_a1 : own_Str Z h0 a1 cs_a1) (T_a2 : own_Str Z h0 a2 cs_a2) (hz : ¬ (w_COMPACT_STRINGS = (0 : Int32))) (hrS : w_SIOOBE_FORMATTER.isRef = true) (hM : own_isM cs_a1) (hD : own_okB cs_a2 ∨ own_okV cs_a2) :
    own_MS l Z own_y38 ws prog_120_method_9_code 3 (some (.object "java/lang/String")) ({ frames := 6, cells := 14, slots := 164, locals := 92 } : Room) #[(.ref a1), (.ref a2)] h0 (own_CP Z consts_1 own_J) (own_MDm_Q Z a1 a2 w_COMPACT_STRINGS w_SIOOBE_FORMATTER cs_a1 cs_a2 h0 n0) := by
  rcases hD with hB | hV
  · exact own_m38_m l Z a0 hw ws a1 a2 w_COMPACT_STRINGS w_SIOOBE_FORMATTER cs_a2 cs_a1 h0 n0 Z0 S_COMPACT_STRINGS S_SIOOBE_FORMATTER T_a2 T_a1 hz hrS hM hB
  · exact own_m38_n l Z a0 hw ws a1 a2 w_COMPACT_STRINGS w_SIOOBE_FORMATTER cs_a2 cs_a1 h0 n0 Z0 S_COMPACT_STRINGS S_SIOOBE_FORMATTER T_a2 T_a1 hz hrS hM hV
theorem own_d18 : own_all jdk_30_method_1_code [(0, .aload_n 0, 1), (1, .invokespecial 1, 3), (4, .return_, 1)] := by decide +kernel
theorem own_ef18 (m : MethodId) (x0 : Addr) : entryFrame m #[(.ref x0)] 1 = mkF m 0 #[ow_r x0] [] := by first | (simp [entryFrame, mkF, argsToLocals, Value.category]; done) | rfl
theorem own_pn18 : plainName "java/lang/Record" = true := by first | (simp [plainName, overriddenIn]; done) | decide +kernel
set_option maxRecDepth 65536 in
set_option maxHeartbeats 40000000 in
theorem own_m18 (l : Launch) (Z : State) (a0 : Array Value) (hw : ∀ d ∈ tables_1, d.before a0 Z = true) (ws : List Jvm.Cond) (a1 : Addr) (h0 : Heap) (n0 : Nat) (Z0 : n0 ≤ h0.size) :
    own_MF l Z own_y18 ws jdk_30_method_1_code 1 none ({ frames := 1, cells := 0, slots := 0, locals := 12 } : Room) #[(.ref a1)] h0 (own_Q none h0 n0) := by
  refine own_go "java/lang/Record" rfl (plainFor_of_name own_pn18) (fun m => own_ef18 m a1) own_d18 n0 fun p e s m below meth c s₁ A0 Bd hx D hml hown hnm X0 hZ e0 N0 k => ?_
  obtain ⟨T1, X1, e1, st1⟩ := initO X0 hx hZ hown (own_h hw 82 rfl) (own_h hw 19 rfl) (own_h hw 20 rfl) e0 (g := (mkF m 1 #[ow_r a1] [(.ref a1)])) rfl (by rw [hml]; rfl) rfl (D 1 rfl) (by decide) (W := 0) own_le (by decide)
  replace k : ow T1 (mkF m 4 #[ow_r a1] []) := fun t q => k t (XS.aloadN X0.here hx rfl (D 0 rfl) rfl rfl (st1 t q))
  clear st1
  exact own_end (v := none) X1 e1 Bd.notSynchronized (fun _ => rfl) k (fun _ hr => X1.returnOut hx Bd.returns (D 2 rfl) hr) ⟨rfl, N0, rfl⟩ (by decide) (by decide)
theorem own_d17 : own_all prog_126_method_1_code [(0, .aload_n 0, 1), (1, .invokespecial 1, 3), (4, .aload_n 1, 1), (5, .bipush 46, 2), (7, .invokestatic 7, 3), (10, .ifCond .ne 17, 3), (27, .aload_n 2, 1), (28, .invokestatic 24, 3), (31, .ifCond .ne 17, 3), (48, .aload_n 2, 1), (49, .aload_n 3, 1), (50, .invokestatic 33, 3), (53, .astore 4, 2), (55, .aload 4, 2), (57, .ifnull 13, 3), (70, .aload_n 0, 1), (71, .aload_n 1, 1), (72, .putfield 36, 3), (75, .aload_n 0, 1), (76, .aload_n 2, 1), (77, .putfield 42, 3), (80, .aload_n 0, 1), (81, .aload_n 3, 1), (82, .putfield 45, 3), (85, .return_, 1)] := by decide +kernel
theorem own_pd15 : parseMethodDescriptor "()V" = some ⟨[], none⟩ := by decide +kernel
theorem own_ef17 (m : MethodId) (x0 : Addr) (x1 : Addr) (x2 : Addr) (x3 : Addr) : entryFrame m #[(.ref x0), (.ref x1), (.ref x2), (.ref x3)] 5 = mkF m 0 #[ow_r x0, ow_r x1, ow_r x2, ow_r x3, .unset] [] := by first | (simp [entryFrame, mkF, argsToLocals, Value.category]; done) | rfl
theorem own_pn17 : plainName "com/example/callsite/callsite/model/MethodId" = true := by first | (simp [plainName, overriddenIn]; done) | decide +kernel
def own_m17_Q (Z : State) (a1 : Addr) (a2 : Addr) (a3 : Addr) (a4 : Addr) (w_COMPACT_STRINGS : Int32) (w_SIOOBE_FORMATTER : Value) (cs_a2 : List Int32) (cs_a3 : List Int32) (cs_a4 : List Int32) (u_className_a1 : Value) (u_name_a1 : Value) (u_descriptor_a1 : Value) (h0 : Heap) (n0 : Nat) (v : Option Value) (h : Heap) (L : List Loc) : Prop := v = none ∧ Fr n0 L ∧ Keep h0 h [a1] ∧ Exa Z h a1 "com/example/callsite/callsite/model/MethodId" ∧ Fld Z h a1 "com/example/callsite/callsite/model/MethodId" "className" "Ljava/lang/String;" (.ref a2) ∧ Fld Z h a1 "com/example/callsite/callsite/model/MethodId" "name" "Ljava/lang/String;" (.ref a3) ∧ Fld Z h a1 "com/example/callsite/callsite/model/MethodId" "descriptor" "Ljava/lang/String;" (.ref a4)
set_option maxRecDepth 65536 in
set_option maxHeartbeats 40000000 in
theorem own_m17 (l : Launch) (Z : State) (a0 : Array Value) (hw : ∀ d ∈ tables_1, d.before a0 Z = true) (ws : List Jvm.Cond) (a1 : Addr) (a2 : Addr) (a3 : Addr) (a4 : Addr) (w_COMPACT_STRINGS : Int32) (w_SIOOBE_FORMATTER : Value) (cs_a2 : List Int32) (cs_a3 : List Int32) (cs_a4 : List Int32) (u_className_a1 : Value) (u_name_a1 : Value) (u_descriptor_a1 : Value) (h0 : Heap) (n0 : Nat) (Z0 : n0 ≤ h0.size) (S_COMPACT_STRINGS : Sta Z h0 "java/lang/String" "COMPACT_STRINGS" "Z" (.int w_COMPACT_STRINGS)) (S_SIOOBE_FORMATTER : Sta Z h0 "jdk/internal/util/Preconditions" "SIOOBE_FORMATTER" "Ljava/util/function/BiFunction;" w_SIOOBE_FORMATTER) (T_a2 : own_Str Z h0 a2 cs_a2) (T_a3 : own_Str Z h0 a3 cs_a3) (T_a4 : own_Str Z h0 a4 cs_a4) (E_a1 : Exa Z h0 a1 "com/example/callsite/callsite/model/MethodId") (F_className_a1 : Fld Z h0 a1 "com/example/callsite/callsite/model/MethodId" "className" "Ljava/lang/String;" u_className_a1) (g_a1 : n0 ≤ a1) (F_name_a1 : Fld Z h0 a1 "com/example/callsite/callsite/model/MethodId" "name" "Ljava/lang/String;" u_name_a1) (F_descriptor_a1 : Fld Z h0 a1 "com/example/callsite/callsite/model/MethodId" "descriptor" "Ljava/lang/String;" u_descriptor_a1) (hz : ¬ (w_COMPACT_STRINGS = (0 : Int32))) (hrS : w_SIOOBE_FORMATTER.isRef = true) (hC : own_okC cs_a2) (hMD : (own_isI cs_a3 → own_okV cs_a4) ∧ (¬ own_isI cs_a3 → own_isM cs_a3) ∧ (own_okB cs_a4 ∨ own_okV cs_a4)) :
    own_MS l Z own_y17 ws prog_126_method_1_code 5 none ({ frames := 7, cells := 26, slots := 296, locals := 106 } : Room) #[(.ref a1), (.ref a2), (.ref a3), (.ref a4)] h0 (own_CP Z consts_1 own_J) (own_m17_Q Z a1 a2 a3 a4 w_COMPACT_STRINGS w_SIOOBE_FORMATTER cs_a2 cs_a3 cs_a4 u_className_a1 u_name_a1 u_descriptor_a1 h0 n0) := by
  refine own_goS own_CP.refl "com/example/callsite/callsite/model/MethodId" rfl (plainFor_of_name own_pn17) (fun m => own_ef17 m a1 a2 a3 a4) own_d17 n0 fun p e s m below meth c s₁ A0 Bd hx D hml hown hnm X0 hZ e0 N0 hh CH0 hS0 hk0 CR0 k => ?_
  obtain ⟨_, _, ⟨T21, L21, k21, n21⟩, -, X21, ⟨Lc21, hQ21, l21, y21, z21⟩, st21⟩ := X0.specialBack hx (y := own_y18) rfl hown (mvT hZ (own_h hw 77 rfl)) (mvT hZ (own_h hw 78 rfl)) (mvT hZ (own_h hw 81 rfl)) (by decide) (backOf (W := 0) (own_m18 l Z a0 hw [] a1 h0 n0 Z0 ) hZ (own_h hw 81 rfl) (own_h hw 80 rfl) (by decide) (by decide)) (g := (mkF m 1 #[ow_r a1, ow_r a2, ow_r a3, ow_r a4, .unset] [(.ref a1)])) rfl (by rw [hml]; rfl) (Steps.refl _) (a := a1) (argsL := []) (rest := []) (lenOf own_pd15 rfl) rfl own_le (D 1 rfl) (fun _ _ => ⟨rfl, e0, (by decide : 0 + 0 ≤ _), (by decide : 0 + 0 ≤ _)⟩)
  dsimp only [Pt.U, Pt.locs, Pt.cells, Pt.slots] at X21 l21 y21 z21 st21 hQ21
  subst l21 y21 z21
  obtain ⟨rfl, N21q, e21⟩ := hQ21
  have N21 := Fr.app N0 N21q
  replace k : ow T21 (mkF m 4 #[ow_r a1, ow_r a2, ow_r a3, ow_r a4, .unset] []) := fun t q => k t (XS.aloadN X0.here hx rfl (D 0 rfl) rfl rfl (st21.trans q))
  clear st21
  replace k : ow T21 (mkF m 7 #[ow_r a1, ow_r a2, ow_r a3, ow_r a4, .unset] [(.int 46), (.ref a2)]) := fun t q => k t (XS.aloadN X21.here hx rfl (D 2 rfl) rfl rfl (XS.bipush X21.here hx rfl (D 3 rfl) q))
  obtain ⟨_, T22, L22, h22, X22, hS22, hZ, hown, e22, hQ22, CU22, k⟩ := own_cSS X21 hx hw hZ hown e21 hS0 hk0 k (own_backP (EJ := own_J) (W := 0) (own_CN l Z a0 hw [] a2 w_COMPACT_STRINGS w_SIOOBE_FORMATTER cs_a2 h0 n0 Z0 S_COMPACT_STRINGS S_SIOOBE_FORMATTER T_a2 hz hrS hC) hZ (own_h hw 86 rfl) (own_h hw 85 rfl) (by decide) (by decide) (own_EW hw) CH0) 83 84 85 86 rfl rfl rfl rfl (by decide) rfl (by rw [hml]; rfl) [(.ref a2), (.int 46)] [] (lenOf own_pd11 rfl) rfl rfl own_le (D 4 rfl) (by decide) (by decide)
  have hk22 := Nat.le_refl h22.size
  have CR22 := CR0.trans CU22
  have CH22 := CU22.1
  obtain ⟨rfl, N22q, KC22⟩ := hQ22
  have KK22 : Keep h0 h22 [a1] := (Keep.refl h0 [a1]).trans KC22 all0
  have Z22 : n0 ≤ h22.size := Nat.le_trans Z0 KC22.1
  have N22 := Fr.app N21 N22q
  replace k : ow T22 (mkF m 27 #[ow_r a1, ow_r a2, ow_r a3, ow_r a4, .unset] []) := fun t q => k t (XS.ifYes X22.here hx rfl (pc0 := 10) (pc' := 27) rfl (D 5 rfl) rfl ((if0 _ _).trans (feq (show ¬ ((1 : Int32) = (0 : Int32)) from (by decide))).2) (by decide) (by decide) q)
  by_cases hI0 : own_isI cs_a3
  · have hI := hI0
    have hV : own_okV cs_a4 := hMD.1 hI0
    replace k : ow T22 (mkF m 28 #[ow_r a1, ow_r a2, ow_r a3, ow_r a4, .unset] [(.ref a3)]) := fun t q => k t (XS.aloadN X22.here hx rfl (D 6 rfl) rfl rfl q)
    obtain ⟨_, T23, L23, h23, X23, hS23, hZ, hown, e23, hQ23, CU23, k⟩ := own_cSS X22 hx hw hZ hown e22 hS22 hk22 k (own_backP (EJ := own_J) (W := 0) (own_MNi l Z a0 hw [] a3 w_COMPACT_STRINGS w_SIOOBE_FORMATTER cs_a3 h22 n0 Z22 (own_sta_keep S_COMPACT_STRINGS KC22 ns0) (own_sta_keep S_SIOOBE_FORMATTER KC22 ns0) (T_a3.keep (a0 := a0) KC22 all0) hz hrS hI) hZ (own_h hw 150 rfl) (own_h hw 85 rfl) (by decide) (by decide) (own_EW hw) CH22) 148 149 85 150 rfl rfl rfl rfl (by decide) rfl (by rw [hml]; rfl) [(.ref a3)] [] (lenOf own_pd10 rfl) rfl rfl own_le (D 7 rfl) (by decide) (by decide)
    have hk23 := Nat.le_refl h23.size
    have CR23 := CR22.trans CU23
    have CH23 := CU23.1
    obtain ⟨rfl, N23q, KC23⟩ := hQ23
    have KK23 : Keep h0 h23 [a1] := KK22.trans KC23 all0
    have Z23 : n0 ≤ h23.size := Nat.le_trans Z22 KC23.1
    have N23 := Fr.app N22 N23q
    replace k : ow T23 (mkF m 48 #[ow_r a1, ow_r a2, ow_r a3, ow_r a4, .unset] []) := fun t q => k t (XS.ifYes X23.here hx rfl (pc0 := 31) (pc' := 48) rfl (D 8 rfl) rfl ((if0 _ _).trans (feq (show ¬ ((1 : Int32) = (0 : Int32)) from (by decide))).2) (by decide) (by decide) q)
    replace k : ow T23 (mkF m 50 #[ow_r a1, ow_r a2, ow_r a3, ow_r a4, .unset] [(.ref a4), (.ref a3)]) := fun t q => k t (XS.aloadN X23.here hx rfl (D 9 rfl) rfl rfl (XS.aloadN X23.here hx rfl (D 10 rfl) rfl rfl q))
    obtain ⟨_, T24, L24, h24, X24, hS24, hZ, hown, e24, hQ24, CU24, k⟩ := own_cSS X23 hx hw hZ hown e23 hS23 hk23 k (own_backP (EJ := own_J) (W := 0) (own_m38_i l Z a0 hw [] a3 a4 w_COMPACT_STRINGS w_SIOOBE_FORMATTER cs_a4 cs_a3 h23 n0 Z23 (own_sta_keep (own_sta_keep S_COMPACT_STRINGS KC22 ns0) KC23 ns0) (own_sta_keep (own_sta_keep S_SIOOBE_FORMATTER KC22 ns0) KC23 ns0) ((T_a4.keep (a0 := a0) KC22 all0).keep (a0 := a0) KC23 all0) ((T_a3.keep (a0 := a0) KC22 all0).keep (a0 := a0) KC23 all0) hz hrS hI hV) hZ (own_h hw 166 rfl) (own_h hw 85 rfl) (by decide) (by decide) (own_EW hw) CH23) 164 165 85 166 rfl rfl rfl rfl (by decide) rfl (by rw [hml]; rfl) [(.ref a3), (.ref a4)] [] (lenOf own_pd14 rfl) rfl rfl own_le (D 11 rfl) (by decide) (by decide)
    have hk24 := Nat.le_refl h24.size
    have CR24 := CR23.trans CU24
    have CH24 := CU24.1
    obtain ⟨rfl, N24q, KC24⟩ := hQ24
    have KK24 : Keep h0 h24 [a1] := KK23.trans KC24 all0
    have Z24 : n0 ≤ h24.size := Nat.le_trans Z23 KC24.1
    have N24 := Fr.app N23 N24q
    replace k : ow T24 (mkF m 70 #[ow_r a1, ow_r a2, ow_r a3, ow_r a4, .val .null] []) := fun t q => k t (XS.astore X24.here hx rfl (D 12 rfl) rfl rfl (l' := #[ow_r a1, ow_r a2, ow_r a3, ow_r a4, .val .null]) rfl (XS.aload X24.here hx rfl (D 13 rfl) rfl rfl (XS.ifnullYes X24.here hx rfl (pc0 := 57) (pc' := 70) rfl (D 14 rfl) rfl (by decide) (by decide) q)))
    obtain ⟨T25, h25, X25, e25, W25, st25⟩ := putF X24 hx hZ hown (host := "") (Or.inl (own_h hw 187 rfl)) Via.refl e24 (((F_className_a1.keep KC22 nin0).keep KC23 nin0).keep KC24 nin0) (((E_a1.keep KC22).keep KC23).keep KC24) (Or.inr ⟨(own_h hw 188 rfl), rfl, hnm⟩) (own_h hw 72 rfl) (ty := (.object "java/lang/String")) (by decide) rfl rfl (g := (mkF m 72 #[ow_r a1, ow_r a2, ow_r a3, ow_r a4, .val .null] [(.ref a2), (.ref a1)])) rfl rfl (D 17 rfl)
    have Fw25 := (((F_className_a1.keep KC22 nin0).keep KC23 nin0).keep KC24 nin0).same W25
    have K25 : Keep h0 h25 [a1] := KK24.wr W25 (Or.inl (List.mem_of_getElem? (i := 0) rfl))
    have N25 := Fr.snoc X25 N24 g_a1
    have Z25 : n0 ≤ h25.size := Nat.le_trans Z24 (Keep.of_wr W25).1
    have CU25 := own_CP.wr (EJ := own_J) W25 (Safe.exa hZ.alike (((E_a1.keep KC22).keep KC23).keep KC24) (by decide) (by decide)) CH24
    have CR25 := CR24.trans CU25
    have CH25 := CU25.1
    have hk25 := Nat.le_trans hk24 (Keep.of_wr W25).1
    replace k : ow T25 (mkF m 75 #[ow_r a1, ow_r a2, ow_r a3, ow_r a4, .val .null] []) := fun t q => k t (XS.aloadN X24.here hx rfl (D 15 rfl) rfl rfl (XS.aloadN X24.here hx rfl (D 16 rfl) rfl rfl (st25 t q)))
    clear st25
    obtain ⟨T26, h26, X26, e26, W26, st26⟩ := putF X25 hx hZ hown (host := "") (Or.inl (own_h hw 189 rfl)) Via.refl e25 ((((F_name_a1.keep KC22 nin0).keep KC23 nin0).keep KC24 nin0).other W25 (Or.inr (slot_ne (Or.inr (own_h hw 190 rfl)) (Or.inr (own_h hw 188 rfl)) (by decide) (t := (.object "java/lang/String")) (t' := (.object "java/lang/String")) (by decide) (by decide)))) ((((E_a1.keep KC22).keep KC23).keep KC24).wr W25) (Or.inr ⟨(own_h hw 190 rfl), rfl, hnm⟩) (own_h hw 72 rfl) (ty := (.object "java/lang/String")) (by decide) rfl rfl (g := (mkF m 77 #[ow_r a1, ow_r a2, ow_r a3, ow_r a4, .val .null] [(.ref a3), (.ref a1)])) rfl rfl (D 20 rfl)
    have Fw26 := ((((F_name_a1.keep KC22 nin0).keep KC23 nin0).keep KC24 nin0).other W25 (Or.inr (slot_ne (Or.inr (own_h hw 190 rfl)) (Or.inr (own_h hw 188 rfl)) (by decide) (t := (.object "java/lang/String")) (t' := (.object "java/lang/String")) (by decide) (by decide)))).same W26
    have K26 : Keep h0 h26 [a1] := K25.wr W26 (Or.inl (List.mem_of_getElem? (i := 0) rfl))
    have N26 := Fr.snoc X26 N25 g_a1
    have Z26 : n0 ≤ h26.size := Nat.le_trans Z25 (Keep.of_wr W26).1
    have CU26 := own_CP.wr (EJ := own_J) W26 (Safe.exa hZ.alike ((((E_a1.keep KC22).keep KC23).keep KC24).wr W25) (by decide) (by decide)) CH25
    have CR26 := CR25.trans CU26
    have CH26 := CU26.1
    have hk26 := Nat.le_trans hk25 (Keep.of_wr W26).1
    replace k : ow T26 (mkF m 80 #[ow_r a1, ow_r a2, ow_r a3, ow_r a4, .val .null] []) := fun t q => k t (XS.aloadN X25.here hx rfl (D 18 rfl) rfl rfl (XS.aloadN X25.here hx rfl (D 19 rfl) rfl rfl (st26 t q)))
    clear st26
    obtain ⟨T27, h27, X27, e27, W27, st27⟩ := putF X26 hx hZ hown (host := "") (Or.inl (own_h hw 191 rfl)) Via.refl e26 (((((F_descriptor_a1.keep KC22 nin0).keep KC23 nin0).keep KC24 nin0).other W25 (Or.inr (slot_ne (Or.inr (own_h hw 192 rfl)) (Or.inr (own_h hw 188 rfl)) (by decide) (t := (.object "java/lang/String")) (t' := (.object "java/lang/String")) (by decide) (by decide)))).other W26 (Or.inr (slot_ne (Or.inr (own_h hw 192 rfl)) (Or.inr (own_h hw 190 rfl)) (by decide) (t := (.object "java/lang/String")) (t' := (.object "java/lang/String")) (by decide) (by decide)))) (((((E_a1.keep KC22).keep KC23).keep KC24).wr W25).wr W26) (Or.inr ⟨(own_h hw 192 rfl), rfl, hnm⟩) (own_h hw 72 rfl) (ty := (.object "java/lang/String")) (by decide) rfl rfl (g := (mkF m 82 #[ow_r a1, ow_r a2, ow_r a3, ow_r a4, .val .null] [(.ref a4), (.ref a1)])) rfl rfl (D 23 rfl)
    have Fw27 := (((((F_descriptor_a1.keep KC22 nin0).keep KC23 nin0).keep KC24 nin0).other W25 (Or.inr (slot_ne (Or.inr (own_h hw 192 rfl)) (Or.inr (own_h hw 188 rfl)) (by decide) (t := (.object "java/lang/String")) (t' := (.object "java/lang/String")) (by decide) (by decide)))).other W26 (Or.inr (slot_ne (Or.inr (own_h hw 192 rfl)) (Or.inr (own_h hw 190 rfl)) (by decide) (t := (.object "java/lang/String")) (t' := (.object "java/lang/String")) (by decide) (by decide)))).same W27
    have K27 : Keep h0 h27 [a1] := K26.wr W27 (Or.inl (List.mem_of_getElem? (i := 0) rfl))
    have N27 := Fr.snoc X27 N26 g_a1
    have Z27 : n0 ≤ h27.size := Nat.le_trans Z26 (Keep.of_wr W27).1
    have CU27 := own_CP.wr (EJ := own_J) W27 (Safe.exa hZ.alike (((((E_a1.keep KC22).keep KC23).keep KC24).wr W25).wr W26) (by decide) (by decide)) CH26
    have CR27 := CR26.trans CU27
    have CH27 := CU27.1
    have hk27 := Nat.le_trans hk26 (Keep.of_wr W27).1
    replace k : ow T27 (mkF m 85 #[ow_r a1, ow_r a2, ow_r a3, ow_r a4, .val .null] []) := fun t q => k t (XS.aloadN X26.here hx rfl (D 21 rfl) rfl rfl (XS.aloadN X26.here hx rfl (D 22 rfl) rfl rfl (st27 t q)))
    clear st27
    exact own_endS (v := none) X27 e27 hS24 hk27 hh Bd.notSynchronized (fun _ => rfl) k (fun _ hr => X27.returnOut hx Bd.returns (D 24 rfl) hr) ⟨rfl, N27, K27, ((((((E_a1.keep KC22).keep KC23).keep KC24).wr W25).wr W26).wr W27), ((Fw25.other W26 (Or.inr (slot_ne (Or.inr (own_h hw 188 rfl)) (Or.inr (own_h hw 190 rfl)) (by decide) (t := (.object "java/lang/String")) (t' := (.object "java/lang/String")) (by decide) (by decide)))).other W27 (Or.inr (slot_ne (Or.inr (own_h hw 188 rfl)) (Or.inr (own_h hw 192 rfl)) (by decide) (t := (.object "java/lang/String")) (t' := (.object "java/lang/String")) (by decide) (by decide)))), (Fw26.other W27 (Or.inr (slot_ne (Or.inr (own_h hw 190 rfl)) (Or.inr (own_h hw 192 rfl)) (by decide) (t := (.object "java/lang/String")) (t' := (.object "java/lang/String")) (by decide) (by decide)))), Fw27⟩ (CR27.trans (own_CP.at own_J X27 hZ (own_EW hw) CH27)) (by decide) (by decide)
  · have hM : own_isM cs_a3 := hMD.2.1 hI0
    have hD : own_okB cs_a4 ∨ own_okV cs_a4 := hMD.2.2
    replace k : ow T22 (mkF m 28 #[ow_r a1, ow_r a2, ow_r a3, ow_r a4, .unset] [(.ref a3)]) := fun t q => k t (XS.aloadN X22.here hx rfl (D 6 rfl) rfl rfl q)
    obtain ⟨_, T28, L28, h28, X28, hS28, hZ, hown, e28, hQ28, CU28, k⟩ := own_cSS X22 hx hw hZ hown e22 hS22 hk22 k (own_backP (EJ := own_J) (W := 0) (own_MNm l Z a0 hw [] a3 w_COMPACT_STRINGS w_SIOOBE_FORMATTER cs_a3 h22 n0 Z22 (own_sta_keep S_COMPACT_STRINGS KC22 ns0) (own_sta_keep S_SIOOBE_FORMATTER KC22 ns0) (T_a3.keep (a0 := a0) KC22 all0) hz hrS hM) hZ (own_h hw 150 rfl) (own_h hw 85 rfl) (by decide) (by decide) (own_EW hw) CH22) 148 149 85 150 rfl rfl rfl rfl (by decide) rfl (by rw [hml]; rfl) [(.ref a3)] [] (lenOf own_pd10 rfl) rfl rfl own_le (D 7 rfl) (by decide) (by decide)
    have hk28 := Nat.le_refl h28.size
    have CR28 := CR22.trans CU28
    have CH28 := CU28.1
    obtain ⟨rfl, N28q, KC28⟩ := hQ28
    have KK28 : Keep h0 h28 [a1] := KK22.trans KC28 all0
    have Z28 : n0 ≤ h28.size := Nat.le_trans Z22 KC28.1
    have N28 := Fr.app N22 N28q
    replace k : ow T28 (mkF m 48 #[ow_r a1, ow_r a2, ow_r a3, ow_r a4, .unset] []) := fun t q => k t (XS.ifYes X28.here hx rfl (pc0 := 31) (pc' := 48) rfl (D 8 rfl) rfl ((if0 _ _).trans (feq (show ¬ ((1 : Int32) = (0 : Int32)) from (by decide))).2) (by decide) (by decide) q)
    replace k : ow T28 (mkF m 50 #[ow_r a1, ow_r a2, ow_r a3, ow_r a4, .unset] [(.ref a4), (.ref a3)]) := fun t q => k t (XS.aloadN X28.here hx rfl (D 9 rfl) rfl rfl (XS.aloadN X28.here hx rfl (D 10 rfl) rfl rfl q))
    obtain ⟨_, T29, L29, h29, X29, hS29, hZ, hown, e29, hQ29, CU29, k⟩ := own_cSS X28 hx hw hZ hown e28 hS28 hk28 k (own_backP (EJ := own_J) (W := 0) (own_MDm l Z a0 hw [] a3 a4 w_COMPACT_STRINGS w_SIOOBE_FORMATTER cs_a3 cs_a4 h28 n0 Z28 (own_sta_keep (own_sta_keep S_COMPACT_STRINGS KC22 ns0) KC28 ns0) (own_sta_keep (own_sta_keep S_SIOOBE_FORMATTER KC22 ns0) KC28 ns0) ((T_a3.keep (a0 := a0) KC22 all0).keep (a0 := a0) KC28 all0) ((T_a4.keep (a0 := a0) KC22 all0).keep (a0 := a0) KC28 all0) hz hrS hM hD) hZ (own_h hw 166 rfl) (own_h hw 85 rfl) (by decide) (by decide) (own_EW hw) CH28) 164 165 85 166 rfl rfl rfl rfl (by decide) rfl (by rw [hml]; rfl) [(.ref a3), (.ref a4)] [] (lenOf own_pd14 rfl) rfl rfl own_le (D 11 rfl) (by decide) (by decide)
    have hk29 := Nat.le_refl h29.size
    have CR29 := CR28.trans CU29
    have CH29 := CU29.1
    obtain ⟨rfl, N29q, KC29⟩ := hQ29
    have KK29 : Keep h0 h29 [a1] := KK28.trans KC29 all0
    have Z29 : n0 ≤ h29.size := Nat.le_trans Z28 KC29.1
    have N29 := Fr.app N28 N29q
    replace k : ow T29 (mkF m 70 #[ow_r a1, ow_r a2, ow_r a3, ow_r a4, .val .null] []) := fun t q => k t (XS.astore X29.here hx rfl (D 12 rfl) rfl rfl (l' := #[ow_r a1, ow_r a2, ow_r a3, ow_r a4, .val .null]) rfl (XS.aload X29.here hx rfl (D 13 rfl) rfl rfl (XS.ifnullYes X29.here hx rfl (pc0 := 57) (pc' := 70) rfl (D 14 rfl) rfl (by decide) (by decide) q)))
    obtain ⟨T30, h30, X30, e30, W30, st30⟩ := putF X29 hx hZ hown (host := "") (Or.inl (own_h hw 187 rfl)) Via.refl e29 (((F_className_a1.keep KC22 nin0).keep KC28 nin0).keep KC29 nin0) (((E_a1.keep KC22).keep KC28).keep KC29) (Or.inr ⟨(own_h hw 188 rfl), rfl, hnm⟩) (own_h hw 72 rfl) (ty := (.object "java/lang/String")) (by decide) rfl rfl (g := (mkF m 72 #[ow_r a1, ow_r a2, ow_r a3, ow_r a4, .val .null] [(.ref a2), (.ref a1)])) rfl rfl (D 17 rfl)
    have Fw30 := (((F_className_a1.keep KC22 nin0).keep KC28 nin0).keep KC29 nin0).same W30
    have K30 : Keep h0 h30 [a1] := KK29.wr W30 (Or.inl (List.mem_of_getElem? (i := 0) rfl))
    have N30 := Fr.snoc X30 N29 g_a1
    have Z30 : n0 ≤ h30.size := Nat.le_trans Z29 (Keep.of_wr W30).1
    have CU30 := own_CP.wr (EJ := own_J) W30 (Safe.exa hZ.alike (((E_a1.keep KC22).keep KC28).keep KC29) (by decide) (by decide)) CH29
    have CR30 := CR29.trans CU30
    have CH30 := CU30.1
    have hk30 := Nat.le_trans hk29 (Keep.of_wr W30).1
    replace k : ow T30 (mkF m 75 #[ow_r a1, ow_r a2, ow_r a3, ow_r a4, .val .null] []) := fun t q => k t (XS.aloadN X29.here hx rfl (D 15 rfl) rfl rfl (XS.aloadN X29.here hx rfl (D 16 rfl) rfl rfl (st30 t q)))
    clear st30
    obtain ⟨T31, h31, X31, e31, W31, st31⟩ := putF X30 hx hZ hown (host := "") (Or.inl (own_h hw 189 rfl)) Via.refl e30 ((((F_name_a1.keep KC22 nin0).keep KC28 nin0).keep KC29 nin0).other W30 (Or.inr (slot_ne (Or.inr (own_h hw 190 rfl)) (Or.inr (own_h hw 188 rfl)) (by decide) (t := (.object "java/lang/String")) (t' := (.object "java/lang/String")) (by decide) (by decide)))) ((((E_a1.keep KC22).keep KC28).keep KC29).wr W30) (Or.inr ⟨(own_h hw 190 rfl), rfl, hnm⟩) (own_h hw 72 rfl) (ty := (.object "java/lang/String")) (by decide) rfl rfl (g := (mkF m 77 #[ow_r a1, ow_r a2, ow_r a3, ow_r a4, .val .null] [(.ref a3), (.ref a1)])) rfl rfl (D 20 rfl)
    have Fw31 := ((((F_name_a1.keep KC22 nin0).keep KC28 nin0).keep KC29 nin0).other W30 (Or.inr (slot_ne (Or.inr (own_h hw 190 rfl)) (Or.inr (own_h hw 188 rfl)) (by decide) (t := (.object "java/lang/String")) (t' := (.object "java/lang/String")) (by decide) (by decide)))).same W31
    have K31 : Keep h0 h31 [a1] := K30.wr W31 (Or.inl (List.mem_of_getElem? (i := 0) rfl))
    have N31 := Fr.snoc X31 N30 g_a1
    have Z31 : n0 ≤ h31.size := Nat.le_trans Z30 (Keep.of_wr W31).1
    have CU31 := own_CP.wr (EJ := own_J) W31 (Safe.exa hZ.alike ((((E_a1.keep KC22).keep KC28).keep KC29).wr W30) (by decide) (by decide)) CH30
    have CR31 := CR30.trans CU31
    have CH31 := CU31.1
    have hk31 := Nat.le_trans hk30 (Keep.of_wr W31).1
    replace k : ow T31 (mkF m 80 #[ow_r a1, ow_r a2, ow_r a3, ow_r a4, .val .null] []) := fun t q => k t (XS.aloadN X30.here hx rfl (D 18 rfl) rfl rfl (XS.aloadN X30.here hx rfl (D 19 rfl) rfl rfl (st31 t q)))
    clear st31
    obtain ⟨T32, h32, X32, e32, W32, st32⟩ := putF X31 hx hZ hown (host := "") (Or.inl (own_h hw 191 rfl)) Via.refl e31 (((((F_descriptor_a1.keep KC22 nin0).keep KC28 nin0).keep KC29 nin0).other W30 (Or.inr (slot_ne (Or.inr (own_h hw 192 rfl)) (Or.inr (own_h hw 188 rfl)) (by decide) (t := (.object "java/lang/String")) (t' := (.object "java/lang/String")) (by decide) (by decide)))).other W31 (Or.inr (slot_ne (Or.inr (own_h hw 192 rfl)) (Or.inr (own_h hw 190 rfl)) (by decide) (t := (.object "java/lang/String")) (t' := (.object "java/lang/String")) (by decide) (by decide)))) (((((E_a1.keep KC22).keep KC28).keep KC29).wr W30).wr W31) (Or.inr ⟨(own_h hw 192 rfl), rfl, hnm⟩) (own_h hw 72 rfl) (ty := (.object "java/lang/String")) (by decide) rfl rfl (g := (mkF m 82 #[ow_r a1, ow_r a2, ow_r a3, ow_r a4, .val .null] [(.ref a4), (.ref a1)])) rfl rfl (D 23 rfl)
    have Fw32 := (((((F_descriptor_a1.keep KC22 nin0).keep KC28 nin0).keep KC29 nin0).other W30 (Or.inr (slot_ne (Or.inr (own_h hw 192 rfl)) (Or.inr (own_h hw 188 rfl)) (by decide) (t := (.object "java/lang/String")) (t' := (.object "java/lang/String")) (by decide) (by decide)))).other W31 (Or.inr (slot_ne (Or.inr (own_h hw 192 rfl)) (Or.inr (own_h hw 190 rfl)) (by decide) (t := (.object "java/lang/String")) (t' := (.object "java/lang/String")) (by decide) (by decide)))).same W32
    have K32 : Keep h0 h32 [a1] := K31.wr W32 (Or.inl (List.mem_of_getElem? (i := 0) rfl))
    have N32 := Fr.snoc X32 N31 g_a1
    have Z32 : n0 ≤ h32.size := Nat.le_trans Z31 (Keep.of_wr W32).1
    have CU32 := own_CP.wr (EJ := own_J) W32 (Safe.exa hZ.alike (((((E_a1.keep KC22).keep KC28).keep KC29).wr W30).wr W31) (by decide) (by decide)) CH31
    have CR32 := CR31.trans CU32
    have CH32 := CU32.1
    have hk32 := Nat.le_trans hk31 (Keep.of_wr W32).1
    replace k : ow T32 (mkF m 85 #[ow_r a1, ow_r a2, ow_r a3, ow_r a4, .val .null] []) := fun t q => k t (XS.aloadN X31.here hx rfl (D 21 rfl) rfl rfl (XS.aloadN X31.here hx rfl (D 22 rfl) rfl rfl (st32 t q)))
    clear st32
    exact own_endS (v := none) X32 e32 hS29 hk32 hh Bd.notSynchronized (fun _ => rfl) k (fun _ hr => X32.returnOut hx Bd.returns (D 24 rfl) hr) ⟨rfl, N32, K32, ((((((E_a1.keep KC22).keep KC28).keep KC29).wr W30).wr W31).wr W32), ((Fw30.other W31 (Or.inr (slot_ne (Or.inr (own_h hw 188 rfl)) (Or.inr (own_h hw 190 rfl)) (by decide) (t := (.object "java/lang/String")) (t' := (.object "java/lang/String")) (by decide) (by decide)))).other W32 (Or.inr (slot_ne (Or.inr (own_h hw 188 rfl)) (Or.inr (own_h hw 192 rfl)) (by decide) (t := (.object "java/lang/String")) (t' := (.object "java/lang/String")) (by decide) (by decide)))), (Fw31.other W32 (Or.inr (slot_ne (Or.inr (own_h hw 190 rfl)) (Or.inr (own_h hw 192 rfl)) (by decide) (t := (.object "java/lang/String")) (t' := (.object "java/lang/String")) (by decide) (by decide)))), Fw32⟩ (CR32.trans (own_CP.at own_J X32 hZ (own_EW hw) CH32)) (by decide) (by decide)
theorem own_d2 : own_all method_2_code [(0, .iload_n 0, 1), (1, .sipush 255, 3), (4, .iand, 1), (5, .i2c, 1), (6, .istore_n 1, 1), (7, .iload_n 1, 1), (8, .bipush 46, 2), (10, .if_icmp .eq 21, 3), (31, .bipush 65, 2), (33, .ireturn, 1), (13, .iload_n 1, 1), (14, .bipush 59, 2), (16, .if_icmp .eq 15, 3), (19, .iload_n 1, 1), (20, .bipush 91, 2), (22, .if_icmp .eq 9, 3), (25, .iload_n 1, 1), (26, .bipush 47, 2), (28, .if_icmp .ne 6, 3), (34, .iload_n 1, 1), (35, .ireturn, 1)] := by decide +kernel
theorem own_ef2 (m : MethodId) (x0 : Int32) : entryFrame m #[(.int x0)] 2 = mkF m 0 #[ow_i x0, .unset] [] := by first | (simp [entryFrame, mkF, argsToLocals, Value.category]; done) | rfl
theorem own_pn2 : plainName "com/example/callsite/callsite/model/MethodIdEqualsPinLaw" = true := by first | (simp [plainName, overriddenIn]; done) | decide +kernel
def own_cc (p1 : Int32) : Int32 := (if ((p1 &&& (255 : Int32)).toUInt32.toUInt16.toUInt32.toInt32) = (46 : Int32) then (65 : Int32) else (if ((p1 &&& (255 : Int32)).toUInt32.toUInt16.toUInt32.toInt32) = (59 : Int32) then (65 : Int32) else (if ((p1 &&& (255 : Int32)).toUInt32.toUInt16.toUInt32.toInt32) = (91 : Int32) then (65 : Int32) else (if ((p1 &&& (255 : Int32)).toUInt32.toUInt16.toUInt32.toInt32) = (47 : Int32) then (65 : Int32) else (((p1 &&& (255 : Int32)).toUInt32.toUInt16.toUInt32.toInt32).toUInt32.toUInt16.toUInt32.toInt32)))))
set_option maxRecDepth 65536 in
set_option maxHeartbeats 40000000 in
theorem own_m2 (l : Launch) (Z : State) (a0 : Array Value) (hw : ∀ d ∈ tables_1, d.before a0 Z = true) (ws : List Jvm.Cond) (p1 : Int32) (h0 : Heap) (n0 : Nat) (Z0 : n0 ≤ h0.size) :
    own_MF l Z own_y2 ws method_2_code 2 (some .char) ({ frames := 0, cells := 0, slots := 0, locals := 0 } : Room) #[(.int p1)] h0 (own_Q (some (.int (own_cc p1))) h0 n0) := by
  refine own_go "com/example/callsite/callsite/model/MethodIdEqualsPinLaw" rfl (plainFor_of_name own_pn2) (fun m => own_ef2 m p1) own_d2 n0 fun p e s m below meth c s₁ A0 Bd hx D hml hown hnm X0 hZ e0 N0 k => ?_
  replace k : ow s₁ (mkF m 4 #[ow_i p1, .unset] [(.int 255), (.int p1)]) := fun t q => k t (XS.iloadN X0.here hx rfl (D 0 rfl) rfl (XS.sipush X0.here hx rfl (D 1 rfl) q))
  replace k : ow s₁ (mkF m 5 #[ow_i p1, .unset] [(.int (p1 &&& (255 : Int32)))]) := fun t q => k t (XS.iand X0.here hx rfl (D 2 rfl) rfl q)
  replace k : ow s₁ (mkF m 6 #[ow_i p1, .unset] [(.int ((p1 &&& (255 : Int32)).toUInt32.toUInt16.toUInt32.toInt32))]) := fun t q => k t (XS.i2c X0.here hx rfl (D 3 rfl) rfl q)
  replace k : ow s₁ (mkF m 10 #[ow_i p1, ow_i ((p1 &&& (255 : Int32)).toUInt32.toUInt16.toUInt32.toInt32)] [(.int 46), (.int ((p1 &&& (255 : Int32)).toUInt32.toUInt16.toUInt32.toInt32))]) := fun t q => k t (XS.istoreN X0.here hx rfl (D 4 rfl) rfl (l' := #[ow_i p1, ow_i ((p1 &&& (255 : Int32)).toUInt32.toUInt16.toUInt32.toInt32)]) rfl (XS.iloadN X0.here hx rfl (D 5 rfl) rfl (XS.bipush X0.here hx rfl (D 6 rfl) q)))
  by_cases hc1 : ((p1 &&& (255 : Int32)).toUInt32.toUInt16.toUInt32.toInt32) = (46 : Int32)
  · replace k : ow s₁ (mkF m 31 #[ow_i p1, ow_i ((p1 &&& (255 : Int32)).toUInt32.toUInt16.toUInt32.toInt32)] []) := fun t q => k t (XS.icmpYes X0.here hx rfl (pc0 := 10) (pc' := 31) rfl (D 7 rfl) rfl (teq (show ((p1 &&& (255 : Int32)).toUInt32.toUInt16.toUInt32.toInt32) = (46 : Int32) from hc1)).1 (by decide) (by decide) q)
    replace k : ow s₁ (mkF m 33 #[ow_i p1, ow_i ((p1 &&& (255 : Int32)).toUInt32.toUInt16.toUInt32.toInt32)] [(.int 65)]) := fun t q => k t (XS.bipush X0.here hx rfl (D 8 rfl) q)
    exact own_end (v := some (.int 65)) X0 e0 Bd.notSynchronized (own_vn Bd.returns) k (fun _ hr => retN X0 hx (t := .char) Bd.returns (by simp) (D 9 rfl) (by first | exact hr | (rw [show nar .char (65 : Int32) = (65 : Int32) from by decide]; exact hr))) ⟨by rw [show (own_cc p1) = (65 : Int32) from by unfold own_cc; rw [if_pos hc1]], N0, rfl⟩ (by decide) (by decide)
  · replace k : ow s₁ (mkF m 13 #[ow_i p1, ow_i ((p1 &&& (255 : Int32)).toUInt32.toUInt16.toUInt32.toInt32)] []) := fun t q => k t (XS.icmpNo X0.here hx rfl (D 7 rfl) rfl (feq (show ¬ (((p1 &&& (255 : Int32)).toUInt32.toUInt16.toUInt32.toInt32) = (46 : Int32)) from hc1)).1 q)
    by_cases hc2 : ((p1 &&& (255 : Int32)).toUInt32.toUInt16.toUInt32.toInt32) = (59 : Int32)
    · replace k : ow s₁ (mkF m 31 #[ow_i p1, ow_i ((p1 &&& (255 : Int32)).toUInt32.toUInt16.toUInt32.toInt32)] []) := fun t q => k t (XS.iloadN X0.here hx rfl (D 10 rfl) rfl (XS.bipush X0.here hx rfl (D 11 rfl) (XS.icmpYes X0.here hx rfl (pc0 := 16) (pc' := 31) rfl (D 12 rfl) rfl (teq (show ((p1 &&& (255 : Int32)).toUInt32.toUInt16.toUInt32.toInt32) = (59 : Int32) from hc2)).1 (by decide) (by decide) q)))
      replace k : ow s₁ (mkF m 33 #[ow_i p1, ow_i ((p1 &&& (255 : Int32)).toUInt32.toUInt16.toUInt32.toInt32)] [(.int 65)]) := fun t q => k t (XS.bipush X0.here hx rfl (D 8 rfl) q)
      exact own_end (v := some (.int 65)) X0 e0 Bd.notSynchronized (own_vn Bd.returns) k (fun _ hr => retN X0 hx (t := .char) Bd.returns (by simp) (D 9 rfl) (by first | exact hr | (rw [show nar .char (65 : Int32) = (65 : Int32) from by decide]; exact hr))) ⟨by rw [show (own_cc p1) = (65 : Int32) from by unfold own_cc; rw [if_neg hc1, if_pos hc2]], N0, rfl⟩ (by decide) (by decide)
    · replace k : ow s₁ (mkF m 19 #[ow_i p1, ow_i ((p1 &&& (255 : Int32)).toUInt32.toUInt16.toUInt32.toInt32)] []) := fun t q => k t (XS.iloadN X0.here hx rfl (D 10 rfl) rfl (XS.bipush X0.here hx rfl (D 11 rfl) (XS.icmpNo X0.here hx rfl (D 12 rfl) rfl (feq (show ¬ (((p1 &&& (255 : Int32)).toUInt32.toUInt16.toUInt32.toInt32) = (59 : Int32)) from hc2)).1 q)))
      by_cases hc3 : ((p1 &&& (255 : Int32)).toUInt32.toUInt16.toUInt32.toInt32) = (91 : Int32)
      · replace k : ow s₁ (mkF m 31 #[ow_i p1, ow_i ((p1 &&& (255 : Int32)).toUInt32.toUInt16.toUInt32.toInt32)] []) := fun t q => k t (XS.iloadN X0.here hx rfl (D 13 rfl) rfl (XS.bipush X0.here hx rfl (D 14 rfl) (XS.icmpYes X0.here hx rfl (pc0 := 22) (pc' := 31) rfl (D 15 rfl) rfl (teq (show ((p1 &&& (255 : Int32)).toUInt32.toUInt16.toUInt32.toInt32) = (91 : Int32) from hc3)).1 (by decide) (by decide) q)))
        replace k : ow s₁ (mkF m 33 #[ow_i p1, ow_i ((p1 &&& (255 : Int32)).toUInt32.toUInt16.toUInt32.toInt32)] [(.int 65)]) := fun t q => k t (XS.bipush X0.here hx rfl (D 8 rfl) q)
        exact own_end (v := some (.int 65)) X0 e0 Bd.notSynchronized (own_vn Bd.returns) k (fun _ hr => retN X0 hx (t := .char) Bd.returns (by simp) (D 9 rfl) (by first | exact hr | (rw [show nar .char (65 : Int32) = (65 : Int32) from by decide]; exact hr))) ⟨by rw [show (own_cc p1) = (65 : Int32) from by unfold own_cc; rw [if_neg hc1, if_neg hc2, if_pos hc3]], N0, rfl⟩ (by decide) (by decide)
      · replace k : ow s₁ (mkF m 25 #[ow_i p1, ow_i ((p1 &&& (255 : Int32)).toUInt32.toUInt16.toUInt32.toInt32)] []) := fun t q => k t (XS.iloadN X0.here hx rfl (D 13 rfl) rfl (XS.bipush X0.here hx rfl (D 14 rfl) (XS.icmpNo X0.here hx rfl (D 15 rfl) rfl (feq (show ¬ (((p1 &&& (255 : Int32)).toUInt32.toUInt16.toUInt32.toInt32) = (91 : Int32)) from hc3)).1 q)))
        by_cases hc4 : ((p1 &&& (255 : Int32)).toUInt32.toUInt16.toUInt32.toInt32) = (47 : Int32)
        · replace k : ow s₁ (mkF m 31 #[ow_i p1, ow_i ((p1 &&& (255 : Int32)).toUInt32.toUInt16.toUInt32.toInt32)] []) := fun t q => k t (XS.iloadN X0.here hx rfl (D 16 rfl) rfl (XS.bipush X0.here hx rfl (D 17 rfl) (XS.icmpNo X0.here hx rfl (D 18 rfl) rfl (teq (show ((p1 &&& (255 : Int32)).toUInt32.toUInt16.toUInt32.toInt32) = (47 : Int32) from hc4)).2 q)))
          replace k : ow s₁ (mkF m 33 #[ow_i p1, ow_i ((p1 &&& (255 : Int32)).toUInt32.toUInt16.toUInt32.toInt32)] [(.int 65)]) := fun t q => k t (XS.bipush X0.here hx rfl (D 8 rfl) q)
          exact own_end (v := some (.int 65)) X0 e0 Bd.notSynchronized (own_vn Bd.returns) k (fun _ hr => retN X0 hx (t := .char) Bd.returns (by simp) (D 9 rfl) (by first | exact hr | (rw [show nar .char (65 : Int32) = (65 : Int32) from by decide]; exact hr))) ⟨by rw [show (own_cc p1) = (65 : Int32) from by unfold own_cc; rw [if_neg hc1, if_neg hc2, if_neg hc3, if_pos hc4]], N0, rfl⟩ (by decide) (by decide)
        · replace k : ow s₁ (mkF m 34 #[ow_i p1, ow_i ((p1 &&& (255 : Int32)).toUInt32.toUInt16.toUInt32.toInt32)] []) := fun t q => k t (XS.iloadN X0.here hx rfl (D 16 rfl) rfl (XS.bipush X0.here hx rfl (D 17 rfl) (XS.icmpYes X0.here hx rfl (pc0 := 28) (pc' := 34) rfl (D 18 rfl) rfl (feq (show ¬ (((p1 &&& (255 : Int32)).toUInt32.toUInt16.toUInt32.toInt32) = (47 : Int32)) from hc4)).2 (by decide) (by decide) q)))
          replace k : ow s₁ (mkF m 35 #[ow_i p1, ow_i ((p1 &&& (255 : Int32)).toUInt32.toUInt16.toUInt32.toInt32)] [(.int ((p1 &&& (255 : Int32)).toUInt32.toUInt16.toUInt32.toInt32))]) := fun t q => k t (XS.iloadN X0.here hx rfl (D 19 rfl) rfl q)
          exact own_end (v := some (.int (((p1 &&& (255 : Int32)).toUInt32.toUInt16.toUInt32.toInt32).toUInt32.toUInt16.toUInt32.toInt32))) X0 e0 Bd.notSynchronized (own_vn Bd.returns) k (fun _ hr => retN X0 hx (t := .char) Bd.returns (by simp) (D 20 rfl) hr) ⟨by rw [show (own_cc p1) = (((p1 &&& (255 : Int32)).toUInt32.toUInt16.toUInt32.toInt32).toUInt32.toUInt16.toUInt32.toInt32) from by unfold own_cc; rw [if_neg hc1, if_neg hc2, if_neg hc3, if_neg hc4]], N0, rfl⟩ (by decide) (by decide)
theorem own_d44 : own_all method_3_code [(0, .iload_n 0, 1), (1, .invokestatic 7, 3), (4, .istore_n 1, 1), (5, .iload_n 1, 1), (6, .bipush 60, 2), (8, .if_icmp .eq 9, 3), (17, .bipush 65, 2), (19, .ireturn, 1), (11, .iload_n 1, 1), (12, .bipush 62, 2), (14, .if_icmp .ne 6, 3), (20, .iload_n 1, 1), (21, .ireturn, 1)] := by decide +kernel
theorem own_pd16 : parseMethodDescriptor "(I)C" = some ⟨[.int], some .char⟩ := by decide +kernel
theorem own_ef44 (m : MethodId) (x0 : Int32) : entryFrame m #[(.int x0)] 2 = mkF m 0 #[ow_i x0, .unset] [] := by first | (simp [entryFrame, mkF, argsToLocals, Value.category]; done) | rfl
theorem own_pn44 : plainName "com/example/callsite/callsite/model/MethodIdEqualsPinLaw" = true := by first | (simp [plainName, overriddenIn]; done) | decide +kernel
def own_mc (p1 : Int32) : Int32 := (if (own_cc p1) = (60 : Int32) then (65 : Int32) else (if (own_cc p1) = (62 : Int32) then (65 : Int32) else ((own_cc p1).toUInt32.toUInt16.toUInt32.toInt32)))
set_option maxRecDepth 65536 in
set_option maxHeartbeats 40000000 in
theorem own_m44 (l : Launch) (Z : State) (a0 : Array Value) (hw : ∀ d ∈ tables_1, d.before a0 Z = true) (ws : List Jvm.Cond) (p1 : Int32) (h0 : Heap) (n0 : Nat) (Z0 : n0 ≤ h0.size) :
    own_MF l Z own_y44 ws method_3_code 2 (some .char) ({ frames := 1, cells := 0, slots := 0, locals := 13 } : Room) #[(.int p1)] h0 (own_Q (some (.int (own_mc p1))) h0 n0) := by
  refine own_go "com/example/callsite/callsite/model/MethodIdEqualsPinLaw" rfl (plainFor_of_name own_pn44) (fun m => own_ef44 m p1) own_d44 n0 fun p e s m below meth c s₁ A0 Bd hx D hml hown hnm X0 hZ e0 N0 k => ?_
  obtain ⟨_, _, ⟨T1, L1, k1, n1⟩, -, X1, ⟨Lc1, hQ1, l1, y1, z1⟩, st1⟩ := Jvm.LawKit.callS X0 hx (y := own_y2) hown (mvT hZ (own_h hw 4 rfl)) (mvT hZ (own_h hw 5 rfl)) (mvT hZ (own_h hw 2 rfl)) (mvT hZ (own_h hw 6 rfl)) (by decide) (backOf (W := 0) (own_m2 l Z a0 hw [] p1 h0 n0 Z0 ) hZ (own_h hw 6 rfl) (own_h hw 2 rfl) (by decide) (by decide)) (g := (mkF m 1 #[ow_i p1, .unset] [(.int p1)])) rfl (by rw [hml]; rfl) (argsL := [(.int p1)]) (rest := []) (lenOf own_pd16 rfl) rfl own_le (D 1 rfl) (fun _ _ => ⟨rfl, e0, (by decide : 0 + 0 ≤ _), (by decide : 0 + 0 ≤ _)⟩)
  dsimp only [Pt.U, Pt.locs, Pt.cells, Pt.slots] at X1 l1 y1 z1 st1 hQ1
  subst l1 y1 z1
  obtain ⟨rfl, N1q, e1⟩ := hQ1
  have N1 := Fr.app N0 N1q
  replace k : ow T1 (mkF m 4 #[ow_i p1, .unset] [(.int (own_cc p1))]) := fun t q => k t (XS.iloadN X0.here hx rfl (D 0 rfl) rfl (st1 t q))
  clear st1
  replace k : ow T1 (mkF m 8 #[ow_i p1, ow_i (own_cc p1)] [(.int 60), (.int (own_cc p1))]) := fun t q => k t (XS.istoreN X1.here hx rfl (D 2 rfl) rfl (l' := #[ow_i p1, ow_i (own_cc p1)]) rfl (XS.iloadN X1.here hx rfl (D 3 rfl) rfl (XS.bipush X1.here hx rfl (D 4 rfl) q)))
  by_cases hc2 : (own_cc p1) = (60 : Int32)
  · replace k : ow T1 (mkF m 17 #[ow_i p1, ow_i (own_cc p1)] []) := fun t q => k t (XS.icmpYes X1.here hx rfl (pc0 := 8) (pc' := 17) rfl (D 5 rfl) rfl (teq (show (own_cc p1) = (60 : Int32) from hc2)).1 (by decide) (by decide) q)
    replace k : ow T1 (mkF m 19 #[ow_i p1, ow_i (own_cc p1)] [(.int 65)]) := fun t q => k t (XS.bipush X1.here hx rfl (D 6 rfl) q)
    exact own_end (v := some (.int 65)) X1 e1 Bd.notSynchronized (own_vn Bd.returns) k (fun _ hr => retN X1 hx (t := .char) Bd.returns (by simp) (D 7 rfl) (by first | exact hr | (rw [show nar .char (65 : Int32) = (65 : Int32) from by decide]; exact hr))) ⟨by rw [show (own_mc p1) = (65 : Int32) from by unfold own_mc; rw [if_pos hc2]], N1, rfl⟩ (by decide) (by decide)
  · replace k : ow T1 (mkF m 11 #[ow_i p1, ow_i (own_cc p1)] []) := fun t q => k t (XS.icmpNo X1.here hx rfl (D 5 rfl) rfl (feq (show ¬ ((own_cc p1) = (60 : Int32)) from hc2)).1 q)
    by_cases hc3 : (own_cc p1) = (62 : Int32)
    · replace k : ow T1 (mkF m 17 #[ow_i p1, ow_i (own_cc p1)] []) := fun t q => k t (XS.iloadN X1.here hx rfl (D 8 rfl) rfl (XS.bipush X1.here hx rfl (D 9 rfl) (XS.icmpNo X1.here hx rfl (D 10 rfl) rfl (teq (show (own_cc p1) = (62 : Int32) from hc3)).2 q)))
      replace k : ow T1 (mkF m 19 #[ow_i p1, ow_i (own_cc p1)] [(.int 65)]) := fun t q => k t (XS.bipush X1.here hx rfl (D 6 rfl) q)
      exact own_end (v := some (.int 65)) X1 e1 Bd.notSynchronized (own_vn Bd.returns) k (fun _ hr => retN X1 hx (t := .char) Bd.returns (by simp) (D 7 rfl) (by first | exact hr | (rw [show nar .char (65 : Int32) = (65 : Int32) from by decide]; exact hr))) ⟨by rw [show (own_mc p1) = (65 : Int32) from by unfold own_mc; rw [if_neg hc2, if_pos hc3]], N1, rfl⟩ (by decide) (by decide)
    · replace k : ow T1 (mkF m 20 #[ow_i p1, ow_i (own_cc p1)] []) := fun t q => k t (XS.iloadN X1.here hx rfl (D 8 rfl) rfl (XS.bipush X1.here hx rfl (D 9 rfl) (XS.icmpYes X1.here hx rfl (pc0 := 14) (pc' := 20) rfl (D 10 rfl) rfl (feq (show ¬ ((own_cc p1) = (62 : Int32)) from hc3)).2 (by decide) (by decide) q)))
      replace k : ow T1 (mkF m 21 #[ow_i p1, ow_i (own_cc p1)] [(.int (own_cc p1))]) := fun t q => k t (XS.iloadN X1.here hx rfl (D 11 rfl) rfl q)
      exact own_end (v := some (.int ((own_cc p1).toUInt32.toUInt16.toUInt32.toInt32))) X1 e1 Bd.notSynchronized (own_vn Bd.returns) k (fun _ hr => retN X1 hx (t := .char) Bd.returns (by simp) (D 12 rfl) hr) ⟨by rw [show (own_mc p1) = ((own_cc p1).toUInt32.toUInt16.toUInt32.toInt32) from by unfold own_mc; rw [if_neg hc2, if_neg hc3]], N1, rfl⟩ (by decide) (by decide)
theorem own_i2c (x : Int32) (h0 : 0 ≤ x.toInt) (h1 : x.toInt < 65536) : x.toUInt32.toUInt16.toUInt32.toInt32 = x := by
  have q := c_i2c x
  rw [← Int32.toInt_inj]; omega
theorem own_nok {c : Int32} (h : ¬ c < 0 ∧ ¬ (255 : Int32) < c) : c.toUInt32.toUInt16.toUInt32.toInt32 = c := by
  have e1 : (255 : Int32).toInt = 255 := by decide
  have e0 : (0 : Int32).toInt = 0 := rfl
  simp only [Int32.lt_iff_toInt_lt] at h
  exact own_i2c c (by omega) (by omega)
theorem own_m255 (x : Int32) : ¬ (x &&& (255 : Int32)) < 0 ∧ ¬ (255 : Int32) < (x &&& (255 : Int32)) := by
  have e := c_mask x (255 : Int32) 8 (by decide) (by decide)
  have h2 : ((2 ^ 8 : Nat) : Int) = 256 := rfl
  have e1 : (255 : Int32).toInt = 255 := by decide
  have e0 : (0 : Int32).toInt = 0 := rfl
  rw [h2] at e
  simp only [Int32.lt_iff_toInt_lt]; omega
theorem own_cc_ok (x : Int32) : own_okc (own_cc x) := by
  have r := own_m255 x
  unfold own_cc own_okc
  rw [own_nok r, own_nok r]
  repeat' split
  all_goals first | (refine ⟨r, ?_, ?_, ?_, ?_⟩ <;> assumption) | decide
theorem own_mc_ok (x : Int32) : own_okm (own_mc x) := by
  have r := own_cc_ok x
  unfold own_mc own_okm
  rw [own_nok r.1]
  repeat' split
  all_goals first | (refine ⟨r, ?_, ?_⟩ <;> assumption) | (unfold own_okc; decide)
theorem own_occ (x : Int32) : own_okc (ow_c (own_cc x)) := by show own_okc ((own_cc x).toUInt32.toUInt16.toUInt32.toInt32); rw [own_nok (own_cc_ok x).1]; exact own_cc_ok x
theorem own_omc (x : Int32) : own_okm (ow_c (own_mc x)) := by show own_okm ((own_mc x).toUInt32.toUInt16.toUInt32.toInt32); rw [own_nok (own_mc_ok x).1.1]; exact own_mc_ok x
def own_bt (p1 : Int32) : Int32 := (([66, 67, 68, 70, 73, 74, 83, 90] : List Int32).getD (p1 &&& (7 : Int32)).toNatClampNeg 0).toUInt32.toUInt16.toUInt32.toInt32
theorem own_bt_lt (x : Int32) : (x &&& (7 : Int32)).toNatClampNeg < 8 := by
  have e := c_mask x (7 : Int32) 3 (by decide) (by decide)
  have h2 : ((2 ^ 3 : Nat) : Int) = 8 := rfl
  rw [h2] at e
  unfold Int32.toNatClampNeg; omega
theorem own_bt_j (x : Int32) : (x &&& (7 : Int32)) = Int32.ofNat (x &&& (7 : Int32)).toNatClampNeg := by
  have e := c_mask x (7 : Int32) 3 (by decide) (by decide)
  have h2 : ((2 ^ 3 : Nat) : Int) = 8 := rfl
  have r := own_bt_lt x
  rw [h2] at e
  rw [← Int32.toInt_inj, own_ofl (by omega)]
  unfold Int32.toNatClampNeg; omega
theorem own_bt_ok (x : Int32) : own_okb (own_bt x) := by
  have h := own_bt_lt x
  unfold own_bt
  generalize (x &&& (7 : Int32)).toNatClampNeg = i at *
  rcases i with _ | _ | _ | _ | _ | _ | _ | _ | i
  all_goals first | (unfold own_okb; decide) | omega
theorem own_obt (x : Int32) : own_okb (ow_c (own_bt x)) := by show own_okb ((own_bt x).toUInt32.toUInt16.toUInt32.toInt32); rw [own_nok (own_bt_ok x).rng]; exact own_bt_ok x
theorem own_d1 : own_all method_4_code [(0, .iload_n 0, 1), (1, .invokestatic 7, 3), (4, .istore_n 2, 1), (5, .iload_n 0, 1), (6, .bipush 8, 2), (8, .iushr, 1), (9, .invokestatic 7, 3), (12, .istore_n 3, 1), (13, .iload_n 1, 1), (14, .iconst 1, 1), (15, .iand, 1), (16, .ifCond .eq 27, 3), (43, .new 13, 3), (46, .dup, 1), (47, .iconst 2, 1), (48, .newarray .char, 2), (50, .dup, 1), (51, .iconst 0, 1), (52, .iload_n 2, 1), (53, .castore, 1), (54, .dup, 1), (55, .iconst 1, 1), (56, .iload_n 3, 1), (57, .castore, 1), (58, .invokespecial 15, 3), (61, .areturn, 1), (19, .new 13, 3), (22, .dup, 1), (23, .iconst 3, 1), (24, .newarray .char, 2), (26, .dup, 1), (27, .iconst 0, 1), (28, .iload_n 2, 1), (29, .castore, 1), (30, .dup, 1), (31, .iconst 1, 1), (32, .bipush 46, 2), (34, .castore, 1), (35, .dup, 1), (36, .iconst 2, 1), (37, .iload_n 3, 1), (38, .castore, 1), (39, .invokespecial 15, 3), (42, .areturn, 1)] := by decide +kernel
theorem own_pd17 : parseMethodDescriptor "([C)V" = some ⟨[(.array .char)], none⟩ := by decide +kernel
/-- the chars of this string -/
def own_tC (p1 p2 : Int32) : List Int32 := (if (p2 &&& (1 : Int32)) = (0 : Int32) then ([(ow_c (own_cc p1)), (ow_c (own_cc ((p1.toUInt32 >>> ((8 : Int32) &&& 31).toUInt32).toInt32)))] : List Int32) else ([(ow_c (own_cc p1)), 46, (ow_c (own_cc ((p1.toUInt32 >>> ((8 : Int32) &&& 31).toUInt32).toInt32)))] : List Int32))
theorem own_ef1 (m : MethodId) (x0 : Int32) (x1 : Int32) : entryFrame m #[(.int x0), (.int x1)] 4 = mkF m 0 #[ow_i x0, ow_i x1, .unset, .unset] [] := by first | (simp [entryFrame, mkF, argsToLocals, Value.category]; done) | rfl
theorem own_pn1 : plainName "com/example/callsite/callsite/model/MethodIdEqualsPinLaw" = true := by first | (simp [plainName, overriddenIn]; done) | decide +kernel
def own_m1_Q (Z : State) (p1 : Int32) (p2 : Int32) (w_COMPACT_STRINGS : Int32) (h0 : Heap) (n0 : Nat) (v : Option Value) (h : Heap) (L : List Loc) : Prop := ∃ a : Addr, v = some (.ref a) ∧ Fr n0 L ∧ Keep h0 h [] ∧ own_Str Z h a (own_tC p1 p2)
set_option maxRecDepth 65536 in
set_option maxHeartbeats 40000000 in
theorem own_m1 (l : Launch) (Z : State) (a0 : Array Value) (hw : ∀ d ∈ tables_1, d.before a0 Z = true) (ws : List Jvm.Cond) (p1 : Int32) (p2 : Int32) (w_COMPACT_STRINGS : Int32) (h0 : Heap) (n0 : Nat) (Z0 : n0 ≤ h0.size) (S_COMPACT_STRINGS : Sta Z h0 "java/lang/String" "COMPACT_STRINGS" "Z" (.int w_COMPACT_STRINGS)) (hz : ¬ (w_COMPACT_STRINGS = (0 : Int32))) :
    own_MS l Z own_y1 ws method_4_code 4 (some (.object "java/lang/String")) ({ frames := 4, cells := 3, slots := 10, locals := 66 } : Room) #[(.int p1), (.int p2)] h0 (CHr Z consts_1) (own_m1_Q Z p1 p2 w_COMPACT_STRINGS h0 n0) := by
  refine own_goS CHr.refl "com/example/callsite/callsite/model/MethodIdEqualsPinLaw" rfl (plainFor_of_name own_pn1) (fun m => own_ef1 m p1 p2) own_d1 n0 fun p e s m below meth c s₁ A0 Bd hx D hml hown hnm X0 hZ e0 N0 hh CH0 hS0 hk0 CR0 k => ?_
  obtain ⟨_, _, ⟨T21, L21, k21, n21⟩, -, X21, ⟨Lc21, hQ21, l21, y21, z21⟩, st21⟩ := Jvm.LawKit.callS X0 hx (y := own_y2) hown (mvT hZ (own_h hw 4 rfl)) (mvT hZ (own_h hw 5 rfl)) (mvT hZ (own_h hw 2 rfl)) (mvT hZ (own_h hw 6 rfl)) (by decide) (backOf (W := 0) (own_m2 l Z a0 hw [] p1 h0 n0 Z0 ) hZ (own_h hw 6 rfl) (own_h hw 2 rfl) (by decide) (by decide)) (g := (mkF m 1 #[ow_i p1, ow_i p2, .unset, .unset] [(.int p1)])) rfl (by rw [hml]; rfl) (argsL := [(.int p1)]) (rest := []) (lenOf own_pd16 rfl) rfl own_le (D 1 rfl) (fun _ _ => ⟨rfl, e0, (by decide : 0 + 0 ≤ _), (by decide : 0 + 0 ≤ _)⟩)
  dsimp only [Pt.U, Pt.locs, Pt.cells, Pt.slots] at X21 l21 y21 z21 st21 hQ21
  subst l21 y21 z21
  obtain ⟨rfl, N21q, e21⟩ := hQ21
  have N21 := Fr.app N0 N21q
  replace k : ow T21 (mkF m 4 #[ow_i p1, ow_i p2, .unset, .unset] [(.int (own_cc p1))]) := fun t q => k t (XS.iloadN X0.here hx rfl (D 0 rfl) rfl (st21 t q))
  clear st21
  replace k : ow T21 (mkF m 8 #[ow_i p1, ow_i p2, ow_i (own_cc p1), .unset] [(.int 8), (.int p1)]) := fun t q => k t (XS.istoreN X21.here hx rfl (D 2 rfl) rfl (l' := #[ow_i p1, ow_i p2, ow_i (own_cc p1), .unset]) rfl (XS.iloadN X21.here hx rfl (D 3 rfl) rfl (XS.bipush X21.here hx rfl (D 4 rfl) q)))
  replace k : ow T21 (mkF m 9 #[ow_i p1, ow_i p2, ow_i (own_cc p1), .unset] [(.int ((p1.toUInt32 >>> ((8 : Int32) &&& 31).toUInt32).toInt32))]) := fun t q => k t (XS.iushr X21.here hx rfl (D 5 rfl) rfl q)
  obtain ⟨_, _, ⟨T22, L22, k22, n22⟩, -, X22, ⟨Lc22, hQ22, l22, y22, z22⟩, st22⟩ := Jvm.LawKit.callS X21 hx (y := own_y2) hown (mvT hZ (own_h hw 4 rfl)) (mvT hZ (own_h hw 5 rfl)) (mvT hZ (own_h hw 2 rfl)) (mvT hZ (own_h hw 6 rfl)) (by decide) (backOf (W := 0) (own_m2 l Z a0 hw [] ((p1.toUInt32 >>> ((8 : Int32) &&& 31).toUInt32).toInt32) h0 n0 Z0 ) hZ (own_h hw 6 rfl) (own_h hw 2 rfl) (by decide) (by decide)) (g := (mkF m 9 #[ow_i p1, ow_i p2, ow_i (own_cc p1), .unset] [(.int ((p1.toUInt32 >>> ((8 : Int32) &&& 31).toUInt32).toInt32))])) rfl (by rw [hml]; rfl) (argsL := [(.int ((p1.toUInt32 >>> ((8 : Int32) &&& 31).toUInt32).toInt32))]) (rest := []) (lenOf own_pd16 rfl) rfl own_le (D 6 rfl) (fun _ _ => ⟨rfl, e21, (by decide : 0 + 0 ≤ _), (by decide : 0 + 0 ≤ _)⟩)
  dsimp only [Pt.U, Pt.locs, Pt.cells, Pt.slots] at X22 l22 y22 z22 st22 hQ22
  subst l22 y22 z22
  obtain ⟨rfl, N22q, e22⟩ := hQ22
  have N22 := Fr.app N21 N22q
  replace k : ow T22 (mkF m 12 #[ow_i p1, ow_i p2, ow_i (own_cc p1), .unset] [(.int (own_cc ((p1.toUInt32 >>> ((8 : Int32) &&& 31).toUInt32).toInt32)))]) := fun t q => k t (st22 t q)
  clear st22
  replace k : ow T22 (mkF m 15 #[ow_i p1, ow_i p2, ow_i (own_cc p1), ow_i (own_cc ((p1.toUInt32 >>> ((8 : Int32) &&& 31).toUInt32).toInt32))] [(.int 1), (.int p2)]) := fun t q => k t (XS.istoreN X22.here hx rfl (D 7 rfl) rfl (l' := #[ow_i p1, ow_i p2, ow_i (own_cc p1), ow_i (own_cc ((p1.toUInt32 >>> ((8 : Int32) &&& 31).toUInt32).toInt32))]) rfl (XS.iloadN X22.here hx rfl (D 8 rfl) rfl (XS.iconst X22.here hx rfl (D 9 rfl) q)))
  replace k : ow T22 (mkF m 16 #[ow_i p1, ow_i p2, ow_i (own_cc p1), ow_i (own_cc ((p1.toUInt32 >>> ((8 : Int32) &&& 31).toUInt32).toInt32))] [(.int (p2 &&& (1 : Int32)))]) := fun t q => k t (XS.iand X22.here hx rfl (D 10 rfl) rfl q)
  by_cases hc23 : (p2 &&& (1 : Int32)) = (0 : Int32)
  · replace k : ow T22 (mkF m 43 #[ow_i p1, ow_i p2, ow_i (own_cc p1), ow_i (own_cc ((p1.toUInt32 >>> ((8 : Int32) &&& 31).toUInt32).toInt32))] []) := fun t q => k t (XS.ifYes X22.here hx rfl (pc0 := 16) (pc' := 43) rfl (D 11 rfl) rfl ((if0 _ _).trans (teq (show (p2 &&& (1 : Int32)) = (0 : Int32) from hc23)).1) (by decide) (by decide) q)
    obtain ⟨T24, h24, X24, e24, E24, A24, D24, -, st24⟩ := newO X22 hx hZ hown (own_h hw 7 rfl) (own_h hw 8 rfl) (own_h hw 9 rfl) e22 (g := (mkF m 43 #[ow_i p1, ow_i p2, ow_i (own_cc p1), ow_i (own_cc ((p1.toUInt32 >>> ((8 : Int32) &&& 31).toUInt32).toInt32))] [])) rfl (D 12 rfl) (by decide) (by decide)
    obtain ⟨b24, g24⟩ : ∃ z, z = h0.size := ⟨_, rfl⟩
    rw [← g24] at A24 D24 st24
    have ge_b24 : n0 ≤ b24 := Nat.le_trans Z0 (Nat.le_of_eq g24.symm)
    have sz_b24 : h0.size ≤ b24 := Nat.le_trans (Keep.refl h0 []).1 (Nat.le_of_eq g24.symm)
    have Z24 : n0 ≤ h24.size := Nat.le_trans Z0 E24.1
    have K24 : Keep h0 h24 [] := (Keep.refl h0 []).ext E24
    have CU24 := CHr.ext E24 CH0
    have CR24 := CR0.trans CU24
    have CH24 := CU24.1
    have hk24 := Nat.le_trans hk0 E24.1
    have F_coder_b24 : Fld Z h24 b24 "java/lang/String" "coder" "B" (.int 0) := D24 (Or.inr (own_h hw 34 rfl)) (ty := .byte) (by decide)
    have F_value_b24 : Fld Z h24 b24 "java/lang/String" "value" "[B" .null := D24 (Or.inr (own_h hw 36 rfl)) (ty := (.array .byte)) (by decide)
    replace k : ow T24 (mkF m 46 #[ow_i p1, ow_i p2, ow_i (own_cc p1), ow_i (own_cc ((p1.toUInt32 >>> ((8 : Int32) &&& 31).toUInt32).toInt32))] [(.ref b24)]) := fun t q => k t (st24 t q)
    clear st24
    obtain ⟨T25, h25, kc25, X25, e25, E25, A25, st25⟩ := newP X24 hx hZ (own_h hw 10 rfl) e24 (g := (mkF m 48 #[ow_i p1, ow_i p2, ow_i (own_cc p1), ow_i (own_cc ((p1.toUInt32 >>> ((8 : Int32) &&& 31).toUInt32).toInt32))] [(.int 2), (.ref b24), (.ref b24)])) rfl (D 15 rfl) rfl (by decide) (cap := 2) (by decide) (by decide) (by decide) (by decide)
    obtain ⟨b25, g25⟩ : ∃ z, z = h24.size := ⟨_, rfl⟩
    rw [← g25] at A25 st25
    have ge_b25 : n0 ≤ b25 := Nat.le_trans Z24 (Nat.le_of_eq g25.symm)
    have sz_b25 : h0.size ≤ b25 := Nat.le_trans K24.1 (Nat.le_of_eq g25.symm)
    have Z25 : n0 ≤ h25.size := Nat.le_trans Z24 E25.1
    have K25 : Keep h0 h25 [] := K24.ext E25
    have CU25 := CHr.ext E25 CH24
    have CR25 := CR24.trans CU25
    have CH25 := CU25.1
    have hk25 := Nat.le_trans hk24 E25.1
    have V_b25 : Arv Z h25 b25 kc25 .char (2 : Int32) [(.int 0), (.int 0)] (.int 0) := (Arv.new A25 (by decide)).pad (pad_rep [] (.int 0) 2)
    replace k : ow T25 (mkF m 50 #[ow_i p1, ow_i p2, ow_i (own_cc p1), ow_i (own_cc ((p1.toUInt32 >>> ((8 : Int32) &&& 31).toUInt32).toInt32))] [(.ref b25), (.ref b24), (.ref b24)]) := fun t q => k t (XS.dup X24.here hx rfl (D 13 rfl) rfl rfl (XS.iconst X24.here hx rfl (D 14 rfl) (st25 t q)))
    clear st25
    replace k : ow T25 (mkF m 53 #[ow_i p1, ow_i p2, ow_i (own_cc p1), ow_i (own_cc ((p1.toUInt32 >>> ((8 : Int32) &&& 31).toUInt32).toInt32))] [(.int (own_cc p1)), (.int 0), (.ref b25), (.ref b25), (.ref b24), (.ref b24)]) := fun t q => k t (XS.dup X25.here hx rfl (D 16 rfl) rfl rfl (XS.iconst X25.here hx rfl (D 17 rfl) (XS.iloadN X25.here hx rfl (D 18 rfl) rfl q)))
    obtain ⟨cl26, Ar26, qa26, Sa26, Na26, Ha26, Ga26⟩ := id V_b25
    obtain ⟨T26, h26, X26, e26, W26, st26⟩ := stC X25 hx hZ e25 Ar26 (j := (0 : Int32)) (own_inb Sa26 (show (0 : Int32) = Nat.toInt32 0 from by decide) (show 0 < ((2 : Int32)).toNatClampNeg from by decide)) (g := (mkF m 53 #[ow_i p1, ow_i p2, ow_i (own_cc p1), ow_i (own_cc ((p1.toUInt32 >>> ((8 : Int32) &&& 31).toUInt32).toInt32))] [(.int (own_cc p1)), (.int 0), (.ref b25), (.ref b25), (.ref b24), (.ref b24)])) rfl rfl (D 19 rfl)
    have V26 : Arv Z h26 b25 kc25 .char (2 : Int32) [(.int (ow_c (own_cc p1))), (.int 0)] (.int 0) := Arv.set Ar26 qa26 Sa26 Na26 Ha26 Ga26 (fits_nar_char _) W26 0 (own_idx (show (0 : Int32) = Nat.toInt32 0 from by decide) (by omega)) (Nat.le_of_ble_eq_true rfl)
    have K26 : Keep h0 h26 [] := K25.wr W26 (Or.inr sz_b25)
    have N26 := Fr.snoc X26 N22 ge_b25
    have Z26 : n0 ≤ h26.size := Nat.le_trans Z25 (Keep.of_wr W26).1
    have CU26 := CHr.wr W26 (Safe.arv hZ.alike V_b25 (by decide)) CH25
    have CR26 := CR25.trans CU26
    have CH26 := CU26.1
    have hk26 := Nat.le_trans hk25 (Keep.of_wr W26).1
    replace k : ow T26 (mkF m 54 #[ow_i p1, ow_i p2, ow_i (own_cc p1), ow_i (own_cc ((p1.toUInt32 >>> ((8 : Int32) &&& 31).toUInt32).toInt32))] [(.ref b25), (.ref b24), (.ref b24)]) := fun t q => k t (st26 t q)
    clear st26
    replace k : ow T26 (mkF m 57 #[ow_i p1, ow_i p2, ow_i (own_cc p1), ow_i (own_cc ((p1.toUInt32 >>> ((8 : Int32) &&& 31).toUInt32).toInt32))] [(.int (own_cc ((p1.toUInt32 >>> ((8 : Int32) &&& 31).toUInt32).toInt32))), (.int 1), (.ref b25), (.ref b25), (.ref b24), (.ref b24)]) := fun t q => k t (XS.dup X26.here hx rfl (D 20 rfl) rfl rfl (XS.iconst X26.here hx rfl (D 21 rfl) (XS.iloadN X26.here hx rfl (D 22 rfl) rfl q)))
    obtain ⟨cl27, Ar27, qa27, Sa27, Na27, Ha27, Ga27⟩ := id V26
    obtain ⟨T27, h27, X27, e27, W27, st27⟩ := stC X26 hx hZ e26 Ar27 (j := (1 : Int32)) (own_inb Sa27 (show (1 : Int32) = Nat.toInt32 1 from by decide) (show 1 < ((2 : Int32)).toNatClampNeg from by decide)) (g := (mkF m 57 #[ow_i p1, ow_i p2, ow_i (own_cc p1), ow_i (own_cc ((p1.toUInt32 >>> ((8 : Int32) &&& 31).toUInt32).toInt32))] [(.int (own_cc ((p1.toUInt32 >>> ((8 : Int32) &&& 31).toUInt32).toInt32))), (.int 1), (.ref b25), (.ref b25), (.ref b24), (.ref b24)])) rfl rfl (D 23 rfl)
    have V27 : Arv Z h27 b25 kc25 .char (2 : Int32) [(.int (ow_c (own_cc p1))), (.int (ow_c (own_cc ((p1.toUInt32 >>> ((8 : Int32) &&& 31).toUInt32).toInt32))))] (.int 0) := Arv.set Ar27 qa27 Sa27 Na27 Ha27 Ga27 (fits_nar_char _) W27 1 (own_idx (show (1 : Int32) = Nat.toInt32 1 from by decide) (by omega)) (Nat.le_of_ble_eq_true rfl)
    have K27 : Keep h0 h27 [] := K26.wr W27 (Or.inr sz_b25)
    have N27 := Fr.snoc X27 N26 ge_b25
    have Z27 : n0 ≤ h27.size := Nat.le_trans Z26 (Keep.of_wr W27).1
    have CU27 := CHr.wr W27 (Safe.arv hZ.alike V26 (by decide)) CH26
    have CR27 := CR26.trans CU27
    have CH27 := CU27.1
    have hk27 := Nat.le_trans hk26 (Keep.of_wr W27).1
    replace k : ow T27 (mkF m 58 #[ow_i p1, ow_i p2, ow_i (own_cc p1), ow_i (own_cc ((p1.toUInt32 >>> ((8 : Int32) &&& 31).toUInt32).toInt32))] [(.ref b25), (.ref b24), (.ref b24)]) := fun t q => k t (st27 t q)
    clear st27
    have hp28 : ∀ c ∈ ([(ow_c (own_cc p1)), (ow_c (own_cc ((p1.toUInt32 >>> ((8 : Int32) &&& 31).toUInt32).toInt32)))] : List Int32), ¬ c < 0 ∧ ¬ (255 : Int32) < c := (List.forall_mem_cons.mpr ⟨(own_occ _).1, (List.forall_mem_cons.mpr ⟨(own_occ _).1, (fun c hc => nomatch hc)⟩)⟩)
    obtain ⟨_, _, ⟨T28, L28, k28, n28⟩, -, X28, ⟨Lc28, hQ28, l28, y28, z28⟩, st28⟩ := X27.specialBack hx (y := own_y3) rfl hown (mvT hZ (own_h hw 11 rfl)) (mvT hZ (own_h hw 12 rfl)) (mvT hZ (own_h hw 13 rfl)) (by decide) (StrChars.Road.backV (W := 1) hZ (own_wNew hw) (kI := 4) (own_h hw 8 rfl) (cs := ([(ow_c (own_cc p1)), (ow_c (own_cc ((p1.toUInt32 >>> ((8 : Int32) &&& 31).toUInt32).toInt32)))] : List Int32)) (bs := ([(ow_c (own_cc p1)), (ow_c (own_cc ((p1.toUInt32 >>> ((8 : Int32) &&& 31).toUInt32).toInt32)))] : List Int32).map (fun c => c.toInt8.toInt32)) (n := 2) ge_b24 Z27 (((A24.ext E25).wr W26).wr W27) (((F_value_b24.ext E25).other W26 (Or.inl (Nat.ne_of_lt (Nat.lt_of_lt_of_le A24.lt (Nat.le_of_eq g25.symm))))).other W27 (Or.inl (Nat.ne_of_lt (Nat.lt_of_lt_of_le A24.lt (Nat.le_of_eq g25.symm))))) (((F_coder_b24.ext E25).other W26 (Or.inl (Nat.ne_of_lt (Nat.lt_of_lt_of_le A24.lt (Nat.le_of_eq g25.symm))))).other W27 (Or.inl (Nat.ne_of_lt (Nat.lt_of_lt_of_le A24.lt (Nat.le_of_eq g25.symm))))) V27 ((((S_COMPACT_STRINGS.ext E24).ext E25).wr W26).wr W27) hz rfl rfl (by decide) (by decide) hp28 rfl (by decide) (by decide)) (g := (mkF m 58 #[ow_i p1, ow_i p2, ow_i (own_cc p1), ow_i (own_cc ((p1.toUInt32 >>> ((8 : Int32) &&& 31).toUInt32).toInt32))] [(.ref b25), (.ref b24), (.ref b24)])) rfl (by rw [hml]; rfl) (Steps.refl _) (a := b24) (argsL := [(.ref b25)]) (rest := [(.ref b24)]) (lenOf own_pd17 rfl) rfl own_le (D 24 rfl) (fun _ _ => ⟨rfl, e27, (by decide : 2 + 1 ≤ _), (by decide : 6 + 2 ≤ _)⟩)
    dsimp only [Pt.U, Pt.locs, Pt.cells, Pt.slots] at X28 l28 y28 z28 st28 hQ28
    subst l28 y28 z28
    obtain ⟨h28, e28⟩ : ∃ z, T28.heap = z := ⟨_, rfl⟩
    rw [e28] at hQ28
    obtain ⟨rfl, N28q, KC28, EC28, FC28, tt28, kt28, -, -, -, FV28, AV28⟩ := hQ28
    have KK28 : Keep h0 h28 [] := K27.trans KC28 (allS (Or.inr sz_b24) all0)
    have Z28 : n0 ≤ h28.size := Nat.le_trans Z27 KC28.1
    have CU28 := CHr.keep KC28 (sfS (own_safe_null hZ.alike (((A24.ext E25).wr W26).wr W27) (((F_value_b24.ext E25).other W26 (Or.inl (Nat.ne_of_lt (Nat.lt_of_lt_of_le A24.lt (Nat.le_of_eq g25.symm))))).other W27 (Or.inl (Nat.ne_of_lt (Nat.lt_of_lt_of_le A24.lt (Nat.le_of_eq g25.symm)))))) sf0) CH27
    have CR28 := CR27.trans CU28
    have CH28 := CU28.1
    have hk28 := Nat.le_trans hk27 KC28.1
    have TX28 : own_Str Z h28 b24 ([(ow_c (own_cc p1)), (ow_c (own_cc ((p1.toUInt32 >>> ((8 : Int32) &&& 31).toUInt32).toInt32)))] : List Int32) := own_mkStr EC28 FV28 FC28 AV28 rfl hp28 (by decide)
    have N28 := Fr.app N27 N28q
    replace k : ow T28 (mkF m 61 #[ow_i p1, ow_i p2, ow_i (own_cc p1), ow_i (own_cc ((p1.toUInt32 >>> ((8 : Int32) &&& 31).toUInt32).toInt32))] [(.ref b24)]) := fun t q => k t (st28.trans q)
    clear st28
    exact own_endS (v := some (.ref b24)) X28 e28 hS0 hk28 hh Bd.notSynchronized (own_vn Bd.returns) k (fun _ hr => own_retA X28 hx Bd.returns rfl (D 25 rfl) hr) ⟨b24, rfl, N28, KK28, by rw [show own_tC p1 p2 = ([(ow_c (own_cc p1)), (ow_c (own_cc ((p1.toUInt32 >>> ((8 : Int32) &&& 31).toUInt32).toInt32)))] : List Int32) from by unfold own_tC; rw [if_pos hc23]]; exact TX28⟩ (CR28.trans (CHv.at X28 hZ (own_EW hw) CH28)) (by decide) (by decide)
  · replace k : ow T22 (mkF m 19 #[ow_i p1, ow_i p2, ow_i (own_cc p1), ow_i (own_cc ((p1.toUInt32 >>> ((8 : Int32) &&& 31).toUInt32).toInt32))] []) := fun t q => k t (XS.ifNo X22.here hx rfl (D 11 rfl) rfl ((if0 _ _).trans (feq (show ¬ ((p2 &&& (1 : Int32)) = (0 : Int32)) from hc23)).1) q)
    obtain ⟨T29, h29, X29, e29, E29, A29, D29, -, st29⟩ := newO X22 hx hZ hown (own_h hw 7 rfl) (own_h hw 8 rfl) (own_h hw 9 rfl) e22 (g := (mkF m 19 #[ow_i p1, ow_i p2, ow_i (own_cc p1), ow_i (own_cc ((p1.toUInt32 >>> ((8 : Int32) &&& 31).toUInt32).toInt32))] [])) rfl (D 26 rfl) (by decide) (by decide)
    obtain ⟨b29, g29⟩ : ∃ z, z = h0.size := ⟨_, rfl⟩
    rw [← g29] at A29 D29 st29
    have ge_b29 : n0 ≤ b29 := Nat.le_trans Z0 (Nat.le_of_eq g29.symm)
    have sz_b29 : h0.size ≤ b29 := Nat.le_trans (Keep.refl h0 []).1 (Nat.le_of_eq g29.symm)
    have Z29 : n0 ≤ h29.size := Nat.le_trans Z0 E29.1
    have K29 : Keep h0 h29 [] := (Keep.refl h0 []).ext E29
    have CU29 := CHr.ext E29 CH0
    have CR29 := CR0.trans CU29
    have CH29 := CU29.1
    have hk29 := Nat.le_trans hk0 E29.1
    have F_coder_b29 : Fld Z h29 b29 "java/lang/String" "coder" "B" (.int 0) := D29 (Or.inr (own_h hw 34 rfl)) (ty := .byte) (by decide)
    have F_value_b29 : Fld Z h29 b29 "java/lang/String" "value" "[B" .null := D29 (Or.inr (own_h hw 36 rfl)) (ty := (.array .byte)) (by decide)
    replace k : ow T29 (mkF m 22 #[ow_i p1, ow_i p2, ow_i (own_cc p1), ow_i (own_cc ((p1.toUInt32 >>> ((8 : Int32) &&& 31).toUInt32).toInt32))] [(.ref b29)]) := fun t q => k t (st29 t q)
    clear st29
    obtain ⟨T30, h30, kc30, X30, e30, E30, A30, st30⟩ := newP X29 hx hZ (own_h hw 10 rfl) e29 (g := (mkF m 24 #[ow_i p1, ow_i p2, ow_i (own_cc p1), ow_i (own_cc ((p1.toUInt32 >>> ((8 : Int32) &&& 31).toUInt32).toInt32))] [(.int 3), (.ref b29), (.ref b29)])) rfl (D 29 rfl) rfl (by decide) (cap := 3) (by decide) (by decide) (by decide) (by decide)
    obtain ⟨b30, g30⟩ : ∃ z, z = h29.size := ⟨_, rfl⟩
    rw [← g30] at A30 st30
    have ge_b30 : n0 ≤ b30 := Nat.le_trans Z29 (Nat.le_of_eq g30.symm)
    have sz_b30 : h0.size ≤ b30 := Nat.le_trans K29.1 (Nat.le_of_eq g30.symm)
    have Z30 : n0 ≤ h30.size := Nat.le_trans Z29 E30.1
    have K30 : Keep h0 h30 [] := K29.ext E30
    have CU30 := CHr.ext E30 CH29
    have CR30 := CR29.trans CU30
    have CH30 := CU30.1
    have hk30 := Nat.le_trans hk29 E30.1
    have V_b30 : Arv Z h30 b30 kc30 .char (3 : Int32) [(.int 0), (.int 0), (.int 0)] (.int 0) := (Arv.new A30 (by decide)).pad (pad_rep [] (.int 0) 3)
    replace k : ow T30 (mkF m 26 #[ow_i p1, ow_i p2, ow_i (own_cc p1), ow_i (own_cc ((p1.toUInt32 >>> ((8 : Int32) &&& 31).toUInt32).toInt32))] [(.ref b30), (.ref b29), (.ref b29)]) := fun t q => k t (XS.dup X29.here hx rfl (D 27 rfl) rfl rfl (XS.iconst X29.here hx rfl (D 28 rfl) (st30 t q)))
    clear st30
    replace k : ow T30 (mkF m 29 #[ow_i p1, ow_i p2, ow_i (own_cc p1), ow_i (own_cc ((p1.toUInt32 >>> ((8 : Int32) &&& 31).toUInt32).toInt32))] [(.int (own_cc p1)), (.int 0), (.ref b30), (.ref b30), (.ref b29), (.ref b29)]) := fun t q => k t (XS.dup X30.here hx rfl (D 30 rfl) rfl rfl (XS.iconst X30.here hx rfl (D 31 rfl) (XS.iloadN X30.here hx rfl (D 32 rfl) rfl q)))
    obtain ⟨cl31, Ar31, qa31, Sa31, Na31, Ha31, Ga31⟩ := id V_b30
    obtain ⟨T31, h31, X31, e31, W31, st31⟩ := stC X30 hx hZ e30 Ar31 (j := (0 : Int32)) (own_inb Sa31 (show (0 : Int32) = Nat.toInt32 0 from by decide) (show 0 < ((3 : Int32)).toNatClampNeg from by decide)) (g := (mkF m 29 #[ow_i p1, ow_i p2, ow_i (own_cc p1), ow_i (own_cc ((p1.toUInt32 >>> ((8 : Int32) &&& 31).toUInt32).toInt32))] [(.int (own_cc p1)), (.int 0), (.ref b30), (.ref b30), (.ref b29), (.ref b29)])) rfl rfl (D 33 rfl)
    have V31 : Arv Z h31 b30 kc30 .char (3 : Int32) [(.int (ow_c (own_cc p1))), (.int 0), (.int 0)] (.int 0) := Arv.set Ar31 qa31 Sa31 Na31 Ha31 Ga31 (fits_nar_char _) W31 0 (own_idx (show (0 : Int32) = Nat.toInt32 0 from by decide) (by omega)) (Nat.le_of_ble_eq_true rfl)
    have K31 : Keep h0 h31 [] := K30.wr W31 (Or.inr sz_b30)
    have N31 := Fr.snoc X31 N22 ge_b30
    have Z31 : n0 ≤ h31.size := Nat.le_trans Z30 (Keep.of_wr W31).1
    have CU31 := CHr.wr W31 (Safe.arv hZ.alike V_b30 (by decide)) CH30
    have CR31 := CR30.trans CU31
    have CH31 := CU31.1
    have hk31 := Nat.le_trans hk30 (Keep.of_wr W31).1
    replace k : ow T31 (mkF m 30 #[ow_i p1, ow_i p2, ow_i (own_cc p1), ow_i (own_cc ((p1.toUInt32 >>> ((8 : Int32) &&& 31).toUInt32).toInt32))] [(.ref b30), (.ref b29), (.ref b29)]) := fun t q => k t (st31 t q)
    clear st31
    replace k : ow T31 (mkF m 34 #[ow_i p1, ow_i p2, ow_i (own_cc p1), ow_i (own_cc ((p1.toUInt32 >>> ((8 : Int32) &&& 31).toUInt32).toInt32))] [(.int 46), (.int 1), (.ref b30), (.ref b30), (.ref b29), (.ref b29)]) := fun t q => k t (XS.dup X31.here hx rfl (D 34 rfl) rfl rfl (XS.iconst X31.here hx rfl (D 35 rfl) (XS.bipush X31.here hx rfl (D 36 rfl) q)))
    obtain ⟨cl32, Ar32, qa32, Sa32, Na32, Ha32, Ga32⟩ := id V31
    obtain ⟨T32, h32, X32, e32, W32, st32⟩ := stC X31 hx hZ e31 Ar32 (j := (1 : Int32)) (own_inb Sa32 (show (1 : Int32) = Nat.toInt32 1 from by decide) (show 1 < ((3 : Int32)).toNatClampNeg from by decide)) (g := (mkF m 34 #[ow_i p1, ow_i p2, ow_i (own_cc p1), ow_i (own_cc ((p1.toUInt32 >>> ((8 : Int32) &&& 31).toUInt32).toInt32))] [(.int 46), (.int 1), (.ref b30), (.ref b30), (.ref b29), (.ref b29)])) rfl rfl (D 37 rfl)
    have V32 : Arv Z h32 b30 kc30 .char (3 : Int32) [(.int (ow_c (own_cc p1))), (.int 46), (.int 0)] (.int 0) := Arv.set Ar32 qa32 Sa32 Na32 Ha32 Ga32 (fits_nar_char _) W32 1 (own_idx (show (1 : Int32) = Nat.toInt32 1 from by decide) (by omega)) (Nat.le_of_ble_eq_true rfl)
    have K32 : Keep h0 h32 [] := K31.wr W32 (Or.inr sz_b30)
    have N32 := Fr.snoc X32 N31 ge_b30
    have Z32 : n0 ≤ h32.size := Nat.le_trans Z31 (Keep.of_wr W32).1
    have CU32 := CHr.wr W32 (Safe.arv hZ.alike V31 (by decide)) CH31
    have CR32 := CR31.trans CU32
    have CH32 := CU32.1
    have hk32 := Nat.le_trans hk31 (Keep.of_wr W32).1
    replace k : ow T32 (mkF m 35 #[ow_i p1, ow_i p2, ow_i (own_cc p1), ow_i (own_cc ((p1.toUInt32 >>> ((8 : Int32) &&& 31).toUInt32).toInt32))] [(.ref b30), (.ref b29), (.ref b29)]) := fun t q => k t (st32 t q)
    clear st32
    replace k : ow T32 (mkF m 38 #[ow_i p1, ow_i p2, ow_i (own_cc p1), ow_i (own_cc ((p1.toUInt32 >>> ((8 : Int32) &&& 31).toUInt32).toInt32))] [(.int (own_cc ((p1.toUInt32 >>> ((8 : Int32) &&& 31).toUInt32).toInt32))), (.int 2), (.ref b30), (.ref b30), (.ref b29), (.ref b29)]) := fun t q => k t (XS.dup X32.here hx rfl (D 38 rfl) rfl rfl (XS.iconst X32.here hx rfl (D 39 rfl) (XS.iloadN X32.here hx rfl (D 40 rfl) rfl q)))
    obtain ⟨cl33, Ar33, qa33, Sa33, Na33, Ha33, Ga33⟩ := id V32
    obtain ⟨T33, h33, X33, e33, W33, st33⟩ := stC X32 hx hZ e32 Ar33 (j := (2 : Int32)) (own_inb Sa33 (show (2 : Int32) = Nat.toInt32 2 from by decide) (show 2 < ((3 : Int32)).toNatClampNeg from by decide)) (g := (mkF m 38 #[ow_i p1, ow_i p2, ow_i (own_cc p1), ow_i (own_cc ((p1.toUInt32 >>> ((8 : Int32) &&& 31).toUInt32).toInt32))] [(.int (own_cc ((p1.toUInt32 >>> ((8 : Int32) &&& 31).toUInt32).toInt32))), (.int 2), (.ref b30), (.ref b30), (.ref b29), (.ref b29)])) rfl rfl (D 41 rfl)
    have V33 : Arv Z h33 b30 kc30 .char (3 : Int32) [(.int (ow_c (own_cc p1))), (.int 46), (.int (ow_c (own_cc ((p1.toUInt32 >>> ((8 : Int32) &&& 31).toUInt32).toInt32))))] (.int 0) := Arv.set Ar33 qa33 Sa33 Na33 Ha33 Ga33 (fits_nar_char _) W33 2 (own_idx (show (2 : Int32) = Nat.toInt32 2 from by decide) (by omega)) (Nat.le_of_ble_eq_true rfl)
    have K33 : Keep h0 h33 [] := K32.wr W33 (Or.inr sz_b30)
    have N33 := Fr.snoc X33 N32 ge_b30
    have Z33 : n0 ≤ h33.size := Nat.le_trans Z32 (Keep.of_wr W33).1
    have CU33 := CHr.wr W33 (Safe.arv hZ.alike V32 (by decide)) CH32
    have CR33 := CR32.trans CU33
    have CH33 := CU33.1
    have hk33 := Nat.le_trans hk32 (Keep.of_wr W33).1
    replace k : ow T33 (mkF m 39 #[ow_i p1, ow_i p2, ow_i (own_cc p1), ow_i (own_cc ((p1.toUInt32 >>> ((8 : Int32) &&& 31).toUInt32).toInt32))] [(.ref b30), (.ref b29), (.ref b29)]) := fun t q => k t (st33 t q)
    clear st33
    have hp34 : ∀ c ∈ ([(ow_c (own_cc p1)), 46, (ow_c (own_cc ((p1.toUInt32 >>> ((8 : Int32) &&& 31).toUInt32).toInt32)))] : List Int32), ¬ c < 0 ∧ ¬ (255 : Int32) < c := (List.forall_mem_cons.mpr ⟨(own_occ _).1, (List.forall_mem_cons.mpr ⟨(by decide), (List.forall_mem_cons.mpr ⟨(own_occ _).1, (fun c hc => nomatch hc)⟩)⟩)⟩)
    obtain ⟨_, _, ⟨T34, L34, k34, n34⟩, -, X34, ⟨Lc34, hQ34, l34, y34, z34⟩, st34⟩ := X33.specialBack hx (y := own_y3) rfl hown (mvT hZ (own_h hw 11 rfl)) (mvT hZ (own_h hw 12 rfl)) (mvT hZ (own_h hw 13 rfl)) (by decide) (StrChars.Road.backV (W := 1) hZ (own_wNew hw) (kI := 4) (own_h hw 8 rfl) (cs := ([(ow_c (own_cc p1)), 46, (ow_c (own_cc ((p1.toUInt32 >>> ((8 : Int32) &&& 31).toUInt32).toInt32)))] : List Int32)) (bs := ([(ow_c (own_cc p1)), 46, (ow_c (own_cc ((p1.toUInt32 >>> ((8 : Int32) &&& 31).toUInt32).toInt32)))] : List Int32).map (fun c => c.toInt8.toInt32)) (n := 3) ge_b29 Z33 ((((A29.ext E30).wr W31).wr W32).wr W33) ((((F_value_b29.ext E30).other W31 (Or.inl (Nat.ne_of_lt (Nat.lt_of_lt_of_le A29.lt (Nat.le_of_eq g30.symm))))).other W32 (Or.inl (Nat.ne_of_lt (Nat.lt_of_lt_of_le A29.lt (Nat.le_of_eq g30.symm))))).other W33 (Or.inl (Nat.ne_of_lt (Nat.lt_of_lt_of_le A29.lt (Nat.le_of_eq g30.symm))))) ((((F_coder_b29.ext E30).other W31 (Or.inl (Nat.ne_of_lt (Nat.lt_of_lt_of_le A29.lt (Nat.le_of_eq g30.symm))))).other W32 (Or.inl (Nat.ne_of_lt (Nat.lt_of_lt_of_le A29.lt (Nat.le_of_eq g30.symm))))).other W33 (Or.inl (Nat.ne_of_lt (Nat.lt_of_lt_of_le A29.lt (Nat.le_of_eq g30.symm))))) V33 (((((S_COMPACT_STRINGS.ext E29).ext E30).wr W31).wr W32).wr W33) hz rfl rfl (by decide) (by decide) hp34 rfl (by decide) (by decide)) (g := (mkF m 39 #[ow_i p1, ow_i p2, ow_i (own_cc p1), ow_i (own_cc ((p1.toUInt32 >>> ((8 : Int32) &&& 31).toUInt32).toInt32))] [(.ref b30), (.ref b29), (.ref b29)])) rfl (by rw [hml]; rfl) (Steps.refl _) (a := b29) (argsL := [(.ref b30)]) (rest := [(.ref b29)]) (lenOf own_pd17 rfl) rfl own_le (D 42 rfl) (fun _ _ => ⟨rfl, e33, (by decide : 2 + 1 ≤ _), (by decide : 7 + 3 ≤ _)⟩)
    dsimp only [Pt.U, Pt.locs, Pt.cells, Pt.slots] at X34 l34 y34 z34 st34 hQ34
    subst l34 y34 z34
    obtain ⟨h34, e34⟩ : ∃ z, T34.heap = z := ⟨_, rfl⟩
    rw [e34] at hQ34
    obtain ⟨rfl, N34q, KC34, EC34, FC34, tt34, kt34, -, -, -, FV34, AV34⟩ := hQ34
    have KK34 : Keep h0 h34 [] := K33.trans KC34 (allS (Or.inr sz_b29) all0)
    have Z34 : n0 ≤ h34.size := Nat.le_trans Z33 KC34.1
    have CU34 := CHr.keep KC34 (sfS (own_safe_null hZ.alike ((((A29.ext E30).wr W31).wr W32).wr W33) ((((F_value_b29.ext E30).other W31 (Or.inl (Nat.ne_of_lt (Nat.lt_of_lt_of_le A29.lt (Nat.le_of_eq g30.symm))))).other W32 (Or.inl (Nat.ne_of_lt (Nat.lt_of_lt_of_le A29.lt (Nat.le_of_eq g30.symm))))).other W33 (Or.inl (Nat.ne_of_lt (Nat.lt_of_lt_of_le A29.lt (Nat.le_of_eq g30.symm)))))) sf0) CH33
    have CR34 := CR33.trans CU34
    have CH34 := CU34.1
    have hk34 := Nat.le_trans hk33 KC34.1
    have TX34 : own_Str Z h34 b29 ([(ow_c (own_cc p1)), 46, (ow_c (own_cc ((p1.toUInt32 >>> ((8 : Int32) &&& 31).toUInt32).toInt32)))] : List Int32) := own_mkStr EC34 FV34 FC34 AV34 rfl hp34 (by decide)
    have N34 := Fr.app N33 N34q
    replace k : ow T34 (mkF m 42 #[ow_i p1, ow_i p2, ow_i (own_cc p1), ow_i (own_cc ((p1.toUInt32 >>> ((8 : Int32) &&& 31).toUInt32).toInt32))] [(.ref b29)]) := fun t q => k t (st34.trans q)
    clear st34
    exact own_endS (v := some (.ref b29)) X34 e34 hS0 hk34 hh Bd.notSynchronized (own_vn Bd.returns) k (fun _ hr => own_retA X34 hx Bd.returns rfl (D 43 rfl) hr) ⟨b29, rfl, N34, KK34, by rw [show own_tC p1 p2 = ([(ow_c (own_cc p1)), 46, (ow_c (own_cc ((p1.toUInt32 >>> ((8 : Int32) &&& 31).toUInt32).toInt32)))] : List Int32) from by unfold own_tC; rw [if_neg hc23]]; exact TX34⟩ (CR34.trans (CHv.at X34 hZ (own_EW hw) CH34)) (by decide) (by decide)
theorem own_d9 : own_all method_5_code [(0, .iload_n 1, 1), (1, .iconst 3, 1), (2, .iand, 1), (3, .istore_n 2, 1), (4, .iload_n 2, 1), (5, .ifCond .ne 45, 3), (8, .new 13, 3), (11, .dup, 1), (12, .bipush 6, 2), (14, .newarray .char, 2), (16, .dup, 1), (17, .iconst 0, 1), (18, .bipush 60, 2), (20, .castore, 1), (21, .dup, 1), (22, .iconst 1, 1), (23, .bipush 105, 2), (25, .castore, 1), (26, .dup, 1), (27, .iconst 2, 1), (28, .bipush 110, 2), (30, .castore, 1), (31, .dup, 1), (32, .iconst 3, 1), (33, .bipush 105, 2), (35, .castore, 1), (36, .dup, 1), (37, .iconst 4, 1), (38, .bipush 116, 2), (40, .castore, 1), (41, .dup, 1), (42, .iconst 5, 1), (43, .bipush 62, 2), (45, .castore, 1), (46, .invokespecial 15, 3), (49, .areturn, 1), (50, .iload_n 2, 1), (51, .iconst 1, 1), (52, .if_icmp .ne 57, 3), (55, .new 13, 3), (58, .dup, 1), (59, .bipush 8, 2), (61, .newarray .char, 2), (63, .dup, 1), (64, .iconst 0, 1), (65, .bipush 60, 2), (67, .castore, 1), (68, .dup, 1), (69, .iconst 1, 1), (70, .bipush 99, 2), (72, .castore, 1), (73, .dup, 1), (74, .iconst 2, 1), (75, .bipush 108, 2), (77, .castore, 1), (78, .dup, 1), (79, .iconst 3, 1), (80, .bipush 105, 2), (82, .castore, 1), (83, .dup, 1), (84, .iconst 4, 1), (85, .bipush 110, 2), (87, .castore, 1), (88, .dup, 1), (89, .iconst 5, 1), (90, .bipush 105, 2), (92, .castore, 1), (93, .dup, 1), (94, .bipush 6, 2), (96, .bipush 116, 2), (98, .castore, 1), (99, .dup, 1), (100, .bipush 7, 2), (102, .bipush 62, 2), (104, .castore, 1), (105, .invokespecial 15, 3), (108, .areturn, 1), (109, .new 13, 3), (112, .dup, 1), (113, .iconst 2, 1), (114, .newarray .char, 2), (116, .dup, 1), (117, .iconst 0, 1), (118, .iload_n 0, 1), (119, .invokestatic 18, 3), (122, .castore, 1), (123, .dup, 1), (124, .iconst 1, 1), (125, .iload_n 0, 1), (126, .bipush 8, 2), (128, .iushr, 1), (129, .invokestatic 18, 3), (132, .castore, 1), (133, .invokespecial 15, 3), (136, .areturn, 1)] := by decide +kernel
/-- the chars of this string -/
def own_tN (p1 p2 : Int32) : List Int32 := (if (p2 &&& (3 : Int32)) = (0 : Int32) then ([60, 105, 110, 105, 116, 62] : List Int32) else (if (p2 &&& (3 : Int32)) = (1 : Int32) then ([60, 99, 108, 105, 110, 105, 116, 62] : List Int32) else ([(ow_c (own_mc p1)), (ow_c (own_mc ((p1.toUInt32 >>> ((8 : Int32) &&& 31).toUInt32).toInt32)))] : List Int32)))
theorem own_ef9 (m : MethodId) (x0 : Int32) (x1 : Int32) : entryFrame m #[(.int x0), (.int x1)] 3 = mkF m 0 #[ow_i x0, ow_i x1, .unset] [] := by first | (simp [entryFrame, mkF, argsToLocals, Value.category]; done) | rfl
theorem own_pn9 : plainName "com/example/callsite/callsite/model/MethodIdEqualsPinLaw" = true := by first | (simp [plainName, overriddenIn]; done) | decide +kernel
def own_m9_Q (Z : State) (p1 : Int32) (p2 : Int32) (w_COMPACT_STRINGS : Int32) (h0 : Heap) (n0 : Nat) (v : Option Value) (h : Heap) (L : List Loc) : Prop := ∃ a : Addr, v = some (.ref a) ∧ Fr n0 L ∧ Keep h0 h [] ∧ own_Str Z h a (own_tN p1 p2)
set_option maxRecDepth 65536 in
set_option maxHeartbeats 40000000 in
theorem own_m9 (l : Launch) (Z : State) (a0 : Array Value) (hw : ∀ d ∈ tables_1, d.before a0 Z = true) (ws : List Jvm.Cond) (p1 : Int32) (p2 : Int32) (w_COMPACT_STRINGS : Int32) (h0 : Heap) (n0 : Nat) (Z0 : n0 ≤ h0.size) (S_COMPACT_STRINGS : Sta Z h0 "java/lang/String" "COMPACT_STRINGS" "Z" (.int w_COMPACT_STRINGS)) (hz : ¬ (w_COMPACT_STRINGS = (0 : Int32))) :
    own_MS l Z own_y9 ws method_5_code 3 (some (.object "java/lang/String")) ({ frames := 4, cells := 3, slots := 20, locals := 66 } : Room) #[(.int p1), (.int p2)] h0 (CHr Z consts_1) (own_m9_Q Z p1 p2 w_COMPACT_STRINGS h0 n0) := by
  refine own_goS CHr.refl "com/example/callsite/callsite/model/MethodIdEqualsPinLaw" rfl (plainFor_of_name own_pn9) (fun m => own_ef9 m p1 p2) own_d9 n0 fun p e s m below meth c s₁ A0 Bd hx D hml hown hnm X0 hZ e0 N0 hh CH0 hS0 hk0 CR0 k => ?_
  replace k : ow s₁ (mkF m 2 #[ow_i p1, ow_i p2, .unset] [(.int 3), (.int p2)]) := fun t q => k t (XS.iloadN X0.here hx rfl (D 0 rfl) rfl (XS.iconst X0.here hx rfl (D 1 rfl) q))
  replace k : ow s₁ (mkF m 3 #[ow_i p1, ow_i p2, .unset] [(.int (p2 &&& (3 : Int32)))]) := fun t q => k t (XS.iand X0.here hx rfl (D 2 rfl) rfl q)
  by_cases hc21 : (p2 &&& (3 : Int32)) = (0 : Int32)
  · replace k : ow s₁ (mkF m 8 #[ow_i p1, ow_i p2, ow_i (p2 &&& (3 : Int32))] []) := fun t q => k t (XS.istoreN X0.here hx rfl (D 3 rfl) rfl (l' := #[ow_i p1, ow_i p2, ow_i (p2 &&& (3 : Int32))]) rfl (XS.iloadN X0.here hx rfl (D 4 rfl) rfl (XS.ifNo X0.here hx rfl (D 5 rfl) rfl ((if0 _ _).trans (teq (show (p2 &&& (3 : Int32)) = (0 : Int32) from hc21)).2) q)))
    obtain ⟨T22, h22, X22, e22, E22, A22, D22, -, st22⟩ := newO X0 hx hZ hown (own_h hw 7 rfl) (own_h hw 8 rfl) (own_h hw 9 rfl) e0 (g := (mkF m 8 #[ow_i p1, ow_i p2, ow_i (p2 &&& (3 : Int32))] [])) rfl (D 6 rfl) (by decide) (by decide)
    obtain ⟨b22, g22⟩ : ∃ z, z = h0.size := ⟨_, rfl⟩
    rw [← g22] at A22 D22 st22
    have ge_b22 : n0 ≤ b22 := Nat.le_trans Z0 (Nat.le_of_eq g22.symm)
    have sz_b22 : h0.size ≤ b22 := Nat.le_trans (Keep.refl h0 []).1 (Nat.le_of_eq g22.symm)
    have Z22 : n0 ≤ h22.size := Nat.le_trans Z0 E22.1
    have K22 : Keep h0 h22 [] := (Keep.refl h0 []).ext E22
    have CU22 := CHr.ext E22 CH0
    have CR22 := CR0.trans CU22
    have CH22 := CU22.1
    have hk22 := Nat.le_trans hk0 E22.1
    have F_coder_b22 : Fld Z h22 b22 "java/lang/String" "coder" "B" (.int 0) := D22 (Or.inr (own_h hw 34 rfl)) (ty := .byte) (by decide)
    have F_value_b22 : Fld Z h22 b22 "java/lang/String" "value" "[B" .null := D22 (Or.inr (own_h hw 36 rfl)) (ty := (.array .byte)) (by decide)
    replace k : ow T22 (mkF m 11 #[ow_i p1, ow_i p2, ow_i (p2 &&& (3 : Int32))] [(.ref b22)]) := fun t q => k t (st22 t q)
    clear st22
    obtain ⟨T23, h23, kc23, X23, e23, E23, A23, st23⟩ := newP X22 hx hZ (own_h hw 10 rfl) e22 (g := (mkF m 14 #[ow_i p1, ow_i p2, ow_i (p2 &&& (3 : Int32))] [(.int 6), (.ref b22), (.ref b22)])) rfl (D 9 rfl) rfl (by decide) (cap := 6) (by decide) (by decide) (by decide) (by decide)
    obtain ⟨b23, g23⟩ : ∃ z, z = h22.size := ⟨_, rfl⟩
    rw [← g23] at A23 st23
    have ge_b23 : n0 ≤ b23 := Nat.le_trans Z22 (Nat.le_of_eq g23.symm)
    have sz_b23 : h0.size ≤ b23 := Nat.le_trans K22.1 (Nat.le_of_eq g23.symm)
    have Z23 : n0 ≤ h23.size := Nat.le_trans Z22 E23.1
    have K23 : Keep h0 h23 [] := K22.ext E23
    have CU23 := CHr.ext E23 CH22
    have CR23 := CR22.trans CU23
    have CH23 := CU23.1
    have hk23 := Nat.le_trans hk22 E23.1
    have V_b23 : Arv Z h23 b23 kc23 .char (6 : Int32) [(.int 0), (.int 0), (.int 0), (.int 0), (.int 0), (.int 0)] (.int 0) := (Arv.new A23 (by decide)).pad (pad_rep [] (.int 0) 6)
    replace k : ow T23 (mkF m 16 #[ow_i p1, ow_i p2, ow_i (p2 &&& (3 : Int32))] [(.ref b23), (.ref b22), (.ref b22)]) := fun t q => k t (XS.dup X22.here hx rfl (D 7 rfl) rfl rfl (XS.bipush X22.here hx rfl (D 8 rfl) (st23 t q)))
    clear st23
    replace k : ow T23 (mkF m 20 #[ow_i p1, ow_i p2, ow_i (p2 &&& (3 : Int32))] [(.int 60), (.int 0), (.ref b23), (.ref b23), (.ref b22), (.ref b22)]) := fun t q => k t (XS.dup X23.here hx rfl (D 10 rfl) rfl rfl (XS.iconst X23.here hx rfl (D 11 rfl) (XS.bipush X23.here hx rfl (D 12 rfl) q)))
    obtain ⟨cl24, Ar24, qa24, Sa24, Na24, Ha24, Ga24⟩ := id V_b23
    obtain ⟨T24, h24, X24, e24, W24, st24⟩ := stC X23 hx hZ e23 Ar24 (j := (0 : Int32)) (own_inb Sa24 (show (0 : Int32) = Nat.toInt32 0 from by decide) (show 0 < ((6 : Int32)).toNatClampNeg from by decide)) (g := (mkF m 20 #[ow_i p1, ow_i p2, ow_i (p2 &&& (3 : Int32))] [(.int 60), (.int 0), (.ref b23), (.ref b23), (.ref b22), (.ref b22)])) rfl rfl (D 13 rfl)
    have V24 : Arv Z h24 b23 kc23 .char (6 : Int32) [(.int 60), (.int 0), (.int 0), (.int 0), (.int 0), (.int 0)] (.int 0) := Arv.set Ar24 qa24 Sa24 Na24 Ha24 Ga24 (fits_nar_char _) W24 0 (own_idx (show (0 : Int32) = Nat.toInt32 0 from by decide) (by omega)) (Nat.le_of_ble_eq_true rfl)
    have K24 : Keep h0 h24 [] := K23.wr W24 (Or.inr sz_b23)
    have N24 := Fr.snoc X24 N0 ge_b23
    have Z24 : n0 ≤ h24.size := Nat.le_trans Z23 (Keep.of_wr W24).1
    have CU24 := CHr.wr W24 (Safe.arv hZ.alike V_b23 (by decide)) CH23
    have CR24 := CR23.trans CU24
    have CH24 := CU24.1
    have hk24 := Nat.le_trans hk23 (Keep.of_wr W24).1
    replace k : ow T24 (mkF m 21 #[ow_i p1, ow_i p2, ow_i (p2 &&& (3 : Int32))] [(.ref b23), (.ref b22), (.ref b22)]) := fun t q => k t (st24 t q)
    clear st24
    replace k : ow T24 (mkF m 25 #[ow_i p1, ow_i p2, ow_i (p2 &&& (3 : Int32))] [(.int 105), (.int 1), (.ref b23), (.ref b23), (.ref b22), (.ref b22)]) := fun t q => k t (XS.dup X24.here hx rfl (D 14 rfl) rfl rfl (XS.iconst X24.here hx rfl (D 15 rfl) (XS.bipush X24.here hx rfl (D 16 rfl) q)))
    obtain ⟨cl25, Ar25, qa25, Sa25, Na25, Ha25, Ga25⟩ := id V24
    obtain ⟨T25, h25, X25, e25, W25, st25⟩ := stC X24 hx hZ e24 Ar25 (j := (1 : Int32)) (own_inb Sa25 (show (1 : Int32) = Nat.toInt32 1 from by decide) (show 1 < ((6 : Int32)).toNatClampNeg from by decide)) (g := (mkF m 25 #[ow_i p1, ow_i p2, ow_i (p2 &&& (3 : Int32))] [(.int 105), (.int 1), (.ref b23), (.ref b23), (.ref b22), (.ref b22)])) rfl rfl (D 17 rfl)
    have V25 : Arv Z h25 b23 kc23 .char (6 : Int32) [(.int 60), (.int 105), (.int 0), (.int 0), (.int 0), (.int 0)] (.int 0) := Arv.set Ar25 qa25 Sa25 Na25 Ha25 Ga25 (fits_nar_char _) W25 1 (own_idx (show (1 : Int32) = Nat.toInt32 1 from by decide) (by omega)) (Nat.le_of_ble_eq_true rfl)
    have K25 : Keep h0 h25 [] := K24.wr W25 (Or.inr sz_b23)
    have N25 := Fr.snoc X25 N24 ge_b23
    have Z25 : n0 ≤ h25.size := Nat.le_trans Z24 (Keep.of_wr W25).1
    have CU25 := CHr.wr W25 (Safe.arv hZ.alike V24 (by decide)) CH24
    have CR25 := CR24.trans CU25
    have CH25 := CU25.1
    have hk25 := Nat.le_trans hk24 (Keep.of_wr W25).1
    replace k : ow T25 (mkF m 26 #[ow_i p1, ow_i p2, ow_i (p2 &&& (3 : Int32))] [(.ref b23), (.ref b22), (.ref b22)]) := fun t q => k t (st25 t q)
    clear st25
    replace k : ow T25 (mkF m 30 #[ow_i p1, ow_i p2, ow_i (p2 &&& (3 : Int32))] [(.int 110), (.int 2), (.ref b23), (.ref b23), (.ref b22), (.ref b22)]) := fun t q => k t (XS.dup X25.here hx rfl (D 18 rfl) rfl rfl (XS.iconst X25.here hx rfl (D 19 rfl) (XS.bipush X25.here hx rfl (D 20 rfl) q)))
    obtain ⟨cl26, Ar26, qa26, Sa26, Na26, Ha26, Ga26⟩ := id V25
    obtain ⟨T26, h26, X26, e26, W26, st26⟩ := stC X25 hx hZ e25 Ar26 (j := (2 : Int32)) (own_inb Sa26 (show (2 : Int32) = Nat.toInt32 2 from by decide) (show 2 < ((6 : Int32)).toNatClampNeg from by decide)) (g := (mkF m 30 #[ow_i p1, ow_i p2, ow_i (p2 &&& (3 : Int32))] [(.int 110), (.int 2), (.ref b23), (.ref b23), (.ref b22), (.ref b22)])) rfl rfl (D 21 rfl)
    have V26 : Arv Z h26 b23 kc23 .char (6 : Int32) [(.int 60), (.int 105), (.int 110), (.int 0), (.int 0), (.int 0)] (.int 0) := Arv.set Ar26 qa26 Sa26 Na26 Ha26 Ga26 (fits_nar_char _) W26 2 (own_idx (show (2 : Int32) = Nat.toInt32 2 from by decide) (by omega)) (Nat.le_of_ble_eq_true rfl)
    have K26 : Keep h0 h26 [] := K25.wr W26 (Or.inr sz_b23)
    have N26 := Fr.snoc X26 N25 ge_b23
    have Z26 : n0 ≤ h26.size := Nat.le_trans Z25 (Keep.of_wr W26).1
    have CU26 := CHr.wr W26 (Safe.arv hZ.alike V25 (by decide)) CH25
    have CR26 := CR25.trans CU26
    have CH26 := CU26.1
    have hk26 := Nat.le_trans hk25 (Keep.of_wr W26).1
    replace k : ow T26 (mkF m 31 #[ow_i p1, ow_i p2, ow_i (p2 &&& (3 : Int32))] [(.ref b23), (.ref b22), (.ref b22)]) := fun t q => k t (st26 t q)
    clear st26
    replace k : ow T26 (mkF m 35 #[ow_i p1, ow_i p2, ow_i (p2 &&& (3 : Int32))] [(.int 105), (.int 3), (.ref b23), (.ref b23), (.ref b22), (.ref b22)]) := fun t q => k t (XS.dup X26.here hx rfl (D 22 rfl) rfl rfl (XS.iconst X26.here hx rfl (D 23 rfl) (XS.bipush X26.here hx rfl (D 24 rfl) q)))
    obtain ⟨cl27, Ar27, qa27, Sa27, Na27, Ha27, Ga27⟩ := id V26
    obtain ⟨T27, h27, X27, e27, W27, st27⟩ := stC X26 hx hZ e26 Ar27 (j := (3 : Int32)) (own_inb Sa27 (show (3 : Int32) = Nat.toInt32 3 from by decide) (show 3 < ((6 : Int32)).toNatClampNeg from by decide)) (g := (mkF m 35 #[ow_i p1, ow_i p2, ow_i (p2 &&& (3 : Int32))] [(.int 105), (.int 3), (.ref b23), (.ref b23), (.ref b22), (.ref b22)])) rfl rfl (D 25 rfl)
    have V27 : Arv Z h27 b23 kc23 .char (6 : Int32) [(.int 60), (.int 105), (.int 110), (.int 105), (.int 0), (.int 0)] (.int 0) := Arv.set Ar27 qa27 Sa27 Na27 Ha27 Ga27 (fits_nar_char _) W27 3 (own_idx (show (3 : Int32) = Nat.toInt32 3 from by decide) (by omega)) (Nat.le_of_ble_eq_true rfl)
    have K27 : Keep h0 h27 [] := K26.wr W27 (Or.inr sz_b23)
    have N27 := Fr.snoc X27 N26 ge_b23
    have Z27 : n0 ≤ h27.size := Nat.le_trans Z26 (Keep.of_wr W27).1
    have CU27 := CHr.wr W27 (Safe.arv hZ.alike V26 (by decide)) CH26
    have CR27 := CR26.trans CU27
    have CH27 := CU27.1
    have hk27 := Nat.le_trans hk26 (Keep.of_wr W27).1
    replace k : ow T27 (mkF m 36 #[ow_i p1, ow_i p2, ow_i (p2 &&& (3 : Int32))] [(.ref b23), (.ref b22), (.ref b22)]) := fun t q => k t (st27 t q)
    clear st27
    replace k : ow T27 (mkF m 40 #[ow_i p1, ow_i p2, ow_i (p2 &&& (3 : Int32))] [(.int 116), (.int 4), (.ref b23), (.ref b23), (.ref b22), (.ref b22)]) := fun t q => k t (XS.dup X27.here hx rfl (D 26 rfl) rfl rfl (XS.iconst X27.here hx rfl (D 27 rfl) (XS.bipush X27.here hx rfl (D 28 rfl) q)))
    obtain ⟨cl28, Ar28, qa28, Sa28, Na28, Ha28, Ga28⟩ := id V27
    obtain ⟨T28, h28, X28, e28, W28, st28⟩ := stC X27 hx hZ e27 Ar28 (j := (4 : Int32)) (own_inb Sa28 (show (4 : Int32) = Nat.toInt32 4 from by decide) (show 4 < ((6 : Int32)).toNatClampNeg from by decide)) (g := (mkF m 40 #[ow_i p1, ow_i p2, ow_i (p2 &&& (3 : Int32))] [(.int 116), (.int 4), (.ref b23), (.ref b23), (.ref b22), (.ref b22)])) rfl rfl (D 29 rfl)
    have V28 : Arv Z h28 b23 kc23 .char (6 : Int32) [(.int 60), (.int 105), (.int 110), (.int 105), (.int 116), (.int 0)] (.int 0) := Arv.set Ar28 qa28 Sa28 Na28 Ha28 Ga28 (fits_nar_char _) W28 4 (own_idx (show (4 : Int32) = Nat.toInt32 4 from by decide) (by omega)) (Nat.le_of_ble_eq_true rfl)
    have K28 : Keep h0 h28 [] := K27.wr W28 (Or.inr sz_b23)
    have N28 := Fr.snoc X28 N27 ge_b23
    have Z28 : n0 ≤ h28.size := Nat.le_trans Z27 (Keep.of_wr W28).1
    have CU28 := CHr.wr W28 (Safe.arv hZ.alike V27 (by decide)) CH27
    have CR28 := CR27.trans CU28
    have CH28 := CU28.1
    have hk28 := Nat.le_trans hk27 (Keep.of_wr W28).1
    replace k : ow T28 (mkF m 41 #[ow_i p1, ow_i p2, ow_i (p2 &&& (3 : Int32))] [(.ref b23), (.ref b22), (.ref b22)]) := fun t q => k t (st28 t q)
    clear st28
    replace k : ow T28 (mkF m 45 #[ow_i p1, ow_i p2, ow_i (p2 &&& (3 : Int32))] [(.int 62), (.int 5), (.ref b23), (.ref b23), (.ref b22), (.ref b22)]) := fun t q => k t (XS.dup X28.here hx rfl (D 30 rfl) rfl rfl (XS.iconst X28.here hx rfl (D 31 rfl) (XS.bipush X28.here hx rfl (D 32 rfl) q)))
    obtain ⟨cl29, Ar29, qa29, Sa29, Na29, Ha29, Ga29⟩ := id V28
    obtain ⟨T29, h29, X29, e29, W29, st29⟩ := stC X28 hx hZ e28 Ar29 (j := (5 : Int32)) (own_inb Sa29 (show (5 : Int32) = Nat.toInt32 5 from by decide) (show 5 < ((6 : Int32)).toNatClampNeg from by decide)) (g := (mkF m 45 #[ow_i p1, ow_i p2, ow_i (p2 &&& (3 : Int32))] [(.int 62), (.int 5), (.ref b23), (.ref b23), (.ref b22), (.ref b22)])) rfl rfl (D 33 rfl)
    have V29 : Arv Z h29 b23 kc23 .char (6 : Int32) [(.int 60), (.int 105), (.int 110), (.int 105), (.int 116), (.int 62)] (.int 0) := Arv.set Ar29 qa29 Sa29 Na29 Ha29 Ga29 (fits_nar_char _) W29 5 (own_idx (show (5 : Int32) = Nat.toInt32 5 from by decide) (by omega)) (Nat.le_of_ble_eq_true rfl)
    have K29 : Keep h0 h29 [] := K28.wr W29 (Or.inr sz_b23)
    have N29 := Fr.snoc X29 N28 ge_b23
    have Z29 : n0 ≤ h29.size := Nat.le_trans Z28 (Keep.of_wr W29).1
    have CU29 := CHr.wr W29 (Safe.arv hZ.alike V28 (by decide)) CH28
    have CR29 := CR28.trans CU29
    have CH29 := CU29.1
    have hk29 := Nat.le_trans hk28 (Keep.of_wr W29).1
    replace k : ow T29 (mkF m 46 #[ow_i p1, ow_i p2, ow_i (p2 &&& (3 : Int32))] [(.ref b23), (.ref b22), (.ref b22)]) := fun t q => k t (st29 t q)
    clear st29
    have hp30 : ∀ c ∈ ([60, 105, 110, 105, 116, 62] : List Int32), ¬ c < 0 ∧ ¬ (255 : Int32) < c := (List.forall_mem_cons.mpr ⟨(by decide), (List.forall_mem_cons.mpr ⟨(by decide), (List.forall_mem_cons.mpr ⟨(by decide), (List.forall_mem_cons.mpr ⟨(by decide), (List.forall_mem_cons.mpr ⟨(by decide), (List.forall_mem_cons.mpr ⟨(by decide), (fun c hc => nomatch hc)⟩)⟩)⟩)⟩)⟩)⟩)
    obtain ⟨_, _, ⟨T30, L30, k30, n30⟩, -, X30, ⟨Lc30, hQ30, l30, y30, z30⟩, st30⟩ := X29.specialBack hx (y := own_y3) rfl hown (mvT hZ (own_h hw 11 rfl)) (mvT hZ (own_h hw 12 rfl)) (mvT hZ (own_h hw 13 rfl)) (by decide) (StrChars.Road.backV (W := 1) hZ (own_wNew hw) (kI := 4) (own_h hw 8 rfl) (cs := ([60, 105, 110, 105, 116, 62] : List Int32)) (bs := ([60, 105, 110, 105, 116, 62] : List Int32).map (fun c => c.toInt8.toInt32)) (n := 6) ge_b22 Z29 (((((((A22.ext E23).wr W24).wr W25).wr W26).wr W27).wr W28).wr W29) (((((((F_value_b22.ext E23).other W24 (Or.inl (Nat.ne_of_lt (Nat.lt_of_lt_of_le A22.lt (Nat.le_of_eq g23.symm))))).other W25 (Or.inl (Nat.ne_of_lt (Nat.lt_of_lt_of_le A22.lt (Nat.le_of_eq g23.symm))))).other W26 (Or.inl (Nat.ne_of_lt (Nat.lt_of_lt_of_le A22.lt (Nat.le_of_eq g23.symm))))).other W27 (Or.inl (Nat.ne_of_lt (Nat.lt_of_lt_of_le A22.lt (Nat.le_of_eq g23.symm))))).other W28 (Or.inl (Nat.ne_of_lt (Nat.lt_of_lt_of_le A22.lt (Nat.le_of_eq g23.symm))))).other W29 (Or.inl (Nat.ne_of_lt (Nat.lt_of_lt_of_le A22.lt (Nat.le_of_eq g23.symm))))) (((((((F_coder_b22.ext E23).other W24 (Or.inl (Nat.ne_of_lt (Nat.lt_of_lt_of_le A22.lt (Nat.le_of_eq g23.symm))))).other W25 (Or.inl (Nat.ne_of_lt (Nat.lt_of_lt_of_le A22.lt (Nat.le_of_eq g23.symm))))).other W26 (Or.inl (Nat.ne_of_lt (Nat.lt_of_lt_of_le A22.lt (Nat.le_of_eq g23.symm))))).other W27 (Or.inl (Nat.ne_of_lt (Nat.lt_of_lt_of_le A22.lt (Nat.le_of_eq g23.symm))))).other W28 (Or.inl (Nat.ne_of_lt (Nat.lt_of_lt_of_le A22.lt (Nat.le_of_eq g23.symm))))).other W29 (Or.inl (Nat.ne_of_lt (Nat.lt_of_lt_of_le A22.lt (Nat.le_of_eq g23.symm))))) V29 ((((((((S_COMPACT_STRINGS.ext E22).ext E23).wr W24).wr W25).wr W26).wr W27).wr W28).wr W29) hz rfl rfl (by decide) (by decide) hp30 rfl (by decide) (by decide)) (g := (mkF m 46 #[ow_i p1, ow_i p2, ow_i (p2 &&& (3 : Int32))] [(.ref b23), (.ref b22), (.ref b22)])) rfl (by rw [hml]; rfl) (Steps.refl _) (a := b22) (argsL := [(.ref b23)]) (rest := [(.ref b22)]) (lenOf own_pd17 rfl) rfl own_le (D 34 rfl) (fun _ _ => ⟨rfl, e29, (by decide : 2 + 1 ≤ _), (by decide : 10 + 6 ≤ _)⟩)
    dsimp only [Pt.U, Pt.locs, Pt.cells, Pt.slots] at X30 l30 y30 z30 st30 hQ30
    subst l30 y30 z30
    obtain ⟨h30, e30⟩ : ∃ z, T30.heap = z := ⟨_, rfl⟩
    rw [e30] at hQ30
    obtain ⟨rfl, N30q, KC30, EC30, FC30, tt30, kt30, -, -, -, FV30, AV30⟩ := hQ30
    have KK30 : Keep h0 h30 [] := K29.trans KC30 (allS (Or.inr sz_b22) all0)
    have Z30 : n0 ≤ h30.size := Nat.le_trans Z29 KC30.1
    have CU30 := CHr.keep KC30 (sfS (own_safe_null hZ.alike (((((((A22.ext E23).wr W24).wr W25).wr W26).wr W27).wr W28).wr W29) (((((((F_value_b22.ext E23).other W24 (Or.inl (Nat.ne_of_lt (Nat.lt_of_lt_of_le A22.lt (Nat.le_of_eq g23.symm))))).other W25 (Or.inl (Nat.ne_of_lt (Nat.lt_of_lt_of_le A22.lt (Nat.le_of_eq g23.symm))))).other W26 (Or.inl (Nat.ne_of_lt (Nat.lt_of_lt_of_le A22.lt (Nat.le_of_eq g23.symm))))).other W27 (Or.inl (Nat.ne_of_lt (Nat.lt_of_lt_of_le A22.lt (Nat.le_of_eq g23.symm))))).other W28 (Or.inl (Nat.ne_of_lt (Nat.lt_of_lt_of_le A22.lt (Nat.le_of_eq g23.symm))))).other W29 (Or.inl (Nat.ne_of_lt (Nat.lt_of_lt_of_le A22.lt (Nat.le_of_eq g23.symm)))))) sf0) CH29
    have CR30 := CR29.trans CU30
    have CH30 := CU30.1
    have hk30 := Nat.le_trans hk29 KC30.1
    have TX30 : own_Str Z h30 b22 ([60, 105, 110, 105, 116, 62] : List Int32) := own_mkStr EC30 FV30 FC30 AV30 rfl hp30 (by decide)
    have N30 := Fr.app N29 N30q
    replace k : ow T30 (mkF m 49 #[ow_i p1, ow_i p2, ow_i (p2 &&& (3 : Int32))] [(.ref b22)]) := fun t q => k t (st30.trans q)
    clear st30
    exact own_endS (v := some (.ref b22)) X30 e30 hS0 hk30 hh Bd.notSynchronized (own_vn Bd.returns) k (fun _ hr => own_retA X30 hx Bd.returns rfl (D 35 rfl) hr) ⟨b22, rfl, N30, KK30, by rw [show own_tN p1 p2 = ([60, 105, 110, 105, 116, 62] : List Int32) from by unfold own_tN; rw [if_pos hc21]]; exact TX30⟩ (CR30.trans (CHv.at X30 hZ (own_EW hw) CH30)) (by decide) (by decide)
  · replace k : ow s₁ (mkF m 50 #[ow_i p1, ow_i p2, ow_i (p2 &&& (3 : Int32))] []) := fun t q => k t (XS.istoreN X0.here hx rfl (D 3 rfl) rfl (l' := #[ow_i p1, ow_i p2, ow_i (p2 &&& (3 : Int32))]) rfl (XS.iloadN X0.here hx rfl (D 4 rfl) rfl (XS.ifYes X0.here hx rfl (pc0 := 5) (pc' := 50) rfl (D 5 rfl) rfl ((if0 _ _).trans (feq (show ¬ ((p2 &&& (3 : Int32)) = (0 : Int32)) from hc21)).2) (by decide) (by decide) q)))
    by_cases hc31 : (p2 &&& (3 : Int32)) = (1 : Int32)
    · replace k : ow s₁ (mkF m 55 #[ow_i p1, ow_i p2, ow_i (p2 &&& (3 : Int32))] []) := fun t q => k t (XS.iloadN X0.here hx rfl (D 36 rfl) rfl (XS.iconst X0.here hx rfl (D 37 rfl) (XS.icmpNo X0.here hx rfl (D 38 rfl) rfl (teq (show (p2 &&& (3 : Int32)) = (1 : Int32) from hc31)).2 q)))
      obtain ⟨T32, h32, X32, e32, E32, A32, D32, -, st32⟩ := newO X0 hx hZ hown (own_h hw 7 rfl) (own_h hw 8 rfl) (own_h hw 9 rfl) e0 (g := (mkF m 55 #[ow_i p1, ow_i p2, ow_i (p2 &&& (3 : Int32))] [])) rfl (D 39 rfl) (by decide) (by decide)
      obtain ⟨b32, g32⟩ : ∃ z, z = h0.size := ⟨_, rfl⟩
      rw [← g32] at A32 D32 st32
      have ge_b32 : n0 ≤ b32 := Nat.le_trans Z0 (Nat.le_of_eq g32.symm)
      have sz_b32 : h0.size ≤ b32 := Nat.le_trans (Keep.refl h0 []).1 (Nat.le_of_eq g32.symm)
      have Z32 : n0 ≤ h32.size := Nat.le_trans Z0 E32.1
      have K32 : Keep h0 h32 [] := (Keep.refl h0 []).ext E32
      have CU32 := CHr.ext E32 CH0
      have CR32 := CR0.trans CU32
      have CH32 := CU32.1
      have hk32 := Nat.le_trans hk0 E32.1
      have F_coder_b32 : Fld Z h32 b32 "java/lang/String" "coder" "B" (.int 0) := D32 (Or.inr (own_h hw 34 rfl)) (ty := .byte) (by decide)
      have F_value_b32 : Fld Z h32 b32 "java/lang/String" "value" "[B" .null := D32 (Or.inr (own_h hw 36 rfl)) (ty := (.array .byte)) (by decide)
      replace k : ow T32 (mkF m 58 #[ow_i p1, ow_i p2, ow_i (p2 &&& (3 : Int32))] [(.ref b32)]) := fun t q => k t (st32 t q)
      clear st32
      obtain ⟨T33, h33, kc33, X33, e33, E33, A33, st33⟩ := newP X32 hx hZ (own_h hw 10 rfl) e32 (g := (mkF m 61 #[ow_i p1, ow_i p2, ow_i (p2 &&& (3 : Int32))] [(.int 8), (.ref b32), (.ref b32)])) rfl (D 42 rfl) rfl (by decide) (cap := 8) (by decide) (by decide) (by decide) (by decide)
      obtain ⟨b33, g33⟩ : ∃ z, z = h32.size := ⟨_, rfl⟩
      rw [← g33] at A33 st33
      have ge_b33 : n0 ≤ b33 := Nat.le_trans Z32 (Nat.le_of_eq g33.symm)
      have sz_b33 : h0.size ≤ b33 := Nat.le_trans K32.1 (Nat.le_of_eq g33.symm)
      have Z33 : n0 ≤ h33.size := Nat.le_trans Z32 E33.1
      have K33 : Keep h0 h33 [] := K32.ext E33
      have CU33 := CHr.ext E33 CH32
      have CR33 := CR32.trans CU33
      have CH33 := CU33.1
      have hk33 := Nat.le_trans hk32 E33.1
      have V_b33 : Arv Z h33 b33 kc33 .char (8 : Int32) [(.int 0), (.int 0), (.int 0), (.int 0), (.int 0), (.int 0), (.int 0), (.int 0)] (.int 0) := (Arv.new A33 (by decide)).pad (pad_rep [] (.int 0) 8)
      replace k : ow T33 (mkF m 63 #[ow_i p1, ow_i p2, ow_i (p2 &&& (3 : Int32))] [(.ref b33), (.ref b32), (.ref b32)]) := fun t q => k t (XS.dup X32.here hx rfl (D 40 rfl) rfl rfl (XS.bipush X32.here hx rfl (D 41 rfl) (st33 t q)))
      clear st33
      replace k : ow T33 (mkF m 67 #[ow_i p1, ow_i p2, ow_i (p2 &&& (3 : Int32))] [(.int 60), (.int 0), (.ref b33), (.ref b33), (.ref b32), (.ref b32)]) := fun t q => k t (XS.dup X33.here hx rfl (D 43 rfl) rfl rfl (XS.iconst X33.here hx rfl (D 44 rfl) (XS.bipush X33.here hx rfl (D 45 rfl) q)))
      obtain ⟨cl34, Ar34, qa34, Sa34, Na34, Ha34, Ga34⟩ := id V_b33
      obtain ⟨T34, h34, X34, e34, W34, st34⟩ := stC X33 hx hZ e33 Ar34 (j := (0 : Int32)) (own_inb Sa34 (show (0 : Int32) = Nat.toInt32 0 from by decide) (show 0 < ((8 : Int32)).toNatClampNeg from by decide)) (g := (mkF m 67 #[ow_i p1, ow_i p2, ow_i (p2 &&& (3 : Int32))] [(.int 60), (.int 0), (.ref b33), (.ref b33), (.ref b32), (.ref b32)])) rfl rfl (D 46 rfl)
      have V34 : Arv Z h34 b33 kc33 .char (8 : Int32) [(.int 60), (.int 0), (.int 0), (.int 0), (.int 0), (.int 0), (.int 0), (.int 0)] (.int 0) := Arv.set Ar34 qa34 Sa34 Na34 Ha34 Ga34 (fits_nar_char _) W34 0 (own_idx (show (0 : Int32) = Nat.toInt32 0 from by decide) (by omega)) (Nat.le_of_ble_eq_true rfl)
      have K34 : Keep h0 h34 [] := K33.wr W34 (Or.inr sz_b33)
      have N34 := Fr.snoc X34 N0 ge_b33
      have Z34 : n0 ≤ h34.size := Nat.le_trans Z33 (Keep.of_wr W34).1
      have CU34 := CHr.wr W34 (Safe.arv hZ.alike V_b33 (by decide)) CH33
      have CR34 := CR33.trans CU34
      have CH34 := CU34.1
      have hk34 := Nat.le_trans hk33 (Keep.of_wr W34).1
      replace k : ow T34 (mkF m 68 #[ow_i p1, ow_i p2, ow_i (p2 &&& (3 : Int32))] [(.ref b33), (.ref b32), (.ref b32)]) := fun t q => k t (st34 t q)
      clear st34
      replace k : ow T34 (mkF m 72 #[ow_i p1, ow_i p2, ow_i (p2 &&& (3 : Int32))] [(.int 99), (.int 1), (.ref b33), (.ref b33), (.ref b32), (.ref b32)]) := fun t q => k t (XS.dup X34.here hx rfl (D 47 rfl) rfl rfl (XS.iconst X34.here hx rfl (D 48 rfl) (XS.bipush X34.here hx rfl (D 49 rfl) q)))
      obtain ⟨cl35, Ar35, qa35, Sa35, Na35, Ha35, Ga35⟩ := id V34
      obtain ⟨T35, h35, X35, e35, W35, st35⟩ := stC X34 hx hZ e34 Ar35 (j := (1 : Int32)) (own_inb Sa35 (show (1 : Int32) = Nat.toInt32 1 from by decide) (show 1 < ((8 : Int32)).toNatClampNeg from by decide)) (g := (mkF m 72 #[ow_i p1, ow_i p2, ow_i (p2 &&& (3 : Int32))] [(.int 99), (.int 1), (.ref b33), (.ref b33), (.ref b32), (.ref b32)])) rfl rfl (D 50 rfl)
      have V35 : Arv Z h35 b33 kc33 .char (8 : Int32) [(.int 60), (.int 99), (.int 0), (.int 0), (.int 0), (.int 0), (.int 0), (.int 0)] (.int 0) := Arv.set Ar35 qa35 Sa35 Na35 Ha35 Ga35 (fits_nar_char _) W35 1 (own_idx (show (1 : Int32) = Nat.toInt32 1 from by decide) (by omega)) (Nat.le_of_ble_eq_true rfl)
      have K35 : Keep h0 h35 [] := K34.wr W35 (Or.inr sz_b33)
      have N35 := Fr.snoc X35 N34 ge_b33
      have Z35 : n0 ≤ h35.size := Nat.le_trans Z34 (Keep.of_wr W35).1
      have CU35 := CHr.wr W35 (Safe.arv hZ.alike V34 (by decide)) CH34
      have CR35 := CR34.trans CU35
      have CH35 := CU35.1
      have hk35 := Nat.le_trans hk34 (Keep.of_wr W35).1
      replace k : ow T35 (mkF m 73 #[ow_i p1, ow_i p2, ow_i (p2 &&& (3 : Int32))] [(.ref b33), (.ref b32), (.ref b32)]) := fun t q => k t (st35 t q)
      clear st35
      replace k : ow T35 (mkF m 77 #[ow_i p1, ow_i p2, ow_i (p2 &&& (3 : Int32))] [(.int 108), (.int 2), (.ref b33), (.ref b33), (.ref b32), (.ref b32)]) := fun t q => k t (XS.dup X35.here hx rfl (D 51 rfl) rfl rfl (XS.iconst X35.here hx rfl (D 52 rfl) (XS.bipush X35.here hx rfl (D 53 rfl) q)))
      obtain ⟨cl36, Ar36, qa36, Sa36, Na36, Ha36, Ga36⟩ := id V35
      obtain ⟨T36, h36, X36, e36, W36, st36⟩ := stC X35 hx hZ e35 Ar36 (j := (2 : Int32)) (own_inb Sa36 (show (2 : Int32) = Nat.toInt32 2 from by decide) (show 2 < ((8 : Int32)).toNatClampNeg from by decide)) (g := (mkF m 77 #[ow_i p1, ow_i p2, ow_i (p2 &&& (3 : Int32))] [(.int 108), (.int 2), (.ref b33), (.ref b33), (.ref b32), (.ref b32)])) rfl rfl (D 54 rfl)
      have V36 : Arv Z h36 b33 kc33 .char (8 : Int32) [(.int 60), (.int 99), (.int 108), (.int 0), (.int 0), (.int 0), (.int 0), (.int 0)] (.int 0) := Arv.set Ar36 qa36 Sa36 Na36 Ha36 Ga36 (fits_nar_char _) W36 2 (own_idx (show (2 : Int32) = Nat.toInt32 2 from by decide) (by omega)) (Nat.le_of_ble_eq_true rfl)
      have K36 : Keep h0 h36 [] := K35.wr W36 (Or.inr sz_b33)
      have N36 := Fr.snoc X36 N35 ge_b33
      have Z36 : n0 ≤ h36.size := Nat.le_trans Z35 (Keep.of_wr W36).1
      have CU36 := CHr.wr W36 (Safe.arv hZ.alike V35 (by decide)) CH35
      have CR36 := CR35.trans CU36
      have CH36 := CU36.1
      have hk36 := Nat.le_trans hk35 (Keep.of_wr W36).1
      replace k : ow T36 (mkF m 78 #[ow_i p1, ow_i p2, ow_i (p2 &&& (3 : Int32))] [(.ref b33), (.ref b32), (.ref b32)]) := fun t q => k t (st36 t q)
      clear st36
      replace k : ow T36 (mkF m 82 #[ow_i p1, ow_i p2, ow_i (p2 &&& (3 : Int32))] [(.int 105), (.int 3), (.ref b33), (.ref b33), (.ref b32), (.ref b32)]) := fun t q => k t (XS.dup X36.here hx rfl (D 55 rfl) rfl rfl (XS.iconst X36.here hx rfl (D 56 rfl) (XS.bipush X36.here hx rfl (D 57 rfl) q)))
      obtain ⟨cl37, Ar37, qa37, Sa37, Na37, Ha37, Ga37⟩ := id V36
      obtain ⟨T37, h37, X37, e37, W37, st37⟩ := stC X36 hx hZ e36 Ar37 (j := (3 : Int32)) (own_inb Sa37 (show (3 : Int32) = Nat.toInt32 3 from by decide) (show 3 < ((8 : Int32)).toNatClampNeg from by decide)) (g := (mkF m 82 #[ow_i p1, ow_i p2, ow_i (p2 &&& (3 : Int32))] [(.int 105), (.int 3), (.ref b33), (.ref b33), (.ref b32), (.ref b32)])) rfl rfl (D 58 rfl)
      have V37 : Arv Z h37 b33 kc33 .char (8 : Int32) [(.int 60), (.int 99), (.int 108), (.int 105), (.int 0), (.int 0), (.int 0), (.int 0)] (.int 0) := Arv.set Ar37 qa37 Sa37 Na37 Ha37 Ga37 (fits_nar_char _) W37 3 (own_idx (show (3 : Int32) = Nat.toInt32 3 from by decide) (by omega)) (Nat.le_of_ble_eq_true rfl)
      have K37 : Keep h0 h37 [] := K36.wr W37 (Or.inr sz_b33)
      have N37 := Fr.snoc X37 N36 ge_b33
      have Z37 : n0 ≤ h37.size := Nat.le_trans Z36 (Keep.of_wr W37).1
      have CU37 := CHr.wr W37 (Safe.arv hZ.alike V36 (by decide)) CH36
      have CR37 := CR36.trans CU37
      have CH37 := CU37.1
      have hk37 := Nat.le_trans hk36 (Keep.of_wr W37).1
      replace k : ow T37 (mkF m 83 #[ow_i p1, ow_i p2, ow_i (p2 &&& (3 : Int32))] [(.ref b33), (.ref b32), (.ref b32)]) := fun t q => k t (st37 t q)
      clear st37
      replace k : ow T37 (mkF m 87 #[ow_i p1, ow_i p2, ow_i (p2 &&& (3 : Int32))] [(.int 110), (.int 4), (.ref b33), (.ref b33), (.ref b32), (.ref b32)]) := fun t q => k t (XS.dup X37.here hx rfl (D 59 rfl) rfl rfl (XS.iconst X37.here hx rfl (D 60 rfl) (XS.bipush X37.here hx rfl (D 61 rfl) q)))
      obtain ⟨cl38, Ar38, qa38, Sa38, Na38, Ha38, Ga38⟩ := id V37
      obtain ⟨T38, h38, X38, e38, W38, st38⟩ := stC X37 hx hZ e37 Ar38 (j := (4 : Int32)) (own_inb Sa38 (show (4 : Int32) = Nat.toInt32 4 from by decide) (show 4 < ((8 : Int32)).toNatClampNeg from by decide)) (g := (mkF m 87 #[ow_i p1, ow_i p2, ow_i (p2 &&& (3 : Int32))] [(.int 110), (.int 4), (.ref b33), (.ref b33), (.ref b32), (.ref b32)])) rfl rfl (D 62 rfl)
      have V38 : Arv Z h38 b33 kc33 .char (8 : Int32) [(.int 60), (.int 99), (.int 108), (.int 105), (.int 110), (.int 0), (.int 0), (.int 0)] (.int 0) := Arv.set Ar38 qa38 Sa38 Na38 Ha38 Ga38 (fits_nar_char _) W38 4 (own_idx (show (4 : Int32) = Nat.toInt32 4 from by decide) (by omega)) (Nat.le_of_ble_eq_true rfl)
      have K38 : Keep h0 h38 [] := K37.wr W38 (Or.inr sz_b33)
      have N38 := Fr.snoc X38 N37 ge_b33
      have Z38 : n0 ≤ h38.size := Nat.le_trans Z37 (Keep.of_wr W38).1
      have CU38 := CHr.wr W38 (Safe.arv hZ.alike V37 (by decide)) CH37
      have CR38 := CR37.trans CU38
      have CH38 := CU38.1
      have hk38 := Nat.le_trans hk37 (Keep.of_wr W38).1
      replace k : ow T38 (mkF m 88 #[ow_i p1, ow_i p2, ow_i (p2 &&& (3 : Int32))] [(.ref b33), (.ref b32), (.ref b32)]) := fun t q => k t (st38 t q)
      clear st38
      replace k : ow T38 (mkF m 92 #[ow_i p1, ow_i p2, ow_i (p2 &&& (3 : Int32))] [(.int 105), (.int 5), (.ref b33), (.ref b33), (.ref b32), (.ref b32)]) := fun t q => k t (XS.dup X38.here hx rfl (D 63 rfl) rfl rfl (XS.iconst X38.here hx rfl (D 64 rfl) (XS.bipush X38.here hx rfl (D 65 rfl) q)))
      obtain ⟨cl39, Ar39, qa39, Sa39, Na39, Ha39, Ga39⟩ := id V38
      obtain ⟨T39, h39, X39, e39, W39, st39⟩ := stC X38 hx hZ e38 Ar39 (j := (5 : Int32)) (own_inb Sa39 (show (5 : Int32) = Nat.toInt32 5 from by decide) (show 5 < ((8 : Int32)).toNatClampNeg from by decide)) (g := (mkF m 92 #[ow_i p1, ow_i p2, ow_i (p2 &&& (3 : Int32))] [(.int 105), (.int 5), (.ref b33), (.ref b33), (.ref b32), (.ref b32)])) rfl rfl (D 66 rfl)
      have V39 : Arv Z h39 b33 kc33 .char (8 : Int32) [(.int 60), (.int 99), (.int 108), (.int 105), (.int 110), (.int 105), (.int 0), (.int 0)] (.int 0) := Arv.set Ar39 qa39 Sa39 Na39 Ha39 Ga39 (fits_nar_char _) W39 5 (own_idx (show (5 : Int32) = Nat.toInt32 5 from by decide) (by omega)) (Nat.le_of_ble_eq_true rfl)
      have K39 : Keep h0 h39 [] := K38.wr W39 (Or.inr sz_b33)
      have N39 := Fr.snoc X39 N38 ge_b33
      have Z39 : n0 ≤ h39.size := Nat.le_trans Z38 (Keep.of_wr W39).1
      have CU39 := CHr.wr W39 (Safe.arv hZ.alike V38 (by decide)) CH38
      have CR39 := CR38.trans CU39
      have CH39 := CU39.1
      have hk39 := Nat.le_trans hk38 (Keep.of_wr W39).1
      replace k : ow T39 (mkF m 93 #[ow_i p1, ow_i p2, ow_i (p2 &&& (3 : Int32))] [(.ref b33), (.ref b32), (.ref b32)]) := fun t q => k t (st39 t q)
      clear st39
      replace k : ow T39 (mkF m 98 #[ow_i p1, ow_i p2, ow_i (p2 &&& (3 : Int32))] [(.int 116), (.int 6), (.ref b33), (.ref b33), (.ref b32), (.ref b32)]) := fun t q => k t (XS.dup X39.here hx rfl (D 67 rfl) rfl rfl (XS.bipush X39.here hx rfl (D 68 rfl) (XS.bipush X39.here hx rfl (D 69 rfl) q)))
      obtain ⟨cl40, Ar40, qa40, Sa40, Na40, Ha40, Ga40⟩ := id V39
      obtain ⟨T40, h40, X40, e40, W40, st40⟩ := stC X39 hx hZ e39 Ar40 (j := (6 : Int32)) (own_inb Sa40 (show (6 : Int32) = Nat.toInt32 6 from by decide) (show 6 < ((8 : Int32)).toNatClampNeg from by decide)) (g := (mkF m 98 #[ow_i p1, ow_i p2, ow_i (p2 &&& (3 : Int32))] [(.int 116), (.int 6), (.ref b33), (.ref b33), (.ref b32), (.ref b32)])) rfl rfl (D 70 rfl)
      have V40 : Arv Z h40 b33 kc33 .char (8 : Int32) [(.int 60), (.int 99), (.int 108), (.int 105), (.int 110), (.int 105), (.int 116), (.int 0)] (.int 0) := Arv.set Ar40 qa40 Sa40 Na40 Ha40 Ga40 (fits_nar_char _) W40 6 (own_idx (show (6 : Int32) = Nat.toInt32 6 from by decide) (by omega)) (Nat.le_of_ble_eq_true rfl)
      have K40 : Keep h0 h40 [] := K39.wr W40 (Or.inr sz_b33)
      have N40 := Fr.snoc X40 N39 ge_b33
      have Z40 : n0 ≤ h40.size := Nat.le_trans Z39 (Keep.of_wr W40).1
      have CU40 := CHr.wr W40 (Safe.arv hZ.alike V39 (by decide)) CH39
      have CR40 := CR39.trans CU40
      have CH40 := CU40.1
      have hk40 := Nat.le_trans hk39 (Keep.of_wr W40).1
      replace k : ow T40 (mkF m 99 #[ow_i p1, ow_i p2, ow_i (p2 &&& (3 : Int32))] [(.ref b33), (.ref b32), (.ref b32)]) := fun t q => k t (st40 t q)
      clear st40
      replace k : ow T40 (mkF m 104 #[ow_i p1, ow_i p2, ow_i (p2 &&& (3 : Int32))] [(.int 62), (.int 7), (.ref b33), (.ref b33), (.ref b32), (.ref b32)]) := fun t q => k t (XS.dup X40.here hx rfl (D 71 rfl) rfl rfl (XS.bipush X40.here hx rfl (D 72 rfl) (XS.bipush X40.here hx rfl (D 73 rfl) q)))
      obtain ⟨cl41, Ar41, qa41, Sa41, Na41, Ha41, Ga41⟩ := id V40
      obtain ⟨T41, h41, X41, e41, W41, st41⟩ := stC X40 hx hZ e40 Ar41 (j := (7 : Int32)) (own_inb Sa41 (show (7 : Int32) = Nat.toInt32 7 from by decide) (show 7 < ((8 : Int32)).toNatClampNeg from by decide)) (g := (mkF m 104 #[ow_i p1, ow_i p2, ow_i (p2 &&& (3 : Int32))] [(.int 62), (.int 7), (.ref b33), (.ref b33), (.ref b32), (.ref b32)])) rfl rfl (D 74 rfl)
      have V41 : Arv Z h41 b33 kc33 .char (8 : Int32) [(.int 60), (.int 99), (.int 108), (.int 105), (.int 110), (.int 105), (.int 116), (.int 62)] (.int 0) := Arv.set Ar41 qa41 Sa41 Na41 Ha41 Ga41 (fits_nar_char _) W41 7 (own_idx (show (7 : Int32) = Nat.toInt32 7 from by decide) (by omega)) (Nat.le_of_ble_eq_true rfl)
      have K41 : Keep h0 h41 [] := K40.wr W41 (Or.inr sz_b33)
      have N41 := Fr.snoc X41 N40 ge_b33
      have Z41 : n0 ≤ h41.size := Nat.le_trans Z40 (Keep.of_wr W41).1
      have CU41 := CHr.wr W41 (Safe.arv hZ.alike V40 (by decide)) CH40
      have CR41 := CR40.trans CU41
      have CH41 := CU41.1
      have hk41 := Nat.le_trans hk40 (Keep.of_wr W41).1
      replace k : ow T41 (mkF m 105 #[ow_i p1, ow_i p2, ow_i (p2 &&& (3 : Int32))] [(.ref b33), (.ref b32), (.ref b32)]) := fun t q => k t (st41 t q)
      clear st41
      have hp42 : ∀ c ∈ ([60, 99, 108, 105, 110, 105, 116, 62] : List Int32), ¬ c < 0 ∧ ¬ (255 : Int32) < c := (List.forall_mem_cons.mpr ⟨(by decide), (List.forall_mem_cons.mpr ⟨(by decide), (List.forall_mem_cons.mpr ⟨(by decide), (List.forall_mem_cons.mpr ⟨(by decide), (List.forall_mem_cons.mpr ⟨(by decide), (List.forall_mem_cons.mpr ⟨(by decide), (List.forall_mem_cons.mpr ⟨(by decide), (List.forall_mem_cons.mpr ⟨(by decide), (fun c hc => nomatch hc)⟩)⟩)⟩)⟩)⟩)⟩)⟩)⟩)
      obtain ⟨_, _, ⟨T42, L42, k42, n42⟩, -, X42, ⟨Lc42, hQ42, l42, y42, z42⟩, st42⟩ := X41.specialBack hx (y := own_y3) rfl hown (mvT hZ (own_h hw 11 rfl)) (mvT hZ (own_h hw 12 rfl)) (mvT hZ (own_h hw 13 rfl)) (by decide) (StrChars.Road.backV (W := 1) hZ (own_wNew hw) (kI := 4) (own_h hw 8 rfl) (cs := ([60, 99, 108, 105, 110, 105, 116, 62] : List Int32)) (bs := ([60, 99, 108, 105, 110, 105, 116, 62] : List Int32).map (fun c => c.toInt8.toInt32)) (n := 8) ge_b32 Z41 (((((((((A32.ext E33).wr W34).wr W35).wr W36).wr W37).wr W38).wr W39).wr W40).wr W41) (((((((((F_value_b32.ext E33).other W34 (Or.inl (Nat.ne_of_lt (Nat.lt_of_lt_of_le A32.lt (Nat.le_of_eq g33.symm))))).other W35 (Or.inl (Nat.ne_of_lt (Nat.lt_of_lt_of_le A32.lt (Nat.le_of_eq g33.symm))))).other W36 (Or.inl (Nat.ne_of_lt (Nat.lt_of_lt_of_le A32.lt (Nat.le_of_eq g33.symm))))).other W37 (Or.inl (Nat.ne_of_lt (Nat.lt_of_lt_of_le A32.lt (Nat.le_of_eq g33.symm))))).other W38 (Or.inl (Nat.ne_of_lt (Nat.lt_of_lt_of_le A32.lt (Nat.le_of_eq g33.symm))))).other W39 (Or.inl (Nat.ne_of_lt (Nat.lt_of_lt_of_le A32.lt (Nat.le_of_eq g33.symm))))).other W40 (Or.inl (Nat.ne_of_lt (Nat.lt_of_lt_of_le A32.lt (Nat.le_of_eq g33.symm))))).other W41 (Or.inl (Nat.ne_of_lt (Nat.lt_of_lt_of_le A32.lt (Nat.le_of_eq g33.symm))))) (((((((((F_coder_b32.ext E33).other W34 (Or.inl (Nat.ne_of_lt (Nat.lt_of_lt_of_le A32.lt (Nat.le_of_eq g33.symm))))).other W35 (Or.inl (Nat.ne_of_lt (Nat.lt_of_lt_of_le A32.lt (Nat.le_of_eq g33.symm))))).other W36 (Or.inl (Nat.ne_of_lt (Nat.lt_of_lt_of_le A32.lt (Nat.le_of_eq g33.symm))))).other W37 (Or.inl (Nat.ne_of_lt (Nat.lt_of_lt_of_le A32.lt (Nat.le_of_eq g33.symm))))).other W38 (Or.inl (Nat.ne_of_lt (Nat.lt_of_lt_of_le A32.lt (Nat.le_of_eq g33.symm))))).other W39 (Or.inl (Nat.ne_of_lt (Nat.lt_of_lt_of_le A32.lt (Nat.le_of_eq g33.symm))))).other W40 (Or.inl (Nat.ne_of_lt (Nat.lt_of_lt_of_le A32.lt (Nat.le_of_eq g33.symm))))).other W41 (Or.inl (Nat.ne_of_lt (Nat.lt_of_lt_of_le A32.lt (Nat.le_of_eq g33.symm))))) V41 ((((((((((S_COMPACT_STRINGS.ext E32).ext E33).wr W34).wr W35).wr W36).wr W37).wr W38).wr W39).wr W40).wr W41) hz rfl rfl (by decide) (by decide) hp42 rfl (by decide) (by decide)) (g := (mkF m 105 #[ow_i p1, ow_i p2, ow_i (p2 &&& (3 : Int32))] [(.ref b33), (.ref b32), (.ref b32)])) rfl (by rw [hml]; rfl) (Steps.refl _) (a := b32) (argsL := [(.ref b33)]) (rest := [(.ref b32)]) (lenOf own_pd17 rfl) rfl own_le (D 75 rfl) (fun _ _ => ⟨rfl, e41, (by decide : 2 + 1 ≤ _), (by decide : 12 + 8 ≤ _)⟩)
      dsimp only [Pt.U, Pt.locs, Pt.cells, Pt.slots] at X42 l42 y42 z42 st42 hQ42
      subst l42 y42 z42
      obtain ⟨h42, e42⟩ : ∃ z, T42.heap = z := ⟨_, rfl⟩
      rw [e42] at hQ42
      obtain ⟨rfl, N42q, KC42, EC42, FC42, tt42, kt42, -, -, -, FV42, AV42⟩ := hQ42
      have KK42 : Keep h0 h42 [] := K41.trans KC42 (allS (Or.inr sz_b32) all0)
      have Z42 : n0 ≤ h42.size := Nat.le_trans Z41 KC42.1
      have CU42 := CHr.keep KC42 (sfS (own_safe_null hZ.alike (((((((((A32.ext E33).wr W34).wr W35).wr W36).wr W37).wr W38).wr W39).wr W40).wr W41) (((((((((F_value_b32.ext E33).other W34 (Or.inl (Nat.ne_of_lt (Nat.lt_of_lt_of_le A32.lt (Nat.le_of_eq g33.symm))))).other W35 (Or.inl (Nat.ne_of_lt (Nat.lt_of_lt_of_le A32.lt (Nat.le_of_eq g33.symm))))).other W36 (Or.inl (Nat.ne_of_lt (Nat.lt_of_lt_of_le A32.lt (Nat.le_of_eq g33.symm))))).other W37 (Or.inl (Nat.ne_of_lt (Nat.lt_of_lt_of_le A32.lt (Nat.le_of_eq g33.symm))))).other W38 (Or.inl (Nat.ne_of_lt (Nat.lt_of_lt_of_le A32.lt (Nat.le_of_eq g33.symm))))).other W39 (Or.inl (Nat.ne_of_lt (Nat.lt_of_lt_of_le A32.lt (Nat.le_of_eq g33.symm))))).other W40 (Or.inl (Nat.ne_of_lt (Nat.lt_of_lt_of_le A32.lt (Nat.le_of_eq g33.symm))))).other W41 (Or.inl (Nat.ne_of_lt (Nat.lt_of_lt_of_le A32.lt (Nat.le_of_eq g33.symm)))))) sf0) CH41
      have CR42 := CR41.trans CU42
      have CH42 := CU42.1
      have hk42 := Nat.le_trans hk41 KC42.1
      have TX42 : own_Str Z h42 b32 ([60, 99, 108, 105, 110, 105, 116, 62] : List Int32) := own_mkStr EC42 FV42 FC42 AV42 rfl hp42 (by decide)
      have N42 := Fr.app N41 N42q
      replace k : ow T42 (mkF m 108 #[ow_i p1, ow_i p2, ow_i (p2 &&& (3 : Int32))] [(.ref b32)]) := fun t q => k t (st42.trans q)
      clear st42
      exact own_endS (v := some (.ref b32)) X42 e42 hS0 hk42 hh Bd.notSynchronized (own_vn Bd.returns) k (fun _ hr => own_retA X42 hx Bd.returns rfl (D 76 rfl) hr) ⟨b32, rfl, N42, KK42, by rw [show own_tN p1 p2 = ([60, 99, 108, 105, 110, 105, 116, 62] : List Int32) from by unfold own_tN; rw [if_neg hc21, if_pos hc31]]; exact TX42⟩ (CR42.trans (CHv.at X42 hZ (own_EW hw) CH42)) (by decide) (by decide)
    · replace k : ow s₁ (mkF m 109 #[ow_i p1, ow_i p2, ow_i (p2 &&& (3 : Int32))] []) := fun t q => k t (XS.iloadN X0.here hx rfl (D 36 rfl) rfl (XS.iconst X0.here hx rfl (D 37 rfl) (XS.icmpYes X0.here hx rfl (pc0 := 52) (pc' := 109) rfl (D 38 rfl) rfl (feq (show ¬ ((p2 &&& (3 : Int32)) = (1 : Int32)) from hc31)).2 (by decide) (by decide) q)))
      obtain ⟨T43, h43, X43, e43, E43, A43, D43, -, st43⟩ := newO X0 hx hZ hown (own_h hw 7 rfl) (own_h hw 8 rfl) (own_h hw 9 rfl) e0 (g := (mkF m 109 #[ow_i p1, ow_i p2, ow_i (p2 &&& (3 : Int32))] [])) rfl (D 77 rfl) (by decide) (by decide)
      obtain ⟨b43, g43⟩ : ∃ z, z = h0.size := ⟨_, rfl⟩
      rw [← g43] at A43 D43 st43
      have ge_b43 : n0 ≤ b43 := Nat.le_trans Z0 (Nat.le_of_eq g43.symm)
      have sz_b43 : h0.size ≤ b43 := Nat.le_trans (Keep.refl h0 []).1 (Nat.le_of_eq g43.symm)
      have Z43 : n0 ≤ h43.size := Nat.le_trans Z0 E43.1
      have K43 : Keep h0 h43 [] := (Keep.refl h0 []).ext E43
      have CU43 := CHr.ext E43 CH0
      have CR43 := CR0.trans CU43
      have CH43 := CU43.1
      have hk43 := Nat.le_trans hk0 E43.1
      have F_coder_b43 : Fld Z h43 b43 "java/lang/String" "coder" "B" (.int 0) := D43 (Or.inr (own_h hw 34 rfl)) (ty := .byte) (by decide)
      have F_value_b43 : Fld Z h43 b43 "java/lang/String" "value" "[B" .null := D43 (Or.inr (own_h hw 36 rfl)) (ty := (.array .byte)) (by decide)
      replace k : ow T43 (mkF m 112 #[ow_i p1, ow_i p2, ow_i (p2 &&& (3 : Int32))] [(.ref b43)]) := fun t q => k t (st43 t q)
      clear st43
      obtain ⟨T44, h44, kc44, X44, e44, E44, A44, st44⟩ := newP X43 hx hZ (own_h hw 10 rfl) e43 (g := (mkF m 114 #[ow_i p1, ow_i p2, ow_i (p2 &&& (3 : Int32))] [(.int 2), (.ref b43), (.ref b43)])) rfl (D 80 rfl) rfl (by decide) (cap := 2) (by decide) (by decide) (by decide) (by decide)
      obtain ⟨b44, g44⟩ : ∃ z, z = h43.size := ⟨_, rfl⟩
      rw [← g44] at A44 st44
      have ge_b44 : n0 ≤ b44 := Nat.le_trans Z43 (Nat.le_of_eq g44.symm)
      have sz_b44 : h0.size ≤ b44 := Nat.le_trans K43.1 (Nat.le_of_eq g44.symm)
      have Z44 : n0 ≤ h44.size := Nat.le_trans Z43 E44.1
      have K44 : Keep h0 h44 [] := K43.ext E44
      have CU44 := CHr.ext E44 CH43
      have CR44 := CR43.trans CU44
      have CH44 := CU44.1
      have hk44 := Nat.le_trans hk43 E44.1
      have V_b44 : Arv Z h44 b44 kc44 .char (2 : Int32) [(.int 0), (.int 0)] (.int 0) := (Arv.new A44 (by decide)).pad (pad_rep [] (.int 0) 2)
      replace k : ow T44 (mkF m 116 #[ow_i p1, ow_i p2, ow_i (p2 &&& (3 : Int32))] [(.ref b44), (.ref b43), (.ref b43)]) := fun t q => k t (XS.dup X43.here hx rfl (D 78 rfl) rfl rfl (XS.iconst X43.here hx rfl (D 79 rfl) (st44 t q)))
      clear st44
      replace k : ow T44 (mkF m 119 #[ow_i p1, ow_i p2, ow_i (p2 &&& (3 : Int32))] [(.int p1), (.int 0), (.ref b44), (.ref b44), (.ref b43), (.ref b43)]) := fun t q => k t (XS.dup X44.here hx rfl (D 81 rfl) rfl rfl (XS.iconst X44.here hx rfl (D 82 rfl) (XS.iloadN X44.here hx rfl (D 83 rfl) rfl q)))
      obtain ⟨_, _, ⟨T45, L45, k45, n45⟩, -, X45, ⟨Lc45, hQ45, l45, y45, z45⟩, st45⟩ := Jvm.LawKit.callS X44 hx (y := own_y44) hown (mvT hZ (own_h hw 202 rfl)) (mvT hZ (own_h hw 203 rfl)) (mvT hZ (own_h hw 2 rfl)) (mvT hZ (own_h hw 204 rfl)) (by decide) (backOf (W := 5) (own_m44 l Z a0 hw [] p1 h44 n0 Z44 ) hZ (own_h hw 204 rfl) (own_h hw 2 rfl) (by decide) (by decide)) (g := (mkF m 119 #[ow_i p1, ow_i p2, ow_i (p2 &&& (3 : Int32))] [(.int p1), (.int 0), (.ref b44), (.ref b44), (.ref b43), (.ref b43)])) rfl (by rw [hml]; rfl) (argsL := [(.int p1)]) (rest := [(.int 0), (.ref b44), (.ref b44), (.ref b43), (.ref b43)]) (lenOf own_pd16 rfl) rfl own_le (D 84 rfl) (fun _ _ => ⟨rfl, e44, (by decide : 2 + 0 ≤ _), (by decide : 6 + 0 ≤ _)⟩)
      dsimp only [Pt.U, Pt.locs, Pt.cells, Pt.slots] at X45 l45 y45 z45 st45 hQ45
      subst l45 y45 z45
      obtain ⟨rfl, N45q, e45⟩ := hQ45
      have N45 := Fr.app N0 N45q
      replace k : ow T45 (mkF m 122 #[ow_i p1, ow_i p2, ow_i (p2 &&& (3 : Int32))] [(.int (own_mc p1)), (.int 0), (.ref b44), (.ref b44), (.ref b43), (.ref b43)]) := fun t q => k t (st45 t q)
      clear st45
      obtain ⟨cl46, Ar46, qa46, Sa46, Na46, Ha46, Ga46⟩ := id V_b44
      obtain ⟨T46, h46, X46, e46, W46, st46⟩ := stC X45 hx hZ e45 Ar46 (j := (0 : Int32)) (own_inb Sa46 (show (0 : Int32) = Nat.toInt32 0 from by decide) (show 0 < ((2 : Int32)).toNatClampNeg from by decide)) (g := (mkF m 122 #[ow_i p1, ow_i p2, ow_i (p2 &&& (3 : Int32))] [(.int (own_mc p1)), (.int 0), (.ref b44), (.ref b44), (.ref b43), (.ref b43)])) rfl rfl (D 85 rfl)
      have V46 : Arv Z h46 b44 kc44 .char (2 : Int32) [(.int (ow_c (own_mc p1))), (.int 0)] (.int 0) := Arv.set Ar46 qa46 Sa46 Na46 Ha46 Ga46 (fits_nar_char _) W46 0 (own_idx (show (0 : Int32) = Nat.toInt32 0 from by decide) (by omega)) (Nat.le_of_ble_eq_true rfl)
      have K46 : Keep h0 h46 [] := K44.wr W46 (Or.inr sz_b44)
      have N46 := Fr.snoc X46 N45 ge_b44
      have Z46 : n0 ≤ h46.size := Nat.le_trans Z44 (Keep.of_wr W46).1
      have CU46 := CHr.wr W46 (Safe.arv hZ.alike V_b44 (by decide)) CH44
      have CR46 := CR44.trans CU46
      have CH46 := CU46.1
      have hk46 := Nat.le_trans hk44 (Keep.of_wr W46).1
      replace k : ow T46 (mkF m 123 #[ow_i p1, ow_i p2, ow_i (p2 &&& (3 : Int32))] [(.ref b44), (.ref b43), (.ref b43)]) := fun t q => k t (st46 t q)
      clear st46
      replace k : ow T46 (mkF m 126 #[ow_i p1, ow_i p2, ow_i (p2 &&& (3 : Int32))] [(.int p1), (.int 1), (.ref b44), (.ref b44), (.ref b43), (.ref b43)]) := fun t q => k t (XS.dup X46.here hx rfl (D 86 rfl) rfl rfl (XS.iconst X46.here hx rfl (D 87 rfl) (XS.iloadN X46.here hx rfl (D 88 rfl) rfl q)))
      replace k : ow T46 (mkF m 128 #[ow_i p1, ow_i p2, ow_i (p2 &&& (3 : Int32))] [(.int 8), (.int p1), (.int 1), (.ref b44), (.ref b44), (.ref b43), (.ref b43)]) := fun t q => k t (XS.bipush X46.here hx rfl (D 89 rfl) q)
      replace k : ow T46 (mkF m 129 #[ow_i p1, ow_i p2, ow_i (p2 &&& (3 : Int32))] [(.int ((p1.toUInt32 >>> ((8 : Int32) &&& 31).toUInt32).toInt32)), (.int 1), (.ref b44), (.ref b44), (.ref b43), (.ref b43)]) := fun t q => k t (XS.iushr X46.here hx rfl (D 90 rfl) rfl q)
      obtain ⟨_, _, ⟨T47, L47, k47, n47⟩, -, X47, ⟨Lc47, hQ47, l47, y47, z47⟩, st47⟩ := Jvm.LawKit.callS X46 hx (y := own_y44) hown (mvT hZ (own_h hw 202 rfl)) (mvT hZ (own_h hw 203 rfl)) (mvT hZ (own_h hw 2 rfl)) (mvT hZ (own_h hw 204 rfl)) (by decide) (backOf (W := 5) (own_m44 l Z a0 hw [] ((p1.toUInt32 >>> ((8 : Int32) &&& 31).toUInt32).toInt32) h46 n0 Z46 ) hZ (own_h hw 204 rfl) (own_h hw 2 rfl) (by decide) (by decide)) (g := (mkF m 129 #[ow_i p1, ow_i p2, ow_i (p2 &&& (3 : Int32))] [(.int ((p1.toUInt32 >>> ((8 : Int32) &&& 31).toUInt32).toInt32)), (.int 1), (.ref b44), (.ref b44), (.ref b43), (.ref b43)])) rfl (by rw [hml]; rfl) (argsL := [(.int ((p1.toUInt32 >>> ((8 : Int32) &&& 31).toUInt32).toInt32))]) (rest := [(.int 1), (.ref b44), (.ref b44), (.ref b43), (.ref b43)]) (lenOf own_pd16 rfl) rfl own_le (D 91 rfl) (fun _ _ => ⟨rfl, e46, (by decide : 2 + 0 ≤ _), (by decide : 6 + 0 ≤ _)⟩)
      dsimp only [Pt.U, Pt.locs, Pt.cells, Pt.slots] at X47 l47 y47 z47 st47 hQ47
      subst l47 y47 z47
      obtain ⟨rfl, N47q, e47⟩ := hQ47
      have N47 := Fr.app N46 N47q
      replace k : ow T47 (mkF m 132 #[ow_i p1, ow_i p2, ow_i (p2 &&& (3 : Int32))] [(.int (own_mc ((p1.toUInt32 >>> ((8 : Int32) &&& 31).toUInt32).toInt32))), (.int 1), (.ref b44), (.ref b44), (.ref b43), (.ref b43)]) := fun t q => k t (st47 t q)
      clear st47
      obtain ⟨cl48, Ar48, qa48, Sa48, Na48, Ha48, Ga48⟩ := id V46
      obtain ⟨T48, h48, X48, e48, W48, st48⟩ := stC X47 hx hZ e47 Ar48 (j := (1 : Int32)) (own_inb Sa48 (show (1 : Int32) = Nat.toInt32 1 from by decide) (show 1 < ((2 : Int32)).toNatClampNeg from by decide)) (g := (mkF m 132 #[ow_i p1, ow_i p2, ow_i (p2 &&& (3 : Int32))] [(.int (own_mc ((p1.toUInt32 >>> ((8 : Int32) &&& 31).toUInt32).toInt32))), (.int 1), (.ref b44), (.ref b44), (.ref b43), (.ref b43)])) rfl rfl (D 92 rfl)
      have V48 : Arv Z h48 b44 kc44 .char (2 : Int32) [(.int (ow_c (own_mc p1))), (.int (ow_c (own_mc ((p1.toUInt32 >>> ((8 : Int32) &&& 31).toUInt32).toInt32))))] (.int 0) := Arv.set Ar48 qa48 Sa48 Na48 Ha48 Ga48 (fits_nar_char _) W48 1 (own_idx (show (1 : Int32) = Nat.toInt32 1 from by decide) (by omega)) (Nat.le_of_ble_eq_true rfl)
      have K48 : Keep h0 h48 [] := K46.wr W48 (Or.inr sz_b44)
      have N48 := Fr.snoc X48 N47 ge_b44
      have Z48 : n0 ≤ h48.size := Nat.le_trans Z46 (Keep.of_wr W48).1
      have CU48 := CHr.wr W48 (Safe.arv hZ.alike V46 (by decide)) CH46
      have CR48 := CR46.trans CU48
      have CH48 := CU48.1
      have hk48 := Nat.le_trans hk46 (Keep.of_wr W48).1
      replace k : ow T48 (mkF m 133 #[ow_i p1, ow_i p2, ow_i (p2 &&& (3 : Int32))] [(.ref b44), (.ref b43), (.ref b43)]) := fun t q => k t (st48 t q)
      clear st48
      have hp49 : ∀ c ∈ ([(ow_c (own_mc p1)), (ow_c (own_mc ((p1.toUInt32 >>> ((8 : Int32) &&& 31).toUInt32).toInt32)))] : List Int32), ¬ c < 0 ∧ ¬ (255 : Int32) < c := (List.forall_mem_cons.mpr ⟨(own_omc _).1.1, (List.forall_mem_cons.mpr ⟨(own_omc _).1.1, (fun c hc => nomatch hc)⟩)⟩)
      obtain ⟨_, _, ⟨T49, L49, k49, n49⟩, -, X49, ⟨Lc49, hQ49, l49, y49, z49⟩, st49⟩ := X48.specialBack hx (y := own_y3) rfl hown (mvT hZ (own_h hw 11 rfl)) (mvT hZ (own_h hw 12 rfl)) (mvT hZ (own_h hw 13 rfl)) (by decide) (StrChars.Road.backV (W := 1) hZ (own_wNew hw) (kI := 4) (own_h hw 8 rfl) (cs := ([(ow_c (own_mc p1)), (ow_c (own_mc ((p1.toUInt32 >>> ((8 : Int32) &&& 31).toUInt32).toInt32)))] : List Int32)) (bs := ([(ow_c (own_mc p1)), (ow_c (own_mc ((p1.toUInt32 >>> ((8 : Int32) &&& 31).toUInt32).toInt32)))] : List Int32).map (fun c => c.toInt8.toInt32)) (n := 2) ge_b43 Z48 (((A43.ext E44).wr W46).wr W48) (((F_value_b43.ext E44).other W46 (Or.inl (Nat.ne_of_lt (Nat.lt_of_lt_of_le A43.lt (Nat.le_of_eq g44.symm))))).other W48 (Or.inl (Nat.ne_of_lt (Nat.lt_of_lt_of_le A43.lt (Nat.le_of_eq g44.symm))))) (((F_coder_b43.ext E44).other W46 (Or.inl (Nat.ne_of_lt (Nat.lt_of_lt_of_le A43.lt (Nat.le_of_eq g44.symm))))).other W48 (Or.inl (Nat.ne_of_lt (Nat.lt_of_lt_of_le A43.lt (Nat.le_of_eq g44.symm))))) V48 ((((S_COMPACT_STRINGS.ext E43).ext E44).wr W46).wr W48) hz rfl rfl (by decide) (by decide) hp49 rfl (by decide) (by decide)) (g := (mkF m 133 #[ow_i p1, ow_i p2, ow_i (p2 &&& (3 : Int32))] [(.ref b44), (.ref b43), (.ref b43)])) rfl (by rw [hml]; rfl) (Steps.refl _) (a := b43) (argsL := [(.ref b44)]) (rest := [(.ref b43)]) (lenOf own_pd17 rfl) rfl own_le (D 93 rfl) (fun _ _ => ⟨rfl, e48, (by decide : 2 + 1 ≤ _), (by decide : 6 + 2 ≤ _)⟩)
      dsimp only [Pt.U, Pt.locs, Pt.cells, Pt.slots] at X49 l49 y49 z49 st49 hQ49
      subst l49 y49 z49
      obtain ⟨h49, e49⟩ : ∃ z, T49.heap = z := ⟨_, rfl⟩
      rw [e49] at hQ49
      obtain ⟨rfl, N49q, KC49, EC49, FC49, tt49, kt49, -, -, -, FV49, AV49⟩ := hQ49
      have KK49 : Keep h0 h49 [] := K48.trans KC49 (allS (Or.inr sz_b43) all0)
      have Z49 : n0 ≤ h49.size := Nat.le_trans Z48 KC49.1
      have CU49 := CHr.keep KC49 (sfS (own_safe_null hZ.alike (((A43.ext E44).wr W46).wr W48) (((F_value_b43.ext E44).other W46 (Or.inl (Nat.ne_of_lt (Nat.lt_of_lt_of_le A43.lt (Nat.le_of_eq g44.symm))))).other W48 (Or.inl (Nat.ne_of_lt (Nat.lt_of_lt_of_le A43.lt (Nat.le_of_eq g44.symm)))))) sf0) CH48
      have CR49 := CR48.trans CU49
      have CH49 := CU49.1
      have hk49 := Nat.le_trans hk48 KC49.1
      have TX49 : own_Str Z h49 b43 ([(ow_c (own_mc p1)), (ow_c (own_mc ((p1.toUInt32 >>> ((8 : Int32) &&& 31).toUInt32).toInt32)))] : List Int32) := own_mkStr EC49 FV49 FC49 AV49 rfl hp49 (by decide)
      have N49 := Fr.app N48 N49q
      replace k : ow T49 (mkF m 136 #[ow_i p1, ow_i p2, ow_i (p2 &&& (3 : Int32))] [(.ref b43)]) := fun t q => k t (st49.trans q)
      clear st49
      exact own_endS (v := some (.ref b43)) X49 e49 hS0 hk49 hh Bd.notSynchronized (own_vn Bd.returns) k (fun _ hr => own_retA X49 hx Bd.returns rfl (D 94 rfl) hr) ⟨b43, rfl, N49, KK49, by rw [show own_tN p1 p2 = ([(ow_c (own_mc p1)), (ow_c (own_mc ((p1.toUInt32 >>> ((8 : Int32) &&& 31).toUInt32).toInt32)))] : List Int32) from by unfold own_tN; rw [if_neg hc21, if_neg hc31]]; exact TX49⟩ (CR49.trans (CHv.at X49 hZ (own_EW hw) CH49)) (by decide) (by decide)
theorem own_d11 : own_all method_6_code [(0, .ldc 21, 2), (2, .iload_n 0, 1), (3, .bipush 7, 2), (5, .iand, 1), (6, .invokevirtual 23, 3), (9, .ireturn, 1)] := by decide +kernel
theorem own_ef11 (m : MethodId) (x0 : Int32) : entryFrame m #[(.int x0)] 1 = mkF m 0 #[ow_i x0] [] := by first | (simp [entryFrame, mkF, argsToLocals, Value.category]; done) | rfl
theorem own_pn11 : plainName "com/example/callsite/callsite/model/MethodIdEqualsPinLaw" = true := by first | (simp [plainName, overriddenIn]; done) | decide +kernel
def own_m11_Q (Z : State) (p1 : Int32) (w_COMPACT_STRINGS : Int32) (w_SIOOBE_FORMATTER : Value) (h0 : Heap) (n0 : Nat) (v : Option Value) (h : Heap) (L : List Loc) : Prop := v = some (.int (own_bt p1)) ∧ Fr n0 L ∧ Keep h0 h []
set_option maxRecDepth 65536 in
set_option maxHeartbeats 40000000 in
theorem own_m11 (l : Launch) (Z : State) (a0 : Array Value) (hw : ∀ d ∈ tables_1, d.before a0 Z = true) (ws : List Jvm.Cond) (p1 : Int32) (w_COMPACT_STRINGS : Int32) (w_SIOOBE_FORMATTER : Value) (h0 : Heap) (n0 : Nat) (Z0 : n0 ≤ h0.size) (S_COMPACT_STRINGS : Sta Z h0 "java/lang/String" "COMPACT_STRINGS" "Z" (.int w_COMPACT_STRINGS)) (S_SIOOBE_FORMATTER : Sta Z h0 "jdk/internal/util/Preconditions" "SIOOBE_FORMATTER" "Ljava/util/function/BiFunction;" w_SIOOBE_FORMATTER) (hz : ¬ (w_COMPACT_STRINGS = (0 : Int32))) (hrS : w_SIOOBE_FORMATTER.isRef = true) :
    own_MS l Z own_y11 ws method_6_code 1 (some .char) ({ frames := 4, cells := 2, slots := 36, locals := 53 } : Room) #[(.int p1)] h0 (CHr Z consts_1) (own_m11_Q Z p1 w_COMPACT_STRINGS w_SIOOBE_FORMATTER h0 n0) := by
  refine own_goS CHr.refl "com/example/callsite/callsite/model/MethodIdEqualsPinLaw" rfl (plainFor_of_name own_pn11) (fun m => own_ef11 m p1) own_d11 n0 fun p e s m below meth c s₁ A0 Bd hx D hml hown hnm X0 hZ e0 N0 hh CH0 hS0 hk0 CR0 k => ?_
  obtain ⟨a21, T21, h21, k121, bs21, kc21, X21, e21, E21, hS21, hk21, hZ, hown, EX21, FC21, FV21, AV21, la21, lb21, CU21, LT21, SX21, st21⟩ := ldcCH X0 hx hZ hown (own_h hw 46 rfl) (own_wS hw) e0 hS0 hk0 (own_EW hw) (List.mem_of_getElem? (i := 9) rfl) CH0 (vs := [(.int 66), (.int 67), (.int 68), (.int 70), (.int 73), (.int 74), (.int 83), (.int 90)]) (z := (8 : Int32)) ⟨by decide, by decide⟩ (by decide) (by decide) (g := (mkF m 0 #[ow_i p1] [])) rfl (D 0 rfl) (n := 32) (by decide) (by decide) (by decide) (by decide)
  have Z21 : n0 ≤ h21.size := Nat.le_trans Z0 E21.1
  have K21 : Keep h0 h21 [] := (Keep.refl h0 []).ext E21
  have CR21 := CR0.trans CU21
  have CH21 := CU21.1
  replace k : ow T21 (mkF m 2 #[ow_i p1] [(.ref a21)]) := fun t q => k t (st21 t q)
  clear st21
  replace k : ow T21 (mkF m 5 #[ow_i p1] [(.int 7), (.int p1), (.ref a21)]) := fun t q => k t (XS.iloadN X21.here hx rfl (D 1 rfl) rfl (XS.bipush X21.here hx rfl (D 2 rfl) q))
  replace k : ow T21 (mkF m 6 #[ow_i p1] [(.int (p1 &&& (7 : Int32))), (.ref a21)]) := fun t q => k t (XS.iand X21.here hx rfl (D 3 rfl) rfl q)
  have TL22 : own_Str Z h21 a21 ([66, 67, 68, 70, 73, 74, 83, 90] : List Int32) := ⟨bs21, _, _, _, EX21, FV21, FC21, AV21, Or.inl ⟨rfl, rfl, rfl, by decide⟩, by decide, by decide⟩
  obtain ⟨T23, X23, e23, k⟩ := own_cCh X21 hx hw hZ hown e21 k TL22 (S_COMPACT_STRINGS.ext E21) hz (S_SIOOBE_FORMATTER.ext E21) hrS ((p1 &&& (7 : Int32)).toNatClampNeg) (p1 &&& (7 : Int32)) (own_bt_lt _) (own_bt_j _) 49 50 52 51 8 rfl rfl rfl rfl rfl rfl rfl (by rw [hml]; rfl) [] rfl (W := 0) own_le (D 4 rfl) (by decide) (by decide) (by decide) (by decide)
  exact own_endS (v := some (.int ((([66, 67, 68, 70, 73, 74, 83, 90] : List Int32).getD (p1 &&& (7 : Int32)).toNatClampNeg 0).toUInt32.toUInt16.toUInt32.toInt32))) X23 e23 hS21 hk21 hh Bd.notSynchronized (own_vn Bd.returns) k (fun _ hr => retN X23 hx (t := .char) Bd.returns (by simp) (D 5 rfl) hr) ⟨rfl, N0, K21⟩ (CR21.trans (CHv.at X23 hZ (own_EW hw) CH21)) (by decide) (by decide)
theorem own_d10 : own_all method_7_code [(0, .iload_n 1, 1), (1, .iconst 3, 1), (2, .iand, 1), (3, .iconst 2, 1), (4, .if_icmp .ge 7, 3), (7, .iconst 1, 1), (8, .goto 4, 3), (12, .istore_n 2, 1), (13, .iload_n 2, 1), (14, .ifCond .ne 10, 3), (24, .bipush 86, 2), (26, .goto 9, 3), (11, .iconst 0, 1), (17, .iload_n 0, 1), (18, .bipush 8, 2), (20, .iand, 1), (21, .ifCond .ne 8, 3), (35, .istore_n 3, 1), (36, .iload_n 0, 1), (37, .sipush 128, 3), (40, .iand, 1), (41, .ifCond .eq 28, 3), (69, .new 13, 3), (72, .dup, 1), (73, .iconst 4, 1), (74, .newarray .char, 2), (76, .dup, 1), (77, .iconst 0, 1), (78, .bipush 40, 2), (80, .castore, 1), (81, .dup, 1), (82, .iconst 1, 1), (83, .iload_n 0, 1), (84, .invokestatic 26, 3), (87, .castore, 1), (88, .dup, 1), (89, .iconst 2, 1), (90, .bipush 41, 2), (92, .castore, 1), (93, .dup, 1), (94, .iconst 3, 1), (95, .iload_n 3, 1), (96, .castore, 1), (97, .invokespecial 15, 3), (100, .areturn, 1), (44, .new 13, 3), (47, .dup, 1), (48, .iconst 3, 1), (49, .newarray .char, 2), (51, .dup, 1), (52, .iconst 0, 1), (53, .bipush 40, 2), (55, .castore, 1), (56, .dup, 1), (57, .iconst 1, 1), (58, .bipush 41, 2), (60, .castore, 1), (61, .dup, 1), (62, .iconst 2, 1), (63, .iload_n 3, 1), (64, .castore, 1), (65, .invokespecial 15, 3), (68, .areturn, 1), (29, .iload_n 0, 1), (30, .iconst 4, 1), (31, .iushr, 1), (32, .invokestatic 26, 3)] := by decide +kernel
/-- the chars of this string -/
def own_tD (p1 p2 : Int32) : List Int32 := (if (p2 &&& (3 : Int32)) < (2 : Int32) ∨ (p1 &&& (8 : Int32)) = (0 : Int32) then (if (p1 &&& (128 : Int32)) = (0 : Int32) then ([40, (ow_c (own_bt p1)), 41, 86] : List Int32) else ([40, 41, 86] : List Int32)) else (if (p1 &&& (128 : Int32)) = (0 : Int32) then ([40, (ow_c (own_bt p1)), 41, (ow_c (own_bt ((p1.toUInt32 >>> ((4 : Int32) &&& 31).toUInt32).toInt32)))] : List Int32) else ([40, 41, (ow_c (own_bt ((p1.toUInt32 >>> ((4 : Int32) &&& 31).toUInt32).toInt32)))] : List Int32)))
theorem own_ef10 (m : MethodId) (x0 : Int32) (x1 : Int32) : entryFrame m #[(.int x0), (.int x1)] 4 = mkF m 0 #[ow_i x0, ow_i x1, .unset, .unset] [] := by first | (simp [entryFrame, mkF, argsToLocals, Value.category]; done) | rfl
theorem own_pn10 : plainName "com/example/callsite/callsite/model/MethodIdEqualsPinLaw" = true := by first | (simp [plainName, overriddenIn]; done) | decide +kernel
def own_m10_Q (Z : State) (p1 : Int32) (p2 : Int32) (w_COMPACT_STRINGS : Int32) (w_SIOOBE_FORMATTER : Value) (h0 : Heap) (n0 : Nat) (v : Option Value) (h : Heap) (L : List Loc) : Prop := ∃ a : Addr, v = some (.ref a) ∧ Fr n0 L ∧ Keep h0 h [] ∧ own_Str Z h a (own_tD p1 p2)
set_option maxRecDepth 65536 in
set_option maxHeartbeats 40000000 in
theorem own_m10 (l : Launch) (Z : State) (a0 : Array Value) (hw : ∀ d ∈ tables_1, d.before a0 Z = true) (ws : List Jvm.Cond) (p1 : Int32) (p2 : Int32) (w_COMPACT_STRINGS : Int32) (w_SIOOBE_FORMATTER : Value) (h0 : Heap) (n0 : Nat) (Z0 : n0 ≤ h0.size) (S_COMPACT_STRINGS : Sta Z h0 "java/lang/String" "COMPACT_STRINGS" "Z" (.int w_COMPACT_STRINGS)) (S_SIOOBE_FORMATTER : Sta Z h0 "jdk/internal/util/Preconditions" "SIOOBE_FORMATTER" "Ljava/util/function/BiFunction;" w_SIOOBE_FORMATTER) (hz : ¬ (w_COMPACT_STRINGS = (0 : Int32))) (hrS : w_SIOOBE_FORMATTER.isRef = true) :
    own_MS l Z own_y10 ws method_7_code 4 (some (.object "java/lang/String")) ({ frames := 5, cells := 7, slots := 84, locals := 70 } : Room) #[(.int p1), (.int p2)] h0 (CHr Z consts_1) (own_m10_Q Z p1 p2 w_COMPACT_STRINGS w_SIOOBE_FORMATTER h0 n0) := by
  refine own_goS CHr.refl "com/example/callsite/callsite/model/MethodIdEqualsPinLaw" rfl (plainFor_of_name own_pn10) (fun m => own_ef10 m p1 p2) own_d10 n0 fun p e s m below meth c s₁ A0 Bd hx D hml hown hnm X0 hZ e0 N0 hh CH0 hS0 hk0 CR0 k => ?_
  by_cases hD : (p2 &&& (3 : Int32)) < (2 : Int32) ∨ (p1 &&& (8 : Int32)) = (0 : Int32)
  · replace k : ow s₁ (mkF m 2 #[ow_i p1, ow_i p2, .unset, .unset] [(.int 3), (.int p2)]) := fun t q => k t (XS.iloadN X0.here hx rfl (D 0 rfl) rfl (XS.iconst X0.here hx rfl (D 1 rfl) q))
    replace k : ow s₁ (mkF m 3 #[ow_i p1, ow_i p2, .unset, .unset] [(.int (p2 &&& (3 : Int32)))]) := fun t q => k t (XS.iand X0.here hx rfl (D 2 rfl) rfl q)
    replace k : ow s₁ (mkF m 4 #[ow_i p1, ow_i p2, .unset, .unset] [(.int 2), (.int (p2 &&& (3 : Int32)))]) := fun t q => k t (XS.iconst X0.here hx rfl (D 3 rfl) q)
    replace k : own_To p.tables e below A0 s₁ (mkF m 35 #[ow_i p1, ow_i p2, ow_i (if (p2 &&& (3 : Int32)) < (2 : Int32) then (1 : Int32) else (0 : Int32)), .unset] [(.int 86)]) := by
      by_cases hj21 : (p2 &&& (3 : Int32)) < (2 : Int32)
      · simp only [if_pos hj21]
        replace k : ow s₁ (mkF m 7 #[ow_i p1, ow_i p2, .unset, .unset] []) := fun t q => k t (XS.icmpNo X0.here hx rfl (D 4 rfl) rfl (tlt (show (p2 &&& (3 : Int32)) < (2 : Int32) from hj21)).2.1 q)
        replace k : ow s₁ (mkF m 13 #[ow_i p1, ow_i p2, ow_i 1, .unset] []) := fun t q => k t (XS.iconst X0.here hx rfl (D 5 rfl) (XS.goto X0.here hx rfl (pc0 := 8) (pc' := 12) rfl (D 6 rfl) (by decide) (by decide) (XS.istoreN X0.here hx rfl (D 7 rfl) rfl (l' := #[ow_i p1, ow_i p2, ow_i 1, .unset]) rfl q)))
        replace k : ow s₁ (mkF m 24 #[ow_i p1, ow_i p2, ow_i 1, .unset] []) := fun t q => k t (XS.iloadN X0.here hx rfl (D 8 rfl) rfl (XS.ifYes X0.here hx rfl (pc0 := 14) (pc' := 24) rfl (D 9 rfl) rfl ((if0 _ _).trans (feq (show ¬ ((1 : Int32) = (0 : Int32)) from (by decide))).2) (by decide) (by decide) q))
        replace k : ow s₁ (mkF m 35 #[ow_i p1, ow_i p2, ow_i 1, .unset] [(.int 86)]) := fun t q => k t (XS.bipush X0.here hx rfl (D 10 rfl) (XS.goto X0.here hx rfl (pc0 := 26) (pc' := 35) rfl (D 11 rfl) (by decide) (by decide) q))
        exact k
      · simp only [if_neg hj21]
        replace k : ow s₁ (mkF m 11 #[ow_i p1, ow_i p2, .unset, .unset] []) := fun t q => k t (XS.icmpYes X0.here hx rfl (pc0 := 4) (pc' := 11) rfl (D 4 rfl) rfl (flt (show ¬ ((p2 &&& (3 : Int32)) < (2 : Int32)) from hj21)).2.1 (by decide) (by decide) q)
        replace k : ow s₁ (mkF m 14 #[ow_i p1, ow_i p2, ow_i 0, .unset] [(.int 0)]) := fun t q => k t (XS.iconst X0.here hx rfl (D 12 rfl) (XS.istoreN X0.here hx rfl (D 7 rfl) rfl (l' := #[ow_i p1, ow_i p2, ow_i 0, .unset]) rfl (XS.iloadN X0.here hx rfl (D 8 rfl) rfl q)))
        replace k : ow s₁ (mkF m 17 #[ow_i p1, ow_i p2, ow_i 0, .unset] []) := fun t q => k t (XS.ifNo X0.here hx rfl (D 9 rfl) rfl ((if0 _ _).trans (teq (show (0 : Int32) = (0 : Int32) from (by decide))).2) q)
        replace k : ow s₁ (mkF m 20 #[ow_i p1, ow_i p2, ow_i 0, .unset] [(.int 8), (.int p1)]) := fun t q => k t (XS.iloadN X0.here hx rfl (D 13 rfl) rfl (XS.bipush X0.here hx rfl (D 14 rfl) q))
        replace k : ow s₁ (mkF m 21 #[ow_i p1, ow_i p2, ow_i 0, .unset] [(.int (p1 &&& (8 : Int32)))]) := fun t q => k t (XS.iand X0.here hx rfl (D 15 rfl) rfl q)
        replace k : ow s₁ (mkF m 24 #[ow_i p1, ow_i p2, ow_i 0, .unset] []) := fun t q => k t (XS.ifNo X0.here hx rfl (D 16 rfl) rfl ((if0 _ _).trans (teq (show (p1 &&& (8 : Int32)) = (0 : Int32) from (hD.resolve_left hj21))).2) q)
        replace k : ow s₁ (mkF m 35 #[ow_i p1, ow_i p2, ow_i 0, .unset] [(.int 86)]) := fun t q => k t (XS.bipush X0.here hx rfl (D 10 rfl) (XS.goto X0.here hx rfl (pc0 := 26) (pc' := 35) rfl (D 11 rfl) (by decide) (by decide) q))
        exact k
    replace k : ow s₁ (mkF m 40 #[ow_i p1, ow_i p2, ow_i (if (p2 &&& (3 : Int32)) < (2 : Int32) then (1 : Int32) else (0 : Int32)), ow_i 86] [(.int 128), (.int p1)]) := fun t q => k t (XS.istoreN X0.here hx rfl (D 17 rfl) rfl (l' := #[ow_i p1, ow_i p2, ow_i (if (p2 &&& (3 : Int32)) < (2 : Int32) then (1 : Int32) else (0 : Int32)), ow_i 86]) rfl (XS.iloadN X0.here hx rfl (D 18 rfl) rfl (XS.sipush X0.here hx rfl (D 19 rfl) q)))
    replace k : ow s₁ (mkF m 41 #[ow_i p1, ow_i p2, ow_i (if (p2 &&& (3 : Int32)) < (2 : Int32) then (1 : Int32) else (0 : Int32)), ow_i 86] [(.int (p1 &&& (128 : Int32)))]) := fun t q => k t (XS.iand X0.here hx rfl (D 20 rfl) rfl q)
    by_cases hc22 : (p1 &&& (128 : Int32)) = (0 : Int32)
    · replace k : ow s₁ (mkF m 69 #[ow_i p1, ow_i p2, ow_i (if (p2 &&& (3 : Int32)) < (2 : Int32) then (1 : Int32) else (0 : Int32)), ow_i 86] []) := fun t q => k t (XS.ifYes X0.here hx rfl (pc0 := 41) (pc' := 69) rfl (D 21 rfl) rfl ((if0 _ _).trans (teq (show (p1 &&& (128 : Int32)) = (0 : Int32) from hc22)).1) (by decide) (by decide) q)
      obtain ⟨T23, h23, X23, e23, E23, A23, D23, -, st23⟩ := newO X0 hx hZ hown (own_h hw 7 rfl) (own_h hw 8 rfl) (own_h hw 9 rfl) e0 (g := (mkF m 69 #[ow_i p1, ow_i p2, ow_i (if (p2 &&& (3 : Int32)) < (2 : Int32) then (1 : Int32) else (0 : Int32)), ow_i 86] [])) rfl (D 22 rfl) (by decide) (by decide)
      obtain ⟨b23, g23⟩ : ∃ z, z = h0.size := ⟨_, rfl⟩
      rw [← g23] at A23 D23 st23
      have ge_b23 : n0 ≤ b23 := Nat.le_trans Z0 (Nat.le_of_eq g23.symm)
      have sz_b23 : h0.size ≤ b23 := Nat.le_trans (Keep.refl h0 []).1 (Nat.le_of_eq g23.symm)
      have Z23 : n0 ≤ h23.size := Nat.le_trans Z0 E23.1
      have K23 : Keep h0 h23 [] := (Keep.refl h0 []).ext E23
      have CU23 := CHr.ext E23 CH0
      have CR23 := CR0.trans CU23
      have CH23 := CU23.1
      have hk23 := Nat.le_trans hk0 E23.1
      have F_coder_b23 : Fld Z h23 b23 "java/lang/String" "coder" "B" (.int 0) := D23 (Or.inr (own_h hw 34 rfl)) (ty := .byte) (by decide)
      have F_value_b23 : Fld Z h23 b23 "java/lang/String" "value" "[B" .null := D23 (Or.inr (own_h hw 36 rfl)) (ty := (.array .byte)) (by decide)
      replace k : ow T23 (mkF m 72 #[ow_i p1, ow_i p2, ow_i (if (p2 &&& (3 : Int32)) < (2 : Int32) then (1 : Int32) else (0 : Int32)), ow_i 86] [(.ref b23)]) := fun t q => k t (st23 t q)
      clear st23
      obtain ⟨T24, h24, kc24, X24, e24, E24, A24, st24⟩ := newP X23 hx hZ (own_h hw 10 rfl) e23 (g := (mkF m 74 #[ow_i p1, ow_i p2, ow_i (if (p2 &&& (3 : Int32)) < (2 : Int32) then (1 : Int32) else (0 : Int32)), ow_i 86] [(.int 4), (.ref b23), (.ref b23)])) rfl (D 25 rfl) rfl (by decide) (cap := 4) (by decide) (by decide) (by decide) (by decide)
      obtain ⟨b24, g24⟩ : ∃ z, z = h23.size := ⟨_, rfl⟩
      rw [← g24] at A24 st24
      have ge_b24 : n0 ≤ b24 := Nat.le_trans Z23 (Nat.le_of_eq g24.symm)
      have sz_b24 : h0.size ≤ b24 := Nat.le_trans K23.1 (Nat.le_of_eq g24.symm)
      have Z24 : n0 ≤ h24.size := Nat.le_trans Z23 E24.1
      have K24 : Keep h0 h24 [] := K23.ext E24
      have CU24 := CHr.ext E24 CH23
      have CR24 := CR23.trans CU24
      have CH24 := CU24.1
      have hk24 := Nat.le_trans hk23 E24.1
      have V_b24 : Arv Z h24 b24 kc24 .char (4 : Int32) [(.int 0), (.int 0), (.int 0), (.int 0)] (.int 0) := (Arv.new A24 (by decide)).pad (pad_rep [] (.int 0) 4)
      replace k : ow T24 (mkF m 76 #[ow_i p1, ow_i p2, ow_i (if (p2 &&& (3 : Int32)) < (2 : Int32) then (1 : Int32) else (0 : Int32)), ow_i 86] [(.ref b24), (.ref b23), (.ref b23)]) := fun t q => k t (XS.dup X23.here hx rfl (D 23 rfl) rfl rfl (XS.iconst X23.here hx rfl (D 24 rfl) (st24 t q)))
      clear st24
      replace k : ow T24 (mkF m 80 #[ow_i p1, ow_i p2, ow_i (if (p2 &&& (3 : Int32)) < (2 : Int32) then (1 : Int32) else (0 : Int32)), ow_i 86] [(.int 40), (.int 0), (.ref b24), (.ref b24), (.ref b23), (.ref b23)]) := fun t q => k t (XS.dup X24.here hx rfl (D 26 rfl) rfl rfl (XS.iconst X24.here hx rfl (D 27 rfl) (XS.bipush X24.here hx rfl (D 28 rfl) q)))
      obtain ⟨cl25, Ar25, qa25, Sa25, Na25, Ha25, Ga25⟩ := id V_b24
      obtain ⟨T25, h25, X25, e25, W25, st25⟩ := stC X24 hx hZ e24 Ar25 (j := (0 : Int32)) (own_inb Sa25 (show (0 : Int32) = Nat.toInt32 0 from by decide) (show 0 < ((4 : Int32)).toNatClampNeg from by decide)) (g := (mkF m 80 #[ow_i p1, ow_i p2, ow_i (if (p2 &&& (3 : Int32)) < (2 : Int32) then (1 : Int32) else (0 : Int32)), ow_i 86] [(.int 40), (.int 0), (.ref b24), (.ref b24), (.ref b23), (.ref b23)])) rfl rfl (D 29 rfl)
      have V25 : Arv Z h25 b24 kc24 .char (4 : Int32) [(.int 40), (.int 0), (.int 0), (.int 0)] (.int 0) := Arv.set Ar25 qa25 Sa25 Na25 Ha25 Ga25 (fits_nar_char _) W25 0 (own_idx (show (0 : Int32) = Nat.toInt32 0 from by decide) (by omega)) (Nat.le_of_ble_eq_true rfl)
      have K25 : Keep h0 h25 [] := K24.wr W25 (Or.inr sz_b24)
      have N25 := Fr.snoc X25 N0 ge_b24
      have Z25 : n0 ≤ h25.size := Nat.le_trans Z24 (Keep.of_wr W25).1
      have CU25 := CHr.wr W25 (Safe.arv hZ.alike V_b24 (by decide)) CH24
      have CR25 := CR24.trans CU25
      have CH25 := CU25.1
      have hk25 := Nat.le_trans hk24 (Keep.of_wr W25).1
      replace k : ow T25 (mkF m 81 #[ow_i p1, ow_i p2, ow_i (if (p2 &&& (3 : Int32)) < (2 : Int32) then (1 : Int32) else (0 : Int32)), ow_i 86] [(.ref b24), (.ref b23), (.ref b23)]) := fun t q => k t (st25 t q)
      clear st25
      replace k : ow T25 (mkF m 84 #[ow_i p1, ow_i p2, ow_i (if (p2 &&& (3 : Int32)) < (2 : Int32) then (1 : Int32) else (0 : Int32)), ow_i 86] [(.int p1), (.int 1), (.ref b24), (.ref b24), (.ref b23), (.ref b23)]) := fun t q => k t (XS.dup X25.here hx rfl (D 30 rfl) rfl rfl (XS.iconst X25.here hx rfl (D 31 rfl) (XS.iloadN X25.here hx rfl (D 32 rfl) rfl q)))
      obtain ⟨_, T26, L26, h26, X26, hS26, hZ, hown, e26, hQ26, CU26, k⟩ := own_cSS X25 hx hw hZ hown e25 hS0 hk25 k (backOfSH (W := 5) (own_m11 l Z a0 hw [] p1 w_COMPACT_STRINGS w_SIOOBE_FORMATTER h25 n0 Z25 (((S_COMPACT_STRINGS.ext E23).ext E24).wr W25) (((S_SIOOBE_FORMATTER.ext E23).ext E24).wr W25) hz hrS) hZ (own_h hw 45 rfl) (own_h hw 2 rfl) (by decide) (by decide) (own_EW hw) CH25) 43 44 2 45 rfl rfl rfl rfl (by decide) rfl (by rw [hml]; rfl) [(.int p1)] [(.int 1), (.ref b24), (.ref b24), (.ref b23), (.ref b23)] (lenOf own_pd16 rfl) rfl rfl own_le (D 33 rfl) (by decide) (by decide)
      have hk26 := Nat.le_refl h26.size
      have CR26 := CR25.trans CU26
      have CH26 := CU26.1
      obtain ⟨rfl, N26q, KC26⟩ := hQ26
      have KK26 : Keep h0 h26 [] := K25.trans KC26 all0
      have Z26 : n0 ≤ h26.size := Nat.le_trans Z25 KC26.1
      have N26 := Fr.app N25 N26q
      obtain ⟨cl27, Ar27, qa27, Sa27, Na27, Ha27, Ga27⟩ := id (V25.keep KC26 nin0)
      obtain ⟨T27, h27, X27, e27, W27, st27⟩ := stC X26 hx hZ e26 Ar27 (j := (1 : Int32)) (own_inb Sa27 (show (1 : Int32) = Nat.toInt32 1 from by decide) (show 1 < ((4 : Int32)).toNatClampNeg from by decide)) (g := (mkF m 87 #[ow_i p1, ow_i p2, ow_i (if (p2 &&& (3 : Int32)) < (2 : Int32) then (1 : Int32) else (0 : Int32)), ow_i 86] [(.int (own_bt p1)), (.int 1), (.ref b24), (.ref b24), (.ref b23), (.ref b23)])) rfl rfl (D 34 rfl)
      have V27 : Arv Z h27 b24 kc24 .char (4 : Int32) [(.int 40), (.int (ow_c (own_bt p1))), (.int 0), (.int 0)] (.int 0) := Arv.set Ar27 qa27 Sa27 Na27 Ha27 Ga27 (fits_nar_char _) W27 1 (own_idx (show (1 : Int32) = Nat.toInt32 1 from by decide) (by omega)) (Nat.le_of_ble_eq_true rfl)
      have K27 : Keep h0 h27 [] := KK26.wr W27 (Or.inr sz_b24)
      have N27 := Fr.snoc X27 N26 ge_b24
      have Z27 : n0 ≤ h27.size := Nat.le_trans Z26 (Keep.of_wr W27).1
      have CU27 := CHr.wr W27 (Safe.arv hZ.alike (V25.keep KC26 nin0) (by decide)) CH26
      have CR27 := CR26.trans CU27
      have CH27 := CU27.1
      have hk27 := Nat.le_trans hk26 (Keep.of_wr W27).1
      replace k : ow T27 (mkF m 88 #[ow_i p1, ow_i p2, ow_i (if (p2 &&& (3 : Int32)) < (2 : Int32) then (1 : Int32) else (0 : Int32)), ow_i 86] [(.ref b24), (.ref b23), (.ref b23)]) := fun t q => k t (st27 t q)
      clear st27
      replace k : ow T27 (mkF m 92 #[ow_i p1, ow_i p2, ow_i (if (p2 &&& (3 : Int32)) < (2 : Int32) then (1 : Int32) else (0 : Int32)), ow_i 86] [(.int 41), (.int 2), (.ref b24), (.ref b24), (.ref b23), (.ref b23)]) := fun t q => k t (XS.dup X27.here hx rfl (D 35 rfl) rfl rfl (XS.iconst X27.here hx rfl (D 36 rfl) (XS.bipush X27.here hx rfl (D 37 rfl) q)))
      obtain ⟨cl28, Ar28, qa28, Sa28, Na28, Ha28, Ga28⟩ := id V27
      obtain ⟨T28, h28, X28, e28, W28, st28⟩ := stC X27 hx hZ e27 Ar28 (j := (2 : Int32)) (own_inb Sa28 (show (2 : Int32) = Nat.toInt32 2 from by decide) (show 2 < ((4 : Int32)).toNatClampNeg from by decide)) (g := (mkF m 92 #[ow_i p1, ow_i p2, ow_i (if (p2 &&& (3 : Int32)) < (2 : Int32) then (1 : Int32) else (0 : Int32)), ow_i 86] [(.int 41), (.int 2), (.ref b24), (.ref b24), (.ref b23), (.ref b23)])) rfl rfl (D 38 rfl)
      have V28 : Arv Z h28 b24 kc24 .char (4 : Int32) [(.int 40), (.int (ow_c (own_bt p1))), (.int 41), (.int 0)] (.int 0) := Arv.set Ar28 qa28 Sa28 Na28 Ha28 Ga28 (fits_nar_char _) W28 2 (own_idx (show (2 : Int32) = Nat.toInt32 2 from by decide) (by omega)) (Nat.le_of_ble_eq_true rfl)
      have K28 : Keep h0 h28 [] := K27.wr W28 (Or.inr sz_b24)
      have N28 := Fr.snoc X28 N27 ge_b24
      have Z28 : n0 ≤ h28.size := Nat.le_trans Z27 (Keep.of_wr W28).1
      have CU28 := CHr.wr W28 (Safe.arv hZ.alike V27 (by decide)) CH27
      have CR28 := CR27.trans CU28
      have CH28 := CU28.1
      have hk28 := Nat.le_trans hk27 (Keep.of_wr W28).1
      replace k : ow T28 (mkF m 93 #[ow_i p1, ow_i p2, ow_i (if (p2 &&& (3 : Int32)) < (2 : Int32) then (1 : Int32) else (0 : Int32)), ow_i 86] [(.ref b24), (.ref b23), (.ref b23)]) := fun t q => k t (st28 t q)
      clear st28
      replace k : ow T28 (mkF m 96 #[ow_i p1, ow_i p2, ow_i (if (p2 &&& (3 : Int32)) < (2 : Int32) then (1 : Int32) else (0 : Int32)), ow_i 86] [(.int 86), (.int 3), (.ref b24), (.ref b24), (.ref b23), (.ref b23)]) := fun t q => k t (XS.dup X28.here hx rfl (D 39 rfl) rfl rfl (XS.iconst X28.here hx rfl (D 40 rfl) (XS.iloadN X28.here hx rfl (D 41 rfl) rfl q)))
      obtain ⟨cl29, Ar29, qa29, Sa29, Na29, Ha29, Ga29⟩ := id V28
      obtain ⟨T29, h29, X29, e29, W29, st29⟩ := stC X28 hx hZ e28 Ar29 (j := (3 : Int32)) (own_inb Sa29 (show (3 : Int32) = Nat.toInt32 3 from by decide) (show 3 < ((4 : Int32)).toNatClampNeg from by decide)) (g := (mkF m 96 #[ow_i p1, ow_i p2, ow_i (if (p2 &&& (3 : Int32)) < (2 : Int32) then (1 : Int32) else (0 : Int32)), ow_i 86] [(.int 86), (.int 3), (.ref b24), (.ref b24), (.ref b23), (.ref b23)])) rfl rfl (D 42 rfl)
      have V29 : Arv Z h29 b24 kc24 .char (4 : Int32) [(.int 40), (.int (ow_c (own_bt p1))), (.int 41), (.int 86)] (.int 0) := Arv.set Ar29 qa29 Sa29 Na29 Ha29 Ga29 (fits_nar_char _) W29 3 (own_idx (show (3 : Int32) = Nat.toInt32 3 from by decide) (by omega)) (Nat.le_of_ble_eq_true rfl)
      have K29 : Keep h0 h29 [] := K28.wr W29 (Or.inr sz_b24)
      have N29 := Fr.snoc X29 N28 ge_b24
      have Z29 : n0 ≤ h29.size := Nat.le_trans Z28 (Keep.of_wr W29).1
      have CU29 := CHr.wr W29 (Safe.arv hZ.alike V28 (by decide)) CH28
      have CR29 := CR28.trans CU29
      have CH29 := CU29.1
      have hk29 := Nat.le_trans hk28 (Keep.of_wr W29).1
      replace k : ow T29 (mkF m 97 #[ow_i p1, ow_i p2, ow_i (if (p2 &&& (3 : Int32)) < (2 : Int32) then (1 : Int32) else (0 : Int32)), ow_i 86] [(.ref b24), (.ref b23), (.ref b23)]) := fun t q => k t (st29 t q)
      clear st29
      have hp30 : ∀ c ∈ ([40, (ow_c (own_bt p1)), 41, 86] : List Int32), ¬ c < 0 ∧ ¬ (255 : Int32) < c := (List.forall_mem_cons.mpr ⟨(by decide), (List.forall_mem_cons.mpr ⟨(own_obt _).rng, (List.forall_mem_cons.mpr ⟨(by decide), (List.forall_mem_cons.mpr ⟨(by decide), (fun c hc => nomatch hc)⟩)⟩)⟩)⟩)
      obtain ⟨_, _, ⟨T30, L30, k30, n30⟩, -, X30, ⟨Lc30, hQ30, l30, y30, z30⟩, st30⟩ := X29.specialBack hx (y := own_y3) rfl hown (mvT hZ (own_h hw 11 rfl)) (mvT hZ (own_h hw 12 rfl)) (mvT hZ (own_h hw 13 rfl)) (by decide) (StrChars.Road.backV (W := 1) hZ (own_wNew hw) (kI := 4) (own_h hw 8 rfl) (cs := ([40, (ow_c (own_bt p1)), 41, 86] : List Int32)) (bs := ([40, (ow_c (own_bt p1)), 41, 86] : List Int32).map (fun c => c.toInt8.toInt32)) (n := 4) ge_b23 Z29 ((((((A23.ext E24).wr W25).keep KC26).wr W27).wr W28).wr W29) ((((((F_value_b23.ext E24).other W25 (Or.inl (Nat.ne_of_lt (Nat.lt_of_lt_of_le A23.lt (Nat.le_of_eq g24.symm))))).keep KC26 nin0).other W27 (Or.inl (Nat.ne_of_lt (Nat.lt_of_lt_of_le A23.lt (Nat.le_of_eq g24.symm))))).other W28 (Or.inl (Nat.ne_of_lt (Nat.lt_of_lt_of_le A23.lt (Nat.le_of_eq g24.symm))))).other W29 (Or.inl (Nat.ne_of_lt (Nat.lt_of_lt_of_le A23.lt (Nat.le_of_eq g24.symm))))) ((((((F_coder_b23.ext E24).other W25 (Or.inl (Nat.ne_of_lt (Nat.lt_of_lt_of_le A23.lt (Nat.le_of_eq g24.symm))))).keep KC26 nin0).other W27 (Or.inl (Nat.ne_of_lt (Nat.lt_of_lt_of_le A23.lt (Nat.le_of_eq g24.symm))))).other W28 (Or.inl (Nat.ne_of_lt (Nat.lt_of_lt_of_le A23.lt (Nat.le_of_eq g24.symm))))).other W29 (Or.inl (Nat.ne_of_lt (Nat.lt_of_lt_of_le A23.lt (Nat.le_of_eq g24.symm))))) V29 ((((own_sta_keep (((S_COMPACT_STRINGS.ext E23).ext E24).wr W25) KC26 ns0).wr W27).wr W28).wr W29) hz rfl rfl (by decide) (by decide) hp30 rfl (by decide) (by decide)) (g := (mkF m 97 #[ow_i p1, ow_i p2, ow_i (if (p2 &&& (3 : Int32)) < (2 : Int32) then (1 : Int32) else (0 : Int32)), ow_i 86] [(.ref b24), (.ref b23), (.ref b23)])) rfl (by rw [hml]; rfl) (Steps.refl _) (a := b23) (argsL := [(.ref b24)]) (rest := [(.ref b23)]) (lenOf own_pd17 rfl) rfl own_le (D 43 rfl) (fun _ _ => ⟨rfl, e29, (by decide : 4 + 1 ≤ _), (by decide : 44 + 4 ≤ _)⟩)
      dsimp only [Pt.U, Pt.locs, Pt.cells, Pt.slots] at X30 l30 y30 z30 st30 hQ30
      subst l30 y30 z30
      obtain ⟨h30, e30⟩ : ∃ z, T30.heap = z := ⟨_, rfl⟩
      rw [e30] at hQ30
      obtain ⟨rfl, N30q, KC30, EC30, FC30, tt30, kt30, -, -, -, FV30, AV30⟩ := hQ30
      have KK30 : Keep h0 h30 [] := K29.trans KC30 (allS (Or.inr sz_b23) all0)
      have Z30 : n0 ≤ h30.size := Nat.le_trans Z29 KC30.1
      have CU30 := CHr.keep KC30 (sfS (own_safe_null hZ.alike ((((((A23.ext E24).wr W25).keep KC26).wr W27).wr W28).wr W29) ((((((F_value_b23.ext E24).other W25 (Or.inl (Nat.ne_of_lt (Nat.lt_of_lt_of_le A23.lt (Nat.le_of_eq g24.symm))))).keep KC26 nin0).other W27 (Or.inl (Nat.ne_of_lt (Nat.lt_of_lt_of_le A23.lt (Nat.le_of_eq g24.symm))))).other W28 (Or.inl (Nat.ne_of_lt (Nat.lt_of_lt_of_le A23.lt (Nat.le_of_eq g24.symm))))).other W29 (Or.inl (Nat.ne_of_lt (Nat.lt_of_lt_of_le A23.lt (Nat.le_of_eq g24.symm)))))) sf0) CH29
      have CR30 := CR29.trans CU30
      have CH30 := CU30.1
      have hk30 := Nat.le_trans hk29 KC30.1
      have TX30 : own_Str Z h30 b23 ([40, (ow_c (own_bt p1)), 41, 86] : List Int32) := own_mkStr EC30 FV30 FC30 AV30 rfl hp30 (by decide)
      have N30 := Fr.app N29 N30q
      replace k : ow T30 (mkF m 100 #[ow_i p1, ow_i p2, ow_i (if (p2 &&& (3 : Int32)) < (2 : Int32) then (1 : Int32) else (0 : Int32)), ow_i 86] [(.ref b23)]) := fun t q => k t (st30.trans q)
      clear st30
      exact own_endS (v := some (.ref b23)) X30 e30 hS26 hk30 hh Bd.notSynchronized (own_vn Bd.returns) k (fun _ hr => own_retA X30 hx Bd.returns rfl (D 44 rfl) hr) ⟨b23, rfl, N30, KK30, by rw [show own_tD p1 p2 = ([40, (ow_c (own_bt p1)), 41, 86] : List Int32) from by unfold own_tD; rw [if_pos hD, if_pos hc22]]; exact TX30⟩ (CR30.trans (CHv.at X30 hZ (own_EW hw) CH30)) (by decide) (by decide)
    · replace k : ow s₁ (mkF m 44 #[ow_i p1, ow_i p2, ow_i (if (p2 &&& (3 : Int32)) < (2 : Int32) then (1 : Int32) else (0 : Int32)), ow_i 86] []) := fun t q => k t (XS.ifNo X0.here hx rfl (D 21 rfl) rfl ((if0 _ _).trans (feq (show ¬ ((p1 &&& (128 : Int32)) = (0 : Int32)) from hc22)).1) q)
      obtain ⟨T31, h31, X31, e31, E31, A31, D31, -, st31⟩ := newO X0 hx hZ hown (own_h hw 7 rfl) (own_h hw 8 rfl) (own_h hw 9 rfl) e0 (g := (mkF m 44 #[ow_i p1, ow_i p2, ow_i (if (p2 &&& (3 : Int32)) < (2 : Int32) then (1 : Int32) else (0 : Int32)), ow_i 86] [])) rfl (D 45 rfl) (by decide) (by decide)
      obtain ⟨b31, g31⟩ : ∃ z, z = h0.size := ⟨_, rfl⟩
      rw [← g31] at A31 D31 st31
      have ge_b31 : n0 ≤ b31 := Nat.le_trans Z0 (Nat.le_of_eq g31.symm)
      have sz_b31 : h0.size ≤ b31 := Nat.le_trans (Keep.refl h0 []).1 (Nat.le_of_eq g31.symm)
      have Z31 : n0 ≤ h31.size := Nat.le_trans Z0 E31.1
      have K31 : Keep h0 h31 [] := (Keep.refl h0 []).ext E31
      have CU31 := CHr.ext E31 CH0
      have CR31 := CR0.trans CU31
      have CH31 := CU31.1
      have hk31 := Nat.le_trans hk0 E31.1
      have F_coder_b31 : Fld Z h31 b31 "java/lang/String" "coder" "B" (.int 0) := D31 (Or.inr (own_h hw 34 rfl)) (ty := .byte) (by decide)
      have F_value_b31 : Fld Z h31 b31 "java/lang/String" "value" "[B" .null := D31 (Or.inr (own_h hw 36 rfl)) (ty := (.array .byte)) (by decide)
      replace k : ow T31 (mkF m 47 #[ow_i p1, ow_i p2, ow_i (if (p2 &&& (3 : Int32)) < (2 : Int32) then (1 : Int32) else (0 : Int32)), ow_i 86] [(.ref b31)]) := fun t q => k t (st31 t q)
      clear st31
      obtain ⟨T32, h32, kc32, X32, e32, E32, A32, st32⟩ := newP X31 hx hZ (own_h hw 10 rfl) e31 (g := (mkF m 49 #[ow_i p1, ow_i p2, ow_i (if (p2 &&& (3 : Int32)) < (2 : Int32) then (1 : Int32) else (0 : Int32)), ow_i 86] [(.int 3), (.ref b31), (.ref b31)])) rfl (D 48 rfl) rfl (by decide) (cap := 3) (by decide) (by decide) (by decide) (by decide)
      obtain ⟨b32, g32⟩ : ∃ z, z = h31.size := ⟨_, rfl⟩
      rw [← g32] at A32 st32
      have ge_b32 : n0 ≤ b32 := Nat.le_trans Z31 (Nat.le_of_eq g32.symm)
      have sz_b32 : h0.size ≤ b32 := Nat.le_trans K31.1 (Nat.le_of_eq g32.symm)
      have Z32 : n0 ≤ h32.size := Nat.le_trans Z31 E32.1
      have K32 : Keep h0 h32 [] := K31.ext E32
      have CU32 := CHr.ext E32 CH31
      have CR32 := CR31.trans CU32
      have CH32 := CU32.1
      have hk32 := Nat.le_trans hk31 E32.1
      have V_b32 : Arv Z h32 b32 kc32 .char (3 : Int32) [(.int 0), (.int 0), (.int 0)] (.int 0) := (Arv.new A32 (by decide)).pad (pad_rep [] (.int 0) 3)
      replace k : ow T32 (mkF m 51 #[ow_i p1, ow_i p2, ow_i (if (p2 &&& (3 : Int32)) < (2 : Int32) then (1 : Int32) else (0 : Int32)), ow_i 86] [(.ref b32), (.ref b31), (.ref b31)]) := fun t q => k t (XS.dup X31.here hx rfl (D 46 rfl) rfl rfl (XS.iconst X31.here hx rfl (D 47 rfl) (st32 t q)))
      clear st32
      replace k : ow T32 (mkF m 55 #[ow_i p1, ow_i p2, ow_i (if (p2 &&& (3 : Int32)) < (2 : Int32) then (1 : Int32) else (0 : Int32)), ow_i 86] [(.int 40), (.int 0), (.ref b32), (.ref b32), (.ref b31), (.ref b31)]) := fun t q => k t (XS.dup X32.here hx rfl (D 49 rfl) rfl rfl (XS.iconst X32.here hx rfl (D 50 rfl) (XS.bipush X32.here hx rfl (D 51 rfl) q)))
      obtain ⟨cl33, Ar33, qa33, Sa33, Na33, Ha33, Ga33⟩ := id V_b32
      obtain ⟨T33, h33, X33, e33, W33, st33⟩ := stC X32 hx hZ e32 Ar33 (j := (0 : Int32)) (own_inb Sa33 (show (0 : Int32) = Nat.toInt32 0 from by decide) (show 0 < ((3 : Int32)).toNatClampNeg from by decide)) (g := (mkF m 55 #[ow_i p1, ow_i p2, ow_i (if (p2 &&& (3 : Int32)) < (2 : Int32) then (1 : Int32) else (0 : Int32)), ow_i 86] [(.int 40), (.int 0), (.ref b32), (.ref b32), (.ref b31), (.ref b31)])) rfl rfl (D 52 rfl)
      have V33 : Arv Z h33 b32 kc32 .char (3 : Int32) [(.int 40), (.int 0), (.int 0)] (.int 0) := Arv.set Ar33 qa33 Sa33 Na33 Ha33 Ga33 (fits_nar_char _) W33 0 (own_idx (show (0 : Int32) = Nat.toInt32 0 from by decide) (by omega)) (Nat.le_of_ble_eq_true rfl)
      have K33 : Keep h0 h33 [] := K32.wr W33 (Or.inr sz_b32)
      have N33 := Fr.snoc X33 N0 ge_b32
      have Z33 : n0 ≤ h33.size := Nat.le_trans Z32 (Keep.of_wr W33).1
      have CU33 := CHr.wr W33 (Safe.arv hZ.alike V_b32 (by decide)) CH32
      have CR33 := CR32.trans CU33
      have CH33 := CU33.1
      have hk33 := Nat.le_trans hk32 (Keep.of_wr W33).1
      replace k : ow T33 (mkF m 56 #[ow_i p1, ow_i p2, ow_i (if (p2 &&& (3 : Int32)) < (2 : Int32) then (1 : Int32) else (0 : Int32)), ow_i 86] [(.ref b32), (.ref b31), (.ref b31)]) := fun t q => k t (st33 t q)
      clear st33
      replace k : ow T33 (mkF m 60 #[ow_i p1, ow_i p2, ow_i (if (p2 &&& (3 : Int32)) < (2 : Int32) then (1 : Int32) else (0 : Int32)), ow_i 86] [(.int 41), (.int 1), (.ref b32), (.ref b32), (.ref b31), (.ref b31)]) := fun t q => k t (XS.dup X33.here hx rfl (D 53 rfl) rfl rfl (XS.iconst X33.here hx rfl (D 54 rfl) (XS.bipush X33.here hx rfl (D 55 rfl) q)))
      obtain ⟨cl34, Ar34, qa34, Sa34, Na34, Ha34, Ga34⟩ := id V33
      obtain ⟨T34, h34, X34, e34, W34, st34⟩ := stC X33 hx hZ e33 Ar34 (j := (1 : Int32)) (own_inb Sa34 (show (1 : Int32) = Nat.toInt32 1 from by decide) (show 1 < ((3 : Int32)).toNatClampNeg from by decide)) (g := (mkF m 60 #[ow_i p1, ow_i p2, ow_i (if (p2 &&& (3 : Int32)) < (2 : Int32) then (1 : Int32) else (0 : Int32)), ow_i 86] [(.int 41), (.int 1), (.ref b32), (.ref b32), (.ref b31), (.ref b31)])) rfl rfl (D 56 rfl)
      have V34 : Arv Z h34 b32 kc32 .char (3 : Int32) [(.int 40), (.int 41), (.int 0)] (.int 0) := Arv.set Ar34 qa34 Sa34 Na34 Ha34 Ga34 (fits_nar_char _) W34 1 (own_idx (show (1 : Int32) = Nat.toInt32 1 from by decide) (by omega)) (Nat.le_of_ble_eq_true rfl)
      have K34 : Keep h0 h34 [] := K33.wr W34 (Or.inr sz_b32)
      have N34 := Fr.snoc X34 N33 ge_b32
      have Z34 : n0 ≤ h34.size := Nat.le_trans Z33 (Keep.of_wr W34).1
      have CU34 := CHr.wr W34 (Safe.arv hZ.alike V33 (by decide)) CH33
      have CR34 := CR33.trans CU34
      have CH34 := CU34.1
      have hk34 := Nat.le_trans hk33 (Keep.of_wr W34).1
      replace k : ow T34 (mkF m 61 #[ow_i p1, ow_i p2, ow_i (if (p2 &&& (3 : Int32)) < (2 : Int32) then (1 : Int32) else (0 : Int32)), ow_i 86] [(.ref b32), (.ref b31), (.ref b31)]) := fun t q => k t (st34 t q)
      clear st34
      replace k : ow T34 (mkF m 64 #[ow_i p1, ow_i p2, ow_i (if (p2 &&& (3 : Int32)) < (2 : Int32) then (1 : Int32) else (0 : Int32)), ow_i 86] [(.int 86), (.int 2), (.ref b32), (.ref b32), (.ref b31), (.ref b31)]) := fun t q => k t (XS.dup X34.here hx rfl (D 57 rfl) rfl rfl (XS.iconst X34.here hx rfl (D 58 rfl) (XS.iloadN X34.here hx rfl (D 59 rfl) rfl q)))
      obtain ⟨cl35, Ar35, qa35, Sa35, Na35, Ha35, Ga35⟩ := id V34
      obtain ⟨T35, h35, X35, e35, W35, st35⟩ := stC X34 hx hZ e34 Ar35 (j := (2 : Int32)) (own_inb Sa35 (show (2 : Int32) = Nat.toInt32 2 from by decide) (show 2 < ((3 : Int32)).toNatClampNeg from by decide)) (g := (mkF m 64 #[ow_i p1, ow_i p2, ow_i (if (p2 &&& (3 : Int32)) < (2 : Int32) then (1 : Int32) else (0 : Int32)), ow_i 86] [(.int 86), (.int 2), (.ref b32), (.ref b32), (.ref b31), (.ref b31)])) rfl rfl (D 60 rfl)
      have V35 : Arv Z h35 b32 kc32 .char (3 : Int32) [(.int 40), (.int 41), (.int 86)] (.int 0) := Arv.set Ar35 qa35 Sa35 Na35 Ha35 Ga35 (fits_nar_char _) W35 2 (own_idx (show (2 : Int32) = Nat.toInt32 2 from by decide) (by omega)) (Nat.le_of_ble_eq_true rfl)
      have K35 : Keep h0 h35 [] := K34.wr W35 (Or.inr sz_b32)
      have N35 := Fr.snoc X35 N34 ge_b32
      have Z35 : n0 ≤ h35.size := Nat.le_trans Z34 (Keep.of_wr W35).1
      have CU35 := CHr.wr W35 (Safe.arv hZ.alike V34 (by decide)) CH34
      have CR35 := CR34.trans CU35
      have CH35 := CU35.1
      have hk35 := Nat.le_trans hk34 (Keep.of_wr W35).1
      replace k : ow T35 (mkF m 65 #[ow_i p1, ow_i p2, ow_i (if (p2 &&& (3 : Int32)) < (2 : Int32) then (1 : Int32) else (0 : Int32)), ow_i 86] [(.ref b32), (.ref b31), (.ref b31)]) := fun t q => k t (st35 t q)
      clear st35
      have hp36 : ∀ c ∈ ([40, 41, 86] : List Int32), ¬ c < 0 ∧ ¬ (255 : Int32) < c := (List.forall_mem_cons.mpr ⟨(by decide), (List.forall_mem_cons.mpr ⟨(by decide), (List.forall_mem_cons.mpr ⟨(by decide), (fun c hc => nomatch hc)⟩)⟩)⟩)
      obtain ⟨_, _, ⟨T36, L36, k36, n36⟩, -, X36, ⟨Lc36, hQ36, l36, y36, z36⟩, st36⟩ := X35.specialBack hx (y := own_y3) rfl hown (mvT hZ (own_h hw 11 rfl)) (mvT hZ (own_h hw 12 rfl)) (mvT hZ (own_h hw 13 rfl)) (by decide) (StrChars.Road.backV (W := 1) hZ (own_wNew hw) (kI := 4) (own_h hw 8 rfl) (cs := ([40, 41, 86] : List Int32)) (bs := ([40, 41, 86] : List Int32).map (fun c => c.toInt8.toInt32)) (n := 3) ge_b31 Z35 ((((A31.ext E32).wr W33).wr W34).wr W35) ((((F_value_b31.ext E32).other W33 (Or.inl (Nat.ne_of_lt (Nat.lt_of_lt_of_le A31.lt (Nat.le_of_eq g32.symm))))).other W34 (Or.inl (Nat.ne_of_lt (Nat.lt_of_lt_of_le A31.lt (Nat.le_of_eq g32.symm))))).other W35 (Or.inl (Nat.ne_of_lt (Nat.lt_of_lt_of_le A31.lt (Nat.le_of_eq g32.symm))))) ((((F_coder_b31.ext E32).other W33 (Or.inl (Nat.ne_of_lt (Nat.lt_of_lt_of_le A31.lt (Nat.le_of_eq g32.symm))))).other W34 (Or.inl (Nat.ne_of_lt (Nat.lt_of_lt_of_le A31.lt (Nat.le_of_eq g32.symm))))).other W35 (Or.inl (Nat.ne_of_lt (Nat.lt_of_lt_of_le A31.lt (Nat.le_of_eq g32.symm))))) V35 (((((S_COMPACT_STRINGS.ext E31).ext E32).wr W33).wr W34).wr W35) hz rfl rfl (by decide) (by decide) hp36 rfl (by decide) (by decide)) (g := (mkF m 65 #[ow_i p1, ow_i p2, ow_i (if (p2 &&& (3 : Int32)) < (2 : Int32) then (1 : Int32) else (0 : Int32)), ow_i 86] [(.ref b32), (.ref b31), (.ref b31)])) rfl (by rw [hml]; rfl) (Steps.refl _) (a := b31) (argsL := [(.ref b32)]) (rest := [(.ref b31)]) (lenOf own_pd17 rfl) rfl own_le (D 61 rfl) (fun _ _ => ⟨rfl, e35, (by decide : 2 + 1 ≤ _), (by decide : 7 + 3 ≤ _)⟩)
      dsimp only [Pt.U, Pt.locs, Pt.cells, Pt.slots] at X36 l36 y36 z36 st36 hQ36
      subst l36 y36 z36
      obtain ⟨h36, e36⟩ : ∃ z, T36.heap = z := ⟨_, rfl⟩
      rw [e36] at hQ36
      obtain ⟨rfl, N36q, KC36, EC36, FC36, tt36, kt36, -, -, -, FV36, AV36⟩ := hQ36
      have KK36 : Keep h0 h36 [] := K35.trans KC36 (allS (Or.inr sz_b31) all0)
      have Z36 : n0 ≤ h36.size := Nat.le_trans Z35 KC36.1
      have CU36 := CHr.keep KC36 (sfS (own_safe_null hZ.alike ((((A31.ext E32).wr W33).wr W34).wr W35) ((((F_value_b31.ext E32).other W33 (Or.inl (Nat.ne_of_lt (Nat.lt_of_lt_of_le A31.lt (Nat.le_of_eq g32.symm))))).other W34 (Or.inl (Nat.ne_of_lt (Nat.lt_of_lt_of_le A31.lt (Nat.le_of_eq g32.symm))))).other W35 (Or.inl (Nat.ne_of_lt (Nat.lt_of_lt_of_le A31.lt (Nat.le_of_eq g32.symm)))))) sf0) CH35
      have CR36 := CR35.trans CU36
      have CH36 := CU36.1
      have hk36 := Nat.le_trans hk35 KC36.1
      have TX36 : own_Str Z h36 b31 ([40, 41, 86] : List Int32) := own_mkStr EC36 FV36 FC36 AV36 rfl hp36 (by decide)
      have N36 := Fr.app N35 N36q
      replace k : ow T36 (mkF m 68 #[ow_i p1, ow_i p2, ow_i (if (p2 &&& (3 : Int32)) < (2 : Int32) then (1 : Int32) else (0 : Int32)), ow_i 86] [(.ref b31)]) := fun t q => k t (st36.trans q)
      clear st36
      exact own_endS (v := some (.ref b31)) X36 e36 hS0 hk36 hh Bd.notSynchronized (own_vn Bd.returns) k (fun _ hr => own_retA X36 hx Bd.returns rfl (D 62 rfl) hr) ⟨b31, rfl, N36, KK36, by rw [show own_tD p1 p2 = ([40, 41, 86] : List Int32) from by unfold own_tD; rw [if_pos hD, if_neg hc22]]; exact TX36⟩ (CR36.trans (CHv.at X36 hZ (own_EW hw) CH36)) (by decide) (by decide)
  · replace k : ow s₁ (mkF m 2 #[ow_i p1, ow_i p2, .unset, .unset] [(.int 3), (.int p2)]) := fun t q => k t (XS.iloadN X0.here hx rfl (D 0 rfl) rfl (XS.iconst X0.here hx rfl (D 1 rfl) q))
    replace k : ow s₁ (mkF m 3 #[ow_i p1, ow_i p2, .unset, .unset] [(.int (p2 &&& (3 : Int32)))]) := fun t q => k t (XS.iand X0.here hx rfl (D 2 rfl) rfl q)
    replace k : ow s₁ (mkF m 4 #[ow_i p1, ow_i p2, .unset, .unset] [(.int 2), (.int (p2 &&& (3 : Int32)))]) := fun t q => k t (XS.iconst X0.here hx rfl (D 3 rfl) q)
    replace k : ow s₁ (mkF m 11 #[ow_i p1, ow_i p2, .unset, .unset] []) := fun t q => k t (XS.icmpYes X0.here hx rfl (pc0 := 4) (pc' := 11) rfl (D 4 rfl) rfl (flt (show ¬ ((p2 &&& (3 : Int32)) < (2 : Int32)) from (fun q => hD (Or.inl q)))).2.1 (by decide) (by decide) q)
    replace k : ow s₁ (mkF m 14 #[ow_i p1, ow_i p2, ow_i 0, .unset] [(.int 0)]) := fun t q => k t (XS.iconst X0.here hx rfl (D 12 rfl) (XS.istoreN X0.here hx rfl (D 7 rfl) rfl (l' := #[ow_i p1, ow_i p2, ow_i 0, .unset]) rfl (XS.iloadN X0.here hx rfl (D 8 rfl) rfl q)))
    replace k : ow s₁ (mkF m 17 #[ow_i p1, ow_i p2, ow_i 0, .unset] []) := fun t q => k t (XS.ifNo X0.here hx rfl (D 9 rfl) rfl ((if0 _ _).trans (teq (show (0 : Int32) = (0 : Int32) from (by decide))).2) q)
    replace k : ow s₁ (mkF m 20 #[ow_i p1, ow_i p2, ow_i 0, .unset] [(.int 8), (.int p1)]) := fun t q => k t (XS.iloadN X0.here hx rfl (D 13 rfl) rfl (XS.bipush X0.here hx rfl (D 14 rfl) q))
    replace k : ow s₁ (mkF m 21 #[ow_i p1, ow_i p2, ow_i 0, .unset] [(.int (p1 &&& (8 : Int32)))]) := fun t q => k t (XS.iand X0.here hx rfl (D 15 rfl) rfl q)
    replace k : ow s₁ (mkF m 29 #[ow_i p1, ow_i p2, ow_i 0, .unset] []) := fun t q => k t (XS.ifYes X0.here hx rfl (pc0 := 21) (pc' := 29) rfl (D 16 rfl) rfl ((if0 _ _).trans (feq (show ¬ ((p1 &&& (8 : Int32)) = (0 : Int32)) from (fun q => hD (Or.inr q)))).2) (by decide) (by decide) q)
    replace k : ow s₁ (mkF m 31 #[ow_i p1, ow_i p2, ow_i 0, .unset] [(.int 4), (.int p1)]) := fun t q => k t (XS.iloadN X0.here hx rfl (D 63 rfl) rfl (XS.iconst X0.here hx rfl (D 64 rfl) q))
    replace k : ow s₁ (mkF m 32 #[ow_i p1, ow_i p2, ow_i 0, .unset] [(.int ((p1.toUInt32 >>> ((4 : Int32) &&& 31).toUInt32).toInt32))]) := fun t q => k t (XS.iushr X0.here hx rfl (D 65 rfl) rfl q)
    obtain ⟨_, T37, L37, h37, X37, hS37, hZ, hown, e37, hQ37, CU37, k⟩ := own_cSS X0 hx hw hZ hown e0 hS0 hk0 k (backOfSH (W := 0) (own_m11 l Z a0 hw [] ((p1.toUInt32 >>> ((4 : Int32) &&& 31).toUInt32).toInt32) w_COMPACT_STRINGS w_SIOOBE_FORMATTER h0 n0 Z0 S_COMPACT_STRINGS S_SIOOBE_FORMATTER hz hrS) hZ (own_h hw 45 rfl) (own_h hw 2 rfl) (by decide) (by decide) (own_EW hw) CH0) 43 44 2 45 rfl rfl rfl rfl (by decide) rfl (by rw [hml]; rfl) [(.int ((p1.toUInt32 >>> ((4 : Int32) &&& 31).toUInt32).toInt32))] [] (lenOf own_pd16 rfl) rfl rfl own_le (D 66 rfl) (by decide) (by decide)
    have hk37 := Nat.le_refl h37.size
    have CR37 := CR0.trans CU37
    have CH37 := CU37.1
    obtain ⟨rfl, N37q, KC37⟩ := hQ37
    have KK37 : Keep h0 h37 [] := (Keep.refl h0 []).trans KC37 all0
    have Z37 : n0 ≤ h37.size := Nat.le_trans Z0 KC37.1
    have N37 := Fr.app N0 N37q
    replace k : ow T37 (mkF m 40 #[ow_i p1, ow_i p2, ow_i 0, ow_i (own_bt ((p1.toUInt32 >>> ((4 : Int32) &&& 31).toUInt32).toInt32))] [(.int 128), (.int p1)]) := fun t q => k t (XS.istoreN X37.here hx rfl (D 17 rfl) rfl (l' := #[ow_i p1, ow_i p2, ow_i 0, ow_i (own_bt ((p1.toUInt32 >>> ((4 : Int32) &&& 31).toUInt32).toInt32))]) rfl (XS.iloadN X37.here hx rfl (D 18 rfl) rfl (XS.sipush X37.here hx rfl (D 19 rfl) q)))
    replace k : ow T37 (mkF m 41 #[ow_i p1, ow_i p2, ow_i 0, ow_i (own_bt ((p1.toUInt32 >>> ((4 : Int32) &&& 31).toUInt32).toInt32))] [(.int (p1 &&& (128 : Int32)))]) := fun t q => k t (XS.iand X37.here hx rfl (D 20 rfl) rfl q)
    by_cases hc38 : (p1 &&& (128 : Int32)) = (0 : Int32)
    · replace k : ow T37 (mkF m 69 #[ow_i p1, ow_i p2, ow_i 0, ow_i (own_bt ((p1.toUInt32 >>> ((4 : Int32) &&& 31).toUInt32).toInt32))] []) := fun t q => k t (XS.ifYes X37.here hx rfl (pc0 := 41) (pc' := 69) rfl (D 21 rfl) rfl ((if0 _ _).trans (teq (show (p1 &&& (128 : Int32)) = (0 : Int32) from hc38)).1) (by decide) (by decide) q)
      obtain ⟨T39, h39, X39, e39, E39, A39, D39, -, st39⟩ := newO X37 hx hZ hown (own_h hw 7 rfl) (own_h hw 8 rfl) (own_h hw 9 rfl) e37 (g := (mkF m 69 #[ow_i p1, ow_i p2, ow_i 0, ow_i (own_bt ((p1.toUInt32 >>> ((4 : Int32) &&& 31).toUInt32).toInt32))] [])) rfl (D 22 rfl) (by decide) (by decide)
      obtain ⟨b39, g39⟩ : ∃ z, z = h37.size := ⟨_, rfl⟩
      rw [← g39] at A39 D39 st39
      have ge_b39 : n0 ≤ b39 := Nat.le_trans Z37 (Nat.le_of_eq g39.symm)
      have sz_b39 : h0.size ≤ b39 := Nat.le_trans KK37.1 (Nat.le_of_eq g39.symm)
      have Z39 : n0 ≤ h39.size := Nat.le_trans Z37 E39.1
      have K39 : Keep h0 h39 [] := KK37.ext E39
      have CU39 := CHr.ext E39 CH37
      have CR39 := CR37.trans CU39
      have CH39 := CU39.1
      have hk39 := Nat.le_trans hk37 E39.1
      have F_coder_b39 : Fld Z h39 b39 "java/lang/String" "coder" "B" (.int 0) := D39 (Or.inr (own_h hw 34 rfl)) (ty := .byte) (by decide)
      have F_value_b39 : Fld Z h39 b39 "java/lang/String" "value" "[B" .null := D39 (Or.inr (own_h hw 36 rfl)) (ty := (.array .byte)) (by decide)
      replace k : ow T39 (mkF m 72 #[ow_i p1, ow_i p2, ow_i 0, ow_i (own_bt ((p1.toUInt32 >>> ((4 : Int32) &&& 31).toUInt32).toInt32))] [(.ref b39)]) := fun t q => k t (st39 t q)
      clear st39
      obtain ⟨T40, h40, kc40, X40, e40, E40, A40, st40⟩ := newP X39 hx hZ (own_h hw 10 rfl) e39 (g := (mkF m 74 #[ow_i p1, ow_i p2, ow_i 0, ow_i (own_bt ((p1.toUInt32 >>> ((4 : Int32) &&& 31).toUInt32).toInt32))] [(.int 4), (.ref b39), (.ref b39)])) rfl (D 25 rfl) rfl (by decide) (cap := 4) (by decide) (by decide) (by decide) (by decide)
      obtain ⟨b40, g40⟩ : ∃ z, z = h39.size := ⟨_, rfl⟩
      rw [← g40] at A40 st40
      have ge_b40 : n0 ≤ b40 := Nat.le_trans Z39 (Nat.le_of_eq g40.symm)
      have sz_b40 : h0.size ≤ b40 := Nat.le_trans K39.1 (Nat.le_of_eq g40.symm)
      have Z40 : n0 ≤ h40.size := Nat.le_trans Z39 E40.1
      have K40 : Keep h0 h40 [] := K39.ext E40
      have CU40 := CHr.ext E40 CH39
      have CR40 := CR39.trans CU40
      have CH40 := CU40.1
      have hk40 := Nat.le_trans hk39 E40.1
      have V_b40 : Arv Z h40 b40 kc40 .char (4 : Int32) [(.int 0), (.int 0), (.int 0), (.int 0)] (.int 0) := (Arv.new A40 (by decide)).pad (pad_rep [] (.int 0) 4)
      replace k : ow T40 (mkF m 76 #[ow_i p1, ow_i p2, ow_i 0, ow_i (own_bt ((p1.toUInt32 >>> ((4 : Int32) &&& 31).toUInt32).toInt32))] [(.ref b40), (.ref b39), (.ref b39)]) := fun t q => k t (XS.dup X39.here hx rfl (D 23 rfl) rfl rfl (XS.iconst X39.here hx rfl (D 24 rfl) (st40 t q)))
      clear st40
      replace k : ow T40 (mkF m 80 #[ow_i p1, ow_i p2, ow_i 0, ow_i (own_bt ((p1.toUInt32 >>> ((4 : Int32) &&& 31).toUInt32).toInt32))] [(.int 40), (.int 0), (.ref b40), (.ref b40), (.ref b39), (.ref b39)]) := fun t q => k t (XS.dup X40.here hx rfl (D 26 rfl) rfl rfl (XS.iconst X40.here hx rfl (D 27 rfl) (XS.bipush X40.here hx rfl (D 28 rfl) q)))
      obtain ⟨cl41, Ar41, qa41, Sa41, Na41, Ha41, Ga41⟩ := id V_b40
      obtain ⟨T41, h41, X41, e41, W41, st41⟩ := stC X40 hx hZ e40 Ar41 (j := (0 : Int32)) (own_inb Sa41 (show (0 : Int32) = Nat.toInt32 0 from by decide) (show 0 < ((4 : Int32)).toNatClampNeg from by decide)) (g := (mkF m 80 #[ow_i p1, ow_i p2, ow_i 0, ow_i (own_bt ((p1.toUInt32 >>> ((4 : Int32) &&& 31).toUInt32).toInt32))] [(.int 40), (.int 0), (.ref b40), (.ref b40), (.ref b39), (.ref b39)])) rfl rfl (D 29 rfl)
      have V41 : Arv Z h41 b40 kc40 .char (4 : Int32) [(.int 40), (.int 0), (.int 0), (.int 0)] (.int 0) := Arv.set Ar41 qa41 Sa41 Na41 Ha41 Ga41 (fits_nar_char _) W41 0 (own_idx (show (0 : Int32) = Nat.toInt32 0 from by decide) (by omega)) (Nat.le_of_ble_eq_true rfl)
      have K41 : Keep h0 h41 [] := K40.wr W41 (Or.inr sz_b40)
      have N41 := Fr.snoc X41 N37 ge_b40
      have Z41 : n0 ≤ h41.size := Nat.le_trans Z40 (Keep.of_wr W41).1
      have CU41 := CHr.wr W41 (Safe.arv hZ.alike V_b40 (by decide)) CH40
      have CR41 := CR40.trans CU41
      have CH41 := CU41.1
      have hk41 := Nat.le_trans hk40 (Keep.of_wr W41).1
      replace k : ow T41 (mkF m 81 #[ow_i p1, ow_i p2, ow_i 0, ow_i (own_bt ((p1.toUInt32 >>> ((4 : Int32) &&& 31).toUInt32).toInt32))] [(.ref b40), (.ref b39), (.ref b39)]) := fun t q => k t (st41 t q)
      clear st41
      replace k : ow T41 (mkF m 84 #[ow_i p1, ow_i p2, ow_i 0, ow_i (own_bt ((p1.toUInt32 >>> ((4 : Int32) &&& 31).toUInt32).toInt32))] [(.int p1), (.int 1), (.ref b40), (.ref b40), (.ref b39), (.ref b39)]) := fun t q => k t (XS.dup X41.here hx rfl (D 30 rfl) rfl rfl (XS.iconst X41.here hx rfl (D 31 rfl) (XS.iloadN X41.here hx rfl (D 32 rfl) rfl q)))
      obtain ⟨_, T42, L42, h42, X42, hS42, hZ, hown, e42, hQ42, CU42, k⟩ := own_cSS X41 hx hw hZ hown e41 hS37 hk41 k (backOfSH (W := 5) (own_m11 l Z a0 hw [] p1 w_COMPACT_STRINGS w_SIOOBE_FORMATTER h41 n0 Z41 ((((own_sta_keep S_COMPACT_STRINGS KC37 ns0).ext E39).ext E40).wr W41) ((((own_sta_keep S_SIOOBE_FORMATTER KC37 ns0).ext E39).ext E40).wr W41) hz hrS) hZ (own_h hw 45 rfl) (own_h hw 2 rfl) (by decide) (by decide) (own_EW hw) CH41) 43 44 2 45 rfl rfl rfl rfl (by decide) rfl (by rw [hml]; rfl) [(.int p1)] [(.int 1), (.ref b40), (.ref b40), (.ref b39), (.ref b39)] (lenOf own_pd16 rfl) rfl rfl own_le (D 33 rfl) (by decide) (by decide)
      have hk42 := Nat.le_refl h42.size
      have CR42 := CR41.trans CU42
      have CH42 := CU42.1
      obtain ⟨rfl, N42q, KC42⟩ := hQ42
      have KK42 : Keep h0 h42 [] := K41.trans KC42 all0
      have Z42 : n0 ≤ h42.size := Nat.le_trans Z41 KC42.1
      have N42 := Fr.app N41 N42q
      obtain ⟨cl43, Ar43, qa43, Sa43, Na43, Ha43, Ga43⟩ := id (V41.keep KC42 nin0)
      obtain ⟨T43, h43, X43, e43, W43, st43⟩ := stC X42 hx hZ e42 Ar43 (j := (1 : Int32)) (own_inb Sa43 (show (1 : Int32) = Nat.toInt32 1 from by decide) (show 1 < ((4 : Int32)).toNatClampNeg from by decide)) (g := (mkF m 87 #[ow_i p1, ow_i p2, ow_i 0, ow_i (own_bt ((p1.toUInt32 >>> ((4 : Int32) &&& 31).toUInt32).toInt32))] [(.int (own_bt p1)), (.int 1), (.ref b40), (.ref b40), (.ref b39), (.ref b39)])) rfl rfl (D 34 rfl)
      have V43 : Arv Z h43 b40 kc40 .char (4 : Int32) [(.int 40), (.int (ow_c (own_bt p1))), (.int 0), (.int 0)] (.int 0) := Arv.set Ar43 qa43 Sa43 Na43 Ha43 Ga43 (fits_nar_char _) W43 1 (own_idx (show (1 : Int32) = Nat.toInt32 1 from by decide) (by omega)) (Nat.le_of_ble_eq_true rfl)
      have K43 : Keep h0 h43 [] := KK42.wr W43 (Or.inr sz_b40)
      have N43 := Fr.snoc X43 N42 ge_b40
      have Z43 : n0 ≤ h43.size := Nat.le_trans Z42 (Keep.of_wr W43).1
      have CU43 := CHr.wr W43 (Safe.arv hZ.alike (V41.keep KC42 nin0) (by decide)) CH42
      have CR43 := CR42.trans CU43
      have CH43 := CU43.1
      have hk43 := Nat.le_trans hk42 (Keep.of_wr W43).1
      replace k : ow T43 (mkF m 88 #[ow_i p1, ow_i p2, ow_i 0, ow_i (own_bt ((p1.toUInt32 >>> ((4 : Int32) &&& 31).toUInt32).toInt32))] [(.ref b40), (.ref b39), (.ref b39)]) := fun t q => k t (st43 t q)
      clear st43
      replace k : ow T43 (mkF m 92 #[ow_i p1, ow_i p2, ow_i 0, ow_i (own_bt ((p1.toUInt32 >>> ((4 : Int32) &&& 31).toUInt32).toInt32))] [(.int 41), (.int 2), (.ref b40), (.ref b40), (.ref b39), (.ref b39)]) := fun t q => k t (XS.dup X43.here hx rfl (D 35 rfl) rfl rfl (XS.iconst X43.here hx rfl (D 36 rfl) (XS.bipush X43.here hx rfl (D 37 rfl) q)))
      obtain ⟨cl44, Ar44, qa44, Sa44, Na44, Ha44, Ga44⟩ := id V43
      obtain ⟨T44, h44, X44, e44, W44, st44⟩ := stC X43 hx hZ e43 Ar44 (j := (2 : Int32)) (own_inb Sa44 (show (2 : Int32) = Nat.toInt32 2 from by decide) (show 2 < ((4 : Int32)).toNatClampNeg from by decide)) (g := (mkF m 92 #[ow_i p1, ow_i p2, ow_i 0, ow_i (own_bt ((p1.toUInt32 >>> ((4 : Int32) &&& 31).toUInt32).toInt32))] [(.int 41), (.int 2), (.ref b40), (.ref b40), (.ref b39), (.ref b39)])) rfl rfl (D 38 rfl)
      have V44 : Arv Z h44 b40 kc40 .char (4 : Int32) [(.int 40), (.int (ow_c (own_bt p1))), (.int 41), (.int 0)] (.int 0) := Arv.set Ar44 qa44 Sa44 Na44 Ha44 Ga44 (fits_nar_char _) W44 2 (own_idx (show (2 : Int32) = Nat.toInt32 2 from by decide) (by omega)) (Nat.le_of_ble_eq_true rfl)
      have K44 : Keep h0 h44 [] := K43.wr W44 (Or.inr sz_b40)
      have N44 := Fr.snoc X44 N43 ge_b40
      have Z44 : n0 ≤ h44.size := Nat.le_trans Z43 (Keep.of_wr W44).1
      have CU44 := CHr.wr W44 (Safe.arv hZ.alike V43 (by decide)) CH43
      have CR44 := CR43.trans CU44
      have CH44 := CU44.1
      have hk44 := Nat.le_trans hk43 (Keep.of_wr W44).1
      replace k : ow T44 (mkF m 93 #[ow_i p1, ow_i p2, ow_i 0, ow_i (own_bt ((p1.toUInt32 >>> ((4 : Int32) &&& 31).toUInt32).toInt32))] [(.ref b40), (.ref b39), (.ref b39)]) := fun t q => k t (st44 t q)
      clear st44
      replace k : ow T44 (mkF m 96 #[ow_i p1, ow_i p2, ow_i 0, ow_i (own_bt ((p1.toUInt32 >>> ((4 : Int32) &&& 31).toUInt32).toInt32))] [(.int (own_bt ((p1.toUInt32 >>> ((4 : Int32) &&& 31).toUInt32).toInt32))), (.int 3), (.ref b40), (.ref b40), (.ref b39), (.ref b39)]) := fun t q => k t (XS.dup X44.here hx rfl (D 39 rfl) rfl rfl (XS.iconst X44.here hx rfl (D 40 rfl) (XS.iloadN X44.here hx rfl (D 41 rfl) rfl q)))
      obtain ⟨cl45, Ar45, qa45, Sa45, Na45, Ha45, Ga45⟩ := id V44
      obtain ⟨T45, h45, X45, e45, W45, st45⟩ := stC X44 hx hZ e44 Ar45 (j := (3 : Int32)) (own_inb Sa45 (show (3 : Int32) = Nat.toInt32 3 from by decide) (show 3 < ((4 : Int32)).toNatClampNeg from by decide)) (g := (mkF m 96 #[ow_i p1, ow_i p2, ow_i 0, ow_i (own_bt ((p1.toUInt32 >>> ((4 : Int32) &&& 31).toUInt32).toInt32))] [(.int (own_bt ((p1.toUInt32 >>> ((4 : Int32) &&& 31).toUInt32).toInt32))), (.int 3), (.ref b40), (.ref b40), (.ref b39), (.ref b39)])) rfl rfl (D 42 rfl)
      have V45 : Arv Z h45 b40 kc40 .char (4 : Int32) [(.int 40), (.int (ow_c (own_bt p1))), (.int 41), (.int (ow_c (own_bt ((p1.toUInt32 >>> ((4 : Int32) &&& 31).toUInt32).toInt32))))] (.int 0) := Arv.set Ar45 qa45 Sa45 Na45 Ha45 Ga45 (fits_nar_char _) W45 3 (own_idx (show (3 : Int32) = Nat.toInt32 3 from by decide) (by omega)) (Nat.le_of_ble_eq_true rfl)
      have K45 : Keep h0 h45 [] := K44.wr W45 (Or.inr sz_b40)
      have N45 := Fr.snoc X45 N44 ge_b40
      have Z45 : n0 ≤ h45.size := Nat.le_trans Z44 (Keep.of_wr W45).1
      have CU45 := CHr.wr W45 (Safe.arv hZ.alike V44 (by decide)) CH44
      have CR45 := CR44.trans CU45
      have CH45 := CU45.1
      have hk45 := Nat.le_trans hk44 (Keep.of_wr W45).1
      replace k : ow T45 (mkF m 97 #[ow_i p1, ow_i p2, ow_i 0, ow_i (own_bt ((p1.toUInt32 >>> ((4 : Int32) &&& 31).toUInt32).toInt32))] [(.ref b40), (.ref b39), (.ref b39)]) := fun t q => k t (st45 t q)
      clear st45
      have hp46 : ∀ c ∈ ([40, (ow_c (own_bt p1)), 41, (ow_c (own_bt ((p1.toUInt32 >>> ((4 : Int32) &&& 31).toUInt32).toInt32)))] : List Int32), ¬ c < 0 ∧ ¬ (255 : Int32) < c := (List.forall_mem_cons.mpr ⟨(by decide), (List.forall_mem_cons.mpr ⟨(own_obt _).rng, (List.forall_mem_cons.mpr ⟨(by decide), (List.forall_mem_cons.mpr ⟨(own_obt _).rng, (fun c hc => nomatch hc)⟩)⟩)⟩)⟩)
      obtain ⟨_, _, ⟨T46, L46, k46, n46⟩, -, X46, ⟨Lc46, hQ46, l46, y46, z46⟩, st46⟩ := X45.specialBack hx (y := own_y3) rfl hown (mvT hZ (own_h hw 11 rfl)) (mvT hZ (own_h hw 12 rfl)) (mvT hZ (own_h hw 13 rfl)) (by decide) (StrChars.Road.backV (W := 1) hZ (own_wNew hw) (kI := 4) (own_h hw 8 rfl) (cs := ([40, (ow_c (own_bt p1)), 41, (ow_c (own_bt ((p1.toUInt32 >>> ((4 : Int32) &&& 31).toUInt32).toInt32)))] : List Int32)) (bs := ([40, (ow_c (own_bt p1)), 41, (ow_c (own_bt ((p1.toUInt32 >>> ((4 : Int32) &&& 31).toUInt32).toInt32)))] : List Int32).map (fun c => c.toInt8.toInt32)) (n := 4) ge_b39 Z45 ((((((A39.ext E40).wr W41).keep KC42).wr W43).wr W44).wr W45) ((((((F_value_b39.ext E40).other W41 (Or.inl (Nat.ne_of_lt (Nat.lt_of_lt_of_le A39.lt (Nat.le_of_eq g40.symm))))).keep KC42 nin0).other W43 (Or.inl (Nat.ne_of_lt (Nat.lt_of_lt_of_le A39.lt (Nat.le_of_eq g40.symm))))).other W44 (Or.inl (Nat.ne_of_lt (Nat.lt_of_lt_of_le A39.lt (Nat.le_of_eq g40.symm))))).other W45 (Or.inl (Nat.ne_of_lt (Nat.lt_of_lt_of_le A39.lt (Nat.le_of_eq g40.symm))))) ((((((F_coder_b39.ext E40).other W41 (Or.inl (Nat.ne_of_lt (Nat.lt_of_lt_of_le A39.lt (Nat.le_of_eq g40.symm))))).keep KC42 nin0).other W43 (Or.inl (Nat.ne_of_lt (Nat.lt_of_lt_of_le A39.lt (Nat.le_of_eq g40.symm))))).other W44 (Or.inl (Nat.ne_of_lt (Nat.lt_of_lt_of_le A39.lt (Nat.le_of_eq g40.symm))))).other W45 (Or.inl (Nat.ne_of_lt (Nat.lt_of_lt_of_le A39.lt (Nat.le_of_eq g40.symm))))) V45 ((((own_sta_keep ((((own_sta_keep S_COMPACT_STRINGS KC37 ns0).ext E39).ext E40).wr W41) KC42 ns0).wr W43).wr W44).wr W45) hz rfl rfl (by decide) (by decide) hp46 rfl (by decide) (by decide)) (g := (mkF m 97 #[ow_i p1, ow_i p2, ow_i 0, ow_i (own_bt ((p1.toUInt32 >>> ((4 : Int32) &&& 31).toUInt32).toInt32))] [(.ref b40), (.ref b39), (.ref b39)])) rfl (by rw [hml]; rfl) (Steps.refl _) (a := b39) (argsL := [(.ref b40)]) (rest := [(.ref b39)]) (lenOf own_pd17 rfl) rfl own_le (D 43 rfl) (fun _ _ => ⟨rfl, e45, (by decide : 6 + 1 ≤ _), (by decide : 80 + 4 ≤ _)⟩)
      dsimp only [Pt.U, Pt.locs, Pt.cells, Pt.slots] at X46 l46 y46 z46 st46 hQ46
      subst l46 y46 z46
      obtain ⟨h46, e46⟩ : ∃ z, T46.heap = z := ⟨_, rfl⟩
      rw [e46] at hQ46
      obtain ⟨rfl, N46q, KC46, EC46, FC46, tt46, kt46, -, -, -, FV46, AV46⟩ := hQ46
      have KK46 : Keep h0 h46 [] := K45.trans KC46 (allS (Or.inr sz_b39) all0)
      have Z46 : n0 ≤ h46.size := Nat.le_trans Z45 KC46.1
      have CU46 := CHr.keep KC46 (sfS (own_safe_null hZ.alike ((((((A39.ext E40).wr W41).keep KC42).wr W43).wr W44).wr W45) ((((((F_value_b39.ext E40).other W41 (Or.inl (Nat.ne_of_lt (Nat.lt_of_lt_of_le A39.lt (Nat.le_of_eq g40.symm))))).keep KC42 nin0).other W43 (Or.inl (Nat.ne_of_lt (Nat.lt_of_lt_of_le A39.lt (Nat.le_of_eq g40.symm))))).other W44 (Or.inl (Nat.ne_of_lt (Nat.lt_of_lt_of_le A39.lt (Nat.le_of_eq g40.symm))))).other W45 (Or.inl (Nat.ne_of_lt (Nat.lt_of_lt_of_le A39.lt (Nat.le_of_eq g40.symm)))))) sf0) CH45
      have CR46 := CR45.trans CU46
      have CH46 := CU46.1
      have hk46 := Nat.le_trans hk45 KC46.1
      have TX46 : own_Str Z h46 b39 ([40, (ow_c (own_bt p1)), 41, (ow_c (own_bt ((p1.toUInt32 >>> ((4 : Int32) &&& 31).toUInt32).toInt32)))] : List Int32) := own_mkStr EC46 FV46 FC46 AV46 rfl hp46 (by decide)
      have N46 := Fr.app N45 N46q
      replace k : ow T46 (mkF m 100 #[ow_i p1, ow_i p2, ow_i 0, ow_i (own_bt ((p1.toUInt32 >>> ((4 : Int32) &&& 31).toUInt32).toInt32))] [(.ref b39)]) := fun t q => k t (st46.trans q)
      clear st46
      exact own_endS (v := some (.ref b39)) X46 e46 hS42 hk46 hh Bd.notSynchronized (own_vn Bd.returns) k (fun _ hr => own_retA X46 hx Bd.returns rfl (D 44 rfl) hr) ⟨b39, rfl, N46, KK46, by rw [show own_tD p1 p2 = ([40, (ow_c (own_bt p1)), 41, (ow_c (own_bt ((p1.toUInt32 >>> ((4 : Int32) &&& 31).toUInt32).toInt32)))] : List Int32) from by unfold own_tD; rw [if_neg hD, if_pos hc38]]; exact TX46⟩ (CR46.trans (CHv.at X46 hZ (own_EW hw) CH46)) (by decide) (by decide)
    · replace k : ow T37 (mkF m 44 #[ow_i p1, ow_i p2, ow_i 0, ow_i (own_bt ((p1.toUInt32 >>> ((4 : Int32) &&& 31).toUInt32).toInt32))] []) := fun t q => k t (XS.ifNo X37.here hx rfl (D 21 rfl) rfl ((if0 _ _).trans (feq (show ¬ ((p1 &&& (128 : Int32)) = (0 : Int32)) from hc38)).1) q)
      obtain ⟨T47, h47, X47, e47, E47, A47, D47, -, st47⟩ := newO X37 hx hZ hown (own_h hw 7 rfl) (own_h hw 8 rfl) (own_h hw 9 rfl) e37 (g := (mkF m 44 #[ow_i p1, ow_i p2, ow_i 0, ow_i (own_bt ((p1.toUInt32 >>> ((4 : Int32) &&& 31).toUInt32).toInt32))] [])) rfl (D 45 rfl) (by decide) (by decide)
      obtain ⟨b47, g47⟩ : ∃ z, z = h37.size := ⟨_, rfl⟩
      rw [← g47] at A47 D47 st47
      have ge_b47 : n0 ≤ b47 := Nat.le_trans Z37 (Nat.le_of_eq g47.symm)
      have sz_b47 : h0.size ≤ b47 := Nat.le_trans KK37.1 (Nat.le_of_eq g47.symm)
      have Z47 : n0 ≤ h47.size := Nat.le_trans Z37 E47.1
      have K47 : Keep h0 h47 [] := KK37.ext E47
      have CU47 := CHr.ext E47 CH37
      have CR47 := CR37.trans CU47
      have CH47 := CU47.1
      have hk47 := Nat.le_trans hk37 E47.1
      have F_coder_b47 : Fld Z h47 b47 "java/lang/String" "coder" "B" (.int 0) := D47 (Or.inr (own_h hw 34 rfl)) (ty := .byte) (by decide)
      have F_value_b47 : Fld Z h47 b47 "java/lang/String" "value" "[B" .null := D47 (Or.inr (own_h hw 36 rfl)) (ty := (.array .byte)) (by decide)
      replace k : ow T47 (mkF m 47 #[ow_i p1, ow_i p2, ow_i 0, ow_i (own_bt ((p1.toUInt32 >>> ((4 : Int32) &&& 31).toUInt32).toInt32))] [(.ref b47)]) := fun t q => k t (st47 t q)
      clear st47
      obtain ⟨T48, h48, kc48, X48, e48, E48, A48, st48⟩ := newP X47 hx hZ (own_h hw 10 rfl) e47 (g := (mkF m 49 #[ow_i p1, ow_i p2, ow_i 0, ow_i (own_bt ((p1.toUInt32 >>> ((4 : Int32) &&& 31).toUInt32).toInt32))] [(.int 3), (.ref b47), (.ref b47)])) rfl (D 48 rfl) rfl (by decide) (cap := 3) (by decide) (by decide) (by decide) (by decide)
      obtain ⟨b48, g48⟩ : ∃ z, z = h47.size := ⟨_, rfl⟩
      rw [← g48] at A48 st48
      have ge_b48 : n0 ≤ b48 := Nat.le_trans Z47 (Nat.le_of_eq g48.symm)
      have sz_b48 : h0.size ≤ b48 := Nat.le_trans K47.1 (Nat.le_of_eq g48.symm)
      have Z48 : n0 ≤ h48.size := Nat.le_trans Z47 E48.1
      have K48 : Keep h0 h48 [] := K47.ext E48
      have CU48 := CHr.ext E48 CH47
      have CR48 := CR47.trans CU48
      have CH48 := CU48.1
      have hk48 := Nat.le_trans hk47 E48.1
      have V_b48 : Arv Z h48 b48 kc48 .char (3 : Int32) [(.int 0), (.int 0), (.int 0)] (.int 0) := (Arv.new A48 (by decide)).pad (pad_rep [] (.int 0) 3)
      replace k : ow T48 (mkF m 51 #[ow_i p1, ow_i p2, ow_i 0, ow_i (own_bt ((p1.toUInt32 >>> ((4 : Int32) &&& 31).toUInt32).toInt32))] [(.ref b48), (.ref b47), (.ref b47)]) := fun t q => k t (XS.dup X47.here hx rfl (D 46 rfl) rfl rfl (XS.iconst X47.here hx rfl (D 47 rfl) (st48 t q)))
      clear st48
      replace k : ow T48 (mkF m 55 #[ow_i p1, ow_i p2, ow_i 0, ow_i (own_bt ((p1.toUInt32 >>> ((4 : Int32) &&& 31).toUInt32).toInt32))] [(.int 40), (.int 0), (.ref b48), (.ref b48), (.ref b47), (.ref b47)]) := fun t q => k t (XS.dup X48.here hx rfl (D 49 rfl) rfl rfl (XS.iconst X48.here hx rfl (D 50 rfl) (XS.bipush X48.here hx rfl (D 51 rfl) q)))
      obtain ⟨cl49, Ar49, qa49, Sa49, Na49, Ha49, Ga49⟩ := id V_b48
      obtain ⟨T49, h49, X49, e49, W49, st49⟩ := stC X48 hx hZ e48 Ar49 (j := (0 : Int32)) (own_inb Sa49 (show (0 : Int32) = Nat.toInt32 0 from by decide) (show 0 < ((3 : Int32)).toNatClampNeg from by decide)) (g := (mkF m 55 #[ow_i p1, ow_i p2, ow_i 0, ow_i (own_bt ((p1.toUInt32 >>> ((4 : Int32) &&& 31).toUInt32).toInt32))] [(.int 40), (.int 0), (.ref b48), (.ref b48), (.ref b47), (.ref b47)])) rfl rfl (D 52 rfl)
      have V49 : Arv Z h49 b48 kc48 .char (3 : Int32) [(.int 40), (.int 0), (.int 0)] (.int 0) := Arv.set Ar49 qa49 Sa49 Na49 Ha49 Ga49 (fits_nar_char _) W49 0 (own_idx (show (0 : Int32) = Nat.toInt32 0 from by decide) (by omega)) (Nat.le_of_ble_eq_true rfl)
      have K49 : Keep h0 h49 [] := K48.wr W49 (Or.inr sz_b48)
      have N49 := Fr.snoc X49 N37 ge_b48
      have Z49 : n0 ≤ h49.size := Nat.le_trans Z48 (Keep.of_wr W49).1
      have CU49 := CHr.wr W49 (Safe.arv hZ.alike V_b48 (by decide)) CH48
      have CR49 := CR48.trans CU49
      have CH49 := CU49.1
      have hk49 := Nat.le_trans hk48 (Keep.of_wr W49).1
      replace k : ow T49 (mkF m 56 #[ow_i p1, ow_i p2, ow_i 0, ow_i (own_bt ((p1.toUInt32 >>> ((4 : Int32) &&& 31).toUInt32).toInt32))] [(.ref b48), (.ref b47), (.ref b47)]) := fun t q => k t (st49 t q)
      clear st49
      replace k : ow T49 (mkF m 60 #[ow_i p1, ow_i p2, ow_i 0, ow_i (own_bt ((p1.toUInt32 >>> ((4 : Int32) &&& 31).toUInt32).toInt32))] [(.int 41), (.int 1), (.ref b48), (.ref b48), (.ref b47), (.ref b47)]) := fun t q => k t (XS.dup X49.here hx rfl (D 53 rfl) rfl rfl (XS.iconst X49.here hx rfl (D 54 rfl) (XS.bipush X49.here hx rfl (D 55 rfl) q)))
      obtain ⟨cl50, Ar50, qa50, Sa50, Na50, Ha50, Ga50⟩ := id V49
      obtain ⟨T50, h50, X50, e50, W50, st50⟩ := stC X49 hx hZ e49 Ar50 (j := (1 : Int32)) (own_inb Sa50 (show (1 : Int32) = Nat.toInt32 1 from by decide) (show 1 < ((3 : Int32)).toNatClampNeg from by decide)) (g := (mkF m 60 #[ow_i p1, ow_i p2, ow_i 0, ow_i (own_bt ((p1.toUInt32 >>> ((4 : Int32) &&& 31).toUInt32).toInt32))] [(.int 41), (.int 1), (.ref b48), (.ref b48), (.ref b47), (.ref b47)])) rfl rfl (D 56 rfl)
      have V50 : Arv Z h50 b48 kc48 .char (3 : Int32) [(.int 40), (.int 41), (.int 0)] (.int 0) := Arv.set Ar50 qa50 Sa50 Na50 Ha50 Ga50 (fits_nar_char _) W50 1 (own_idx (show (1 : Int32) = Nat.toInt32 1 from by decide) (by omega)) (Nat.le_of_ble_eq_true rfl)
      have K50 : Keep h0 h50 [] := K49.wr W50 (Or.inr sz_b48)
      have N50 := Fr.snoc X50 N49 ge_b48
      have Z50 : n0 ≤ h50.size := Nat.le_trans Z49 (Keep.of_wr W50).1
      have CU50 := CHr.wr W50 (Safe.arv hZ.alike V49 (by decide)) CH49
      have CR50 := CR49.trans CU50
      have CH50 := CU50.1
      have hk50 := Nat.le_trans hk49 (Keep.of_wr W50).1
      replace k : ow T50 (mkF m 61 #[ow_i p1, ow_i p2, ow_i 0, ow_i (own_bt ((p1.toUInt32 >>> ((4 : Int32) &&& 31).toUInt32).toInt32))] [(.ref b48), (.ref b47), (.ref b47)]) := fun t q => k t (st50 t q)
      clear st50
      replace k : ow T50 (mkF m 64 #[ow_i p1, ow_i p2, ow_i 0, ow_i (own_bt ((p1.toUInt32 >>> ((4 : Int32) &&& 31).toUInt32).toInt32))] [(.int (own_bt ((p1.toUInt32 >>> ((4 : Int32) &&& 31).toUInt32).toInt32))), (.int 2), (.ref b48), (.ref b48), (.ref b47), (.ref b47)]) := fun t q => k t (XS.dup X50.here hx rfl (D 57 rfl) rfl rfl (XS.iconst X50.here hx rfl (D 58 rfl) (XS.iloadN X50.here hx rfl (D 59 rfl) rfl q)))
      obtain ⟨cl51, Ar51, qa51, Sa51, Na51, Ha51, Ga51⟩ := id V50
      obtain ⟨T51, h51, X51, e51, W51, st51⟩ := stC X50 hx hZ e50 Ar51 (j := (2 : Int32)) (own_inb Sa51 (show (2 : Int32) = Nat.toInt32 2 from by decide) (show 2 < ((3 : Int32)).toNatClampNeg from by decide)) (g := (mkF m 64 #[ow_i p1, ow_i p2, ow_i 0, ow_i (own_bt ((p1.toUInt32 >>> ((4 : Int32) &&& 31).toUInt32).toInt32))] [(.int (own_bt ((p1.toUInt32 >>> ((4 : Int32) &&& 31).toUInt32).toInt32))), (.int 2), (.ref b48), (.ref b48), (.ref b47), (.ref b47)])) rfl rfl (D 60 rfl)
      have V51 : Arv Z h51 b48 kc48 .char (3 : Int32) [(.int 40), (.int 41), (.int (ow_c (own_bt ((p1.toUInt32 >>> ((4 : Int32) &&& 31).toUInt32).toInt32))))] (.int 0) := Arv.set Ar51 qa51 Sa51 Na51 Ha51 Ga51 (fits_nar_char _) W51 2 (own_idx (show (2 : Int32) = Nat.toInt32 2 from by decide) (by omega)) (Nat.le_of_ble_eq_true rfl)
      have K51 : Keep h0 h51 [] := K50.wr W51 (Or.inr sz_b48)
      have N51 := Fr.snoc X51 N50 ge_b48
      have Z51 : n0 ≤ h51.size := Nat.le_trans Z50 (Keep.of_wr W51).1
      have CU51 := CHr.wr W51 (Safe.arv hZ.alike V50 (by decide)) CH50
      have CR51 := CR50.trans CU51
      have CH51 := CU51.1
      have hk51 := Nat.le_trans hk50 (Keep.of_wr W51).1
      replace k : ow T51 (mkF m 65 #[ow_i p1, ow_i p2, ow_i 0, ow_i (own_bt ((p1.toUInt32 >>> ((4 : Int32) &&& 31).toUInt32).toInt32))] [(.ref b48), (.ref b47), (.ref b47)]) := fun t q => k t (st51 t q)
      clear st51
      have hp52 : ∀ c ∈ ([40, 41, (ow_c (own_bt ((p1.toUInt32 >>> ((4 : Int32) &&& 31).toUInt32).toInt32)))] : List Int32), ¬ c < 0 ∧ ¬ (255 : Int32) < c := (List.forall_mem_cons.mpr ⟨(by decide), (List.forall_mem_cons.mpr ⟨(by decide), (List.forall_mem_cons.mpr ⟨(own_obt _).rng, (fun c hc => nomatch hc)⟩)⟩)⟩)
      obtain ⟨_, _, ⟨T52, L52, k52, n52⟩, -, X52, ⟨Lc52, hQ52, l52, y52, z52⟩, st52⟩ := X51.specialBack hx (y := own_y3) rfl hown (mvT hZ (own_h hw 11 rfl)) (mvT hZ (own_h hw 12 rfl)) (mvT hZ (own_h hw 13 rfl)) (by decide) (StrChars.Road.backV (W := 1) hZ (own_wNew hw) (kI := 4) (own_h hw 8 rfl) (cs := ([40, 41, (ow_c (own_bt ((p1.toUInt32 >>> ((4 : Int32) &&& 31).toUInt32).toInt32)))] : List Int32)) (bs := ([40, 41, (ow_c (own_bt ((p1.toUInt32 >>> ((4 : Int32) &&& 31).toUInt32).toInt32)))] : List Int32).map (fun c => c.toInt8.toInt32)) (n := 3) ge_b47 Z51 ((((A47.ext E48).wr W49).wr W50).wr W51) ((((F_value_b47.ext E48).other W49 (Or.inl (Nat.ne_of_lt (Nat.lt_of_lt_of_le A47.lt (Nat.le_of_eq g48.symm))))).other W50 (Or.inl (Nat.ne_of_lt (Nat.lt_of_lt_of_le A47.lt (Nat.le_of_eq g48.symm))))).other W51 (Or.inl (Nat.ne_of_lt (Nat.lt_of_lt_of_le A47.lt (Nat.le_of_eq g48.symm))))) ((((F_coder_b47.ext E48).other W49 (Or.inl (Nat.ne_of_lt (Nat.lt_of_lt_of_le A47.lt (Nat.le_of_eq g48.symm))))).other W50 (Or.inl (Nat.ne_of_lt (Nat.lt_of_lt_of_le A47.lt (Nat.le_of_eq g48.symm))))).other W51 (Or.inl (Nat.ne_of_lt (Nat.lt_of_lt_of_le A47.lt (Nat.le_of_eq g48.symm))))) V51 ((((((own_sta_keep S_COMPACT_STRINGS KC37 ns0).ext E47).ext E48).wr W49).wr W50).wr W51) hz rfl rfl (by decide) (by decide) hp52 rfl (by decide) (by decide)) (g := (mkF m 65 #[ow_i p1, ow_i p2, ow_i 0, ow_i (own_bt ((p1.toUInt32 >>> ((4 : Int32) &&& 31).toUInt32).toInt32))] [(.ref b48), (.ref b47), (.ref b47)])) rfl (by rw [hml]; rfl) (Steps.refl _) (a := b47) (argsL := [(.ref b48)]) (rest := [(.ref b47)]) (lenOf own_pd17 rfl) rfl own_le (D 61 rfl) (fun _ _ => ⟨rfl, e51, (by decide : 4 + 1 ≤ _), (by decide : 43 + 3 ≤ _)⟩)
      dsimp only [Pt.U, Pt.locs, Pt.cells, Pt.slots] at X52 l52 y52 z52 st52 hQ52
      subst l52 y52 z52
      obtain ⟨h52, e52⟩ : ∃ z, T52.heap = z := ⟨_, rfl⟩
      rw [e52] at hQ52
      obtain ⟨rfl, N52q, KC52, EC52, FC52, tt52, kt52, -, -, -, FV52, AV52⟩ := hQ52
      have KK52 : Keep h0 h52 [] := K51.trans KC52 (allS (Or.inr sz_b47) all0)
      have Z52 : n0 ≤ h52.size := Nat.le_trans Z51 KC52.1
      have CU52 := CHr.keep KC52 (sfS (own_safe_null hZ.alike ((((A47.ext E48).wr W49).wr W50).wr W51) ((((F_value_b47.ext E48).other W49 (Or.inl (Nat.ne_of_lt (Nat.lt_of_lt_of_le A47.lt (Nat.le_of_eq g48.symm))))).other W50 (Or.inl (Nat.ne_of_lt (Nat.lt_of_lt_of_le A47.lt (Nat.le_of_eq g48.symm))))).other W51 (Or.inl (Nat.ne_of_lt (Nat.lt_of_lt_of_le A47.lt (Nat.le_of_eq g48.symm)))))) sf0) CH51
      have CR52 := CR51.trans CU52
      have CH52 := CU52.1
      have hk52 := Nat.le_trans hk51 KC52.1
      have TX52 : own_Str Z h52 b47 ([40, 41, (ow_c (own_bt ((p1.toUInt32 >>> ((4 : Int32) &&& 31).toUInt32).toInt32)))] : List Int32) := own_mkStr EC52 FV52 FC52 AV52 rfl hp52 (by decide)
      have N52 := Fr.app N51 N52q
      replace k : ow T52 (mkF m 68 #[ow_i p1, ow_i p2, ow_i 0, ow_i (own_bt ((p1.toUInt32 >>> ((4 : Int32) &&& 31).toUInt32).toInt32))] [(.ref b47)]) := fun t q => k t (st52.trans q)
      clear st52
      exact own_endS (v := some (.ref b47)) X52 e52 hS37 hk52 hh Bd.notSynchronized (own_vn Bd.returns) k (fun _ hr => own_retA X52 hx Bd.returns rfl (D 62 rfl) hr) ⟨b47, rfl, N52, KK52, by rw [show own_tD p1 p2 = ([40, 41, (ow_c (own_bt ((p1.toUInt32 >>> ((4 : Int32) &&& 31).toUInt32).toInt32)))] : List Int32) from by unfold own_tD; rw [if_neg hD, if_neg hc38]]; exact TX52⟩ (CR52.trans (CHv.at X52 hZ (own_EW hw) CH52)) (by decide) (by decide)
theorem own_tC_ok (p f : Int32) : own_okC (own_tC p f) := by
  unfold own_tC; split
  · exact ⟨_, _, own_occ _, own_occ _, Or.inl rfl⟩
  · exact ⟨_, _, own_occ _, own_occ _, Or.inr rfl⟩
theorem own_mds (p q f : Int32) : (own_isI (own_tN p f) → own_okV (own_tD q f)) ∧ (¬ own_isI (own_tN p f) → own_isM (own_tN p f)) ∧ (own_okB (own_tD q f) ∨ own_okV (own_tD q f)) := by
  have hV : ((f &&& (3 : Int32)) < (2 : Int32) ∨ (q &&& (8 : Int32)) = (0 : Int32)) → own_okV (own_tD q f) := fun h => by
    unfold own_tD; rw [if_pos h]; split
    · exact ⟨_, own_obt _, Or.inr rfl⟩
    · exact ⟨_, own_obt 0, Or.inl rfl⟩
  have hB : ¬ ((f &&& (3 : Int32)) < (2 : Int32) ∨ (q &&& (8 : Int32)) = (0 : Int32)) → own_okB (own_tD q f) := fun h => by
    unfold own_tD; rw [if_neg h]; split
    · exact ⟨_, _, own_obt _, own_obt _, Or.inr rfl⟩
    · exact ⟨_, _, own_obt 0, own_obt _, Or.inl rfl⟩
  refine ⟨fun hI => hV (Or.inl ?_), fun hn => ?_, ?_⟩
  · by_cases a : (f &&& (3 : Int32)) = (0 : Int32)
    · rw [a]; decide
    by_cases b : (f &&& (3 : Int32)) = (1 : Int32)
    · rw [b]; decide
    unfold own_isI own_tN at hI
    rw [if_neg a, if_neg b] at hI
    rcases hI with q | q <;> simp at q
  · by_cases a : (f &&& (3 : Int32)) = (0 : Int32)
    · exact absurd (Or.inl (by unfold own_tN; rw [if_pos a])) hn
    by_cases b : (f &&& (3 : Int32)) = (1 : Int32)
    · exact absurd (Or.inr (by unfold own_tN; rw [if_neg a, if_pos b])) hn
    unfold own_tN; rw [if_neg a, if_neg b]; exact ⟨_, _, own_omc _, own_omc _, rfl⟩
  · by_cases h : ((f &&& (3 : Int32)) < (2 : Int32) ∨ (q &&& (8 : Int32)) = (0 : Int32))
    · exact Or.inr (hV h)
    · exact Or.inl (hB h)
theorem own_d43 : own_all prog_126_method_9_code [(0, .aload_n 1, 1), (1, .instanceof 37, 3), (4, .ifCond .eq 54, 3), (7, .aload_n 1, 1), (8, .checkcast 37, 3), (11, .astore_n 2, 1), (12, .aload_n 0, 1), (13, .getfield 36, 3), (16, .aload_n 2, 1), (17, .getfield 36, 3), (20, .invokevirtual 88, 3), (23, .ifCond .eq 35, 3), (26, .aload_n 0, 1), (27, .getfield 42, 3), (30, .aload_n 2, 1), (31, .getfield 42, 3), (34, .invokevirtual 88, 3), (37, .ifCond .eq 21, 3), (40, .aload_n 0, 1), (41, .getfield 45, 3), (44, .aload_n 2, 1), (45, .getfield 45, 3), (48, .invokevirtual 88, 3), (51, .ifCond .eq 7, 3), (54, .iconst 1, 1), (55, .goto 4, 3), (59, .ireturn, 1), (58, .iconst 0, 1)] := by decide +kernel
theorem own_ef43 (m : MethodId) (x0 : Addr) (x1 : Addr) : entryFrame m #[(.ref x0), (.ref x1)] 3 = mkF m 0 #[ow_r x0, ow_r x1, .unset] [] := by first | (simp [entryFrame, mkF, argsToLocals, Value.category]; done) | rfl
theorem own_pn43 : plainName "com/example/callsite/callsite/model/MethodId" = true := by first | (simp [plainName, overriddenIn]; done) | decide +kernel
def own_f43_r (cs_w_className_a1 : List Int32) (cs_w_className_a2 : List Int32) (cs_w_name_a1 : List Int32) (cs_w_name_a2 : List Int32) (cs_w_descriptor_a1 : List Int32) (cs_w_descriptor_a2 : List Int32) : Int32 := (if cs_w_className_a1 = cs_w_className_a2 then (if cs_w_name_a1 = cs_w_name_a2 then (if cs_w_descriptor_a1 = cs_w_descriptor_a2 then (1 : Int32) else (0 : Int32)) else (0 : Int32)) else (0 : Int32))
set_option maxRecDepth 65536 in
set_option maxHeartbeats 40000000 in
theorem own_m43_r (l : Launch) (Z : State) (a0 : Array Value) (hw : ∀ d ∈ tables_1, d.before a0 Z = true) (ws : List Jvm.Cond) (a1 : Addr) (a2 : Addr) (w_className_a1 : Addr) (w_className_a2 : Addr) (cs_w_className_a1 : List Int32) (cs_w_className_a2 : List Int32) (w_COMPACT_STRINGS : Int32) (w_name_a1 : Addr) (w_name_a2 : Addr) (cs_w_name_a1 : List Int32) (cs_w_name_a2 : List Int32) (w_descriptor_a1 : Addr) (w_descriptor_a2 : Addr) (cs_w_descriptor_a1 : List Int32) (cs_w_descriptor_a2 : List Int32) (h0 : Heap) (n0 : Nat) (Z0 : n0 ≤ h0.size) (E_a2 : Exa Z h0 a2 "com/example/callsite/callsite/model/MethodId") (F_className_a1 : Fld Z h0 a1 "com/example/callsite/callsite/model/MethodId" "className" "Ljava/lang/String;" (.ref w_className_a1)) (F_className_a2 : Fld Z h0 a2 "com/example/callsite/callsite/model/MethodId" "className" "Ljava/lang/String;" (.ref w_className_a2)) (T_w_className_a1 : own_Str Z h0 w_className_a1 cs_w_className_a1) (T_w_className_a2 : own_Str Z h0 w_className_a2 cs_w_className_a2) (S_COMPACT_STRINGS : Sta Z h0 "java/lang/String" "COMPACT_STRINGS" "Z" (.int w_COMPACT_STRINGS)) (F_name_a1 : Fld Z h0 a1 "com/example/callsite/callsite/model/MethodId" "name" "Ljava/lang/String;" (.ref w_name_a1)) (F_name_a2 : Fld Z h0 a2 "com/example/callsite/callsite/model/MethodId" "name" "Ljava/lang/String;" (.ref w_name_a2)) (T_w_name_a1 : own_Str Z h0 w_name_a1 cs_w_name_a1) (T_w_name_a2 : own_Str Z h0 w_name_a2 cs_w_name_a2) (F_descriptor_a1 : Fld Z h0 a1 "com/example/callsite/callsite/model/MethodId" "descriptor" "Ljava/lang/String;" (.ref w_descriptor_a1)) (F_descriptor_a2 : Fld Z h0 a2 "com/example/callsite/callsite/model/MethodId" "descriptor" "Ljava/lang/String;" (.ref w_descriptor_a2)) (T_w_descriptor_a1 : own_Str Z h0 w_descriptor_a1 cs_w_descriptor_a1) (T_w_descriptor_a2 : own_Str Z h0 w_descriptor_a2 cs_w_descriptor_a2) (hz : ¬ (w_COMPACT_STRINGS = (0 : Int32))) :
    own_MF l Z own_y43 ws prog_126_method_9_code 3 (some .boolean) ({ frames := 2, cells := 0, slots := 0, locals := 28 } : Room) #[(.ref a1), (.ref a2)] h0 (own_Q (some (.int (own_f43_r cs_w_className_a1 cs_w_className_a2 cs_w_name_a1 cs_w_name_a2 cs_w_descriptor_a1 cs_w_descriptor_a2))) h0 n0) := by
  refine own_go "com/example/callsite/callsite/model/MethodId" rfl (plainFor_of_name own_pn43) (fun m => own_ef43 m a1 a2) own_d43 n0 fun p e s m below meth c s₁ A0 Bd hx D hml hown hnm X0 hZ e0 N0 k => ?_
  obtain ⟨T1, X1, e1, st1⟩ := instY X0 hx hZ hown (own_h hw 199 rfl) e0 (Ins.self E_a2) (g := (mkF m 1 #[ow_r a1, ow_r a2, .unset] [(.ref a2)])) rfl rfl (D 1 rfl)
  replace k : ow T1 (mkF m 4 #[ow_r a1, ow_r a2, .unset] [(.int 1)]) := fun t q => k t (XS.aloadN X0.here hx rfl (D 0 rfl) rfl rfl (st1 t q))
  clear st1
  replace k : ow T1 (mkF m 7 #[ow_r a1, ow_r a2, .unset] []) := fun t q => k t (XS.ifNo X1.here hx rfl (D 2 rfl) rfl ((if0 _ _).trans (feq (show ¬ ((1 : Int32) = (0 : Int32)) from (by decide))).1) q)
  obtain ⟨T2, X2, e2, st2⟩ := castY X1 hx hZ hown (own_h hw 199 rfl) e1 (Ins.self E_a2) (g := (mkF m 8 #[ow_r a1, ow_r a2, .unset] [(.ref a2)])) rfl rfl (D 4 rfl)
  replace k : ow T2 (mkF m 11 #[ow_r a1, ow_r a2, .unset] [(.ref a2)]) := fun t q => k t (XS.aloadN X1.here hx rfl (D 3 rfl) rfl rfl (st2 t q))
  clear st2
  obtain ⟨T3, X3, e3, st3⟩ := getF X2 hx hZ hown (host := "") (Or.inl (own_h hw 187 rfl)) Via.refl e2 F_className_a1 (g := (mkF m 13 #[ow_r a1, ow_r a2, ow_r a2] [(.ref a1)])) rfl rfl (D 7 rfl)
  replace k : ow T3 (mkF m 16 #[ow_r a1, ow_r a2, ow_r a2] [(.ref w_className_a1)]) := fun t q => k t (XS.astoreN X2.here hx rfl (D 5 rfl) rfl rfl (l' := #[ow_r a1, ow_r a2, ow_r a2]) rfl (XS.aloadN X2.here hx rfl (D 6 rfl) rfl rfl (st3 t q)))
  clear st3
  obtain ⟨T4, X4, e4, st4⟩ := getF X3 hx hZ hown (host := "") (Or.inl (own_h hw 187 rfl)) Via.refl e3 F_className_a2 (g := (mkF m 17 #[ow_r a1, ow_r a2, ow_r a2] [(.ref a2), (.ref w_className_a1)])) rfl rfl (D 9 rfl)
  replace k : ow T4 (mkF m 20 #[ow_r a1, ow_r a2, ow_r a2] [(.ref w_className_a2), (.ref w_className_a1)]) := fun t q => k t (XS.aloadN X3.here hx rfl (D 8 rfl) rfl rfl (st4 t q))
  clear st4
  by_cases hc5 : cs_w_className_a1 = cs_w_className_a2
  · obtain ⟨T6, X6, e6, k⟩ := own_cEq X4 hx hw hZ hown e4 k T_w_className_a1 T_w_className_a2 S_COMPACT_STRINGS hz 1 (Or.inl ⟨rfl, hc5⟩) 201 156 158 157 8 rfl rfl rfl rfl rfl rfl rfl (by rw [hml]; rfl) [] rfl (W := 0) own_le (D 10 rfl) (by decide) (by decide) (by decide) (by decide)
    replace k : ow T6 (mkF m 26 #[ow_r a1, ow_r a2, ow_r a2] []) := fun t q => k t (XS.ifNo X6.here hx rfl (D 11 rfl) rfl ((if0 _ _).trans (feq (show ¬ ((1 : Int32) = (0 : Int32)) from (by decide))).1) q)
    obtain ⟨T7, X7, e7, st7⟩ := getF X6 hx hZ hown (host := "") (Or.inl (own_h hw 189 rfl)) Via.refl e6 F_name_a1 (g := (mkF m 27 #[ow_r a1, ow_r a2, ow_r a2] [(.ref a1)])) rfl rfl (D 13 rfl)
    replace k : ow T7 (mkF m 30 #[ow_r a1, ow_r a2, ow_r a2] [(.ref w_name_a1)]) := fun t q => k t (XS.aloadN X6.here hx rfl (D 12 rfl) rfl rfl (st7 t q))
    clear st7
    obtain ⟨T8, X8, e8, st8⟩ := getF X7 hx hZ hown (host := "") (Or.inl (own_h hw 189 rfl)) Via.refl e7 F_name_a2 (g := (mkF m 31 #[ow_r a1, ow_r a2, ow_r a2] [(.ref a2), (.ref w_name_a1)])) rfl rfl (D 15 rfl)
    replace k : ow T8 (mkF m 34 #[ow_r a1, ow_r a2, ow_r a2] [(.ref w_name_a2), (.ref w_name_a1)]) := fun t q => k t (XS.aloadN X7.here hx rfl (D 14 rfl) rfl rfl (st8 t q))
    clear st8
    by_cases hc9 : cs_w_name_a1 = cs_w_name_a2
    · obtain ⟨T10, X10, e10, k⟩ := own_cEq X8 hx hw hZ hown e8 k T_w_name_a1 T_w_name_a2 S_COMPACT_STRINGS hz 1 (Or.inl ⟨rfl, hc9⟩) 201 156 158 157 8 rfl rfl rfl rfl rfl rfl rfl (by rw [hml]; rfl) [] rfl (W := 0) own_le (D 16 rfl) (by decide) (by decide) (by decide) (by decide)
      replace k : ow T10 (mkF m 40 #[ow_r a1, ow_r a2, ow_r a2] []) := fun t q => k t (XS.ifNo X10.here hx rfl (D 17 rfl) rfl ((if0 _ _).trans (feq (show ¬ ((1 : Int32) = (0 : Int32)) from (by decide))).1) q)
      obtain ⟨T11, X11, e11, st11⟩ := getF X10 hx hZ hown (host := "") (Or.inl (own_h hw 191 rfl)) Via.refl e10 F_descriptor_a1 (g := (mkF m 41 #[ow_r a1, ow_r a2, ow_r a2] [(.ref a1)])) rfl rfl (D 19 rfl)
      replace k : ow T11 (mkF m 44 #[ow_r a1, ow_r a2, ow_r a2] [(.ref w_descriptor_a1)]) := fun t q => k t (XS.aloadN X10.here hx rfl (D 18 rfl) rfl rfl (st11 t q))
      clear st11
      obtain ⟨T12, X12, e12, st12⟩ := getF X11 hx hZ hown (host := "") (Or.inl (own_h hw 191 rfl)) Via.refl e11 F_descriptor_a2 (g := (mkF m 45 #[ow_r a1, ow_r a2, ow_r a2] [(.ref a2), (.ref w_descriptor_a1)])) rfl rfl (D 21 rfl)
      replace k : ow T12 (mkF m 48 #[ow_r a1, ow_r a2, ow_r a2] [(.ref w_descriptor_a2), (.ref w_descriptor_a1)]) := fun t q => k t (XS.aloadN X11.here hx rfl (D 20 rfl) rfl rfl (st12 t q))
      clear st12
      by_cases hc13 : cs_w_descriptor_a1 = cs_w_descriptor_a2
      · obtain ⟨T14, X14, e14, k⟩ := own_cEq X12 hx hw hZ hown e12 k T_w_descriptor_a1 T_w_descriptor_a2 S_COMPACT_STRINGS hz 1 (Or.inl ⟨rfl, hc13⟩) 201 156 158 157 8 rfl rfl rfl rfl rfl rfl rfl (by rw [hml]; rfl) [] rfl (W := 0) own_le (D 22 rfl) (by decide) (by decide) (by decide) (by decide)
        replace k : ow T14 (mkF m 54 #[ow_r a1, ow_r a2, ow_r a2] []) := fun t q => k t (XS.ifNo X14.here hx rfl (D 23 rfl) rfl ((if0 _ _).trans (feq (show ¬ ((1 : Int32) = (0 : Int32)) from (by decide))).1) q)
        replace k : ow T14 (mkF m 59 #[ow_r a1, ow_r a2, ow_r a2] [(.int 1)]) := fun t q => k t (XS.iconst X14.here hx rfl (D 24 rfl) (XS.goto X14.here hx rfl (pc0 := 55) (pc' := 59) rfl (D 25 rfl) (by decide) (by decide) q))
        exact own_end (v := some (.int 1)) X14 e14 Bd.notSynchronized (own_vn Bd.returns) k (fun _ hr => retN X14 hx (t := .boolean) Bd.returns (by simp) (D 26 rfl) (by first | exact hr | (rw [show nar .boolean (1 : Int32) = (1 : Int32) from by decide]; exact hr))) ⟨by rw [show (own_f43_r cs_w_className_a1 cs_w_className_a2 cs_w_name_a1 cs_w_name_a2 cs_w_descriptor_a1 cs_w_descriptor_a2) = (1 : Int32) from by unfold own_f43_r; rw [if_pos hc5, if_pos hc9, if_pos hc13]], N0, rfl⟩ (by decide) (by decide)
      · obtain ⟨T15, X15, e15, k⟩ := own_cEq X12 hx hw hZ hown e12 k T_w_descriptor_a1 T_w_descriptor_a2 S_COMPACT_STRINGS hz 0 (Or.inr ⟨rfl, hc13⟩) 201 156 158 157 8 rfl rfl rfl rfl rfl rfl rfl (by rw [hml]; rfl) [] rfl (W := 0) own_le (D 22 rfl) (by decide) (by decide) (by decide) (by decide)
        replace k : ow T15 (mkF m 58 #[ow_r a1, ow_r a2, ow_r a2] []) := fun t q => k t (XS.ifYes X15.here hx rfl (pc0 := 51) (pc' := 58) rfl (D 23 rfl) rfl ((if0 _ _).trans (teq (show (0 : Int32) = (0 : Int32) from (by decide))).1) (by decide) (by decide) q)
        replace k : ow T15 (mkF m 59 #[ow_r a1, ow_r a2, ow_r a2] [(.int 0)]) := fun t q => k t (XS.iconst X15.here hx rfl (D 27 rfl) q)
        exact own_end (v := some (.int 0)) X15 e15 Bd.notSynchronized (own_vn Bd.returns) k (fun _ hr => retN X15 hx (t := .boolean) Bd.returns (by simp) (D 26 rfl) (by first | exact hr | (rw [show nar .boolean (0 : Int32) = (0 : Int32) from by decide]; exact hr))) ⟨by rw [show (own_f43_r cs_w_className_a1 cs_w_className_a2 cs_w_name_a1 cs_w_name_a2 cs_w_descriptor_a1 cs_w_descriptor_a2) = (0 : Int32) from by unfold own_f43_r; rw [if_pos hc5, if_pos hc9, if_neg hc13]], N0, rfl⟩ (by decide) (by decide)
    · obtain ⟨T16, X16, e16, k⟩ := own_cEq X8 hx hw hZ hown e8 k T_w_name_a1 T_w_name_a2 S_COMPACT_STRINGS hz 0 (Or.inr ⟨rfl, hc9⟩) 201 156 158 157 8 rfl rfl rfl rfl rfl rfl rfl (by rw [hml]; rfl) [] rfl (W := 0) own_le (D 16 rfl) (by decide) (by decide) (by decide) (by decide)
      replace k : ow T16 (mkF m 58 #[ow_r a1, ow_r a2, ow_r a2] []) := fun t q => k t (XS.ifYes X16.here hx rfl (pc0 := 37) (pc' := 58) rfl (D 17 rfl) rfl ((if0 _ _).trans (teq (show (0 : Int32) = (0 : Int32) from (by decide))).1) (by decide) (by decide) q)
      replace k : ow T16 (mkF m 59 #[ow_r a1, ow_r a2, ow_r a2] [(.int 0)]) := fun t q => k t (XS.iconst X16.here hx rfl (D 27 rfl) q)
      exact own_end (v := some (.int 0)) X16 e16 Bd.notSynchronized (own_vn Bd.returns) k (fun _ hr => retN X16 hx (t := .boolean) Bd.returns (by simp) (D 26 rfl) (by first | exact hr | (rw [show nar .boolean (0 : Int32) = (0 : Int32) from by decide]; exact hr))) ⟨by rw [show (own_f43_r cs_w_className_a1 cs_w_className_a2 cs_w_name_a1 cs_w_name_a2 cs_w_descriptor_a1 cs_w_descriptor_a2) = (0 : Int32) from by unfold own_f43_r; rw [if_pos hc5, if_neg hc9]], N0, rfl⟩ (by decide) (by decide)
  · obtain ⟨T17, X17, e17, k⟩ := own_cEq X4 hx hw hZ hown e4 k T_w_className_a1 T_w_className_a2 S_COMPACT_STRINGS hz 0 (Or.inr ⟨rfl, hc5⟩) 201 156 158 157 8 rfl rfl rfl rfl rfl rfl rfl (by rw [hml]; rfl) [] rfl (W := 0) own_le (D 10 rfl) (by decide) (by decide) (by decide) (by decide)
    replace k : ow T17 (mkF m 58 #[ow_r a1, ow_r a2, ow_r a2] []) := fun t q => k t (XS.ifYes X17.here hx rfl (pc0 := 23) (pc' := 58) rfl (D 11 rfl) rfl ((if0 _ _).trans (teq (show (0 : Int32) = (0 : Int32) from (by decide))).1) (by decide) (by decide) q)
    replace k : ow T17 (mkF m 59 #[ow_r a1, ow_r a2, ow_r a2] [(.int 0)]) := fun t q => k t (XS.iconst X17.here hx rfl (D 27 rfl) q)
    exact own_end (v := some (.int 0)) X17 e17 Bd.notSynchronized (own_vn Bd.returns) k (fun _ hr => retN X17 hx (t := .boolean) Bd.returns (by simp) (D 26 rfl) (by first | exact hr | (rw [show nar .boolean (0 : Int32) = (0 : Int32) from by decide]; exact hr))) ⟨by rw [show (own_f43_r cs_w_className_a1 cs_w_className_a2 cs_w_name_a1 cs_w_name_a2 cs_w_descriptor_a1 cs_w_descriptor_a2) = (0 : Int32) from by unfold own_f43_r; rw [if_neg hc5]], N0, rfl⟩ (by decide) (by decide)
theorem own_ef43n (m : MethodId) (x0 : Addr) : entryFrame m #[(.ref x0), .null] 3 = mkF m 0 #[ow_r x0, .val .null, .unset] [] := by first | (simp [entryFrame, mkF, argsToLocals, Value.category]; done) | rfl
def own_f43_n : Int32 := (0 : Int32)
set_option maxRecDepth 65536 in
set_option maxHeartbeats 40000000 in
theorem own_m43_n (l : Launch) (Z : State) (a0 : Array Value) (hw : ∀ d ∈ tables_1, d.before a0 Z = true) (ws : List Jvm.Cond) (a1 : Addr) (h0 : Heap) (n0 : Nat) (Z0 : n0 ≤ h0.size) :
    own_MF l Z own_y43 ws prog_126_method_9_code 3 (some .boolean) ({ frames := 0, cells := 0, slots := 0, locals := 0 } : Room) #[(.ref a1), .null] h0 (own_Q (some (.int own_f43_n)) h0 n0) := by
  refine own_go "com/example/callsite/callsite/model/MethodId" rfl (plainFor_of_name own_pn43) (fun m => own_ef43n m a1) own_d43 n0 fun p e s m below meth c s₁ A0 Bd hx D hml hown hnm X0 hZ e0 N0 k => ?_
  replace k : ow s₁ (mkF m 4 #[ow_r a1, .val .null, .unset] [(.int 0)]) := fun t q => k t (XS.aloadN X0.here hx rfl (D 0 rfl) rfl rfl (X0.instanceofNull hx (g := (mkF m 1 #[ow_r a1, .val .null, .unset] [.null])) rfl rfl (D 1 rfl) _ q))
  replace k : ow s₁ (mkF m 58 #[ow_r a1, .val .null, .unset] []) := fun t q => k t (XS.ifYes X0.here hx rfl (pc0 := 4) (pc' := 58) rfl (D 2 rfl) rfl ((if0 _ _).trans (teq (show (0 : Int32) = (0 : Int32) from (by decide))).1) (by decide) (by decide) q)
  replace k : ow s₁ (mkF m 59 #[ow_r a1, .val .null, .unset] [(.int 0)]) := fun t q => k t (XS.iconst X0.here hx rfl (D 27 rfl) q)
  exact own_end (v := some (.int 0)) X0 e0 Bd.notSynchronized (own_vn Bd.returns) k (fun _ hr => retN X0 hx (t := .boolean) Bd.returns (by simp) (D 26 rfl) (by first | exact hr | (rw [show nar .boolean (0 : Int32) = (0 : Int32) from by decide]; exact hr))) ⟨by rw [show (own_f43_n) = (0 : Int32) from by unfold own_f43_n; rfl], N0, rfl⟩ (by decide) (by decide)
def own_f43_s : Int32 := (0 : Int32)
set_option maxRecDepth 65536 in
set_option maxHeartbeats 40000000 in
theorem own_m43_s (l : Launch) (Z : State) (a0 : Array Value) (hw : ∀ d ∈ tables_1, d.before a0 Z = true) (ws : List Jvm.Cond) (a1 : Addr) (a2 : Addr) (h0 : Heap) (n0 : Nat) (Z0 : n0 ≤ h0.size) (E_a2 : Exa Z h0 a2 "java/lang/String") :
    own_MF l Z own_y43 ws prog_126_method_9_code 3 (some .boolean) ({ frames := 0, cells := 0, slots := 0, locals := 0 } : Room) #[(.ref a1), (.ref a2)] h0 (own_Q (some (.int own_f43_s)) h0 n0) := by
  refine own_go "com/example/callsite/callsite/model/MethodId" rfl (plainFor_of_name own_pn43) (fun m => own_ef43 m a1 a2) own_d43 n0 fun p e s m below meth c s₁ A0 Bd hx D hml hown hnm X0 hZ e0 N0 k => ?_
  obtain ⟨T1, X1, e1, st1⟩ := instNo X0 hx hZ hown (own_h hw 199 rfl) e0 E_a2 (own_notinst (own_h hw 206 rfl) (own_h hw 207 rfl) (own_h hw 72 rfl) (by decide) (by decide)) (g := (mkF m 1 #[ow_r a1, ow_r a2, .unset] [(.ref a2)])) rfl rfl (D 1 rfl)
  replace k : ow T1 (mkF m 4 #[ow_r a1, ow_r a2, .unset] [(.int 0)]) := fun t q => k t (XS.aloadN X0.here hx rfl (D 0 rfl) rfl rfl (st1 t q))
  clear st1
  replace k : ow T1 (mkF m 58 #[ow_r a1, ow_r a2, .unset] []) := fun t q => k t (XS.ifYes X1.here hx rfl (pc0 := 4) (pc' := 58) rfl (D 2 rfl) rfl ((if0 _ _).trans (teq (show (0 : Int32) = (0 : Int32) from (by decide))).1) (by decide) (by decide) q)
  replace k : ow T1 (mkF m 59 #[ow_r a1, ow_r a2, .unset] [(.int 0)]) := fun t q => k t (XS.iconst X1.here hx rfl (D 27 rfl) q)
  exact own_end (v := some (.int 0)) X1 e1 Bd.notSynchronized (own_vn Bd.returns) k (fun _ hr => retN X1 hx (t := .boolean) Bd.returns (by simp) (D 26 rfl) (by first | exact hr | (rw [show nar .boolean (0 : Int32) = (0 : Int32) from by decide]; exact hr))) ⟨by rw [show (own_f43_s) = (0 : Int32) from by unfold own_f43_s; rfl], N0, rfl⟩ (by decide) (by decide)
theorem own_tight9 {p : Program} {l : Launch} {e : Env} {R : Room} {s : State} {m : MethodId} {args : Array Value} {below : List Frame} {meth : Method} {c : Code} {T : State} {locs : List Loc} {cells slots : Nat} {Z : State} {EL : List (String × Nat)} {h0 h1 : Heap} {vm0 vm1 : Vm} (X : Stand p l e R s m args below meth c T locs cells slots) (C : own_CP Z EL own_J vm0 h0 vm1 h1) (eT : T.heap = h1) {n : Nat} (hp : h0.size ≤ s.heap.size + n) : Stand p l e R s m args below meth c T locs (n + 18) slots :=
  own_tight X (by
    have a := C.2.2
    have b := own_un_le Z own_J vm0
    have d : own_J.length = 9 := rfl
    rw [eT]; omega)
theorem own_pd18 : parseMethodDescriptor "(II)Ljava/lang/String;" = some ⟨[.int, .int], some (.object "java/lang/String")⟩ := by decide +kernel
theorem own_pd19 : parseMethodDescriptor "(Ljava/lang/String;Ljava/lang/String;Ljava/lang/String;)V" = some ⟨[(.object "java/lang/String"), (.object "java/lang/String"), (.object "java/lang/String")], none⟩ := by decide +kernel
theorem own_pd20 : parseMethodDescriptor "(Ljava/lang/Object;)Z" = some ⟨[(.object "java/lang/Object")], some .boolean⟩ := by decide +kernel
theorem own_ef0 (m : MethodId) (x0 : Int32) (x1 : Int32) (x2 : Int32) (x3 : Int32) (x4 : Int32) (x5 : Int32) : entryFrame m #[(.int x0), (.int x1), (.int x2), (.int x3), (.int x4), (.int x5)] maxLocals = mkF m 0 #[ow_i x0, ow_i x1, ow_i x2, ow_i x3, ow_i x4, ow_i x5, .unset, .unset, .unset, .unset, .unset, .unset, .unset, .unset, .unset, .unset, .unset, .unset, .unset, .unset, .unset, .unset, .unset, .unset, .unset] [] := by first | (simp [entryFrame, mkF, argsToLocals, Value.category, maxLocals]; done) | rfl
theorem own_pn0 : plainName "com/example/callsite/callsite/model/MethodIdEqualsPinLaw" = true := by first | (simp [plainName, overriddenIn]; done) | decide +kernel
def own_Q0 (n0 : Nat) (v : Option Value) (L : List Loc) : Prop := v = some (.int 1) ∧ Fr n0 L
set_option maxRecDepth 65536 in
set_option maxHeartbeats 40000000 in
theorem own_m0 (l : Launch) (Z : State) (a0 : Array Value) (hw : ∀ d ∈ tables_1, d.before a0 Z = true) (ws : List Jvm.Cond) (p1 : Int32) (p2 : Int32) (p3 : Int32) (p4 : Int32) (p5 : Int32) (p6 : Int32) (w_COMPACT_STRINGS : Int32) (w_SIOOBE_FORMATTER : Value) (h0 : Heap) (n0 : Nat) (Z0 : n0 ≤ h0.size) (S_COMPACT_STRINGS : Sta Z h0 "java/lang/String" "COMPACT_STRINGS" "Z" (.int w_COMPACT_STRINGS)) (S_SIOOBE_FORMATTER : Sta Z h0 "jdk/internal/util/Preconditions" "SIOOBE_FORMATTER" "Ljava/util/function/BiFunction;" w_SIOOBE_FORMATTER) (hz : ¬ (w_COMPACT_STRINGS = (0 : Int32))) (hrS : w_SIOOBE_FORMATTER.isRef = true) :
    MetFree l x (head1 (Jvm.Cond.code x code maxLocals ret :: ws) room_1) (fun a U => a = #[(.int p1), (.int p2), (.int p3), (.int p4), (.int p5), (.int p6)] ∧ Z.Warmed39 U.vm ∧ U.heap = h0 ∧ CHv Z consts_1 U.vm h0) (fun _ _ _ _ _ => True) (fun _ U o U' => ∃ v L, o = .returned v ∧ own_Q0 n0 v L ∧ CHr Z consts_1 U.vm U.heap U'.vm U'.heap ∧ ReturnedEndW U o U' L room_1.cells room_1.slots) := by
  refine MetFree.of_bodySF (plainFor_of_name own_pn0) hisR ?_
  intro p e s m args below meth c s₁ Bd hml0 hP hK
  obtain ⟨rfl, hZ, hh, CH0⟩ := hP
  have hx := Bd.exec
  have hby := Bd.bytes
  have hml : c.maxLocals = 25 := hml0
  have hown : s.vm.findClass "com/example/callsite/callsite/model/MethodIdEqualsPinLaw" = some m.cls := findClass_of_methodNamed Bd.named
  have hnm := (name_of_methodNamed Bd.named Bd.method).1
  have X0 : Stand p l e room_1 s m #[(.int p1), (.int p2), (.int p3), (.int p4), (.int p5), (.int p6)] below meth c s₁ [] 0 0 := Stand.of_body Bd
  have X0 : Stand p l e room_1 (s.setVm s.vm) m #[(.int p1), (.int p2), (.int p3), (.int p4), (.int p5), (.int p6)] below meth c s₁ [] 0 0 := X0
  have hZ : Z.Warmed39 (s.setVm s.vm).vm := hZ
  have hown : (s.setVm s.vm).vm.findClass "com/example/callsite/callsite/model/MethodIdEqualsPinLaw" = some m.cls := hown
  have e0 : s₁.heap = h0 := by rw [← hh, Bd.state]; rfl
  have N0 := Fr.nil n0
  have hS0 : s.Since s.vm 0 := (State.WarmedH.refl s).since _
  have hk0 : 0 ≤ h0.size := Nat.zero_le _
  have CR0 : CHr Z consts_1 s.vm h0 s.vm h0 := CHr.refl CH0
  have k0 : own_To p.tables e below (s₁.setTop (entryFrame m #[(.int p1), (.int p2), (.int p3), (.int p4), (.int p5), (.int p6)] maxLocals)) s₁ (mkF m 0 #[ow_i p1, ow_i p2, ow_i p3, ow_i p4, ow_i p5, ow_i p6, .unset, .unset, .unset, .unset, .unset, .unset, .unset, .unset, .unset, .unset, .unset, .unset, .unset, .unset, .unset, .unset, .unset, .unset, .unset] []) := fun t k => castTop (own_ef0 m p1 p2 p3 p4 p5 p6) k
  have k := k0
  clear k0
  generalize (s₁.setTop (entryFrame m #[(.int p1), (.int p2), (.int p3), (.int p4), (.int p5), (.int p6)] maxLocals)) = A0 at k ⊢
  replace k : ow s₁ (mkF m 4 (ow_L p1 p2 p3 p4 p5 p6) [(.int 64), (.int p6)]) := fun t q => k t (XS.iload X0.here hx rfl (hb hby at_0) rfl (XS.bipush X0.here hx rfl (hb hby at_2) q))
  replace k : ow s₁ (mkF m 5 (ow_L p1 p2 p3 p4 p5 p6) [(.int (p6 &&& (64 : Int32)))]) := fun t q => k t (XS.iand X0.here hx rfl (hb hby at_4) rfl q)
  replace k : own_To p.tables e below A0 s₁ (mkF m 13 (ow_L p1 p2 p3 p4 p5 p6) [(.int (if (p6 &&& (64 : Int32)) = (0 : Int32) then (0 : Int32) else (1 : Int32)))]) := by
    by_cases hj21 : (p6 &&& (64 : Int32)) = (0 : Int32)
    · simp only [if_pos hj21]
      replace k : ow s₁ (mkF m 12 (ow_L p1 p2 p3 p4 p5 p6) []) := fun t q => k t (XS.ifYes X0.here hx rfl (pc0 := 5) (pc' := 12) rfl (hb hby at_5) rfl ((if0 _ _).trans (teq (show (p6 &&& (64 : Int32)) = (0 : Int32) from hj21)).1) (by decide) (by decide) q)
      replace k : ow s₁ (mkF m 13 (ow_L p1 p2 p3 p4 p5 p6) [(.int 0)]) := fun t q => k t (XS.iconst X0.here hx rfl (hb hby at_12) q)
      exact k
    · simp only [if_neg hj21]
      replace k : ow s₁ (mkF m 8 (ow_L p1 p2 p3 p4 p5 p6) []) := fun t q => k t (XS.ifNo X0.here hx rfl (hb hby at_5) rfl ((if0 _ _).trans (feq (show ¬ ((p6 &&& (64 : Int32)) = (0 : Int32)) from hj21)).1) q)
      replace k : ow s₁ (mkF m 13 (ow_L p1 p2 p3 p4 p5 p6) [(.int 1)]) := fun t q => k t (XS.iconst X0.here hx rfl (hb hby at_8) (XS.goto X0.here hx rfl (pc0 := 9) (pc' := 13) rfl (hb hby at_9) (by decide) (by decide) q))
      exact k
  replace k : ow s₁ (mkF m 15 (ow_L p1 p2 p3 p4 p5 p6 (ow_i (if (p6 &&& (64 : Int32)) = (0 : Int32) then (0 : Int32) else (1 : Int32)))) []) := fun t q => k t (XS.istore X0.here hx rfl (hb hby at_13) rfl (l' := (ow_L p1 p2 p3 p4 p5 p6 (ow_i (if (p6 &&& (64 : Int32)) = (0 : Int32) then (0 : Int32) else (1 : Int32))))) rfl q)
  obtain ⟨f1, h_f1⟩ : ∃ z, z = (if (p6 &&& (64 : Int32)) = (0 : Int32) then (0 : Int32) else (1 : Int32)) := ⟨_, rfl⟩
  replace k : own_To p.tables e below A0 s₁ (mkF m 15 (ow_L p1 p2 p3 p4 p5 p6 (ow_i f1)) []) := by rw [h_f1]; exact k
  replace k : ow s₁ (mkF m 20 (ow_L p1 p2 p3 p4 p5 p6 (ow_i f1)) [(.int 128), (.int p6)]) := fun t q => k t (XS.iload X0.here hx rfl (hb hby at_15) rfl (XS.sipush X0.here hx rfl (hb hby at_17) q))
  replace k : ow s₁ (mkF m 21 (ow_L p1 p2 p3 p4 p5 p6 (ow_i f1)) [(.int (p6 &&& (128 : Int32)))]) := fun t q => k t (XS.iand X0.here hx rfl (hb hby at_20) rfl q)
  replace k : own_To p.tables e below A0 s₁ (mkF m 29 (ow_L p1 p2 p3 p4 p5 p6 (ow_i f1)) [(.int (if (p6 &&& (128 : Int32)) = (0 : Int32) then (0 : Int32) else (1 : Int32)))]) := by
    by_cases hj22 : (p6 &&& (128 : Int32)) = (0 : Int32)
    · simp only [if_pos hj22]
      replace k : ow s₁ (mkF m 28 (ow_L p1 p2 p3 p4 p5 p6 (ow_i f1)) []) := fun t q => k t (XS.ifYes X0.here hx rfl (pc0 := 21) (pc' := 28) rfl (hb hby at_21) rfl ((if0 _ _).trans (teq (show (p6 &&& (128 : Int32)) = (0 : Int32) from hj22)).1) (by decide) (by decide) q)
      replace k : ow s₁ (mkF m 29 (ow_L p1 p2 p3 p4 p5 p6 (ow_i f1)) [(.int 0)]) := fun t q => k t (XS.iconst X0.here hx rfl (hb hby at_28) q)
      exact k
    · simp only [if_neg hj22]
      replace k : ow s₁ (mkF m 24 (ow_L p1 p2 p3 p4 p5 p6 (ow_i f1)) []) := fun t q => k t (XS.ifNo X0.here hx rfl (hb hby at_21) rfl ((if0 _ _).trans (feq (show ¬ ((p6 &&& (128 : Int32)) = (0 : Int32)) from hj22)).1) q)
      replace k : ow s₁ (mkF m 29 (ow_L p1 p2 p3 p4 p5 p6 (ow_i f1)) [(.int 1)]) := fun t q => k t (XS.iconst X0.here hx rfl (hb hby at_24) (XS.goto X0.here hx rfl (pc0 := 25) (pc' := 29) rfl (hb hby at_25) (by decide) (by decide) q))
      exact k
  replace k : ow s₁ (mkF m 31 (ow_L p1 p2 p3 p4 p5 p6 (ow_i f1) (ow_i (if (p6 &&& (128 : Int32)) = (0 : Int32) then (0 : Int32) else (1 : Int32)))) []) := fun t q => k t (XS.istore X0.here hx rfl (hb hby at_29) rfl (l' := (ow_L p1 p2 p3 p4 p5 p6 (ow_i f1) (ow_i (if (p6 &&& (128 : Int32)) = (0 : Int32) then (0 : Int32) else (1 : Int32))))) rfl q)
  obtain ⟨f2, h_f2⟩ : ∃ z, z = (if (p6 &&& (128 : Int32)) = (0 : Int32) then (0 : Int32) else (1 : Int32)) := ⟨_, rfl⟩
  replace k : own_To p.tables e below A0 s₁ (mkF m 31 (ow_L p1 p2 p3 p4 p5 p6 (ow_i f1) (ow_i f2)) []) := by rw [h_f2]; exact k
  replace k : ow s₁ (mkF m 36 (ow_L p1 p2 p3 p4 p5 p6 (ow_i f1) (ow_i f2)) [(.int 256), (.int p6)]) := fun t q => k t (XS.iload X0.here hx rfl (hb hby at_31) rfl (XS.sipush X0.here hx rfl (hb hby at_33) q))
  replace k : ow s₁ (mkF m 37 (ow_L p1 p2 p3 p4 p5 p6 (ow_i f1) (ow_i f2)) [(.int (p6 &&& (256 : Int32)))]) := fun t q => k t (XS.iand X0.here hx rfl (hb hby at_36) rfl q)
  replace k : own_To p.tables e below A0 s₁ (mkF m 45 (ow_L p1 p2 p3 p4 p5 p6 (ow_i f1) (ow_i f2)) [(.int (if (p6 &&& (256 : Int32)) = (0 : Int32) then (0 : Int32) else (1 : Int32)))]) := by
    by_cases hj23 : (p6 &&& (256 : Int32)) = (0 : Int32)
    · simp only [if_pos hj23]
      replace k : ow s₁ (mkF m 44 (ow_L p1 p2 p3 p4 p5 p6 (ow_i f1) (ow_i f2)) []) := fun t q => k t (XS.ifYes X0.here hx rfl (pc0 := 37) (pc' := 44) rfl (hb hby at_37) rfl ((if0 _ _).trans (teq (show (p6 &&& (256 : Int32)) = (0 : Int32) from hj23)).1) (by decide) (by decide) q)
      replace k : ow s₁ (mkF m 45 (ow_L p1 p2 p3 p4 p5 p6 (ow_i f1) (ow_i f2)) [(.int 0)]) := fun t q => k t (XS.iconst X0.here hx rfl (hb hby at_44) q)
      exact k
    · simp only [if_neg hj23]
      replace k : ow s₁ (mkF m 40 (ow_L p1 p2 p3 p4 p5 p6 (ow_i f1) (ow_i f2)) []) := fun t q => k t (XS.ifNo X0.here hx rfl (hb hby at_37) rfl ((if0 _ _).trans (feq (show ¬ ((p6 &&& (256 : Int32)) = (0 : Int32)) from hj23)).1) q)
      replace k : ow s₁ (mkF m 45 (ow_L p1 p2 p3 p4 p5 p6 (ow_i f1) (ow_i f2)) [(.int 1)]) := fun t q => k t (XS.iconst X0.here hx rfl (hb hby at_40) (XS.goto X0.here hx rfl (pc0 := 41) (pc' := 45) rfl (hb hby at_41) (by decide) (by decide) q))
      exact k
  replace k : ow s₁ (mkF m 47 (ow_L p1 p2 p3 p4 p5 p6 (ow_i f1) (ow_i f2) (ow_i (if (p6 &&& (256 : Int32)) = (0 : Int32) then (0 : Int32) else (1 : Int32)))) []) := fun t q => k t (XS.istore X0.here hx rfl (hb hby at_45) rfl (l' := (ow_L p1 p2 p3 p4 p5 p6 (ow_i f1) (ow_i f2) (ow_i (if (p6 &&& (256 : Int32)) = (0 : Int32) then (0 : Int32) else (1 : Int32))))) rfl q)
  obtain ⟨f3, h_f3⟩ : ∃ z, z = (if (p6 &&& (256 : Int32)) = (0 : Int32) then (0 : Int32) else (1 : Int32)) := ⟨_, rfl⟩
  replace k : own_To p.tables e below A0 s₁ (mkF m 47 (ow_L p1 p2 p3 p4 p5 p6 (ow_i f1) (ow_i f2) (ow_i f3)) []) := by rw [h_f3]; exact k
  replace k : ow s₁ (mkF m 49 (ow_L p1 p2 p3 p4 p5 p6 (ow_i f1) (ow_i f2) (ow_i f3)) [(.int f1)]) := fun t q => k t (XS.iload X0.here hx rfl (hb hby at_47) rfl q)
  replace k : own_To p.tables e below A0 s₁ (mkF m 57 (ow_L p1 p2 p3 p4 p5 p6 (ow_i f1) (ow_i f2) (ow_i f3)) [(.int (if f1 = (0 : Int32) then p4 else p1))]) := by
    by_cases hj24 : f1 = (0 : Int32)
    · simp only [if_pos hj24]
      replace k : ow s₁ (mkF m 56 (ow_L p1 p2 p3 p4 p5 p6 (ow_i f1) (ow_i f2) (ow_i f3)) []) := fun t q => k t (XS.ifYes X0.here hx rfl (pc0 := 49) (pc' := 56) rfl (hb hby at_49) rfl ((if0 _ _).trans (teq (show f1 = (0 : Int32) from hj24)).1) (by decide) (by decide) q)
      replace k : ow s₁ (mkF m 57 (ow_L p1 p2 p3 p4 p5 p6 (ow_i f1) (ow_i f2) (ow_i f3)) [(.int p4)]) := fun t q => k t (XS.iloadN X0.here hx rfl (hb hby at_56) rfl q)
      exact k
    · simp only [if_neg hj24]
      replace k : ow s₁ (mkF m 52 (ow_L p1 p2 p3 p4 p5 p6 (ow_i f1) (ow_i f2) (ow_i f3)) []) := fun t q => k t (XS.ifNo X0.here hx rfl (hb hby at_49) rfl ((if0 _ _).trans (feq (show ¬ (f1 = (0 : Int32)) from hj24)).1) q)
      replace k : ow s₁ (mkF m 57 (ow_L p1 p2 p3 p4 p5 p6 (ow_i f1) (ow_i f2) (ow_i f3)) [(.int p1)]) := fun t q => k t (XS.iloadN X0.here hx rfl (hb hby at_52) rfl (XS.goto X0.here hx rfl (pc0 := 53) (pc' := 57) rfl (hb hby at_53) (by decide) (by decide) q))
      exact k
  replace k : ow s₁ (mkF m 59 (ow_L p1 p2 p3 p4 p5 p6 (ow_i f1) (ow_i f2) (ow_i f3) (ow_i (if f1 = (0 : Int32) then p4 else p1))) []) := fun t q => k t (XS.istore X0.here hx rfl (hb hby at_57) rfl (l' := (ow_L p1 p2 p3 p4 p5 p6 (ow_i f1) (ow_i f2) (ow_i f3) (ow_i (if f1 = (0 : Int32) then p4 else p1)))) rfl q)
  obtain ⟨u1, h_u1⟩ : ∃ z, z = (if f1 = (0 : Int32) then p4 else p1) := ⟨_, rfl⟩
  replace k : own_To p.tables e below A0 s₁ (mkF m 59 (ow_L p1 p2 p3 p4 p5 p6 (ow_i f1) (ow_i f2) (ow_i f3) (ow_i u1)) []) := by rw [h_u1]; exact k
  replace k : ow s₁ (mkF m 61 (ow_L p1 p2 p3 p4 p5 p6 (ow_i f1) (ow_i f2) (ow_i f3) (ow_i u1)) [(.int f1)]) := fun t q => k t (XS.iload X0.here hx rfl (hb hby at_59) rfl q)
  replace k : own_To p.tables e below A0 s₁ (mkF m 73 (ow_L p1 p2 p3 p4 p5 p6 (ow_i f1) (ow_i f2) (ow_i f3) (ow_i u1)) [(.int (if f1 = (0 : Int32) then ((p6.toUInt32 >>> ((1 : Int32) &&& 31).toUInt32).toInt32) else p6))]) := by
    by_cases hj25 : f1 = (0 : Int32)
    · simp only [if_pos hj25]
      replace k : ow s₁ (mkF m 69 (ow_L p1 p2 p3 p4 p5 p6 (ow_i f1) (ow_i f2) (ow_i f3) (ow_i u1)) []) := fun t q => k t (XS.ifYes X0.here hx rfl (pc0 := 61) (pc' := 69) rfl (hb hby at_61) rfl ((if0 _ _).trans (teq (show f1 = (0 : Int32) from hj25)).1) (by decide) (by decide) q)
      replace k : ow s₁ (mkF m 72 (ow_L p1 p2 p3 p4 p5 p6 (ow_i f1) (ow_i f2) (ow_i f3) (ow_i u1)) [(.int 1), (.int p6)]) := fun t q => k t (XS.iload X0.here hx rfl (hb hby at_69) rfl (XS.iconst X0.here hx rfl (hb hby at_71) q))
      replace k : ow s₁ (mkF m 73 (ow_L p1 p2 p3 p4 p5 p6 (ow_i f1) (ow_i f2) (ow_i f3) (ow_i u1)) [(.int ((p6.toUInt32 >>> ((1 : Int32) &&& 31).toUInt32).toInt32))]) := fun t q => k t (XS.iushr X0.here hx rfl (hb hby at_72) rfl q)
      exact k
    · simp only [if_neg hj25]
      replace k : ow s₁ (mkF m 64 (ow_L p1 p2 p3 p4 p5 p6 (ow_i f1) (ow_i f2) (ow_i f3) (ow_i u1)) []) := fun t q => k t (XS.ifNo X0.here hx rfl (hb hby at_61) rfl ((if0 _ _).trans (feq (show ¬ (f1 = (0 : Int32)) from hj25)).1) q)
      replace k : ow s₁ (mkF m 73 (ow_L p1 p2 p3 p4 p5 p6 (ow_i f1) (ow_i f2) (ow_i f3) (ow_i u1)) [(.int p6)]) := fun t q => k t (XS.iload X0.here hx rfl (hb hby at_64) rfl (XS.goto X0.here hx rfl (pc0 := 66) (pc' := 73) rfl (hb hby at_66) (by decide) (by decide) q))
      exact k
  replace k : ow s₁ (mkF m 75 (ow_L p1 p2 p3 p4 p5 p6 (ow_i f1) (ow_i f2) (ow_i f3) (ow_i u1) (ow_i (if f1 = (0 : Int32) then ((p6.toUInt32 >>> ((1 : Int32) &&& 31).toUInt32).toInt32) else p6))) []) := fun t q => k t (XS.istore X0.here hx rfl (hb hby at_73) rfl (l' := (ow_L p1 p2 p3 p4 p5 p6 (ow_i f1) (ow_i f2) (ow_i f3) (ow_i u1) (ow_i (if f1 = (0 : Int32) then ((p6.toUInt32 >>> ((1 : Int32) &&& 31).toUInt32).toInt32) else p6)))) rfl q)
  obtain ⟨u2, h_u2⟩ : ∃ z, z = (if f1 = (0 : Int32) then ((p6.toUInt32 >>> ((1 : Int32) &&& 31).toUInt32).toInt32) else p6) := ⟨_, rfl⟩
  replace k : own_To p.tables e below A0 s₁ (mkF m 75 (ow_L p1 p2 p3 p4 p5 p6 (ow_i f1) (ow_i f2) (ow_i f3) (ow_i u1) (ow_i u2)) []) := by rw [h_u2]; exact k
  replace k : ow s₁ (mkF m 78 (ow_L p1 p2 p3 p4 p5 p6 (ow_i f1) (ow_i f2) (ow_i f3) (ow_i u1) (ow_i u2)) [(.int 2), (.int p6)]) := fun t q => k t (XS.iload X0.here hx rfl (hb hby at_75) rfl (XS.iconst X0.here hx rfl (hb hby at_77) q))
  replace k : ow s₁ (mkF m 79 (ow_L p1 p2 p3 p4 p5 p6 (ow_i f1) (ow_i f2) (ow_i f3) (ow_i u1) (ow_i u2)) [(.int ((p6.toUInt32 >>> ((2 : Int32) &&& 31).toUInt32).toInt32))]) := fun t q => k t (XS.iushr X0.here hx rfl (hb hby at_78) rfl q)
  replace k : ow s₁ (mkF m 81 (ow_L p1 p2 p3 p4 p5 p6 (ow_i f1) (ow_i f2) (ow_i f3) (ow_i u1) (ow_i u2) (ow_i ((p6.toUInt32 >>> ((2 : Int32) &&& 31).toUInt32).toInt32))) []) := fun t q => k t (XS.istore X0.here hx rfl (hb hby at_79) rfl (l' := (ow_L p1 p2 p3 p4 p5 p6 (ow_i f1) (ow_i f2) (ow_i f3) (ow_i u1) (ow_i u2) (ow_i ((p6.toUInt32 >>> ((2 : Int32) &&& 31).toUInt32).toInt32)))) rfl q)
  obtain ⟨u3, h_u3⟩ : ∃ z, z = ((p6.toUInt32 >>> ((2 : Int32) &&& 31).toUInt32).toInt32) := ⟨_, rfl⟩
  replace k : own_To p.tables e below A0 s₁ (mkF m 81 (ow_L p1 p2 p3 p4 p5 p6 (ow_i f1) (ow_i f2) (ow_i f3) (ow_i u1) (ow_i u2) (ow_i u3)) []) := by rw [h_u3]; exact k
  replace k : ow s₁ (mkF m 83 (ow_L p1 p2 p3 p4 p5 p6 (ow_i f1) (ow_i f2) (ow_i f3) (ow_i u1) (ow_i u2) (ow_i u3)) [(.int f2)]) := fun t q => k t (XS.iload X0.here hx rfl (hb hby at_81) rfl q)
  replace k : own_To p.tables e below A0 s₁ (mkF m 92 (ow_L p1 p2 p3 p4 p5 p6 (ow_i f1) (ow_i f2) (ow_i f3) (ow_i u1) (ow_i u2) (ow_i u3)) [(.int (if f2 = (0 : Int32) then p5 else p2))]) := by
    by_cases hj26 : f2 = (0 : Int32)
    · simp only [if_pos hj26]
      replace k : ow s₁ (mkF m 90 (ow_L p1 p2 p3 p4 p5 p6 (ow_i f1) (ow_i f2) (ow_i f3) (ow_i u1) (ow_i u2) (ow_i u3)) []) := fun t q => k t (XS.ifYes X0.here hx rfl (pc0 := 83) (pc' := 90) rfl (hb hby at_83) rfl ((if0 _ _).trans (teq (show f2 = (0 : Int32) from hj26)).1) (by decide) (by decide) q)
      replace k : ow s₁ (mkF m 92 (ow_L p1 p2 p3 p4 p5 p6 (ow_i f1) (ow_i f2) (ow_i f3) (ow_i u1) (ow_i u2) (ow_i u3)) [(.int p5)]) := fun t q => k t (XS.iload X0.here hx rfl (hb hby at_90) rfl q)
      exact k
    · simp only [if_neg hj26]
      replace k : ow s₁ (mkF m 86 (ow_L p1 p2 p3 p4 p5 p6 (ow_i f1) (ow_i f2) (ow_i f3) (ow_i u1) (ow_i u2) (ow_i u3)) []) := fun t q => k t (XS.ifNo X0.here hx rfl (hb hby at_83) rfl ((if0 _ _).trans (feq (show ¬ (f2 = (0 : Int32)) from hj26)).1) q)
      replace k : ow s₁ (mkF m 92 (ow_L p1 p2 p3 p4 p5 p6 (ow_i f1) (ow_i f2) (ow_i f3) (ow_i u1) (ow_i u2) (ow_i u3)) [(.int p2)]) := fun t q => k t (XS.iloadN X0.here hx rfl (hb hby at_86) rfl (XS.goto X0.here hx rfl (pc0 := 87) (pc' := 92) rfl (hb hby at_87) (by decide) (by decide) q))
      exact k
  replace k : ow s₁ (mkF m 94 (ow_L p1 p2 p3 p4 p5 p6 (ow_i f1) (ow_i f2) (ow_i f3) (ow_i u1) (ow_i u2) (ow_i u3) (ow_i (if f2 = (0 : Int32) then p5 else p2))) []) := fun t q => k t (XS.istore X0.here hx rfl (hb hby at_92) rfl (l' := (ow_L p1 p2 p3 p4 p5 p6 (ow_i f1) (ow_i f2) (ow_i f3) (ow_i u1) (ow_i u2) (ow_i u3) (ow_i (if f2 = (0 : Int32) then p5 else p2)))) rfl q)
  obtain ⟨u4, h_u4⟩ : ∃ z, z = (if f2 = (0 : Int32) then p5 else p2) := ⟨_, rfl⟩
  replace k : own_To p.tables e below A0 s₁ (mkF m 94 (ow_L p1 p2 p3 p4 p5 p6 (ow_i f1) (ow_i f2) (ow_i f3) (ow_i u1) (ow_i u2) (ow_i u3) (ow_i u4)) []) := by rw [h_u4]; exact k
  replace k : ow s₁ (mkF m 96 (ow_L p1 p2 p3 p4 p5 p6 (ow_i f1) (ow_i f2) (ow_i f3) (ow_i u1) (ow_i u2) (ow_i u3) (ow_i u4)) [(.int f2)]) := fun t q => k t (XS.iload X0.here hx rfl (hb hby at_94) rfl q)
  replace k : own_To p.tables e below A0 s₁ (mkF m 108 (ow_L p1 p2 p3 p4 p5 p6 (ow_i f1) (ow_i f2) (ow_i f3) (ow_i u1) (ow_i u2) (ow_i u3) (ow_i u4)) [(.int (if f2 = (0 : Int32) then ((p6.toUInt32 >>> ((4 : Int32) &&& 31).toUInt32).toInt32) else u3))]) := by
    by_cases hj27 : f2 = (0 : Int32)
    · simp only [if_pos hj27]
      replace k : ow s₁ (mkF m 104 (ow_L p1 p2 p3 p4 p5 p6 (ow_i f1) (ow_i f2) (ow_i f3) (ow_i u1) (ow_i u2) (ow_i u3) (ow_i u4)) []) := fun t q => k t (XS.ifYes X0.here hx rfl (pc0 := 96) (pc' := 104) rfl (hb hby at_96) rfl ((if0 _ _).trans (teq (show f2 = (0 : Int32) from hj27)).1) (by decide) (by decide) q)
      replace k : ow s₁ (mkF m 107 (ow_L p1 p2 p3 p4 p5 p6 (ow_i f1) (ow_i f2) (ow_i f3) (ow_i u1) (ow_i u2) (ow_i u3) (ow_i u4)) [(.int 4), (.int p6)]) := fun t q => k t (XS.iload X0.here hx rfl (hb hby at_104) rfl (XS.iconst X0.here hx rfl (hb hby at_106) q))
      replace k : ow s₁ (mkF m 108 (ow_L p1 p2 p3 p4 p5 p6 (ow_i f1) (ow_i f2) (ow_i f3) (ow_i u1) (ow_i u2) (ow_i u3) (ow_i u4)) [(.int ((p6.toUInt32 >>> ((4 : Int32) &&& 31).toUInt32).toInt32))]) := fun t q => k t (XS.iushr X0.here hx rfl (hb hby at_107) rfl q)
      exact k
    · simp only [if_neg hj27]
      replace k : ow s₁ (mkF m 99 (ow_L p1 p2 p3 p4 p5 p6 (ow_i f1) (ow_i f2) (ow_i f3) (ow_i u1) (ow_i u2) (ow_i u3) (ow_i u4)) []) := fun t q => k t (XS.ifNo X0.here hx rfl (hb hby at_96) rfl ((if0 _ _).trans (feq (show ¬ (f2 = (0 : Int32)) from hj27)).1) q)
      replace k : ow s₁ (mkF m 108 (ow_L p1 p2 p3 p4 p5 p6 (ow_i f1) (ow_i f2) (ow_i f3) (ow_i u1) (ow_i u2) (ow_i u3) (ow_i u4)) [(.int u3)]) := fun t q => k t (XS.iload X0.here hx rfl (hb hby at_99) rfl (XS.goto X0.here hx rfl (pc0 := 101) (pc' := 108) rfl (hb hby at_101) (by decide) (by decide) q))
      exact k
  replace k : ow s₁ (mkF m 110 (ow_L p1 p2 p3 p4 p5 p6 (ow_i f1) (ow_i f2) (ow_i f3) (ow_i u1) (ow_i u2) (ow_i u3) (ow_i u4) (ow_i (if f2 = (0 : Int32) then ((p6.toUInt32 >>> ((4 : Int32) &&& 31).toUInt32).toInt32) else u3))) []) := fun t q => k t (XS.istore X0.here hx rfl (hb hby at_108) rfl (l' := (ow_L p1 p2 p3 p4 p5 p6 (ow_i f1) (ow_i f2) (ow_i f3) (ow_i u1) (ow_i u2) (ow_i u3) (ow_i u4) (ow_i (if f2 = (0 : Int32) then ((p6.toUInt32 >>> ((4 : Int32) &&& 31).toUInt32).toInt32) else u3)))) rfl q)
  obtain ⟨u5, h_u5⟩ : ∃ z, z = (if f2 = (0 : Int32) then ((p6.toUInt32 >>> ((4 : Int32) &&& 31).toUInt32).toInt32) else u3) := ⟨_, rfl⟩
  replace k : own_To p.tables e below A0 s₁ (mkF m 110 (ow_L p1 p2 p3 p4 p5 p6 (ow_i f1) (ow_i f2) (ow_i f3) (ow_i u1) (ow_i u2) (ow_i u3) (ow_i u4) (ow_i u5)) []) := by rw [h_u5]; exact k
  replace k : ow s₁ (mkF m 112 (ow_L p1 p2 p3 p4 p5 p6 (ow_i f1) (ow_i f2) (ow_i f3) (ow_i u1) (ow_i u2) (ow_i u3) (ow_i u4) (ow_i u5)) [(.int f3)]) := fun t q => k t (XS.iload X0.here hx rfl (hb hby at_110) rfl q)
  replace k : own_To p.tables e below A0 s₁ (mkF m 124 (ow_L p1 p2 p3 p4 p5 p6 (ow_i f1) (ow_i f2) (ow_i f3) (ow_i u1) (ow_i u2) (ow_i u3) (ow_i u4) (ow_i u5)) [(.int (if f3 = (0 : Int32) then ((p5.toUInt32 >>> ((16 : Int32) &&& 31).toUInt32).toInt32) else p3))]) := by
    by_cases hj28 : f3 = (0 : Int32)
    · simp only [if_pos hj28]
      replace k : ow s₁ (mkF m 119 (ow_L p1 p2 p3 p4 p5 p6 (ow_i f1) (ow_i f2) (ow_i f3) (ow_i u1) (ow_i u2) (ow_i u3) (ow_i u4) (ow_i u5)) []) := fun t q => k t (XS.ifYes X0.here hx rfl (pc0 := 112) (pc' := 119) rfl (hb hby at_112) rfl ((if0 _ _).trans (teq (show f3 = (0 : Int32) from hj28)).1) (by decide) (by decide) q)
      replace k : ow s₁ (mkF m 123 (ow_L p1 p2 p3 p4 p5 p6 (ow_i f1) (ow_i f2) (ow_i f3) (ow_i u1) (ow_i u2) (ow_i u3) (ow_i u4) (ow_i u5)) [(.int 16), (.int p5)]) := fun t q => k t (XS.iload X0.here hx rfl (hb hby at_119) rfl (XS.bipush X0.here hx rfl (hb hby at_121) q))
      replace k : ow s₁ (mkF m 124 (ow_L p1 p2 p3 p4 p5 p6 (ow_i f1) (ow_i f2) (ow_i f3) (ow_i u1) (ow_i u2) (ow_i u3) (ow_i u4) (ow_i u5)) [(.int ((p5.toUInt32 >>> ((16 : Int32) &&& 31).toUInt32).toInt32))]) := fun t q => k t (XS.iushr X0.here hx rfl (hb hby at_123) rfl q)
      exact k
    · simp only [if_neg hj28]
      replace k : ow s₁ (mkF m 115 (ow_L p1 p2 p3 p4 p5 p6 (ow_i f1) (ow_i f2) (ow_i f3) (ow_i u1) (ow_i u2) (ow_i u3) (ow_i u4) (ow_i u5)) []) := fun t q => k t (XS.ifNo X0.here hx rfl (hb hby at_112) rfl ((if0 _ _).trans (feq (show ¬ (f3 = (0 : Int32)) from hj28)).1) q)
      replace k : ow s₁ (mkF m 124 (ow_L p1 p2 p3 p4 p5 p6 (ow_i f1) (ow_i f2) (ow_i f3) (ow_i u1) (ow_i u2) (ow_i u3) (ow_i u4) (ow_i u5)) [(.int p3)]) := fun t q => k t (XS.iloadN X0.here hx rfl (hb hby at_115) rfl (XS.goto X0.here hx rfl (pc0 := 116) (pc' := 124) rfl (hb hby at_116) (by decide) (by decide) q))
      exact k
  replace k : ow s₁ (mkF m 126 (ow_L p1 p2 p3 p4 p5 p6 (ow_i f1) (ow_i f2) (ow_i f3) (ow_i u1) (ow_i u2) (ow_i u3) (ow_i u4) (ow_i u5) (ow_i (if f3 = (0 : Int32) then ((p5.toUInt32 >>> ((16 : Int32) &&& 31).toUInt32).toInt32) else p3))) []) := fun t q => k t (XS.istore X0.here hx rfl (hb hby at_124) rfl (l' := (ow_L p1 p2 p3 p4 p5 p6 (ow_i f1) (ow_i f2) (ow_i f3) (ow_i u1) (ow_i u2) (ow_i u3) (ow_i u4) (ow_i u5) (ow_i (if f3 = (0 : Int32) then ((p5.toUInt32 >>> ((16 : Int32) &&& 31).toUInt32).toInt32) else p3)))) rfl q)
  obtain ⟨u6, h_u6⟩ : ∃ z, z = (if f3 = (0 : Int32) then ((p5.toUInt32 >>> ((16 : Int32) &&& 31).toUInt32).toInt32) else p3) := ⟨_, rfl⟩
  replace k : own_To p.tables e below A0 s₁ (mkF m 126 (ow_L p1 p2 p3 p4 p5 p6 (ow_i f1) (ow_i f2) (ow_i f3) (ow_i u1) (ow_i u2) (ow_i u3) (ow_i u4) (ow_i u5) (ow_i u6)) []) := by rw [h_u6]; exact k
  replace k : ow s₁ (mkF m 129 (ow_L p1 p2 p3 p4 p5 p6 (ow_i f1) (ow_i f2) (ow_i f3) (ow_i u1) (ow_i u2) (ow_i u3) (ow_i u4) (ow_i u5) (ow_i u6)) [(.int p6), (.int p1)]) := fun t q => k t (XS.iloadN X0.here hx rfl (hb hby at_126) rfl (XS.iload X0.here hx rfl (hb hby at_127) rfl q))
  obtain ⟨_, T29, L29, h29, X29, hS29, hZ, hown, e29, hQ29, CU29, k⟩ := own_cSS X0 hx hw hZ hown e0 hS0 hk0 k (backOfSH (W := 0) (own_m1 l Z a0 hw [] p1 p6 w_COMPACT_STRINGS h0 n0 Z0 S_COMPACT_STRINGS hz) hZ (own_h hw 3 rfl) (own_h hw 2 rfl) (by decide) (by decide) (own_EW hw) CH0) 0 1 2 3 rfl rfl rfl rfl (by decide) rfl (by rw [hml]; rfl) [(.int p1), (.int p6)] [] (lenOf own_pd18 rfl) rfl rfl own_le (hb hby at_129) (by decide) (by decide)
  have hk29 := Nat.le_refl h29.size
  have CR29 := CR0.trans CU29
  have CH29 := CU29.1
  obtain ⟨a29, rfl, N29q, KC29, TX29⟩ := hQ29
  have KK29 : Keep h0 h29 [] := (Keep.refl h0 []).trans KC29 all0
  have Z29 : n0 ≤ h29.size := Nat.le_trans Z0 KC29.1
  have EC29 := TX29.exa
  have N29 := Fr.app N0 N29q
  replace k : ow T29 (mkF m 137 (ow_L p1 p2 p3 p4 p5 p6 (ow_i f1) (ow_i f2) (ow_i f3) (ow_i u1) (ow_i u2) (ow_i u3) (ow_i u4) (ow_i u5) (ow_i u6) (ow_r a29)) [(.int u3), (.int p2)]) := fun t q => k t (XS.astore X29.here hx rfl (hb hby at_132) rfl rfl (l' := (ow_L p1 p2 p3 p4 p5 p6 (ow_i f1) (ow_i f2) (ow_i f3) (ow_i u1) (ow_i u2) (ow_i u3) (ow_i u4) (ow_i u5) (ow_i u6) (ow_r a29))) rfl (XS.iloadN X29.here hx rfl (hb hby at_134) rfl (XS.iload X29.here hx rfl (hb hby at_135) rfl q)))
  obtain ⟨_, T30, L30, h30, X30, hS30, hZ, hown, e30, hQ30, CU30, k⟩ := own_cSS X29 hx hw hZ hown e29 hS29 hk29 k (backOfSH (W := 0) (own_m9 l Z a0 hw [] p2 u3 w_COMPACT_STRINGS h29 n0 Z29 (own_sta_keep S_COMPACT_STRINGS KC29 ns0) hz) hZ (own_h hw 39 rfl) (own_h hw 2 rfl) (by decide) (by decide) (own_EW hw) CH29) 37 38 2 39 rfl rfl rfl rfl (by decide) rfl (by rw [hml]; rfl) [(.int p2), (.int u3)] [] (lenOf own_pd18 rfl) rfl rfl own_le (hb hby at_137) (by decide) (by decide)
  have hk30 := Nat.le_refl h30.size
  have CR30 := CR29.trans CU30
  have CH30 := CU30.1
  obtain ⟨a30, rfl, N30q, KC30, TX30⟩ := hQ30
  have KK30 : Keep h0 h30 [] := KK29.trans KC30 all0
  have Z30 : n0 ≤ h30.size := Nat.le_trans Z29 KC30.1
  have EC30 := TX30.exa
  have N30 := Fr.app N29 N30q
  replace k : ow T30 (mkF m 145 (ow_L p1 p2 p3 p4 p5 p6 (ow_i f1) (ow_i f2) (ow_i f3) (ow_i u1) (ow_i u2) (ow_i u3) (ow_i u4) (ow_i u5) (ow_i u6) (ow_r a29) (ow_r a30)) [(.int u3), (.int p3)]) := fun t q => k t (XS.astore X30.here hx rfl (hb hby at_140) rfl rfl (l' := (ow_L p1 p2 p3 p4 p5 p6 (ow_i f1) (ow_i f2) (ow_i f3) (ow_i u1) (ow_i u2) (ow_i u3) (ow_i u4) (ow_i u5) (ow_i u6) (ow_r a29) (ow_r a30))) rfl (XS.iloadN X30.here hx rfl (hb hby at_142) rfl (XS.iload X30.here hx rfl (hb hby at_143) rfl q)))
  obtain ⟨_, T31, L31, h31, X31, hS31, hZ, hown, e31, hQ31, CU31, k⟩ := own_cSS X30 hx hw hZ hown e30 hS30 hk30 k (backOfSH (W := 0) (own_m10 l Z a0 hw [] p3 u3 w_COMPACT_STRINGS w_SIOOBE_FORMATTER h30 n0 Z30 (own_sta_keep (own_sta_keep S_COMPACT_STRINGS KC29 ns0) KC30 ns0) (own_sta_keep (own_sta_keep S_SIOOBE_FORMATTER KC29 ns0) KC30 ns0) hz hrS) hZ (own_h hw 42 rfl) (own_h hw 2 rfl) (by decide) (by decide) (own_EW hw) CH30) 40 41 2 42 rfl rfl rfl rfl (by decide) rfl (by rw [hml]; rfl) [(.int p3), (.int u3)] [] (lenOf own_pd18 rfl) rfl rfl own_le (hb hby at_145) (by decide) (by decide)
  have hk31 := Nat.le_refl h31.size
  have CR31 := CR30.trans CU31
  have CH31 := CU31.1
  obtain ⟨a31, rfl, N31q, KC31, TX31⟩ := hQ31
  have KK31 : Keep h0 h31 [] := KK30.trans KC31 all0
  have Z31 : n0 ≤ h31.size := Nat.le_trans Z30 KC31.1
  have EC31 := TX31.exa
  have N31 := Fr.app N30 N31q
  replace k : ow T31 (mkF m 154 (ow_L p1 p2 p3 p4 p5 p6 (ow_i f1) (ow_i f2) (ow_i f3) (ow_i u1) (ow_i u2) (ow_i u3) (ow_i u4) (ow_i u5) (ow_i u6) (ow_r a29) (ow_r a30) (ow_r a31)) [(.int u2), (.int u1)]) := fun t q => k t (XS.astore X31.here hx rfl (hb hby at_148) rfl rfl (l' := (ow_L p1 p2 p3 p4 p5 p6 (ow_i f1) (ow_i f2) (ow_i f3) (ow_i u1) (ow_i u2) (ow_i u3) (ow_i u4) (ow_i u5) (ow_i u6) (ow_r a29) (ow_r a30) (ow_r a31))) rfl (XS.iload X31.here hx rfl (hb hby at_150) rfl (XS.iload X31.here hx rfl (hb hby at_152) rfl q)))
  obtain ⟨_, T32, L32, h32, X32, hS32, hZ, hown, e32, hQ32, CU32, k⟩ := own_cSS X31 hx hw hZ hown e31 hS31 hk31 k (backOfSH (W := 0) (own_m1 l Z a0 hw [] u1 u2 w_COMPACT_STRINGS h31 n0 Z31 (own_sta_keep (own_sta_keep (own_sta_keep S_COMPACT_STRINGS KC29 ns0) KC30 ns0) KC31 ns0) hz) hZ (own_h hw 3 rfl) (own_h hw 2 rfl) (by decide) (by decide) (own_EW hw) CH31) 0 1 2 3 rfl rfl rfl rfl (by decide) rfl (by rw [hml]; rfl) [(.int u1), (.int u2)] [] (lenOf own_pd18 rfl) rfl rfl own_le (hb hby at_154) (by decide) (by decide)
  have hk32 := Nat.le_refl h32.size
  have CR32 := CR31.trans CU32
  have CH32 := CU32.1
  obtain ⟨a32, rfl, N32q, KC32, TX32⟩ := hQ32
  have KK32 : Keep h0 h32 [] := KK31.trans KC32 all0
  have Z32 : n0 ≤ h32.size := Nat.le_trans Z31 KC32.1
  have EC32 := TX32.exa
  have N32 := Fr.app N31 N32q
  replace k : ow T32 (mkF m 163 (ow_L p1 p2 p3 p4 p5 p6 (ow_i f1) (ow_i f2) (ow_i f3) (ow_i u1) (ow_i u2) (ow_i u3) (ow_i u4) (ow_i u5) (ow_i u6) (ow_r a29) (ow_r a30) (ow_r a31) (ow_r a32)) [(.int u5), (.int u4)]) := fun t q => k t (XS.astore X32.here hx rfl (hb hby at_157) rfl rfl (l' := (ow_L p1 p2 p3 p4 p5 p6 (ow_i f1) (ow_i f2) (ow_i f3) (ow_i u1) (ow_i u2) (ow_i u3) (ow_i u4) (ow_i u5) (ow_i u6) (ow_r a29) (ow_r a30) (ow_r a31) (ow_r a32))) rfl (XS.iload X32.here hx rfl (hb hby at_159) rfl (XS.iload X32.here hx rfl (hb hby at_161) rfl q)))
  obtain ⟨_, T33, L33, h33, X33, hS33, hZ, hown, e33, hQ33, CU33, k⟩ := own_cSS X32 hx hw hZ hown e32 hS32 hk32 k (backOfSH (W := 0) (own_m9 l Z a0 hw [] u4 u5 w_COMPACT_STRINGS h32 n0 Z32 (own_sta_keep (own_sta_keep (own_sta_keep (own_sta_keep S_COMPACT_STRINGS KC29 ns0) KC30 ns0) KC31 ns0) KC32 ns0) hz) hZ (own_h hw 39 rfl) (own_h hw 2 rfl) (by decide) (by decide) (own_EW hw) CH32) 37 38 2 39 rfl rfl rfl rfl (by decide) rfl (by rw [hml]; rfl) [(.int u4), (.int u5)] [] (lenOf own_pd18 rfl) rfl rfl own_le (hb hby at_163) (by decide) (by decide)
  have hk33 := Nat.le_refl h33.size
  have CR33 := CR32.trans CU33
  have CH33 := CU33.1
  obtain ⟨a33, rfl, N33q, KC33, TX33⟩ := hQ33
  have KK33 : Keep h0 h33 [] := KK32.trans KC33 all0
  have Z33 : n0 ≤ h33.size := Nat.le_trans Z32 KC33.1
  have EC33 := TX33.exa
  have N33 := Fr.app N32 N33q
  replace k : ow T33 (mkF m 172 (ow_L p1 p2 p3 p4 p5 p6 (ow_i f1) (ow_i f2) (ow_i f3) (ow_i u1) (ow_i u2) (ow_i u3) (ow_i u4) (ow_i u5) (ow_i u6) (ow_r a29) (ow_r a30) (ow_r a31) (ow_r a32) (ow_r a33)) [(.int u5), (.int u6)]) := fun t q => k t (XS.astore X33.here hx rfl (hb hby at_166) rfl rfl (l' := (ow_L p1 p2 p3 p4 p5 p6 (ow_i f1) (ow_i f2) (ow_i f3) (ow_i u1) (ow_i u2) (ow_i u3) (ow_i u4) (ow_i u5) (ow_i u6) (ow_r a29) (ow_r a30) (ow_r a31) (ow_r a32) (ow_r a33))) rfl (XS.iload X33.here hx rfl (hb hby at_168) rfl (XS.iload X33.here hx rfl (hb hby at_170) rfl q)))
  obtain ⟨_, T34, L34, h34, X34, hS34, hZ, hown, e34, hQ34, CU34, k⟩ := own_cSS X33 hx hw hZ hown e33 hS33 hk33 k (backOfSH (W := 0) (own_m10 l Z a0 hw [] u6 u5 w_COMPACT_STRINGS w_SIOOBE_FORMATTER h33 n0 Z33 (own_sta_keep (own_sta_keep (own_sta_keep (own_sta_keep (own_sta_keep S_COMPACT_STRINGS KC29 ns0) KC30 ns0) KC31 ns0) KC32 ns0) KC33 ns0) (own_sta_keep (own_sta_keep (own_sta_keep (own_sta_keep (own_sta_keep S_SIOOBE_FORMATTER KC29 ns0) KC30 ns0) KC31 ns0) KC32 ns0) KC33 ns0) hz hrS) hZ (own_h hw 42 rfl) (own_h hw 2 rfl) (by decide) (by decide) (own_EW hw) CH33) 40 41 2 42 rfl rfl rfl rfl (by decide) rfl (by rw [hml]; rfl) [(.int u6), (.int u5)] [] (lenOf own_pd18 rfl) rfl rfl own_le (hb hby at_172) (by decide) (by decide)
  have hk34 := Nat.le_refl h34.size
  have CR34 := CR33.trans CU34
  have CH34 := CU34.1
  obtain ⟨a34, rfl, N34q, KC34, TX34⟩ := hQ34
  have KK34 : Keep h0 h34 [] := KK33.trans KC34 all0
  have Z34 : n0 ≤ h34.size := Nat.le_trans Z33 KC34.1
  have EC34 := TX34.exa
  have N34 := Fr.app N33 N34q
  obtain ⟨T35, h35, X35, e35, E35, A35, D35, -, st35⟩ := newO X34 hx hZ hown (own_h hw 71 rfl) (own_h hw 72 rfl) (own_h hw 73 rfl) e34 (g := (mkF m 177 (ow_L p1 p2 p3 p4 p5 p6 (ow_i f1) (ow_i f2) (ow_i f3) (ow_i u1) (ow_i u2) (ow_i u3) (ow_i u4) (ow_i u5) (ow_i u6) (ow_r a29) (ow_r a30) (ow_r a31) (ow_r a32) (ow_r a33) (ow_r a34)) [])) rfl (hb hby at_177) (by decide) (by decide)
  obtain ⟨b35, g35⟩ : ∃ z, z = h34.size := ⟨_, rfl⟩
  rw [← g35] at A35 D35 st35
  have ge_b35 : n0 ≤ b35 := Nat.le_trans Z34 (Nat.le_of_eq g35.symm)
  have sz_b35 : h0.size ≤ b35 := Nat.le_trans KK34.1 (Nat.le_of_eq g35.symm)
  have Z35 : n0 ≤ h35.size := Nat.le_trans Z34 E35.1
  have K35 : Keep h0 h35 [] := KK34.ext E35
  have CU35 := CHr.ext E35 CH34
  have CR35 := CR34.trans CU35
  have CH35 := CU35.1
  have hk35 := Nat.le_trans hk34 E35.1
  have F_className_b35 : Fld Z h35 b35 "com/example/callsite/callsite/model/MethodId" "className" "Ljava/lang/String;" .null := D35 (Or.inr (own_h hw 188 rfl)) (ty := (.object "java/lang/String")) (by decide)
  have F_name_b35 : Fld Z h35 b35 "com/example/callsite/callsite/model/MethodId" "name" "Ljava/lang/String;" .null := D35 (Or.inr (own_h hw 190 rfl)) (ty := (.object "java/lang/String")) (by decide)
  have F_descriptor_b35 : Fld Z h35 b35 "com/example/callsite/callsite/model/MethodId" "descriptor" "Ljava/lang/String;" .null := D35 (Or.inr (own_h hw 192 rfl)) (ty := (.object "java/lang/String")) (by decide)
  replace k : ow T35 (mkF m 180 (ow_L p1 p2 p3 p4 p5 p6 (ow_i f1) (ow_i f2) (ow_i f3) (ow_i u1) (ow_i u2) (ow_i u3) (ow_i u4) (ow_i u5) (ow_i u6) (ow_r a29) (ow_r a30) (ow_r a31) (ow_r a32) (ow_r a33) (ow_r a34)) [(.ref b35)]) := fun t q => k t (XS.astore X34.here hx rfl (hb hby at_175) rfl rfl (l' := (ow_L p1 p2 p3 p4 p5 p6 (ow_i f1) (ow_i f2) (ow_i f3) (ow_i u1) (ow_i u2) (ow_i u3) (ow_i u4) (ow_i u5) (ow_i u6) (ow_r a29) (ow_r a30) (ow_r a31) (ow_r a32) (ow_r a33) (ow_r a34))) rfl (st35 t q))
  clear st35
  replace k : ow T35 (mkF m 185 (ow_L p1 p2 p3 p4 p5 p6 (ow_i f1) (ow_i f2) (ow_i f3) (ow_i u1) (ow_i u2) (ow_i u3) (ow_i u4) (ow_i u5) (ow_i u6) (ow_r a29) (ow_r a30) (ow_r a31) (ow_r a32) (ow_r a33) (ow_r a34)) [(.ref a30), (.ref a29), (.ref b35), (.ref b35)]) := fun t q => k t (XS.dup X35.here hx rfl (hb hby at_180) rfl rfl (XS.aload X35.here hx rfl (hb hby at_181) rfl rfl (XS.aload X35.here hx rfl (hb hby at_183) rfl rfl q)))
  obtain ⟨_, _, ⟨T36, L36, k36, n36⟩, -, X36, hSq36, gr36, ⟨Lc36, hQ36, l36, y36, z36, CU36⟩, st36⟩ := Jvm.Stand.specialBackS X35 hx (y := own_y17) rfl hown (mvT hZ (own_h hw 74 rfl)) (mvT hZ (own_h hw 75 rfl)) (mvT hZ (own_h hw 76 rfl)) (by decide) (own_backP (EJ := own_J) (W := 1) (own_m17 l Z a0 hw [] b35 a29 a30 a31 w_COMPACT_STRINGS w_SIOOBE_FORMATTER (own_tC p1 p6) (own_tN p2 u3) (own_tD p3 u3) .null .null .null h35 n0 Z35 ((own_sta_keep (own_sta_keep (own_sta_keep (own_sta_keep (own_sta_keep (own_sta_keep S_COMPACT_STRINGS KC29 ns0) KC30 ns0) KC31 ns0) KC32 ns0) KC33 ns0) KC34 ns0).ext E35) ((own_sta_keep (own_sta_keep (own_sta_keep (own_sta_keep (own_sta_keep (own_sta_keep S_SIOOBE_FORMATTER KC29 ns0) KC30 ns0) KC31 ns0) KC32 ns0) KC33 ns0) KC34 ns0).ext E35) ((((((TX29.keep (a0 := a0) KC30 all0).keep (a0 := a0) KC31 all0).keep (a0 := a0) KC32 all0).keep (a0 := a0) KC33 all0).keep (a0 := a0) KC34 all0).ext E35) (((((TX30.keep (a0 := a0) KC31 all0).keep (a0 := a0) KC32 all0).keep (a0 := a0) KC33 all0).keep (a0 := a0) KC34 all0).ext E35) ((((TX31.keep (a0 := a0) KC32 all0).keep (a0 := a0) KC33 all0).keep (a0 := a0) KC34 all0).ext E35) A35 F_className_b35 ge_b35 F_name_b35 F_descriptor_b35 hz hrS (own_tC_ok _ _) (own_mds _ _ _)) hZ (own_h hw 76 rfl) (own_h hw 73 rfl) (by decide) (by decide) (own_EW hw) CH35) (g := (mkF m 187 (ow_L p1 p2 p3 p4 p5 p6 (ow_i f1) (ow_i f2) (ow_i f3) (ow_i u1) (ow_i u2) (ow_i u3) (ow_i u4) (ow_i u5) (ow_i u6) (ow_r a29) (ow_r a30) (ow_r a31) (ow_r a32) (ow_r a33) (ow_r a34)) [(.ref a31), (.ref a30), (.ref a29), (.ref b35), (.ref b35)])) rfl (by rw [hml]; rfl) (Steps.refl _) (a := b35) (argsL := [(.ref a29), (.ref a30), (.ref a31)]) (rest := [(.ref b35)]) (lenOf own_pd19 rfl) rfl own_le (hb hby at_187) (fun _ _ => ⟨rfl, e35, (by decide : 27 + 26 ≤ _), (by decide : 231 + 296 ≤ _)⟩)
  dsimp only [Pt.U, Pt.locs, Pt.cells, Pt.slots] at X36 l36 y36 z36 st36 hQ36 hSq36 gr36 CU36
  subst l36 y36 z36
  obtain ⟨X36, hS36, hZ, hown⟩ := rebS hS34 (by rw [e35]; exact hk35) X36 hSq36 gr36 hZ hown
  obtain ⟨h36, e36⟩ : ∃ z, T36.heap = z := ⟨_, rfl⟩
  rw [e36] at hQ36 CU36 hS36
  have hk36 : h36.size ≤ h36.size := Nat.le_refl _
  have CP36 := CU36
  have CU36 := CP36.2.1
  have CR36 := CR35.trans CU36
  have CH36 := CU36.1
  obtain ⟨rfl, N36q, KC36, EC36, FC36_0, FC36_1, FC36_2⟩ := hQ36
  have KK36 : Keep h0 h36 [] := K35.trans KC36 (allS (Or.inr sz_b35) all0)
  have Z36 : n0 ≤ h36.size := Nat.le_trans Z35 KC36.1
  have N36 := Fr.app N34 N36q
  replace k : ow T36 (mkF m 190 (ow_L p1 p2 p3 p4 p5 p6 (ow_i f1) (ow_i f2) (ow_i f3) (ow_i u1) (ow_i u2) (ow_i u3) (ow_i u4) (ow_i u5) (ow_i u6) (ow_r a29) (ow_r a30) (ow_r a31) (ow_r a32) (ow_r a33) (ow_r a34)) [(.ref b35)]) := fun t q => k t (XS.aload X35.here hx rfl (hb hby at_185) rfl rfl (st36.trans q))
  clear st36
  have X36 := own_tight9 X36 CP36 e36 (n := 27) (by rw [← e35]; exact X35.heapSize)
  obtain ⟨T37, h37, X37, e37, E37, A37, D37, -, st37⟩ := newO X36 hx hZ hown (own_h hw 71 rfl) (own_h hw 72 rfl) (own_h hw 73 rfl) e36 (g := (mkF m 192 (ow_L p1 p2 p3 p4 p5 p6 (ow_i f1) (ow_i f2) (ow_i f3) (ow_i u1) (ow_i u2) (ow_i u3) (ow_i u4) (ow_i u5) (ow_i u6) (ow_r a29) (ow_r a30) (ow_r a31) (ow_r a32) (ow_r a33) (ow_r a34) (ow_r b35)) [])) rfl (hb hby at_192) (by decide) (by decide)
  obtain ⟨b37, g37⟩ : ∃ z, z = h36.size := ⟨_, rfl⟩
  rw [← g37] at A37 D37 st37
  have ge_b37 : n0 ≤ b37 := Nat.le_trans Z36 (Nat.le_of_eq g37.symm)
  have sz_b37 : h0.size ≤ b37 := Nat.le_trans KK36.1 (Nat.le_of_eq g37.symm)
  have Z37 : n0 ≤ h37.size := Nat.le_trans Z36 E37.1
  have K37 : Keep h0 h37 [] := KK36.ext E37
  have CU37 := CHr.ext E37 CH36
  have CR37 := CR36.trans CU37
  have CH37 := CU37.1
  have hk37 := Nat.le_trans hk36 E37.1
  have F_className_b37 : Fld Z h37 b37 "com/example/callsite/callsite/model/MethodId" "className" "Ljava/lang/String;" .null := D37 (Or.inr (own_h hw 188 rfl)) (ty := (.object "java/lang/String")) (by decide)
  have F_name_b37 : Fld Z h37 b37 "com/example/callsite/callsite/model/MethodId" "name" "Ljava/lang/String;" .null := D37 (Or.inr (own_h hw 190 rfl)) (ty := (.object "java/lang/String")) (by decide)
  have F_descriptor_b37 : Fld Z h37 b37 "com/example/callsite/callsite/model/MethodId" "descriptor" "Ljava/lang/String;" .null := D37 (Or.inr (own_h hw 192 rfl)) (ty := (.object "java/lang/String")) (by decide)
  replace k : ow T37 (mkF m 195 (ow_L p1 p2 p3 p4 p5 p6 (ow_i f1) (ow_i f2) (ow_i f3) (ow_i u1) (ow_i u2) (ow_i u3) (ow_i u4) (ow_i u5) (ow_i u6) (ow_r a29) (ow_r a30) (ow_r a31) (ow_r a32) (ow_r a33) (ow_r a34) (ow_r b35)) [(.ref b37)]) := fun t q => k t (XS.astore X36.here hx rfl (hb hby at_190) rfl rfl (l' := (ow_L p1 p2 p3 p4 p5 p6 (ow_i f1) (ow_i f2) (ow_i f3) (ow_i u1) (ow_i u2) (ow_i u3) (ow_i u4) (ow_i u5) (ow_i u6) (ow_r a29) (ow_r a30) (ow_r a31) (ow_r a32) (ow_r a33) (ow_r a34) (ow_r b35))) rfl (st37 t q))
  clear st37
  replace k : ow T37 (mkF m 200 (ow_L p1 p2 p3 p4 p5 p6 (ow_i f1) (ow_i f2) (ow_i f3) (ow_i u1) (ow_i u2) (ow_i u3) (ow_i u4) (ow_i u5) (ow_i u6) (ow_r a29) (ow_r a30) (ow_r a31) (ow_r a32) (ow_r a33) (ow_r a34) (ow_r b35)) [(.ref a33), (.ref a32), (.ref b37), (.ref b37)]) := fun t q => k t (XS.dup X37.here hx rfl (hb hby at_195) rfl rfl (XS.aload X37.here hx rfl (hb hby at_196) rfl rfl (XS.aload X37.here hx rfl (hb hby at_198) rfl rfl q)))
  obtain ⟨_, _, ⟨T38, L38, k38, n38⟩, -, X38, hSq38, gr38, ⟨Lc38, hQ38, l38, y38, z38, CU38⟩, st38⟩ := Jvm.Stand.specialBackS X37 hx (y := own_y17) rfl hown (mvT hZ (own_h hw 74 rfl)) (mvT hZ (own_h hw 75 rfl)) (mvT hZ (own_h hw 76 rfl)) (by decide) (own_backP (EJ := own_J) (W := 1) (own_m17 l Z a0 hw [] b37 a32 a33 a34 w_COMPACT_STRINGS w_SIOOBE_FORMATTER (own_tC u1 u2) (own_tN u4 u5) (own_tD u6 u5) .null .null .null h37 n0 Z37 ((own_sta_keep ((own_sta_keep (own_sta_keep (own_sta_keep (own_sta_keep (own_sta_keep (own_sta_keep S_COMPACT_STRINGS KC29 ns0) KC30 ns0) KC31 ns0) KC32 ns0) KC33 ns0) KC34 ns0).ext E35) KC36 (nsS (Exa.nostat A35) ns0)).ext E37) ((own_sta_keep ((own_sta_keep (own_sta_keep (own_sta_keep (own_sta_keep (own_sta_keep (own_sta_keep S_SIOOBE_FORMATTER KC29 ns0) KC30 ns0) KC31 ns0) KC32 ns0) KC33 ns0) KC34 ns0).ext E35) KC36 (nsS (Exa.nostat A35) ns0)).ext E37) (((((TX32.keep (a0 := a0) KC33 all0).keep (a0 := a0) KC34 all0).ext E35).keep (a0 := a0) KC36 (allS ⟨"com/example/callsite/callsite/model/MethodId", _, by decide, A35, (own_h hw 72 rfl)⟩ all0)).ext E37) ((((TX33.keep (a0 := a0) KC34 all0).ext E35).keep (a0 := a0) KC36 (allS ⟨"com/example/callsite/callsite/model/MethodId", _, by decide, A35, (own_h hw 72 rfl)⟩ all0)).ext E37) (((TX34.ext E35).keep (a0 := a0) KC36 (allS ⟨"com/example/callsite/callsite/model/MethodId", _, by decide, A35, (own_h hw 72 rfl)⟩ all0)).ext E37) A37 F_className_b37 ge_b37 F_name_b37 F_descriptor_b37 hz hrS (own_tC_ok _ _) (own_mds _ _ _)) hZ (own_h hw 76 rfl) (own_h hw 73 rfl) (by decide) (by decide) (own_EW hw) CH37) (g := (mkF m 202 (ow_L p1 p2 p3 p4 p5 p6 (ow_i f1) (ow_i f2) (ow_i f3) (ow_i u1) (ow_i u2) (ow_i u3) (ow_i u4) (ow_i u5) (ow_i u6) (ow_r a29) (ow_r a30) (ow_r a31) (ow_r a32) (ow_r a33) (ow_r a34) (ow_r b35)) [(.ref a34), (.ref a33), (.ref a32), (.ref b37), (.ref b37)])) rfl (by rw [hml]; rfl) (Steps.refl _) (a := b37) (argsL := [(.ref a32), (.ref a33), (.ref a34)]) (rest := [(.ref b37)]) (lenOf own_pd19 rfl) rfl own_le (hb hby at_202) (fun _ _ => ⟨rfl, e37, (by decide : 46 + 26 ≤ _), (by decide : 530 + 296 ≤ _)⟩)
  dsimp only [Pt.U, Pt.locs, Pt.cells, Pt.slots] at X38 l38 y38 z38 st38 hQ38 hSq38 gr38 CU38
  subst l38 y38 z38
  obtain ⟨X38, hS38, hZ, hown⟩ := rebS hS36 (by rw [e37]; exact hk37) X38 hSq38 gr38 hZ hown
  obtain ⟨h38, e38⟩ : ∃ z, T38.heap = z := ⟨_, rfl⟩
  rw [e38] at hQ38 CU38 hS38
  have hk38 : h38.size ≤ h38.size := Nat.le_refl _
  have CP38 := CU38
  have CU38 := CP38.2.1
  have CR38 := CR37.trans CU38
  have CH38 := CU38.1
  obtain ⟨rfl, N38q, KC38, EC38, FC38_0, FC38_1, FC38_2⟩ := hQ38
  have KK38 : Keep h0 h38 [] := K37.trans KC38 (allS (Or.inr sz_b37) all0)
  have Z38 : n0 ≤ h38.size := Nat.le_trans Z37 KC38.1
  have N38 := Fr.app N36 N38q
  replace k : ow T38 (mkF m 205 (ow_L p1 p2 p3 p4 p5 p6 (ow_i f1) (ow_i f2) (ow_i f3) (ow_i u1) (ow_i u2) (ow_i u3) (ow_i u4) (ow_i u5) (ow_i u6) (ow_r a29) (ow_r a30) (ow_r a31) (ow_r a32) (ow_r a33) (ow_r a34) (ow_r b35)) [(.ref b37)]) := fun t q => k t (XS.aload X37.here hx rfl (hb hby at_200) rfl rfl (st38.trans q))
  clear st38
  replace k : ow T38 (mkF m 211 (ow_L p1 p2 p3 p4 p5 p6 (ow_i f1) (ow_i f2) (ow_i f3) (ow_i u1) (ow_i u2) (ow_i u3) (ow_i u4) (ow_i u5) (ow_i u6) (ow_r a29) (ow_r a30) (ow_r a31) (ow_r a32) (ow_r a33) (ow_r a34) (ow_r b35) (ow_r b37)) [(.int 9), (.int p6)]) := fun t q => k t (XS.astore X38.here hx rfl (hb hby at_205) rfl rfl (l' := (ow_L p1 p2 p3 p4 p5 p6 (ow_i f1) (ow_i f2) (ow_i f3) (ow_i u1) (ow_i u2) (ow_i u3) (ow_i u4) (ow_i u5) (ow_i u6) (ow_r a29) (ow_r a30) (ow_r a31) (ow_r a32) (ow_r a33) (ow_r a34) (ow_r b35) (ow_r b37))) rfl (XS.iload X38.here hx rfl (hb hby at_207) rfl (XS.bipush X38.here hx rfl (hb hby at_209) q)))
  replace k : ow T38 (mkF m 212 (ow_L p1 p2 p3 p4 p5 p6 (ow_i f1) (ow_i f2) (ow_i f3) (ow_i u1) (ow_i u2) (ow_i u3) (ow_i u4) (ow_i u5) (ow_i u6) (ow_r a29) (ow_r a30) (ow_r a31) (ow_r a32) (ow_r a33) (ow_r a34) (ow_r b35) (ow_r b37)) [(.int ((p6.toUInt32 >>> ((9 : Int32) &&& 31).toUInt32).toInt32))]) := fun t q => k t (XS.iushr X38.here hx rfl (hb hby at_211) rfl q)
  replace k : ow T38 (mkF m 213 (ow_L p1 p2 p3 p4 p5 p6 (ow_i f1) (ow_i f2) (ow_i f3) (ow_i u1) (ow_i u2) (ow_i u3) (ow_i u4) (ow_i u5) (ow_i u6) (ow_r a29) (ow_r a30) (ow_r a31) (ow_r a32) (ow_r a33) (ow_r a34) (ow_r b35) (ow_r b37)) [(.int 3), (.int ((p6.toUInt32 >>> ((9 : Int32) &&& 31).toUInt32).toInt32))]) := fun t q => k t (XS.iconst X38.here hx rfl (hb hby at_212) q)
  replace k : ow T38 (mkF m 214 (ow_L p1 p2 p3 p4 p5 p6 (ow_i f1) (ow_i f2) (ow_i f3) (ow_i u1) (ow_i u2) (ow_i u3) (ow_i u4) (ow_i u5) (ow_i u6) (ow_r a29) (ow_r a30) (ow_r a31) (ow_r a32) (ow_r a33) (ow_r a34) (ow_r b35) (ow_r b37)) [(.int (((p6.toUInt32 >>> ((9 : Int32) &&& 31).toUInt32).toInt32) &&& (3 : Int32)))]) := fun t q => k t (XS.iand X38.here hx rfl (hb hby at_213) rfl q)
  replace k : ow T38 (mkF m 216 (ow_L p1 p2 p3 p4 p5 p6 (ow_i f1) (ow_i f2) (ow_i f3) (ow_i u1) (ow_i u2) (ow_i u3) (ow_i u4) (ow_i u5) (ow_i u6) (ow_r a29) (ow_r a30) (ow_r a31) (ow_r a32) (ow_r a33) (ow_r a34) (ow_r b35) (ow_r b37) (ow_i (((p6.toUInt32 >>> ((9 : Int32) &&& 31).toUInt32).toInt32) &&& (3 : Int32)))) []) := fun t q => k t (XS.istore X38.here hx rfl (hb hby at_214) rfl (l' := (ow_L p1 p2 p3 p4 p5 p6 (ow_i f1) (ow_i f2) (ow_i f3) (ow_i u1) (ow_i u2) (ow_i u3) (ow_i u4) (ow_i u5) (ow_i u6) (ow_r a29) (ow_r a30) (ow_r a31) (ow_r a32) (ow_r a33) (ow_r a34) (ow_r b35) (ow_r b37) (ow_i (((p6.toUInt32 >>> ((9 : Int32) &&& 31).toUInt32).toInt32) &&& (3 : Int32))))) rfl q)
  obtain ⟨kd, h_kd⟩ : ∃ z, z = (((p6.toUInt32 >>> ((9 : Int32) &&& 31).toUInt32).toInt32) &&& (3 : Int32)) := ⟨_, rfl⟩
  replace k : own_To p.tables e below A0 T38 (mkF m 216 (ow_L p1 p2 p3 p4 p5 p6 (ow_i f1) (ow_i f2) (ow_i f3) (ow_i u1) (ow_i u2) (ow_i u3) (ow_i u4) (ow_i u5) (ow_i u6) (ow_r a29) (ow_r a30) (ow_r a31) (ow_r a32) (ow_r a33) (ow_r a34) (ow_r b35) (ow_r b37) (ow_i kd)) []) := by rw [h_kd]; exact k
  by_cases hc39 : kd = (1 : Int32)
  · replace k : ow T38 (mkF m 222 (ow_L p1 p2 p3 p4 p5 p6 (ow_i f1) (ow_i f2) (ow_i f3) (ow_i u1) (ow_i u2) (ow_i u3) (ow_i u4) (ow_i u5) (ow_i u6) (ow_r a29) (ow_r a30) (ow_r a31) (ow_r a32) (ow_r a33) (ow_r a34) (ow_r b35) (ow_r b37) (ow_i kd)) []) := fun t q => k t (XS.iload X38.here hx rfl (hb hby at_216) rfl (XS.iconst X38.here hx rfl (hb hby at_218) (XS.icmpNo X38.here hx rfl (hb hby at_219) rfl (teq (show kd = (1 : Int32) from hc39)).2 q)))
    replace k : ow T38 (mkF m 225 (ow_L p1 p2 p3 p4 p5 p6 (ow_i f1) (ow_i f2) (ow_i f3) (ow_i u1) (ow_i u2) (ow_i u3) (ow_i u4) (ow_i u5) (ow_i u6) (ow_r a29) (ow_r a30) (ow_r a31) (ow_r a32) (ow_r a33) (ow_r a34) (ow_r b35) (ow_r b37) (ow_i kd)) [.null, (.ref b35)]) := fun t q => k t (XS.aload X38.here hx rfl (hb hby at_222) rfl rfl (XS.aconstNull X38.here hx rfl (hb hby at_224) q))
    obtain ⟨_, T40, L40, X40, hQ40, k⟩ := own_cV X38 hx hw hZ hown e38 k (own_m43_n l Z a0 hw [] b35 h38 n0 Z38 ) 194 195 197 196 198 73 rfl rfl rfl rfl rfl rfl ((EC36.ext E37).keep KC38) (by decide) rfl (by rw [hml]; rfl) [.null] [] (lenOf own_pd20 rfl) rfl rfl (W := 0) own_le (hb hby at_225) (by decide) (by decide) (by decide) (by decide)
    rw [show own_f43_n = (0 : Int32) from rfl] at hQ40
    obtain ⟨rfl, N40q, e40⟩ := hQ40
    have N40 := Fr.app N38 N40q
    replace k : ow T40 (mkF m 231 (ow_L p1 p2 p3 p4 p5 p6 (ow_i f1) (ow_i f2) (ow_i f3) (ow_i u1) (ow_i u2) (ow_i u3) (ow_i u4) (ow_i u5) (ow_i u6) (ow_r a29) (ow_r a30) (ow_r a31) (ow_r a32) (ow_r a33) (ow_r a34) (ow_r b35) (ow_r b37) (ow_i kd)) []) := fun t q => k t (XS.ifNo X40.here hx rfl (hb hby at_228) rfl ((if0 _ _).trans (teq (show (0 : Int32) = (0 : Int32) from (by decide))).2) q)
    replace k : ow T40 (mkF m 236 (ow_L p1 p2 p3 p4 p5 p6 (ow_i f1) (ow_i f2) (ow_i f3) (ow_i u1) (ow_i u2) (ow_i u3) (ow_i u4) (ow_i u5) (ow_i u6) (ow_r a29) (ow_r a30) (ow_r a31) (ow_r a32) (ow_r a33) (ow_r a34) (ow_r b35) (ow_r b37) (ow_i kd)) [(.int 1)]) := fun t q => k t (XS.iconst X40.here hx rfl (hb hby at_231) (XS.goto X40.here hx rfl (pc0 := 232) (pc' := 236) rfl (hb hby at_232) (by decide) (by decide) q))
    obtain ⟨fs, hr, hrun, hended, hEnd⟩ := X40.leaveW hS38 (by rw [e40]; exact hk38) (v := some (.int 1)) (fun h => by rw [Bd.returns] at h; cases h)
    have hChr := CR38.trans (CHv.at X40 hZ (own_EW hw) CH38)
    refine ⟨_, _, k _ ?_, hrun, hended, _, _, rfl, ?_, ?_, own_monoW hEnd (by decide) (by decide)⟩
    · exact retN X40 hx (t := .boolean) Bd.returns (by simp) (hb hby at_236) hr
    · show own_Q0 n0 _ _
      exact ⟨rfl, N40⟩
    · rw [hh]; show CHr Z consts_1 s.vm h0 T40.vm T40.heap; rw [e40]; exact hChr
  · replace k : ow T38 (mkF m 237 (ow_L p1 p2 p3 p4 p5 p6 (ow_i f1) (ow_i f2) (ow_i f3) (ow_i u1) (ow_i u2) (ow_i u3) (ow_i u4) (ow_i u5) (ow_i u6) (ow_r a29) (ow_r a30) (ow_r a31) (ow_r a32) (ow_r a33) (ow_r a34) (ow_r b35) (ow_r b37) (ow_i kd)) []) := fun t q => k t (XS.iload X38.here hx rfl (hb hby at_216) rfl (XS.iconst X38.here hx rfl (hb hby at_218) (XS.icmpYes X38.here hx rfl (pc0 := 219) (pc' := 237) rfl (hb hby at_219) rfl (feq (show ¬ (kd = (1 : Int32)) from hc39)).2 (by decide) (by decide) q)))
    by_cases hc41 : kd = (2 : Int32)
    · replace k : ow T38 (mkF m 243 (ow_L p1 p2 p3 p4 p5 p6 (ow_i f1) (ow_i f2) (ow_i f3) (ow_i u1) (ow_i u2) (ow_i u3) (ow_i u4) (ow_i u5) (ow_i u6) (ow_r a29) (ow_r a30) (ow_r a31) (ow_r a32) (ow_r a33) (ow_r a34) (ow_r b35) (ow_r b37) (ow_i kd)) []) := fun t q => k t (XS.iload X38.here hx rfl (hb hby at_237) rfl (XS.iconst X38.here hx rfl (hb hby at_239) (XS.icmpNo X38.here hx rfl (hb hby at_240) rfl (teq (show kd = (2 : Int32) from hc41)).2 q)))
      replace k : ow T38 (mkF m 247 (ow_L p1 p2 p3 p4 p5 p6 (ow_i f1) (ow_i f2) (ow_i f3) (ow_i u1) (ow_i u2) (ow_i u3) (ow_i u4) (ow_i u5) (ow_i u6) (ow_r a29) (ow_r a30) (ow_r a31) (ow_r a32) (ow_r a33) (ow_r a34) (ow_r b35) (ow_r b37) (ow_i kd)) [(.ref a29), (.ref b35)]) := fun t q => k t (XS.aload X38.here hx rfl (hb hby at_243) rfl rfl (XS.aload X38.here hx rfl (hb hby at_245) rfl rfl q))
      obtain ⟨_, T42, L42, X42, hQ42, k⟩ := own_cV X38 hx hw hZ hown e38 k (own_m43_s l Z a0 hw [] b35 a29 h38 n0 Z38 (((((((((EC29.keep KC30).keep KC31).keep KC32).keep KC33).keep KC34).ext E35).keep KC36).ext E37).keep KC38)) 194 195 197 196 198 73 rfl rfl rfl rfl rfl rfl ((EC36.ext E37).keep KC38) (by decide) rfl (by rw [hml]; rfl) [(.ref a29)] [] (lenOf own_pd20 rfl) rfl rfl (W := 0) own_le (hb hby at_247) (by decide) (by decide) (by decide) (by decide)
      rw [show own_f43_s = (0 : Int32) from rfl] at hQ42
      obtain ⟨rfl, N42q, e42⟩ := hQ42
      have N42 := Fr.app N38 N42q
      replace k : ow T42 (mkF m 253 (ow_L p1 p2 p3 p4 p5 p6 (ow_i f1) (ow_i f2) (ow_i f3) (ow_i u1) (ow_i u2) (ow_i u3) (ow_i u4) (ow_i u5) (ow_i u6) (ow_r a29) (ow_r a30) (ow_r a31) (ow_r a32) (ow_r a33) (ow_r a34) (ow_r b35) (ow_r b37) (ow_i kd)) []) := fun t q => k t (XS.ifNo X42.here hx rfl (hb hby at_250) rfl ((if0 _ _).trans (teq (show (0 : Int32) = (0 : Int32) from (by decide))).2) q)
      replace k : ow T42 (mkF m 258 (ow_L p1 p2 p3 p4 p5 p6 (ow_i f1) (ow_i f2) (ow_i f3) (ow_i u1) (ow_i u2) (ow_i u3) (ow_i u4) (ow_i u5) (ow_i u6) (ow_r a29) (ow_r a30) (ow_r a31) (ow_r a32) (ow_r a33) (ow_r a34) (ow_r b35) (ow_r b37) (ow_i kd)) [(.int 1)]) := fun t q => k t (XS.iconst X42.here hx rfl (hb hby at_253) (XS.goto X42.here hx rfl (pc0 := 254) (pc' := 258) rfl (hb hby at_254) (by decide) (by decide) q))
      obtain ⟨fs, hr, hrun, hended, hEnd⟩ := X42.leaveW hS38 (by rw [e42]; exact hk38) (v := some (.int 1)) (fun h => by rw [Bd.returns] at h; cases h)
      have hChr := CR38.trans (CHv.at X42 hZ (own_EW hw) CH38)
      refine ⟨_, _, k _ ?_, hrun, hended, _, _, rfl, ?_, ?_, own_monoW hEnd (by decide) (by decide)⟩
      · exact retN X42 hx (t := .boolean) Bd.returns (by simp) (hb hby at_258) hr
      · show own_Q0 n0 _ _
        exact ⟨rfl, N42⟩
      · rw [hh]; show CHr Z consts_1 s.vm h0 T42.vm T42.heap; rw [e42]; exact hChr
    · replace k : ow T38 (mkF m 259 (ow_L p1 p2 p3 p4 p5 p6 (ow_i f1) (ow_i f2) (ow_i f3) (ow_i u1) (ow_i u2) (ow_i u3) (ow_i u4) (ow_i u5) (ow_i u6) (ow_r a29) (ow_r a30) (ow_r a31) (ow_r a32) (ow_r a33) (ow_r a34) (ow_r b35) (ow_r b37) (ow_i kd)) []) := fun t q => k t (XS.iload X38.here hx rfl (hb hby at_237) rfl (XS.iconst X38.here hx rfl (hb hby at_239) (XS.icmpYes X38.here hx rfl (pc0 := 240) (pc' := 259) rfl (hb hby at_240) rfl (feq (show ¬ (kd = (2 : Int32)) from hc41)).2 (by decide) (by decide) q)))
      by_cases hc43 : kd = (3 : Int32)
      · replace k : ow T38 (mkF m 265 (ow_L p1 p2 p3 p4 p5 p6 (ow_i f1) (ow_i f2) (ow_i f3) (ow_i u1) (ow_i u2) (ow_i u3) (ow_i u4) (ow_i u5) (ow_i u6) (ow_r a29) (ow_r a30) (ow_r a31) (ow_r a32) (ow_r a33) (ow_r a34) (ow_r b35) (ow_r b37) (ow_i kd)) []) := fun t q => k t (XS.iload X38.here hx rfl (hb hby at_259) rfl (XS.iconst X38.here hx rfl (hb hby at_261) (XS.icmpNo X38.here hx rfl (hb hby at_262) rfl (teq (show kd = (3 : Int32) from hc43)).2 q)))
        replace k : ow T38 (mkF m 269 (ow_L p1 p2 p3 p4 p5 p6 (ow_i f1) (ow_i f2) (ow_i f3) (ow_i u1) (ow_i u2) (ow_i u3) (ow_i u4) (ow_i u5) (ow_i u6) (ow_r a29) (ow_r a30) (ow_r a31) (ow_r a32) (ow_r a33) (ow_r a34) (ow_r b35) (ow_r b37) (ow_i kd)) [(.ref b35), (.ref b35)]) := fun t q => k t (XS.aload X38.here hx rfl (hb hby at_265) rfl rfl (XS.aload X38.here hx rfl (hb hby at_267) rfl rfl q))
        obtain ⟨_, T44, L44, X44, hQ44, k⟩ := own_cV X38 hx hw hZ hown e38 k (own_m43_r l Z a0 hw [] b35 b35 a29 a29 (own_tC p1 p6) (own_tC p1 p6) w_COMPACT_STRINGS a30 a30 (own_tN p2 u3) (own_tN p2 u3) a31 a31 (own_tD p3 u3) (own_tD p3 u3) h38 n0 Z38 ((EC36.ext E37).keep KC38) ((FC36_0.ext E37).keep KC38 (ninS (Nat.ne_of_lt (Nat.lt_of_lt_of_le EC36.lt (Nat.le_of_eq g37.symm))) nin0)) ((FC36_0.ext E37).keep KC38 (ninS (Nat.ne_of_lt (Nat.lt_of_lt_of_le EC36.lt (Nat.le_of_eq g37.symm))) nin0)) (((((((((TX29.keep (a0 := a0) KC30 all0).keep (a0 := a0) KC31 all0).keep (a0 := a0) KC32 all0).keep (a0 := a0) KC33 all0).keep (a0 := a0) KC34 all0).ext E35).keep (a0 := a0) KC36 (allS ⟨"com/example/callsite/callsite/model/MethodId", _, by decide, A35, (own_h hw 72 rfl)⟩ all0)).ext E37).keep (a0 := a0) KC38 (allS ⟨"com/example/callsite/callsite/model/MethodId", _, by decide, A37, (own_h hw 72 rfl)⟩ all0)) (((((((((TX29.keep (a0 := a0) KC30 all0).keep (a0 := a0) KC31 all0).keep (a0 := a0) KC32 all0).keep (a0 := a0) KC33 all0).keep (a0 := a0) KC34 all0).ext E35).keep (a0 := a0) KC36 (allS ⟨"com/example/callsite/callsite/model/MethodId", _, by decide, A35, (own_h hw 72 rfl)⟩ all0)).ext E37).keep (a0 := a0) KC38 (allS ⟨"com/example/callsite/callsite/model/MethodId", _, by decide, A37, (own_h hw 72 rfl)⟩ all0)) (own_sta_keep ((own_sta_keep ((own_sta_keep (own_sta_keep (own_sta_keep (own_sta_keep (own_sta_keep (own_sta_keep S_COMPACT_STRINGS KC29 ns0) KC30 ns0) KC31 ns0) KC32 ns0) KC33 ns0) KC34 ns0).ext E35) KC36 (nsS (Exa.nostat A35) ns0)).ext E37) KC38 (nsS (Exa.nostat A37) ns0)) ((FC36_1.ext E37).keep KC38 (ninS (Nat.ne_of_lt (Nat.lt_of_lt_of_le EC36.lt (Nat.le_of_eq g37.symm))) nin0)) ((FC36_1.ext E37).keep KC38 (ninS (Nat.ne_of_lt (Nat.lt_of_lt_of_le EC36.lt (Nat.le_of_eq g37.symm))) nin0)) ((((((((TX30.keep (a0 := a0) KC31 all0).keep (a0 := a0) KC32 all0).keep (a0 := a0) KC33 all0).keep (a0 := a0) KC34 all0).ext E35).keep (a0 := a0) KC36 (allS ⟨"com/example/callsite/callsite/model/MethodId", _, by decide, A35, (own_h hw 72 rfl)⟩ all0)).ext E37).keep (a0 := a0) KC38 (allS ⟨"com/example/callsite/callsite/model/MethodId", _, by decide, A37, (own_h hw 72 rfl)⟩ all0)) ((((((((TX30.keep (a0 := a0) KC31 all0).keep (a0 := a0) KC32 all0).keep (a0 := a0) KC33 all0).keep (a0 := a0) KC34 all0).ext E35).keep (a0 := a0) KC36 (allS ⟨"com/example/callsite/callsite/model/MethodId", _, by decide, A35, (own_h hw 72 rfl)⟩ all0)).ext E37).keep (a0 := a0) KC38 (allS ⟨"com/example/callsite/callsite/model/MethodId", _, by decide, A37, (own_h hw 72 rfl)⟩ all0)) ((FC36_2.ext E37).keep KC38 (ninS (Nat.ne_of_lt (Nat.lt_of_lt_of_le EC36.lt (Nat.le_of_eq g37.symm))) nin0)) ((FC36_2.ext E37).keep KC38 (ninS (Nat.ne_of_lt (Nat.lt_of_lt_of_le EC36.lt (Nat.le_of_eq g37.symm))) nin0)) (((((((TX31.keep (a0 := a0) KC32 all0).keep (a0 := a0) KC33 all0).keep (a0 := a0) KC34 all0).ext E35).keep (a0 := a0) KC36 (allS ⟨"com/example/callsite/callsite/model/MethodId", _, by decide, A35, (own_h hw 72 rfl)⟩ all0)).ext E37).keep (a0 := a0) KC38 (allS ⟨"com/example/callsite/callsite/model/MethodId", _, by decide, A37, (own_h hw 72 rfl)⟩ all0)) (((((((TX31.keep (a0 := a0) KC32 all0).keep (a0 := a0) KC33 all0).keep (a0 := a0) KC34 all0).ext E35).keep (a0 := a0) KC36 (allS ⟨"com/example/callsite/callsite/model/MethodId", _, by decide, A35, (own_h hw 72 rfl)⟩ all0)).ext E37).keep (a0 := a0) KC38 (allS ⟨"com/example/callsite/callsite/model/MethodId", _, by decide, A37, (own_h hw 72 rfl)⟩ all0)) hz) 194 195 197 196 198 73 rfl rfl rfl rfl rfl rfl ((EC36.ext E37).keep KC38) (by decide) rfl (by rw [hml]; rfl) [(.ref b35)] [] (lenOf own_pd20 rfl) rfl rfl (W := 0) own_le (hb hby at_269) (by decide) (by decide) (by decide) (by decide)
        rw [show own_f43_r (own_tC p1 p6) (own_tC p1 p6) (own_tN p2 u3) (own_tN p2 u3) (own_tD p3 u3) (own_tD p3 u3) = (1 : Int32) from by unfold own_f43_r; rw [if_pos (show (own_tC p1 p6) = (own_tC p1 p6) from rfl), if_pos (show (own_tN p2 u3) = (own_tN p2 u3) from rfl), if_pos (show (own_tD p3 u3) = (own_tD p3 u3) from rfl)]] at hQ44
        obtain ⟨rfl, N44q, e44⟩ := hQ44
        have N44 := Fr.app N38 N44q
        obtain ⟨fs, hr, hrun, hended, hEnd⟩ := X44.leaveW hS38 (by rw [e44]; exact hk38) (v := some (.int 1)) (fun h => by rw [Bd.returns] at h; cases h)
        have hChr := CR38.trans (CHv.at X44 hZ (own_EW hw) CH38)
        refine ⟨_, _, k _ ?_, hrun, hended, _, _, rfl, ?_, ?_, own_monoW hEnd (by decide) (by decide)⟩
        · exact retN X44 hx (t := .boolean) Bd.returns (by simp) (hb hby at_272) hr
        · show own_Q0 n0 _ _
          exact ⟨rfl, N44⟩
        · rw [hh]; show CHr Z consts_1 s.vm h0 T44.vm T44.heap; rw [e44]; exact hChr
      · replace k : ow T38 (mkF m 273 (ow_L p1 p2 p3 p4 p5 p6 (ow_i f1) (ow_i f2) (ow_i f3) (ow_i u1) (ow_i u2) (ow_i u3) (ow_i u4) (ow_i u5) (ow_i u6) (ow_r a29) (ow_r a30) (ow_r a31) (ow_r a32) (ow_r a33) (ow_r a34) (ow_r b35) (ow_r b37) (ow_i kd)) []) := fun t q => k t (XS.iload X38.here hx rfl (hb hby at_259) rfl (XS.iconst X38.here hx rfl (hb hby at_261) (XS.icmpYes X38.here hx rfl (pc0 := 262) (pc' := 273) rfl (hb hby at_262) rfl (feq (show ¬ (kd = (3 : Int32)) from hc43)).2 (by decide) (by decide) q)))
        by_cases hc45 : (own_tC p1 p6) = (own_tC u1 u2)
        · replace k : ow T38 (mkF m 277 (ow_L p1 p2 p3 p4 p5 p6 (ow_i f1) (ow_i f2) (ow_i f3) (ow_i u1) (ow_i u2) (ow_i u3) (ow_i u4) (ow_i u5) (ow_i u6) (ow_r a29) (ow_r a30) (ow_r a31) (ow_r a32) (ow_r a33) (ow_r a34) (ow_r b35) (ow_r b37) (ow_i kd)) [(.ref a32), (.ref a29)]) := fun t q => k t (XS.aload X38.here hx rfl (hb hby at_273) rfl rfl (XS.aload X38.here hx rfl (hb hby at_275) rfl rfl q))
          obtain ⟨T46, X46, e46, k⟩ := own_cEq X38 hx hw hZ hown e38 k (((((((((TX29.keep (a0 := a0) KC30 all0).keep (a0 := a0) KC31 all0).keep (a0 := a0) KC32 all0).keep (a0 := a0) KC33 all0).keep (a0 := a0) KC34 all0).ext E35).keep (a0 := a0) KC36 (allS ⟨"com/example/callsite/callsite/model/MethodId", _, by decide, A35, (own_h hw 72 rfl)⟩ all0)).ext E37).keep (a0 := a0) KC38 (allS ⟨"com/example/callsite/callsite/model/MethodId", _, by decide, A37, (own_h hw 72 rfl)⟩ all0)) ((((((TX32.keep (a0 := a0) KC33 all0).keep (a0 := a0) KC34 all0).ext E35).keep (a0 := a0) KC36 (allS ⟨"com/example/callsite/callsite/model/MethodId", _, by decide, A35, (own_h hw 72 rfl)⟩ all0)).ext E37).keep (a0 := a0) KC38 (allS ⟨"com/example/callsite/callsite/model/MethodId", _, by decide, A37, (own_h hw 72 rfl)⟩ all0)) (own_sta_keep ((own_sta_keep ((own_sta_keep (own_sta_keep (own_sta_keep (own_sta_keep (own_sta_keep (own_sta_keep S_COMPACT_STRINGS KC29 ns0) KC30 ns0) KC31 ns0) KC32 ns0) KC33 ns0) KC34 ns0).ext E35) KC36 (nsS (Exa.nostat A35) ns0)).ext E37) KC38 (nsS (Exa.nostat A37) ns0)) hz 1 (Or.inl ⟨rfl, hc45⟩) 193 156 158 157 8 rfl rfl rfl rfl rfl rfl rfl (by rw [hml]; rfl) [] rfl (W := 0) own_le (hb hby at_277) (by decide) (by decide) (by decide) (by decide)
          replace k : ow T46 (mkF m 283 (ow_L p1 p2 p3 p4 p5 p6 (ow_i f1) (ow_i f2) (ow_i f3) (ow_i u1) (ow_i u2) (ow_i u3) (ow_i u4) (ow_i u5) (ow_i u6) (ow_r a29) (ow_r a30) (ow_r a31) (ow_r a32) (ow_r a33) (ow_r a34) (ow_r b35) (ow_r b37) (ow_i kd)) []) := fun t q => k t (XS.ifNo X46.here hx rfl (hb hby at_280) rfl ((if0 _ _).trans (feq (show ¬ ((1 : Int32) = (0 : Int32)) from (by decide))).1) q)
          by_cases hc47 : (own_tN p2 u3) = (own_tN u4 u5)
          · replace k : ow T46 (mkF m 287 (ow_L p1 p2 p3 p4 p5 p6 (ow_i f1) (ow_i f2) (ow_i f3) (ow_i u1) (ow_i u2) (ow_i u3) (ow_i u4) (ow_i u5) (ow_i u6) (ow_r a29) (ow_r a30) (ow_r a31) (ow_r a32) (ow_r a33) (ow_r a34) (ow_r b35) (ow_r b37) (ow_i kd)) [(.ref a33), (.ref a30)]) := fun t q => k t (XS.aload X46.here hx rfl (hb hby at_283) rfl rfl (XS.aload X46.here hx rfl (hb hby at_285) rfl rfl q))
            obtain ⟨T48, X48, e48, k⟩ := own_cEq X46 hx hw hZ hown e46 k ((((((((TX30.keep (a0 := a0) KC31 all0).keep (a0 := a0) KC32 all0).keep (a0 := a0) KC33 all0).keep (a0 := a0) KC34 all0).ext E35).keep (a0 := a0) KC36 (allS ⟨"com/example/callsite/callsite/model/MethodId", _, by decide, A35, (own_h hw 72 rfl)⟩ all0)).ext E37).keep (a0 := a0) KC38 (allS ⟨"com/example/callsite/callsite/model/MethodId", _, by decide, A37, (own_h hw 72 rfl)⟩ all0)) (((((TX33.keep (a0 := a0) KC34 all0).ext E35).keep (a0 := a0) KC36 (allS ⟨"com/example/callsite/callsite/model/MethodId", _, by decide, A35, (own_h hw 72 rfl)⟩ all0)).ext E37).keep (a0 := a0) KC38 (allS ⟨"com/example/callsite/callsite/model/MethodId", _, by decide, A37, (own_h hw 72 rfl)⟩ all0)) (own_sta_keep ((own_sta_keep ((own_sta_keep (own_sta_keep (own_sta_keep (own_sta_keep (own_sta_keep (own_sta_keep S_COMPACT_STRINGS KC29 ns0) KC30 ns0) KC31 ns0) KC32 ns0) KC33 ns0) KC34 ns0).ext E35) KC36 (nsS (Exa.nostat A35) ns0)).ext E37) KC38 (nsS (Exa.nostat A37) ns0)) hz 1 (Or.inl ⟨rfl, hc47⟩) 193 156 158 157 8 rfl rfl rfl rfl rfl rfl rfl (by rw [hml]; rfl) [] rfl (W := 0) own_le (hb hby at_287) (by decide) (by decide) (by decide) (by decide)
            replace k : ow T48 (mkF m 293 (ow_L p1 p2 p3 p4 p5 p6 (ow_i f1) (ow_i f2) (ow_i f3) (ow_i u1) (ow_i u2) (ow_i u3) (ow_i u4) (ow_i u5) (ow_i u6) (ow_r a29) (ow_r a30) (ow_r a31) (ow_r a32) (ow_r a33) (ow_r a34) (ow_r b35) (ow_r b37) (ow_i kd)) []) := fun t q => k t (XS.ifNo X48.here hx rfl (hb hby at_290) rfl ((if0 _ _).trans (feq (show ¬ ((1 : Int32) = (0 : Int32)) from (by decide))).1) q)
            by_cases hc49 : (own_tD p3 u3) = (own_tD u6 u5)
            · replace k : ow T48 (mkF m 297 (ow_L p1 p2 p3 p4 p5 p6 (ow_i f1) (ow_i f2) (ow_i f3) (ow_i u1) (ow_i u2) (ow_i u3) (ow_i u4) (ow_i u5) (ow_i u6) (ow_r a29) (ow_r a30) (ow_r a31) (ow_r a32) (ow_r a33) (ow_r a34) (ow_r b35) (ow_r b37) (ow_i kd)) [(.ref a34), (.ref a31)]) := fun t q => k t (XS.aload X48.here hx rfl (hb hby at_293) rfl rfl (XS.aload X48.here hx rfl (hb hby at_295) rfl rfl q))
              obtain ⟨T50, X50, e50, k⟩ := own_cEq X48 hx hw hZ hown e48 k (((((((TX31.keep (a0 := a0) KC32 all0).keep (a0 := a0) KC33 all0).keep (a0 := a0) KC34 all0).ext E35).keep (a0 := a0) KC36 (allS ⟨"com/example/callsite/callsite/model/MethodId", _, by decide, A35, (own_h hw 72 rfl)⟩ all0)).ext E37).keep (a0 := a0) KC38 (allS ⟨"com/example/callsite/callsite/model/MethodId", _, by decide, A37, (own_h hw 72 rfl)⟩ all0)) ((((TX34.ext E35).keep (a0 := a0) KC36 (allS ⟨"com/example/callsite/callsite/model/MethodId", _, by decide, A35, (own_h hw 72 rfl)⟩ all0)).ext E37).keep (a0 := a0) KC38 (allS ⟨"com/example/callsite/callsite/model/MethodId", _, by decide, A37, (own_h hw 72 rfl)⟩ all0)) (own_sta_keep ((own_sta_keep ((own_sta_keep (own_sta_keep (own_sta_keep (own_sta_keep (own_sta_keep (own_sta_keep S_COMPACT_STRINGS KC29 ns0) KC30 ns0) KC31 ns0) KC32 ns0) KC33 ns0) KC34 ns0).ext E35) KC36 (nsS (Exa.nostat A35) ns0)).ext E37) KC38 (nsS (Exa.nostat A37) ns0)) hz 1 (Or.inl ⟨rfl, hc49⟩) 193 156 158 157 8 rfl rfl rfl rfl rfl rfl rfl (by rw [hml]; rfl) [] rfl (W := 0) own_le (hb hby at_297) (by decide) (by decide) (by decide) (by decide)
              replace k : ow T50 (mkF m 303 (ow_L p1 p2 p3 p4 p5 p6 (ow_i f1) (ow_i f2) (ow_i f3) (ow_i u1) (ow_i u2) (ow_i u3) (ow_i u4) (ow_i u5) (ow_i u6) (ow_r a29) (ow_r a30) (ow_r a31) (ow_r a32) (ow_r a33) (ow_r a34) (ow_r b35) (ow_r b37) (ow_i kd)) []) := fun t q => k t (XS.ifNo X50.here hx rfl (hb hby at_300) rfl ((if0 _ _).trans (feq (show ¬ ((1 : Int32) = (0 : Int32)) from (by decide))).1) q)
              replace k : ow T50 (mkF m 310 (ow_L p1 p2 p3 p4 p5 p6 (ow_i f1) (ow_i f2) (ow_i f3) (ow_i u1) (ow_i u2) (ow_i u3) (ow_i u4) (ow_i u5) (ow_i u6) (ow_r a29) (ow_r a30) (ow_r a31) (ow_r a32) (ow_r a33) (ow_r a34) (ow_r b35) (ow_r b37) (ow_i kd) (ow_i 1)) []) := fun t q => k t (XS.iconst X50.here hx rfl (hb hby at_303) (XS.goto X50.here hx rfl (pc0 := 304) (pc' := 308) rfl (hb hby at_304) (by decide) (by decide) (XS.istore X50.here hx rfl (hb hby at_308) rfl (l' := (ow_L p1 p2 p3 p4 p5 p6 (ow_i f1) (ow_i f2) (ow_i f3) (ow_i u1) (ow_i u2) (ow_i u3) (ow_i u4) (ow_i u5) (ow_i u6) (ow_r a29) (ow_r a30) (ow_r a31) (ow_r a32) (ow_r a33) (ow_r a34) (ow_r b35) (ow_r b37) (ow_i kd) (ow_i 1))) rfl q)))
              replace k : ow T50 (mkF m 314 (ow_L p1 p2 p3 p4 p5 p6 (ow_i f1) (ow_i f2) (ow_i f3) (ow_i u1) (ow_i u2) (ow_i u3) (ow_i u4) (ow_i u5) (ow_i u6) (ow_r a29) (ow_r a30) (ow_r a31) (ow_r a32) (ow_r a33) (ow_r a34) (ow_r b35) (ow_r b37) (ow_i kd) (ow_i 1)) [(.ref b37), (.ref b35)]) := fun t q => k t (XS.aload X50.here hx rfl (hb hby at_310) rfl rfl (XS.aload X50.here hx rfl (hb hby at_312) rfl rfl q))
              obtain ⟨_, T51, L51, X51, hQ51, k⟩ := own_cV X50 hx hw hZ hown e50 k (own_m43_r l Z a0 hw [] b35 b37 a29 a32 (own_tC p1 p6) (own_tC u1 u2) w_COMPACT_STRINGS a30 a33 (own_tN p2 u3) (own_tN u4 u5) a31 a34 (own_tD p3 u3) (own_tD u6 u5) h38 n0 Z38 EC38 ((FC36_0.ext E37).keep KC38 (ninS (Nat.ne_of_lt (Nat.lt_of_lt_of_le EC36.lt (Nat.le_of_eq g37.symm))) nin0)) FC38_0 (((((((((TX29.keep (a0 := a0) KC30 all0).keep (a0 := a0) KC31 all0).keep (a0 := a0) KC32 all0).keep (a0 := a0) KC33 all0).keep (a0 := a0) KC34 all0).ext E35).keep (a0 := a0) KC36 (allS ⟨"com/example/callsite/callsite/model/MethodId", _, by decide, A35, (own_h hw 72 rfl)⟩ all0)).ext E37).keep (a0 := a0) KC38 (allS ⟨"com/example/callsite/callsite/model/MethodId", _, by decide, A37, (own_h hw 72 rfl)⟩ all0)) ((((((TX32.keep (a0 := a0) KC33 all0).keep (a0 := a0) KC34 all0).ext E35).keep (a0 := a0) KC36 (allS ⟨"com/example/callsite/callsite/model/MethodId", _, by decide, A35, (own_h hw 72 rfl)⟩ all0)).ext E37).keep (a0 := a0) KC38 (allS ⟨"com/example/callsite/callsite/model/MethodId", _, by decide, A37, (own_h hw 72 rfl)⟩ all0)) (own_sta_keep ((own_sta_keep ((own_sta_keep (own_sta_keep (own_sta_keep (own_sta_keep (own_sta_keep (own_sta_keep S_COMPACT_STRINGS KC29 ns0) KC30 ns0) KC31 ns0) KC32 ns0) KC33 ns0) KC34 ns0).ext E35) KC36 (nsS (Exa.nostat A35) ns0)).ext E37) KC38 (nsS (Exa.nostat A37) ns0)) ((FC36_1.ext E37).keep KC38 (ninS (Nat.ne_of_lt (Nat.lt_of_lt_of_le EC36.lt (Nat.le_of_eq g37.symm))) nin0)) FC38_1 ((((((((TX30.keep (a0 := a0) KC31 all0).keep (a0 := a0) KC32 all0).keep (a0 := a0) KC33 all0).keep (a0 := a0) KC34 all0).ext E35).keep (a0 := a0) KC36 (allS ⟨"com/example/callsite/callsite/model/MethodId", _, by decide, A35, (own_h hw 72 rfl)⟩ all0)).ext E37).keep (a0 := a0) KC38 (allS ⟨"com/example/callsite/callsite/model/MethodId", _, by decide, A37, (own_h hw 72 rfl)⟩ all0)) (((((TX33.keep (a0 := a0) KC34 all0).ext E35).keep (a0 := a0) KC36 (allS ⟨"com/example/callsite/callsite/model/MethodId", _, by decide, A35, (own_h hw 72 rfl)⟩ all0)).ext E37).keep (a0 := a0) KC38 (allS ⟨"com/example/callsite/callsite/model/MethodId", _, by decide, A37, (own_h hw 72 rfl)⟩ all0)) ((FC36_2.ext E37).keep KC38 (ninS (Nat.ne_of_lt (Nat.lt_of_lt_of_le EC36.lt (Nat.le_of_eq g37.symm))) nin0)) FC38_2 (((((((TX31.keep (a0 := a0) KC32 all0).keep (a0 := a0) KC33 all0).keep (a0 := a0) KC34 all0).ext E35).keep (a0 := a0) KC36 (allS ⟨"com/example/callsite/callsite/model/MethodId", _, by decide, A35, (own_h hw 72 rfl)⟩ all0)).ext E37).keep (a0 := a0) KC38 (allS ⟨"com/example/callsite/callsite/model/MethodId", _, by decide, A37, (own_h hw 72 rfl)⟩ all0)) ((((TX34.ext E35).keep (a0 := a0) KC36 (allS ⟨"com/example/callsite/callsite/model/MethodId", _, by decide, A35, (own_h hw 72 rfl)⟩ all0)).ext E37).keep (a0 := a0) KC38 (allS ⟨"com/example/callsite/callsite/model/MethodId", _, by decide, A37, (own_h hw 72 rfl)⟩ all0)) hz) 194 195 197 196 198 73 rfl rfl rfl rfl rfl rfl ((EC36.ext E37).keep KC38) (by decide) rfl (by rw [hml]; rfl) [(.ref b37)] [] (lenOf own_pd20 rfl) rfl rfl (W := 0) own_le (hb hby at_314) (by decide) (by decide) (by decide) (by decide)
              rw [show own_f43_r (own_tC p1 p6) (own_tC u1 u2) (own_tN p2 u3) (own_tN u4 u5) (own_tD p3 u3) (own_tD u6 u5) = (1 : Int32) from by unfold own_f43_r; rw [if_pos (show (own_tC p1 p6) = (own_tC u1 u2) from hc45), if_pos (show (own_tN p2 u3) = (own_tN u4 u5) from hc47), if_pos (show (own_tD p3 u3) = (own_tD u6 u5) from hc49)]] at hQ51
              obtain ⟨rfl, N51q, e51⟩ := hQ51
              have N51 := Fr.app N38 N51q
              replace k : ow T51 (mkF m 322 (ow_L p1 p2 p3 p4 p5 p6 (ow_i f1) (ow_i f2) (ow_i f3) (ow_i u1) (ow_i u2) (ow_i u3) (ow_i u4) (ow_i u5) (ow_i u6) (ow_r a29) (ow_r a30) (ow_r a31) (ow_r a32) (ow_r a33) (ow_r a34) (ow_r b35) (ow_r b37) (ow_i kd) (ow_i 1)) []) := fun t q => k t (XS.iload X51.here hx rfl (hb hby at_317) rfl (XS.icmpNo X51.here hx rfl (hb hby at_319) rfl (teq (show (1 : Int32) = (1 : Int32) from (by decide))).2 q))
              replace k : ow T51 (mkF m 326 (ow_L p1 p2 p3 p4 p5 p6 (ow_i f1) (ow_i f2) (ow_i f3) (ow_i u1) (ow_i u2) (ow_i u3) (ow_i u4) (ow_i u5) (ow_i u6) (ow_r a29) (ow_r a30) (ow_r a31) (ow_r a32) (ow_r a33) (ow_r a34) (ow_r b35) (ow_r b37) (ow_i kd) (ow_i 1)) [(.ref b35), (.ref b37)]) := fun t q => k t (XS.aload X51.here hx rfl (hb hby at_322) rfl rfl (XS.aload X51.here hx rfl (hb hby at_324) rfl rfl q))
              obtain ⟨_, T52, L52, X52, hQ52, k⟩ := own_cV X51 hx hw hZ hown e51 k (own_m43_r l Z a0 hw [] b37 b35 a32 a29 (own_tC u1 u2) (own_tC p1 p6) w_COMPACT_STRINGS a33 a30 (own_tN u4 u5) (own_tN p2 u3) a34 a31 (own_tD u6 u5) (own_tD p3 u3) h38 n0 Z38 ((EC36.ext E37).keep KC38) FC38_0 ((FC36_0.ext E37).keep KC38 (ninS (Nat.ne_of_lt (Nat.lt_of_lt_of_le EC36.lt (Nat.le_of_eq g37.symm))) nin0)) ((((((TX32.keep (a0 := a0) KC33 all0).keep (a0 := a0) KC34 all0).ext E35).keep (a0 := a0) KC36 (allS ⟨"com/example/callsite/callsite/model/MethodId", _, by decide, A35, (own_h hw 72 rfl)⟩ all0)).ext E37).keep (a0 := a0) KC38 (allS ⟨"com/example/callsite/callsite/model/MethodId", _, by decide, A37, (own_h hw 72 rfl)⟩ all0)) (((((((((TX29.keep (a0 := a0) KC30 all0).keep (a0 := a0) KC31 all0).keep (a0 := a0) KC32 all0).keep (a0 := a0) KC33 all0).keep (a0 := a0) KC34 all0).ext E35).keep (a0 := a0) KC36 (allS ⟨"com/example/callsite/callsite/model/MethodId", _, by decide, A35, (own_h hw 72 rfl)⟩ all0)).ext E37).keep (a0 := a0) KC38 (allS ⟨"com/example/callsite/callsite/model/MethodId", _, by decide, A37, (own_h hw 72 rfl)⟩ all0)) (own_sta_keep ((own_sta_keep ((own_sta_keep (own_sta_keep (own_sta_keep (own_sta_keep (own_sta_keep (own_sta_keep S_COMPACT_STRINGS KC29 ns0) KC30 ns0) KC31 ns0) KC32 ns0) KC33 ns0) KC34 ns0).ext E35) KC36 (nsS (Exa.nostat A35) ns0)).ext E37) KC38 (nsS (Exa.nostat A37) ns0)) FC38_1 ((FC36_1.ext E37).keep KC38 (ninS (Nat.ne_of_lt (Nat.lt_of_lt_of_le EC36.lt (Nat.le_of_eq g37.symm))) nin0)) (((((TX33.keep (a0 := a0) KC34 all0).ext E35).keep (a0 := a0) KC36 (allS ⟨"com/example/callsite/callsite/model/MethodId", _, by decide, A35, (own_h hw 72 rfl)⟩ all0)).ext E37).keep (a0 := a0) KC38 (allS ⟨"com/example/callsite/callsite/model/MethodId", _, by decide, A37, (own_h hw 72 rfl)⟩ all0)) ((((((((TX30.keep (a0 := a0) KC31 all0).keep (a0 := a0) KC32 all0).keep (a0 := a0) KC33 all0).keep (a0 := a0) KC34 all0).ext E35).keep (a0 := a0) KC36 (allS ⟨"com/example/callsite/callsite/model/MethodId", _, by decide, A35, (own_h hw 72 rfl)⟩ all0)).ext E37).keep (a0 := a0) KC38 (allS ⟨"com/example/callsite/callsite/model/MethodId", _, by decide, A37, (own_h hw 72 rfl)⟩ all0)) FC38_2 ((FC36_2.ext E37).keep KC38 (ninS (Nat.ne_of_lt (Nat.lt_of_lt_of_le EC36.lt (Nat.le_of_eq g37.symm))) nin0)) ((((TX34.ext E35).keep (a0 := a0) KC36 (allS ⟨"com/example/callsite/callsite/model/MethodId", _, by decide, A35, (own_h hw 72 rfl)⟩ all0)).ext E37).keep (a0 := a0) KC38 (allS ⟨"com/example/callsite/callsite/model/MethodId", _, by decide, A37, (own_h hw 72 rfl)⟩ all0)) (((((((TX31.keep (a0 := a0) KC32 all0).keep (a0 := a0) KC33 all0).keep (a0 := a0) KC34 all0).ext E35).keep (a0 := a0) KC36 (allS ⟨"com/example/callsite/callsite/model/MethodId", _, by decide, A35, (own_h hw 72 rfl)⟩ all0)).ext E37).keep (a0 := a0) KC38 (allS ⟨"com/example/callsite/callsite/model/MethodId", _, by decide, A37, (own_h hw 72 rfl)⟩ all0)) hz) 194 195 197 196 198 73 rfl rfl rfl rfl rfl rfl EC38 (by decide) rfl (by rw [hml]; rfl) [(.ref b35)] [] (lenOf own_pd20 rfl) rfl rfl (W := 0) own_le (hb hby at_326) (by decide) (by decide) (by decide) (by decide)
              rw [show own_f43_r (own_tC u1 u2) (own_tC p1 p6) (own_tN u4 u5) (own_tN p2 u3) (own_tD u6 u5) (own_tD p3 u3) = (1 : Int32) from by unfold own_f43_r; rw [if_pos (show (own_tC u1 u2) = (own_tC p1 p6) from (Eq.symm hc45)), if_pos (show (own_tN u4 u5) = (own_tN p2 u3) from (Eq.symm hc47)), if_pos (show (own_tD u6 u5) = (own_tD p3 u3) from (Eq.symm hc49))]] at hQ52
              obtain ⟨rfl, N52q, e52⟩ := hQ52
              have N52 := Fr.app N51 N52q
              replace k : ow T52 (mkF m 334 (ow_L p1 p2 p3 p4 p5 p6 (ow_i f1) (ow_i f2) (ow_i f3) (ow_i u1) (ow_i u2) (ow_i u3) (ow_i u4) (ow_i u5) (ow_i u6) (ow_r a29) (ow_r a30) (ow_r a31) (ow_r a32) (ow_r a33) (ow_r a34) (ow_r b35) (ow_r b37) (ow_i kd) (ow_i 1)) []) := fun t q => k t (XS.iload X52.here hx rfl (hb hby at_329) rfl (XS.icmpNo X52.here hx rfl (hb hby at_331) rfl (teq (show (1 : Int32) = (1 : Int32) from (by decide))).2 q))
              replace k : ow T52 (mkF m 339 (ow_L p1 p2 p3 p4 p5 p6 (ow_i f1) (ow_i f2) (ow_i f3) (ow_i u1) (ow_i u2) (ow_i u3) (ow_i u4) (ow_i u5) (ow_i u6) (ow_r a29) (ow_r a30) (ow_r a31) (ow_r a32) (ow_r a33) (ow_r a34) (ow_r b35) (ow_r b37) (ow_i kd) (ow_i 1)) [(.int 1)]) := fun t q => k t (XS.iconst X52.here hx rfl (hb hby at_334) (XS.goto X52.here hx rfl (pc0 := 335) (pc' := 339) rfl (hb hby at_335) (by decide) (by decide) q))
              obtain ⟨fs, hr, hrun, hended, hEnd⟩ := X52.leaveW hS38 (by rw [e52]; exact hk38) (v := some (.int 1)) (fun h => by rw [Bd.returns] at h; cases h)
              have hChr := CR38.trans (CHv.at X52 hZ (own_EW hw) CH38)
              refine ⟨_, _, k _ ?_, hrun, hended, _, _, rfl, ?_, ?_, own_monoW hEnd (by decide) (by decide)⟩
              · exact retN X52 hx (t := .boolean) Bd.returns (by simp) (hb hby at_339) hr
              · show own_Q0 n0 _ _
                exact ⟨rfl, N52⟩
              · rw [hh]; show CHr Z consts_1 s.vm h0 T52.vm T52.heap; rw [e52]; exact hChr
            · replace k : ow T48 (mkF m 297 (ow_L p1 p2 p3 p4 p5 p6 (ow_i f1) (ow_i f2) (ow_i f3) (ow_i u1) (ow_i u2) (ow_i u3) (ow_i u4) (ow_i u5) (ow_i u6) (ow_r a29) (ow_r a30) (ow_r a31) (ow_r a32) (ow_r a33) (ow_r a34) (ow_r b35) (ow_r b37) (ow_i kd)) [(.ref a34), (.ref a31)]) := fun t q => k t (XS.aload X48.here hx rfl (hb hby at_293) rfl rfl (XS.aload X48.here hx rfl (hb hby at_295) rfl rfl q))
              obtain ⟨T53, X53, e53, k⟩ := own_cEq X48 hx hw hZ hown e48 k (((((((TX31.keep (a0 := a0) KC32 all0).keep (a0 := a0) KC33 all0).keep (a0 := a0) KC34 all0).ext E35).keep (a0 := a0) KC36 (allS ⟨"com/example/callsite/callsite/model/MethodId", _, by decide, A35, (own_h hw 72 rfl)⟩ all0)).ext E37).keep (a0 := a0) KC38 (allS ⟨"com/example/callsite/callsite/model/MethodId", _, by decide, A37, (own_h hw 72 rfl)⟩ all0)) ((((TX34.ext E35).keep (a0 := a0) KC36 (allS ⟨"com/example/callsite/callsite/model/MethodId", _, by decide, A35, (own_h hw 72 rfl)⟩ all0)).ext E37).keep (a0 := a0) KC38 (allS ⟨"com/example/callsite/callsite/model/MethodId", _, by decide, A37, (own_h hw 72 rfl)⟩ all0)) (own_sta_keep ((own_sta_keep ((own_sta_keep (own_sta_keep (own_sta_keep (own_sta_keep (own_sta_keep (own_sta_keep S_COMPACT_STRINGS KC29 ns0) KC30 ns0) KC31 ns0) KC32 ns0) KC33 ns0) KC34 ns0).ext E35) KC36 (nsS (Exa.nostat A35) ns0)).ext E37) KC38 (nsS (Exa.nostat A37) ns0)) hz 0 (Or.inr ⟨rfl, hc49⟩) 193 156 158 157 8 rfl rfl rfl rfl rfl rfl rfl (by rw [hml]; rfl) [] rfl (W := 0) own_le (hb hby at_297) (by decide) (by decide) (by decide) (by decide)
              replace k : ow T53 (mkF m 307 (ow_L p1 p2 p3 p4 p5 p6 (ow_i f1) (ow_i f2) (ow_i f3) (ow_i u1) (ow_i u2) (ow_i u3) (ow_i u4) (ow_i u5) (ow_i u6) (ow_r a29) (ow_r a30) (ow_r a31) (ow_r a32) (ow_r a33) (ow_r a34) (ow_r b35) (ow_r b37) (ow_i kd)) []) := fun t q => k t (XS.ifYes X53.here hx rfl (pc0 := 300) (pc' := 307) rfl (hb hby at_300) rfl ((if0 _ _).trans (teq (show (0 : Int32) = (0 : Int32) from (by decide))).1) (by decide) (by decide) q)
              replace k : ow T53 (mkF m 312 (ow_L p1 p2 p3 p4 p5 p6 (ow_i f1) (ow_i f2) (ow_i f3) (ow_i u1) (ow_i u2) (ow_i u3) (ow_i u4) (ow_i u5) (ow_i u6) (ow_r a29) (ow_r a30) (ow_r a31) (ow_r a32) (ow_r a33) (ow_r a34) (ow_r b35) (ow_r b37) (ow_i kd) (ow_i 0)) [(.ref b35)]) := fun t q => k t (XS.iconst X53.here hx rfl (hb hby at_307) (XS.istore X53.here hx rfl (hb hby at_308) rfl (l' := (ow_L p1 p2 p3 p4 p5 p6 (ow_i f1) (ow_i f2) (ow_i f3) (ow_i u1) (ow_i u2) (ow_i u3) (ow_i u4) (ow_i u5) (ow_i u6) (ow_r a29) (ow_r a30) (ow_r a31) (ow_r a32) (ow_r a33) (ow_r a34) (ow_r b35) (ow_r b37) (ow_i kd) (ow_i 0))) rfl (XS.aload X53.here hx rfl (hb hby at_310) rfl rfl q)))
              replace k : ow T53 (mkF m 314 (ow_L p1 p2 p3 p4 p5 p6 (ow_i f1) (ow_i f2) (ow_i f3) (ow_i u1) (ow_i u2) (ow_i u3) (ow_i u4) (ow_i u5) (ow_i u6) (ow_r a29) (ow_r a30) (ow_r a31) (ow_r a32) (ow_r a33) (ow_r a34) (ow_r b35) (ow_r b37) (ow_i kd) (ow_i 0)) [(.ref b37), (.ref b35)]) := fun t q => k t (XS.aload X53.here hx rfl (hb hby at_312) rfl rfl q)
              obtain ⟨_, T54, L54, X54, hQ54, k⟩ := own_cV X53 hx hw hZ hown e53 k (own_m43_r l Z a0 hw [] b35 b37 a29 a32 (own_tC p1 p6) (own_tC u1 u2) w_COMPACT_STRINGS a30 a33 (own_tN p2 u3) (own_tN u4 u5) a31 a34 (own_tD p3 u3) (own_tD u6 u5) h38 n0 Z38 EC38 ((FC36_0.ext E37).keep KC38 (ninS (Nat.ne_of_lt (Nat.lt_of_lt_of_le EC36.lt (Nat.le_of_eq g37.symm))) nin0)) FC38_0 (((((((((TX29.keep (a0 := a0) KC30 all0).keep (a0 := a0) KC31 all0).keep (a0 := a0) KC32 all0).keep (a0 := a0) KC33 all0).keep (a0 := a0) KC34 all0).ext E35).keep (a0 := a0) KC36 (allS ⟨"com/example/callsite/callsite/model/MethodId", _, by decide, A35, (own_h hw 72 rfl)⟩ all0)).ext E37).keep (a0 := a0) KC38 (allS ⟨"com/example/callsite/callsite/model/MethodId", _, by decide, A37, (own_h hw 72 rfl)⟩ all0)) ((((((TX32.keep (a0 := a0) KC33 all0).keep (a0 := a0) KC34 all0).ext E35).keep (a0 := a0) KC36 (allS ⟨"com/example/callsite/callsite/model/MethodId", _, by decide, A35, (own_h hw 72 rfl)⟩ all0)).ext E37).keep (a0 := a0) KC38 (allS ⟨"com/example/callsite/callsite/model/MethodId", _, by decide, A37, (own_h hw 72 rfl)⟩ all0)) (own_sta_keep ((own_sta_keep ((own_sta_keep (own_sta_keep (own_sta_keep (own_sta_keep (own_sta_keep (own_sta_keep S_COMPACT_STRINGS KC29 ns0) KC30 ns0) KC31 ns0) KC32 ns0) KC33 ns0) KC34 ns0).ext E35) KC36 (nsS (Exa.nostat A35) ns0)).ext E37) KC38 (nsS (Exa.nostat A37) ns0)) ((FC36_1.ext E37).keep KC38 (ninS (Nat.ne_of_lt (Nat.lt_of_lt_of_le EC36.lt (Nat.le_of_eq g37.symm))) nin0)) FC38_1 ((((((((TX30.keep (a0 := a0) KC31 all0).keep (a0 := a0) KC32 all0).keep (a0 := a0) KC33 all0).keep (a0 := a0) KC34 all0).ext E35).keep (a0 := a0) KC36 (allS ⟨"com/example/callsite/callsite/model/MethodId", _, by decide, A35, (own_h hw 72 rfl)⟩ all0)).ext E37).keep (a0 := a0) KC38 (allS ⟨"com/example/callsite/callsite/model/MethodId", _, by decide, A37, (own_h hw 72 rfl)⟩ all0)) (((((TX33.keep (a0 := a0) KC34 all0).ext E35).keep (a0 := a0) KC36 (allS ⟨"com/example/callsite/callsite/model/MethodId", _, by decide, A35, (own_h hw 72 rfl)⟩ all0)).ext E37).keep (a0 := a0) KC38 (allS ⟨"com/example/callsite/callsite/model/MethodId", _, by decide, A37, (own_h hw 72 rfl)⟩ all0)) ((FC36_2.ext E37).keep KC38 (ninS (Nat.ne_of_lt (Nat.lt_of_lt_of_le EC36.lt (Nat.le_of_eq g37.symm))) nin0)) FC38_2 (((((((TX31.keep (a0 := a0) KC32 all0).keep (a0 := a0) KC33 all0).keep (a0 := a0) KC34 all0).ext E35).keep (a0 := a0) KC36 (allS ⟨"com/example/callsite/callsite/model/MethodId", _, by decide, A35, (own_h hw 72 rfl)⟩ all0)).ext E37).keep (a0 := a0) KC38 (allS ⟨"com/example/callsite/callsite/model/MethodId", _, by decide, A37, (own_h hw 72 rfl)⟩ all0)) ((((TX34.ext E35).keep (a0 := a0) KC36 (allS ⟨"com/example/callsite/callsite/model/MethodId", _, by decide, A35, (own_h hw 72 rfl)⟩ all0)).ext E37).keep (a0 := a0) KC38 (allS ⟨"com/example/callsite/callsite/model/MethodId", _, by decide, A37, (own_h hw 72 rfl)⟩ all0)) hz) 194 195 197 196 198 73 rfl rfl rfl rfl rfl rfl ((EC36.ext E37).keep KC38) (by decide) rfl (by rw [hml]; rfl) [(.ref b37)] [] (lenOf own_pd20 rfl) rfl rfl (W := 0) own_le (hb hby at_314) (by decide) (by decide) (by decide) (by decide)
              rw [show own_f43_r (own_tC p1 p6) (own_tC u1 u2) (own_tN p2 u3) (own_tN u4 u5) (own_tD p3 u3) (own_tD u6 u5) = (0 : Int32) from by unfold own_f43_r; rw [if_pos (show (own_tC p1 p6) = (own_tC u1 u2) from hc45), if_pos (show (own_tN p2 u3) = (own_tN u4 u5) from hc47), if_neg (show ¬ ((own_tD p3 u3) = (own_tD u6 u5)) from hc49)]] at hQ54
              obtain ⟨rfl, N54q, e54⟩ := hQ54
              have N54 := Fr.app N38 N54q
              replace k : ow T54 (mkF m 322 (ow_L p1 p2 p3 p4 p5 p6 (ow_i f1) (ow_i f2) (ow_i f3) (ow_i u1) (ow_i u2) (ow_i u3) (ow_i u4) (ow_i u5) (ow_i u6) (ow_r a29) (ow_r a30) (ow_r a31) (ow_r a32) (ow_r a33) (ow_r a34) (ow_r b35) (ow_r b37) (ow_i kd) (ow_i 0)) []) := fun t q => k t (XS.iload X54.here hx rfl (hb hby at_317) rfl (XS.icmpNo X54.here hx rfl (hb hby at_319) rfl (teq (show (0 : Int32) = (0 : Int32) from (by decide))).2 q))
              replace k : ow T54 (mkF m 326 (ow_L p1 p2 p3 p4 p5 p6 (ow_i f1) (ow_i f2) (ow_i f3) (ow_i u1) (ow_i u2) (ow_i u3) (ow_i u4) (ow_i u5) (ow_i u6) (ow_r a29) (ow_r a30) (ow_r a31) (ow_r a32) (ow_r a33) (ow_r a34) (ow_r b35) (ow_r b37) (ow_i kd) (ow_i 0)) [(.ref b35), (.ref b37)]) := fun t q => k t (XS.aload X54.here hx rfl (hb hby at_322) rfl rfl (XS.aload X54.here hx rfl (hb hby at_324) rfl rfl q))
              obtain ⟨_, T55, L55, X55, hQ55, k⟩ := own_cV X54 hx hw hZ hown e54 k (own_m43_r l Z a0 hw [] b37 b35 a32 a29 (own_tC u1 u2) (own_tC p1 p6) w_COMPACT_STRINGS a33 a30 (own_tN u4 u5) (own_tN p2 u3) a34 a31 (own_tD u6 u5) (own_tD p3 u3) h38 n0 Z38 ((EC36.ext E37).keep KC38) FC38_0 ((FC36_0.ext E37).keep KC38 (ninS (Nat.ne_of_lt (Nat.lt_of_lt_of_le EC36.lt (Nat.le_of_eq g37.symm))) nin0)) ((((((TX32.keep (a0 := a0) KC33 all0).keep (a0 := a0) KC34 all0).ext E35).keep (a0 := a0) KC36 (allS ⟨"com/example/callsite/callsite/model/MethodId", _, by decide, A35, (own_h hw 72 rfl)⟩ all0)).ext E37).keep (a0 := a0) KC38 (allS ⟨"com/example/callsite/callsite/model/MethodId", _, by decide, A37, (own_h hw 72 rfl)⟩ all0)) (((((((((TX29.keep (a0 := a0) KC30 all0).keep (a0 := a0) KC31 all0).keep (a0 := a0) KC32 all0).keep (a0 := a0) KC33 all0).keep (a0 := a0) KC34 all0).ext E35).keep (a0 := a0) KC36 (allS ⟨"com/example/callsite/callsite/model/MethodId", _, by decide, A35, (own_h hw 72 rfl)⟩ all0)).ext E37).keep (a0 := a0) KC38 (allS ⟨"com/example/callsite/callsite/model/MethodId", _, by decide, A37, (own_h hw 72 rfl)⟩ all0)) (own_sta_keep ((own_sta_keep ((own_sta_keep (own_sta_keep (own_sta_keep (own_sta_keep (own_sta_keep (own_sta_keep S_COMPACT_STRINGS KC29 ns0) KC30 ns0) KC31 ns0) KC32 ns0) KC33 ns0) KC34 ns0).ext E35) KC36 (nsS (Exa.nostat A35) ns0)).ext E37) KC38 (nsS (Exa.nostat A37) ns0)) FC38_1 ((FC36_1.ext E37).keep KC38 (ninS (Nat.ne_of_lt (Nat.lt_of_lt_of_le EC36.lt (Nat.le_of_eq g37.symm))) nin0)) (((((TX33.keep (a0 := a0) KC34 all0).ext E35).keep (a0 := a0) KC36 (allS ⟨"com/example/callsite/callsite/model/MethodId", _, by decide, A35, (own_h hw 72 rfl)⟩ all0)).ext E37).keep (a0 := a0) KC38 (allS ⟨"com/example/callsite/callsite/model/MethodId", _, by decide, A37, (own_h hw 72 rfl)⟩ all0)) ((((((((TX30.keep (a0 := a0) KC31 all0).keep (a0 := a0) KC32 all0).keep (a0 := a0) KC33 all0).keep (a0 := a0) KC34 all0).ext E35).keep (a0 := a0) KC36 (allS ⟨"com/example/callsite/callsite/model/MethodId", _, by decide, A35, (own_h hw 72 rfl)⟩ all0)).ext E37).keep (a0 := a0) KC38 (allS ⟨"com/example/callsite/callsite/model/MethodId", _, by decide, A37, (own_h hw 72 rfl)⟩ all0)) FC38_2 ((FC36_2.ext E37).keep KC38 (ninS (Nat.ne_of_lt (Nat.lt_of_lt_of_le EC36.lt (Nat.le_of_eq g37.symm))) nin0)) ((((TX34.ext E35).keep (a0 := a0) KC36 (allS ⟨"com/example/callsite/callsite/model/MethodId", _, by decide, A35, (own_h hw 72 rfl)⟩ all0)).ext E37).keep (a0 := a0) KC38 (allS ⟨"com/example/callsite/callsite/model/MethodId", _, by decide, A37, (own_h hw 72 rfl)⟩ all0)) (((((((TX31.keep (a0 := a0) KC32 all0).keep (a0 := a0) KC33 all0).keep (a0 := a0) KC34 all0).ext E35).keep (a0 := a0) KC36 (allS ⟨"com/example/callsite/callsite/model/MethodId", _, by decide, A35, (own_h hw 72 rfl)⟩ all0)).ext E37).keep (a0 := a0) KC38 (allS ⟨"com/example/callsite/callsite/model/MethodId", _, by decide, A37, (own_h hw 72 rfl)⟩ all0)) hz) 194 195 197 196 198 73 rfl rfl rfl rfl rfl rfl EC38 (by decide) rfl (by rw [hml]; rfl) [(.ref b35)] [] (lenOf own_pd20 rfl) rfl rfl (W := 0) own_le (hb hby at_326) (by decide) (by decide) (by decide) (by decide)
              rw [show own_f43_r (own_tC u1 u2) (own_tC p1 p6) (own_tN u4 u5) (own_tN p2 u3) (own_tD u6 u5) (own_tD p3 u3) = (0 : Int32) from by unfold own_f43_r; rw [if_pos (show (own_tC u1 u2) = (own_tC p1 p6) from (Eq.symm hc45)), if_pos (show (own_tN u4 u5) = (own_tN p2 u3) from (Eq.symm hc47)), if_neg (show ¬ ((own_tD u6 u5) = (own_tD p3 u3)) from (fun q => hc49 (Eq.symm q)))]] at hQ55
              obtain ⟨rfl, N55q, e55⟩ := hQ55
              have N55 := Fr.app N54 N55q
              replace k : ow T55 (mkF m 334 (ow_L p1 p2 p3 p4 p5 p6 (ow_i f1) (ow_i f2) (ow_i f3) (ow_i u1) (ow_i u2) (ow_i u3) (ow_i u4) (ow_i u5) (ow_i u6) (ow_r a29) (ow_r a30) (ow_r a31) (ow_r a32) (ow_r a33) (ow_r a34) (ow_r b35) (ow_r b37) (ow_i kd) (ow_i 0)) []) := fun t q => k t (XS.iload X55.here hx rfl (hb hby at_329) rfl (XS.icmpNo X55.here hx rfl (hb hby at_331) rfl (teq (show (0 : Int32) = (0 : Int32) from (by decide))).2 q))
              replace k : ow T55 (mkF m 339 (ow_L p1 p2 p3 p4 p5 p6 (ow_i f1) (ow_i f2) (ow_i f3) (ow_i u1) (ow_i u2) (ow_i u3) (ow_i u4) (ow_i u5) (ow_i u6) (ow_r a29) (ow_r a30) (ow_r a31) (ow_r a32) (ow_r a33) (ow_r a34) (ow_r b35) (ow_r b37) (ow_i kd) (ow_i 0)) [(.int 1)]) := fun t q => k t (XS.iconst X55.here hx rfl (hb hby at_334) (XS.goto X55.here hx rfl (pc0 := 335) (pc' := 339) rfl (hb hby at_335) (by decide) (by decide) q))
              obtain ⟨fs, hr, hrun, hended, hEnd⟩ := X55.leaveW hS38 (by rw [e55]; exact hk38) (v := some (.int 1)) (fun h => by rw [Bd.returns] at h; cases h)
              have hChr := CR38.trans (CHv.at X55 hZ (own_EW hw) CH38)
              refine ⟨_, _, k _ ?_, hrun, hended, _, _, rfl, ?_, ?_, own_monoW hEnd (by decide) (by decide)⟩
              · exact retN X55 hx (t := .boolean) Bd.returns (by simp) (hb hby at_339) hr
              · show own_Q0 n0 _ _
                exact ⟨rfl, N55⟩
              · rw [hh]; show CHr Z consts_1 s.vm h0 T55.vm T55.heap; rw [e55]; exact hChr
          · replace k : ow T46 (mkF m 287 (ow_L p1 p2 p3 p4 p5 p6 (ow_i f1) (ow_i f2) (ow_i f3) (ow_i u1) (ow_i u2) (ow_i u3) (ow_i u4) (ow_i u5) (ow_i u6) (ow_r a29) (ow_r a30) (ow_r a31) (ow_r a32) (ow_r a33) (ow_r a34) (ow_r b35) (ow_r b37) (ow_i kd)) [(.ref a33), (.ref a30)]) := fun t q => k t (XS.aload X46.here hx rfl (hb hby at_283) rfl rfl (XS.aload X46.here hx rfl (hb hby at_285) rfl rfl q))
            obtain ⟨T56, X56, e56, k⟩ := own_cEq X46 hx hw hZ hown e46 k ((((((((TX30.keep (a0 := a0) KC31 all0).keep (a0 := a0) KC32 all0).keep (a0 := a0) KC33 all0).keep (a0 := a0) KC34 all0).ext E35).keep (a0 := a0) KC36 (allS ⟨"com/example/callsite/callsite/model/MethodId", _, by decide, A35, (own_h hw 72 rfl)⟩ all0)).ext E37).keep (a0 := a0) KC38 (allS ⟨"com/example/callsite/callsite/model/MethodId", _, by decide, A37, (own_h hw 72 rfl)⟩ all0)) (((((TX33.keep (a0 := a0) KC34 all0).ext E35).keep (a0 := a0) KC36 (allS ⟨"com/example/callsite/callsite/model/MethodId", _, by decide, A35, (own_h hw 72 rfl)⟩ all0)).ext E37).keep (a0 := a0) KC38 (allS ⟨"com/example/callsite/callsite/model/MethodId", _, by decide, A37, (own_h hw 72 rfl)⟩ all0)) (own_sta_keep ((own_sta_keep ((own_sta_keep (own_sta_keep (own_sta_keep (own_sta_keep (own_sta_keep (own_sta_keep S_COMPACT_STRINGS KC29 ns0) KC30 ns0) KC31 ns0) KC32 ns0) KC33 ns0) KC34 ns0).ext E35) KC36 (nsS (Exa.nostat A35) ns0)).ext E37) KC38 (nsS (Exa.nostat A37) ns0)) hz 0 (Or.inr ⟨rfl, hc47⟩) 193 156 158 157 8 rfl rfl rfl rfl rfl rfl rfl (by rw [hml]; rfl) [] rfl (W := 0) own_le (hb hby at_287) (by decide) (by decide) (by decide) (by decide)
            replace k : ow T56 (mkF m 307 (ow_L p1 p2 p3 p4 p5 p6 (ow_i f1) (ow_i f2) (ow_i f3) (ow_i u1) (ow_i u2) (ow_i u3) (ow_i u4) (ow_i u5) (ow_i u6) (ow_r a29) (ow_r a30) (ow_r a31) (ow_r a32) (ow_r a33) (ow_r a34) (ow_r b35) (ow_r b37) (ow_i kd)) []) := fun t q => k t (XS.ifYes X56.here hx rfl (pc0 := 290) (pc' := 307) rfl (hb hby at_290) rfl ((if0 _ _).trans (teq (show (0 : Int32) = (0 : Int32) from (by decide))).1) (by decide) (by decide) q)
            replace k : ow T56 (mkF m 312 (ow_L p1 p2 p3 p4 p5 p6 (ow_i f1) (ow_i f2) (ow_i f3) (ow_i u1) (ow_i u2) (ow_i u3) (ow_i u4) (ow_i u5) (ow_i u6) (ow_r a29) (ow_r a30) (ow_r a31) (ow_r a32) (ow_r a33) (ow_r a34) (ow_r b35) (ow_r b37) (ow_i kd) (ow_i 0)) [(.ref b35)]) := fun t q => k t (XS.iconst X56.here hx rfl (hb hby at_307) (XS.istore X56.here hx rfl (hb hby at_308) rfl (l' := (ow_L p1 p2 p3 p4 p5 p6 (ow_i f1) (ow_i f2) (ow_i f3) (ow_i u1) (ow_i u2) (ow_i u3) (ow_i u4) (ow_i u5) (ow_i u6) (ow_r a29) (ow_r a30) (ow_r a31) (ow_r a32) (ow_r a33) (ow_r a34) (ow_r b35) (ow_r b37) (ow_i kd) (ow_i 0))) rfl (XS.aload X56.here hx rfl (hb hby at_310) rfl rfl q)))
            replace k : ow T56 (mkF m 314 (ow_L p1 p2 p3 p4 p5 p6 (ow_i f1) (ow_i f2) (ow_i f3) (ow_i u1) (ow_i u2) (ow_i u3) (ow_i u4) (ow_i u5) (ow_i u6) (ow_r a29) (ow_r a30) (ow_r a31) (ow_r a32) (ow_r a33) (ow_r a34) (ow_r b35) (ow_r b37) (ow_i kd) (ow_i 0)) [(.ref b37), (.ref b35)]) := fun t q => k t (XS.aload X56.here hx rfl (hb hby at_312) rfl rfl q)
            obtain ⟨_, T57, L57, X57, hQ57, k⟩ := own_cV X56 hx hw hZ hown e56 k (own_m43_r l Z a0 hw [] b35 b37 a29 a32 (own_tC p1 p6) (own_tC u1 u2) w_COMPACT_STRINGS a30 a33 (own_tN p2 u3) (own_tN u4 u5) a31 a34 (own_tD p3 u3) (own_tD u6 u5) h38 n0 Z38 EC38 ((FC36_0.ext E37).keep KC38 (ninS (Nat.ne_of_lt (Nat.lt_of_lt_of_le EC36.lt (Nat.le_of_eq g37.symm))) nin0)) FC38_0 (((((((((TX29.keep (a0 := a0) KC30 all0).keep (a0 := a0) KC31 all0).keep (a0 := a0) KC32 all0).keep (a0 := a0) KC33 all0).keep (a0 := a0) KC34 all0).ext E35).keep (a0 := a0) KC36 (allS ⟨"com/example/callsite/callsite/model/MethodId", _, by decide, A35, (own_h hw 72 rfl)⟩ all0)).ext E37).keep (a0 := a0) KC38 (allS ⟨"com/example/callsite/callsite/model/MethodId", _, by decide, A37, (own_h hw 72 rfl)⟩ all0)) ((((((TX32.keep (a0 := a0) KC33 all0).keep (a0 := a0) KC34 all0).ext E35).keep (a0 := a0) KC36 (allS ⟨"com/example/callsite/callsite/model/MethodId", _, by decide, A35, (own_h hw 72 rfl)⟩ all0)).ext E37).keep (a0 := a0) KC38 (allS ⟨"com/example/callsite/callsite/model/MethodId", _, by decide, A37, (own_h hw 72 rfl)⟩ all0)) (own_sta_keep ((own_sta_keep ((own_sta_keep (own_sta_keep (own_sta_keep (own_sta_keep (own_sta_keep (own_sta_keep S_COMPACT_STRINGS KC29 ns0) KC30 ns0) KC31 ns0) KC32 ns0) KC33 ns0) KC34 ns0).ext E35) KC36 (nsS (Exa.nostat A35) ns0)).ext E37) KC38 (nsS (Exa.nostat A37) ns0)) ((FC36_1.ext E37).keep KC38 (ninS (Nat.ne_of_lt (Nat.lt_of_lt_of_le EC36.lt (Nat.le_of_eq g37.symm))) nin0)) FC38_1 ((((((((TX30.keep (a0 := a0) KC31 all0).keep (a0 := a0) KC32 all0).keep (a0 := a0) KC33 all0).keep (a0 := a0) KC34 all0).ext E35).keep (a0 := a0) KC36 (allS ⟨"com/example/callsite/callsite/model/MethodId", _, by decide, A35, (own_h hw 72 rfl)⟩ all0)).ext E37).keep (a0 := a0) KC38 (allS ⟨"com/example/callsite/callsite/model/MethodId", _, by decide, A37, (own_h hw 72 rfl)⟩ all0)) (((((TX33.keep (a0 := a0) KC34 all0).ext E35).keep (a0 := a0) KC36 (allS ⟨"com/example/callsite/callsite/model/MethodId", _, by decide, A35, (own_h hw 72 rfl)⟩ all0)).ext E37).keep (a0 := a0) KC38 (allS ⟨"com/example/callsite/callsite/model/MethodId", _, by decide, A37, (own_h hw 72 rfl)⟩ all0)) ((FC36_2.ext E37).keep KC38 (ninS (Nat.ne_of_lt (Nat.lt_of_lt_of_le EC36.lt (Nat.le_of_eq g37.symm))) nin0)) FC38_2 (((((((TX31.keep (a0 := a0) KC32 all0).keep (a0 := a0) KC33 all0).keep (a0 := a0) KC34 all0).ext E35).keep (a0 := a0) KC36 (allS ⟨"com/example/callsite/callsite/model/MethodId", _, by decide, A35, (own_h hw 72 rfl)⟩ all0)).ext E37).keep (a0 := a0) KC38 (allS ⟨"com/example/callsite/callsite/model/MethodId", _, by decide, A37, (own_h hw 72 rfl)⟩ all0)) ((((TX34.ext E35).keep (a0 := a0) KC36 (allS ⟨"com/example/callsite/callsite/model/MethodId", _, by decide, A35, (own_h hw 72 rfl)⟩ all0)).ext E37).keep (a0 := a0) KC38 (allS ⟨"com/example/callsite/callsite/model/MethodId", _, by decide, A37, (own_h hw 72 rfl)⟩ all0)) hz) 194 195 197 196 198 73 rfl rfl rfl rfl rfl rfl ((EC36.ext E37).keep KC38) (by decide) rfl (by rw [hml]; rfl) [(.ref b37)] [] (lenOf own_pd20 rfl) rfl rfl (W := 0) own_le (hb hby at_314) (by decide) (by decide) (by decide) (by decide)
            rw [show own_f43_r (own_tC p1 p6) (own_tC u1 u2) (own_tN p2 u3) (own_tN u4 u5) (own_tD p3 u3) (own_tD u6 u5) = (0 : Int32) from by unfold own_f43_r; rw [if_pos (show (own_tC p1 p6) = (own_tC u1 u2) from hc45), if_neg (show ¬ ((own_tN p2 u3) = (own_tN u4 u5)) from hc47)]] at hQ57
            obtain ⟨rfl, N57q, e57⟩ := hQ57
            have N57 := Fr.app N38 N57q
            replace k : ow T57 (mkF m 322 (ow_L p1 p2 p3 p4 p5 p6 (ow_i f1) (ow_i f2) (ow_i f3) (ow_i u1) (ow_i u2) (ow_i u3) (ow_i u4) (ow_i u5) (ow_i u6) (ow_r a29) (ow_r a30) (ow_r a31) (ow_r a32) (ow_r a33) (ow_r a34) (ow_r b35) (ow_r b37) (ow_i kd) (ow_i 0)) []) := fun t q => k t (XS.iload X57.here hx rfl (hb hby at_317) rfl (XS.icmpNo X57.here hx rfl (hb hby at_319) rfl (teq (show (0 : Int32) = (0 : Int32) from (by decide))).2 q))
            replace k : ow T57 (mkF m 326 (ow_L p1 p2 p3 p4 p5 p6 (ow_i f1) (ow_i f2) (ow_i f3) (ow_i u1) (ow_i u2) (ow_i u3) (ow_i u4) (ow_i u5) (ow_i u6) (ow_r a29) (ow_r a30) (ow_r a31) (ow_r a32) (ow_r a33) (ow_r a34) (ow_r b35) (ow_r b37) (ow_i kd) (ow_i 0)) [(.ref b35), (.ref b37)]) := fun t q => k t (XS.aload X57.here hx rfl (hb hby at_322) rfl rfl (XS.aload X57.here hx rfl (hb hby at_324) rfl rfl q))
            obtain ⟨_, T58, L58, X58, hQ58, k⟩ := own_cV X57 hx hw hZ hown e57 k (own_m43_r l Z a0 hw [] b37 b35 a32 a29 (own_tC u1 u2) (own_tC p1 p6) w_COMPACT_STRINGS a33 a30 (own_tN u4 u5) (own_tN p2 u3) a34 a31 (own_tD u6 u5) (own_tD p3 u3) h38 n0 Z38 ((EC36.ext E37).keep KC38) FC38_0 ((FC36_0.ext E37).keep KC38 (ninS (Nat.ne_of_lt (Nat.lt_of_lt_of_le EC36.lt (Nat.le_of_eq g37.symm))) nin0)) ((((((TX32.keep (a0 := a0) KC33 all0).keep (a0 := a0) KC34 all0).ext E35).keep (a0 := a0) KC36 (allS ⟨"com/example/callsite/callsite/model/MethodId", _, by decide, A35, (own_h hw 72 rfl)⟩ all0)).ext E37).keep (a0 := a0) KC38 (allS ⟨"com/example/callsite/callsite/model/MethodId", _, by decide, A37, (own_h hw 72 rfl)⟩ all0)) (((((((((TX29.keep (a0 := a0) KC30 all0).keep (a0 := a0) KC31 all0).keep (a0 := a0) KC32 all0).keep (a0 := a0) KC33 all0).keep (a0 := a0) KC34 all0).ext E35).keep (a0 := a0) KC36 (allS ⟨"com/example/callsite/callsite/model/MethodId", _, by decide, A35, (own_h hw 72 rfl)⟩ all0)).ext E37).keep (a0 := a0) KC38 (allS ⟨"com/example/callsite/callsite/model/MethodId", _, by decide, A37, (own_h hw 72 rfl)⟩ all0)) (own_sta_keep ((own_sta_keep ((own_sta_keep (own_sta_keep (own_sta_keep (own_sta_keep (own_sta_keep (own_sta_keep S_COMPACT_STRINGS KC29 ns0) KC30 ns0) KC31 ns0) KC32 ns0) KC33 ns0) KC34 ns0).ext E35) KC36 (nsS (Exa.nostat A35) ns0)).ext E37) KC38 (nsS (Exa.nostat A37) ns0)) FC38_1 ((FC36_1.ext E37).keep KC38 (ninS (Nat.ne_of_lt (Nat.lt_of_lt_of_le EC36.lt (Nat.le_of_eq g37.symm))) nin0)) (((((TX33.keep (a0 := a0) KC34 all0).ext E35).keep (a0 := a0) KC36 (allS ⟨"com/example/callsite/callsite/model/MethodId", _, by decide, A35, (own_h hw 72 rfl)⟩ all0)).ext E37).keep (a0 := a0) KC38 (allS ⟨"com/example/callsite/callsite/model/MethodId", _, by decide, A37, (own_h hw 72 rfl)⟩ all0)) ((((((((TX30.keep (a0 := a0) KC31 all0).keep (a0 := a0) KC32 all0).keep (a0 := a0) KC33 all0).keep (a0 := a0) KC34 all0).ext E35).keep (a0 := a0) KC36 (allS ⟨"com/example/callsite/callsite/model/MethodId", _, by decide, A35, (own_h hw 72 rfl)⟩ all0)).ext E37).keep (a0 := a0) KC38 (allS ⟨"com/example/callsite/callsite/model/MethodId", _, by decide, A37, (own_h hw 72 rfl)⟩ all0)) FC38_2 ((FC36_2.ext E37).keep KC38 (ninS (Nat.ne_of_lt (Nat.lt_of_lt_of_le EC36.lt (Nat.le_of_eq g37.symm))) nin0)) ((((TX34.ext E35).keep (a0 := a0) KC36 (allS ⟨"com/example/callsite/callsite/model/MethodId", _, by decide, A35, (own_h hw 72 rfl)⟩ all0)).ext E37).keep (a0 := a0) KC38 (allS ⟨"com/example/callsite/callsite/model/MethodId", _, by decide, A37, (own_h hw 72 rfl)⟩ all0)) (((((((TX31.keep (a0 := a0) KC32 all0).keep (a0 := a0) KC33 all0).keep (a0 := a0) KC34 all0).ext E35).keep (a0 := a0) KC36 (allS ⟨"com/example/callsite/callsite/model/MethodId", _, by decide, A35, (own_h hw 72 rfl)⟩ all0)).ext E37).keep (a0 := a0) KC38 (allS ⟨"com/example/callsite/callsite/model/MethodId", _, by decide, A37, (own_h hw 72 rfl)⟩ all0)) hz) 194 195 197 196 198 73 rfl rfl rfl rfl rfl rfl EC38 (by decide) rfl (by rw [hml]; rfl) [(.ref b35)] [] (lenOf own_pd20 rfl) rfl rfl (W := 0) own_le (hb hby at_326) (by decide) (by decide) (by decide) (by decide)
            rw [show own_f43_r (own_tC u1 u2) (own_tC p1 p6) (own_tN u4 u5) (own_tN p2 u3) (own_tD u6 u5) (own_tD p3 u3) = (0 : Int32) from by unfold own_f43_r; rw [if_pos (show (own_tC u1 u2) = (own_tC p1 p6) from (Eq.symm hc45)), if_neg (show ¬ ((own_tN u4 u5) = (own_tN p2 u3)) from (fun q => hc47 (Eq.symm q)))]] at hQ58
            obtain ⟨rfl, N58q, e58⟩ := hQ58
            have N58 := Fr.app N57 N58q
            replace k : ow T58 (mkF m 334 (ow_L p1 p2 p3 p4 p5 p6 (ow_i f1) (ow_i f2) (ow_i f3) (ow_i u1) (ow_i u2) (ow_i u3) (ow_i u4) (ow_i u5) (ow_i u6) (ow_r a29) (ow_r a30) (ow_r a31) (ow_r a32) (ow_r a33) (ow_r a34) (ow_r b35) (ow_r b37) (ow_i kd) (ow_i 0)) []) := fun t q => k t (XS.iload X58.here hx rfl (hb hby at_329) rfl (XS.icmpNo X58.here hx rfl (hb hby at_331) rfl (teq (show (0 : Int32) = (0 : Int32) from (by decide))).2 q))
            replace k : ow T58 (mkF m 339 (ow_L p1 p2 p3 p4 p5 p6 (ow_i f1) (ow_i f2) (ow_i f3) (ow_i u1) (ow_i u2) (ow_i u3) (ow_i u4) (ow_i u5) (ow_i u6) (ow_r a29) (ow_r a30) (ow_r a31) (ow_r a32) (ow_r a33) (ow_r a34) (ow_r b35) (ow_r b37) (ow_i kd) (ow_i 0)) [(.int 1)]) := fun t q => k t (XS.iconst X58.here hx rfl (hb hby at_334) (XS.goto X58.here hx rfl (pc0 := 335) (pc' := 339) rfl (hb hby at_335) (by decide) (by decide) q))
            obtain ⟨fs, hr, hrun, hended, hEnd⟩ := X58.leaveW hS38 (by rw [e58]; exact hk38) (v := some (.int 1)) (fun h => by rw [Bd.returns] at h; cases h)
            have hChr := CR38.trans (CHv.at X58 hZ (own_EW hw) CH38)
            refine ⟨_, _, k _ ?_, hrun, hended, _, _, rfl, ?_, ?_, own_monoW hEnd (by decide) (by decide)⟩
            · exact retN X58 hx (t := .boolean) Bd.returns (by simp) (hb hby at_339) hr
            · show own_Q0 n0 _ _
              exact ⟨rfl, N58⟩
            · rw [hh]; show CHr Z consts_1 s.vm h0 T58.vm T58.heap; rw [e58]; exact hChr
        · replace k : ow T38 (mkF m 277 (ow_L p1 p2 p3 p4 p5 p6 (ow_i f1) (ow_i f2) (ow_i f3) (ow_i u1) (ow_i u2) (ow_i u3) (ow_i u4) (ow_i u5) (ow_i u6) (ow_r a29) (ow_r a30) (ow_r a31) (ow_r a32) (ow_r a33) (ow_r a34) (ow_r b35) (ow_r b37) (ow_i kd)) [(.ref a32), (.ref a29)]) := fun t q => k t (XS.aload X38.here hx rfl (hb hby at_273) rfl rfl (XS.aload X38.here hx rfl (hb hby at_275) rfl rfl q))
          obtain ⟨T59, X59, e59, k⟩ := own_cEq X38 hx hw hZ hown e38 k (((((((((TX29.keep (a0 := a0) KC30 all0).keep (a0 := a0) KC31 all0).keep (a0 := a0) KC32 all0).keep (a0 := a0) KC33 all0).keep (a0 := a0) KC34 all0).ext E35).keep (a0 := a0) KC36 (allS ⟨"com/example/callsite/callsite/model/MethodId", _, by decide, A35, (own_h hw 72 rfl)⟩ all0)).ext E37).keep (a0 := a0) KC38 (allS ⟨"com/example/callsite/callsite/model/MethodId", _, by decide, A37, (own_h hw 72 rfl)⟩ all0)) ((((((TX32.keep (a0 := a0) KC33 all0).keep (a0 := a0) KC34 all0).ext E35).keep (a0 := a0) KC36 (allS ⟨"com/example/callsite/callsite/model/MethodId", _, by decide, A35, (own_h hw 72 rfl)⟩ all0)).ext E37).keep (a0 := a0) KC38 (allS ⟨"com/example/callsite/callsite/model/MethodId", _, by decide, A37, (own_h hw 72 rfl)⟩ all0)) (own_sta_keep ((own_sta_keep ((own_sta_keep (own_sta_keep (own_sta_keep (own_sta_keep (own_sta_keep (own_sta_keep S_COMPACT_STRINGS KC29 ns0) KC30 ns0) KC31 ns0) KC32 ns0) KC33 ns0) KC34 ns0).ext E35) KC36 (nsS (Exa.nostat A35) ns0)).ext E37) KC38 (nsS (Exa.nostat A37) ns0)) hz 0 (Or.inr ⟨rfl, hc45⟩) 193 156 158 157 8 rfl rfl rfl rfl rfl rfl rfl (by rw [hml]; rfl) [] rfl (W := 0) own_le (hb hby at_277) (by decide) (by decide) (by decide) (by decide)
          replace k : ow T59 (mkF m 307 (ow_L p1 p2 p3 p4 p5 p6 (ow_i f1) (ow_i f2) (ow_i f3) (ow_i u1) (ow_i u2) (ow_i u3) (ow_i u4) (ow_i u5) (ow_i u6) (ow_r a29) (ow_r a30) (ow_r a31) (ow_r a32) (ow_r a33) (ow_r a34) (ow_r b35) (ow_r b37) (ow_i kd)) []) := fun t q => k t (XS.ifYes X59.here hx rfl (pc0 := 280) (pc' := 307) rfl (hb hby at_280) rfl ((if0 _ _).trans (teq (show (0 : Int32) = (0 : Int32) from (by decide))).1) (by decide) (by decide) q)
          replace k : ow T59 (mkF m 312 (ow_L p1 p2 p3 p4 p5 p6 (ow_i f1) (ow_i f2) (ow_i f3) (ow_i u1) (ow_i u2) (ow_i u3) (ow_i u4) (ow_i u5) (ow_i u6) (ow_r a29) (ow_r a30) (ow_r a31) (ow_r a32) (ow_r a33) (ow_r a34) (ow_r b35) (ow_r b37) (ow_i kd) (ow_i 0)) [(.ref b35)]) := fun t q => k t (XS.iconst X59.here hx rfl (hb hby at_307) (XS.istore X59.here hx rfl (hb hby at_308) rfl (l' := (ow_L p1 p2 p3 p4 p5 p6 (ow_i f1) (ow_i f2) (ow_i f3) (ow_i u1) (ow_i u2) (ow_i u3) (ow_i u4) (ow_i u5) (ow_i u6) (ow_r a29) (ow_r a30) (ow_r a31) (ow_r a32) (ow_r a33) (ow_r a34) (ow_r b35) (ow_r b37) (ow_i kd) (ow_i 0))) rfl (XS.aload X59.here hx rfl (hb hby at_310) rfl rfl q)))
          replace k : ow T59 (mkF m 314 (ow_L p1 p2 p3 p4 p5 p6 (ow_i f1) (ow_i f2) (ow_i f3) (ow_i u1) (ow_i u2) (ow_i u3) (ow_i u4) (ow_i u5) (ow_i u6) (ow_r a29) (ow_r a30) (ow_r a31) (ow_r a32) (ow_r a33) (ow_r a34) (ow_r b35) (ow_r b37) (ow_i kd) (ow_i 0)) [(.ref b37), (.ref b35)]) := fun t q => k t (XS.aload X59.here hx rfl (hb hby at_312) rfl rfl q)
          obtain ⟨_, T60, L60, X60, hQ60, k⟩ := own_cV X59 hx hw hZ hown e59 k (own_m43_r l Z a0 hw [] b35 b37 a29 a32 (own_tC p1 p6) (own_tC u1 u2) w_COMPACT_STRINGS a30 a33 (own_tN p2 u3) (own_tN u4 u5) a31 a34 (own_tD p3 u3) (own_tD u6 u5) h38 n0 Z38 EC38 ((FC36_0.ext E37).keep KC38 (ninS (Nat.ne_of_lt (Nat.lt_of_lt_of_le EC36.lt (Nat.le_of_eq g37.symm))) nin0)) FC38_0 (((((((((TX29.keep (a0 := a0) KC30 all0).keep (a0 := a0) KC31 all0).keep (a0 := a0) KC32 all0).keep (a0 := a0) KC33 all0).keep (a0 := a0) KC34 all0).ext E35).keep (a0 := a0) KC36 (allS ⟨"com/example/callsite/callsite/model/MethodId", _, by decide, A35, (own_h hw 72 rfl)⟩ all0)).ext E37).keep (a0 := a0) KC38 (allS ⟨"com/example/callsite/callsite/model/MethodId", _, by decide, A37, (own_h hw 72 rfl)⟩ all0)) ((((((TX32.keep (a0 := a0) KC33 all0).keep (a0 := a0) KC34 all0).ext E35).keep (a0 := a0) KC36 (allS ⟨"com/example/callsite/callsite/model/MethodId", _, by decide, A35, (own_h hw 72 rfl)⟩ all0)).ext E37).keep (a0 := a0) KC38 (allS ⟨"com/example/callsite/callsite/model/MethodId", _, by decide, A37, (own_h hw 72 rfl)⟩ all0)) (own_sta_keep ((own_sta_keep ((own_sta_keep (own_sta_keep (own_sta_keep (own_sta_keep (own_sta_keep (own_sta_keep S_COMPACT_STRINGS KC29 ns0) KC30 ns0) KC31 ns0) KC32 ns0) KC33 ns0) KC34 ns0).ext E35) KC36 (nsS (Exa.nostat A35) ns0)).ext E37) KC38 (nsS (Exa.nostat A37) ns0)) ((FC36_1.ext E37).keep KC38 (ninS (Nat.ne_of_lt (Nat.lt_of_lt_of_le EC36.lt (Nat.le_of_eq g37.symm))) nin0)) FC38_1 ((((((((TX30.keep (a0 := a0) KC31 all0).keep (a0 := a0) KC32 all0).keep (a0 := a0) KC33 all0).keep (a0 := a0) KC34 all0).ext E35).keep (a0 := a0) KC36 (allS ⟨"com/example/callsite/callsite/model/MethodId", _, by decide, A35, (own_h hw 72 rfl)⟩ all0)).ext E37).keep (a0 := a0) KC38 (allS ⟨"com/example/callsite/callsite/model/MethodId", _, by decide, A37, (own_h hw 72 rfl)⟩ all0)) (((((TX33.keep (a0 := a0) KC34 all0).ext E35).keep (a0 := a0) KC36 (allS ⟨"com/example/callsite/callsite/model/MethodId", _, by decide, A35, (own_h hw 72 rfl)⟩ all0)).ext E37).keep (a0 := a0) KC38 (allS ⟨"com/example/callsite/callsite/model/MethodId", _, by decide, A37, (own_h hw 72 rfl)⟩ all0)) ((FC36_2.ext E37).keep KC38 (ninS (Nat.ne_of_lt (Nat.lt_of_lt_of_le EC36.lt (Nat.le_of_eq g37.symm))) nin0)) FC38_2 (((((((TX31.keep (a0 := a0) KC32 all0).keep (a0 := a0) KC33 all0).keep (a0 := a0) KC34 all0).ext E35).keep (a0 := a0) KC36 (allS ⟨"com/example/callsite/callsite/model/MethodId", _, by decide, A35, (own_h hw 72 rfl)⟩ all0)).ext E37).keep (a0 := a0) KC38 (allS ⟨"com/example/callsite/callsite/model/MethodId", _, by decide, A37, (own_h hw 72 rfl)⟩ all0)) ((((TX34.ext E35).keep (a0 := a0) KC36 (allS ⟨"com/example/callsite/callsite/model/MethodId", _, by decide, A35, (own_h hw 72 rfl)⟩ all0)).ext E37).keep (a0 := a0) KC38 (allS ⟨"com/example/callsite/callsite/model/MethodId", _, by decide, A37, (own_h hw 72 rfl)⟩ all0)) hz) 194 195 197 196 198 73 rfl rfl rfl rfl rfl rfl ((EC36.ext E37).keep KC38) (by decide) rfl (by rw [hml]; rfl) [(.ref b37)] [] (lenOf own_pd20 rfl) rfl rfl (W := 0) own_le (hb hby at_314) (by decide) (by decide) (by decide) (by decide)
          rw [show own_f43_r (own_tC p1 p6) (own_tC u1 u2) (own_tN p2 u3) (own_tN u4 u5) (own_tD p3 u3) (own_tD u6 u5) = (0 : Int32) from by unfold own_f43_r; rw [if_neg (show ¬ ((own_tC p1 p6) = (own_tC u1 u2)) from hc45)]] at hQ60
          obtain ⟨rfl, N60q, e60⟩ := hQ60
          have N60 := Fr.app N38 N60q
          replace k : ow T60 (mkF m 322 (ow_L p1 p2 p3 p4 p5 p6 (ow_i f1) (ow_i f2) (ow_i f3) (ow_i u1) (ow_i u2) (ow_i u3) (ow_i u4) (ow_i u5) (ow_i u6) (ow_r a29) (ow_r a30) (ow_r a31) (ow_r a32) (ow_r a33) (ow_r a34) (ow_r b35) (ow_r b37) (ow_i kd) (ow_i 0)) []) := fun t q => k t (XS.iload X60.here hx rfl (hb hby at_317) rfl (XS.icmpNo X60.here hx rfl (hb hby at_319) rfl (teq (show (0 : Int32) = (0 : Int32) from (by decide))).2 q))
          replace k : ow T60 (mkF m 326 (ow_L p1 p2 p3 p4 p5 p6 (ow_i f1) (ow_i f2) (ow_i f3) (ow_i u1) (ow_i u2) (ow_i u3) (ow_i u4) (ow_i u5) (ow_i u6) (ow_r a29) (ow_r a30) (ow_r a31) (ow_r a32) (ow_r a33) (ow_r a34) (ow_r b35) (ow_r b37) (ow_i kd) (ow_i 0)) [(.ref b35), (.ref b37)]) := fun t q => k t (XS.aload X60.here hx rfl (hb hby at_322) rfl rfl (XS.aload X60.here hx rfl (hb hby at_324) rfl rfl q))
          obtain ⟨_, T61, L61, X61, hQ61, k⟩ := own_cV X60 hx hw hZ hown e60 k (own_m43_r l Z a0 hw [] b37 b35 a32 a29 (own_tC u1 u2) (own_tC p1 p6) w_COMPACT_STRINGS a33 a30 (own_tN u4 u5) (own_tN p2 u3) a34 a31 (own_tD u6 u5) (own_tD p3 u3) h38 n0 Z38 ((EC36.ext E37).keep KC38) FC38_0 ((FC36_0.ext E37).keep KC38 (ninS (Nat.ne_of_lt (Nat.lt_of_lt_of_le EC36.lt (Nat.le_of_eq g37.symm))) nin0)) ((((((TX32.keep (a0 := a0) KC33 all0).keep (a0 := a0) KC34 all0).ext E35).keep (a0 := a0) KC36 (allS ⟨"com/example/callsite/callsite/model/MethodId", _, by decide, A35, (own_h hw 72 rfl)⟩ all0)).ext E37).keep (a0 := a0) KC38 (allS ⟨"com/example/callsite/callsite/model/MethodId", _, by decide, A37, (own_h hw 72 rfl)⟩ all0)) (((((((((TX29.keep (a0 := a0) KC30 all0).keep (a0 := a0) KC31 all0).keep (a0 := a0) KC32 all0).keep (a0 := a0) KC33 all0).keep (a0 := a0) KC34 all0).ext E35).keep (a0 := a0) KC36 (allS ⟨"com/example/callsite/callsite/model/MethodId", _, by decide, A35, (own_h hw 72 rfl)⟩ all0)).ext E37).keep (a0 := a0) KC38 (allS ⟨"com/example/callsite/callsite/model/MethodId", _, by decide, A37, (own_h hw 72 rfl)⟩ all0)) (own_sta_keep ((own_sta_keep ((own_sta_keep (own_sta_keep (own_sta_keep (own_sta_keep (own_sta_keep (own_sta_keep S_COMPACT_STRINGS KC29 ns0) KC30 ns0) KC31 ns0) KC32 ns0) KC33 ns0) KC34 ns0).ext E35) KC36 (nsS (Exa.nostat A35) ns0)).ext E37) KC38 (nsS (Exa.nostat A37) ns0)) FC38_1 ((FC36_1.ext E37).keep KC38 (ninS (Nat.ne_of_lt (Nat.lt_of_lt_of_le EC36.lt (Nat.le_of_eq g37.symm))) nin0)) (((((TX33.keep (a0 := a0) KC34 all0).ext E35).keep (a0 := a0) KC36 (allS ⟨"com/example/callsite/callsite/model/MethodId", _, by decide, A35, (own_h hw 72 rfl)⟩ all0)).ext E37).keep (a0 := a0) KC38 (allS ⟨"com/example/callsite/callsite/model/MethodId", _, by decide, A37, (own_h hw 72 rfl)⟩ all0)) ((((((((TX30.keep (a0 := a0) KC31 all0).keep (a0 := a0) KC32 all0).keep (a0 := a0) KC33 all0).keep (a0 := a0) KC34 all0).ext E35).keep (a0 := a0) KC36 (allS ⟨"com/example/callsite/callsite/model/MethodId", _, by decide, A35, (own_h hw 72 rfl)⟩ all0)).ext E37).keep (a0 := a0) KC38 (allS ⟨"com/example/callsite/callsite/model/MethodId", _, by decide, A37, (own_h hw 72 rfl)⟩ all0)) FC38_2 ((FC36_2.ext E37).keep KC38 (ninS (Nat.ne_of_lt (Nat.lt_of_lt_of_le EC36.lt (Nat.le_of_eq g37.symm))) nin0)) ((((TX34.ext E35).keep (a0 := a0) KC36 (allS ⟨"com/example/callsite/callsite/model/MethodId", _, by decide, A35, (own_h hw 72 rfl)⟩ all0)).ext E37).keep (a0 := a0) KC38 (allS ⟨"com/example/callsite/callsite/model/MethodId", _, by decide, A37, (own_h hw 72 rfl)⟩ all0)) (((((((TX31.keep (a0 := a0) KC32 all0).keep (a0 := a0) KC33 all0).keep (a0 := a0) KC34 all0).ext E35).keep (a0 := a0) KC36 (allS ⟨"com/example/callsite/callsite/model/MethodId", _, by decide, A35, (own_h hw 72 rfl)⟩ all0)).ext E37).keep (a0 := a0) KC38 (allS ⟨"com/example/callsite/callsite/model/MethodId", _, by decide, A37, (own_h hw 72 rfl)⟩ all0)) hz) 194 195 197 196 198 73 rfl rfl rfl rfl rfl rfl EC38 (by decide) rfl (by rw [hml]; rfl) [(.ref b35)] [] (lenOf own_pd20 rfl) rfl rfl (W := 0) own_le (hb hby at_326) (by decide) (by decide) (by decide) (by decide)
          rw [show own_f43_r (own_tC u1 u2) (own_tC p1 p6) (own_tN u4 u5) (own_tN p2 u3) (own_tD u6 u5) (own_tD p3 u3) = (0 : Int32) from by unfold own_f43_r; rw [if_neg (show ¬ ((own_tC u1 u2) = (own_tC p1 p6)) from (fun q => hc45 (Eq.symm q)))]] at hQ61
          obtain ⟨rfl, N61q, e61⟩ := hQ61
          have N61 := Fr.app N60 N61q
          replace k : ow T61 (mkF m 334 (ow_L p1 p2 p3 p4 p5 p6 (ow_i f1) (ow_i f2) (ow_i f3) (ow_i u1) (ow_i u2) (ow_i u3) (ow_i u4) (ow_i u5) (ow_i u6) (ow_r a29) (ow_r a30) (ow_r a31) (ow_r a32) (ow_r a33) (ow_r a34) (ow_r b35) (ow_r b37) (ow_i kd) (ow_i 0)) []) := fun t q => k t (XS.iload X61.here hx rfl (hb hby at_329) rfl (XS.icmpNo X61.here hx rfl (hb hby at_331) rfl (teq (show (0 : Int32) = (0 : Int32) from (by decide))).2 q))
          replace k : ow T61 (mkF m 339 (ow_L p1 p2 p3 p4 p5 p6 (ow_i f1) (ow_i f2) (ow_i f3) (ow_i u1) (ow_i u2) (ow_i u3) (ow_i u4) (ow_i u5) (ow_i u6) (ow_r a29) (ow_r a30) (ow_r a31) (ow_r a32) (ow_r a33) (ow_r a34) (ow_r b35) (ow_r b37) (ow_i kd) (ow_i 0)) [(.int 1)]) := fun t q => k t (XS.iconst X61.here hx rfl (hb hby at_334) (XS.goto X61.here hx rfl (pc0 := 335) (pc' := 339) rfl (hb hby at_335) (by decide) (by decide) q))
          obtain ⟨fs, hr, hrun, hended, hEnd⟩ := X61.leaveW hS38 (by rw [e61]; exact hk38) (v := some (.int 1)) (fun h => by rw [Bd.returns] at h; cases h)
          have hChr := CR38.trans (CHv.at X61 hZ (own_EW hw) CH38)
          refine ⟨_, _, k _ ?_, hrun, hended, _, _, rfl, ?_, ?_, own_monoW hEnd (by decide) (by decide)⟩
          · exact retN X61 hx (t := .boolean) Bd.returns (by simp) (hb hby at_339) hr
          · show own_Q0 n0 _ _
            exact ⟨rfl, N61⟩
          · rw [hh]; show CHr Z consts_1 s.vm h0 T61.vm T61.heap; rw [e61]; exact hChr
set_option maxRecDepth 65536 in
set_option maxHeartbeats 40000000 in
theorem comes_1 {Post : Tables → Env → Array Value → State → Outcome → State → Prop} (hpost : ∀ tb e args s v u, (limb_1_1.after args s (.returned v) u = true ∧ limb_1_2.after args s (.returned v) u = true ∧ True) → ReturnedEndW s (.returned v) u (Jvm.fieldLocs frame_1_writes args s ++ Jvm.arrayLocs frame_1_arrays args s ++ Jvm.staticLocs frame_1_statics s) 72 10560 → Post tb e args s (.returned v) u) :
    ArmFor flags0 classFile x code maxLocals ret World_1 tables_1 room_1 Calls_1 rest_1 Pre_1 Post := by
  intro l hfl _ _ p e ha hc hk s m args below hf hA hF happ hP
  obtain ⟨hcalls, hrest, hpre⟩ := hP
  obtain ⟨-, -, -, hnamed, -, -, -, hat⟩ := (Spec.applies_iff hf).mp happ
  obtain ⟨hg, hn⟩ := and_e (Cond.before_iff.mp (show (Jvm.Cond.and given_1 narrow_1).before args s = true from hpre))
  obtain ⟨hg1, hg2⟩ := and_e hg
  obtain ⟨hg3, hg4⟩ := and_e hg2
  obtain ⟨hg5, hg6⟩ := and_e hg4
  obtain ⟨hg7, hg8⟩ := and_e hg6
  obtain ⟨hg9, hg10⟩ := and_e hg8
  obtain ⟨hg11, hg12⟩ := and_e hg10
  obtain ⟨w0, w1, w2, w3, w4, w5, rfl⟩ : ∃ w0 w1 w2 w3 w4 w5 : Value, args = #[w0, w1, w2, w3, w4, w5] := by
    have hs : args.size = 6 := by simpa [Cond.value, given_1] using hg1
    obtain ⟨L⟩ := args
    match L, hs with
    | [w0, w1, w2, w3, w4, w5], _ => exact ⟨w0, w1, w2, w3, w4, w5, rfl⟩
  have hw := fun d (hd : d ∈ tables_1) => atoms_spec (ws := Jvm.Cond.code x code maxLocals ret :: tables_1) hat d (List.mem_cons_of_mem _ hd)
  have hfit : Fit s := fun {y c} hc i hi => by
    obtain ⟨ha, rfl⟩ := Array.getElem?_eq_some_iff.mp hc
    have q := List.all_eq_true.mp ((Array.all_eq_true_iff_forall_mem.mp hF) _ (Array.getElem_mem ha)) i (List.mem_range.mpr hi)
    simpa [Array.getElem?_eq_getElem hi] using q
  obtain ⟨i0, ei0⟩ := is_v hg3
  obtain rfl : w0 = (.int i0) := Option.some.inj ei0
  obtain ⟨i1, ei1⟩ := is_v hg5
  obtain rfl : w1 = (.int i1) := Option.some.inj ei1
  obtain ⟨i2, ei2⟩ := is_v hg7
  obtain rfl : w2 = (.int i2) := Option.some.inj ei2
  obtain ⟨i3, ei3⟩ := is_v hg9
  obtain rfl : w3 = (.int i3) := Option.some.inj ei3
  obtain ⟨i4, ei4⟩ := is_v hg11
  obtain rfl : w4 = (.int i4) := Option.some.inj ei4
  obtain ⟨i5, ei5⟩ := is_v hg12
  obtain rfl : w5 = (.int i5) := Option.some.inj ei5
  obtain ⟨hsets, hown0⟩ := atoms_of _ (rest_1_c_eq ▸ (show rest_1_c.before _ s = true from hrest))
  have n5 := not_v (Cond.before_iff.mp (hsets _ (List.mem_of_getElem? (i := 2) rfl)))
  obtain ⟨x_COMPACT_STRINGS, e10⟩ := is_v (Cond.before_iff.mp (hsets _ (List.mem_of_getElem? (i := 1) rfl)))
  have S_COMPACT_STRINGS := Sta.start e10 (Or.inl (hsets _ (List.mem_of_getElem? (i := 0) rfl)))
  obtain ⟨x_SIOOBE_FORMATTER, e14, hrS⟩ := isR_v (Cond.before_iff.mp (hsets _ (List.mem_of_getElem? (i := 8) rfl)))
  have S_SIOOBE_FORMATTER := Sta.start e14 (Or.inl (hsets _ (List.mem_of_getElem? (i := 7) rfl)))
  have hz : ¬ (x_COMPACT_STRINGS = (0 : Int32)) := gotF (Cond.eq_ints e10 (Term.int_eval (0))) n5
  have hCH : CHv s consts_1 s.vm s.heap := CHv.start (own_EW hw) hcalls.1 (hsets _ (List.mem_of_getElem? (i := 2) rfl)) (own_h hw 26 rfl) (own_h hw 8 rfl)
  obtain ⟨n, o, h1, h2, h3, _, L, rfl, ⟨rfl, N⟩, -, hq⟩ := own_m0 l s _ hw tables_1 i0 i1 i2 i3 i4 i5 x_COMPACT_STRINGS x_SIOOBE_FORMATTER s.heap s.heap.size (Nat.le_refl _) S_COMPACT_STRINGS S_SIOOBE_FORMATTER hz hrS p e ha hc hk s m _ below hf ((Spec.applies_iff_loose hf).mp happ).1 ⟨rfl, State.Warmed39.refl s, rfl, hCH⟩ trivial
  refine ⟨n, _, h1, h2, h3, hpost _ _ _ _ _ _ ⟨Cond.after_iff.mpr rfl, Cond.after_iff.mpr (eq_i res_at (Term.int_eval (1)) rfl), trivial⟩ ⟨hq.1, hq.2.1, hq.2.2.1, (hq.2.2.2.sift fun y hy => Or.inr (N y hy)).mono (by decide) (by decide)⟩⟩
theorem main_1_1 : Claimed_1_1 := comes_1 fun _ _ _ _ _ _ h hF => ⟨h.1, hF⟩
theorem main_1_2 : Claimed_1_2 := comes_1 fun _ _ _ _ _ _ h hF => ⟨h.2.1, hF⟩
end Jvm.Pilot.@@N@@
namespace Jvm.Pilot.@@N@@
open Jvm Jvm.ClassFile Sem Op Lib Jvm.Free Jvm.Stand Jvm.Pilot.@@N@@.Jvm.D
/-! MADE BY PROGRAM (witnessworld.py) out of the Statement's table words and the real class files: 24 classes; the members and pool entries that the words name. The judged class is class 1, her method 7. -/
namespace start1
open Jvm.ClassFile
def u (s : String) : CpInfo := .utf8 (stringToUtf16 s)
/-- a pool by its gaps: so many unusable entries, then the entry; so many at the end -/
def gap : Nat → List CpInfo → List CpInfo
  | 0, r => r
  | n + 1, r => .unusable :: gap n r
def poolList (es : List (Nat × CpInfo)) (last : Nat) : List CpInfo := es.foldr (fun e r => gap e.1 (e.2 :: r)) (gap last [])
def pool (es : List (Nat × CpInfo)) (last : Nat) : Array CpInfo := ⟨poolList es last⟩
def fileOf (pool : Array CpInfo) (this : Nat) (attrs : Array Attribute := #[]) (ms : Array MethodInfo := #[]) (fl : Nat := 33) (sup : Nat := 0) (ifs : Array Nat := #[]) (fds : Array FieldInfo := #[]) : ClassFile where
  minorVersion := 0
  majorVersion := 65
  constantPool := pool
  accessFlags := fl
  thisClass := this
  superClass := sup
  interfaces := ifs
  fields := fds
  methods := ms
  attributes := attrs
def plain (name : String) (sup : Option ClassId) : Class where
  name := name
  kind := .ordinary
  loader := none
  accessFlags := 33
  super := sup
  interfaces := #[]
  cf := none
  fields := #[]
  methods := #[]
  instanceTypes := #[]
  staticTypes := #[]
  resolved := #[]
  callSites := []
  init := .initialized
  statics := none
  mirror := none

def pool0 : Array CpInfo := pool [(5, u "<init>"), (0, u "()V"), (1, .class_ 10), (1, u "java/lang/Object")] 113

def k0c0 : Code := { maxStack := 0, maxLocals := 1, code := object_method_1_code, exceptionTable := #[], attributes := #[] }
def k0m0 : Method := { name := "<init>", desc := "()V", sig := { parameters := [], returnType := none }, accessFlags := 1, code := some k0c0 }
/-- java/lang/Object -/
def k0 : Class := { plain "java/lang/Object" none with
  accessFlags := 33
  interfaces := #[]
  cf := some (fileOf pool0 8 #[] #[{ accessFlags := 1, nameIndex := 5, descriptorIndex := 6, attributes := #[] }] 33 0 #[] #[])
  fields := #[]
  methods := #[k0m0]
  instanceTypes := #[]
  staticTypes := #[]
  resolved := Array.replicate 124 none
  statics := none }

def pool1 : Array CpInfo := pool [(2, .class_ 4), (1, u "java/lang/Object"), (0, u "<init>"), (0, u "()V"), (0, .methodref 8 9), (0, .class_ 10), (0, .nameAndType 11 12), (0, u "com/example/callsite/callsite/model/MethodIdEqualsPinLaw"), (0, u "classChar"), (0, u "(I)C"), (0, .class_ 14), (0, u "java/lang/String"), (0, .methodref 13 16), (0, .nameAndType 5 17), (0, u "([C)V"), (0, .methodref 8 19), (0, .nameAndType 20 12), (0, u "methodChar"), (0, .string 22), (0, u "BCDFIJSZ"), (0, .methodref 13 24), (0, .nameAndType 25 12), (0, u "charAt"), (0, .methodref 8 27), (0, .nameAndType 28 12), (0, u "baseType"), (0, .methodref 8 30), (0, .nameAndType 31 32), (0, u "className"), (0, u "(II)Ljava/lang/String;"), (0, .methodref 8 34), (0, .nameAndType 35 32), (0, u "methodName"), (0, .methodref 8 37), (0, .nameAndType 38 32), (0, u "descriptor"), (0, .class_ 40), (0, u "com/example/callsite/callsite/model/MethodId"), (0, .methodref 39 42), (0, .nameAndType 5 43), (0, u "(Ljava/lang/String;Ljava/lang/String;Ljava/lang/String;)V"), (0, .methodref 39 45), (0, .nameAndType 46 47), (0, u "equals"), (0, u "(Ljava/lang/Object;)Z"), (0, .methodref 13 45), (3, u "law"), (0, u "(IIIIII)Z")] 2

def k1m0 : Method := { name := "<init>", desc := "()V", sig := { parameters := [], returnType := none }, accessFlags := 1, code := none }
def k1c1 : Code := { maxStack := 2, maxLocals := 2, code := method_2_code, exceptionTable := #[], attributes := #[] }
def k1m1 : Method := { name := "classChar", desc := "(I)C", sig := { parameters := [.int], returnType := some .char }, accessFlags := 10, code := some k1c1 }
def k1c2 : Code := { maxStack := 2, maxLocals := 2, code := method_3_code, exceptionTable := #[], attributes := #[] }
def k1m2 : Method := { name := "methodChar", desc := "(I)C", sig := { parameters := [.int], returnType := some .char }, accessFlags := 10, code := some k1c2 }
def k1c3 : Code := { maxStack := 6, maxLocals := 4, code := method_4_code, exceptionTable := #[], attributes := #[] }
def k1m3 : Method := { name := "className", desc := "(II)Ljava/lang/String;", sig := { parameters := [.int, .int], returnType := some (.object "java/lang/String") }, accessFlags := 10, code := some k1c3 }
def k1c4 : Code := { maxStack := 7, maxLocals := 3, code := method_5_code, exceptionTable := #[], attributes := #[] }
def k1m4 : Method := { name := "methodName", desc := "(II)Ljava/lang/String;", sig := { parameters := [.int, .int], returnType := some (.object "java/lang/String") }, accessFlags := 10, code := some k1c4 }
def k1c5 : Code := { maxStack := 3, maxLocals := 1, code := method_6_code, exceptionTable := #[], attributes := #[] }
def k1m5 : Method := { name := "baseType", desc := "(I)C", sig := { parameters := [.int], returnType := some .char }, accessFlags := 10, code := some k1c5 }
def k1c6 : Code := { maxStack := 6, maxLocals := 4, code := method_7_code, exceptionTable := #[], attributes := #[] }
def k1m6 : Method := { name := "descriptor", desc := "(II)Ljava/lang/String;", sig := { parameters := [.int, .int], returnType := some (.object "java/lang/String") }, accessFlags := 10, code := some k1c6 }
def k1c7 : Code := { maxStack := 5, maxLocals := 25, code := code, exceptionTable := #[], attributes := #[] }
def k1m7 : Method := { name := "law", desc := "(IIIIII)Z", sig := { parameters := [.int, .int, .int, .int, .int, .int], returnType := some .boolean }, accessFlags := 9, code := some k1c7 }
/-- com/example/callsite/callsite/model/MethodIdEqualsPinLaw -/
def k1 : Class := { plain "com/example/callsite/callsite/model/MethodIdEqualsPinLaw" (some 0) with
  accessFlags := 49
  interfaces := #[]
  cf := some (fileOf pool1 8 #[] #[{ accessFlags := 1, nameIndex := 5, descriptorIndex := 6, attributes := #[] }, { accessFlags := 10, nameIndex := 11, descriptorIndex := 12, attributes := #[] }, { accessFlags := 10, nameIndex := 20, descriptorIndex := 12, attributes := #[] }, { accessFlags := 10, nameIndex := 31, descriptorIndex := 32, attributes := #[] }, { accessFlags := 10, nameIndex := 35, descriptorIndex := 32, attributes := #[] }, { accessFlags := 10, nameIndex := 28, descriptorIndex := 12, attributes := #[] }, { accessFlags := 10, nameIndex := 38, descriptorIndex := 32, attributes := #[] }, { accessFlags := 9, nameIndex := 52, descriptorIndex := 53, attributes := #[] }] 49 2 #[] #[])
  fields := #[]
  methods := #[k1m0, k1m1, k1m2, k1m3, k1m4, k1m5, k1m6, k1m7]
  instanceTypes := #[]
  staticTypes := #[]
  resolved := Array.replicate 56 none
  statics := none }

def pool2 : Array CpInfo := pool [(1, .class_ 2), (0, u "java/io/Serializable"), (0, .class_ 4), (0, u "java/lang/Object")] 2

/-- java/io/Serializable -/
def k2 : Class := { plain "java/io/Serializable" (some 0) with
  accessFlags := 1537
  interfaces := #[]
  cf := some (fileOf pool2 1 #[] #[] 1537 3 #[] #[])
  fields := #[]
  methods := #[]
  instanceTypes := #[]
  staticTypes := #[]
  resolved := Array.replicate 7 none
  statics := none }

def pool3 : Array CpInfo := pool [(1, .class_ 2), (0, u "java/lang/Comparable"), (0, .class_ 4), (0, u "java/lang/Object")] 7

/-- java/lang/Comparable -/
def k3 : Class := { plain "java/lang/Comparable" (some 0) with
  accessFlags := 1537
  interfaces := #[]
  cf := some (fileOf pool3 1 #[] #[] 1537 3 #[] #[])
  fields := #[]
  methods := #[]
  instanceTypes := #[]
  staticTypes := #[]
  resolved := Array.replicate 12 none
  statics := none }

def pool4 : Array CpInfo := pool [(2, .class_ 4), (1, u "java/lang/CharSequence"), (42, .class_ 48), (0, u "java/lang/CharSequence$1CodePointIterator"), (10, .class_ 60), (0, u "java/lang/CharSequence$1CharIterator"), (5, .class_ 67), (0, u "java/lang/Object")] 63

/-- java/lang/CharSequence -/
def k4 : Class := { plain "java/lang/CharSequence" (some 0) with
  accessFlags := 1537
  interfaces := #[]
  cf := some (fileOf pool4 2 #[.nestMembers #[47, 59]] #[] 1537 66 #[] #[])
  fields := #[]
  methods := #[]
  instanceTypes := #[]
  staticTypes := #[]
  resolved := Array.replicate 131 none
  statics := none }

def pool5 : Array CpInfo := pool [(1, .class_ 2), (0, u "java/lang/constant/Constable"), (0, .class_ 4), (0, u "java/lang/Object")] 6

/-- java/lang/constant/Constable -/
def k5 : Class := { plain "java/lang/constant/Constable" (some 0) with
  accessFlags := 1537
  interfaces := #[]
  cf := some (fileOf pool5 1 #[] #[] 1537 3 #[] #[])
  fields := #[]
  methods := #[]
  instanceTypes := #[]
  staticTypes := #[]
  resolved := Array.replicate 11 none
  statics := none }

def pool6 : Array CpInfo := pool [(1, .class_ 2), (0, u "java/lang/constant/ConstantDesc"), (0, .class_ 4), (0, u "java/lang/Object")] 32

/-- java/lang/constant/ConstantDesc -/
def k6 : Class := { plain "java/lang/constant/ConstantDesc" (some 0) with
  accessFlags := 1537
  interfaces := #[]
  cf := some (fileOf pool6 1 #[] #[] 1537 3 #[] #[])
  fields := #[]
  methods := #[]
  instanceTypes := #[]
  staticTypes := #[]
  resolved := Array.replicate 37 none
  statics := none }

def pool7 : Array CpInfo := pool [(1, .methodref 2 3), (0, .class_ 4), (0, .nameAndType 5 6), (0, u "java/lang/Object"), (0, u "<init>"), (0, u "()V"), (2, .fieldref 10 11), (0, .class_ 12), (0, .nameAndType 13 14), (0, u "java/lang/String"), (0, u "value"), (0, u "[B"), (0, .fieldref 10 16), (0, .nameAndType 17 18), (0, u "coder"), (0, u "B"), (2, u "hash"), (0, u "I"), (2, u "hashIsZero"), (0, u "Z"), (0, .methodref 10 28), (0, .nameAndType 5 29), (0, u "([CIILjava/lang/Void;)V"), (8, .fieldref 10 39), (0, .nameAndType 40 26), (0, u "COMPACT_STRINGS"), (1, .class_ 44), (1, u "java/lang/StringUTF16"), (0, u "compress"), (1, .methodref 42 48), (0, .nameAndType 49 50), (0, u "coderFromArrayLen"), (0, u "([BI)B"), (56, .class_ 109), (1, u "java/lang/StringLatin1"), (32, u "()Z"), (34, .methodref 42 178), (0, .nameAndType 45 179), (0, u "([CII)[B"), (154, u "()I"), (0, .methodref 10 336), (0, .nameAndType 17 337), (0, u "()B"), (25, u "([BI)C"), (12, u "([BI[BII)I"), (14, u "(II)V"), (35, u "(I)C"), (64, .methodref 10 493), (0, .nameAndType 494 142), (0, u "isLatin1"), (0, .methodref 107 496), (0, .nameAndType 497 363), (0, u "charAt"), (3, u "checkIndex"), (3, .methodref 10 506), (0, .nameAndType 507 334), (0, u "length"), (33, .methodref 107 542), (0, .nameAndType 543 544), (0, u "equals"), (0, u "([B[B)Z"), (14, .class_ 561), (1, u "jdk/internal/util/ArraysSupport"), (0, u "mismatch"), (10, u "(Ljava/lang/Object;)Z"), (1, .class_ 576), (0, u "java/lang/CharSequence"), (22, u "CASE_INSENSITIVE_ORDER"), (0, u "Ljava/util/Comparator;"), (6, .methodref 559 608), (0, .nameAndType 562 376), (15, .methodref 10 625), (0, .nameAndType 626 627), (0, u "startsWith"), (0, u "(Ljava/lang/String;I)Z"), (5, .methodref 10 634), (0, .nameAndType 635 636), (0, u "indexOf"), (0, u "(II)I"), (0, .methodref 107 638), (0, .nameAndType 635 639), (0, u "([BIII)I"), (125, u "(I)I"), (244, u "([C)V"), (42, .fieldref 1054 1055), (0, .class_ 1056), (0, .nameAndType 1057 1058), (0, u "jdk/internal/util/Preconditions"), (0, u "SIOOBE_FORMATTER"), (0, u "Ljava/util/function/BiFunction;"), (0, .methodref 1054 1060), (0, .nameAndType 501 1061), (0, u "(IILjava/util/function/BiFunction;)I"), (39, u "serialPersistentFields"), (0, u "[Ljava/io/ObjectStreamField;"), (0, .class_ 1104), (0, u "java/lang/String$CaseInsensitiveComparator"), (1, .class_ 1107), (0, u "java/io/Serializable"), (0, .class_ 1109), (0, u "java/lang/Comparable"), (0, .class_ 1111), (0, u "java/lang/constant/Constable"), (0, .class_ 1113), (0, u "java/lang/constant/ConstantDesc"), (2, u "serialVersionUID"), (0, u "J"), (3, u "REPL"), (0, u "C"), (2, u "LATIN1"), (1, u "UTF16"), (129, u "(Ljava/lang/String;)Z"), (14, u "endsWith")] 178

def k7m0 : Method := { name := "<init>", desc := "()V", sig := { parameters := [], returnType := none }, accessFlags := 1, code := none }
def k7c1 : Code := { maxStack := 5, maxLocals := 2, code := jdk_42_method_3_code, exceptionTable := #[], attributes := #[] }
def k7m1 : Method := { name := "<init>", desc := "([C)V", sig := { parameters := [(.array .char)], returnType := none }, accessFlags := 1, code := some k7c1 }
def k7c2 : Code := { maxStack := 2, maxLocals := 1, code := jdk_42_method_54_code, exceptionTable := #[], attributes := #[] }
def k7m2 : Method := { name := "length", desc := "()I", sig := { parameters := [], returnType := some .int }, accessFlags := 1, code := some k7c2 }
def k7c3 : Code := { maxStack := 2, maxLocals := 2, code := jdk_42_method_56_code, exceptionTable := #[], attributes := #[] }
def k7m3 : Method := { name := "charAt", desc := "(I)C", sig := { parameters := [.int], returnType := some .char }, accessFlags := 1, code := some k7c3 }
def k7c4 : Code := { maxStack := 2, maxLocals := 3, code := jdk_42_method_66_code, exceptionTable := #[], attributes := #[] }
def k7m4 : Method := { name := "equals", desc := "(Ljava/lang/Object;)Z", sig := { parameters := [(.object "java/lang/Object")], returnType := some .boolean }, accessFlags := 1, code := some k7c4 }
def k7c5 : Code := { maxStack := 5, maxLocals := 8, code := jdk_42_method_75_code, exceptionTable := #[], attributes := #[] }
def k7m5 : Method := { name := "startsWith", desc := "(Ljava/lang/String;I)Z", sig := { parameters := [(.object "java/lang/String"), .int], returnType := some .boolean }, accessFlags := 1, code := some k7c5 }
def k7c6 : Code := { maxStack := 3, maxLocals := 2, code := jdk_42_method_76_code, exceptionTable := #[], attributes := #[] }
def k7m6 : Method := { name := "startsWith", desc := "(Ljava/lang/String;)Z", sig := { parameters := [(.object "java/lang/String")], returnType := some .boolean }, accessFlags := 1, code := some k7c6 }
def k7c7 : Code := { maxStack := 4, maxLocals := 2, code := jdk_42_method_77_code, exceptionTable := #[], attributes := #[] }
def k7m7 : Method := { name := "endsWith", desc := "(Ljava/lang/String;)Z", sig := { parameters := [(.object "java/lang/String")], returnType := some .boolean }, accessFlags := 1, code := some k7c7 }
def k7c8 : Code := { maxStack := 3, maxLocals := 2, code := jdk_42_method_79_code, exceptionTable := #[], attributes := #[] }
def k7m8 : Method := { name := "indexOf", desc := "(I)I", sig := { parameters := [.int], returnType := some .int }, accessFlags := 1, code := some k7c8 }
def k7c9 : Code := { maxStack := 4, maxLocals := 3, code := jdk_42_method_80_code, exceptionTable := #[], attributes := #[] }
def k7m9 : Method := { name := "indexOf", desc := "(II)I", sig := { parameters := [.int, .int], returnType := some .int }, accessFlags := 1, code := some k7c9 }
def k7c10 : Code := { maxStack := 4, maxLocals := 6, code := jdk_42_method_149_code, exceptionTable := #[], attributes := #[] }
def k7m10 : Method := { name := "<init>", desc := "([CIILjava/lang/Void;)V", sig := { parameters := [(.array .char), .int, .int, (.object "java/lang/Void")], returnType := none }, accessFlags := 2, code := some k7c10 }
def k7c11 : Code := { maxStack := 1, maxLocals := 1, code := jdk_42_method_152_code, exceptionTable := #[], attributes := #[] }
def k7m11 : Method := { name := "coder", desc := "()B", sig := { parameters := [], returnType := some .byte }, accessFlags := 0, code := some k7c11 }
def k7c12 : Code := { maxStack := 1, maxLocals := 1, code := jdk_42_method_154_code, exceptionTable := #[], attributes := #[] }
def k7m12 : Method := { name := "isLatin1", desc := "()Z", sig := { parameters := [], returnType := some .boolean }, accessFlags := 0, code := some k7c12 }
def k7c13 : Code := { maxStack := 3, maxLocals := 2, code := jdk_42_method_155_code, exceptionTable := #[], attributes := #[] }
def k7m13 : Method := { name := "checkIndex", desc := "(II)V", sig := { parameters := [.int, .int], returnType := none }, accessFlags := 8, code := some k7c13 }
/-- java/lang/String -/
def k7 : Class := { plain "java/lang/String" (some 0) with
  accessFlags := 49
  interfaces := #[2, 3, 4, 5, 6]
  cf := some (fileOf pool7 10 #[.nestMembers #[1103]] #[{ accessFlags := 1, nameIndex := 5, descriptorIndex := 6, attributes := #[] }, { accessFlags := 1, nameIndex := 5, descriptorIndex := 1010, attributes := #[] }, { accessFlags := 1, nameIndex := 507, descriptorIndex := 334, attributes := #[] }, { accessFlags := 1, nameIndex := 497, descriptorIndex := 427, attributes := #[] }, { accessFlags := 1, nameIndex := 543, descriptorIndex := 573, attributes := #[] }, { accessFlags := 1, nameIndex := 626, descriptorIndex := 627, attributes := #[] }, { accessFlags := 1, nameIndex := 626, descriptorIndex := 1257, attributes := #[] }, { accessFlags := 1, nameIndex := 1272, descriptorIndex := 1257, attributes := #[] }, { accessFlags := 1, nameIndex := 635, descriptorIndex := 765, attributes := #[] }, { accessFlags := 1, nameIndex := 635, descriptorIndex := 636, attributes := #[] }, { accessFlags := 2, nameIndex := 5, descriptorIndex := 29, attributes := #[] }, { accessFlags := 0, nameIndex := 17, descriptorIndex := 337, attributes := #[] }, { accessFlags := 0, nameIndex := 494, descriptorIndex := 142, attributes := #[] }, { accessFlags := 8, nameIndex := 501, descriptorIndex := 391, attributes := #[] }] 49 2 #[1106, 1108, 575, 1110, 1112] #[{ accessFlags := 18, nameIndex := 13, descriptorIndex := 14, attributes := #[] }, { accessFlags := 18, nameIndex := 17, descriptorIndex := 18, attributes := #[] }, { accessFlags := 2, nameIndex := 21, descriptorIndex := 22, attributes := #[] }, { accessFlags := 2, nameIndex := 25, descriptorIndex := 26, attributes := #[] }, { accessFlags := 26, nameIndex := 1116, descriptorIndex := 1117, attributes := #[] }, { accessFlags := 24, nameIndex := 40, descriptorIndex := 26, attributes := #[] }, { accessFlags := 26, nameIndex := 1101, descriptorIndex := 1102, attributes := #[] }, { accessFlags := 26, nameIndex := 1121, descriptorIndex := 1122, attributes := #[] }, { accessFlags := 25, nameIndex := 599, descriptorIndex := 600, attributes := #[] }, { accessFlags := 24, nameIndex := 1125, descriptorIndex := 18, attributes := #[] }, { accessFlags := 24, nameIndex := 1127, descriptorIndex := 18, attributes := #[] }])
  fields := #[{ name := "value", type := (.array .byte), accessFlags := 18, slot := 0, constantValue := 0 }, { name := "coder", type := .byte, accessFlags := 18, slot := 1, constantValue := 0 }, { name := "hash", type := .int, accessFlags := 2, slot := 2, constantValue := 0 }, { name := "hashIsZero", type := .boolean, accessFlags := 2, slot := 3, constantValue := 0 }, { name := "serialVersionUID", type := .long, accessFlags := 26, slot := 0, constantValue := 0 }, { name := "COMPACT_STRINGS", type := .boolean, accessFlags := 24, slot := 1, constantValue := 0 }, { name := "serialPersistentFields", type := (.array (.object "java/io/ObjectStreamField")), accessFlags := 26, slot := 2, constantValue := 0 }, { name := "REPL", type := .char, accessFlags := 26, slot := 3, constantValue := 0 }, { name := "CASE_INSENSITIVE_ORDER", type := (.object "java/util/Comparator"), accessFlags := 25, slot := 4, constantValue := 0 }, { name := "LATIN1", type := .byte, accessFlags := 24, slot := 5, constantValue := 0 }, { name := "UTF16", type := .byte, accessFlags := 24, slot := 6, constantValue := 0 }]
  methods := #[k7m0, k7m1, k7m2, k7m3, k7m4, k7m5, k7m6, k7m7, k7m8, k7m9, k7m10, k7m11, k7m12, k7m13]
  instanceTypes := #[(.array .byte), .byte, .int, .boolean]
  staticTypes := #[.long, .boolean, (.array (.object "java/io/ObjectStreamField")), .char, (.object "java/util/Comparator"), .byte, .byte]
  resolved := Array.replicate 1451 none
  statics := some 0 }

def pool8 : Array CpInfo := pool [(6, .class_ 8), (1, u "java/lang/Object"), (0, u "<init>"), (0, u "()V"), (1, .class_ 14), (1, u "java/lang/StringUTF16"), (31, u "$assertionsDisabled"), (0, u "Z"), (13, u "HI_BYTE_SHIFT"), (0, u "I"), (2, u "LO_BYTE_SHIFT"), (49, .methodref 12 116), (0, .nameAndType 117 118), (0, u "compress"), (0, u "([CI[BII)I"), (3, u "([CII)[B"), (138, u "coderFromArrayLen"), (0, u "([BI)B"), (106, .class_ 371), (1, u "java/lang/StringUTF16$LinesSpliterator"), (58, u "MAX_LENGTH"), (196, .class_ 628), (0, u "java/lang/StringUTF16$CodePointsSpliterator"), (0, .class_ 630), (0, u "java/lang/StringUTF16$CharsSpliterator")] 4

def k8m0 : Method := { name := "<init>", desc := "()V", sig := { parameters := [], returnType := none }, accessFlags := 0, code := none }
def k8c1 : Code := { maxStack := 2, maxLocals := 2, code := jdk_52_method_15_code, exceptionTable := #[], attributes := #[] }
def k8m1 : Method := { name := "coderFromArrayLen", desc := "([BI)B", sig := { parameters := [(.array .byte), .int], returnType := some .byte }, accessFlags := 8, code := some k8c1 }
def k8c2 : Code := { maxStack := 5, maxLocals := 6, code := jdk_52_method_16_code, exceptionTable := #[], attributes := #[] }
def k8m2 : Method := { name := "compress", desc := "([CII)[B", sig := { parameters := [(.array .char), .int, .int], returnType := some (.array .byte) }, accessFlags := 9, code := some k8c2 }
def k8c3 : Code := { maxStack := 3, maxLocals := 7, code := jdk_52_method_21_code, exceptionTable := #[], attributes := #[] }
def k8m3 : Method := { name := "compress", desc := "([CI[BII)I", sig := { parameters := [(.array .char), .int, (.array .byte), .int, .int], returnType := some .int }, accessFlags := 9, code := some k8c3 }
/-- java/lang/StringUTF16 -/
def k8 : Class := { plain "java/lang/StringUTF16" (some 0) with
  accessFlags := 48
  interfaces := #[]
  cf := some (fileOf pool8 12 #[.nestMembers #[627, 629, 369]] #[{ accessFlags := 0, nameIndex := 9, descriptorIndex := 10, attributes := #[] }, { accessFlags := 8, nameIndex := 261, descriptorIndex := 262, attributes := #[] }, { accessFlags := 9, nameIndex := 117, descriptorIndex := 122, attributes := #[] }, { accessFlags := 9, nameIndex := 117, descriptorIndex := 118, attributes := #[] }] 48 6 #[] #[{ accessFlags := 26, nameIndex := 61, descriptorIndex := 62, attributes := #[] }, { accessFlags := 26, nameIndex := 65, descriptorIndex := 62, attributes := #[] }, { accessFlags := 24, nameIndex := 430, descriptorIndex := 62, attributes := #[] }, { accessFlags := 4120, nameIndex := 46, descriptorIndex := 47, attributes := #[] }])
  fields := #[{ name := "HI_BYTE_SHIFT", type := .int, accessFlags := 26, slot := 0, constantValue := 0 }, { name := "LO_BYTE_SHIFT", type := .int, accessFlags := 26, slot := 1, constantValue := 0 }, { name := "MAX_LENGTH", type := .int, accessFlags := 24, slot := 2, constantValue := 0 }, { name := "$assertionsDisabled", type := .boolean, accessFlags := 4120, slot := 3, constantValue := 0 }]
  methods := #[k8m0, k8m1, k8m2, k8m3]
  instanceTypes := #[]
  staticTypes := #[.int, .int, .int, .boolean]
  resolved := Array.replicate 635 none
  statics := none }

def pool9 : Array CpInfo := pool [(1, .class_ 2), (0, u "java/lang/String"), (1, .class_ 6), (1, u "java/lang/Object"), (0, u "<init>"), (0, u "()V"), (0, .methodref 1 10), (0, .nameAndType 11 12), (0, u "checkIndex"), (0, u "(II)V"), (1, .class_ 16), (1, u "java/lang/StringLatin1"), (21, .methodref 39 40), (0, .class_ 41), (0, .nameAndType 42 43), (0, u "java/lang/Math"), (0, u "min"), (0, u "(II)I"), (9, u "([BI)C"), (34, .methodref 14 89), (0, .nameAndType 90 91), (0, u "canEncode"), (0, u "(I)Z"), (0, .methodref 39 93), (0, .nameAndType 94 43), (0, u "max"), (0, .methodref 14 96), (0, .nameAndType 97 98), (0, u "indexOfChar"), (0, u "([BIII)I"), (2, u "indexOf"), (19, u "$assertionsDisabled"), (0, u "Z"), (98, .class_ 223), (1, u "java/lang/StringLatin1$LinesSpliterator"), (28, u "charAt"), (28, u "equals"), (0, u "([B[B)Z"), (107, .class_ 391), (0, u "java/lang/StringLatin1$CharsSpliterator")] 3

def k9m0 : Method := { name := "<init>", desc := "()V", sig := { parameters := [], returnType := none }, accessFlags := 0, code := none }
def k9c1 : Code := { maxStack := 2, maxLocals := 2, code := jdk_43_method_2_code, exceptionTable := #[], attributes := #[] }
def k9m1 : Method := { name := "charAt", desc := "([BI)C", sig := { parameters := [(.array .byte), .int], returnType := some .char }, accessFlags := 9, code := some k9c1 }
def k9c2 : Code := { maxStack := 2, maxLocals := 1, code := jdk_43_method_4_code, exceptionTable := #[], attributes := #[] }
def k9m2 : Method := { name := "canEncode", desc := "(I)Z", sig := { parameters := [.int], returnType := some .boolean }, accessFlags := 9, code := some k9c2 }
def k9c3 : Code := { maxStack := 3, maxLocals := 3, code := jdk_43_method_13_code, exceptionTable := #[], attributes := #[] }
def k9m3 : Method := { name := "equals", desc := "([B[B)Z", sig := { parameters := [(.array .byte), (.array .byte)], returnType := some .boolean }, accessFlags := 9, code := some k9c3 }
def k9c4 : Code := { maxStack := 4, maxLocals := 4, code := jdk_43_method_22_code, exceptionTable := #[], attributes := #[] }
def k9m4 : Method := { name := "indexOf", desc := "([BIII)I", sig := { parameters := [(.array .byte), .int, .int, .int], returnType := some .int }, accessFlags := 9, code := some k9c4 }
def k9c5 : Code := { maxStack := 2, maxLocals := 6, code := jdk_43_method_23_code, exceptionTable := #[], attributes := #[] }
def k9m5 : Method := { name := "indexOfChar", desc := "([BIII)I", sig := { parameters := [(.array .byte), .int, .int, .int], returnType := some .int }, accessFlags := 10, code := some k9c5 }
/-- java/lang/StringLatin1 -/
def k9 : Class := { plain "java/lang/StringLatin1" (some 0) with
  accessFlags := 48
  interfaces := #[]
  cf := some (fileOf pool9 14 #[.nestMembers #[390, 221]] #[{ accessFlags := 0, nameIndex := 7, descriptorIndex := 8, attributes := #[] }, { accessFlags := 9, nameIndex := 252, descriptorIndex := 53, attributes := #[] }, { accessFlags := 9, nameIndex := 90, descriptorIndex := 91, attributes := #[] }, { accessFlags := 9, nameIndex := 281, descriptorIndex := 282, attributes := #[] }, { accessFlags := 9, nameIndex := 101, descriptorIndex := 98, attributes := #[] }, { accessFlags := 10, nameIndex := 97, descriptorIndex := 98, attributes := #[] }] 48 4 #[] #[{ accessFlags := 4120, nameIndex := 121, descriptorIndex := 122, attributes := #[] }])
  fields := #[{ name := "$assertionsDisabled", type := .boolean, accessFlags := 4120, slot := 0, constantValue := 0 }]
  methods := #[k9m0, k9m1, k9m2, k9m3, k9m4, k9m5]
  instanceTypes := #[]
  staticTypes := #[.boolean]
  resolved := Array.replicate 395 none
  statics := none }

def pool10 : Array CpInfo := pool [(2, .class_ 4), (1, u "java/lang/Object"), (0, u "<init>"), (0, u "()V"), (17, .class_ 26), (1, u "jdk/internal/util/Preconditions"), (6, u "checkIndex"), (21, .class_ 56), (0, u "jdk/internal/util/Preconditions$4"), (57, .class_ 115), (0, u "jdk/internal/util/Preconditions$1"), (7, u "SIOOBE_FORMATTER"), (0, u "Ljava/util/function/BiFunction;"), (0, .class_ 126), (0, u "jdk/internal/util/Preconditions$2"), (3, u "AIOOBE_FORMATTER"), (0, .class_ 132), (0, u "jdk/internal/util/Preconditions$3"), (3, u "IOOBE_FORMATTER"), (41, u "(IILjava/util/function/BiFunction;)I")] 15

def k10m0 : Method := { name := "<init>", desc := "()V", sig := { parameters := [], returnType := none }, accessFlags := 1, code := none }
def k10c1 : Code := { maxStack := 3, maxLocals := 3, code := jdk_41_method_11_code, exceptionTable := #[], attributes := #[] }
def k10m1 : Method := { name := "checkIndex", desc := "(IILjava/util/function/BiFunction;)I", sig := { parameters := [.int, .int, (.object "java/util/function/BiFunction")], returnType := some .int }, accessFlags := 9, code := some k10c1 }
/-- jdk/internal/util/Preconditions -/
def k10 : Class := { plain "jdk/internal/util/Preconditions" (some 0) with
  accessFlags := 33
  interfaces := #[]
  cf := some (fileOf pool10 24 #[.nestMembers #[55, 131, 125, 114]] #[{ accessFlags := 1, nameIndex := 5, descriptorIndex := 6, attributes := #[] }, { accessFlags := 9, nameIndex := 33, descriptorIndex := 178, attributes := #[] }] 33 2 #[] #[{ accessFlags := 25, nameIndex := 123, descriptorIndex := 124, attributes := #[] }, { accessFlags := 25, nameIndex := 130, descriptorIndex := 124, attributes := #[] }, { accessFlags := 25, nameIndex := 136, descriptorIndex := 124, attributes := #[] }])
  fields := #[{ name := "SIOOBE_FORMATTER", type := (.object "java/util/function/BiFunction"), accessFlags := 25, slot := 0, constantValue := 0 }, { name := "AIOOBE_FORMATTER", type := (.object "java/util/function/BiFunction"), accessFlags := 25, slot := 1, constantValue := 0 }, { name := "IOOBE_FORMATTER", type := (.object "java/util/function/BiFunction"), accessFlags := 25, slot := 2, constantValue := 0 }]
  methods := #[k10m0, k10m1]
  instanceTypes := #[]
  staticTypes := #[(.object "java/util/function/BiFunction"), (.object "java/util/function/BiFunction"), (.object "java/util/function/BiFunction")]
  resolved := Array.replicate 194 none
  statics := some 1 }

def pool11 : Array CpInfo := pool [(1, .methodref 2 3), (0, .class_ 4), (0, .nameAndType 5 6), (0, u "java/lang/Object"), (0, u "<init>"), (0, u "()V"), (0, .class_ 8), (0, u "java/lang/Record")] 13

def k11c0 : Code := { maxStack := 1, maxLocals := 1, code := jdk_30_method_1_code, exceptionTable := #[], attributes := #[] }
def k11m0 : Method := { name := "<init>", desc := "()V", sig := { parameters := [], returnType := none }, accessFlags := 4, code := some k11c0 }
/-- java/lang/Record -/
def k11 : Class := { plain "java/lang/Record" (some 0) with
  accessFlags := 1057
  interfaces := #[]
  cf := some (fileOf pool11 7 #[] #[{ accessFlags := 4, nameIndex := 5, descriptorIndex := 6, attributes := #[] }] 1057 2 #[] #[])
  fields := #[]
  methods := #[k11m0]
  instanceTypes := #[]
  staticTypes := #[]
  resolved := Array.replicate 22 none
  statics := none }

def pool12 : Array CpInfo := pool [(2, .class_ 4), (1, u "com/example/callsite/callsite/model/Callee"), (0, u "LIBRARY"), (0, u "Lcom/example/callsite/callsite/model/Callee;"), (66, .class_ 74), (0, u "com/example/callsite/callsite/model/Callee$Library"), (1, .class_ 77), (0, u "java/lang/Object"), (0, .class_ 79), (0, u "java/lang/Comparable")] 18

/-- com/example/callsite/callsite/model/Callee -/
def k12 : Class := { plain "com/example/callsite/callsite/model/Callee" (some 0) with
  accessFlags := 1537
  interfaces := #[3]
  cf := some (fileOf pool12 2 #[.nestMembers #[73]] #[] 1537 76 #[78] #[{ accessFlags := 25, nameIndex := 5, descriptorIndex := 6, attributes := #[] }])
  fields := #[{ name := "LIBRARY", type := (.object "com/example/callsite/callsite/model/Callee"), accessFlags := 25, slot := 0, constantValue := 0 }]
  methods := #[]
  instanceTypes := #[]
  staticTypes := #[(.object "com/example/callsite/callsite/model/Callee")]
  resolved := Array.replicate 98 none
  statics := none }

def pool13 : Array CpInfo := pool [(1, .methodref 2 3), (0, .class_ 4), (0, .nameAndType 5 6), (0, u "java/lang/Record"), (0, u "<init>"), (0, u "()V"), (0, .methodref 8 9), (0, .class_ 10), (0, .nameAndType 11 12), (0, u "com/example/callsite/callsite/model/JvmNames"), (0, u "isClassName"), (0, u "(Ljava/lang/String;C)Z"), (7, u "(Ljava/lang/String;Ljava/lang/String;)Ljava/lang/String;"), (3, .methodref 8 25), (0, .nameAndType 26 27), (0, u "isMethodName"), (0, u "(Ljava/lang/String;)Z"), (5, .methodref 8 34), (0, .nameAndType 35 20), (0, u "methodDescriptorRefusal"), (0, .fieldref 37 38), (0, .class_ 39), (0, .nameAndType 40 41), (0, u "com/example/callsite/callsite/model/MethodId"), (0, u "className"), (0, u "Ljava/lang/String;"), (0, .fieldref 37 43), (0, .nameAndType 44 41), (0, u "name"), (0, .fieldref 37 46), (0, .nameAndType 47 41), (0, u "descriptor"), (1, .class_ 51), (1, u "java/lang/String"), (17, u "(Ljava/lang/String;Ljava/lang/String;Ljava/lang/String;)V"), (18, .methodref 49 89), (0, .nameAndType 90 91), (0, u "equals"), (0, u "(Ljava/lang/Object;)Z"), (1, .class_ 95), (1, u "com/example/callsite/callsite/model/Callee")] 61

def k13c0 : Code := { maxStack := 4, maxLocals := 5, code := prog_126_method_1_code, exceptionTable := #[], attributes := #[] }
def k13m0 : Method := { name := "<init>", desc := "(Ljava/lang/String;Ljava/lang/String;Ljava/lang/String;)V", sig := { parameters := [(.object "java/lang/String"), (.object "java/lang/String"), (.object "java/lang/String")], returnType := none }, accessFlags := 1, code := some k13c0 }
def k13c1 : Code := { maxStack := 2, maxLocals := 3, code := prog_126_method_9_code, exceptionTable := #[], attributes := #[] }
def k13m1 : Method := { name := "equals", desc := "(Ljava/lang/Object;)Z", sig := { parameters := [(.object "java/lang/Object")], returnType := some .boolean }, accessFlags := 1, code := some k13c1 }
/-- com/example/callsite/callsite/model/MethodId -/
def k13 : Class := { plain "com/example/callsite/callsite/model/MethodId" (some 11) with
  accessFlags := 49
  interfaces := #[12]
  cf := some (fileOf pool13 37 #[] #[{ accessFlags := 1, nameIndex := 5, descriptorIndex := 69, attributes := #[] }, { accessFlags := 1, nameIndex := 90, descriptorIndex := 91, attributes := #[] }] 49 2 #[93] #[{ accessFlags := 18, nameIndex := 40, descriptorIndex := 41, attributes := #[] }, { accessFlags := 18, nameIndex := 44, descriptorIndex := 41, attributes := #[] }, { accessFlags := 18, nameIndex := 47, descriptorIndex := 41, attributes := #[] }])
  fields := #[{ name := "className", type := (.object "java/lang/String"), accessFlags := 18, slot := 0, constantValue := 0 }, { name := "name", type := (.object "java/lang/String"), accessFlags := 18, slot := 1, constantValue := 0 }, { name := "descriptor", type := (.object "java/lang/String"), accessFlags := 18, slot := 2, constantValue := 0 }]
  methods := #[k13m0, k13m1]
  instanceTypes := #[(.object "java/lang/String"), (.object "java/lang/String"), (.object "java/lang/String")]
  staticTypes := #[]
  resolved := Array.replicate 157 none
  statics := none }

def pool14 : Array CpInfo := pool [(2, .class_ 4), (1, u "java/lang/Object"), (0, u "<init>"), (0, u "()V"), (0, .string 8), (0, u "["), (0, .methodref 10 11), (0, .class_ 12), (0, .nameAndType 13 14), (0, u "java/lang/String"), (0, u "startsWith"), (0, u "(Ljava/lang/String;)Z"), (0, .methodref 16 17), (0, .class_ 18), (0, .nameAndType 19 20), (0, u "com/example/callsite/callsite/model/JvmNames"), (0, u "fieldTypeEnd"), (0, u "(Ljava/lang/String;IC)I"), (0, .methodref 10 22), (0, .nameAndType 23 24), (0, u "length"), (0, u "()I"), (0, .methodref 16 26), (0, .nameAndType 27 28), (0, u "isBinaryName"), (0, u "(Ljava/lang/String;C)Z"), (0, .methodref 10 30), (0, .nameAndType 31 32), (0, u "indexOf"), (0, u "(I)I"), (0, .methodref 16 34), (0, .nameAndType 35 36), (0, u "isUnqualifiedName"), (0, u "(Ljava/lang/String;II)Z"), (0, .methodref 10 38), (0, .nameAndType 31 39), (0, u "(II)I"), (0, .methodref 16 41), (0, .nameAndType 42 14), (0, u "isInitialiserName"), (0, .string 5), (0, .methodref 10 45), (0, .nameAndType 46 47), (0, u "equals"), (0, u "(Ljava/lang/Object;)Z"), (0, .string 49), (0, u "<clinit>"), (0, .methodref 16 51), (0, .nameAndType 52 53), (0, u "parameterUnits"), (0, u "(Ljava/lang/String;)I"), (0, .string 55), (0, u "("), (0, .methodref 10 57), (0, .nameAndType 58 59), (0, u "charAt"), (0, u "(I)C"), (0, .string 61), (0, u "DJ"), (0, .string 63), (0, u "V"), (0, .methodref 10 65), (0, .nameAndType 13 66), (0, u "(Ljava/lang/String;I)Z"), (5, u "(Ljava/lang/String;Ljava/lang/String;)Ljava/lang/String;"), (7, .methodref 16 81), (0, .nameAndType 82 72), (0, u "initialiserRefusal"), (7, u "TOO_MANY_DIMENSIONS"), (0, u "Ljava/lang/String;"), (7, .string 100), (0, u ")V"), (0, .methodref 10 102), (0, .nameAndType 103 14), (0, u "endsWith"), (2, .string 107), (0, u ".;[/"), (0, .string 109), (0, u "BCDFIJSZ"), (8, u "MAX_PARAMETER_UNITS"), (0, u "I"), (2, u "MAX_DIMENSIONS"), (0, u "NOT_IN_NAMES"), (0, u "BASE_TYPES"), (0, u "WIDE_TYPES"), (2, u "isClassName"), (1, u "isMethodName"), (1, u "methodDescriptorRefusal")] 26

def k14m0 : Method := { name := "<init>", desc := "()V", sig := { parameters := [], returnType := none }, accessFlags := 2, code := none }
def k14c1 : Code := { maxStack := 3, maxLocals := 2, code := prog_120_method_2_code, exceptionTable := #[], attributes := #[] }
def k14m1 : Method := { name := "isClassName", desc := "(Ljava/lang/String;C)Z", sig := { parameters := [(.object "java/lang/String"), .char], returnType := some .boolean }, accessFlags := 8, code := some k14c1 }
def k14c2 : Code := { maxStack := 3, maxLocals := 4, code := prog_120_method_3_code, exceptionTable := #[], attributes := #[] }
def k14m2 : Method := { name := "isBinaryName", desc := "(Ljava/lang/String;C)Z", sig := { parameters := [(.object "java/lang/String"), .char], returnType := some .boolean }, accessFlags := 8, code := some k14c2 }
def k14c3 : Code := { maxStack := 3, maxLocals := 1, code := prog_120_method_4_code, exceptionTable := #[], attributes := #[] }
def k14m3 : Method := { name := "isMethodName", desc := "(Ljava/lang/String;)Z", sig := { parameters := [(.object "java/lang/String")], returnType := some .boolean }, accessFlags := 8, code := some k14c3 }
def k14c4 : Code := { maxStack := 2, maxLocals := 1, code := prog_120_method_5_code, exceptionTable := #[], attributes := #[] }
def k14m4 : Method := { name := "isInitialiserName", desc := "(Ljava/lang/String;)Z", sig := { parameters := [(.object "java/lang/String")], returnType := some .boolean }, accessFlags := 8, code := some k14c4 }
def k14c5 : Code := { maxStack := 3, maxLocals := 5, code := prog_120_method_8_code, exceptionTable := #[], attributes := #[] }
def k14m5 : Method := { name := "parameterUnits", desc := "(Ljava/lang/String;)I", sig := { parameters := [(.object "java/lang/String")], returnType := some .int }, accessFlags := 9, code := some k14c5 }
def k14c6 : Code := { maxStack := 2, maxLocals := 3, code := prog_120_method_9_code, exceptionTable := #[], attributes := #[] }
def k14m6 : Method := { name := "methodDescriptorRefusal", desc := "(Ljava/lang/String;Ljava/lang/String;)Ljava/lang/String;", sig := { parameters := [(.object "java/lang/String"), (.object "java/lang/String")], returnType := some (.object "java/lang/String") }, accessFlags := 8, code := some k14c6 }
def k14c7 : Code := { maxStack := 2, maxLocals := 2, code := prog_120_method_13_code, exceptionTable := #[], attributes := #[] }
def k14m7 : Method := { name := "initialiserRefusal", desc := "(Ljava/lang/String;Ljava/lang/String;)Ljava/lang/String;", sig := { parameters := [(.object "java/lang/String"), (.object "java/lang/String")], returnType := some (.object "java/lang/String") }, accessFlags := 10, code := some k14c7 }
def k14c8 : Code := { maxStack := 3, maxLocals := 4, code := prog_120_method_14_code, exceptionTable := #[], attributes := #[] }
def k14m8 : Method := { name := "isUnqualifiedName", desc := "(Ljava/lang/String;II)Z", sig := { parameters := [(.object "java/lang/String"), .int, .int], returnType := some .boolean }, accessFlags := 10, code := some k14c8 }
def k14c9 : Code := { maxStack := 3, maxLocals := 6, code := prog_120_method_15_code, exceptionTable := #[], attributes := #[] }
def k14m9 : Method := { name := "fieldTypeEnd", desc := "(Ljava/lang/String;IC)I", sig := { parameters := [(.object "java/lang/String"), .int, .char], returnType := some .int }, accessFlags := 10, code := some k14c9 }
/-- com/example/callsite/callsite/model/JvmNames -/
def k14 : Class := { plain "com/example/callsite/callsite/model/JvmNames" (some 0) with
  accessFlags := 49
  interfaces := #[]
  cf := some (fileOf pool14 16 #[] #[{ accessFlags := 2, nameIndex := 5, descriptorIndex := 6, attributes := #[] }, { accessFlags := 8, nameIndex := 128, descriptorIndex := 28, attributes := #[] }, { accessFlags := 8, nameIndex := 27, descriptorIndex := 28, attributes := #[] }, { accessFlags := 8, nameIndex := 130, descriptorIndex := 14, attributes := #[] }, { accessFlags := 8, nameIndex := 42, descriptorIndex := 14, attributes := #[] }, { accessFlags := 9, nameIndex := 52, descriptorIndex := 53, attributes := #[] }, { accessFlags := 8, nameIndex := 132, descriptorIndex := 72, attributes := #[] }, { accessFlags := 10, nameIndex := 82, descriptorIndex := 72, attributes := #[] }, { accessFlags := 10, nameIndex := 35, descriptorIndex := 36, attributes := #[] }, { accessFlags := 10, nameIndex := 19, descriptorIndex := 20, attributes := #[] }] 49 2 #[] #[{ accessFlags := 25, nameIndex := 118, descriptorIndex := 119, attributes := #[] }, { accessFlags := 26, nameIndex := 122, descriptorIndex := 119, attributes := #[] }, { accessFlags := 26, nameIndex := 90, descriptorIndex := 91, attributes := #[] }, { accessFlags := 26, nameIndex := 123, descriptorIndex := 91, attributes := #[] }, { accessFlags := 26, nameIndex := 124, descriptorIndex := 91, attributes := #[] }, { accessFlags := 26, nameIndex := 125, descriptorIndex := 91, attributes := #[] }])
  fields := #[{ name := "MAX_PARAMETER_UNITS", type := .int, accessFlags := 25, slot := 0, constantValue := 0 }, { name := "MAX_DIMENSIONS", type := .int, accessFlags := 26, slot := 1, constantValue := 0 }, { name := "TOO_MANY_DIMENSIONS", type := (.object "java/lang/String"), accessFlags := 26, slot := 2, constantValue := 0 }, { name := "NOT_IN_NAMES", type := (.object "java/lang/String"), accessFlags := 26, slot := 3, constantValue := 0 }, { name := "BASE_TYPES", type := (.object "java/lang/String"), accessFlags := 26, slot := 4, constantValue := 0 }, { name := "WIDE_TYPES", type := (.object "java/lang/String"), accessFlags := 26, slot := 5, constantValue := 0 }]
  methods := #[k14m0, k14m1, k14m2, k14m3, k14m4, k14m5, k14m6, k14m7, k14m8, k14m9]
  instanceTypes := #[]
  staticTypes := #[.int, .int, (.object "java/lang/String"), (.object "java/lang/String"), (.object "java/lang/String"), (.object "java/lang/String")]
  resolved := Array.replicate 159 none
  statics := none }

def pool15 : Array CpInfo := pool [(9, u "<init>"), (6, .class_ 18), (1, u "java/lang/Object"), (0, u "()V"), (1, .class_ 23), (1, u "jdk/internal/util/ArraysSupport"), (0, u "LOG2_ARRAY_LONG_INDEX_SCALE"), (0, u "I"), (2, u "U"), (0, u "Ljdk/internal/misc/Unsafe;"), (8, u "BIG_ENDIAN"), (0, u "Z"), (8, u "LOG2_BYTE_BIT_SIZE"), (4, u "LOG2_ARRAY_INT_INDEX_SCALE"), (54, u "JLA"), (0, u "Ljdk/internal/access/JavaLangAccess;"), (11, u "LOG2_ARRAY_BOOLEAN_INDEX_SCALE"), (9, u "LOG2_ARRAY_BYTE_INDEX_SCALE"), (5, u "LOG2_ARRAY_CHAR_INDEX_SCALE"), (5, u "LOG2_ARRAY_SHORT_INDEX_SCALE"), (5, u "mismatch"), (12, u "LOG2_ARRAY_FLOAT_INDEX_SCALE"), (24, u "LOG2_ARRAY_DOUBLE_INDEX_SCALE"), (89, u "T_BOOLEAN"), (2, u "T_CHAR"), (1, u "T_FLOAT"), (1, u "T_DOUBLE"), (1, u "T_BYTE"), (1, u "T_SHORT"), (1, u "T_INT"), (1, u "T_LONG"), (1, u "SOFT_MAX_ARRAY_LENGTH"), (42, u "([BI[BII)I")] 40

def k15m0 : Method := { name := "<init>", desc := "()V", sig := { parameters := [], returnType := none }, accessFlags := 2, code := none }
def k15c1 : Code := { maxStack := 8, maxLocals := 8, code := jdk_48_method_14_code, exceptionTable := #[], attributes := #[] }
def k15m1 : Method := { name := "mismatch", desc := "([BI[BII)I", sig := { parameters := [(.array .byte), .int, (.array .byte), .int, .int], returnType := some .int }, accessFlags := 9, code := some k15c1 }
/-- jdk/internal/util/ArraysSupport -/
def k15 : Class := { plain "jdk/internal/util/ArraysSupport" (some 0) with
  accessFlags := 33
  interfaces := #[]
  cf := some (fileOf pool15 21 #[] #[{ accessFlags := 2, nameIndex := 9, descriptorIndex := 19, attributes := #[] }, { accessFlags := 9, nameIndex := 149, descriptorIndex := 337, attributes := #[] }] 33 16 #[] #[{ accessFlags := 24, nameIndex := 28, descriptorIndex := 29, attributes := #[] }, { accessFlags := 26, nameIndex := 38, descriptorIndex := 39, attributes := #[] }, { accessFlags := 25, nameIndex := 121, descriptorIndex := 25, attributes := #[] }, { accessFlags := 25, nameIndex := 131, descriptorIndex := 25, attributes := #[] }, { accessFlags := 25, nameIndex := 137, descriptorIndex := 25, attributes := #[] }, { accessFlags := 25, nameIndex := 143, descriptorIndex := 25, attributes := #[] }, { accessFlags := 25, nameIndex := 53, descriptorIndex := 25, attributes := #[] }, { accessFlags := 25, nameIndex := 24, descriptorIndex := 25, attributes := #[] }, { accessFlags := 25, nameIndex := 162, descriptorIndex := 25, attributes := #[] }, { accessFlags := 25, nameIndex := 187, descriptorIndex := 25, attributes := #[] }, { accessFlags := 26, nameIndex := 48, descriptorIndex := 25, attributes := #[] }, { accessFlags := 25, nameIndex := 277, descriptorIndex := 25, attributes := #[] }, { accessFlags := 25, nameIndex := 280, descriptorIndex := 25, attributes := #[] }, { accessFlags := 25, nameIndex := 282, descriptorIndex := 25, attributes := #[] }, { accessFlags := 25, nameIndex := 284, descriptorIndex := 25, attributes := #[] }, { accessFlags := 25, nameIndex := 286, descriptorIndex := 25, attributes := #[] }, { accessFlags := 25, nameIndex := 288, descriptorIndex := 25, attributes := #[] }, { accessFlags := 25, nameIndex := 290, descriptorIndex := 25, attributes := #[] }, { accessFlags := 25, nameIndex := 292, descriptorIndex := 25, attributes := #[] }, { accessFlags := 26, nameIndex := 108, descriptorIndex := 109, attributes := #[] }, { accessFlags := 25, nameIndex := 294, descriptorIndex := 25, attributes := #[] }])
  fields := #[{ name := "U", type := (.object "jdk/internal/misc/Unsafe"), accessFlags := 24, slot := 0, constantValue := 0 }, { name := "BIG_ENDIAN", type := .boolean, accessFlags := 26, slot := 1, constantValue := 0 }, { name := "LOG2_ARRAY_BOOLEAN_INDEX_SCALE", type := .int, accessFlags := 25, slot := 2, constantValue := 0 }, { name := "LOG2_ARRAY_BYTE_INDEX_SCALE", type := .int, accessFlags := 25, slot := 3, constantValue := 0 }, { name := "LOG2_ARRAY_CHAR_INDEX_SCALE", type := .int, accessFlags := 25, slot := 4, constantValue := 0 }, { name := "LOG2_ARRAY_SHORT_INDEX_SCALE", type := .int, accessFlags := 25, slot := 5, constantValue := 0 }, { name := "LOG2_ARRAY_INT_INDEX_SCALE", type := .int, accessFlags := 25, slot := 6, constantValue := 0 }, { name := "LOG2_ARRAY_LONG_INDEX_SCALE", type := .int, accessFlags := 25, slot := 7, constantValue := 0 }, { name := "LOG2_ARRAY_FLOAT_INDEX_SCALE", type := .int, accessFlags := 25, slot := 8, constantValue := 0 }, { name := "LOG2_ARRAY_DOUBLE_INDEX_SCALE", type := .int, accessFlags := 25, slot := 9, constantValue := 0 }, { name := "LOG2_BYTE_BIT_SIZE", type := .int, accessFlags := 26, slot := 10, constantValue := 0 }, { name := "T_BOOLEAN", type := .int, accessFlags := 25, slot := 11, constantValue := 0 }, { name := "T_CHAR", type := .int, accessFlags := 25, slot := 12, constantValue := 0 }, { name := "T_FLOAT", type := .int, accessFlags := 25, slot := 13, constantValue := 0 }, { name := "T_DOUBLE", type := .int, accessFlags := 25, slot := 14, constantValue := 0 }, { name := "T_BYTE", type := .int, accessFlags := 25, slot := 15, constantValue := 0 }, { name := "T_SHORT", type := .int, accessFlags := 25, slot := 16, constantValue := 0 }, { name := "T_INT", type := .int, accessFlags := 25, slot := 17, constantValue := 0 }, { name := "T_LONG", type := .int, accessFlags := 25, slot := 18, constantValue := 0 }, { name := "JLA", type := (.object "jdk/internal/access/JavaLangAccess"), accessFlags := 26, slot := 19, constantValue := 0 }, { name := "SOFT_MAX_ARRAY_LENGTH", type := .int, accessFlags := 25, slot := 20, constantValue := 0 }]
  methods := #[k15m0, k15m1]
  instanceTypes := #[]
  staticTypes := #[(.object "jdk/internal/misc/Unsafe"), .boolean, .int, .int, .int, .int, .int, .int, .int, .int, .int, .int, .int, .int, .int, .int, .int, .int, .int, (.object "jdk/internal/access/JavaLangAccess"), .int]
  resolved := Array.replicate 378 none
  statics := none }

def pool16 : Array CpInfo := pool [(1, .class_ 2), (0, u "java/lang/Math"), (1, .class_ 6), (1, u "java/lang/Object"), (0, u "<init>"), (0, u "()V"), (89, .class_ 100), (1, u "java/lang/Math$RandomNumberGeneratorHolder"), (71, u "negativeZeroFloatBits"), (0, u "J"), (2, u "negativeZeroDoubleBits"), (21, u "max"), (2, u "min"), (43, u "$assertionsDisabled"), (0, u "Z"), (88, u "(II)I"), (2, u "twoToTheDoubleScaleDown"), (0, u "D"), (4, u "twoToTheDoubleScaleUp"), (9, u "E"), (3, u "PI"), (2, u "TAU"), (2, u "DEGREES_TO_RADIANS"), (0, u "RADIANS_TO_DEGREES")] 94

def k16m0 : Method := { name := "<init>", desc := "()V", sig := { parameters := [], returnType := none }, accessFlags := 2, code := none }
def k16c1 : Code := { maxStack := 2, maxLocals := 2, code := jdk_29_method_65_code, exceptionTable := #[], attributes := #[] }
def k16m1 : Method := { name := "max", desc := "(II)I", sig := { parameters := [.int, .int], returnType := some .int }, accessFlags := 9, code := some k16c1 }
def k16c2 : Code := { maxStack := 2, maxLocals := 2, code := jdk_29_method_69_code, exceptionTable := #[], attributes := #[] }
def k16m2 : Method := { name := "min", desc := "(II)I", sig := { parameters := [.int, .int], returnType := some .int }, accessFlags := 9, code := some k16c2 }
/-- java/lang/Math -/
def k16 : Class := { plain "java/lang/Math" (some 0) with
  accessFlags := 49
  interfaces := #[]
  cf := some (fileOf pool16 1 #[.nestMembers #[98]] #[{ accessFlags := 2, nameIndex := 7, descriptorIndex := 8, attributes := #[] }, { accessFlags := 9, nameIndex := 198, descriptorIndex := 335, attributes := #[] }, { accessFlags := 9, nameIndex := 201, descriptorIndex := 335, attributes := #[] }] 49 4 #[] #[{ accessFlags := 25, nameIndex := 354, descriptorIndex := 339, attributes := #[] }, { accessFlags := 25, nameIndex := 358, descriptorIndex := 339, attributes := #[] }, { accessFlags := 25, nameIndex := 361, descriptorIndex := 339, attributes := #[] }, { accessFlags := 26, nameIndex := 364, descriptorIndex := 339, attributes := #[] }, { accessFlags := 26, nameIndex := 365, descriptorIndex := 339, attributes := #[] }, { accessFlags := 26, nameIndex := 172, descriptorIndex := 173, attributes := #[] }, { accessFlags := 26, nameIndex := 176, descriptorIndex := 173, attributes := #[] }, { accessFlags := 8, nameIndex := 344, descriptorIndex := 339, attributes := #[] }, { accessFlags := 8, nameIndex := 338, descriptorIndex := 339, attributes := #[] }, { accessFlags := 4120, nameIndex := 245, descriptorIndex := 246, attributes := #[] }])
  fields := #[{ name := "E", type := .double, accessFlags := 25, slot := 0, constantValue := 0 }, { name := "PI", type := .double, accessFlags := 25, slot := 1, constantValue := 0 }, { name := "TAU", type := .double, accessFlags := 25, slot := 2, constantValue := 0 }, { name := "DEGREES_TO_RADIANS", type := .double, accessFlags := 26, slot := 3, constantValue := 0 }, { name := "RADIANS_TO_DEGREES", type := .double, accessFlags := 26, slot := 4, constantValue := 0 }, { name := "negativeZeroFloatBits", type := .long, accessFlags := 26, slot := 5, constantValue := 0 }, { name := "negativeZeroDoubleBits", type := .long, accessFlags := 26, slot := 6, constantValue := 0 }, { name := "twoToTheDoubleScaleUp", type := .double, accessFlags := 8, slot := 7, constantValue := 0 }, { name := "twoToTheDoubleScaleDown", type := .double, accessFlags := 8, slot := 8, constantValue := 0 }, { name := "$assertionsDisabled", type := .boolean, accessFlags := 4120, slot := 9, constantValue := 0 }]
  methods := #[k16m0, k16m1, k16m2]
  instanceTypes := #[]
  staticTypes := #[.double, .double, .double, .double, .double, .long, .long, .double, .double, .boolean]
  resolved := Array.replicate 460 none
  statics := none }

def pool17 : Array CpInfo := pool [(1, u "java/lang/Cloneable"), (0, .class_ 1), (0, u "java/lang/Object"), (0, .class_ 3)] 3

/-- java/lang/Cloneable -/
def k17 : Class := { plain "java/lang/Cloneable" (some 0) with
  accessFlags := 1537
  interfaces := #[]
  cf := some (fileOf pool17 2 #[] #[] 1537 4 #[] #[])
  fields := #[]
  methods := #[]
  instanceTypes := #[]
  staticTypes := #[]
  resolved := Array.replicate 8 none
  statics := none }

/-- the primitive byte -/
def k18 : Class := { plain "byte" none with kind := .primitive 'B', accessFlags := 0x411 }
/-- [B -/
def k19 : Class := { plain "[B" (some 0) with kind := .array 18 .byte, interfaces := #[17, 2], accessFlags := 1041 }

/-- the primitive char -/
def k20 : Class := { plain "char" none with kind := .primitive 'C', accessFlags := 0x411 }
/-- [C -/
def k21 : Class := { plain "[C" (some 0) with kind := .array 20 .char, interfaces := #[17, 2], accessFlags := 1041 }

/-- the primitive int -/
def k22 : Class := { plain "int" none with kind := .primitive 'I', accessFlags := 0x411 }
/-- [I -/
def k23 : Class := { plain "[I" (some 0) with kind := .array 22 .int, interfaces := #[17, 2], accessFlags := 1041 }

def heap : Heap := #[{ cls := 7, slots := #[.long 0, .int 1, .null, .int 0, .null, .int 0, .int 0], vm := .statics 7 },
  { cls := 10, slots := #[.null, .null, .null], vm := .statics 10 }]
def classes : Array Class := #[k0, k1, k2, k3, k4, k5, k6, k7, k8, k9, k10, k11, k12, k13, k14, k15, k16, k17, k18, k19, k20, k21, k22, k23]
def interned : List (Array UInt16 × Addr) := []
def slotsUsed : Nat := 10
def theMethod : MethodId := ⟨1, 7⟩
def args0 : Array Value := #[.int 5, .int 5, .int 5, .int 5, .int 5, .int 5]
def aboutOver (below : List Frame) : State where
  vm := { classes := classes, interned := interned.toArray }
  heap := heap
  slotsUsed := slotsUsed
  threads := #[{ frames := .invoking theMethod args0 :: below }]
def below0 : List Frame := [.native { method := ⟨0, 0⟩, args := #[] }]
def about1 : State := aboutOver below0
def p0 : Program := .bare "" "" ""
def e0 : Env := launch0.env 0 0 0
theorem w_frames : about1.frames = Frame.invoking theMethod args0 :: below0 := rfl
set_option maxRecDepth 65536 in
theorem w_args : argsFit about1.vm theMethod args0 = true := by decide +kernel
set_option maxRecDepth 65536 in
theorem w_heap : heapFits about1 = true := by decide +kernel
set_option maxRecDepth 65536 in
theorem w_runnable : about1.curStatus? = some .runnable := by decide +kernel
set_option maxRecDepth 65536 in
theorem w_alone : about1.alone = true := by decide +kernel
set_option maxRecDepth 65536 in
theorem w_named : about1.methodNamed? x = some theMethod := by decide +kernel
set_option maxRecDepth 65536 in
theorem w_hears : about1.hears theMethod below0 = true := by decide +kernel
set_option maxRecDepth 65536 in
theorem w_ripe : about1.ripe theMethod args0 below0 = true := by decide +kernel
theorem w_running : about1.status = .running := rfl
set_option maxRecDepth 65536 in
theorem w_room : about1.hasRoom e0.platform room_1 = true :=
  launch0.hasRoom_least _ room_1 (by decide +kernel) (by decide +kernel) (by decide +kernel) (by decide +kernel) (by decide +kernel) (by decide +kernel)
theorem allAtoms_all (ts : List Jvm.Cond) (a : Array Jvm.Value) (st : Jvm.State) : (allAtoms ts).before a st = ts.all (fun c => c.before a st) := by
  induction ts with
  | nil => rfl
  | cons c t ih =>
    show (Jvm.Cond.and c (allAtoms t)).before a st = _
    rw [Jvm.Cond.before_and, ih, List.all_cons]
def words1 : List Jvm.Cond := Jvm.Cond.code x code maxLocals ret :: tables_1
/-- a 'code' word, met by the world's own term for the bytes: nothing is compared byte by byte -/
theorem code_word {y : MethodName} {bytes : ByteArray} {mx : Nat} {rt : Option FieldType} {a : Array Value} {s : State} {m : MethodId} {meth : Method} {c : Code} (h1 : s.methodNamed? y = some m) (h2 : s.vm.method? m = some meth) (h3 : meth.code = some c) (h4 : c.code = bytes)
    (h5 : (c.maxLocals == mx && c.exceptionTable.isEmpty && decide (c.maxStack ≤ mostOperands) && decide (meth.sig.returnType = rt) && !meth.locks && decide (parseMethodDescriptor y.desc = some meth.sig)) = true) : (Jvm.Cond.code y bytes mx rt).before a s = true := by
  simp only [Bool.and_eq_true, beq_iff_eq, Bool.not_eq_true', decide_eq_true_eq] at h5
  obtain ⟨⟨⟨⟨⟨g1, g2⟩, g3⟩, g4⟩, g5⟩, g6⟩ := h5
  simp [Cond.before, Cond.holds, Cond.value, h1, h2, h3, h4, g1, g2, g3, g4, g5, g6]
def isCode : Jvm.Cond → Bool
  | .code _ _ _ _ => true
  | _ => false
theorem all_split {L : List Jvm.Cond} {P : Jvm.Cond → Bool} (h1 : L.all (fun c => isCode c || P c) = true) (h2 : ∀ c ∈ L.filter isCode, P c = true) : L.all P = true := by
  refine List.all_eq_true.mpr fun c hc => ?_
  have h := List.all_eq_true.mp h1 c hc
  rcases Bool.eq_false_or_eq_true (isCode c) with hi | hi
  · exact h2 c (List.mem_filter.mpr ⟨hc, hi⟩)
  · simpa [hi] using h
set_option maxRecDepth 65536 in
theorem w_c0 : (Jvm.Cond.code x code maxLocals ret).before args0 about1 = true := code_word (m := ⟨1, 7⟩) (meth := k1m7) (c := k1c7) (by decide +kernel) rfl rfl rfl (by decide +kernel)
set_option maxRecDepth 65536 in
theorem w_c1 : (Jvm.Cond.code ({ cls := "com/example/callsite/callsite/model/MethodIdEqualsPinLaw", name := "className", desc := "(II)Ljava/lang/String;" } : Jvm.MethodName) method_4_code (4 : Nat) (Option.some (Jvm.ClassFile.FieldType.object "java/lang/String"))).before args0 about1 = true := code_word (m := ⟨1, 3⟩) (meth := k1m3) (c := k1c3) (by decide +kernel) rfl rfl rfl (by decide +kernel)
set_option maxRecDepth 65536 in
theorem w_c2 : (Jvm.Cond.code ({ cls := "com/example/callsite/callsite/model/MethodIdEqualsPinLaw", name := "classChar", desc := "(I)C" } : Jvm.MethodName) method_2_code (2 : Nat) (Option.some Jvm.ClassFile.FieldType.char)).before args0 about1 = true := code_word (m := ⟨1, 1⟩) (meth := k1m1) (c := k1c1) (by decide +kernel) rfl rfl rfl (by decide +kernel)
set_option maxRecDepth 65536 in
theorem w_c3 : (Jvm.Cond.code ({ cls := "java/lang/String", name := "<init>", desc := "([C)V" } : Jvm.MethodName) jdk_42_method_3_code (2 : Nat) (Option.none : Option Jvm.ClassFile.FieldType)).before args0 about1 = true := code_word (m := ⟨7, 1⟩) (meth := k7m1) (c := k7c1) (by decide +kernel) rfl rfl rfl (by decide +kernel)
set_option maxRecDepth 65536 in
theorem w_c4 : (Jvm.Cond.code ({ cls := "java/lang/String", name := "<init>", desc := "([CIILjava/lang/Void;)V" } : Jvm.MethodName) jdk_42_method_149_code (6 : Nat) (Option.none : Option Jvm.ClassFile.FieldType)).before args0 about1 = true := code_word (m := ⟨7, 10⟩) (meth := k7m10) (c := k7c10) (by decide +kernel) rfl rfl rfl (by decide +kernel)
set_option maxRecDepth 65536 in
theorem w_c5 : (Jvm.Cond.code ({ cls := "java/lang/Object", name := "<init>", desc := "()V" } : Jvm.MethodName) object_method_1_code (1 : Nat) (Option.none : Option Jvm.ClassFile.FieldType)).before args0 about1 = true := code_word (m := ⟨0, 0⟩) (meth := k0m0) (c := k0c0) (by decide +kernel) rfl rfl rfl (by decide +kernel)
set_option maxRecDepth 65536 in
theorem w_c6 : (Jvm.Cond.code ({ cls := "java/lang/StringUTF16", name := "compress", desc := "([CII)[B" } : Jvm.MethodName) jdk_52_method_16_code (6 : Nat) (Option.some (Jvm.ClassFile.FieldType.array Jvm.ClassFile.FieldType.byte))).before args0 about1 = true := code_word (m := ⟨8, 2⟩) (meth := k8m2) (c := k8c2) (by decide +kernel) rfl rfl rfl (by decide +kernel)
set_option maxRecDepth 65536 in
theorem w_c7 : (Jvm.Cond.code ({ cls := "java/lang/StringUTF16", name := "compress", desc := "([CI[BII)I" } : Jvm.MethodName) jdk_52_method_21_code (7 : Nat) (Option.some Jvm.ClassFile.FieldType.int)).before args0 about1 = true := code_word (m := ⟨8, 3⟩) (meth := k8m3) (c := k8c3) (by decide +kernel) rfl rfl rfl (by decide +kernel)
set_option maxRecDepth 65536 in
theorem w_c8 : (Jvm.Cond.code ({ cls := "java/lang/StringUTF16", name := "coderFromArrayLen", desc := "([BI)B" } : Jvm.MethodName) jdk_52_method_15_code (2 : Nat) (Option.some Jvm.ClassFile.FieldType.byte)).before args0 about1 = true := code_word (m := ⟨8, 1⟩) (meth := k8m1) (c := k8c1) (by decide +kernel) rfl rfl rfl (by decide +kernel)
set_option maxRecDepth 65536 in
theorem w_c9 : (Jvm.Cond.code ({ cls := "com/example/callsite/callsite/model/MethodIdEqualsPinLaw", name := "methodName", desc := "(II)Ljava/lang/String;" } : Jvm.MethodName) method_5_code (3 : Nat) (Option.some (Jvm.ClassFile.FieldType.object "java/lang/String"))).before args0 about1 = true := code_word (m := ⟨1, 4⟩) (meth := k1m4) (c := k1c4) (by decide +kernel) rfl rfl rfl (by decide +kernel)
set_option maxRecDepth 65536 in
theorem w_c10 : (Jvm.Cond.code ({ cls := "com/example/callsite/callsite/model/MethodIdEqualsPinLaw", name := "descriptor", desc := "(II)Ljava/lang/String;" } : Jvm.MethodName) method_7_code (4 : Nat) (Option.some (Jvm.ClassFile.FieldType.object "java/lang/String"))).before args0 about1 = true := code_word (m := ⟨1, 6⟩) (meth := k1m6) (c := k1c6) (by decide +kernel) rfl rfl rfl (by decide +kernel)
set_option maxRecDepth 65536 in
theorem w_c11 : (Jvm.Cond.code ({ cls := "com/example/callsite/callsite/model/MethodIdEqualsPinLaw", name := "baseType", desc := "(I)C" } : Jvm.MethodName) method_6_code (1 : Nat) (Option.some Jvm.ClassFile.FieldType.char)).before args0 about1 = true := code_word (m := ⟨1, 5⟩) (meth := k1m5) (c := k1c5) (by decide +kernel) rfl rfl rfl (by decide +kernel)
set_option maxRecDepth 65536 in
theorem w_c12 : (Jvm.Cond.code ({ cls := "java/lang/String", name := "charAt", desc := "(I)C" } : Jvm.MethodName) jdk_42_method_56_code (2 : Nat) (Option.some Jvm.ClassFile.FieldType.char)).before args0 about1 = true := code_word (m := ⟨7, 3⟩) (meth := k7m3) (c := k7c3) (by decide +kernel) rfl rfl rfl (by decide +kernel)
set_option maxRecDepth 65536 in
theorem w_c13 : (Jvm.Cond.code ({ cls := "java/lang/String", name := "isLatin1", desc := "()Z" } : Jvm.MethodName) jdk_42_method_154_code (1 : Nat) (Option.some Jvm.ClassFile.FieldType.boolean)).before args0 about1 = true := code_word (m := ⟨7, 12⟩) (meth := k7m12) (c := k7c12) (by decide +kernel) rfl rfl rfl (by decide +kernel)
set_option maxRecDepth 65536 in
theorem w_c14 : (Jvm.Cond.code ({ cls := "java/lang/StringLatin1", name := "charAt", desc := "([BI)C" } : Jvm.MethodName) jdk_43_method_2_code (2 : Nat) (Option.some Jvm.ClassFile.FieldType.char)).before args0 about1 = true := code_word (m := ⟨9, 1⟩) (meth := k9m1) (c := k9c1) (by decide +kernel) rfl rfl rfl (by decide +kernel)
set_option maxRecDepth 65536 in
theorem w_c15 : (Jvm.Cond.code ({ cls := "java/lang/String", name := "checkIndex", desc := "(II)V" } : Jvm.MethodName) jdk_42_method_155_code (2 : Nat) (Option.none : Option Jvm.ClassFile.FieldType)).before args0 about1 = true := code_word (m := ⟨7, 13⟩) (meth := k7m13) (c := k7c13) (by decide +kernel) rfl rfl rfl (by decide +kernel)
set_option maxRecDepth 65536 in
theorem w_c16 : (Jvm.Cond.code ({ cls := "jdk/internal/util/Preconditions", name := "checkIndex", desc := "(IILjava/util/function/BiFunction;)I" } : Jvm.MethodName) jdk_41_method_11_code (3 : Nat) (Option.some Jvm.ClassFile.FieldType.int)).before args0 about1 = true := code_word (m := ⟨10, 1⟩) (meth := k10m1) (c := k10c1) (by decide +kernel) rfl rfl rfl (by decide +kernel)
set_option maxRecDepth 65536 in
theorem w_c17 : (Jvm.Cond.code ({ cls := "com/example/callsite/callsite/model/MethodId", name := "<init>", desc := "(Ljava/lang/String;Ljava/lang/String;Ljava/lang/String;)V" } : Jvm.MethodName) prog_126_method_1_code (5 : Nat) (Option.none : Option Jvm.ClassFile.FieldType)).before args0 about1 = true := code_word (m := ⟨13, 0⟩) (meth := k13m0) (c := k13c0) (by decide +kernel) rfl rfl rfl (by decide +kernel)
set_option maxRecDepth 65536 in
theorem w_c18 : (Jvm.Cond.code ({ cls := "java/lang/Record", name := "<init>", desc := "()V" } : Jvm.MethodName) jdk_30_method_1_code (1 : Nat) (Option.none : Option Jvm.ClassFile.FieldType)).before args0 about1 = true := code_word (m := ⟨11, 0⟩) (meth := k11m0) (c := k11c0) (by decide +kernel) rfl rfl rfl (by decide +kernel)
set_option maxRecDepth 65536 in
theorem w_c19 : (Jvm.Cond.code ({ cls := "com/example/callsite/callsite/model/JvmNames", name := "isClassName", desc := "(Ljava/lang/String;C)Z" } : Jvm.MethodName) prog_120_method_2_code (2 : Nat) (Option.some Jvm.ClassFile.FieldType.boolean)).before args0 about1 = true := code_word (m := ⟨14, 1⟩) (meth := k14m1) (c := k14c1) (by decide +kernel) rfl rfl rfl (by decide +kernel)
set_option maxRecDepth 65536 in
theorem w_c20 : (Jvm.Cond.code ({ cls := "java/lang/String", name := "startsWith", desc := "(Ljava/lang/String;)Z" } : Jvm.MethodName) jdk_42_method_76_code (2 : Nat) (Option.some Jvm.ClassFile.FieldType.boolean)).before args0 about1 = true := code_word (m := ⟨7, 6⟩) (meth := k7m6) (c := k7c6) (by decide +kernel) rfl rfl rfl (by decide +kernel)
set_option maxRecDepth 65536 in
theorem w_c21 : (Jvm.Cond.code ({ cls := "java/lang/String", name := "startsWith", desc := "(Ljava/lang/String;I)Z" } : Jvm.MethodName) jdk_42_method_75_code (8 : Nat) (Option.some Jvm.ClassFile.FieldType.boolean)).before args0 about1 = true := code_word (m := ⟨7, 5⟩) (meth := k7m5) (c := k7c5) (by decide +kernel) rfl rfl rfl (by decide +kernel)
set_option maxRecDepth 65536 in
theorem w_c22 : (Jvm.Cond.code ({ cls := "java/lang/String", name := "length", desc := "()I" } : Jvm.MethodName) jdk_42_method_54_code (1 : Nat) (Option.some Jvm.ClassFile.FieldType.int)).before args0 about1 = true := code_word (m := ⟨7, 2⟩) (meth := k7m2) (c := k7c2) (by decide +kernel) rfl rfl rfl (by decide +kernel)
set_option maxRecDepth 65536 in
theorem w_c23 : (Jvm.Cond.code ({ cls := "java/lang/String", name := "coder", desc := "()B" } : Jvm.MethodName) jdk_42_method_152_code (1 : Nat) (Option.some Jvm.ClassFile.FieldType.byte)).before args0 about1 = true := code_word (m := ⟨7, 11⟩) (meth := k7m11) (c := k7c11) (by decide +kernel) rfl rfl rfl (by decide +kernel)
set_option maxRecDepth 65536 in
theorem w_c24 : (Jvm.Cond.code ({ cls := "jdk/internal/util/ArraysSupport", name := "mismatch", desc := "([BI[BII)I" } : Jvm.MethodName) jdk_48_method_14_code (8 : Nat) (Option.some Jvm.ClassFile.FieldType.int)).before args0 about1 = true := code_word (m := ⟨15, 1⟩) (meth := k15m1) (c := k15c1) (by decide +kernel) rfl rfl rfl (by decide +kernel)
set_option maxRecDepth 65536 in
theorem w_c25 : (Jvm.Cond.code ({ cls := "com/example/callsite/callsite/model/JvmNames", name := "isBinaryName", desc := "(Ljava/lang/String;C)Z" } : Jvm.MethodName) prog_120_method_3_code (4 : Nat) (Option.some Jvm.ClassFile.FieldType.boolean)).before args0 about1 = true := code_word (m := ⟨14, 2⟩) (meth := k14m2) (c := k14c2) (by decide +kernel) rfl rfl rfl (by decide +kernel)
set_option maxRecDepth 65536 in
theorem w_c26 : (Jvm.Cond.code ({ cls := "java/lang/String", name := "indexOf", desc := "(I)I" } : Jvm.MethodName) jdk_42_method_79_code (2 : Nat) (Option.some Jvm.ClassFile.FieldType.int)).before args0 about1 = true := code_word (m := ⟨7, 8⟩) (meth := k7m8) (c := k7c8) (by decide +kernel) rfl rfl rfl (by decide +kernel)
set_option maxRecDepth 65536 in
theorem w_c27 : (Jvm.Cond.code ({ cls := "java/lang/String", name := "indexOf", desc := "(II)I" } : Jvm.MethodName) jdk_42_method_80_code (3 : Nat) (Option.some Jvm.ClassFile.FieldType.int)).before args0 about1 = true := code_word (m := ⟨7, 9⟩) (meth := k7m9) (c := k7c9) (by decide +kernel) rfl rfl rfl (by decide +kernel)
set_option maxRecDepth 65536 in
theorem w_c28 : (Jvm.Cond.code ({ cls := "java/lang/StringLatin1", name := "indexOf", desc := "([BIII)I" } : Jvm.MethodName) jdk_43_method_22_code (4 : Nat) (Option.some Jvm.ClassFile.FieldType.int)).before args0 about1 = true := code_word (m := ⟨9, 4⟩) (meth := k9m4) (c := k9c4) (by decide +kernel) rfl rfl rfl (by decide +kernel)
set_option maxRecDepth 65536 in
theorem w_c29 : (Jvm.Cond.code ({ cls := "java/lang/StringLatin1", name := "canEncode", desc := "(I)Z" } : Jvm.MethodName) jdk_43_method_4_code (1 : Nat) (Option.some Jvm.ClassFile.FieldType.boolean)).before args0 about1 = true := code_word (m := ⟨9, 2⟩) (meth := k9m2) (c := k9c2) (by decide +kernel) rfl rfl rfl (by decide +kernel)
set_option maxRecDepth 65536 in
theorem w_c30 : (Jvm.Cond.code ({ cls := "java/lang/Math", name := "max", desc := "(II)I" } : Jvm.MethodName) jdk_29_method_65_code (2 : Nat) (Option.some Jvm.ClassFile.FieldType.int)).before args0 about1 = true := code_word (m := ⟨16, 1⟩) (meth := k16m1) (c := k16c1) (by decide +kernel) rfl rfl rfl (by decide +kernel)
set_option maxRecDepth 65536 in
theorem w_c31 : (Jvm.Cond.code ({ cls := "java/lang/Math", name := "min", desc := "(II)I" } : Jvm.MethodName) jdk_29_method_69_code (2 : Nat) (Option.some Jvm.ClassFile.FieldType.int)).before args0 about1 = true := code_word (m := ⟨16, 2⟩) (meth := k16m2) (c := k16c2) (by decide +kernel) rfl rfl rfl (by decide +kernel)
set_option maxRecDepth 65536 in
theorem w_c32 : (Jvm.Cond.code ({ cls := "java/lang/StringLatin1", name := "indexOfChar", desc := "([BIII)I" } : Jvm.MethodName) jdk_43_method_23_code (6 : Nat) (Option.some Jvm.ClassFile.FieldType.int)).before args0 about1 = true := code_word (m := ⟨9, 5⟩) (meth := k9m5) (c := k9c5) (by decide +kernel) rfl rfl rfl (by decide +kernel)
set_option maxRecDepth 65536 in
theorem w_c33 : (Jvm.Cond.code ({ cls := "com/example/callsite/callsite/model/JvmNames", name := "isUnqualifiedName", desc := "(Ljava/lang/String;II)Z" } : Jvm.MethodName) prog_120_method_14_code (4 : Nat) (Option.some Jvm.ClassFile.FieldType.boolean)).before args0 about1 = true := code_word (m := ⟨14, 8⟩) (meth := k14m8) (c := k14c8) (by decide +kernel) rfl rfl rfl (by decide +kernel)
set_option maxRecDepth 65536 in
theorem w_c34 : (Jvm.Cond.code ({ cls := "com/example/callsite/callsite/model/JvmNames", name := "isMethodName", desc := "(Ljava/lang/String;)Z" } : Jvm.MethodName) prog_120_method_4_code (1 : Nat) (Option.some Jvm.ClassFile.FieldType.boolean)).before args0 about1 = true := code_word (m := ⟨14, 3⟩) (meth := k14m3) (c := k14c3) (by decide +kernel) rfl rfl rfl (by decide +kernel)
set_option maxRecDepth 65536 in
theorem w_c35 : (Jvm.Cond.code ({ cls := "com/example/callsite/callsite/model/JvmNames", name := "isInitialiserName", desc := "(Ljava/lang/String;)Z" } : Jvm.MethodName) prog_120_method_5_code (1 : Nat) (Option.some Jvm.ClassFile.FieldType.boolean)).before args0 about1 = true := code_word (m := ⟨14, 4⟩) (meth := k14m4) (c := k14c4) (by decide +kernel) rfl rfl rfl (by decide +kernel)
set_option maxRecDepth 65536 in
theorem w_c36 : (Jvm.Cond.code ({ cls := "java/lang/String", name := "equals", desc := "(Ljava/lang/Object;)Z" } : Jvm.MethodName) jdk_42_method_66_code (3 : Nat) (Option.some Jvm.ClassFile.FieldType.boolean)).before args0 about1 = true := code_word (m := ⟨7, 4⟩) (meth := k7m4) (c := k7c4) (by decide +kernel) rfl rfl rfl (by decide +kernel)
set_option maxRecDepth 65536 in
theorem w_c37 : (Jvm.Cond.code ({ cls := "java/lang/StringLatin1", name := "equals", desc := "([B[B)Z" } : Jvm.MethodName) jdk_43_method_13_code (3 : Nat) (Option.some Jvm.ClassFile.FieldType.boolean)).before args0 about1 = true := code_word (m := ⟨9, 3⟩) (meth := k9m3) (c := k9c3) (by decide +kernel) rfl rfl rfl (by decide +kernel)
set_option maxRecDepth 65536 in
theorem w_c38 : (Jvm.Cond.code ({ cls := "com/example/callsite/callsite/model/JvmNames", name := "methodDescriptorRefusal", desc := "(Ljava/lang/String;Ljava/lang/String;)Ljava/lang/String;" } : Jvm.MethodName) prog_120_method_9_code (3 : Nat) (Option.some (Jvm.ClassFile.FieldType.object "java/lang/String"))).before args0 about1 = true := code_word (m := ⟨14, 6⟩) (meth := k14m6) (c := k14c6) (by decide +kernel) rfl rfl rfl (by decide +kernel)
set_option maxRecDepth 65536 in
theorem w_c39 : (Jvm.Cond.code ({ cls := "com/example/callsite/callsite/model/JvmNames", name := "parameterUnits", desc := "(Ljava/lang/String;)I" } : Jvm.MethodName) prog_120_method_8_code (5 : Nat) (Option.some Jvm.ClassFile.FieldType.int)).before args0 about1 = true := code_word (m := ⟨14, 5⟩) (meth := k14m5) (c := k14c5) (by decide +kernel) rfl rfl rfl (by decide +kernel)
set_option maxRecDepth 65536 in
theorem w_c40 : (Jvm.Cond.code ({ cls := "com/example/callsite/callsite/model/JvmNames", name := "fieldTypeEnd", desc := "(Ljava/lang/String;IC)I" } : Jvm.MethodName) prog_120_method_15_code (6 : Nat) (Option.some Jvm.ClassFile.FieldType.int)).before args0 about1 = true := code_word (m := ⟨14, 9⟩) (meth := k14m9) (c := k14c9) (by decide +kernel) rfl rfl rfl (by decide +kernel)
set_option maxRecDepth 65536 in
theorem w_c41 : (Jvm.Cond.code ({ cls := "com/example/callsite/callsite/model/JvmNames", name := "initialiserRefusal", desc := "(Ljava/lang/String;Ljava/lang/String;)Ljava/lang/String;" } : Jvm.MethodName) prog_120_method_13_code (2 : Nat) (Option.some (Jvm.ClassFile.FieldType.object "java/lang/String"))).before args0 about1 = true := code_word (m := ⟨14, 7⟩) (meth := k14m7) (c := k14c7) (by decide +kernel) rfl rfl rfl (by decide +kernel)
set_option maxRecDepth 65536 in
theorem w_c42 : (Jvm.Cond.code ({ cls := "java/lang/String", name := "endsWith", desc := "(Ljava/lang/String;)Z" } : Jvm.MethodName) jdk_42_method_77_code (2 : Nat) (Option.some Jvm.ClassFile.FieldType.boolean)).before args0 about1 = true := code_word (m := ⟨7, 7⟩) (meth := k7m7) (c := k7c7) (by decide +kernel) rfl rfl rfl (by decide +kernel)
set_option maxRecDepth 65536 in
theorem w_c43 : (Jvm.Cond.code ({ cls := "com/example/callsite/callsite/model/MethodId", name := "equals", desc := "(Ljava/lang/Object;)Z" } : Jvm.MethodName) prog_126_method_9_code (3 : Nat) (Option.some Jvm.ClassFile.FieldType.boolean)).before args0 about1 = true := code_word (m := ⟨13, 1⟩) (meth := k13m1) (c := k13c1) (by decide +kernel) rfl rfl rfl (by decide +kernel)
set_option maxRecDepth 65536 in
theorem w_c44 : (Jvm.Cond.code ({ cls := "com/example/callsite/callsite/model/MethodIdEqualsPinLaw", name := "methodChar", desc := "(I)C" } : Jvm.MethodName) method_3_code (2 : Nat) (Option.some Jvm.ClassFile.FieldType.char)).before args0 about1 = true := code_word (m := ⟨1, 2⟩) (meth := k1m2) (c := k1c2) (by decide +kernel) rfl rfl rfl (by decide +kernel)
def codes1 : List Jvm.Cond := [Jvm.Cond.code x code maxLocals ret, Jvm.Cond.code ({ cls := "com/example/callsite/callsite/model/MethodIdEqualsPinLaw", name := "className", desc := "(II)Ljava/lang/String;" } : Jvm.MethodName) method_4_code (4 : Nat) (Option.some (Jvm.ClassFile.FieldType.object "java/lang/String")), Jvm.Cond.code ({ cls := "com/example/callsite/callsite/model/MethodIdEqualsPinLaw", name := "classChar", desc := "(I)C" } : Jvm.MethodName) method_2_code (2 : Nat) (Option.some Jvm.ClassFile.FieldType.char), Jvm.Cond.code ({ cls := "java/lang/String", name := "<init>", desc := "([C)V" } : Jvm.MethodName) jdk_42_method_3_code (2 : Nat) (Option.none : Option Jvm.ClassFile.FieldType), Jvm.Cond.code ({ cls := "java/lang/String", name := "<init>", desc := "([CIILjava/lang/Void;)V" } : Jvm.MethodName) jdk_42_method_149_code (6 : Nat) (Option.none : Option Jvm.ClassFile.FieldType), Jvm.Cond.code ({ cls := "java/lang/Object", name := "<init>", desc := "()V" } : Jvm.MethodName) object_method_1_code (1 : Nat) (Option.none : Option Jvm.ClassFile.FieldType), Jvm.Cond.code ({ cls := "java/lang/StringUTF16", name := "compress", desc := "([CII)[B" } : Jvm.MethodName) jdk_52_method_16_code (6 : Nat) (Option.some (Jvm.ClassFile.FieldType.array Jvm.ClassFile.FieldType.byte)), Jvm.Cond.code ({ cls := "java/lang/StringUTF16", name := "compress", desc := "([CI[BII)I" } : Jvm.MethodName) jdk_52_method_21_code (7 : Nat) (Option.some Jvm.ClassFile.FieldType.int), Jvm.Cond.code ({ cls := "java/lang/StringUTF16", name := "coderFromArrayLen", desc := "([BI)B" } : Jvm.MethodName) jdk_52_method_15_code (2 : Nat) (Option.some Jvm.ClassFile.FieldType.byte), Jvm.Cond.code ({ cls := "com/example/callsite/callsite/model/MethodIdEqualsPinLaw", name := "methodName", desc := "(II)Ljava/lang/String;" } : Jvm.MethodName) method_5_code (3 : Nat) (Option.some (Jvm.ClassFile.FieldType.object "java/lang/String")), Jvm.Cond.code ({ cls := "com/example/callsite/callsite/model/MethodIdEqualsPinLaw", name := "descriptor", desc := "(II)Ljava/lang/String;" } : Jvm.MethodName) method_7_code (4 : Nat) (Option.some (Jvm.ClassFile.FieldType.object "java/lang/String")), Jvm.Cond.code ({ cls := "com/example/callsite/callsite/model/MethodIdEqualsPinLaw", name := "baseType", desc := "(I)C" } : Jvm.MethodName) method_6_code (1 : Nat) (Option.some Jvm.ClassFile.FieldType.char), Jvm.Cond.code ({ cls := "java/lang/String", name := "charAt", desc := "(I)C" } : Jvm.MethodName) jdk_42_method_56_code (2 : Nat) (Option.some Jvm.ClassFile.FieldType.char), Jvm.Cond.code ({ cls := "java/lang/String", name := "isLatin1", desc := "()Z" } : Jvm.MethodName) jdk_42_method_154_code (1 : Nat) (Option.some Jvm.ClassFile.FieldType.boolean), Jvm.Cond.code ({ cls := "java/lang/StringLatin1", name := "charAt", desc := "([BI)C" } : Jvm.MethodName) jdk_43_method_2_code (2 : Nat) (Option.some Jvm.ClassFile.FieldType.char), Jvm.Cond.code ({ cls := "java/lang/String", name := "checkIndex", desc := "(II)V" } : Jvm.MethodName) jdk_42_method_155_code (2 : Nat) (Option.none : Option Jvm.ClassFile.FieldType), Jvm.Cond.code ({ cls := "jdk/internal/util/Preconditions", name := "checkIndex", desc := "(IILjava/util/function/BiFunction;)I" } : Jvm.MethodName) jdk_41_method_11_code (3 : Nat) (Option.some Jvm.ClassFile.FieldType.int), Jvm.Cond.code ({ cls := "com/example/callsite/callsite/model/MethodId", name := "<init>", desc := "(Ljava/lang/String;Ljava/lang/String;Ljava/lang/String;)V" } : Jvm.MethodName) prog_126_method_1_code (5 : Nat) (Option.none : Option Jvm.ClassFile.FieldType), Jvm.Cond.code ({ cls := "java/lang/Record", name := "<init>", desc := "()V" } : Jvm.MethodName) jdk_30_method_1_code (1 : Nat) (Option.none : Option Jvm.ClassFile.FieldType), Jvm.Cond.code ({ cls := "com/example/callsite/callsite/model/JvmNames", name := "isClassName", desc := "(Ljava/lang/String;C)Z" } : Jvm.MethodName) prog_120_method_2_code (2 : Nat) (Option.some Jvm.ClassFile.FieldType.boolean), Jvm.Cond.code ({ cls := "java/lang/String", name := "startsWith", desc := "(Ljava/lang/String;)Z" } : Jvm.MethodName) jdk_42_method_76_code (2 : Nat) (Option.some Jvm.ClassFile.FieldType.boolean), Jvm.Cond.code ({ cls := "java/lang/String", name := "startsWith", desc := "(Ljava/lang/String;I)Z" } : Jvm.MethodName) jdk_42_method_75_code (8 : Nat) (Option.some Jvm.ClassFile.FieldType.boolean), Jvm.Cond.code ({ cls := "java/lang/String", name := "length", desc := "()I" } : Jvm.MethodName) jdk_42_method_54_code (1 : Nat) (Option.some Jvm.ClassFile.FieldType.int), Jvm.Cond.code ({ cls := "java/lang/String", name := "coder", desc := "()B" } : Jvm.MethodName) jdk_42_method_152_code (1 : Nat) (Option.some Jvm.ClassFile.FieldType.byte), Jvm.Cond.code ({ cls := "jdk/internal/util/ArraysSupport", name := "mismatch", desc := "([BI[BII)I" } : Jvm.MethodName) jdk_48_method_14_code (8 : Nat) (Option.some Jvm.ClassFile.FieldType.int), Jvm.Cond.code ({ cls := "com/example/callsite/callsite/model/JvmNames", name := "isBinaryName", desc := "(Ljava/lang/String;C)Z" } : Jvm.MethodName) prog_120_method_3_code (4 : Nat) (Option.some Jvm.ClassFile.FieldType.boolean), Jvm.Cond.code ({ cls := "java/lang/String", name := "indexOf", desc := "(I)I" } : Jvm.MethodName) jdk_42_method_79_code (2 : Nat) (Option.some Jvm.ClassFile.FieldType.int), Jvm.Cond.code ({ cls := "java/lang/String", name := "indexOf", desc := "(II)I" } : Jvm.MethodName) jdk_42_method_80_code (3 : Nat) (Option.some Jvm.ClassFile.FieldType.int), Jvm.Cond.code ({ cls := "java/lang/StringLatin1", name := "indexOf", desc := "([BIII)I" } : Jvm.MethodName) jdk_43_method_22_code (4 : Nat) (Option.some Jvm.ClassFile.FieldType.int), Jvm.Cond.code ({ cls := "java/lang/StringLatin1", name := "canEncode", desc := "(I)Z" } : Jvm.MethodName) jdk_43_method_4_code (1 : Nat) (Option.some Jvm.ClassFile.FieldType.boolean), Jvm.Cond.code ({ cls := "java/lang/Math", name := "max", desc := "(II)I" } : Jvm.MethodName) jdk_29_method_65_code (2 : Nat) (Option.some Jvm.ClassFile.FieldType.int), Jvm.Cond.code ({ cls := "java/lang/Math", name := "min", desc := "(II)I" } : Jvm.MethodName) jdk_29_method_69_code (2 : Nat) (Option.some Jvm.ClassFile.FieldType.int), Jvm.Cond.code ({ cls := "java/lang/StringLatin1", name := "indexOfChar", desc := "([BIII)I" } : Jvm.MethodName) jdk_43_method_23_code (6 : Nat) (Option.some Jvm.ClassFile.FieldType.int), Jvm.Cond.code ({ cls := "com/example/callsite/callsite/model/JvmNames", name := "isUnqualifiedName", desc := "(Ljava/lang/String;II)Z" } : Jvm.MethodName) prog_120_method_14_code (4 : Nat) (Option.some Jvm.ClassFile.FieldType.boolean), Jvm.Cond.code ({ cls := "com/example/callsite/callsite/model/JvmNames", name := "isMethodName", desc := "(Ljava/lang/String;)Z" } : Jvm.MethodName) prog_120_method_4_code (1 : Nat) (Option.some Jvm.ClassFile.FieldType.boolean), Jvm.Cond.code ({ cls := "com/example/callsite/callsite/model/JvmNames", name := "isInitialiserName", desc := "(Ljava/lang/String;)Z" } : Jvm.MethodName) prog_120_method_5_code (1 : Nat) (Option.some Jvm.ClassFile.FieldType.boolean), Jvm.Cond.code ({ cls := "java/lang/String", name := "equals", desc := "(Ljava/lang/Object;)Z" } : Jvm.MethodName) jdk_42_method_66_code (3 : Nat) (Option.some Jvm.ClassFile.FieldType.boolean), Jvm.Cond.code ({ cls := "java/lang/StringLatin1", name := "equals", desc := "([B[B)Z" } : Jvm.MethodName) jdk_43_method_13_code (3 : Nat) (Option.some Jvm.ClassFile.FieldType.boolean), Jvm.Cond.code ({ cls := "com/example/callsite/callsite/model/JvmNames", name := "methodDescriptorRefusal", desc := "(Ljava/lang/String;Ljava/lang/String;)Ljava/lang/String;" } : Jvm.MethodName) prog_120_method_9_code (3 : Nat) (Option.some (Jvm.ClassFile.FieldType.object "java/lang/String")), Jvm.Cond.code ({ cls := "com/example/callsite/callsite/model/JvmNames", name := "parameterUnits", desc := "(Ljava/lang/String;)I" } : Jvm.MethodName) prog_120_method_8_code (5 : Nat) (Option.some Jvm.ClassFile.FieldType.int), Jvm.Cond.code ({ cls := "com/example/callsite/callsite/model/JvmNames", name := "fieldTypeEnd", desc := "(Ljava/lang/String;IC)I" } : Jvm.MethodName) prog_120_method_15_code (6 : Nat) (Option.some Jvm.ClassFile.FieldType.int), Jvm.Cond.code ({ cls := "com/example/callsite/callsite/model/JvmNames", name := "initialiserRefusal", desc := "(Ljava/lang/String;Ljava/lang/String;)Ljava/lang/String;" } : Jvm.MethodName) prog_120_method_13_code (2 : Nat) (Option.some (Jvm.ClassFile.FieldType.object "java/lang/String")), Jvm.Cond.code ({ cls := "java/lang/String", name := "endsWith", desc := "(Ljava/lang/String;)Z" } : Jvm.MethodName) jdk_42_method_77_code (2 : Nat) (Option.some Jvm.ClassFile.FieldType.boolean), Jvm.Cond.code ({ cls := "com/example/callsite/callsite/model/MethodId", name := "equals", desc := "(Ljava/lang/Object;)Z" } : Jvm.MethodName) prog_126_method_9_code (3 : Nat) (Option.some Jvm.ClassFile.FieldType.boolean), Jvm.Cond.code ({ cls := "com/example/callsite/callsite/model/MethodIdEqualsPinLaw", name := "methodChar", desc := "(I)C" } : Jvm.MethodName) method_3_code (2 : Nat) (Option.some Jvm.ClassFile.FieldType.char)]
set_option maxRecDepth 65536 in
theorem codes_eq : words1.filter isCode = codes1 := rfl
theorem w_codes : ∀ c ∈ words1.filter isCode, c.before args0 about1 = true := by
  rw [codes_eq]
  intro c hc
  simp only [codes1, List.mem_cons, List.not_mem_nil, or_false] at hc
  rcases hc with rfl | rfl | rfl | rfl | rfl | rfl | rfl | rfl | rfl | rfl | rfl | rfl | rfl | rfl | rfl | rfl | rfl | rfl | rfl | rfl | rfl | rfl | rfl | rfl | rfl | rfl | rfl | rfl | rfl | rfl | rfl | rfl | rfl | rfl | rfl | rfl | rfl | rfl | rfl | rfl | rfl | rfl | rfl | rfl | rfl
  · exact w_c0
  · exact w_c1
  · exact w_c2
  · exact w_c3
  · exact w_c4
  · exact w_c5
  · exact w_c6
  · exact w_c7
  · exact w_c8
  · exact w_c9
  · exact w_c10
  · exact w_c11
  · exact w_c12
  · exact w_c13
  · exact w_c14
  · exact w_c15
  · exact w_c16
  · exact w_c17
  · exact w_c18
  · exact w_c19
  · exact w_c20
  · exact w_c21
  · exact w_c22
  · exact w_c23
  · exact w_c24
  · exact w_c25
  · exact w_c26
  · exact w_c27
  · exact w_c28
  · exact w_c29
  · exact w_c30
  · exact w_c31
  · exact w_c32
  · exact w_c33
  · exact w_c34
  · exact w_c35
  · exact w_c36
  · exact w_c37
  · exact w_c38
  · exact w_c39
  · exact w_c40
  · exact w_c41
  · exact w_c42
  · exact w_c43
  · exact w_c44
set_option maxRecDepth 65536 in
theorem w_t1 : (words1.take 24).all (fun c => isCode c || c.before args0 about1) = true := by decide +kernel
set_option maxRecDepth 65536 in
theorem w_t2 : ((words1.drop 24).take 24).all (fun c => isCode c || c.before args0 about1) = true := by decide +kernel
set_option maxRecDepth 65536 in
theorem w_t3 : (((words1.drop 24).drop 24).take 24).all (fun c => isCode c || c.before args0 about1) = true := by decide +kernel
set_option maxRecDepth 65536 in
theorem w_t4 : ((((words1.drop 24).drop 24).drop 24).take 24).all (fun c => isCode c || c.before args0 about1) = true := by decide +kernel
set_option maxRecDepth 65536 in
theorem w_t5 : (((((words1.drop 24).drop 24).drop 24).drop 24).take 24).all (fun c => isCode c || c.before args0 about1) = true := by decide +kernel
set_option maxRecDepth 65536 in
theorem w_t6 : ((((((words1.drop 24).drop 24).drop 24).drop 24).drop 24).take 24).all (fun c => isCode c || c.before args0 about1) = true := by decide +kernel
set_option maxRecDepth 65536 in
theorem w_t7 : (((((((words1.drop 24).drop 24).drop 24).drop 24).drop 24).drop 24).take 24).all (fun c => isCode c || c.before args0 about1) = true := by decide +kernel
set_option maxRecDepth 65536 in
theorem w_t8 : ((((((((words1.drop 24).drop 24).drop 24).drop 24).drop 24).drop 24).drop 24).take 24).all (fun c => isCode c || c.before args0 about1) = true := by decide +kernel
set_option maxRecDepth 65536 in
theorem w_t9 : ((((((((words1.drop 24).drop 24).drop 24).drop 24).drop 24).drop 24).drop 24).drop 24).all (fun c => isCode c || c.before args0 about1) = true := by decide +kernel
theorem w_tables : (allAtoms (Jvm.Cond.code x code maxLocals ret :: tables_1)).before args0 about1 = true := by
  rw [allAtoms_all]
  show words1.all (fun c => c.before args0 about1) = true
  refine all_split ?_ w_codes
  rw [← List.take_append_drop 24 words1, List.all_append, w_t1, ← List.take_append_drop 24 (words1.drop 24), List.all_append, w_t2, ← List.take_append_drop 24 ((words1.drop 24).drop 24), List.all_append, w_t3, ← List.take_append_drop 24 (((words1.drop 24).drop 24).drop 24), List.all_append, w_t4, ← List.take_append_drop 24 ((((words1.drop 24).drop 24).drop 24).drop 24), List.all_append, w_t5, ← List.take_append_drop 24 (((((words1.drop 24).drop 24).drop 24).drop 24).drop 24), List.all_append, w_t6, ← List.take_append_drop 24 ((((((words1.drop 24).drop 24).drop 24).drop 24).drop 24).drop 24), List.all_append, w_t7, ← List.take_append_drop 24 (((((((words1.drop 24).drop 24).drop 24).drop 24).drop 24).drop 24).drop 24), List.all_append, w_t8, w_t9]
  rfl
set_option maxRecDepth 65536 in
theorem w_rest : rest_1_c.before args0 about1 = true := by decide +kernel
set_option maxRecDepth 65536 in
theorem w_case : (Jvm.Cond.and given_1 narrow_1).before args0 about1 = true := by decide +kernel
set_option maxRecDepth 65536 in
theorem w_consts : constsHeld consts_1 about1 := Jvm.Lit.constsHeldB_iff.mp (by decide +kernel)
theorem w_applies : (headSpec (Jvm.Cond.code x code maxLocals ret :: tables_1) room_1).applies x e0.platform about1 = true :=
  (Spec.applies_iff w_frames).mpr ⟨w_running, w_runnable, w_alone, w_named, w_hears, w_ripe, w_room, w_tables⟩
theorem atStart : AtStart classFile x code maxLocals ret World_1 tables_1 room_1 Calls_1 rest_1 Pre_1 launch0 p0 e0 about1 theMethod args0 below0 :=
  ⟨lists_1, trivial, launch0.admits_env _ _ _, launch0.least_env, fairChoices_fair.cas, fairChoices_fair.clock, w_frames, w_args, w_heap, w_applies, ⟨w_consts, trivial⟩, w_rest, w_case⟩
end start1
theorem witness_1 : WitnessClaimed_1 := ⟨start1.p0, start1.e0, start1.about1, start1.theMethod, start1.args0, start1.below0, start1.atStart⟩
end Jvm.Pilot.@@N@@
