import JvmDerived
import JvmDerived.Pilot.@@N@@Statement
import JvmDerived.Pilot.@@N@@Code
set_option linter.unusedVariables false
set_option linter.unusedSimpArgs false
namespace Jvm.RoadKit
open Sem ClassFile Op Lib Jvm.Stand Jvm.Free Jvm.LawKit
section New
variable {p : Program} {l : Launch} {e : Env} {R : Room} {s : State} {m : MethodId} {args : Array Value} {below : List Frame} {meth : Method} {c : Code} {T : State} {locs : List Loc} {cells slots : Nat}
theorem retI (X : Stand p l e R s m args below meth c T locs cells slots) (hx : p.tables.exec = Jvm.exec) {pc : Nat} {Ls : Array Slot} {z : Int32} {rest : List Value} (hret : meth.sig.returnType = some .int) (hd : decode c.code pc = .ok (.ireturn, 1)) {fs : List Frame}
    (hl : ∀ (f : JFrame) (acts : List Action), f.method = m → f.locked = none → f.entered = [] → (doReturn e (T.setTop f) acts (some (.int z))).1 = T.setFrames fs) : Steps p.tables e below (T.setTop (mkF m pc Ls (.int z :: rest))) (T.setFrames fs) := by
  have hm' : T.vm.method? m = some meth := X.method'
  have hn : narrow .int (.int z) = .int z := rfl
  show Steps p.tables e below (T.setTop { method := m, pc := pc, locals := Ls, stack := _ :: rest, locked := none }) _
  jvm_step X.here [X.here.top, hx, hd, hm', hret, hn]
  first | (intro acts; rw [hl _ acts rfl rfl rfl]) | rw [hl _ _ rfl rfl rfl]
  exact Steps.refl _
end New
end Jvm.RoadKit
/- laws to paste: Road.backV, Road.eqW, Road.codOf (cut by pick.py; bodies as the Statement names them) -/
namespace Jvm.Pilot.@@N@@
namespace StrChars
open Jvm Sem ClassFile Op Lib Jvm.Stand Jvm.Free.XT Jvm.Free.ALB Jvm.Free.JM Jvm.Free
open Jvm.Lib.Cold (StaticIs)
/-- a char array whose places are chars -/
def Ch (a : Addr) (A : Cell) (U : State) : Prop := Arr .char a A U ∧ Typed .char A
theorem Ch.mv {a : Addr} {A : Cell} {U U' : State} (h : Ch a A U) (hal : U.vm.Alike U'.vm) (hh : U'.heap = U.heap) : Ch a A U' := ⟨h.1.mv hal hh, h.2⟩
theorem Ch.keep {a : Addr} {A : Cell} {U U' : State} (h : Ch a A U) (hal : U.vm.Alike U'.vm) (hk : U'.heap[a]? = some A) : Ch a A U' := ⟨h.1.keep hal hk, h.2⟩
/-- what place i of a char[]'s cell holds -/
def cv (A : Cell) (i : Nat) : Int32 := match A.slots[i]? with | some (.int x) => x | _ => 0
theorem Ch.get {a : Addr} {A : Cell} {U : State} (h : Ch a A U) {i : Nat} (hi : i < A.slots.size) : A.slots[i]? = some (.int (cv A i)) := by
  have e := Array.getElem?_eq_getElem hi
  have f := h.2 i _ e
  unfold cv; rw [e]
  generalize A.slots[i] = v at f
  cases v <;> simp [fits] at f ⊢
/-- the byte that i2b leaves of a char -/
def lo8 (x : Int32) : Int32 := x.toInt8.toInt32
theorem fits_lo8 (y : Int32) : fits .byte (.int (lo8 y)) = true := by
  have h1 := y.toInt8.le_toInt
  have h2 := y.toInt8.toInt_lt
  simp only [lo8, fits, Bool.and_eq_true, decide_eq_true_eq, Int32.le_iff_toInt_le, Int8.toInt_toInt32, show (-128 : Int32).toInt = -128 from by decide, show (127 : Int32).toInt = 127 from by decide]
  omega
/-- A' is A but that each place j of lo .. hi - 1 holds f j -/
def Laid (A A' : Cell) (lo hi : Nat) (f : Nat → Value) : Prop := A'.cls = A.cls ∧ A'.vm = A.vm ∧ A'.slots.size = A.slots.size ∧ ∀ i, A'.slots[i]? = if lo ≤ i ∧ i < hi then some (f i) else A.slots[i]?
theorem Laid.zero (A : Cell) (lo : Nat) (f : Nat → Value) : Laid A A lo (lo + 0) f := ⟨rfl, rfl, rfl, fun i => by rw [if_neg (by omega)]⟩
theorem Laid.step {A Ak : Cell} {lo k : Nat} {f : Nat → Value} {v : Value} (h : Laid A Ak lo k f) (hlo : lo ≤ k) (hk : k < Ak.slots.size) (hv : v = f k) : Laid A (Ak.setSlot k v) lo (k + 1) f := by
  refine ⟨h.1, h.2.1, by simpa [Cell.setSlot] using h.2.2.1, fun i => ?_⟩
  by_cases e : k = i
  · subst e; rw [Cell.slots_setSlot_self v hk, if_pos (by omega), hv]
  · rw [Cell.slots_setSlot_ne v e, h.2.2.2 i]
    by_cases q : lo ≤ i ∧ i < k
    · rw [if_pos q, if_pos (by omega)]
    · rw [if_neg q, if_neg (by omega)]
def U16 : String := "java/lang/StringUTF16"
namespace Cmp5
def yN : MethodName := ⟨"java/lang/StringUTF16", "compress", "([CI[BII)I"⟩
abbrev yB : ByteArray := jdk_52_method_21_code
theorem d0 : decode yB 0 = .ok (.iconst 0, 1) := by decide +kernel
theorem d1 : decode yB 1 = .ok (.istore 5, 2) := by decide +kernel
theorem d3 : decode yB 3 = .ok (.iload 5, 2) := by decide +kernel
theorem d5 : decode yB 5 = .ok (.iload 4, 2) := by decide +kernel
theorem d7 : decode yB 7 = .ok (.if_icmp (.ge) 37, 3) := by decide +kernel
theorem d10 : decode yB 10 = .ok (.aload_n 0, 1) := by decide +kernel
theorem d11 : decode yB 11 = .ok (.iload_n 1, 1) := by decide +kernel
theorem d12 : decode yB 12 = .ok (.caload, 1) := by decide +kernel
theorem d13 : decode yB 13 = .ok (.istore 6, 2) := by decide +kernel
theorem d15 : decode yB 15 = .ok (.iload 6, 2) := by decide +kernel
theorem d17 : decode yB 17 = .ok (.sipush 255, 3) := by decide +kernel
theorem d20 : decode yB 20 = .ok (.if_icmp (.le) 6, 3) := by decide +kernel
theorem d26 : decode yB 26 = .ok (.aload_n 2, 1) := by decide +kernel
theorem d27 : decode yB 27 = .ok (.iload_n 3, 1) := by decide +kernel
theorem d28 : decode yB 28 = .ok (.iload 6, 2) := by decide +kernel
theorem d30 : decode yB 30 = .ok (.i2b, 1) := by decide +kernel
theorem d31 : decode yB 31 = .ok (.bastore, 1) := by decide +kernel
theorem d32 : decode yB 32 = .ok (.iinc 1 1, 3) := by decide +kernel
theorem d35 : decode yB 35 = .ok (.iinc 3 1, 3) := by decide +kernel
theorem d38 : decode yB 38 = .ok (.iinc 5 1, 3) := by decide +kernel
theorem d41 : decode yB 41 = .ok (.goto (-38), 3) := by decide +kernel
theorem d44 : decode yB 44 = .ok (.iload 4, 2) := by decide +kernel
theorem d46 : decode yB 46 = .ok (.ireturn, 1) := by decide +kernel
def site : List Cond := []
def tab : Cond := tabOf yN yB 7 (some .int) site
def P (b : Addr) (A : Cell) (d : Addr) (B : Cell) (o q len : Nat) (args : Array Value) (s : State) : Prop := args = #[.ref b, .int (Int32.ofNat o), .ref d, .int (Int32.ofNat q), .int (Int32.ofNat len)] ∧ Ch b A s ∧ Arr .byte d B s ∧ b ≠ d ∧ o + len ≤ A.slots.size ∧ q + len ≤ B.slots.size ∧ ∀ i, i < len → ¬ 255 < cv A (o + i)
def E (b : Addr) (A : Cell) (d : Addr) (B : Cell) (o q len : Nat) (r : Option Value) (s u : State) : Prop := r = some (.int (Int32.ofNat len)) ∧ ∃ B', Put d B' s u ∧ Laid B B' q (q + len) (fun j => Value.int (lo8 (cv A (o + (j - q)))))
/-- no char of the range above 255: len; the places written hold each char's low byte -/
theorem law (l : Launch) (b : Addr) (A : Cell) (d : Addr) (B : Cell) (o q len : Nat) : Law l yN 5 5 0 0 yB 7 (some .int) site (P b A d B o q len) (E b A d B o q len) (copyLocs d q len) 0 0 := by
  refine Law.of_walk (plainFor_of_name (by decide +kernel)) (by decide +kernel) (by decide +kernel) (by decide) (fun _ _ h => by rw [h.1]; rfl) (fun _ U U' hal hh h => ⟨h.1, h.2.1.mv hal hh, h.2.2.1.mv hal hh, h.2.2.2⟩) (fun r U U' V V' h1 hal h2 h => ⟨h.1, h.2.elim fun B' q => ⟨B', q.1.mv h1 h2, q.2⟩⟩) ?_
  intro p e s m args below meth c s₁ X0 hexec hbytes hml hret hlk hnm hown hh0 W hP
  obtain ⟨rfl, hA, hB, hne, l1, l2, hp⟩ := hP
  have c1 : Steps p.tables e below (s₁.setTop (entryFrame m #[.ref b, .int (Int32.ofNat o), .ref d, .int (Int32.ofNat q), .int (Int32.ofNat len)] 7)) (s₁.setTop (mkF m 0 #[.val (.ref b), .val (.int (Int32.ofNat o)), .val (.ref d), .val (.int (Int32.ofNat q)), .val (.int (Int32.ofNat len)), .unset, .unset] [])) := entry rfl
  have hA0 := hA.1.mv X0.warmed.alike hh0
  have hB0 := hB.mv X0.warmed.alike hh0
  have a31 := hA.1.2.2.2
  have c2 : Steps p.tables e below (s₁.setTop (entryFrame m #[.ref b, .int (Int32.ofNat o), .ref d, .int (Int32.ofNat q), .int (Int32.ofNat len)] 7)) (s₁.setTop (mkF m 3 #[.val (.ref b), .val (.int (Int32.ofNat o)), .val (.ref d), .val (.int (Int32.ofNat q)), .val (.int (Int32.ofNat len)), .val (.int 0), .unset] [])) := c1.trans (by
    refine iconstV X0.here hexec rfl 0 (hb hbytes d0) (by decide) ?_
    refine XS.istore X0.here hexec rfl (hb hbytes d1) rfl rfl ?_
    exact Steps.refl _)
  have loop : ∀ (r i : Nat), i + r = len → ∀ (z : Slot), (z = .unset ∨ ∃ w, z = .val w ∧ w.category = 1) → ∀ (Tl : State) (Bk : Cell), Stand p l e { frames := 0, locals := 0, cells := 0, slots := 0 } s m #[.ref b, .int (Int32.ofNat o), .ref d, .int (Int32.ofNat q), .int (Int32.ofNat len)] below meth c Tl ([] ++ copyLocs d q i) 0 0 → Put d Bk s₁ Tl → Laid B Bk q (q + i) (fun j => Value.int (lo8 (cv A (o + (j - q))))) →
      Steps p.tables e below (s₁.setTop (entryFrame m #[.ref b, .int (Int32.ofNat o), .ref d, .int (Int32.ofNat q), .int (Int32.ofNat len)] 7)) (Tl.setTop (mkF m 3 #[.val (.ref b), .val (.int (Int32.ofNat (o + i))), .val (.ref d), .val (.int (Int32.ofNat (q + i))), .val (.int (Int32.ofNat len)), .val (.int (Int32.ofNat i)), z] [])) → ∃ (T' : State) (B' : Cell) (z' : Slot), Stand p l e { frames := 0, locals := 0, cells := 0, slots := 0 } s m #[.ref b, .int (Int32.ofNat o), .ref d, .int (Int32.ofNat q), .int (Int32.ofNat len)] below meth c T' ([] ++ copyLocs d q len) 0 0 ∧ Put d B' s₁ T' ∧ Laid B B' q (q + len) (fun j => Value.int (lo8 (cv A (o + (j - q))))) ∧
      Steps p.tables e below (s₁.setTop (entryFrame m #[.ref b, .int (Int32.ofNat o), .ref d, .int (Int32.ofNat q), .int (Int32.ofNat len)] 7)) (T'.setTop (mkF m 3 #[.val (.ref b), .val (.int (Int32.ofNat (o + len))), .val (.ref d), .val (.int (Int32.ofNat (q + len))), .val (.int (Int32.ofNat len)), .val (.int (Int32.ofNat len)), z'] [])) := by
    intro r
    induction r with
    | zero =>
      intro i hi z hz Tl Bk Xl pl fl cl
      have hil : i = len := by omega
      rw [hil] at Xl fl cl
      exact ⟨Tl, Bk, z, Xl, pl, fl, cl⟩
    | succ r ih =>
      intro i hi z hz Tl Bk Xl pl fl cl
      have all := X0.warmed.alike.symm.trans Xl.warmed.alike
      have hAl := hA0.keep all (pl.other hne hA0.1)
      have hBk := hB0.like all pl.1 fl.1 fl.2.1 fl.2.2.1
      have hlt : q + i < Bk.slots.size := by rw [fl.2.2.1]; omega
      have c3 : Steps p.tables e below (s₁.setTop (entryFrame m #[.ref b, .int (Int32.ofNat o), .ref d, .int (Int32.ofNat q), .int (Int32.ofNat len)] 7)) (Tl.setTop (mkF m 12 #[.val (.ref b), .val (.int (Int32.ofNat (o + i))), .val (.ref d), .val (.int (Int32.ofNat (q + i))), .val (.int (Int32.ofNat len)), .val (.int (Int32.ofNat i)), z] [.int (Int32.ofNat (o + i)), .ref b])) := cl.trans (by
        refine XS.iload Xl.here hexec rfl (hb hbytes d3) rfl ?_
        refine XS.iload Xl.here hexec rfl (hb hbytes d5) rfl ?_
        refine XS.icmpNo Xl.here hexec rfl (hb hbytes d7) rfl (ii_ge_f (lt32 (by omega) (by omega))) ?_
        refine XS.aloadN Xl.here hexec rfl (hb hbytes d10) rfl rfl ?_
        refine XS.iloadN Xl.here hexec rfl (hb hbytes d11) rfl ?_
        exact Steps.refl _)
      have c4 : Steps p.tables e below (s₁.setTop (entryFrame m #[.ref b, .int (Int32.ofNat o), .ref d, .int (Int32.ofNat q), .int (Int32.ofNat len)] 7)) (Tl.setTop (mkF m 13 #[.val (.ref b), .val (.int (Int32.ofNat (o + i))), .val (.ref d), .val (.int (Int32.ofNat (q + i))), .val (.int (Int32.ofNat len)), .val (.int (Int32.ofNat i)), z] [.int (cv A (o + i))])) := c3.trans (by
        refine Xl.aget hexec hAl rfl (hA.get (i := o + i) (by omega)) rfl rfl (hb hbytes d12) ?_
        exact Steps.refl _)
      have c5 : Steps p.tables e below (s₁.setTop (entryFrame m #[.ref b, .int (Int32.ofNat o), .ref d, .int (Int32.ofNat q), .int (Int32.ofNat len)] 7)) (Tl.setTop (mkF m 15 #[.val (.ref b), .val (.int (Int32.ofNat (o + i))), .val (.ref d), .val (.int (Int32.ofNat (q + i))), .val (.int (Int32.ofNat len)), .val (.int (Int32.ofNat i)), .val (.int (cv A (o + i)))] [])) := c4.trans (by
        refine XS.istoreS Xl.here hexec rfl (hb hbytes d13) rfl rfl hz ?_
        exact Steps.refl _)
      have c6 : Steps p.tables e below (s₁.setTop (entryFrame m #[.ref b, .int (Int32.ofNat o), .ref d, .int (Int32.ofNat q), .int (Int32.ofNat len)] 7)) (Tl.setTop (mkF m 31 #[.val (.ref b), .val (.int (Int32.ofNat (o + i))), .val (.ref d), .val (.int (Int32.ofNat (q + i))), .val (.int (Int32.ofNat len)), .val (.int (Int32.ofNat i)), .val (.int (cv A (o + i)))] [.int (lo8 (cv A (o + i))), .int (Int32.ofNat (q + i)), .ref d])) := c5.trans (by
        refine XS.iload Xl.here hexec rfl (hb hbytes d15) rfl ?_
        refine sipushV Xl.here hexec rfl 255 (hb hbytes d17) (by decide) ?_
        refine XS.icmpYes Xl.here hexec rfl (pc0 := 20) rfl (hb hbytes d20) rfl (ii_le_t (hp i (by omega))) (by decide) rfl ?_
        refine XS.aloadN Xl.here hexec rfl (hb hbytes d26) rfl rfl ?_
        refine XS.iloadN Xl.here hexec rfl (hb hbytes d27) rfl ?_
        refine XS.iload Xl.here hexec rfl (hb hbytes d28) rfl ?_
        refine i2b Xl.here hexec rfl (hb hbytes d30) rfl ?_
        exact Steps.refl _)
      obtain ⟨T7, X7, p7, st7⟩ := Xl.aput hexec hBk rfl hlt rfl (fits_lo8 (cv A (o + i))) (g := (mkF m 31 #[.val (.ref b), .val (.int (Int32.ofNat (o + i))), .val (.ref d), .val (.int (Int32.ofNat (q + i))), .val (.int (Int32.ofNat len)), .val (.int (Int32.ofNat i)), .val (.int (cv A (o + i)))] [.int (lo8 (cv A (o + i))), .int (Int32.ofNat (q + i)), .ref d])) rfl (rest := []) rfl (hb hbytes d31)
      have c8 : Steps p.tables e below (s₁.setTop (entryFrame m #[.ref b, .int (Int32.ofNat o), .ref d, .int (Int32.ofNat q), .int (Int32.ofNat len)] 7)) (T7.setTop (mkF m 32 #[.val (.ref b), .val (.int (Int32.ofNat (o + i))), .val (.ref d), .val (.int (Int32.ofNat (q + i))), .val (.int (Int32.ofNat len)), .val (.int (Int32.ofNat i)), .val (.int (cv A (o + i)))] [])) := c6.trans (st7 _ (Steps.refl _))
      have c9 : Steps p.tables e below (s₁.setTop (entryFrame m #[.ref b, .int (Int32.ofNat o), .ref d, .int (Int32.ofNat q), .int (Int32.ofNat len)] 7)) (T7.setTop (mkF m 3 #[.val (.ref b), .val (.int (Int32.ofNat (o + i) + 1)), .val (.ref d), .val (.int (Int32.ofNat (q + i) + 1)), .val (.int (Int32.ofNat len)), .val (.int (Int32.ofNat i + 1)), .val (.int (cv A (o + i)))] [])) := c8.trans (by
        refine iincV X7.here hexec rfl 1 (hb hbytes d32) (by decide) rfl rfl ?_
        refine iincV X7.here hexec rfl 1 (hb hbytes d35) (by decide) rfl rfl ?_
        refine iincV X7.here hexec rfl 1 (hb hbytes d38) (by decide) rfl rfl ?_
        refine XS.goto X7.here hexec rfl (pc0 := 41) rfl (hb hbytes d41) (by decide) rfl ?_
        exact Steps.refl _)
      have c10 : Steps p.tables e below (s₁.setTop (entryFrame m #[.ref b, .int (Int32.ofNat o), .ref d, .int (Int32.ofNat q), .int (Int32.ofNat len)] 7)) (T7.setTop (mkF m 3 #[.val (.ref b), .val (.int (Int32.ofNat (o + (i + 1)))), .val (.ref d), .val (.int (Int32.ofNat (q + (i + 1)))), .val (.int (Int32.ofNat len)), .val (.int (Int32.ofNat (i + 1))), .val (.int (cv A (o + i)))] [])) := by
        have := c9
        rw [succ32, succ32, succ32] at this
        exact this
      exact ih (i + 1) (by omega) _ (Or.inr ⟨_, rfl, rfl⟩) T7 _ (by rw [copyLocs_step, ← List.append_assoc]; exact X7) (pl.trans p7) (fl.step (by omega) hlt (by simp)) c10
  obtain ⟨T9, B9, z9, X9, p9, f9, g9⟩ := loop len 0 (by omega) .unset (Or.inl rfl) s₁ B (by simpa [copyLocs] using X0) ⟨hB0.1, fun _ _ => rfl, rfl⟩ (Laid.zero _ _ _) c2
  have c11 : Steps p.tables e below (s₁.setTop (entryFrame m #[.ref b, .int (Int32.ofNat o), .ref d, .int (Int32.ofNat q), .int (Int32.ofNat len)] 7)) (T9.setTop (mkF m 46 #[.val (.ref b), .val (.int (Int32.ofNat (o + len))), .val (.ref d), .val (.int (Int32.ofNat (q + len))), .val (.int (Int32.ofNat len)), .val (.int (Int32.ofNat len)), z9] [.int (Int32.ofNat len)])) := g9.trans (by
    refine XS.iload X9.here hexec rfl (hb hbytes d3) rfl ?_
    refine XS.iload X9.here hexec rfl (hb hbytes d5) rfl ?_
    refine XS.icmpYes X9.here hexec rfl (pc0 := 7) rfl (hb hbytes d7) rfl (ii_ge_t (nlt32 (by omega) (Nat.le_refl _))) (by decide) rfl ?_
    refine XS.iload X9.here hexec rfl (hb hbytes d44) rfl ?_
    exact Steps.refl _)
  exact ⟨T9, some (.int (Int32.ofNat len)), _, _, _, X9, by simp, rfl, rfl, (fun h => by cases h), ⟨rfl, B9, p9.from hh0, f9⟩, fun fs hl => c11.trans (X9.ireturnOut hexec hret rfl (Or.inl rfl) (hb hbytes d46) hl)⟩
end Cmp5
namespace Cmp3
def yN : MethodName := ⟨"java/lang/StringUTF16", "compress", "([CII)[B"⟩
abbrev yB : ByteArray := jdk_52_method_16_code
theorem d0 : decode yB 0 = .ok (.iload_n 2, 1) := by decide +kernel
theorem d1 : decode yB 1 = .ok (.newarray .byte, 2) := by decide +kernel
theorem d3 : decode yB 3 = .ok (.astore_n 3, 1) := by decide +kernel
theorem d4 : decode yB 4 = .ok (.aload_n 0, 1) := by decide +kernel
theorem d5 : decode yB 5 = .ok (.iload_n 1, 1) := by decide +kernel
theorem d6 : decode yB 6 = .ok (.aload_n 3, 1) := by decide +kernel
theorem d7 : decode yB 7 = .ok (.iconst 0, 1) := by decide +kernel
theorem d8 : decode yB 8 = .ok (.iload_n 2, 1) := by decide +kernel
theorem d9 : decode yB 9 = .ok (.invokestatic 115, 3) := by decide +kernel
theorem d12 : decode yB 12 = .ok (.istore 4, 2) := by decide +kernel
theorem d14 : decode yB 14 = .ok (.iload 4, 2) := by decide +kernel
theorem d16 : decode yB 16 = .ok (.iload_n 2, 1) := by decide +kernel
theorem d17 : decode yB 17 = .ok (.if_icmp (.eq) 40, 3) := by decide +kernel
theorem d57 : decode yB 57 = .ok (.aload_n 3, 1) := by decide +kernel
theorem d58 : decode yB 58 = .ok (.areturn, 1) := by decide +kernel
def site : List Cond := [.arrayClass .byte, Cmp5.tab] ++ staticW U16 115 Cmp5.yN
def tab : Cond := tabOf yN yB 6 (some (.array .byte)) site
def P (b : Addr) (A : Cell) (o len : Nat) (args : Array Value) (s : State) : Prop := args = #[.ref b, .int (Int32.ofNat o), .int (Int32.ofNat len)] ∧ Ch b A s ∧ o + len ≤ A.slots.size ∧ len ≤ 536870912 ∧ ∀ i, i < len → ¬ 255 < cv A (o + i)
def E (b : Addr) (A : Cell) (o len : Nat) (r : Option Value) (s u : State) : Prop := NewArr .byte "[B" len (fun j => .int (lo8 (cv A (o + j)))) r s u ∧ u.heap.size = s.heap.size + 1
/-- no char of the range above 255: a new byte[] of their low bytes -/
theorem law (l : Launch) (b : Addr) (A : Cell) (o len : Nat) : Law l yN 3 3 1 18 yB 6 (some (.array .byte)) site (P b A o len) (E b A o len) [] 1 len := by
  refine Law.of_walk (plainFor_of_name (by decide +kernel)) (by decide +kernel) (by decide +kernel) (by decide) (fun _ _ h => by rw [h.1]; rfl) (fun _ U U' hal hh h => ⟨h.1, h.2.1.mv hal hh, h.2.2⟩) (fun r U U' V V' h1 hal h2 h => ⟨NewArr.mv r U U' V V' h1 hal h2 h.1, by rw [h1, h2]; exact h.2⟩) ?_
  intro p e s m args below meth c s₁ X0 hexec hbytes hml hret hlk hnm hown hh0 W hP
  obtain ⟨rfl, hA, l1, l2, hp⟩ := hP
  have a31 := hA.1.2.2.2
  have c1 : Steps p.tables e below (s₁.setTop (entryFrame m #[.ref b, .int (Int32.ofNat o), .int (Int32.ofNat len)] 6)) (s₁.setTop (mkF m 0 #[.val (.ref b), .val (.int (Int32.ofNat o)), .val (.int (Int32.ofNat len)), .unset, .unset, .unset] [])) := entry rfl
  have c2 : Steps p.tables e below (s₁.setTop (entryFrame m #[.ref b, .int (Int32.ofNat o), .int (Int32.ofNat len)] 6)) (s₁.setTop (mkF m 1 #[.val (.ref b), .val (.int (Int32.ofNat o)), .val (.int (Int32.ofNat len)), .unset, .unset, .unset] [.int (Int32.ofNat len)])) := c1.trans (by
    refine XS.iloadN X0.here hexec rfl (hb hbytes d0) rfl ?_
    exact Steps.refl _)
  obtain ⟨T3, B3, X3, ba3, bs3, bv3, bh3, bf3, st3⟩ := X0.anew hexec (atype := .byte) (wk W (.arrayClass .byte)) rfl (by show len * 1 ≤ _; omega) (by omega) (g := (mkF m 1 #[.val (.ref b), .val (.int (Int32.ofNat o)), .val (.int (Int32.ofNat len)), .unset, .unset, .unset] [.int (Int32.ofNat len)])) rfl (hb hbytes d1) (rest := []) rfl (Nat.le_refl _) (by show 0 + len ≤ len; omega)
  rw [hh0] at ba3 st3
  have kp3 : XT.Kept s T3 := (XT.Kept.of_eq hh0).push bh3
  have hA3 := hA.keep X3.warmed.alike (kp3 _ _ hA.1.1)
  have hne : b ≠ s.heap.size := hA.1.ne
  have c4 : Steps p.tables e below (s₁.setTop (entryFrame m #[.ref b, .int (Int32.ofNat o), .int (Int32.ofNat len)] 6)) (T3.setTop (mkF m 3 #[.val (.ref b), .val (.int (Int32.ofNat o)), .val (.int (Int32.ofNat len)), .unset, .unset, .unset] [.ref s.heap.size])) := c2.trans (st3 _ (Steps.refl _))
  have c5 : Steps p.tables e below (s₁.setTop (entryFrame m #[.ref b, .int (Int32.ofNat o), .int (Int32.ofNat len)] 6)) (T3.setTop (mkF m 9 #[.val (.ref b), .val (.int (Int32.ofNat o)), .val (.int (Int32.ofNat len)), .val (.ref s.heap.size), .unset, .unset] [.int (Int32.ofNat len), .int 0, .ref s.heap.size, .int (Int32.ofNat o), .ref b])) := c4.trans (by
    refine XS.astoreN X3.here hexec rfl (hb hbytes d3) rfl rfl rfl ?_
    refine XS.aloadN X3.here hexec rfl (hb hbytes d4) rfl rfl ?_
    refine XS.iloadN X3.here hexec rfl (hb hbytes d5) rfl ?_
    refine XS.aloadN X3.here hexec rfl (hb hbytes d6) rfl rfl ?_
    refine iconstV X3.here hexec rfl 0 (hb hbytes d7) (by decide) ?_
    refine XS.iloadN X3.here hexec rfl (hb hbytes d8) rfl ?_
    exact Steps.refl _)
  obtain ⟨v6, T6, X6, E6, g6⟩ := X3.callS hexec (Cmp5.law l b A s.heap.size B3 o 0 len) hown (wks W (staticW U16 115 Cmp5.yN)) (wk W Cmp5.tab) (W := 0) (Nat.le_of_ble_eq_true rfl) (Nat.le_of_ble_eq_true rfl) (Nat.le_refl _) (by show 0 + len + 0 ≤ len; omega) (g := (mkF m 9 #[.val (.ref b), .val (.int (Int32.ofNat o)), .val (.int (Int32.ofNat len)), .val (.ref s.heap.size), .unset, .unset] [.int (Int32.ofNat len), .int (Int32.ofNat 0), .ref s.heap.size, .int (Int32.ofNat o), .ref b])) rfl (by rw [hml]; rfl) c5 (argsL := [.ref b, .int (Int32.ofNat o), .ref s.heap.size, .int (Int32.ofNat 0), .int (Int32.ofNat len)]) (rest := []) rfl rfl (by show 2 * 0 + 0 ≤ _; decide) (hb hbytes d9) (⟨rfl, hA3, ba3, hne, l1, by rw [bs3]; simp, hp⟩)
  obtain ⟨rfl, B6, p6, f6⟩ := E6
  have c7 : Steps p.tables e below (s₁.setTop (entryFrame m #[.ref b, .int (Int32.ofNat o), .int (Int32.ofNat len)] 6)) (T6.setTop (mkF m 12 #[.val (.ref b), .val (.int (Int32.ofNat o)), .val (.int (Int32.ofNat len)), .val (.ref s.heap.size), .unset, .unset] [.int (Int32.ofNat len)])) := g6
  have c8 : Steps p.tables e below (s₁.setTop (entryFrame m #[.ref b, .int (Int32.ofNat o), .int (Int32.ofNat len)] 6)) (T6.setTop (mkF m 58 #[.val (.ref b), .val (.int (Int32.ofNat o)), .val (.int (Int32.ofNat len)), .val (.ref s.heap.size), .val (.int (Int32.ofNat len)), .unset] [.ref s.heap.size])) := c7.trans (by
    refine XS.istore X6.here hexec rfl (hb hbytes d12) rfl rfl ?_
    refine XS.iload X6.here hexec rfl (hb hbytes d14) rfl ?_
    refine XS.iloadN X6.here hexec rfl (hb hbytes d16) rfl ?_
    refine XS.icmpYes X6.here hexec rfl (pc0 := 17) rfl (hb hbytes d17) rfl (ii_eq_t rfl) (by decide) rfl ?_
    refine XS.aloadN X6.here hexec rfl (hb hbytes d57) rfl rfl ?_
    exact Steps.refl _)
  have X8 := X6.wide (L' := []) (cells' := 1) (slots' := len) (fun x hx hlt => by
    simp only [List.nil_append, copyLocs, List.mem_map, List.mem_range] at hx
    obtain ⟨i, -, rfl⟩ := hx
    exact absurd hlt (Nat.lt_irrefl _)) (Nat.le_refl _) (by omega)
  exact ⟨T6, some (.ref s.heap.size), _, _, _, X8, rfl, rfl, rfl, (fun h => by cases h), ⟨⟨rfl, B6, ba3.like (X3.warmed.alike.symm.trans X6.warmed.alike) p6.1 f6.1 f6.2.1 f6.2.2.1, f6.2.1.trans bv3, by rw [X6.warmed.alike.findClass, f6.1]; exact bf3, by rw [f6.2.2.1, bs3]; simp, fun j hj => by rw [f6.2.2.2 j, if_pos (by omega)]; rfl, kp3.put p6 (Nat.le_refl _)⟩, by rw [p6.2.2, bh3, hh0]; simp⟩, fun fs hl => c8.trans (X8.areturnOut hexec rfl hret rfl (hb hbytes d58) hl)⟩
end Cmp3
namespace CodL
def yN : MethodName := ⟨"java/lang/StringUTF16", "coderFromArrayLen", "([BI)B"⟩
abbrev yB : ByteArray := jdk_52_method_15_code
theorem d0 : decode yB 0 = .ok (.iload_n 1, 1) := by decide +kernel
theorem d1 : decode yB 1 = .ok (.aload_n 0, 1) := by decide +kernel
theorem d2 : decode yB 2 = .ok (.arraylength, 1) := by decide +kernel
theorem d3 : decode yB 3 = .ok (.isub, 1) := by decide +kernel
theorem d4 : decode yB 4 = .ok (.bipush 31, 2) := by decide +kernel
theorem d6 : decode yB 6 = .ok (.iushr, 1) := by decide +kernel
theorem d7 : decode yB 7 = .ok (.i2b, 1) := by decide +kernel
theorem d8 : decode yB 8 = .ok (.ireturn, 1) := by decide +kernel
def site : List Cond := []
def tab : Cond := tabOf yN yB 2 (some .byte) site
def P (d : Addr) (B : Cell) (args : Array Value) (s : State) : Prop := args = #[.ref d, .int (Int32.ofNat B.slots.size)] ∧ Arr .byte d B s
def E (r : Option Value) (s u : State) : Prop := XT.PureE (some (.int 0)) r s u
/-- an array as long as the number of chars: LATIN1 -/
theorem law (l : Launch) (d : Addr) (B : Cell) : Law l yN 2 2 0 0 yB 2 (some .byte) site (P d B) E [] 0 0 := by
  refine Law.of_walk (plainFor_of_name (by decide +kernel)) (by decide +kernel) (by decide +kernel) (by decide) (fun _ _ h => by rw [h.1]; rfl) (fun _ U U' hal hh h => ⟨h.1, h.2.mv hal hh⟩) (fun r U U' V V' h1 hal h2 h => XT.PureE.mv r U U' V V' h1 hal h2 h) ?_
  intro p e s m args below meth c s₁ X0 hexec hbytes hml hret hlk hnm hown hh0 W hP
  obtain ⟨rfl, hB⟩ := hP
  have hB0 := hB.mv X0.warmed.alike hh0
  have c1 : Steps p.tables e below (s₁.setTop (entryFrame m #[.ref d, .int (Int32.ofNat B.slots.size)] 2)) (s₁.setTop (mkF m 0 #[.val (.ref d), .val (.int (Int32.ofNat B.slots.size))] [])) := entry rfl
  have c2 : Steps p.tables e below (s₁.setTop (entryFrame m #[.ref d, .int (Int32.ofNat B.slots.size)] 2)) (s₁.setTop (mkF m 2 #[.val (.ref d), .val (.int (Int32.ofNat B.slots.size))] [.ref d, .int (Int32.ofNat B.slots.size)])) := c1.trans (by
    refine XS.iloadN X0.here hexec rfl (hb hbytes d0) rfl ?_
    refine XS.aloadN X0.here hexec rfl (hb hbytes d1) rfl rfl ?_
    exact Steps.refl _)
  have c3 : Steps p.tables e below (s₁.setTop (entryFrame m #[.ref d, .int (Int32.ofNat B.slots.size)] 2)) (s₁.setTop (mkF m 8 #[.val (.ref d), .val (.int (Int32.ofNat B.slots.size))] [.int (lo8 (ushr (Int32.ofNat B.slots.size - Int32.ofNat B.slots.size) 31))])) := c2.trans (by
    refine X0.alen hexec hB0 rfl rfl (hb hbytes d2) ?_
    refine XS.isub X0.here hexec rfl (hb hbytes d3) rfl ?_
    refine bipushV X0.here hexec rfl 31 (hb hbytes d4) (by decide) ?_
    refine iushr X0.here hexec rfl (hb hbytes d6) rfl ?_
    refine i2b X0.here hexec rfl (hb hbytes d7) rfl ?_
    exact Steps.refl _)
  have e0 : lo8 (ushr (Int32.ofNat B.slots.size - Int32.ofNat B.slots.size) 31) = 0 := by rw [Int32.sub_self]; decide
  rw [e0] at c3
  exact ⟨s₁, some (.int 0), _, _, _, X0, rfl, rfl, rfl, (fun h => by cases h), ⟨rfl, hh0⟩, fun fs hl => c3.trans (X0.ireturnOut hexec hret rfl (Or.inr (Or.inr (Or.inl rfl))) (hb hbytes d8) hl)⟩
end CodL
/-- the String at a is Latin-1 over a new byte[] (the heap's one new cell): the low bytes of the len chars of A from o on; every cell but a is kept -/
def Got (a : Addr) (D : Cell) (fV fC : Field) (A : Cell) (o len : Nat) (r : Option Value) (s u : State) : Prop := r = none ∧ ∃ D' V : Cell, Blank "java/lang/String" a D' u ∧ Same D D' [fV.slot, fC.slot] ∧ D'.slots[fV.slot]? = some (.ref s.heap.size) ∧ D'.slots[fC.slot]? = some (.int 0) ∧ Arr .byte s.heap.size V u ∧ V.vm = .none ∧ u.vm.findClass "[B" = some V.cls ∧ V.slots.size = len ∧ (∀ j, j < len → V.slots[j]? = some (.int (lo8 (cv A (o + j))))) ∧ (∀ (y : Addr) (c : Cell), y ≠ a → s.heap[y]? = some c → u.heap[y]? = some c) ∧ u.heap.size = s.heap.size + 1
theorem Got.mv {a : Addr} {D A : Cell} {fV fC : Field} {o len : Nat} : ∀ r (U U' V V' : State), U'.heap = U.heap → V.vm.Alike V'.vm → V'.heap = V.heap → Got a D fV fC A o len r U V → Got a D fV fC A o len r U' V' :=
  fun r U U' V V' h1 hal h2 ⟨e0, D', X, a1, a2, a3, a4, a5, a6, a7, a8, a9, a10, a11⟩ => ⟨e0, D', X, a1.mv hal h2, a2, by rw [h1]; exact a3, a4, by rw [h1]; exact a5.mv hal h2, a6, by rw [hal.findClass]; exact a7, a8, a9, by rw [h1, h2]; exact a10, by rw [h1, h2]; exact a11⟩
namespace New4
def yN : MethodName := ⟨"java/lang/String", "<init>", "([CIILjava/lang/Void;)V"⟩
abbrev yB : ByteArray := jdk_42_method_149_code
theorem d0 : decode yB 0 = .ok (.aload_n 0, 1) := by decide +kernel
theorem d1 : decode yB 1 = .ok (.invokespecial 1, 3) := by decide +kernel
theorem d4 : decode yB 4 = .ok (.iload_n 3, 1) := by decide +kernel
theorem d5 : decode yB 5 = .ok (.ifCond (.ne) 22, 3) := by decide +kernel
theorem d27 : decode yB 27 = .ok (.getstatic 38, 3) := by decide +kernel
theorem d30 : decode yB 30 = .ok (.ifCond (.eq) 28, 3) := by decide +kernel
theorem d33 : decode yB 33 = .ok (.aload_n 1, 1) := by decide +kernel
theorem d34 : decode yB 34 = .ok (.iload_n 2, 1) := by decide +kernel
theorem d35 : decode yB 35 = .ok (.iload_n 3, 1) := by decide +kernel
theorem d36 : decode yB 36 = .ok (.invokestatic 177, 3) := by decide +kernel
theorem d39 : decode yB 39 = .ok (.astore 5, 2) := by decide +kernel
theorem d41 : decode yB 41 = .ok (.aload_n 0, 1) := by decide +kernel
theorem d42 : decode yB 42 = .ok (.aload 5, 2) := by decide +kernel
theorem d44 : decode yB 44 = .ok (.iload_n 3, 1) := by decide +kernel
theorem d45 : decode yB 45 = .ok (.invokestatic 47, 3) := by decide +kernel
theorem d48 : decode yB 48 = .ok (.putfield 15, 3) := by decide +kernel
theorem d51 : decode yB 51 = .ok (.aload_n 0, 1) := by decide +kernel
theorem d52 : decode yB 52 = .ok (.aload 5, 2) := by decide +kernel
theorem d54 : decode yB 54 = .ok (.putfield 9, 3) := by decide +kernel
theorem d57 : decode yB 57 = .ok (.return_, 1) := by decide +kernel
def site : List Cond := [.fieldLink "java/lang/String" 38 "java/lang/String" "COMPACT_STRINGS" "Z", Cmp3.tab, CodL.tab, .laysFinal "java/lang/String" "java/lang/String" "value" "[B", .fieldLink "java/lang/String" 9 "java/lang/String" "value" "[B", .laysFinal "java/lang/String" "java/lang/String" "coder" "B", .fieldLink "java/lang/String" 15 "java/lang/String" "coder" "B"] ++ objW "java/lang/String" 1 ++ staticW "java/lang/String" 177 Cmp3.yN ++ staticW "java/lang/String" 47 CodL.yN
def tab : Cond := tabOf yN yB 6 none site
def P (a : Addr) (D : Cell) (fV fC : Field) (b : Addr) (A : Cell) (z : Int32) (o len : Nat) (args : Array Value) (s : State) : Prop := args = #[.ref a, .ref b, .int (Int32.ofNat o), .int (Int32.ofNat len), .null] ∧ Blank "java/lang/String" a D s ∧ Found "java/lang/String" "value" "[B" fV s ∧ Found "java/lang/String" "coder" "B" fC s ∧ Ch b A s ∧ StaticIs s "java/lang/String" "COMPACT_STRINGS" "Z" (.int z) ∧ ¬ z = 0 ∧ 0 < len ∧ o + len ≤ A.slots.size ∧ len ≤ 536870912 ∧ ∀ i, i < len → ¬ 255 < cv A (o + i)
def E (a : Addr) (D : Cell) (fV fC : Field) (A : Cell) (o len : Nat) (r : Option Value) (s u : State) : Prop := Got a D fV fC A o len r s u
/-- len > 0, no char of the range above 255: a Latin-1 String of their low bytes -/
theorem law (l : Launch) (a : Addr) (D : Cell) (fV fC : Field) (b : Addr) (A : Cell) (z : Int32) (o len : Nat) : Law l yN 5 4 2 35 yB 6 none site (P a D fV fC b A z o len) (E a D fV fC A o len) [⟨a, fC.slot⟩, ⟨a, fV.slot⟩] 1 len := by
  refine Law.of_walk (plainFor_of_name (by decide +kernel)) (by decide +kernel) (by decide +kernel) (by decide) (fun _ _ h => by rw [h.1]; rfl) (fun _ U U' hal hh h => ⟨h.1, h.2.1.mv hal hh, h.2.2.1.al hal, h.2.2.2.1.al hal, h.2.2.2.2.1.mv hal hh, h.2.2.2.2.2.1.there hal hh, h.2.2.2.2.2.2⟩) (fun r U U' V V' h1 hal h2 h => Got.mv r U U' V V' h1 hal h2 h) ?_
  intro p e s m args below meth c s₁ X0 hexec hbytes hml hret hlk hnm hown hh0 W hP
  obtain ⟨rfl, hB, f1, f2, hA, s1, hz, l0, l1, l2, hp⟩ := hP
  have a31 := hA.1.2.2.2
  have c1 : Steps p.tables e below (s₁.setTop (entryFrame m #[.ref a, .ref b, .int (Int32.ofNat o), .int (Int32.ofNat len), .null] 6)) (s₁.setTop (mkF m 0 #[.val (.ref a), .val (.ref b), .val (.int (Int32.ofNat o)), .val (.int (Int32.ofNat len)), .val .null, .unset] [])) := entry rfl
  have c2 : Steps p.tables e below (s₁.setTop (entryFrame m #[.ref a, .ref b, .int (Int32.ofNat o), .int (Int32.ofNat len), .null] 6)) (s₁.setTop (mkF m 1 #[.val (.ref a), .val (.ref b), .val (.int (Int32.ofNat o)), .val (.int (Int32.ofNat len)), .val .null, .unset] [.ref a])) := c1.trans (by
    refine XS.aloadN X0.here hexec rfl (hb hbytes d0) rfl rfl ?_
    exact Steps.refl _)
  obtain ⟨T3, X3, q3, st3⟩ := X0.oinit hexec hown (wks W (objW "java/lang/String" 1)) (g := (mkF m 1 #[.val (.ref a), .val (.ref b), .val (.int (Int32.ofNat o)), .val (.int (Int32.ofNat len)), .val .null, .unset] [.ref a])) rfl (by rw [hml]; rfl) (rest := []) rfl (hb hbytes d1) (W := 0) (by show 2 * 0 + 0 ≤ _; decide) (Nat.le_of_ble_eq_true rfl) (Nat.le_of_ble_eq_true rfl)
  have hh3 := q3.trans hh0
  have c4 : Steps p.tables e below (s₁.setTop (entryFrame m #[.ref a, .ref b, .int (Int32.ofNat o), .int (Int32.ofNat len), .null] 6)) (T3.setTop (mkF m 27 #[.val (.ref a), .val (.ref b), .val (.int (Int32.ofNat o)), .val (.int (Int32.ofNat len)), .val .null, .unset] [])) := (c2.trans (st3 _ (Steps.refl _))).trans (by
    refine XS.iloadN X3.here hexec rfl (hb hbytes d4) rfl ?_
    refine XS.ifYes X3.here hexec rfl (pc0 := 5) rfl (hb hbytes d5) rfl (i0_ne_t (nz32 (by omega) l0)) (by decide) rfl ?_
    exact Steps.refl _)
  obtain ⟨T5, X5, q5, st5⟩ := X3.sget hexec hown (wk W (.fieldLink "java/lang/String" 38 "java/lang/String" "COMPACT_STRINGS" "Z")) s1 (fun _ _ h => by rw [hh3]; exact h) (g := (mkF m 27 #[.val (.ref a), .val (.ref b), .val (.int (Int32.ofNat o)), .val (.int (Int32.ofNat len)), .val .null, .unset] [])) rfl (hb hbytes d27)
  have hh5 := q5.trans hh3
  have c6 : Steps p.tables e below (s₁.setTop (entryFrame m #[.ref a, .ref b, .int (Int32.ofNat o), .int (Int32.ofNat len), .null] 6)) (T5.setTop (mkF m 30 #[.val (.ref a), .val (.ref b), .val (.int (Int32.ofNat o)), .val (.int (Int32.ofNat len)), .val .null, .unset] [.int z])) := c4.trans (st5 _ (Steps.refl _))
  have c7 : Steps p.tables e below (s₁.setTop (entryFrame m #[.ref a, .ref b, .int (Int32.ofNat o), .int (Int32.ofNat len), .null] 6)) (T5.setTop (mkF m 36 #[.val (.ref a), .val (.ref b), .val (.int (Int32.ofNat o)), .val (.int (Int32.ofNat len)), .val .null, .unset] [.int (Int32.ofNat len), .int (Int32.ofNat o), .ref b])) := c6.trans (by
    refine XS.ifNo X5.here hexec rfl (hb hbytes d30) rfl (i0_eq_f hz) ?_
    refine XS.aloadN X5.here hexec rfl (hb hbytes d33) rfl rfl ?_
    refine XS.iloadN X5.here hexec rfl (hb hbytes d34) rfl ?_
    refine XS.iloadN X5.here hexec rfl (hb hbytes d35) rfl ?_
    exact Steps.refl _)
  obtain ⟨v8, T8, X8, E8, g8⟩ := X5.callS hexec (Cmp3.law l b A o len) hown (wks W (staticW "java/lang/String" 177 Cmp3.yN)) (wk W Cmp3.tab) (W := 0) (Nat.le_of_ble_eq_true rfl) (Nat.le_of_ble_eq_true rfl) (Nat.le_refl _) (by show 0 + len ≤ len; omega) (g := (mkF m 36 #[.val (.ref a), .val (.ref b), .val (.int (Int32.ofNat o)), .val (.int (Int32.ofNat len)), .val .null, .unset] [.int (Int32.ofNat len), .int (Int32.ofNat o), .ref b])) rfl (by rw [hml]; rfl) c7 (argsL := [.ref b, .int (Int32.ofNat o), .int (Int32.ofNat len)]) (rest := []) rfl rfl (by show 2 * 0 + 0 ≤ _; decide) (hb hbytes d36) (⟨rfl, hA.mv X5.warmed.alike hh5, l1, l2, hp⟩)
  obtain ⟨e8, z8⟩ := E8
  obtain ⟨rfl, N, n1, n2, n3, n4, n5, n6⟩ := NewArr.mv _ T5 s _ _ hh5.symm (Vm.Alike.refl _) rfl e8
  rw [hh5] at z8
  have hB1 := hB.keep X8.warmed.alike (n6 _ _ hB.1)
  have hne : s.heap.size ≠ a := (Nat.ne_of_lt (Array.getElem?_eq_some_iff.mp hB.1).1).symm
  have c9 : Steps p.tables e below (s₁.setTop (entryFrame m #[.ref a, .ref b, .int (Int32.ofNat o), .int (Int32.ofNat len), .null] 6)) (T8.setTop (mkF m 39 #[.val (.ref a), .val (.ref b), .val (.int (Int32.ofNat o)), .val (.int (Int32.ofNat len)), .val .null, .unset] [.ref s.heap.size])) := g8
  have c10 : Steps p.tables e below (s₁.setTop (entryFrame m #[.ref a, .ref b, .int (Int32.ofNat o), .int (Int32.ofNat len), .null] 6)) (T8.setTop (mkF m 45 #[.val (.ref a), .val (.ref b), .val (.int (Int32.ofNat o)), .val (.int (Int32.ofNat len)), .val .null, .val (.ref s.heap.size)] [.int (Int32.ofNat N.slots.size), .ref s.heap.size, .ref a])) := by
    have hc : Steps p.tables e below (s₁.setTop (entryFrame m #[.ref a, .ref b, .int (Int32.ofNat o), .int (Int32.ofNat len), .null] 6)) (T8.setTop (mkF m 45 #[.val (.ref a), .val (.ref b), .val (.int (Int32.ofNat o)), .val (.int (Int32.ofNat len)), .val .null, .val (.ref s.heap.size)] [.int (Int32.ofNat len), .ref s.heap.size, .ref a])) := c9.trans (by
      refine XS.astore X8.here hexec rfl (hb hbytes d39) rfl rfl rfl ?_
      refine XS.aloadN X8.here hexec rfl (hb hbytes d41) rfl rfl ?_
      refine XS.aload X8.here hexec rfl (hb hbytes d42) rfl rfl ?_
      refine XS.iloadN X8.here hexec rfl (hb hbytes d44) rfl ?_
      exact Steps.refl _)
    rw [n4]; exact hc
  obtain ⟨v11, T11, X11, E11, g11⟩ := X8.callS hexec (CodL.law l s.heap.size N) hown (wks W (staticW "java/lang/String" 47 CodL.yN)) (wk W CodL.tab) (W := 1) (Nat.le_of_ble_eq_true rfl) (Nat.le_of_ble_eq_true rfl) (Nat.le_refl _) (by show 0 + len + 0 ≤ len; omega) (g := (mkF m 45 #[.val (.ref a), .val (.ref b), .val (.int (Int32.ofNat o)), .val (.int (Int32.ofNat len)), .val .null, .val (.ref s.heap.size)] [.int (Int32.ofNat N.slots.size), .ref s.heap.size, .ref a])) rfl (by rw [hml]; rfl) c10 (argsL := [.ref s.heap.size, .int (Int32.ofNat N.slots.size)]) (rest := [.ref a]) rfl rfl (by show 2 * 0 + (1 + 0) ≤ _; decide) (hb hbytes d45) (⟨rfl, n1⟩)
  obtain ⟨rfl, q11⟩ := E11
  have hB11 := hB1.mv (X8.warmed.alike.symm.trans X11.warmed.alike) q11
  have c12 : Steps p.tables e below (s₁.setTop (entryFrame m #[.ref a, .ref b, .int (Int32.ofNat o), .int (Int32.ofNat len), .null] 6)) (T11.setTop (mkF m 48 #[.val (.ref a), .val (.ref b), .val (.int (Int32.ofNat o)), .val (.int (Int32.ofNat len)), .val .null, .val (.ref s.heap.size)] [.int 0, .ref a])) := g11
  obtain ⟨T13, X13, p13, bl13, sl13, st13⟩ := X11.finit hexec hown (wk W (.fieldLink "java/lang/String" 15 "java/lang/String" "coder" "B")) (Or.inr ⟨_, (wk W (.laysFinal "java/lang/String" "java/lang/String" "coder" "B"))⟩) (Or.inl ⟨rfl, hnm⟩) f2 (Or.inl rfl) hB11 (t := .byte) (by decide +kernel) rfl (g := (mkF m 48 #[.val (.ref a), .val (.ref b), .val (.int (Int32.ofNat o)), .val (.int (Int32.ofNat len)), .val .null, .val (.ref s.heap.size)] [.int 0, .ref a])) rfl (rest := []) rfl (hb hbytes d48)
  have c14 : Steps p.tables e below (s₁.setTop (entryFrame m #[.ref a, .ref b, .int (Int32.ofNat o), .int (Int32.ofNat len), .null] 6)) (T13.setTop (mkF m 54 #[.val (.ref a), .val (.ref b), .val (.int (Int32.ofNat o)), .val (.int (Int32.ofNat len)), .val .null, .val (.ref s.heap.size)] [.ref s.heap.size, .ref a])) := (c12.trans (st13 _ (Steps.refl _))).trans (by
    refine XS.aloadN X13.here hexec rfl (hb hbytes d51) rfl rfl ?_
    refine XS.aload X13.here hexec rfl (hb hbytes d52) rfl rfl ?_
    exact Steps.refl _)
  obtain ⟨T15, X15, p15, bl15, sl15, st15⟩ := X13.finit hexec hown (wk W (.fieldLink "java/lang/String" 9 "java/lang/String" "value" "[B")) (Or.inr ⟨_, (wk W (.laysFinal "java/lang/String" "java/lang/String" "value" "[B"))⟩) (Or.inl ⟨rfl, hnm⟩) f1 (Or.inl rfl) bl13 (t := (.array .byte)) (by decide +kernel) rfl (g := (mkF m 54 #[.val (.ref a), .val (.ref b), .val (.int (Int32.ofNat o)), .val (.int (Int32.ofNat len)), .val .null, .val (.ref s.heap.size)] [.ref s.heap.size, .ref a])) rfl (rest := []) rfl (hb hbytes d54)
  have c16 : Steps p.tables e below (s₁.setTop (entryFrame m #[.ref a, .ref b, .int (Int32.ofNat o), .int (Int32.ofNat len), .null] 6)) (T15.setTop (mkF m 57 #[.val (.ref a), .val (.ref b), .val (.int (Int32.ofNat o)), .val (.int (Int32.ofNat len)), .val .null, .val (.ref s.heap.size)] [])) := c14.trans (st15 _ (Steps.refl _))
  have ap := apart (Or.inr ⟨_, (wk W (.laysFinal "java/lang/String" "java/lang/String" "value" "[B"))⟩) (Or.inr ⟨_, (wk W (.laysFinal "java/lang/String" "java/lang/String" "coder" "B"))⟩) f1 f2 (t₁ := .array .byte) (t₂ := .byte) (by decide +kernel) (by decide +kernel) (by decide)
  have al := X8.warmed.alike.symm.trans X15.warmed.alike
  have n7 : T11.heap[s.heap.size]? = some N := by rw [q11]; exact n1.1
  exact ⟨T15, none, _, _, _, X15, by simp, rfl, by omega, (fun _ => rfl), ⟨rfl, _, N, bl15, ((Same.refl D _).set _ (by simp)).set _ (by simp), sl15, (Cell.slots_setSlot_ne _ ap).trans sl13, n1.keep al (p15.other hne (p13.other hne n7)), n2, by rw [al.findClass]; exact n3, n4, n5, fun y c h1 h2 => p15.other h1 (p13.other h1 (by rw [q11]; exact n6 y c h2)), by rw [p15.2.2, p13.2.2, q11]; exact z8⟩, fun fs hl => c16.trans (X15.returnOut hexec hret (hb hbytes d57) hl)⟩
end New4
namespace New1
def yN : MethodName := ⟨"java/lang/String", "<init>", "([C)V"⟩
abbrev yB : ByteArray := jdk_42_method_3_code
theorem d0 : decode yB 0 = .ok (.aload_n 0, 1) := by decide +kernel
theorem d1 : decode yB 1 = .ok (.aload_n 1, 1) := by decide +kernel
theorem d2 : decode yB 2 = .ok (.iconst 0, 1) := by decide +kernel
theorem d3 : decode yB 3 = .ok (.aload_n 1, 1) := by decide +kernel
theorem d4 : decode yB 4 = .ok (.arraylength, 1) := by decide +kernel
theorem d5 : decode yB 5 = .ok (.aconst_null, 1) := by decide +kernel
theorem d6 : decode yB 6 = .ok (.invokespecial 27, 3) := by decide +kernel
theorem d9 : decode yB 9 = .ok (.return_, 1) := by decide +kernel
def site : List Cond := [New4.tab] ++ initW "java/lang/String" 27 New4.yN
def tab : Cond := tabOf yN yB 2 none site
def P (a : Addr) (D : Cell) (fV fC : Field) (b : Addr) (A : Cell) (z : Int32) (args : Array Value) (s : State) : Prop := args = #[.ref a, .ref b] ∧ Blank "java/lang/String" a D s ∧ Found "java/lang/String" "value" "[B" fV s ∧ Found "java/lang/String" "coder" "B" fC s ∧ Ch b A s ∧ StaticIs s "java/lang/String" "COMPACT_STRINGS" "Z" (.int z) ∧ ¬ z = 0 ∧ 0 < A.slots.size ∧ A.slots.size ≤ 536870912 ∧ ∀ i, i < A.slots.size → ¬ 255 < cv A i
def E (a : Addr) (D : Cell) (fV fC : Field) (A : Cell) (r : Option Value) (s u : State) : Prop := Got a D fV fC A 0 A.slots.size r s u
/-- new String(chars), not empty, no char above 255: a Latin-1 String of their low bytes -/
theorem law (l : Launch) (a : Addr) (D : Cell) (fV fC : Field) (b : Addr) (A : Cell) (z : Int32) : Law l yN 2 1 3 52 yB 2 none site (P a D fV fC b A z) (E a D fV fC A) [⟨a, fC.slot⟩, ⟨a, fV.slot⟩] 1 A.slots.size := by
  refine Law.of_walk (plainFor_of_name (by decide +kernel)) (by decide +kernel) (by decide +kernel) (by decide) (fun _ _ h => by rw [h.1]; rfl) (fun _ U U' hal hh h => ⟨h.1, h.2.1.mv hal hh, h.2.2.1.al hal, h.2.2.2.1.al hal, h.2.2.2.2.1.mv hal hh, h.2.2.2.2.2.1.there hal hh, h.2.2.2.2.2.2⟩) (fun r U U' V V' h1 hal h2 h => Got.mv r U U' V V' h1 hal h2 h) ?_
  intro p e s m args below meth c s₁ X0 hexec hbytes hml hret hlk hnm hown hh0 W hP
  obtain ⟨rfl, hB, f1, f2, hA, s1, hz, l0, l2, hp⟩ := hP
  have c1 : Steps p.tables e below (s₁.setTop (entryFrame m #[.ref a, .ref b] 2)) (s₁.setTop (mkF m 0 #[.val (.ref a), .val (.ref b)] [])) := entry rfl
  have c2 : Steps p.tables e below (s₁.setTop (entryFrame m #[.ref a, .ref b] 2)) (s₁.setTop (mkF m 6 #[.val (.ref a), .val (.ref b)] [.null, .int (Int32.ofNat A.slots.size), .int 0, .ref b, .ref a])) := c1.trans (by
    refine XS.aloadN X0.here hexec rfl (hb hbytes d0) rfl rfl ?_
    refine XS.aloadN X0.here hexec rfl (hb hbytes d1) rfl rfl ?_
    refine iconstV X0.here hexec rfl 0 (hb hbytes d2) (by decide) ?_
    refine XS.aloadN X0.here hexec rfl (hb hbytes d3) rfl rfl ?_
    refine X0.alen hexec (hA.1.mv X0.warmed.alike hh0) rfl rfl (hb hbytes d4) ?_
    refine XS.aconstNull X0.here hexec rfl (hb hbytes d5) ?_
    exact Steps.refl _)
  obtain ⟨v3, T3, X3, E3, g3⟩ := X0.callN hexec (New4.law l a D fV fC b A z 0 A.slots.size) rfl hown (wks W (initW "java/lang/String" 27 New4.yN)) (W New4.tab (by simp only [site, List.mem_cons, List.mem_append, true_or, or_true])) (W := 0) (Nat.le_of_ble_eq_true rfl) (Nat.le_of_ble_eq_true rfl) (Nat.le_refl _) (by show 0 + A.slots.size ≤ A.slots.size; omega) (g := (mkF m 6 #[.val (.ref a), .val (.ref b)] [.null, .int (Int32.ofNat A.slots.size), .int (Int32.ofNat 0), .ref b, .ref a])) rfl (by rw [hml]; rfl) c2 (argsL := [.ref b, .int (Int32.ofNat 0), .int (Int32.ofNat A.slots.size), .null]) (rest := []) rfl rfl (by show 2 * 0 + 0 ≤ _; decide) (hb hbytes d6) (⟨rfl, hB.mv X0.warmed.alike hh0, f1.al X0.warmed.alike, f2.al X0.warmed.alike, hA.mv X0.warmed.alike hh0, s1.there X0.warmed.alike hh0, hz, l0, by omega, l2, fun i hi => by rw [Nat.zero_add]; exact hp i hi⟩)
  have e0 := Got.mv _ s₁ s _ _ hh0.symm (Vm.Alike.refl _) rfl E3
  obtain rfl := e0.1
  have c4 : Steps p.tables e below (s₁.setTop (entryFrame m #[.ref a, .ref b] 2)) (T3.setTop (mkF m 9 #[.val (.ref a), .val (.ref b)] [])) := g3
  exact ⟨T3, none, _, _, _, X3, by simp, rfl, by omega, (fun _ => rfl), e0, fun fs hl => c4.trans (X3.returnOut hexec hret (hb hbytes d9) hl)⟩
theorem pays {l : Launch} {R : Room} {p : Program} {e : Env} {below : List Frame} {s : State} {sargs : Array Value} {len W : Nat} (a : Addr) (D : Cell) (fV fC : Field) (b : Addr) (A : Cell) (z : Int32) (htab : tab.before sargs s = true) (hfr : 4 ≤ R.frames) (hlo : W + 65 ≤ R.locals) :
    Back l R p e below s sargs yN len W (fun A₁ a₁ => A₁.cells + 1 ≤ R.cells ∧ A₁.slots + A.slots.size ≤ R.slots ∧ P a D fV fC b A z a₁ A₁.U) (fun A₁ _ v₁ B₁ => E a D fV fC A v₁ A₁.U B₁.U ∧ B₁.locs = A₁.locs ++ [⟨a, fC.slot⟩, ⟨a, fV.slot⟩] ∧ B₁.cells = A₁.cells + 1 ∧ B₁.slots = A₁.slots + A.slots.size) :=
  (law l a D fV fC b A z).pays htab hfr (by omega)
end New1
/-- the byte, read back as charAt reads it, is the char -/
theorem lo8_mask {x : Int32} (h0 : ¬ x < 0) (h1 : ¬ 255 < x) : lo8 x &&& 255 = x := by
  have t : ∀ k : Fin 256, lo8 (Int32.ofNat k.val) &&& 255 = Int32.ofNat k.val := by decide +kernel
  rw [Int32.lt_iff_toInt_lt] at h0 h1
  have e0 : (0 : Int32).toInt = 0 := rfl
  have e1 : (255 : Int32).toInt = 255 := rfl
  obtain ⟨k, hk⟩ : ∃ k : Nat, x.toInt = k := ⟨x.toInt.toNat, by omega⟩
  have hx : x = Int32.ofNat k := Int32.toInt_inj.mp (by rw [hk, Int32.toInt_ofNat_small (by omega)])
  rw [hx]
  exact t ⟨k, by omega⟩
end StrChars
namespace StrChars.Road
open Jvm Sem ClassFile Op Lib Jvm.Stand Jvm.Free Jvm.Free.XT
open Jvm.Lib.Cold (StaticIs)
abbrev ST : String := "java/lang/String"
/-- every table word that New1's law asks, flat -/
abbrev words : List Jvm.Cond := [.code New1.yN New1.yB 2 none, .initialized ST, .methodLink ST 27 New4.yN, .instanceMethod New4.yN,
  .code New4.yN New4.yB 6 none, .fieldLink ST 38 ST "COMPACT_STRINGS" "Z", .laysFinal ST ST "value" "[B", .fieldLink ST 9 ST "value" "[B", .laysFinal ST ST "coder" "B", .fieldLink ST 15 ST "coder" "B",
  .methodLink ST 1 Lib.objectInit, .instanceMethod Lib.objectInit, .code Lib.objectInit ⟨#[0xb1]⟩ 1 none, .methodLink ST 177 Cmp3.yN, .static Cmp3.yN, .methodLink ST 47 CodL.yN, .static CodL.yN,
  .code Cmp3.yN Cmp3.yB 6 (some (.array .byte)), .initialized U16, .arrayClass .byte, .methodLink U16 115 Cmp5.yN, .static Cmp5.yN, .code Cmp5.yN Cmp5.yB 7 (some .int), .code CodL.yN CodL.yB 2 (some .byte)]
theorem tab_of {a : Array Value} {s : State} (h : ∀ w ∈ words, w.before a s = true) : New1.tab.before a s = true := by
  have h5 : Cmp5.tab.before a s = true := unparts (wk h (.code Cmp5.yN Cmp5.yB 7 (some .int))) (wks h (.initialized Cmp5.yN.cls :: Cmp5.site))
  have hc : CodL.tab.before a s = true := unparts (wk h (.code CodL.yN CodL.yB 2 (some .byte))) (wks h (.initialized CodL.yN.cls :: CodL.site))
  have q5 : ∀ w ∈ Cmp5.tab :: words, w.before a s = true := fun w hw => (List.mem_cons.mp hw).elim (fun e => e ▸ h5) (h w)
  have h3 : Cmp3.tab.before a s = true := unparts (wk q5 (.code Cmp3.yN Cmp3.yB 6 (some (.array .byte)))) (wks q5 (.initialized Cmp3.yN.cls :: Cmp3.site))
  have q3 : ∀ w ∈ Cmp3.tab :: CodL.tab :: words, w.before a s = true := fun w hw => (List.mem_cons.mp hw).elim (fun e => e ▸ h3) fun hw => (List.mem_cons.mp hw).elim (fun e => e ▸ hc) (h w)
  have h4 : New4.tab.before a s = true := unparts (wk q3 (.code New4.yN New4.yB 6 none)) (wks q3 (.initialized New4.yN.cls :: New4.site))
  have q4 : ∀ w ∈ New4.tab :: words, w.before a s = true := fun w hw => (List.mem_cons.mp hw).elim (fun e => e ▸ h4) (h w)
  exact unparts (wk q4 (.code New1.yN New1.yB 2 none)) (wks q4 (.initialized New1.yN.cls :: New1.site))
/-- the words ride from the start Z to the walk's own state -/
theorem moved {Z s : State} {a0 args : Array Value} (hZ : Z.Warmed39 s.vm) (hw : ∀ d ∈ words, d.before a0 Z = true) : ∀ d ∈ words, d.before args s = true := fun d hd => by
  have q := hw d hd
  have t : ∀ d ∈ words, d = .arrayClass .byte ∨ (d.onTables && d.keepsFace) = true := by decide +kernel
  rcases t d hd with rfl | t
  · exact RoadKit.mvA hZ q
  · exact RoadKit.mv hZ q t
/-- WHAT COMES BACK, over the tables of the start Z: h the heap at the call, h' behind it -/
def Q (Z : State) (x : Addr) (A : Cell) (h : Heap) (v : Option Value) (h' : Heap) (L : List Loc) : Prop := v = none ∧ (∀ y ∈ L, y.base = x) ∧ RoadKit.Keep h h' [x] ∧ h'.size = h.size + 1 ∧ RoadKit.Exa Z h' x ST ∧ RoadKit.Fld Z h' x ST "value" "[B" (.ref h.size) ∧ RoadKit.Fld Z h' x ST "coder" "B" (.int 0) ∧
  (∃ V : Cell, RoadKit.Arr Z h' h.size V .byte ∧ V.vm = .none ∧ Z.vm.findClass "[B" = some V.cls ∧ V.slots.size = A.slots.size ∧ ∀ j, j < A.slots.size → V.slots[j]? = some (.int (lo8 (cv A j)))) ∧
  ∀ (O n d : String) (w : Value), RoadKit.Fld Z h x O n d w → RoadKit.slotOf Z O n d ≠ RoadKit.slotOf Z ST "value" "[B" → RoadKit.slotOf Z O n d ≠ RoadKit.slotOf Z ST "coder" "B" → RoadKit.Fld Z h' x O n d w
/-- **new String(chars) AT A CALL, IN THE ROAD'S FORM**: for specialBack behind newO: x the fresh String, b the char[] with the cell A -/
theorem back {p : Program} {l : Launch} {e : Env} {R : Room} {s : State} {args : Array Value} {below : List Frame} {len W : Nat} {Z : State} {a0 : Array Value} {h : Heap} (hZ : Z.Warmed39 s.vm) (hw : ∀ d ∈ words, d.before a0 Z = true) {kI : Nat} (wi : (Jvm.Cond.instantiable ST kI).before a0 Z = true)
    {x b : Addr} {A : Cell} {z : Int32} {v0 c0 : Value} (E : RoadKit.Exa Z h x ST) (V : RoadKit.Fld Z h x ST "value" "[B" v0) (C : RoadKit.Fld Z h x ST "coder" "B" c0) (K : RoadKit.Arr Z h b A .char) (hty : Typed .char A) (S : RoadKit.Sta Z h ST "COMPACT_STRINGS" "Z" (.int z)) (hz : ¬ z = 0)
    (l0 : 0 < A.slots.size) (l2 : A.slots.size ≤ 536870912) (hp : ∀ i, i < A.slots.size → ¬ 255 < cv A i) (hfr : 4 ≤ R.frames) (hlo : W + 65 ≤ R.locals) :
    Back l R p e below s args New1.yN len W (fun P a => a = #[.ref x, .ref b] ∧ P.U.heap = h ∧ P.cells + 1 ≤ R.cells ∧ P.slots + A.slots.size ≤ R.slots)
      (fun P _ v B => ∃ L, Q Z x A h v B.U.heap L ∧ B.locs = P.locs ++ L ∧ B.cells = P.cells + 1 ∧ B.slots = P.slots + A.slots.size) := by
  intro m meth c P g ig mk a X hg hsize hdg hW hn hp'
  obtain ⟨rfl, rfl, r1, r2⟩ := hp'
  have al : Z.vm.Alike P.U.vm := hZ.alike.trans X.warmed.alike
  obtain ⟨D, cfV, kV, iV, fV, hD, gV, stV, knV, obV, asV, slV⟩ := id V
  obtain ⟨D', cfC, kC, iC, fC, hD', gC, stC, -, -, asC, slC⟩ := id C
  cases hD.symm.trans hD'
  obtain ⟨D2, kD, e1, e2, e3, e4, e5⟩ := id E
  cases hD.symm.trans e1
  obtain ⟨c2, k2, i1, i2, i3, -⟩ := Cond.instantiable_spec wi
  cases e2.symm.trans i1
  cases e3.symm.trans i2
  obtain ⟨kU, u1, u2⟩ := al.2.2 _ _ e3
  have hB : Blank ST x D P.U := ⟨hD, ⟨knV, fun q hq => by rw [hq] at obV; cases obV⟩, by rw [al.findClass]; exact e2, kU, u1, by rw [u2]; exact i3, by rw [u2]; exact e5 i3⟩
  have F1 : Found ST "value" "[B" fV P.U := ⟨SBG.found_only al ⟨cfV, kV, iV, gV⟩, stV⟩
  have F2 : Found ST "coder" "B" fC P.U := ⟨SBG.found_only al ⟨cfC, kC, iC, gC⟩, stC⟩
  have hA : Ch b A P.U := ⟨⟨K.1, State.isArrayOf_alike al K.2.1, K.2.2, by omega⟩, hty⟩
  have hS : StaticIs P.U ST "COMPACT_STRINGS" "Z" (.int z) := by
    obtain ⟨cfS, iS, kS, fS, st, cS, t1, t2, t3, t4, t5, t6, t7⟩ := S
    exact StaticIs.there (s := { Z with heap := P.U.heap }) ⟨cfS, iS, kS, fS, st, cS, t1, t2, t3, t4, t5, (fun q => by rw [q] at t6; cases t6), t7⟩ al rfl
  obtain ⟨v, B, X', ⟨⟨hv, E', V', q1, q2, q3, q4, q5, q6, q7, q8, q9, q10, q11⟩, hl, hc, hs⟩, st⟩ := New1.pays x D fV fC b A z (tab_of (moved hZ hw)) hfr hlo m meth c P g ig mk _ X hg hsize hdg hW hn ⟨r1, r2, rfl, hB, F1, F2, hA, hS, hz, l0, l2, hp⟩
  have al' : Z.vm.Alike B.U.vm := hZ.alike.trans X'.warmed.alike
  have hsz : E'.slots.size = D.slots.size := by
    obtain ⟨-, -, -, kB, w1, w2, w3⟩ := q1
    obtain ⟨kB', y1, y2⟩ := al'.2.2 _ _ e3
    rw [q2.2.1] at w1
    cases w1.symm.trans y1
    rw [w3, e5 i3, y2]
  refine ⟨v, B, X', ⟨_, ⟨hv, ?_, ⟨by omega, fun y cy hy hn' => q10 y cy (by simpa using hn') hy, fun y cy hy => ?_⟩, q11, ⟨E', _, q1.1, by rw [q2.2.1]; exact e2, by rw [q2.2.1]; exact e3, by rw [q2.1]; exact obV, fun _ => by rw [hsz]; exact e5 i3⟩,
    ⟨E', cfV, kV, iV, fV, q1.1, gV, stV, by rw [q2.1]; exact knV, by rw [q2.1]; exact obV, by rw [q2.2.1]; exact asV, q3⟩, ⟨E', cfC, kC, iC, fC, q1.1, gC, stC, by rw [q2.1]; exact knV, by rw [q2.1]; exact obV, by rw [q2.2.1]; exact asC, q4⟩,
    ⟨V', ⟨q5.1, State.isArrayOf_alike al'.symm q5.2.1, q5.2.2.1⟩, q6, by rw [← al'.findClass]; exact q7, q8, fun j hj => by have := q9 j hj; rwa [Nat.zero_add] at this⟩, fun O n d w F n1 n2 => ?_⟩, hl, hc, hs⟩, st⟩
  · intro y hy
    simp only [List.mem_cons, List.not_mem_nil, or_false] at hy
    rcases hy with rfl | rfl <;> rfl
  · by_cases q : y = x
    · subst q
      cases hD.symm.trans hy
      exact ⟨E', q1.1, q2.2.1, q2.1, hsz⟩
    · exact ⟨cy, q10 y cy q hy, rfl, rfl, rfl⟩
  · obtain ⟨D3, cf, k, i, f, g1, g2, g3, g4, g5, g6, g7⟩ := F
    cases hD.symm.trans g1
    simp only [RoadKit.slotOf, g2, gV, gC, Option.map_some, Option.getD_some] at n1 n2
    exact ⟨E', cf, k, i, f, q1.1, g2, g3, by rw [q2.1]; exact g4, by rw [q2.1]; exact g5, by rw [q2.2.1]; exact g6, by rw [q2.2.2 f.slot (by simp [n1, n2])]; exact g7⟩
end StrChars.Road
namespace StrChars.Road
open Jvm Sem ClassFile Op Lib Jvm.Stand Jvm.Free Jvm.Free.XT
/-- WHAT COMES BACK, the byte[] as a list of values -/
def QA (Z : State) (x : Addr) (zn : Int32) (cs : List Int32) (h : Heap) (v : Option Value) (h' : Heap) (L : List Loc) : Prop := v = none ∧ (∀ y ∈ L, y.base = x) ∧ RoadKit.Keep h h' [x] ∧ h'.size = h.size + 1 ∧ RoadKit.Exa Z h' x ST ∧ RoadKit.Fld Z h' x ST "value" "[B" (.ref h.size) ∧ RoadKit.Fld Z h' x ST "coder" "B" (.int 0) ∧
  (∃ kb, Z.vm.findClass "[B" = some kb ∧ RoadKit.Arv Z h' h.size kb .byte zn (cs.map fun c => .int (lo8 c)) (.int 0)) ∧
  ∀ (O n d : String) (w : Value), RoadKit.Fld Z h x O n d w → RoadKit.slotOf Z O n d ≠ RoadKit.slotOf Z ST "value" "[B" → RoadKit.slotOf Z O n d ≠ RoadKit.slotOf Z ST "coder" "B" → RoadKit.Fld Z h' x O n d w
/-- **new String(chars) AT A CALL, THE ARRAYS AS LISTS**: the char[] at b holds cs, not empty, no char above 255 -/
theorem backArv {p : Program} {l : Launch} {e : Env} {R : Room} {s : State} {args : Array Value} {below : List Frame} {len W : Nat} {Z : State} {a0 : Array Value} {h : Heap} (hZ : Z.Warmed39 s.vm) (hw : ∀ d ∈ words, d.before a0 Z = true) {kI : Nat} (wi : (Jvm.Cond.instantiable ST kI).before a0 Z = true)
    {x b : Addr} {k : ClassId} {zn z : Int32} {cs : List Int32} {dv v0 c0 : Value} (E : RoadKit.Exa Z h x ST) (V : RoadKit.Fld Z h x ST "value" "[B" v0) (C : RoadKit.Fld Z h x ST "coder" "B" c0) (K : RoadKit.Arv Z h b k .char zn (cs.map Value.int) dv) (S : RoadKit.Sta Z h ST "COMPACT_STRINGS" "Z" (.int z)) (hz : ¬ z = 0)
    (hlen : zn.toNatClampNeg = cs.length) (h0 : 0 < cs.length) (hbig : cs.length ≤ 536870912) (hall : ∀ c ∈ cs, ¬ 255 < c) (hfr : 4 ≤ R.frames) (hlo : W + 65 ≤ R.locals) :
    Back l R p e below s args New1.yN len W (fun P a => a = #[.ref x, .ref b] ∧ P.U.heap = h ∧ P.cells + 1 ≤ R.cells ∧ P.slots + cs.length ≤ R.slots)
      (fun P _ v B => ∃ L, QA Z x zn cs h v B.U.heap L ∧ B.locs = P.locs ++ L ∧ B.cells = P.cells + 1 ∧ B.slots = P.slots + cs.length) := by
  obtain ⟨A, K1, K2, K3, K4, K5, K6⟩ := K
  have e : A.slots.size = cs.length := K3.trans hlen
  have hat : ∀ (i : Nat) (hi : i < cs.length), A.slots[i]? = some (.int cs[i]) := fun i hi => by rw [K5 i (by omega)]; simp [List.getD_eq_getElem?_getD, hi]
  have hcv : ∀ (i : Nat) (hi : i < cs.length), cv A i = cs[i] := fun i hi => by unfold cv; rw [hat i hi]
  have hty : Typed .char A := fun i v hv => by
    have hi : i < A.slots.size := (Array.getElem?_eq_some_iff.mp hv).1
    have q := K5 i hi
    rw [hv] at q
    rw [Option.some.inj q]
    exact K6 i hi
  refine Back.mono (back hZ hw wi E V C K1 hty S hz (by omega) (by omega) (fun i hi => by rw [hcv i (by omega)]; exact hall _ (List.getElem_mem _)) hfr hlo) (fun P a hp => ⟨hp.1, hp.2.1, hp.2.2.1, by rw [e]; exact hp.2.2.2⟩) (fun P a v B hp hq => ?_)
  obtain ⟨L, ⟨q1, q2, q3, q4, q5, q6, q7, ⟨V', v1, v2, v3, v4, v5⟩, q9⟩, hl, hc, hs⟩ := hq
  refine ⟨L, ⟨q1, q2, q3, q4, q5, q6, q7, ⟨V'.cls, v3, V', v1, rfl, by rw [v4, e, hlen], K4, fun i hi => ?_, fun i hi => ?_⟩, q9⟩, hl, hc, by rw [hs, e]⟩
  · have hi' : i < cs.length := by omega
    rw [v5 i (by omega), hcv i hi']; simp [List.getD_eq_getElem?_getD, hi']
  · have hi' : i < cs.length := by omega
    simp only [List.getD_eq_getElem?_getD, List.getElem?_map, List.getElem?_eq_getElem hi', Option.map_some, Option.getD_some]
    exact fits_lo8 _
end StrChars.Road
namespace StrChars.Road
open Jvm Sem ClassFile Op Lib Jvm.Stand Jvm.Free Jvm.Free.XT
/-- WHAT COMES BACK, in the writer's own shape -/
def QV (Z : State) (x : Addr) (N : Int32) (bs : List Int32) (h : Heap) (n0 : Nat) (v : Option Value) (h' : Heap) (L : List Loc) : Prop := v = none ∧ RoadKit.Fr n0 L ∧ RoadKit.Keep h h' [x] ∧ RoadKit.Exa Z h' x ST ∧ RoadKit.Fld Z h' x ST "coder" "B" (.int 0) ∧
  ∃ (t : Addr) (kb : ClassId), n0 ≤ t ∧ h.size ≤ t ∧ ¬ t = x ∧ RoadKit.Fld Z h' x ST "value" "[B" (.ref t) ∧ RoadKit.Arv Z h' t kb .byte N (bs.map Value.int) (.int 0)
/-- **new String(chars) AT A CALL, FOR THE WRITER**: a char[] of n known ints, each 0 to 255 -/
theorem backV {p : Program} {l : Launch} {e : Env} {R : Room} {s : State} {args : Array Value} {below : List Frame} {len W : Nat} {Z : State} {a0 : Array Value} {h : Heap} (hZ : Z.Warmed39 s.vm) (hw : ∀ d ∈ words, d.before a0 Z = true) {kI : Nat} (wi : (Jvm.Cond.instantiable ST kI).before a0 Z = true)
    {x b : Addr} {kC : ClassId} {cs bs : List Int32} {d v0 c0 : Value} {z N : Int32} {n n0 : Nat} (hx0 : n0 ≤ x) (hh0 : n0 ≤ h.size) (E : RoadKit.Exa Z h x ST) (V : RoadKit.Fld Z h x ST "value" "[B" v0) (C : RoadKit.Fld Z h x ST "coder" "B" c0) (K : RoadKit.Arv Z h b kC .char N (cs.map Value.int) d) (S : RoadKit.Sta Z h ST "COMPACT_STRINGS" "Z" (.int z)) (hz : ¬ z = 0)
    (hn : cs.length = n) (hN : N = Int32.ofNat n) (l0 : 0 < n) (l2 : n ≤ 4000) (hp : ∀ c ∈ cs, ¬ c < 0 ∧ ¬ (255 : Int32) < c) (hb : bs = cs.map (fun c => c.toInt8.toInt32)) (hfr : 4 ≤ R.frames) (hlo : W + 65 ≤ R.locals) :
    Back l R p e below s args (⟨"java/lang/String", "<init>", "([C)V"⟩ : MethodName) len W (fun P a => a = #[.ref x, .ref b] ∧ P.U.heap = h ∧ P.cells + 1 ≤ R.cells ∧ P.slots + n ≤ R.slots)
      (fun P _ v B => ∃ L, QV Z x N bs h n0 v B.U.heap L ∧ B.locs = P.locs ++ L ∧ B.cells = P.cells + 1 ∧ B.slots = P.slots + n) := by
  subst hn hN hb
  refine Back.mono (backArv hZ hw wi E V C K S hz (n32 (by omega)) l0 (by omega) (fun c hc => (hp c hc).2) hfr hlo) (fun P a hp => hp) (fun P a v B hp hq => ?_)
  obtain ⟨L, ⟨q1, q2, q3, q4, q5, q6, q7, ⟨kb, v1, v2⟩, q9⟩, hl, hc, hs⟩ := hq
  exact ⟨L, ⟨q1, fun y hy => by rw [q2 y hy]; exact hx0, q3, q5, q7, h.size, kb, hh0, Nat.le_refl _, Nat.ne_of_gt E.lt, q6, by rw [List.map_map]; exact v2⟩, hl, hc, hs⟩
end StrChars.Road
namespace StrChars
open Jvm Sem ClassFile Op Lib Jvm.Stand Jvm.Free.XT Jvm.Free.ALB Jvm.Free.JM Jvm.Free
open Jvm.Lib.Cold (StaticIs)
def hi8 (x : Int32) : Int32 := lo8 (x >>> ((8 : Int32) &&& 31))
/-- what StringUTF16.getChar makes of two bytes -/
def pairCh (u v : Int32) : Int32 := (((u &&& 255) <<< ((0 : Int32) &&& 31)) ||| ((v &&& 255) <<< ((8 : Int32) &&& 31))).toUInt32.toUInt16.toUInt32.toInt32
theorem lo8_and (x : Int32) : (lo8 x &&& 255).toBitVec.toNat = x.toBitVec.toNat % 256 := by
  have h : (lo8 x).toBitVec = (x.toBitVec.signExtend 8).signExtend 32 := by rw [lo8, Int8.toBitVec_toInt32, Int32.toBitVec_toInt8]
  rw [Int32.toBitVec_and, BitVec.toNat_and, h]
  have e : ((x.toBitVec.signExtend 8).signExtend 32).toNat % 256 = x.toBitVec.toNat % 256 := by
    rw [BitVec.toNat_signExtend]
    have hlt := x.toBitVec.isLt
    simp only [BitVec.toNat_setWidth, BitVec.toNat_signExtend]
    split <;> split <;> omega
  rw [← e]
  exact Nat.and_two_pow_sub_one_eq_mod _ 8
theorem pair_says {c : Int32} (h0 : ¬ c < 0) (h1 : ¬ 65535 < c) : pairCh (lo8 c) (hi8 c) = c := by
  rw [Int32.lt_iff_toInt_lt] at h0 h1
  have e0 : (0 : Int32).toInt = 0 := rfl
  have e1 : (65535 : Int32).toInt = 65535 := rfl
  have hc : c.toInt = c.toBitVec.toNat := by
    have := c.toBitVec.isLt
    have e : c.toInt = c.toBitVec.toInt := rfl
    rw [e] at h0 h1
    rw [e]
    rw [BitVec.toInt_eq_toNat_cond] at h0 h1 ⊢
    split at h0 <;> split <;> omega
  have hn : c.toBitVec.toNat < 65536 := by omega
  have a1 := lo8_and c
  have a2 : (hi8 c &&& 255).toBitVec.toNat = c.toBitVec.toNat / 256 := by
    rw [hi8, lo8_and]
    have e : ((8 : Int32) &&& 31) = 8 := by decide
    rw [e, Int32.toBitVec_shiftRight]
    have e2 : ((8 : Int32).toBitVec.smod 32) = 8#32 := by decide
    rw [e2, BitVec.sshiftRight_eq', BitVec.toNat_sshiftRight_of_msb_false (by rw [BitVec.msb_eq_false_iff_two_mul_lt]; omega)]
    show c.toBitVec.toNat >>> 8 % 256 = _
    rw [Nat.shiftRight_eq_div_pow]
    omega
  unfold pairCh
  apply Int32.toBitVec_inj.mp
  apply BitVec.eq_of_toNat_eq
  have f0 : ((0 : Int32) &&& 31) = 0 := by decide
  have f8 : ((8 : Int32) &&& 31) = 8 := by decide
  rw [f0, f8]
  have g : (((lo8 c &&& 255) <<< (0 : Int32)) ||| ((hi8 c &&& 255) <<< (8 : Int32))).toBitVec.toNat = c.toBitVec.toNat := by
    rw [Int32.toBitVec_or, Int32.toBitVec_shiftLeft, Int32.toBitVec_shiftLeft]
    have s0 : ((0 : Int32).toBitVec.smod 32) = 0#32 := by decide
    have s8 : ((8 : Int32).toBitVec.smod 32) = 8#32 := by decide
    rw [s0, s8, BitVec.toNat_or]
    simp only [BitVec.shiftLeft_eq', BitVec.toNat_shiftLeft, a1, a2]
    show (c.toBitVec.toNat % 256) <<< 0 % 2 ^ 32 ||| (c.toBitVec.toNat / 256) <<< 8 % 2 ^ 32 = _
    rw [Nat.shiftLeft_zero, Nat.mod_eq_of_lt (show c.toBitVec.toNat % 256 < 2 ^ 32 by omega), Nat.mod_eq_of_lt (show (c.toBitVec.toNat / 256) <<< 8 < 2 ^ 32 by rw [Nat.shiftLeft_eq]; omega), Nat.or_comm, ← Nat.shiftLeft_add_eq_or_of_lt (by omega), Nat.shiftLeft_eq]
    omega
  show BitVec.toNat (((((lo8 c &&& 255) <<< (0 : Int32)) ||| ((hi8 c &&& 255) <<< (8 : Int32))).toBitVec.setWidth 16).setWidth 32) = _
  rw [BitVec.toNat_setWidth, BitVec.toNat_setWidth, g]
  omega
end StrChars
namespace StrChars
open Jvm Sem ClassFile Op Lib Jvm.Stand Jvm.Free.XT Jvm.Free.ALB Jvm.Free.JM Jvm.Free
open Jvm.Lib.Cold (StaticIs)
/-- the array's cell V codes the n chars f 0 .. f (n - 1) by the coder cd, as the JDK does: coder 1 just where some char is above 255 -/
def Cod (cd : Int32) (n : Nat) (f : Nat → Int32) (V : Cell) : Prop := (cd = 0 ∧ V.slots.size = n ∧ ∀ j, j < n → V.slots[j]? = some (.int (lo8 (f j))) ∧ ¬ 255 < f j) ∨ (cd = 1 ∧ V.slots.size = 2 * n ∧ (∀ j, j < n → V.slots[2 * j]? = some (.int (lo8 (f j))) ∧ V.slots[2 * j + 1]? = some (.int (hi8 (f j)))) ∧ ∃ j, j < n ∧ 255 < f j)
/-- **x is a String of the n chars f 0 .. f (n - 1)**, Latin-1 or UTF-16; its array at t has the cell V -/
def Txt (x t : Addr) (V : Cell) (cd : Int32) (n : Nat) (f : Nat → Int32) (U : State) : Prop := Exact "java/lang/String" x U ∧ Has x "java/lang/String" "value" "[B" (.ref t) U ∧ Has x "java/lang/String" "coder" "B" (.int cd) U ∧ XT.Arr .byte t V U ∧ Cod cd n f V ∧ ∀ j, j < n → ¬ f j < 0 ∧ ¬ 65535 < f j
theorem Txt.mv {x t : Addr} {V : Cell} {cd : Int32} {n : Nat} {f : Nat → Int32} {U U' : State} (h : Txt x t V cd n f U) (hal : U.vm.Alike U'.vm) (hh : U'.heap = U.heap) : Txt x t V cd n f U' := ⟨h.1.mv hal hh, h.2.1.mv hal hh, h.2.2.1.mv hal hh, h.2.2.2.1.mv hal hh, h.2.2.2.2⟩
end StrChars
namespace StrChars.Road
open Jvm Sem ClassFile Op Lib Jvm.Stand Jvm.Free Jvm.Free.XT
open Jvm.Lib.Cold (StaticIs)
theorem consq {a : Array Value} {s : State} {c : Jvm.Cond} {L : List Jvm.Cond} (h0 : c.before a s = true) (h : ∀ w ∈ L, w.before a s = true) : ∀ w ∈ c :: L, w.before a s = true := fun w hw => (List.mem_cons.mp hw).elim (fun e => e ▸ h0) (h w)
/-- the bytes of the chars cs, low before high -/
def wideBytes : List Int32 → List Value
  | [] => []
  | c :: cs => .int (lo8 c) :: .int (hi8 c) :: wideBytes cs
theorem wide_lo (d : Value) : ∀ (cs : List Int32) (j : Nat), j < cs.length → (wideBytes cs).getD (2 * j) d = .int (lo8 (cs.getD j 0))
  | [], j, h => absurd h (Nat.not_lt_zero j)
  | c :: cs, 0, _ => rfl
  | c :: cs, j + 1, h => by
    have q := wide_lo d cs j (by simpa using h)
    rw [show 2 * (j + 1) = 2 * j + 1 + 1 from by omega]
    simpa [wideBytes] using q
theorem wide_hi (d : Value) : ∀ (cs : List Int32) (j : Nat), j < cs.length → (wideBytes cs).getD (2 * j + 1) d = .int (hi8 (cs.getD j 0))
  | [], j, h => absurd h (Nat.not_lt_zero j)
  | c :: cs, 0, _ => rfl
  | c :: cs, j + 1, h => by
    have q := wide_hi d cs j (by simpa using h)
    rw [show 2 * (j + 1) + 1 = 2 * j + 1 + 1 + 1 from by omega]
    simpa [wideBytes] using q
theorem low_at (d : Value) (cs : List Int32) (j : Nat) (h : j < cs.length) : (cs.map fun c => Value.int (lo8 c)).getD j d = .int (lo8 (cs.getD j 0)) := by
  simp [List.getD_eq_getElem?_getD, h]
/-- an array of N2 bytes vs codes the chars cs by the coder cd -/
def CodA (cs : List Int32) (cd N2 : Int32) (vs : List Value) : Prop := (cd = 0 ∧ N2 = Int32.ofNat cs.length ∧ vs = (cs.map fun c => Value.int (lo8 c)) ∧ ∀ c ∈ cs, ¬ 255 < c) ∨ (cd = 1 ∧ N2 = Int32.ofNat (2 * cs.length) ∧ vs = wideBytes cs ∧ ∃ c ∈ cs, 255 < c)
theorem CodA.cod {cs : List Int32} {cd N2 : Int32} {vs : List Value} {V : Cell} (h : CodA cs cd N2 vs) (hn : 2 * cs.length < 2 ^ 31) (hs : V.slots.size = N2.toNatClampNeg) (hv : RoadKit.Has V vs (.int 0)) : Cod cd cs.length (fun j => cs.getD j 0) V := by
  rcases h with ⟨rfl, rfl, rfl, h⟩ | ⟨rfl, rfl, rfl, c, hc, hw⟩
  · rw [n32 (by omega)] at hs
    exact Or.inl ⟨rfl, hs, fun j hj => ⟨by rw [hv j (by omega), low_at _ _ _ hj], by
      have e : cs.getD j 0 = cs[j] := by simp [List.getD_eq_getElem?_getD, hj]
      show ¬ 255 < cs.getD j 0
      rw [e]; exact h _ (List.getElem_mem _)⟩⟩
  · rw [n32 (by omega)] at hs
    obtain ⟨j, hj, rfl⟩ := List.getElem_of_mem hc
    exact Or.inr ⟨rfl, hs, fun j hj => ⟨by rw [hv _ (by omega), wide_lo _ _ _ hj], by rw [hv _ (by omega), wide_hi _ _ _ hj]⟩, j, hj, by
      have e : cs.getD j 0 = cs[j] := by simp [List.getD_eq_getElem?_getD, hj]
      show 255 < cs.getD j 0
      rw [e]; exact hw⟩
/-- an object of exactly java/lang/String, its two fields found: as the laws ask it -/
theorem strObj {Z U : State} {a0 : Array Value} {kI : Nat} (wi : (Jvm.Cond.instantiable ST kI).before a0 Z = true) (al : Z.vm.Alike U.vm) {x : Addr} {v0 c0 : Value} (E : RoadKit.Exa Z U.heap x ST) (V : RoadKit.Fld Z U.heap x ST "value" "[B" v0) (C : RoadKit.Fld Z U.heap x ST "coder" "B" c0) :
    ∃ (D : Cell) (fV fC : Field), Blank ST x D U ∧ Found ST "value" "[B" fV U ∧ Found ST "coder" "B" fC U ∧ D.slots[fV.slot]? = some v0 ∧ D.slots[fC.slot]? = some c0 ∧ RoadKit.slotOf Z ST "value" "[B" = fV.slot ∧ RoadKit.slotOf Z ST "coder" "B" = fC.slot := by
  obtain ⟨D, cfV, kV, iV, fV, hD, gV, stV, knV, obV, asV, slV⟩ := V
  obtain ⟨D', cfC, kC, iC, fC, hD', gC, stC, -, -, asC, slC⟩ := C
  cases hD.symm.trans hD'
  obtain ⟨D2, kD, e1, e2, e3, e4, e5⟩ := E
  cases hD.symm.trans e1
  obtain ⟨c2, k2, i1, i2, i3, -⟩ := Cond.instantiable_spec wi
  cases e2.symm.trans i1
  cases e3.symm.trans i2
  obtain ⟨kU, u1, u2⟩ := al.2.2 _ _ e3
  exact ⟨D, fV, fC, ⟨hD, ⟨knV, fun q hq => by rw [hq] at obV; cases obV⟩, by rw [al.findClass]; exact e2, kU, u1, by rw [u2]; exact i3, by rw [u2]; exact e5 i3⟩, ⟨SBG.found_only al ⟨cfV, kV, iV, gV⟩, stV⟩, ⟨SBG.found_only al ⟨cfC, kC, iC, gC⟩, stC⟩, slV, slC, by simp [RoadKit.slotOf, gV], by simp [RoadKit.slotOf, gC]⟩
theorem sta_is {Z U : State} (al : Z.vm.Alike U.vm) {C n d : String} {v : Value} (S : RoadKit.Sta Z U.heap C n d v) : StaticIs U C n d v := by
  obtain ⟨cfS, iS, kS, fS, st, cS, t1, t2, t3, t4, t5, t6, t7⟩ := S
  exact StaticIs.there (s := { Z with heap := U.heap }) ⟨cfS, iS, kS, fS, st, cS, t1, t2, t3, t4, t5, (fun q => by rw [q] at t6; cases t6), t7⟩ al rfl
end StrChars.Road
namespace StrChars
open Jvm Sem ClassFile Op Lib Jvm.Stand Jvm.Free.XT Jvm.Free.ALB Jvm.Free.JM Jvm.Free
open Jvm.Lib.Cold (StaticIs)
/-- what place i of a byte[]'s cell holds -/
def yv (A : Cell) (i : Nat) : Int32 := match A.slots[i]? with | some (.int x) => x | _ => 0
theorem yv_get {a : Addr} {A : Cell} {U : State} (h : XT.Arr .byte a A U) (ht : Typed .byte A) {i : Nat} (hi : i < A.slots.size) : A.slots[i]? = some (.int (yv A i)) := by
  have e := Array.getElem?_eq_getElem hi
  have f := ht i _ e
  unfold yv; rw [e]
  generalize A.slots[i] = v at f
  cases v <;> simp [fits] at f ⊢
/-- the two arrays are equal, place for place -/
def EqC (A B : Cell) : Prop := A.slots.size = B.slots.size ∧ ∀ i, i < A.slots.size → yv A i = yv B i
/-- a boolean that says whether p -/
def Says01 (q : Prop) (r : Option Value) (s u : State) : Prop := ∃ v : Int32, r = some (.int v) ∧ u.heap = s.heap ∧ ((v = 1 ∧ q) ∨ (v = 0 ∧ ¬ q))
theorem Says01.mv {q : Prop} : ∀ r (U U' V V' : State), U'.heap = U.heap → V.vm.Alike V'.vm → V'.heap = V.heap → Says01 q r U V → Says01 q r U' V' :=
  fun r U U' V V' h1 _ h2 ⟨v, a, b, c⟩ => ⟨v, a, by rw [h1, h2]; exact b, c⟩
namespace LEq
def yN : MethodName := ⟨"java/lang/StringLatin1", "equals", "([B[B)Z"⟩
abbrev yB : ByteArray := jdk_43_method_13_code
theorem d0 : decode yB 0 = .ok (.aload_n 0, 1) := by decide +kernel
theorem d1 : decode yB 1 = .ok (.arraylength, 1) := by decide +kernel
theorem d2 : decode yB 2 = .ok (.aload_n 1, 1) := by decide +kernel
theorem d3 : decode yB 3 = .ok (.arraylength, 1) := by decide +kernel
theorem d4 : decode yB 4 = .ok (.if_icmp (.ne) 30, 3) := by decide +kernel
theorem d7 : decode yB 7 = .ok (.iconst 0, 1) := by decide +kernel
theorem d8 : decode yB 8 = .ok (.istore_n 2, 1) := by decide +kernel
theorem d9 : decode yB 9 = .ok (.iload_n 2, 1) := by decide +kernel
theorem d10 : decode yB 10 = .ok (.aload_n 0, 1) := by decide +kernel
theorem d11 : decode yB 11 = .ok (.arraylength, 1) := by decide +kernel
theorem d12 : decode yB 12 = .ok (.if_icmp (.ge) 20, 3) := by decide +kernel
theorem d15 : decode yB 15 = .ok (.aload_n 0, 1) := by decide +kernel
theorem d16 : decode yB 16 = .ok (.iload_n 2, 1) := by decide +kernel
theorem d17 : decode yB 17 = .ok (.baload, 1) := by decide +kernel
theorem d18 : decode yB 18 = .ok (.aload_n 1, 1) := by decide +kernel
theorem d19 : decode yB 19 = .ok (.iload_n 2, 1) := by decide +kernel
theorem d20 : decode yB 20 = .ok (.baload, 1) := by decide +kernel
theorem d21 : decode yB 21 = .ok (.if_icmp (.eq) 5, 3) := by decide +kernel
theorem d24 : decode yB 24 = .ok (.iconst 0, 1) := by decide +kernel
theorem d25 : decode yB 25 = .ok (.ireturn, 1) := by decide +kernel
theorem d26 : decode yB 26 = .ok (.iinc 2 1, 3) := by decide +kernel
theorem d29 : decode yB 29 = .ok (.goto (-20), 3) := by decide +kernel
theorem d32 : decode yB 32 = .ok (.iconst 1, 1) := by decide +kernel
theorem d33 : decode yB 33 = .ok (.ireturn, 1) := by decide +kernel
theorem d34 : decode yB 34 = .ok (.iconst 0, 1) := by decide +kernel
theorem d35 : decode yB 35 = .ok (.ireturn, 1) := by decide +kernel
def site : List Cond := []
def tab : Cond := tabOf yN yB 3 (some .boolean) site
def P (a : Addr) (A : Cell) (b : Addr) (B : Cell) (args : Array Value) (s : State) : Prop := args = #[.ref a, .ref b] ∧ XT.Arr .byte a A s ∧ Typed .byte A ∧ XT.Arr .byte b B s ∧ Typed .byte B
/-- whether two byte[] are equal, place for place -/
theorem law (l : Launch) (a : Addr) (A : Cell) (b : Addr) (B : Cell) : Law l yN 2 2 0 0 yB 3 (some .boolean) site (P a A b B) (Says01 (EqC A B)) [] 0 0 := by
  refine Law.of_walk (plainFor_of_name (by decide +kernel)) (by decide +kernel) (by decide +kernel) (by decide) (fun _ _ h => by rw [h.1]; rfl) (fun _ U U' hal hh h => ⟨h.1, h.2.1.mv hal hh, h.2.2.1, h.2.2.2.1.mv hal hh, h.2.2.2.2⟩) (fun r U U' V V' h1 hal h2 h => Says01.mv r U U' V V' h1 hal h2 h) ?_
  intro p e s m args below meth c s₁ X0 hexec hbytes hml hret hlk hnm hown hh0 W hP
  obtain ⟨rfl, hA, tA, hB, tB⟩ := hP
  have a31 := hA.2.2.2
  have b31 := hB.2.2.2
  have hA0 := hA.mv X0.warmed.alike hh0
  have hB0 := hB.mv X0.warmed.alike hh0
  have c1 : Steps p.tables e below (s₁.setTop (entryFrame m #[.ref a, .ref b] 3)) (s₁.setTop (mkF m 0 #[.val (.ref a), .val (.ref b), .unset] [])) := entry rfl
  have c2 : Steps p.tables e below (s₁.setTop (entryFrame m #[.ref a, .ref b] 3)) (s₁.setTop (mkF m 4 #[.val (.ref a), .val (.ref b), .unset] [.int (Int32.ofNat B.slots.size), .int (Int32.ofNat A.slots.size)])) := c1.trans (by
    refine XS.aloadN X0.here hexec rfl (hb hbytes d0) rfl rfl ?_
    refine X0.alen hexec hA0 rfl rfl (hb hbytes d1) ?_
    refine XS.aloadN X0.here hexec rfl (hb hbytes d2) rfl rfl ?_
    refine X0.alen hexec hB0 rfl rfl (hb hbytes d3) ?_
    exact Steps.refl _)
  by_cases hs : A.slots.size = B.slots.size
  · have c3 : Steps p.tables e below (s₁.setTop (entryFrame m #[.ref a, .ref b] 3)) (s₁.setTop (mkF m 9 #[.val (.ref a), .val (.ref b), .val (.int 0)] [])) := c2.trans (by
      refine XS.icmpNo X0.here hexec rfl (hb hbytes d4) rfl (ii_ne_f (by rw [hs])) ?_
      refine iconstV X0.here hexec rfl 0 (hb hbytes d7) (by decide) ?_
      refine XS.istoreN X0.here hexec rfl (hb hbytes d8) rfl rfl ?_
      exact Steps.refl _)
    have loop : ∀ (r i : Nat), i + r = A.slots.size → (∀ j, j < i → yv A j = yv B j) → Steps p.tables e below (s₁.setTop (entryFrame m #[.ref a, .ref b] 3)) (s₁.setTop (mkF m 9 #[.val (.ref a), .val (.ref b), .val (.int (Int32.ofNat i))] [])) → ∃ (pc : Nat) (Ls : Array Slot) (v : Int32), (pc = 25 ∨ pc = 33) ∧ ((v = 1 ∧ EqC A B) ∨ (v = 0 ∧ ¬ EqC A B)) ∧ Steps p.tables e below (s₁.setTop (entryFrame m #[.ref a, .ref b] 3)) (s₁.setTop (mkF m pc Ls [.int v])) := by
      intro r
      induction r with
      | zero =>
        intro i hi he cl
        exact ⟨33, _, 1, Or.inr rfl, Or.inl ⟨rfl, hs, fun j hj => he j (by omega)⟩, cl.trans (by
          refine XS.iloadN X0.here hexec rfl (hb hbytes d9) rfl ?_
          refine XS.aloadN X0.here hexec rfl (hb hbytes d10) rfl rfl ?_
          refine X0.alen hexec hA0 rfl rfl (hb hbytes d11) ?_
          refine XS.icmpYes X0.here hexec rfl (pc0 := 12) rfl (hb hbytes d12) rfl (ii_ge_t (nlt32 (by omega) (by omega))) (by decide) rfl ?_
          refine iconstV X0.here hexec rfl 1 (hb hbytes d32) (by decide) ?_
          exact Steps.refl _)⟩
      | succ r ih =>
        intro i hi he cl
        have c4 : Steps p.tables e below (s₁.setTop (entryFrame m #[.ref a, .ref b] 3)) (s₁.setTop (mkF m 21 #[.val (.ref a), .val (.ref b), .val (.int (Int32.ofNat i))] [.int (yv B i), .int (yv A i)])) := cl.trans (by
          refine XS.iloadN X0.here hexec rfl (hb hbytes d9) rfl ?_
          refine XS.aloadN X0.here hexec rfl (hb hbytes d10) rfl rfl ?_
          refine X0.alen hexec hA0 rfl rfl (hb hbytes d11) ?_
          refine XS.icmpNo X0.here hexec rfl (hb hbytes d12) rfl (ii_ge_f (lt32 (by omega) (by omega))) ?_
          refine XS.aloadN X0.here hexec rfl (hb hbytes d15) rfl rfl ?_
          refine XS.iloadN X0.here hexec rfl (hb hbytes d16) rfl ?_
          refine X0.aget hexec hA0 rfl (yv_get hA tA (i := i) (by omega)) rfl rfl (hb hbytes d17) ?_
          refine XS.aloadN X0.here hexec rfl (hb hbytes d18) rfl rfl ?_
          refine XS.iloadN X0.here hexec rfl (hb hbytes d19) rfl ?_
          refine X0.aget hexec hB0 rfl (yv_get hB tB (i := i) (by omega)) rfl rfl (hb hbytes d20) ?_
          exact Steps.refl _)
        by_cases hv : yv A i = yv B i
        · have c5 : Steps p.tables e below (s₁.setTop (entryFrame m #[.ref a, .ref b] 3)) (s₁.setTop (mkF m 9 #[.val (.ref a), .val (.ref b), .val (.int (Int32.ofNat i + 1))] [])) := c4.trans (by
            refine XS.icmpYes X0.here hexec rfl (pc0 := 21) rfl (hb hbytes d21) rfl (ii_eq_t hv) (by decide) rfl ?_
            refine iincV X0.here hexec rfl 1 (hb hbytes d26) (by decide) rfl rfl ?_
            refine XS.goto X0.here hexec rfl (pc0 := 29) rfl (hb hbytes d29) (by decide) rfl ?_
            exact Steps.refl _)
          rw [succ32] at c5
          exact ih (i + 1) (by omega) (fun j hj => by
            by_cases e : j = i
            · rw [e]; exact hv
            · exact he j (by omega)) c5
        · exact ⟨25, _, 0, Or.inl rfl, Or.inr ⟨rfl, fun q => hv (q.2 i (by omega))⟩, c4.trans (by
            refine XS.icmpNo X0.here hexec rfl (hb hbytes d21) rfl (ii_eq_f hv) ?_
            refine iconstV X0.here hexec rfl 0 (hb hbytes d24) (by decide) ?_
            exact Steps.refl _)⟩
    obtain ⟨pc, Ls, v, hpc, hv, cz⟩ := loop A.slots.size 0 (by omega) (fun j hj => absurd hj (Nat.not_lt_zero j)) c3
    have nv : narrow .boolean (.int v) = .int v := by rcases hv with ⟨rfl, -⟩ | ⟨rfl, -⟩ <;> rfl
    rcases hpc with rfl | rfl
    · exact ⟨s₁, some (.int v), _, _, _, X0, rfl, rfl, rfl, (fun h => by cases h), ⟨v, rfl, hh0, hv⟩, fun fs hl => cz.trans (X0.ireturnOut hexec hret nv (Or.inr (Or.inl rfl)) (hb hbytes d25) hl)⟩
    · exact ⟨s₁, some (.int v), _, _, _, X0, rfl, rfl, rfl, (fun h => by cases h), ⟨v, rfl, hh0, hv⟩, fun fs hl => cz.trans (X0.ireturnOut hexec hret nv (Or.inr (Or.inl rfl)) (hb hbytes d33) hl)⟩
  · have c3 : Steps p.tables e below (s₁.setTop (entryFrame m #[.ref a, .ref b] 3)) (s₁.setTop (mkF m 35 #[.val (.ref a), .val (.ref b), .unset] [.int 0])) := c2.trans (by
      refine XS.icmpYes X0.here hexec rfl (pc0 := 4) rfl (hb hbytes d4) rfl (ii_ne_t (ne32 a31 b31 hs)) (by decide) rfl ?_
      refine iconstV X0.here hexec rfl 0 (hb hbytes d34) (by decide) ?_
      exact Steps.refl _)
    exact ⟨s₁, some (.int 0), _, _, _, X0, rfl, rfl, rfl, (fun h => by cases h), ⟨0, rfl, hh0, Or.inr ⟨rfl, fun q => hs q.1⟩⟩, fun fs hl => c3.trans (X0.ireturnOut hexec hret rfl (Or.inr (Or.inl rfl)) (hb hbytes d35) hl)⟩
end LEq
theorem Cod.ty {cd : Int32} {n : Nat} {f : Nat → Int32} {V : Cell} (h : Cod cd n f V) : Typed .byte V := fun i v hv => by
  have hi : i < V.slots.size := (Array.getElem?_eq_some_iff.mp hv).1
  rcases h with ⟨-, k1, k2⟩ | ⟨-, k1, k2, -⟩
  · rw [(k2 i (by omega)).1] at hv; cases hv; exact fits_lo8 _
  · rcases Nat.mod_two_eq_zero_or_one i with e | e
    · obtain ⟨j, rfl⟩ : ∃ j, i = 2 * j := ⟨i / 2, by omega⟩
      rw [(k2 j (by omega)).1] at hv; cases hv; exact fits_lo8 _
    · obtain ⟨j, rfl⟩ : ∃ j, i = 2 * j + 1 := ⟨i / 2, by omega⟩
      rw [(k2 j (by omega)).2] at hv; cases hv; exact fits_lo8 _
/-- the same text -/
def SameT (n : Nat) (f : Nat → Int32) (k : Nat) (g : Nat → Int32) : Prop := n = k ∧ ∀ j, j < n → f j = g j
theorem lo8_inj {x y : Int32} (h0 : ¬ x < 0) (h1 : ¬ 255 < x) (k0 : ¬ y < 0) (k1 : ¬ 255 < y) (h : lo8 x = lo8 y) : x = y := by
  rw [← lo8_mask h0 h1, ← lo8_mask k0 k1, h]
/-- arrays coded by one coder are equal just where the texts are -/
theorem Cod.eqv {cd : Int32} {n k : Nat} {f g : Nat → Int32} {V V' : Cell} (h : Cod cd n f V) (h' : Cod cd k g V') (hf : ∀ j, j < n → ¬ f j < 0 ∧ ¬ 65535 < f j) (hg : ∀ j, j < k → ¬ g j < 0 ∧ ¬ 65535 < g j) : EqC V V' ↔ SameT n f k g := by
  have yvv : ∀ {W : Cell} {i : Nat} {x : Int32}, W.slots[i]? = some (.int x) → yv W i = x := fun q => by unfold yv; rw [q]
  rcases h with ⟨rfl, k1, k2⟩ | ⟨rfl, k1, k2, -⟩
  · rcases h' with ⟨-, m1, m2⟩ | ⟨e, -⟩
    · constructor
      · rintro ⟨e1, e2⟩
        refine ⟨by omega, fun j hj => ?_⟩
        have q := e2 j (by omega)
        rw [yvv (k2 j hj).1, yvv (m2 j (by omega)).1] at q
        exact lo8_inj (hf j hj).1 (k2 j hj).2 (hg j (by omega)).1 (m2 j (by omega)).2 q
      · rintro ⟨rfl, e2⟩
        refine ⟨by omega, fun j hj => ?_⟩
        rw [yvv (k2 j (by omega)).1, yvv (m2 j (by omega)).1, e2 j (by omega)]
    · exact absurd e (by decide)
  · rcases h' with ⟨e, -⟩ | ⟨-, m1, m2, -⟩
    · exact absurd e (by decide)
    · constructor
      · rintro ⟨e1, e2⟩
        refine ⟨by omega, fun j hj => ?_⟩
        have q1 := e2 (2 * j) (by omega)
        have q2 := e2 (2 * j + 1) (by omega)
        rw [yvv (k2 j hj).1, yvv (m2 j (by omega)).1] at q1
        rw [yvv (k2 j hj).2, yvv (m2 j (by omega)).2] at q2
        rw [← pair_says (hf j hj).1 (hf j hj).2, ← pair_says (hg j (by omega)).1 (hg j (by omega)).2, q1, q2]
      · rintro ⟨rfl, e2⟩
        refine ⟨by omega, fun i hi => ?_⟩
        rcases Nat.mod_two_eq_zero_or_one i with e | e
        · obtain ⟨j, rfl⟩ : ∃ j, i = 2 * j := ⟨i / 2, by omega⟩
          rw [yvv (k2 j (by omega)).1, yvv (m2 j (by omega)).1, e2 j (by omega)]
        · obtain ⟨j, rfl⟩ : ∃ j, i = 2 * j + 1 := ⟨i / 2, by omega⟩
          rw [yvv (k2 j (by omega)).2, yvv (m2 j (by omega)).2, e2 j (by omega)]
/-- two codings differ: so do the texts -/
theorem Cod.dif {cd cd' : Int32} {n k : Nat} {f g : Nat → Int32} {V V' : Cell} (h : Cod cd n f V) (h' : Cod cd' k g V') (hne : ¬ cd = cd') : ¬ SameT n f k g := by
  rintro ⟨rfl, e⟩
  rcases h with ⟨rfl, -, k2⟩ | ⟨rfl, -, -, j, hj, hw⟩
  · rcases h' with ⟨rfl, -⟩ | ⟨-, -, -, j, hj, hw⟩
    · exact hne rfl
    · exact (k2 j hj).2 (by rw [e j hj]; exact hw)
  · rcases h' with ⟨-, -, m2⟩ | ⟨rfl, -⟩
    · exact (m2 j hj).2 (by rw [← e j hj]; exact hw)
    · exact hne rfl
/-- an object of exactly C is an instance of C -/
theorem cinst {p : Program} {l : Launch} {e : Env} {R : Room} {s : State} {m : MethodId} {args : Array Value} {below : List Frame} {meth : Method} {c : Code} {T : State} {locs : List Loc} {cells slots : Nat} (X : Stand p l e R s m args below meth c T locs cells slots) (hexec : p.tables.exec = Jvm.exec) {own C : String} {index : Nat} (hown : s.vm.findClass own = some m.cls) (hlink : (Cond.classLink own index C).before args s = true) {a : Addr} (hE : Exact C a T)
    {g : JFrame} (hg : g.method = m) {rest : List Value} (hstack : g.stack = .ref a :: rest) (hdg : decode c.code g.pc = .ok (.instanceof index, 3)) :
    ∃ T', Stand p l e R s m args below meth c T' locs cells slots ∧ T'.heap = T.heap ∧ ∀ target, Steps p.tables e below (T'.setTop { g with pc := g.pc + 3, stack := .int 1 :: rest }) target → Steps p.tables e below (T.setTop g) target := by
  obtain ⟨cB, h1, D, h2, h3, h4⟩ := hE
  have h1' : s.vm.findClass C = some cB := by rw [← X.warmed.alike.findClass]; exact h1
  obtain ⟨vm', X', st⟩ := X.instanceofYes hexec hown hlink h2 h4 h1' (by rw [h3]; exact Jvm.Free.SB.assignable_self _ _) hg hstack hdg
  exact ⟨_, X', rfl, st⟩
theorem cself {p : Program} {l : Launch} {e : Env} {R : Room} {s : State} {m : MethodId} {args : Array Value} {below : List Frame} {meth : Method} {c : Code} {T : State} {locs : List Loc} {cells slots : Nat} (X : Stand p l e R s m args below meth c T locs cells slots) (hexec : p.tables.exec = Jvm.exec) {own C : String} {index : Nat} (hown : s.vm.findClass own = some m.cls) (hlink : (Cond.classLink own index C).before args s = true) {a : Addr} (hE : Exact C a T)
    {g : JFrame} (hg : g.method = m) {rest : List Value} (hstack : g.stack = .ref a :: rest) (hdg : decode c.code g.pc = .ok (.checkcast index, 3)) :
    ∃ T', Stand p l e R s m args below meth c T' locs cells slots ∧ T'.heap = T.heap ∧ ∀ target, Steps p.tables e below (T'.setTop { g with pc := g.pc + 3, stack := .ref a :: rest }) target → Steps p.tables e below (T.setTop g) target := by
  obtain ⟨cB, h1, D, h2, h3, h4⟩ := hE
  have h1' : s.vm.findClass C = some cB := by rw [← X.warmed.alike.findClass]; exact h1
  obtain ⟨vm', X', st⟩ := X.checkcastYes hexec hown hlink h2 h4 h1' (by rw [h3]; exact Jvm.Free.SB.assignable_self _ _) hg hstack hdg
  exact ⟨_, X', rfl, fun t h => st t (by rw [← hstack] at h; exact h)⟩
namespace SEq
def yN : MethodName := ⟨"java/lang/String", "equals", "(Ljava/lang/Object;)Z"⟩
abbrev yB : ByteArray := jdk_42_method_66_code
theorem d0 : decode yB 0 = .ok (.aload_n 0, 1) := by decide +kernel
theorem d1 : decode yB 1 = .ok (.aload_n 1, 1) := by decide +kernel
theorem d2 : decode yB 2 = .ok (.if_acmp (.ne) 5, 3) := by decide +kernel
theorem d5 : decode yB 5 = .ok (.iconst 1, 1) := by decide +kernel
theorem d6 : decode yB 6 = .ok (.ireturn, 1) := by decide +kernel
theorem d7 : decode yB 7 = .ok (.aload_n 1, 1) := by decide +kernel
theorem d8 : decode yB 8 = .ok (.instanceof 10, 3) := by decide +kernel
theorem d11 : decode yB 11 = .ok (.ifCond (.eq) 43, 3) := by decide +kernel
theorem d14 : decode yB 14 = .ok (.aload_n 1, 1) := by decide +kernel
theorem d15 : decode yB 15 = .ok (.checkcast 10, 3) := by decide +kernel
theorem d18 : decode yB 18 = .ok (.astore_n 2, 1) := by decide +kernel
theorem d19 : decode yB 19 = .ok (.getstatic 38, 3) := by decide +kernel
theorem d22 : decode yB 22 = .ok (.ifCond (.eq) 14, 3) := by decide +kernel
theorem d25 : decode yB 25 = .ok (.aload_n 0, 1) := by decide +kernel
theorem d26 : decode yB 26 = .ok (.getfield 15, 3) := by decide +kernel
theorem d29 : decode yB 29 = .ok (.aload_n 2, 1) := by decide +kernel
theorem d30 : decode yB 30 = .ok (.getfield 15, 3) := by decide +kernel
theorem d33 : decode yB 33 = .ok (.if_icmp (.ne) 21, 3) := by decide +kernel
theorem d36 : decode yB 36 = .ok (.aload_n 0, 1) := by decide +kernel
theorem d37 : decode yB 37 = .ok (.getfield 9, 3) := by decide +kernel
theorem d40 : decode yB 40 = .ok (.aload_n 2, 1) := by decide +kernel
theorem d41 : decode yB 41 = .ok (.getfield 9, 3) := by decide +kernel
theorem d44 : decode yB 44 = .ok (.invokestatic 541, 3) := by decide +kernel
theorem d47 : decode yB 47 = .ok (.ifCond (.eq) 7, 3) := by decide +kernel
theorem d50 : decode yB 50 = .ok (.iconst 1, 1) := by decide +kernel
theorem d51 : decode yB 51 = .ok (.goto 4, 3) := by decide +kernel
theorem d54 : decode yB 54 = .ok (.iconst 0, 1) := by decide +kernel
theorem d55 : decode yB 55 = .ok (.ireturn, 1) := by decide +kernel
def site : List Cond := [.classLink "java/lang/String" 10 "java/lang/String", .fieldLink "java/lang/String" 38 "java/lang/String" "COMPACT_STRINGS" "Z", .fieldLink "java/lang/String" 15 "java/lang/String" "coder" "B", .fieldLink "java/lang/String" 9 "java/lang/String" "value" "[B", LEq.tab] ++ staticW "java/lang/String" 541 LEq.yN
def tab : Cond := tabOf yN yB 3 (some .boolean) site
def P (x t : Addr) (V : Cell) (cd : Int32) (n : Nat) (f : Nat → Int32) (y t' : Addr) (V' : Cell) (cd' : Int32) (k : Nat) (g : Nat → Int32) (z : Int32) (args : Array Value) (s : State) : Prop := args = #[.ref x, .ref y] ∧ Txt x t V cd n f s ∧ Txt y t' V' cd' k g s ∧ StaticIs s "java/lang/String" "COMPACT_STRINGS" "Z" (.int z) ∧ ¬ z = 0
/-- equals(Object) of two Strings: whether the texts are the same -/
theorem law (l : Launch) (x t : Addr) (V : Cell) (cd : Int32) (n : Nat) (f : Nat → Int32) (y t' : Addr) (V' : Cell) (cd' : Int32) (k : Nat) (g : Nat → Int32) (z : Int32) : Law l yN 2 1 1 14 yB 3 (some .boolean) site (P x t V cd n f y t' V' cd' k g z) (Says01 (SameT n f k g)) [] 0 0 := by
  refine Law.of_walk (plainFor_of_name (by decide +kernel)) (by decide +kernel) (by decide +kernel) (by decide) (fun _ _ h => by rw [h.1]; rfl) (fun _ U U' hal hh h => ⟨h.1, h.2.1.mv hal hh, h.2.2.1.mv hal hh, h.2.2.2.1.there hal hh, h.2.2.2.2⟩) (fun r U U' V V' h1 hal h2 h => Says01.mv r U U' V V' h1 hal h2 h) ?_
  intro p e s m args below meth c s₁ X0 hexec hbytes hml hret hlk hnm hown hh0 W hP
  obtain ⟨rfl, hx, hy, s1, hz⟩ := hP
  have c1 : Steps p.tables e below (s₁.setTop (entryFrame m #[.ref x, .ref y] 3)) (s₁.setTop (mkF m 2 #[.val (.ref x), .val (.ref y), .unset] [.ref y, .ref x])) := Steps.trans (entry rfl) (by
    show Steps p.tables e below (s₁.setTop (mkF m 0 #[.val (.ref x), .val (.ref y), .unset] [])) _
    refine XS.aloadN X0.here hexec rfl (hb hbytes d0) rfl rfl ?_
    refine XS.aloadN X0.here hexec rfl (hb hbytes d1) rfl rfl ?_
    exact Steps.refl _)
  by_cases hxy : x = y
  · have c2 : Steps p.tables e below (s₁.setTop (entryFrame m #[.ref x, .ref y] 3)) (s₁.setTop (mkF m 6 #[.val (.ref x), .val (.ref y), .unset] [.int 1])) := c1.trans (by
      refine acmpNo X0.here hexec rfl (hb hbytes d2) rfl rfl rfl (by simp [acmp, hxy]) ?_
      refine iconstV X0.here hexec rfl 1 (hb hbytes d5) (by decide) ?_
      exact Steps.refl _)
    subst hxy
    have ec : cd = cd' := by
      obtain ⟨D, fd, a1, a2, a3⟩ := hx.2.2.1
      obtain ⟨D', fd', b1, b2, b3⟩ := hy.2.2.1
      cases a1.symm.trans b1
      obtain ⟨q1, q2, q3, q4⟩ := a2.1
      obtain ⟨r1, r2, r3, r4⟩ := b2.1
      cases q4.symm.trans r4
      cases a3.symm.trans b3; rfl
    have et : t = t' := by
      obtain ⟨D, fd, a1, a2, a3⟩ := hx.2.1
      obtain ⟨D', fd', b1, b2, b3⟩ := hy.2.1
      cases a1.symm.trans b1
      obtain ⟨q1, q2, q3, q4⟩ := a2.1
      obtain ⟨r1, r2, r3, r4⟩ := b2.1
      cases q4.symm.trans r4
      cases a3.symm.trans b3; rfl
    subst ec et
    have ev : V = V' := by cases hx.2.2.2.1.1.symm.trans hy.2.2.2.1.1; rfl
    subst ev
    have hs : SameT n f k g := (Cod.eqv hx.2.2.2.2.1 hy.2.2.2.2.1 hx.2.2.2.2.2 hy.2.2.2.2.2).mp ⟨rfl, fun _ _ => rfl⟩
    exact ⟨s₁, some (.int 1), _, _, _, X0, rfl, rfl, rfl, (fun h => by cases h), ⟨1, rfl, hh0, Or.inl ⟨rfl, hs⟩⟩, fun fs hl => c2.trans (X0.ireturnOut hexec hret rfl (Or.inr (Or.inl rfl)) (hb hbytes d6) hl)⟩
  · have c2 : Steps p.tables e below (s₁.setTop (entryFrame m #[.ref x, .ref y] 3)) (s₁.setTop (mkF m 8 #[.val (.ref x), .val (.ref y), .unset] [.ref y])) := c1.trans (by
      refine acmpYes X0.here hexec rfl (pc0 := 2) rfl (hb hbytes d2) rfl rfl rfl (by simp [acmp, hxy]) (by decide) rfl ?_
      refine XS.aloadN X0.here hexec rfl (hb hbytes d7) rfl rfl ?_
      exact Steps.refl _)
    obtain ⟨T3, X3, q3, st3⟩ := cinst X0 hexec hown (wk W (.classLink "java/lang/String" 10 "java/lang/String")) (hy.mv X0.warmed.alike hh0).1 (g := (mkF m 8 #[.val (.ref x), .val (.ref y), .unset] [.ref y])) rfl (rest := []) rfl (hb hbytes d8)
    have hh3 := q3.trans hh0
    have c4 : Steps p.tables e below (s₁.setTop (entryFrame m #[.ref x, .ref y] 3)) (T3.setTop (mkF m 15 #[.val (.ref x), .val (.ref y), .unset] [.ref y])) := (c2.trans (st3 _ (Steps.refl _))).trans (by
      refine XS.ifNo X3.here hexec rfl (hb hbytes d11) rfl (i0_eq_f (by decide)) ?_
      refine XS.aloadN X3.here hexec rfl (hb hbytes d14) rfl rfl ?_
      exact Steps.refl _)
    obtain ⟨T5, X5, q5, st5⟩ := cself X3 hexec hown (wk W (.classLink "java/lang/String" 10 "java/lang/String")) (hy.mv X3.warmed.alike hh3).1 (g := (mkF m 15 #[.val (.ref x), .val (.ref y), .unset] [.ref y])) rfl (rest := []) rfl (hb hbytes d15)
    have hh5 := q5.trans hh3
    have c6 : Steps p.tables e below (s₁.setTop (entryFrame m #[.ref x, .ref y] 3)) (T5.setTop (mkF m 19 #[.val (.ref x), .val (.ref y), .val (.ref y)] [])) := (c4.trans (st5 _ (Steps.refl _))).trans (by
      refine XS.astoreN X5.here hexec rfl (hb hbytes d18) rfl rfl rfl ?_
      exact Steps.refl _)
    obtain ⟨T7, X7, q7, st7⟩ := X5.sget hexec hown (wk W (.fieldLink "java/lang/String" 38 "java/lang/String" "COMPACT_STRINGS" "Z")) s1 (fun _ _ h => by rw [hh5]; exact h) (g := (mkF m 19 #[.val (.ref x), .val (.ref y), .val (.ref y)] [])) rfl (hb hbytes d19)
    have hh7 := q7.trans hh5
    have c8 : Steps p.tables e below (s₁.setTop (entryFrame m #[.ref x, .ref y] 3)) (T7.setTop (mkF m 26 #[.val (.ref x), .val (.ref y), .val (.ref y)] [.ref x])) := (c6.trans (st7 _ (Steps.refl _))).trans (by
      refine XS.ifNo X7.here hexec rfl (hb hbytes d22) rfl (i0_eq_f hz) ?_
      refine XS.aloadN X7.here hexec rfl (hb hbytes d25) rfl rfl ?_
      exact Steps.refl _)
    obtain ⟨T9, X9, q9, st9⟩ := X7.hget hexec hown (wk W (.fieldLink "java/lang/String" 15 "java/lang/String" "coder" "B")) (hx.mv X7.warmed.alike hh7).2.2.1 (g := (mkF m 26 #[.val (.ref x), .val (.ref y), .val (.ref y)] [.ref x])) rfl (rest := []) rfl (hb hbytes d26)
    have hh9 := q9.trans hh7
    have c10 : Steps p.tables e below (s₁.setTop (entryFrame m #[.ref x, .ref y] 3)) (T9.setTop (mkF m 30 #[.val (.ref x), .val (.ref y), .val (.ref y)] [.ref y, .int cd])) := (c8.trans (st9 _ (Steps.refl _))).trans (by
      refine XS.aloadN X9.here hexec rfl (hb hbytes d29) rfl rfl ?_
      exact Steps.refl _)
    obtain ⟨T11, X11, q11, st11⟩ := X9.hget hexec hown (wk W (.fieldLink "java/lang/String" 15 "java/lang/String" "coder" "B")) (hy.mv X9.warmed.alike hh9).2.2.1 (g := (mkF m 30 #[.val (.ref x), .val (.ref y), .val (.ref y)] [.ref y, .int cd])) rfl (rest := [.int cd]) rfl (hb hbytes d30)
    have hh11 := q11.trans hh9
    have c12 : Steps p.tables e below (s₁.setTop (entryFrame m #[.ref x, .ref y] 3)) (T11.setTop (mkF m 33 #[.val (.ref x), .val (.ref y), .val (.ref y)] [.int cd', .int cd])) := c10.trans (st11 _ (Steps.refl _))
    by_cases hcd : cd = cd'
    · subst hcd
      have c13 : Steps p.tables e below (s₁.setTop (entryFrame m #[.ref x, .ref y] 3)) (T11.setTop (mkF m 37 #[.val (.ref x), .val (.ref y), .val (.ref y)] [.ref x])) := c12.trans (by
        refine XS.icmpNo X11.here hexec rfl (hb hbytes d33) rfl (ii_ne_f rfl) ?_
        refine XS.aloadN X11.here hexec rfl (hb hbytes d36) rfl rfl ?_
        exact Steps.refl _)
      obtain ⟨T14, X14, q14, st14⟩ := X11.hget hexec hown (wk W (.fieldLink "java/lang/String" 9 "java/lang/String" "value" "[B")) (hx.mv X11.warmed.alike hh11).2.1 (g := (mkF m 37 #[.val (.ref x), .val (.ref y), .val (.ref y)] [.ref x])) rfl (rest := []) rfl (hb hbytes d37)
      have hh14 := q14.trans hh11
      have c15 : Steps p.tables e below (s₁.setTop (entryFrame m #[.ref x, .ref y] 3)) (T14.setTop (mkF m 41 #[.val (.ref x), .val (.ref y), .val (.ref y)] [.ref y, .ref t])) := (c13.trans (st14 _ (Steps.refl _))).trans (by
        refine XS.aloadN X14.here hexec rfl (hb hbytes d40) rfl rfl ?_
        exact Steps.refl _)
      obtain ⟨T16, X16, q16, st16⟩ := X14.hget hexec hown (wk W (.fieldLink "java/lang/String" 9 "java/lang/String" "value" "[B")) (hy.mv X14.warmed.alike hh14).2.1 (g := (mkF m 41 #[.val (.ref x), .val (.ref y), .val (.ref y)] [.ref y, .ref t])) rfl (rest := [.ref t]) rfl (hb hbytes d41)
      have hh16 := q16.trans hh14
      have c17 : Steps p.tables e below (s₁.setTop (entryFrame m #[.ref x, .ref y] 3)) (T16.setTop (mkF m 44 #[.val (.ref x), .val (.ref y), .val (.ref y)] [.ref t', .ref t])) := c15.trans (st16 _ (Steps.refl _))
      obtain ⟨v18, T18, X18, E18, g18⟩ := X16.callS hexec (LEq.law l t V t' V') hown (wks W (staticW "java/lang/String" 541 LEq.yN)) (wk W LEq.tab) (W := 0) (Nat.le_of_ble_eq_true rfl) (Nat.le_of_ble_eq_true rfl) (Nat.le_refl _) (Nat.le_refl _) (g := (mkF m 44 #[.val (.ref x), .val (.ref y), .val (.ref y)] [.ref t', .ref t])) rfl (by rw [hml]; rfl) c17 (argsL := [.ref t, .ref t']) (rest := []) rfl rfl (by show 2 * 0 + 0 ≤ _; decide) (hb hbytes d44) (⟨rfl, hx.2.2.2.1.mv X16.warmed.alike hh16, hx.2.2.2.2.1.ty, hy.2.2.2.1.mv X16.warmed.alike hh16, hy.2.2.2.2.1.ty⟩)
      obtain ⟨v, rfl, q18, hv⟩ := E18
      have iff := Cod.eqv hx.2.2.2.2.1 hy.2.2.2.2.1 hx.2.2.2.2.2 hy.2.2.2.2.2
      rcases hv with ⟨rfl, he⟩ | ⟨rfl, he⟩
      · have c19 : Steps p.tables e below (s₁.setTop (entryFrame m #[.ref x, .ref y] 3)) (T18.setTop (mkF m 55 #[.val (.ref x), .val (.ref y), .val (.ref y)] [.int 1])) := Steps.trans g18 (by
          refine XS.ifNo X18.here hexec rfl (hb hbytes d47) rfl (i0_eq_f (by decide)) ?_
          refine iconstV X18.here hexec rfl 1 (hb hbytes d50) (by decide) ?_
          refine XS.goto X18.here hexec rfl (pc0 := 51) rfl (hb hbytes d51) (by decide) rfl ?_
          exact Steps.refl _)
        exact ⟨T18, some (.int 1), _, _, _, X18, rfl, rfl, rfl, (fun h => by cases h), ⟨1, rfl, q18.trans hh16, Or.inl ⟨rfl, iff.mp he⟩⟩, fun fs hl => c19.trans (X18.ireturnOut hexec hret rfl (Or.inr (Or.inl rfl)) (hb hbytes d55) hl)⟩
      · have c19 : Steps p.tables e below (s₁.setTop (entryFrame m #[.ref x, .ref y] 3)) (T18.setTop (mkF m 55 #[.val (.ref x), .val (.ref y), .val (.ref y)] [.int 0])) := Steps.trans g18 (by
          refine XS.ifYes X18.here hexec rfl (pc0 := 47) rfl (hb hbytes d47) rfl (i0_eq_t rfl) (by decide) rfl ?_
          refine iconstV X18.here hexec rfl 0 (hb hbytes d54) (by decide) ?_
          exact Steps.refl _)
        exact ⟨T18, some (.int 0), _, _, _, X18, rfl, rfl, rfl, (fun h => by cases h), ⟨0, rfl, q18.trans hh16, Or.inr ⟨rfl, fun q => he (iff.mpr q)⟩⟩, fun fs hl => c19.trans (X18.ireturnOut hexec hret rfl (Or.inr (Or.inl rfl)) (hb hbytes d55) hl)⟩
    · have c13 : Steps p.tables e below (s₁.setTop (entryFrame m #[.ref x, .ref y] 3)) (T11.setTop (mkF m 55 #[.val (.ref x), .val (.ref y), .val (.ref y)] [.int 0])) := c12.trans (by
        refine XS.icmpYes X11.here hexec rfl (pc0 := 33) rfl (hb hbytes d33) rfl (ii_ne_t hcd) (by decide) rfl ?_
        refine iconstV X11.here hexec rfl 0 (hb hbytes d54) (by decide) ?_
        exact Steps.refl _)
      exact ⟨T11, some (.int 0), _, _, _, X11, rfl, rfl, rfl, (fun h => by cases h), ⟨0, rfl, hh11, Or.inr ⟨rfl, Cod.dif hx.2.2.2.2.1 hy.2.2.2.2.1 hcd⟩⟩, fun fs hl => c13.trans (X11.ireturnOut hexec hret rfl (Or.inr (Or.inl rfl)) (hb hbytes d55) hl)⟩
theorem pays {l : Launch} {R : Room} {p : Program} {e : Env} {below : List Frame} {s : State} {sargs : Array Value} {len W : Nat} (x t : Addr) (V : Cell) (cd : Int32) (n : Nat) (f : Nat → Int32) (y t' : Addr) (V' : Cell) (cd' : Int32) (k : Nat) (g : Nat → Int32) (z : Int32) (htab : tab.before sargs s = true) (hfr : 2 ≤ R.frames) (hlo : W + 28 ≤ R.locals) :
    Back l R p e below s sargs yN len W (fun A₁ a₁ => A₁.cells + 0 ≤ R.cells ∧ A₁.slots + 0 ≤ R.slots ∧ P x t V cd n f y t' V' cd' k g z a₁ A₁.U) (fun A₁ _ v₁ B₁ => Says01 (SameT n f k g) v₁ A₁.U B₁.U ∧ B₁.locs = A₁.locs ++ [] ∧ B₁.cells = A₁.cells + 0 ∧ B₁.slots = A₁.slots + 0) :=
  (law l x t V cd n f y t' V' cd' k g z).pays htab hfr (by omega)
end SEq
end StrChars
namespace StrChars.Road
open Jvm Sem ClassFile Op Lib Jvm.Stand Jvm.Free Jvm.Free.XT
open Jvm.Lib.Cold (StaticIs)
/-- the words of String.equals(Object) -/
abbrev wordsEq : List Jvm.Cond := [.code SEq.yN SEq.yB 3 (some .boolean), .initialized ST, .classLink ST 10 ST, .fieldLink ST 38 ST "COMPACT_STRINGS" "Z", .fieldLink ST 15 ST "coder" "B", .fieldLink ST 9 ST "value" "[B", .methodLink ST 541 LEq.yN, .static LEq.yN, .code LEq.yN LEq.yB 3 (some .boolean), .initialized "java/lang/StringLatin1"]
theorem tabEq_of {a : Array Value} {s : State} (h : ∀ w ∈ wordsEq, w.before a s = true) : SEq.tab.before a s = true := by
  have hl : LEq.tab.before a s = true := unparts (wk h (.code LEq.yN LEq.yB 3 (some .boolean))) (wks h (.initialized LEq.yN.cls :: LEq.site))
  have q := consq hl h
  exact unparts (wk q (.code SEq.yN SEq.yB 3 (some .boolean))) (wks q (.initialized SEq.yN.cls :: SEq.site))
theorem movedEq {Z s : State} {a0 args : Array Value} (hZ : Z.Warmed39 s.vm) (hw : ∀ d ∈ wordsEq, d.before a0 Z = true) : ∀ d ∈ wordsEq, d.before args s = true := fun d hd => by
  have t : ∀ d ∈ wordsEq, (d.onTables && d.keepsFace) = true := by decide +kernel
  exact RoadKit.mv hZ (hw d hd) (t d hd)
/-- the road's facts of a String, as the laws ask it -/
theorem txt_of {Z U : State} {a0 : Array Value} {kI : Nat} (wi : (Jvm.Cond.instantiable ST kI).before a0 Z = true) (al : Z.vm.Alike U.vm) {x t : Addr} {kb : ClassId} {cs : List Int32} {cd N2 : Int32} {vs : List Value} (E : RoadKit.Exa Z U.heap x ST) (V : RoadKit.Fld Z U.heap x ST "value" "[B" (.ref t)) (C : RoadKit.Fld Z U.heap x ST "coder" "B" (.int cd)) (K : RoadKit.Arv Z U.heap t kb .byte N2 vs (.int 0)) (hc : CodA cs cd N2 vs) (hb : ∀ c ∈ cs, ¬ c < 0 ∧ ¬ (65535 : Int32) < c) (l2 : cs.length ≤ 4000) :
    ∃ A, Txt x t A cd cs.length (fun j => cs.getD j 0) U := by
  obtain ⟨A, K1, K2, K3, K4, K5, K6⟩ := K
  have hcod := hc.cod (by omega) K3 K5
  obtain ⟨D, fV, fC, hB, F1, F2, g1, g2, -, -⟩ := strObj wi al E V C
  exact ⟨A, ⟨_, hB.2.2.1, D, hB.1, rfl, by cases q : D.vm <;> first | rfl | exact absurd q (hB.2.1.2 _)⟩, Has.of hB F1 g1, Has.of hB F2 g2, ⟨K1.1, State.isArrayOf_alike al K1.2.1, K1.2.2, by rcases hcod with ⟨-, q, -⟩ | ⟨-, q, -⟩ <;> omega⟩, hcod, fun j hj => by
    have e : cs.getD j 0 = cs[j] := by simp [List.getD_eq_getElem?_getD, hj]
    show ¬ cs.getD j 0 < 0 ∧ ¬ 65535 < cs.getD j 0
    rw [e]; exact hb _ (List.getElem_mem _)⟩
theorem same_list (cs ds : List Int32) : SameT cs.length (fun j => cs.getD j 0) ds.length (fun j => ds.getD j 0) ↔ cs = ds := by
  constructor
  · rintro ⟨e, q⟩
    refine List.ext_getElem e fun j h1 h2 => ?_
    have := q j h1
    simpa [List.getD_eq_getElem?_getD, h1, h2] using this
  · rintro rfl
    exact ⟨rfl, fun _ _ => rfl⟩
/-- **equals(Object) OF TWO SUCH STRINGS**: 1 just where the chars are the same -/
theorem eqW {p : Program} {l : Launch} {e : Env} {R : Room} {s : State} {args : Array Value} {below : List Frame} {len W : Nat} {Z : State} {a0 : Array Value} {h : Heap} (hZ : Z.Warmed39 s.vm) (hw : ∀ d ∈ wordsEq, d.before a0 Z = true) {kI : Nat} (wi : (Jvm.Cond.instantiable ST kI).before a0 Z = true)
    {x t : Addr} {kb : ClassId} {cs : List Int32} {cd N2 : Int32} {vs : List Value} (E : RoadKit.Exa Z h x ST) (V : RoadKit.Fld Z h x ST "value" "[B" (.ref t)) (C : RoadKit.Fld Z h x ST "coder" "B" (.int cd)) (K : RoadKit.Arv Z h t kb .byte N2 vs (.int 0)) (hc : CodA cs cd N2 vs) (hb : ∀ c ∈ cs, ¬ c < 0 ∧ ¬ (65535 : Int32) < c) (l2 : cs.length ≤ 4000)
    {y t' : Addr} {kb' : ClassId} {ds : List Int32} {cd' N2' : Int32} {vs' : List Value} (E' : RoadKit.Exa Z h y ST) (V' : RoadKit.Fld Z h y ST "value" "[B" (.ref t')) (C' : RoadKit.Fld Z h y ST "coder" "B" (.int cd')) (K' : RoadKit.Arv Z h t' kb' .byte N2' vs' (.int 0)) (hc' : CodA ds cd' N2' vs') (hb' : ∀ c ∈ ds, ¬ c < 0 ∧ ¬ (65535 : Int32) < c) (l2' : ds.length ≤ 4000)
    {z : Int32} (S : RoadKit.Sta Z h ST "COMPACT_STRINGS" "Z" (.int z)) (hz : ¬ z = 0) (hfr : 2 ≤ R.frames) (hlo : W + 28 ≤ R.locals) :
    Back l R p e below s args (⟨"java/lang/String", "equals", "(Ljava/lang/Object;)Z"⟩ : MethodName) len W (fun P a => a = #[.ref x, .ref y] ∧ P.U.heap = h ∧ P.cells + 0 ≤ R.cells ∧ P.slots + 0 ≤ R.slots)
      (fun P _ v B => ∃ L, (((v = some (.int 1) ∧ cs = ds) ∨ (v = some (.int 0) ∧ ¬ cs = ds)) ∧ L = [] ∧ B.U.heap = h) ∧ B.locs = P.locs ++ L ∧ B.cells = P.cells + 0 ∧ B.slots = P.slots + 0) := by
  intro m meth c P g ig mk a X hg hsize hdg hW hn hp'
  obtain ⟨rfl, rfl, r1, r2⟩ := hp'
  have al : Z.vm.Alike P.U.vm := hZ.alike.trans X.warmed.alike
  obtain ⟨A, hx⟩ := txt_of wi al E V C K hc hb l2
  obtain ⟨A', hy⟩ := txt_of wi al E' V' C' K' hc' hb' l2'
  obtain ⟨v, B, X', ⟨⟨w, hv, hh, hq⟩, hl, hk, hs⟩, st⟩ := SEq.pays x t A cd cs.length (fun j => cs.getD j 0) y t' A' cd' ds.length (fun j => ds.getD j 0) z (tabEq_of (movedEq hZ hw)) hfr hlo m meth c P g ig mk _ X hg hsize hdg hW hn ⟨r1, r2, rfl, hx, hy, sta_is al S, hz⟩
  refine ⟨v, B, X', ⟨[], ⟨?_, rfl, hh⟩, hl, hk, hs⟩, st⟩
  rcases hq with ⟨rfl, q⟩ | ⟨rfl, q⟩
  · exact Or.inl ⟨hv, (same_list cs ds).mp q⟩
  · exact Or.inr ⟨hv, fun e => q ((same_list cs ds).mpr e)⟩
end StrChars.Road
namespace StrChars.Road
open Jvm Sem ClassFile Op Lib Jvm.Stand Jvm.Free Jvm.Free.XT
open Jvm.Lib.Cold (StaticIs)
/-- what backV says of its String, as the contracts of this text ask it: cs's low bytes, coder 0 -/
theorem codOf {cs : List Int32} {n : Nat} (hn : cs.length = n) (hb : ∀ c ∈ cs, ¬ 255 < c) : CodA cs 0 (Int32.ofNat n) ((cs.map lo8).map Value.int) := Or.inl ⟨rfl, by rw [hn], by simp [List.map_map, Function.comp_def], hb⟩
end StrChars.Road
end Jvm.Pilot.@@N@@
namespace Jvm.Pilot.@@N@@
open Jvm Jvm.ClassFile Sem Op Lib Jvm.Free Jvm.Stand Jvm.LawKit Jvm.RoadKit Bundle Jvm.Pilot.@@N@@.Jvm.D
theorem own_eqI {args : Array Value} {s : State} {t : Term} {n : Int32} (h : (Jvm.Cond.eq t (.int n)).value args s none s [] = some true) : t.eval args s none [] s = some (.int n) := Cond.eq_int (Cond.before_iff.mpr h) rfl
theorem own_eqR {args : Array Value} {s : State} {t u : Term} {o : Addr} (h : (Jvm.Cond.eq t u).value args s none s [] = some true) (hu : u.eval args s none [] s = some (.ref o)) : t.eval args s none [] s = some (.ref o) := by
  obtain ⟨x, y, hx, hy, k1, k2⟩ := cmp_v (Or.inl h)
  cases hy.symm.trans hu
  have e := gotT (eq_R hx hu k2.2 rfl) h
  rw [e] at hx; exact hx
theorem own_arv {args : Array Value} {s : State} {t : Term} {a : Addr} {ty : FieldType} {n : Int32} {vs : List Value} {dv : Value} (hf : Fit s) (ev : t.eval args s none [] s = some (.ref a)) (ho : (Jvm.Cond.arrayOf t ty).value args s none s [] = some true)
    (hlen : (Term.length t).eval args s none [] s = some (.int n)) (hn : ¬ n < 0) (hl : n.toNatClampNeg = vs.length) (H : ∀ c : Cell, s.heap[a]? = some c → HasL c 0 vs) : ∃ k, Arv s s.heap a k ty n vs dv := by
  obtain ⟨c, A⟩ := Arr.start ev ho
  have ha : s.arrayAt? a = some c := IntBox.arrayAt_of A.1 A.2.1 A.2.2
  have h31 : c.slots.size < 2 ^ 31 := SBG.length_lt ev ha hlen
  have e := (len_f ev ha h31).symm.trans hlen
  exact ⟨_, Arv.start hf A h31 (Value.int.inj (Option.some.inj e)) hn hl (H c A.1)⟩
theorem own_fits : ∀ (t : FieldType) (v : Value), v.isRef = true → t.isReference = true → fits t v = true := fun t v hv ht => by
  cases t <;> first | (cases ht; done) | (cases v <;> simp [fits, Value.isRef] at hv ⊢)
theorem up (cs : List Int32) (h : ∀ c ∈ cs, ¬ c < 0 ∧ ¬ (255 : Int32) < c) : ∀ c ∈ cs, ¬ c < 0 ∧ ¬ (65535 : Int32) < c := fun c hc => ⟨(h c hc).1, fun q => (h c hc).2 (by rw [Int32.lt_iff_toInt_lt] at q ⊢; have e1 : (65535 : Int32).toInt = 65535 := rfl; have e2 : (255 : Int32).toInt = 255 := rfl; omega)⟩
theorem own_cod0 : StrChars.Road.CodA ([(112 : Int32), (108 : Int32), (97 : Int32), (105 : Int32), (110 : Int32)] : List Int32) 0 (5 : Int32) [(.int (112 : Int32)), (.int (108 : Int32)), (.int (97 : Int32)), (.int (105 : Int32)), (.int (110 : Int32))] := Or.inl ⟨rfl, rfl, rfl, by decide⟩
theorem own_codT0 : StrChars.Road.CodA ([(112 : Int32), (108 : Int32), (97 : Int32), (105 : Int32), (110 : Int32)] : List Int32) 0 (5 : Int32) (((([(112 : Int32), (108 : Int32), (97 : Int32), (105 : Int32), (110 : Int32)] : List Int32)).map (fun c => c.toInt8.toInt32)).map Value.int) := StrChars.Road.codOf (n := 5) rfl (by decide)
theorem own_len0 : (([(112 : Int32), (108 : Int32), (97 : Int32), (105 : Int32), (110 : Int32)] : List Int32)).length ≤ 4000 := by decide
theorem own_lat0 : ∀ c ∈ ([(112 : Int32), (108 : Int32), (97 : Int32), (105 : Int32), (110 : Int32)] : List Int32), ¬ c < 0 ∧ ¬ (65535 : Int32) < c := by decide
theorem own_cod1 : StrChars.Road.CodA ([(115 : Int32), (101 : Int32), (114 : Int32), (105 : Int32), (97 : Int32), (108 : Int32), (105 : Int32), (122 : Int32), (101 : Int32), (100 : Int32)] : List Int32) 0 (10 : Int32) [(.int (115 : Int32)), (.int (101 : Int32)), (.int (114 : Int32)), (.int (105 : Int32)), (.int (97 : Int32)), (.int (108 : Int32)), (.int (105 : Int32)), (.int (122 : Int32)), (.int (101 : Int32)), (.int (100 : Int32))] := Or.inl ⟨rfl, rfl, rfl, by decide⟩
theorem own_codT1 : StrChars.Road.CodA ([(115 : Int32), (101 : Int32), (114 : Int32), (105 : Int32), (97 : Int32), (108 : Int32), (105 : Int32), (122 : Int32), (101 : Int32), (100 : Int32)] : List Int32) 0 (10 : Int32) (((([(115 : Int32), (101 : Int32), (114 : Int32), (105 : Int32), (97 : Int32), (108 : Int32), (105 : Int32), (122 : Int32), (101 : Int32), (100 : Int32)] : List Int32)).map (fun c => c.toInt8.toInt32)).map Value.int) := StrChars.Road.codOf (n := 10) rfl (by decide)
theorem own_len1 : (([(115 : Int32), (101 : Int32), (114 : Int32), (105 : Int32), (97 : Int32), (108 : Int32), (105 : Int32), (122 : Int32), (101 : Int32), (100 : Int32)] : List Int32)).length ≤ 4000 := by decide
theorem own_lat1 : ∀ c ∈ ([(115 : Int32), (101 : Int32), (114 : Int32), (105 : Int32), (97 : Int32), (108 : Int32), (105 : Int32), (122 : Int32), (101 : Int32), (100 : Int32)] : List Int32), ¬ c < 0 ∧ ¬ (65535 : Int32) < c := by decide
def Qvals (Z : State) (va v0 w0 y0 v1 w1 y1 : Addr) (kv k0b k1b : ClassId) (GC : Int32) (h0 : Heap) (n0 : Nat) (v : Option Value) (h : Heap) (L : List Loc) : Prop := ∃ (b : Addr) (k : ClassId), v = some (.ref b) ∧ Fr n0 L ∧ Keep h0 h [] ∧ h0.size ≤ b ∧ Exa Z h b "[Lholdfast/redis/IndexMemberEncoding;" ∧ Arv Z h b k (.object "holdfast/redis/IndexMemberEncoding") (2 : Int32) [(.ref v0), (.ref v1)] .null
theorem d_prog_92_method_1_code_0 : decode prog_92_method_1_code 0 = .ok (.getstatic 10, 3) := by decide +kernel
theorem d_prog_92_method_1_code_3 : decode prog_92_method_1_code 3 = .ok (.invokevirtual 14, 3) := by decide +kernel
theorem d_prog_92_method_1_code_6 : decode prog_92_method_1_code 6 = .ok (.checkcast 15, 3) := by decide +kernel
theorem d_prog_92_method_1_code_9 : decode prog_92_method_1_code 9 = .ok (.areturn, 1) := by decide +kernel
theorem pn_holdfast_redis_IndexMemberEncoding : plainName "holdfast/redis/IndexMemberEncoding" = true := by first | (simp [plainName, overriddenIn]; done) | decide +kernel
theorem ef_rmVals (m : MethodId)  : entryFrame m #[] 0 = mkF m 0 #[] [] := by first | (simp [entryFrame, mkF, argsToLocals, Value.category]; done) | rfl
set_option maxRecDepth 65536 in
set_option maxHeartbeats 40000000 in
theorem rmVals (l : Launch) (Z : State) (a0 : Array Value) (hw : ∀ d ∈ tables_1, d.before a0 Z = true) (ws : List Jvm.Cond) (va v0 w0 y0 v1 w1 y1 : Addr) (kv k0b k1b : ClassId) (GC : Int32) (h0 : Heap) (n0 : Nat) (O0 : Old Z n0 h0) (SV : Sta Z Z.heap "holdfast/redis/IndexMemberEncoding" "$VALUES" "[Lholdfast/redis/IndexMemberEncoding;" (.ref va)) (EV : Exa Z Z.heap va "[Lholdfast/redis/IndexMemberEncoding;") (AV : Arv Z Z.heap va kv (.object "holdfast/redis/IndexMemberEncoding") (2 : Int32) [(.ref v0), (.ref v1)] .null) (SO0 : Sta Z Z.heap "holdfast/redis/IndexMemberEncoding" "PLAIN" "Lholdfast/redis/IndexMemberEncoding;" (.ref v0)) (EO0 : Exa Z Z.heap v0 "holdfast/redis/IndexMemberEncoding") (FO0 : Fld Z Z.heap v0 "holdfast/redis/IndexMemberEncoding" "settingValue" "Ljava/lang/String;" (.ref w0)) (EW0 : Exa Z Z.heap w0 "java/lang/String") (CW0 : Fld Z Z.heap w0 "java/lang/String" "coder" "B" (.int 0)) (VW0 : Fld Z Z.heap w0 "java/lang/String" "value" "[B" (.ref y0)) (AW0 : Arv Z Z.heap y0 k0b .byte (5 : Int32) [(.int (112 : Int32)), (.int (108 : Int32)), (.int (97 : Int32)), (.int (105 : Int32)), (.int (110 : Int32))] (.int 0)) (SO1 : Sta Z Z.heap "holdfast/redis/IndexMemberEncoding" "SERIALIZED" "Lholdfast/redis/IndexMemberEncoding;" (.ref v1)) (EO1 : Exa Z Z.heap v1 "holdfast/redis/IndexMemberEncoding") (FO1 : Fld Z Z.heap v1 "holdfast/redis/IndexMemberEncoding" "settingValue" "Ljava/lang/String;" (.ref w1)) (EW1 : Exa Z Z.heap w1 "java/lang/String") (CW1 : Fld Z Z.heap w1 "java/lang/String" "coder" "B" (.int 0)) (VW1 : Fld Z Z.heap w1 "java/lang/String" "value" "[B" (.ref y1)) (AW1 : Arv Z Z.heap y1 k1b .byte (10 : Int32) [(.int (115 : Int32)), (.int (101 : Int32)), (.int (114 : Int32)), (.int (105 : Int32)), (.int (97 : Int32)), (.int (108 : Int32)), (.int (105 : Int32)), (.int (122 : Int32)), (.int (101 : Int32)), (.int (100 : Int32))] (.int 0)) (OC2 : Sta Z Z.heap "java/lang/String" "COMPACT_STRINGS" "Z" (.int GC)) (OCz : ¬ (GC = (0 : Int32))) :
    MetFree l (⟨"holdfast/redis/IndexMemberEncoding", "values", "()[Lholdfast/redis/IndexMemberEncoding;"⟩ : MethodName) (head1 (Jvm.Cond.code (⟨"holdfast/redis/IndexMemberEncoding", "values", "()[Lholdfast/redis/IndexMemberEncoding;"⟩ : MethodName) prog_92_method_1_code 0 (some (.array (.object "holdfast/redis/IndexMemberEncoding"))) :: ws) ({ frames := 1, cells := 1, slots := 2, locals := 14 } : Room)) (fun aa_ U => aa_ = #[] ∧ Z.Warmed39 U.vm ∧ U.heap = h0) (fun _ _ _ _ _ => True) (fun _ U o U' => ∃ v L, o = .returned v ∧ Qvals Z va v0 w0 y0 v1 w1 y1 kv k0b k1b GC h0 n0 v U'.heap L ∧ FrameEnd U o U' L ({ frames := 1, cells := 1, slots := 2, locals := 14 } : Room).cells ({ frames := 1, cells := 1, slots := 2, locals := 14 } : Room).slots) := by
  refine MetFree.of_bodySF (plainFor_of_name pn_holdfast_redis_IndexMemberEncoding) hisR ?_
  intro p e s m args below meth c s₁ Bd hml0 hP hK
  obtain ⟨rfl, hZ, hh⟩ := hP
  have hx := Bd.exec
  have hby := Bd.bytes
  have hml : c.maxLocals = 0 := hml0
  have hown : s.vm.findClass "holdfast/redis/IndexMemberEncoding" = some m.cls := findClass_of_methodNamed Bd.named
  have hnm := (name_of_methodNamed Bd.named Bd.method).1
  have X0 : Stand p l e ({ frames := 1, cells := 1, slots := 2, locals := 14 } : Room) s m #[] below meth c s₁ [] 0 0 := Stand.of_body Bd
  have e0 : s₁.heap = h0 := by rw [← hh, Bd.state]; rfl
  have N0 := Fr.nil n0
  have Z0 : n0 ≤ h0.size := O0.1 ▸ O0.2.1
  have K0 : Keep h0 h0 [] := Keep.refl _ _
  have pre0 : ∀ tgt_, Steps p.tables e below (s₁.setTop (mkF m 0 #[] [])) tgt_ → Steps p.tables e below (s₁.setTop (entryFrame m #[] 0)) tgt_ := fun tgt_ k => castTop (ef_rmVals m ) k
  obtain ⟨T1, X1, e1, st1⟩ := getS2 X0 hx hZ hown (host := "") (Or.inl (hw _ (List.mem_of_getElem? (i := 39) rfl))) Via.refl e0 (SV.ext O0.2) (g := (mkF m 0 #[] [])) rfl (hb hby d_prog_92_method_1_code_0)
  obtain ⟨T2, h2, X2, e2, E2, A2, Ex2, st2⟩ := cloneH X1 hx hZ hown (hw _ (List.mem_of_getElem? (i := 41) rfl)) (hw _ (List.mem_of_getElem? (i := 42) rfl)) (hw _ (List.mem_of_getElem? (i := 46) rfl)) (hw _ (List.mem_of_getElem? (i := 44) rfl)) (hw _ (List.mem_of_getElem? (i := 45) rfl)) (hw _ (List.mem_of_getElem? (i := 47) rfl)) e1 (Arv.arh (AV.ext O0.2)) (EV.ext O0.2) (g := (mkF m 3 #[] [(.ref va)])) rfl (by rw [hml]; rfl) rfl (hb hby d_prog_92_method_1_code_3) (by decide) (W := 0) (cap := 2) (by show 2 * 0 + _ ≤ _; exact Nat.le_of_eq rfl) (by decide) (by decide) (by decide) (by decide)
  obtain ⟨b2, g2⟩ : ∃ z, z = h0.size := ⟨_, rfl⟩
  rw [← g2] at A2 Ex2 st2
  have geb2 : h0.size ≤ b2 := Nat.le_of_eq g2.symm
  have g_b2 : n0 ≤ b2 := Nat.le_trans Z0 geb2
  have sz_b2 : h0.size ≤ b2 := Nat.le_trans K0.1 geb2
  have O3 : Old Z n0 h2 := O0.ext E2
  have Z3 : n0 ≤ h2.size := Nat.le_trans Z0 E2.1
  have K3 : Keep h0 h2 [] := K0.ext E2
  have Av2 : Arv Z h2 b2 kv (.object "holdfast/redis/IndexMemberEncoding") (2 : Int32) [(.ref v0), (.ref v1)] .null := A2
  obtain ⟨T4, X4, e4, st4⟩ := castY X2 hx hZ hown (hw _ (List.mem_of_getElem? (i := 50) rfl)) e2 (Ins.self Ex2) (g := (mkF m 6 #[] [(.ref b2)])) rfl rfl (hb hby d_prog_92_method_1_code_6)
  obtain ⟨fs, hr, hrun, hended, hW, hsame⟩ := X4.leave (v := some (.ref b2)) (fun h => by rw [Bd.returns] at h; cases h)
  refine ⟨_, _, pre0 _ ?_, hrun, hended, _, _, rfl, ?_, ⟨_, rfl⟩, hW, hsame.mono (by decide) (by decide)⟩
  · show Steps p.tables e below (s₁.setTop (mkF m 0 #[] [])) _
    refine st1 _ ?_
    show Steps p.tables e below (T1.setTop (mkF m 3 #[] [(.ref va)])) _
    refine st2 _ ?_
    show Steps p.tables e below (T2.setTop (mkF m 6 #[] [(.ref b2)])) _
    refine st4 _ ?_
    show Steps p.tables e below (T4.setTop (mkF m 9 #[] [(.ref b2)])) _
    jvm_step X4.here [X4.here.top, hx, (hb hby d_prog_92_method_1_code_9), X4.method', Bd.returns, Value.isRef, FieldType.isReference]
    first | (intro acts; rw [hr _ acts rfl rfl rfl]) | rw [hr _ _ rfl rfl rfl]
    exact Steps.refl _
  · show Qvals Z va v0 w0 y0 v1 w1 y1 kv k0b k1b GC h0 n0 _ T4.heap _
    rw [e4]
    exact ⟨b2, _, rfl, N0, K3, sz_b2, Ex2, Av2⟩
def QP0 (Z : State) (va v0 w0 y0 v1 w1 y1 : Addr) (kv k0b k1b : ClassId) (GC : Int32) (h0 : Heap) (n0 : Nat) (v : Option Value) (h : Heap) (L : List Loc) : Prop := v = some (.ref v0) ∧ Fr n0 L ∧ Keep h0 h []
theorem d_prog_92_method_5_code_0 : decode prog_92_method_5_code 0 = .ok (.invokestatic 63, 3) := by decide +kernel
theorem pd____Lholdfast_redis_IndexMemberEncoding_ : parseMethodDescriptor "()[Lholdfast/redis/IndexMemberEncoding;" = some ⟨[], some (.array (.object "holdfast/redis/IndexMemberEncoding"))⟩ := by decide +kernel
theorem d_prog_92_method_5_code_3 : decode prog_92_method_5_code 3 = .ok (.astore_n 1, 1) := by decide +kernel
theorem d_prog_92_method_5_code_4 : decode prog_92_method_5_code 4 = .ok (.aload_n 1, 1) := by decide +kernel
theorem d_prog_92_method_5_code_5 : decode prog_92_method_5_code 5 = .ok (.arraylength, 1) := by decide +kernel
theorem d_prog_92_method_5_code_6 : decode prog_92_method_5_code 6 = .ok (.istore_n 2, 1) := by decide +kernel
theorem d_prog_92_method_5_code_7 : decode prog_92_method_5_code 7 = .ok (.iconst 0, 1) := by decide +kernel
theorem d_prog_92_method_5_code_8 : decode prog_92_method_5_code 8 = .ok (.istore_n 3, 1) := by decide +kernel
theorem d_prog_92_method_5_code_9 : decode prog_92_method_5_code 9 = .ok (.iload_n 3, 1) := by decide +kernel
theorem d_prog_92_method_5_code_10 : decode prog_92_method_5_code 10 = .ok (.iload_n 2, 1) := by decide +kernel
theorem d_prog_92_method_5_code_11 : decode prog_92_method_5_code 11 = .ok (.if_icmp .ge 29, 3) := by decide +kernel
theorem d_prog_92_method_5_code_14 : decode prog_92_method_5_code 14 = .ok (.aload_n 1, 1) := by decide +kernel
theorem d_prog_92_method_5_code_15 : decode prog_92_method_5_code 15 = .ok (.iload_n 3, 1) := by decide +kernel
theorem d_prog_92_method_5_code_16 : decode prog_92_method_5_code 16 = .ok (.aaload, 1) := by decide +kernel
theorem d_prog_92_method_5_code_17 : decode prog_92_method_5_code 17 = .ok (.astore 4, 2) := by decide +kernel
theorem d_prog_92_method_5_code_19 : decode prog_92_method_5_code 19 = .ok (.aload 4, 2) := by decide +kernel
theorem d_prog_92_method_5_code_21 : decode prog_92_method_5_code 21 = .ok (.getfield 45, 3) := by decide +kernel
theorem d_prog_92_method_5_code_24 : decode prog_92_method_5_code 24 = .ok (.aload_n 0, 1) := by decide +kernel
theorem d_prog_92_method_5_code_25 : decode prog_92_method_5_code 25 = .ok (.invokevirtual 67, 3) := by decide +kernel
theorem pd__Ljava_lang_Object__Z : parseMethodDescriptor "(Ljava/lang/Object;)Z" = some ⟨[(.object "java/lang/Object")], some .boolean⟩ := by decide +kernel
theorem d_prog_92_method_5_code_28 : decode prog_92_method_5_code 28 = .ok (.ifCond .eq 6, 3) := by decide +kernel
theorem d_prog_92_method_5_code_31 : decode prog_92_method_5_code 31 = .ok (.aload 4, 2) := by decide +kernel
theorem d_prog_92_method_5_code_33 : decode prog_92_method_5_code 33 = .ok (.areturn, 1) := by decide +kernel
theorem ef_rmParse0 (m : MethodId) (x0 : Addr) : entryFrame m #[(.ref x0)] 5 = mkF m 0 #[.val (.ref x0), .unset, .unset, .unset, .unset] [] := by first | (simp [entryFrame, mkF, argsToLocals, Value.category]; done) | rfl
set_option maxRecDepth 65536 in
set_option maxHeartbeats 40000000 in
theorem rmParse0 (l : Launch) (Z : State) (a0 : Array Value) (hw : ∀ d ∈ tables_1, d.before a0 Z = true) (ws : List Jvm.Cond) (va v0 w0 y0 v1 w1 y1 : Addr) (kv k0b k1b : ClassId) (GC : Int32) (t tb : Addr) (ktb : ClassId) (h0 : Heap) (n0 : Nat) (O0 : Old Z n0 h0) (SV : Sta Z Z.heap "holdfast/redis/IndexMemberEncoding" "$VALUES" "[Lholdfast/redis/IndexMemberEncoding;" (.ref va)) (EV : Exa Z Z.heap va "[Lholdfast/redis/IndexMemberEncoding;") (AV : Arv Z Z.heap va kv (.object "holdfast/redis/IndexMemberEncoding") (2 : Int32) [(.ref v0), (.ref v1)] .null) (SO0 : Sta Z Z.heap "holdfast/redis/IndexMemberEncoding" "PLAIN" "Lholdfast/redis/IndexMemberEncoding;" (.ref v0)) (EO0 : Exa Z Z.heap v0 "holdfast/redis/IndexMemberEncoding") (FO0 : Fld Z Z.heap v0 "holdfast/redis/IndexMemberEncoding" "settingValue" "Ljava/lang/String;" (.ref w0)) (EW0 : Exa Z Z.heap w0 "java/lang/String") (CW0 : Fld Z Z.heap w0 "java/lang/String" "coder" "B" (.int 0)) (VW0 : Fld Z Z.heap w0 "java/lang/String" "value" "[B" (.ref y0)) (AW0 : Arv Z Z.heap y0 k0b .byte (5 : Int32) [(.int (112 : Int32)), (.int (108 : Int32)), (.int (97 : Int32)), (.int (105 : Int32)), (.int (110 : Int32))] (.int 0)) (SO1 : Sta Z Z.heap "holdfast/redis/IndexMemberEncoding" "SERIALIZED" "Lholdfast/redis/IndexMemberEncoding;" (.ref v1)) (EO1 : Exa Z Z.heap v1 "holdfast/redis/IndexMemberEncoding") (FO1 : Fld Z Z.heap v1 "holdfast/redis/IndexMemberEncoding" "settingValue" "Ljava/lang/String;" (.ref w1)) (EW1 : Exa Z Z.heap w1 "java/lang/String") (CW1 : Fld Z Z.heap w1 "java/lang/String" "coder" "B" (.int 0)) (VW1 : Fld Z Z.heap w1 "java/lang/String" "value" "[B" (.ref y1)) (AW1 : Arv Z Z.heap y1 k1b .byte (10 : Int32) [(.int (115 : Int32)), (.int (101 : Int32)), (.int (114 : Int32)), (.int (105 : Int32)), (.int (97 : Int32)), (.int (108 : Int32)), (.int (105 : Int32)), (.int (122 : Int32)), (.int (101 : Int32)), (.int (100 : Int32))] (.int 0)) (OC2 : Sta Z Z.heap "java/lang/String" "COMPACT_STRINGS" "Z" (.int GC)) (OCz : ¬ (GC = (0 : Int32))) (Et : Exa Z h0 t "java/lang/String") (Ct : Fld Z h0 t "java/lang/String" "coder" "B" (.int 0)) (Vt : Fld Z h0 t "java/lang/String" "value" "[B" (.ref tb)) (At : Arv Z h0 tb ktb .byte (5 : Int32) (((([(112 : Int32), (108 : Int32), (97 : Int32), (105 : Int32), (110 : Int32)] : List Int32)).map (fun c => c.toInt8.toInt32)).map Value.int) (.int 0)) :
    MetFree l (⟨"holdfast/redis/IndexMemberEncoding", "ofSettingValue", "(Ljava/lang/String;)Lholdfast/redis/IndexMemberEncoding;"⟩ : MethodName) (head1 (Jvm.Cond.code (⟨"holdfast/redis/IndexMemberEncoding", "ofSettingValue", "(Ljava/lang/String;)Lholdfast/redis/IndexMemberEncoding;"⟩ : MethodName) prog_92_method_5_code 5 (some (.object "holdfast/redis/IndexMemberEncoding")) :: ws) ({ frames := 2, cells := 1, slots := 2, locals := 28 } : Room)) (fun aa_ U => aa_ = #[(.ref t)] ∧ Z.Warmed39 U.vm ∧ U.heap = h0) (fun _ _ _ _ _ => True) (fun _ U o U' => ∃ v L, o = .returned v ∧ QP0 Z va v0 w0 y0 v1 w1 y1 kv k0b k1b GC h0 n0 v U'.heap L ∧ FrameEnd U o U' L ({ frames := 2, cells := 1, slots := 2, locals := 28 } : Room).cells ({ frames := 2, cells := 1, slots := 2, locals := 28 } : Room).slots) := by
  refine MetFree.of_bodySF (plainFor_of_name pn_holdfast_redis_IndexMemberEncoding) hisR ?_
  intro p e s m args below meth c s₁ Bd hml0 hP hK
  obtain ⟨rfl, hZ, hh⟩ := hP
  have hx := Bd.exec
  have hby := Bd.bytes
  have hml : c.maxLocals = 5 := hml0
  have hown : s.vm.findClass "holdfast/redis/IndexMemberEncoding" = some m.cls := findClass_of_methodNamed Bd.named
  have hnm := (name_of_methodNamed Bd.named Bd.method).1
  have X0 : Stand p l e ({ frames := 2, cells := 1, slots := 2, locals := 28 } : Room) s m #[(.ref t)] below meth c s₁ [] 0 0 := Stand.of_body Bd
  have e0 : s₁.heap = h0 := by rw [← hh, Bd.state]; rfl
  have N0 := Fr.nil n0
  have Z0 : n0 ≤ h0.size := O0.1 ▸ O0.2.1
  have K0 : Keep h0 h0 [] := Keep.refl _ _
  have pre0 : ∀ tgt_, Steps p.tables e below (s₁.setTop (mkF m 0 #[.val (.ref t), .unset, .unset, .unset, .unset] [])) tgt_ → Steps p.tables e below (s₁.setTop (entryFrame m #[(.ref t)] 5)) tgt_ := fun tgt_ k => castTop (ef_rmParse0 m t) k
  obtain ⟨_, _, ⟨T5, L5, k5, n5⟩, -, X5, ⟨Lc5, hQ5, l5, y5, z5⟩, st5⟩ := Jvm.LawKit.callS X0 hx (y := (⟨"holdfast/redis/IndexMemberEncoding", "values", "()[Lholdfast/redis/IndexMemberEncoding;"⟩ : MethodName)) hown (mvT hZ (hw _ (List.mem_of_getElem? (i := 36) rfl))) (mvT hZ (hw _ (List.mem_of_getElem? (i := 37) rfl))) (mvT hZ (hw _ (List.mem_of_getElem? (i := 31) rfl))) (mvT hZ (hw _ (List.mem_of_getElem? (i := 38) rfl))) (by decide) (backOf (W := 0) (rmVals l Z a0 hw [] va v0 w0 y0 v1 w1 y1 kv k0b k1b GC h0 n0 O0 SV EV AV SO0 EO0 FO0 EW0 CW0 VW0 AW0 SO1 EO1 FO1 EW1 CW1 VW1 AW1 OC2 OCz) hZ (hw _ (List.mem_of_getElem? (i := 38) rfl)) (hw _ (List.mem_of_getElem? (i := 31) rfl)) (by decide) (by decide)) (g := (mkF m 0 #[.val (.ref t), .unset, .unset, .unset, .unset] [])) rfl (by rw [hml]; rfl) (argsL := []) (rest := []) (lenOf pd____Lholdfast_redis_IndexMemberEncoding_ rfl) rfl (by show 2 * 0 + _ ≤ _; exact Nat.le_of_eq rfl) (hb hby d_prog_92_method_5_code_0) (fun _ _ => ⟨rfl, e0, (by decide : 0 + 1 ≤ _), (by decide : 0 + 2 ≤ _)⟩)
  dsimp only [Pt.U, Pt.locs, Pt.cells, Pt.slots] at X5 l5 y5 z5 st5 hQ5
  subst l5 y5 z5
  obtain ⟨b5, kk5, rfl, N5q, K5k, hf5, g15, g25⟩ := hQ5
  have N5 := Fr.app N0 N5q
  have O6 : Old Z n0 T5.heap := O0.keep K5k all0
  have Z6 : n0 ≤ T5.heap.size := Nat.le_trans Z0 K5k.1
  have K6 : Keep h0 T5.heap [] := K0.trans K5k all0
  have f7 : Exa Z T5.heap t "java/lang/String" := Et.keep K5k
  have f8 : Fld Z T5.heap t "java/lang/String" "coder" "B" (.int 0) := Ct.keep K5k nin0
  have f9 : Fld Z T5.heap t "java/lang/String" "value" "[B" (.ref tb) := Vt.keep K5k nin0
  have f10 : Arv Z T5.heap tb ktb .byte (5 : Int32) (((([(112 : Int32), (108 : Int32), (97 : Int32), (105 : Int32), (110 : Int32)] : List Int32)).map (fun c => c.toInt8.toInt32)).map Value.int) (.int 0) := At.keep K5k nin0
  have g_b5 : n0 ≤ b5 := Nat.le_trans Z0 hf5
  have sz_b5 : h0.size ≤ b5 := Nat.le_trans K0.1 hf5
  obtain ⟨c11, Ar11, q11, S11, M11, Hh11, U11⟩ := id g25
  obtain ⟨c12, Ar12, q12, S12, M12, Hh12, U12⟩ := id g25
  have hin12 : ¬ ((0 : Int32) < 0 ∨ c12.slots.size ≤ ((0 : Int32)).toNatClampNeg) := inb_of S12 ⟨(by decide), (by decide)⟩
  have hat12 : c12.slots[((0 : Int32)).toNatClampNeg]? = some (.ref v0) := Hh12.at hin12 rfl
  obtain ⟨T13, X13, e13, st13⟩ := getF X5 hx hZ hown (host := "") (Or.inl (hw _ (List.mem_of_getElem? (i := 52) rfl))) Via.refl rfl (FO0.ext O6.2) (g := (mkF m 21 #[.val (.ref t), .val (.ref b5), .val (.int (2 : Int32)), .val (.int (0 : Int32)), .val (.ref v0)] [(.ref v0)])) rfl rfl (hb hby d_prog_92_method_5_code_21)
  have heq : ∀ d ∈ StrChars.Road.wordsEq, d.before a0 Z = true := fun d hd => hw d ((by decide +kernel : ∀ d ∈ StrChars.Road.wordsEq, d ∈ tables_1) d hd)
  obtain ⟨cq14, kq14, qa14, qb14, qc14⟩ := isOf hZ e13 (EW0.ext O6.2)
  obtain ⟨_, _, ⟨T14, L14, k14, n14⟩, -, X14, ⟨Lc14, hQ14, l14, y14, z14⟩, st14⟩ := X13.virtualBack hx (y := (⟨"java/lang/String", "equals", "(Ljava/lang/Object;)Z"⟩ : MethodName)) (z := (⟨"java/lang/String", "equals", "(Ljava/lang/Object;)Z"⟩ : MethodName)) hown (mvT hZ (hw _ (List.mem_of_getElem? (i := 54) rfl))) (mvT hZ (hw _ (List.mem_of_getElem? (i := 55) rfl))) (notFace_of_selects (args := #[]) (mvT hZ (hw _ (List.mem_of_getElem? (i := 57) rfl)))) (mvT hZ (hw _ (List.mem_of_getElem? (i := 57) rfl))) (mvT hZ (hw _ (List.mem_of_getElem? (i := 56) rfl))) (by decide) (StrChars.Road.eqW (W := 0) hZ heq (kI := 4) (hw _ (List.mem_of_getElem? (i := 2) rfl)) (EW0.ext O6.2) (VW0.ext O6.2) (CW0.ext O6.2) (AW0.ext O6.2) own_cod0 own_lat0 own_len0 f7 f9 f8 f10 own_codT0 own_lat0 own_len0 (OC2.ext O6.2) OCz (by decide) (by decide)) qa14 qc14 (g := (mkF m 25 #[.val (.ref t), .val (.ref b5), .val (.int (2 : Int32)), .val (.int (0 : Int32)), .val (.ref v0)] [(.ref t), (.ref w0)])) rfl (by rw [hml]; rfl) (Steps.refl _) (argsL := [(.ref t)]) (rest := []) (lenOf pd__Ljava_lang_Object__Z rfl) rfl (by show 2 * 0 + _ ≤ _; exact Nat.le_of_eq rfl) (hb hby d_prog_92_method_5_code_25) (fun _ _ => ⟨rfl, e13, (by decide : 1 + 0 ≤ _), (by decide : 2 + 0 ≤ _)⟩)
  dsimp only [Pt.U, Pt.locs, Pt.cells, Pt.slots] at X14 l14 y14 z14 st14 hQ14
  subst l14 y14 z14
  obtain ⟨hd14, rfl, e14⟩ := hQ14
  obtain ⟨rfl, -⟩ := hd14.resolve_right (fun q => q.2 rfl)
  have N14q : Fr n0 ([] : List Loc) := Fr.nil n0
  have N14 := Fr.app N5 N14q
  obtain ⟨fs, hr, hrun, hended, hW, hsame⟩ := X14.leave (v := some (.ref v0)) (fun h => by rw [Bd.returns] at h; cases h)
  refine ⟨_, _, pre0 _ ?_, hrun, hended, _, _, rfl, ?_, ⟨_, rfl⟩, hW, hsame.mono (by decide) (by decide)⟩
  · show Steps p.tables e below (s₁.setTop (mkF m 0 #[.val (.ref t), .unset, .unset, .unset, .unset] [])) _
    refine st5 _ ?_
    show Steps p.tables e below (T5.setTop (mkF m 3 #[.val (.ref t), .unset, .unset, .unset, .unset] [(.ref b5)])) _
    refine XS.astoreN X5.here hx rfl (hb hby d_prog_92_method_5_code_3) rfl rfl (l' := #[.val (.ref t), .val (.ref b5), .unset, .unset, .unset]) rfl ?_
    show Steps p.tables e below (T5.setTop (mkF m 4 #[.val (.ref t), .val (.ref b5), .unset, .unset, .unset] [])) _
    refine XS.aloadN X5.here hx rfl (hb hby d_prog_92_method_5_code_4) rfl rfl ?_
    show Steps p.tables e below (T5.setTop (mkF m 5 #[.val (.ref t), .val (.ref b5), .unset, .unset, .unset] [(.ref b5)])) _
    refine X5.arraylength hx (by exact Ar11.1) (State.isArrayOf_alike hZ.alike Ar11.2.1) (g := (mkF m 5 #[.val (.ref t), .val (.ref b5), .unset, .unset, .unset] [(.ref b5)])) rfl rfl (hb hby d_prog_92_method_5_code_5) _ ?_
    rw [len_of S11 M11]
    show Steps p.tables e below (T5.setTop (mkF m 6 #[.val (.ref t), .val (.ref b5), .unset, .unset, .unset] [(.int (2 : Int32))])) _
    refine XS.istoreN X5.here hx rfl (hb hby d_prog_92_method_5_code_6) rfl (l' := #[.val (.ref t), .val (.ref b5), .val (.int (2 : Int32)), .unset, .unset]) rfl ?_
    show Steps p.tables e below (T5.setTop (mkF m 7 #[.val (.ref t), .val (.ref b5), .val (.int (2 : Int32)), .unset, .unset] [])) _
    refine XS.iconst X5.here hx rfl (hb hby d_prog_92_method_5_code_7) ?_
    show Steps p.tables e below (T5.setTop (mkF m 8 #[.val (.ref t), .val (.ref b5), .val (.int (2 : Int32)), .unset, .unset] [(.int (0 : Int32))])) _
    refine XS.istoreN X5.here hx rfl (hb hby d_prog_92_method_5_code_8) rfl (l' := #[.val (.ref t), .val (.ref b5), .val (.int (2 : Int32)), .val (.int (0 : Int32)), .unset]) rfl ?_
    show Steps p.tables e below (T5.setTop (mkF m 9 #[.val (.ref t), .val (.ref b5), .val (.int (2 : Int32)), .val (.int (0 : Int32)), .unset] [])) _
    refine XS.iloadN X5.here hx rfl (hb hby d_prog_92_method_5_code_9) rfl ?_
    show Steps p.tables e below (T5.setTop (mkF m 10 #[.val (.ref t), .val (.ref b5), .val (.int (2 : Int32)), .val (.int (0 : Int32)), .unset] [(.int (0 : Int32))])) _
    refine XS.iloadN X5.here hx rfl (hb hby d_prog_92_method_5_code_10) rfl ?_
    show Steps p.tables e below (T5.setTop (mkF m 11 #[.val (.ref t), .val (.ref b5), .val (.int (2 : Int32)), .val (.int (0 : Int32)), .unset] [(.int (2 : Int32)), (.int (0 : Int32))])) _
    refine XS.icmpNo X5.here hx rfl (hb hby d_prog_92_method_5_code_11) rfl (tlt (by decide : (0 : Int32) < (2 : Int32))).2.1 ?_
    show Steps p.tables e below (T5.setTop (mkF m 14 #[.val (.ref t), .val (.ref b5), .val (.int (2 : Int32)), .val (.int (0 : Int32)), .unset] [])) _
    refine XS.aloadN X5.here hx rfl (hb hby d_prog_92_method_5_code_14) rfl rfl ?_
    show Steps p.tables e below (T5.setTop (mkF m 15 #[.val (.ref t), .val (.ref b5), .val (.int (2 : Int32)), .val (.int (0 : Int32)), .unset] [(.ref b5)])) _
    refine XS.iloadN X5.here hx rfl (hb hby d_prog_92_method_5_code_15) rfl ?_
    show Steps p.tables e below (T5.setTop (mkF m 16 #[.val (.ref t), .val (.ref b5), .val (.int (2 : Int32)), .val (.int (0 : Int32)), .unset] [(.int (0 : Int32)), (.ref b5)])) _
    refine X5.aaload hx (j := (0 : Int32)) (v := (.ref v0)) (by exact Ar12.1) (State.isArrayOf_alike hZ.alike Ar12.2.1) rfl Ar12.2.2 hin12 hat12 (g := (mkF m 16 #[.val (.ref t), .val (.ref b5), .val (.int (2 : Int32)), .val (.int (0 : Int32)), .unset] [(.int (0 : Int32)), (.ref b5)])) rfl rfl (hb hby d_prog_92_method_5_code_16) _ ?_
    show Steps p.tables e below (T5.setTop (mkF m 17 #[.val (.ref t), .val (.ref b5), .val (.int (2 : Int32)), .val (.int (0 : Int32)), .unset] [(.ref v0)])) _
    refine XS.astore X5.here hx rfl (hb hby d_prog_92_method_5_code_17) rfl rfl (l' := #[.val (.ref t), .val (.ref b5), .val (.int (2 : Int32)), .val (.int (0 : Int32)), .val (.ref v0)]) rfl ?_
    show Steps p.tables e below (T5.setTop (mkF m 19 #[.val (.ref t), .val (.ref b5), .val (.int (2 : Int32)), .val (.int (0 : Int32)), .val (.ref v0)] [])) _
    refine XS.aload X5.here hx rfl (hb hby d_prog_92_method_5_code_19) rfl rfl ?_
    show Steps p.tables e below (T5.setTop (mkF m 21 #[.val (.ref t), .val (.ref b5), .val (.int (2 : Int32)), .val (.int (0 : Int32)), .val (.ref v0)] [(.ref v0)])) _
    refine st13 _ ?_
    show Steps p.tables e below (T13.setTop (mkF m 24 #[.val (.ref t), .val (.ref b5), .val (.int (2 : Int32)), .val (.int (0 : Int32)), .val (.ref v0)] [(.ref w0)])) _
    refine XS.aloadN X13.here hx rfl (hb hby d_prog_92_method_5_code_24) rfl rfl ?_
    show Steps p.tables e below (T13.setTop (mkF m 25 #[.val (.ref t), .val (.ref b5), .val (.int (2 : Int32)), .val (.int (0 : Int32)), .val (.ref v0)] [(.ref t), (.ref w0)])) _
    refine st14.trans ?_
    show Steps p.tables e below (T14.setTop (mkF m 28 #[.val (.ref t), .val (.ref b5), .val (.int (2 : Int32)), .val (.int (0 : Int32)), .val (.ref v0)] [(.int (1 : Int32))])) _
    refine XS.ifNo X14.here hx rfl (hb hby d_prog_92_method_5_code_28) rfl ((if0 _ _).trans (feq (by decide : ¬ ((1 : Int32) = (0 : Int32)))).1) ?_
    show Steps p.tables e below (T14.setTop (mkF m 31 #[.val (.ref t), .val (.ref b5), .val (.int (2 : Int32)), .val (.int (0 : Int32)), .val (.ref v0)] [])) _
    refine XS.aload X14.here hx rfl (hb hby d_prog_92_method_5_code_31) rfl rfl ?_
    show Steps p.tables e below (T14.setTop (mkF m 33 #[.val (.ref t), .val (.ref b5), .val (.int (2 : Int32)), .val (.int (0 : Int32)), .val (.ref v0)] [(.ref v0)])) _
    jvm_step X14.here [X14.here.top, hx, (hb hby d_prog_92_method_5_code_33), X14.method', Bd.returns, Value.isRef, FieldType.isReference]
    first | (intro acts; rw [hr _ acts rfl rfl rfl]) | rw [hr _ _ rfl rfl rfl]
    exact Steps.refl _
  · show QP0 Z va v0 w0 y0 v1 w1 y1 kv k0b k1b GC h0 n0 _ T14.heap _
    rw [e14]
    exact ⟨rfl, N14, K6⟩
def QP1 (Z : State) (va v0 w0 y0 v1 w1 y1 : Addr) (kv k0b k1b : ClassId) (GC : Int32) (h0 : Heap) (n0 : Nat) (v : Option Value) (h : Heap) (L : List Loc) : Prop := v = some (.ref v1) ∧ Fr n0 L ∧ Keep h0 h []
theorem d_prog_92_method_5_code_34 : decode prog_92_method_5_code 34 = .ok (.iinc 3 1, 3) := by decide +kernel
theorem d_prog_92_method_5_code_37 : decode prog_92_method_5_code 37 = .ok (.goto (-28), 3) := by decide +kernel
theorem ef_rmParse1 (m : MethodId) (x0 : Addr) : entryFrame m #[(.ref x0)] 5 = mkF m 0 #[.val (.ref x0), .unset, .unset, .unset, .unset] [] := by first | (simp [entryFrame, mkF, argsToLocals, Value.category]; done) | rfl
set_option maxRecDepth 65536 in
set_option maxHeartbeats 40000000 in
theorem rmParse1 (l : Launch) (Z : State) (a0 : Array Value) (hw : ∀ d ∈ tables_1, d.before a0 Z = true) (ws : List Jvm.Cond) (va v0 w0 y0 v1 w1 y1 : Addr) (kv k0b k1b : ClassId) (GC : Int32) (t tb : Addr) (ktb : ClassId) (h0 : Heap) (n0 : Nat) (O0 : Old Z n0 h0) (SV : Sta Z Z.heap "holdfast/redis/IndexMemberEncoding" "$VALUES" "[Lholdfast/redis/IndexMemberEncoding;" (.ref va)) (EV : Exa Z Z.heap va "[Lholdfast/redis/IndexMemberEncoding;") (AV : Arv Z Z.heap va kv (.object "holdfast/redis/IndexMemberEncoding") (2 : Int32) [(.ref v0), (.ref v1)] .null) (SO0 : Sta Z Z.heap "holdfast/redis/IndexMemberEncoding" "PLAIN" "Lholdfast/redis/IndexMemberEncoding;" (.ref v0)) (EO0 : Exa Z Z.heap v0 "holdfast/redis/IndexMemberEncoding") (FO0 : Fld Z Z.heap v0 "holdfast/redis/IndexMemberEncoding" "settingValue" "Ljava/lang/String;" (.ref w0)) (EW0 : Exa Z Z.heap w0 "java/lang/String") (CW0 : Fld Z Z.heap w0 "java/lang/String" "coder" "B" (.int 0)) (VW0 : Fld Z Z.heap w0 "java/lang/String" "value" "[B" (.ref y0)) (AW0 : Arv Z Z.heap y0 k0b .byte (5 : Int32) [(.int (112 : Int32)), (.int (108 : Int32)), (.int (97 : Int32)), (.int (105 : Int32)), (.int (110 : Int32))] (.int 0)) (SO1 : Sta Z Z.heap "holdfast/redis/IndexMemberEncoding" "SERIALIZED" "Lholdfast/redis/IndexMemberEncoding;" (.ref v1)) (EO1 : Exa Z Z.heap v1 "holdfast/redis/IndexMemberEncoding") (FO1 : Fld Z Z.heap v1 "holdfast/redis/IndexMemberEncoding" "settingValue" "Ljava/lang/String;" (.ref w1)) (EW1 : Exa Z Z.heap w1 "java/lang/String") (CW1 : Fld Z Z.heap w1 "java/lang/String" "coder" "B" (.int 0)) (VW1 : Fld Z Z.heap w1 "java/lang/String" "value" "[B" (.ref y1)) (AW1 : Arv Z Z.heap y1 k1b .byte (10 : Int32) [(.int (115 : Int32)), (.int (101 : Int32)), (.int (114 : Int32)), (.int (105 : Int32)), (.int (97 : Int32)), (.int (108 : Int32)), (.int (105 : Int32)), (.int (122 : Int32)), (.int (101 : Int32)), (.int (100 : Int32))] (.int 0)) (OC2 : Sta Z Z.heap "java/lang/String" "COMPACT_STRINGS" "Z" (.int GC)) (OCz : ¬ (GC = (0 : Int32))) (Et : Exa Z h0 t "java/lang/String") (Ct : Fld Z h0 t "java/lang/String" "coder" "B" (.int 0)) (Vt : Fld Z h0 t "java/lang/String" "value" "[B" (.ref tb)) (At : Arv Z h0 tb ktb .byte (10 : Int32) (((([(115 : Int32), (101 : Int32), (114 : Int32), (105 : Int32), (97 : Int32), (108 : Int32), (105 : Int32), (122 : Int32), (101 : Int32), (100 : Int32)] : List Int32)).map (fun c => c.toInt8.toInt32)).map Value.int) (.int 0)) :
    MetFree l (⟨"holdfast/redis/IndexMemberEncoding", "ofSettingValue", "(Ljava/lang/String;)Lholdfast/redis/IndexMemberEncoding;"⟩ : MethodName) (head1 (Jvm.Cond.code (⟨"holdfast/redis/IndexMemberEncoding", "ofSettingValue", "(Ljava/lang/String;)Lholdfast/redis/IndexMemberEncoding;"⟩ : MethodName) prog_92_method_5_code 5 (some (.object "holdfast/redis/IndexMemberEncoding")) :: ws) ({ frames := 2, cells := 1, slots := 2, locals := 28 } : Room)) (fun aa_ U => aa_ = #[(.ref t)] ∧ Z.Warmed39 U.vm ∧ U.heap = h0) (fun _ _ _ _ _ => True) (fun _ U o U' => ∃ v L, o = .returned v ∧ QP1 Z va v0 w0 y0 v1 w1 y1 kv k0b k1b GC h0 n0 v U'.heap L ∧ FrameEnd U o U' L ({ frames := 2, cells := 1, slots := 2, locals := 28 } : Room).cells ({ frames := 2, cells := 1, slots := 2, locals := 28 } : Room).slots) := by
  refine MetFree.of_bodySF (plainFor_of_name pn_holdfast_redis_IndexMemberEncoding) hisR ?_
  intro p e s m args below meth c s₁ Bd hml0 hP hK
  obtain ⟨rfl, hZ, hh⟩ := hP
  have hx := Bd.exec
  have hby := Bd.bytes
  have hml : c.maxLocals = 5 := hml0
  have hown : s.vm.findClass "holdfast/redis/IndexMemberEncoding" = some m.cls := findClass_of_methodNamed Bd.named
  have hnm := (name_of_methodNamed Bd.named Bd.method).1
  have X0 : Stand p l e ({ frames := 2, cells := 1, slots := 2, locals := 28 } : Room) s m #[(.ref t)] below meth c s₁ [] 0 0 := Stand.of_body Bd
  have e0 : s₁.heap = h0 := by rw [← hh, Bd.state]; rfl
  have N0 := Fr.nil n0
  have Z0 : n0 ≤ h0.size := O0.1 ▸ O0.2.1
  have K0 : Keep h0 h0 [] := Keep.refl _ _
  have pre0 : ∀ tgt_, Steps p.tables e below (s₁.setTop (mkF m 0 #[.val (.ref t), .unset, .unset, .unset, .unset] [])) tgt_ → Steps p.tables e below (s₁.setTop (entryFrame m #[(.ref t)] 5)) tgt_ := fun tgt_ k => castTop (ef_rmParse1 m t) k
  obtain ⟨_, _, ⟨T15, L15, k15, n15⟩, -, X15, ⟨Lc15, hQ15, l15, y15, z15⟩, st15⟩ := Jvm.LawKit.callS X0 hx (y := (⟨"holdfast/redis/IndexMemberEncoding", "values", "()[Lholdfast/redis/IndexMemberEncoding;"⟩ : MethodName)) hown (mvT hZ (hw _ (List.mem_of_getElem? (i := 36) rfl))) (mvT hZ (hw _ (List.mem_of_getElem? (i := 37) rfl))) (mvT hZ (hw _ (List.mem_of_getElem? (i := 31) rfl))) (mvT hZ (hw _ (List.mem_of_getElem? (i := 38) rfl))) (by decide) (backOf (W := 0) (rmVals l Z a0 hw [] va v0 w0 y0 v1 w1 y1 kv k0b k1b GC h0 n0 O0 SV EV AV SO0 EO0 FO0 EW0 CW0 VW0 AW0 SO1 EO1 FO1 EW1 CW1 VW1 AW1 OC2 OCz) hZ (hw _ (List.mem_of_getElem? (i := 38) rfl)) (hw _ (List.mem_of_getElem? (i := 31) rfl)) (by decide) (by decide)) (g := (mkF m 0 #[.val (.ref t), .unset, .unset, .unset, .unset] [])) rfl (by rw [hml]; rfl) (argsL := []) (rest := []) (lenOf pd____Lholdfast_redis_IndexMemberEncoding_ rfl) rfl (by show 2 * 0 + _ ≤ _; exact Nat.le_of_eq rfl) (hb hby d_prog_92_method_5_code_0) (fun _ _ => ⟨rfl, e0, (by decide : 0 + 1 ≤ _), (by decide : 0 + 2 ≤ _)⟩)
  dsimp only [Pt.U, Pt.locs, Pt.cells, Pt.slots] at X15 l15 y15 z15 st15 hQ15
  subst l15 y15 z15
  obtain ⟨b15, kk15, rfl, N15q, K15k, hf15, g115, g215⟩ := hQ15
  have N15 := Fr.app N0 N15q
  have O16 : Old Z n0 T15.heap := O0.keep K15k all0
  have Z16 : n0 ≤ T15.heap.size := Nat.le_trans Z0 K15k.1
  have K16 : Keep h0 T15.heap [] := K0.trans K15k all0
  have f17 : Exa Z T15.heap t "java/lang/String" := Et.keep K15k
  have f18 : Fld Z T15.heap t "java/lang/String" "coder" "B" (.int 0) := Ct.keep K15k nin0
  have f19 : Fld Z T15.heap t "java/lang/String" "value" "[B" (.ref tb) := Vt.keep K15k nin0
  have f20 : Arv Z T15.heap tb ktb .byte (10 : Int32) (((([(115 : Int32), (101 : Int32), (114 : Int32), (105 : Int32), (97 : Int32), (108 : Int32), (105 : Int32), (122 : Int32), (101 : Int32), (100 : Int32)] : List Int32)).map (fun c => c.toInt8.toInt32)).map Value.int) (.int 0) := At.keep K15k nin0
  have g_b15 : n0 ≤ b15 := Nat.le_trans Z0 hf15
  have sz_b15 : h0.size ≤ b15 := Nat.le_trans K0.1 hf15
  obtain ⟨c21, Ar21, q21, S21, M21, Hh21, U21⟩ := id g215
  obtain ⟨c22, Ar22, q22, S22, M22, Hh22, U22⟩ := id g215
  have hin22 : ¬ ((0 : Int32) < 0 ∨ c22.slots.size ≤ ((0 : Int32)).toNatClampNeg) := inb_of S22 ⟨(by decide), (by decide)⟩
  have hat22 : c22.slots[((0 : Int32)).toNatClampNeg]? = some (.ref v0) := Hh22.at hin22 rfl
  obtain ⟨T23, X23, e23, st23⟩ := getF X15 hx hZ hown (host := "") (Or.inl (hw _ (List.mem_of_getElem? (i := 52) rfl))) Via.refl rfl (FO0.ext O16.2) (g := (mkF m 21 #[.val (.ref t), .val (.ref b15), .val (.int (2 : Int32)), .val (.int (0 : Int32)), .val (.ref v0)] [(.ref v0)])) rfl rfl (hb hby d_prog_92_method_5_code_21)
  have heq : ∀ d ∈ StrChars.Road.wordsEq, d.before a0 Z = true := fun d hd => hw d ((by decide +kernel : ∀ d ∈ StrChars.Road.wordsEq, d ∈ tables_1) d hd)
  obtain ⟨cq24, kq24, qa24, qb24, qc24⟩ := isOf hZ e23 (EW0.ext O16.2)
  obtain ⟨_, _, ⟨T24, L24, k24, n24⟩, -, X24, ⟨Lc24, hQ24, l24, y24, z24⟩, st24⟩ := X23.virtualBack hx (y := (⟨"java/lang/String", "equals", "(Ljava/lang/Object;)Z"⟩ : MethodName)) (z := (⟨"java/lang/String", "equals", "(Ljava/lang/Object;)Z"⟩ : MethodName)) hown (mvT hZ (hw _ (List.mem_of_getElem? (i := 54) rfl))) (mvT hZ (hw _ (List.mem_of_getElem? (i := 55) rfl))) (notFace_of_selects (args := #[]) (mvT hZ (hw _ (List.mem_of_getElem? (i := 57) rfl)))) (mvT hZ (hw _ (List.mem_of_getElem? (i := 57) rfl))) (mvT hZ (hw _ (List.mem_of_getElem? (i := 56) rfl))) (by decide) (StrChars.Road.eqW (W := 0) hZ heq (kI := 4) (hw _ (List.mem_of_getElem? (i := 2) rfl)) (EW0.ext O16.2) (VW0.ext O16.2) (CW0.ext O16.2) (AW0.ext O16.2) own_cod0 own_lat0 own_len0 f17 f19 f18 f20 own_codT1 own_lat1 own_len1 (OC2.ext O16.2) OCz (by decide) (by decide)) qa24 qc24 (g := (mkF m 25 #[.val (.ref t), .val (.ref b15), .val (.int (2 : Int32)), .val (.int (0 : Int32)), .val (.ref v0)] [(.ref t), (.ref w0)])) rfl (by rw [hml]; rfl) (Steps.refl _) (argsL := [(.ref t)]) (rest := []) (lenOf pd__Ljava_lang_Object__Z rfl) rfl (by show 2 * 0 + _ ≤ _; exact Nat.le_of_eq rfl) (hb hby d_prog_92_method_5_code_25) (fun _ _ => ⟨rfl, e23, (by decide : 1 + 0 ≤ _), (by decide : 2 + 0 ≤ _)⟩)
  dsimp only [Pt.U, Pt.locs, Pt.cells, Pt.slots] at X24 l24 y24 z24 st24 hQ24
  subst l24 y24 z24
  obtain ⟨hd24, rfl, e24⟩ := hQ24
  obtain ⟨rfl, -⟩ := hd24.resolve_left (fun q => absurd q.2 (by decide))
  have N24q : Fr n0 ([] : List Loc) := Fr.nil n0
  have N24 := Fr.app N15 N24q
  obtain ⟨c25, Ar25, q25, S25, M25, Hh25, U25⟩ := id g215
  have hin25 : ¬ (((0 : Int32) + (1 : Int32)) < 0 ∨ c25.slots.size ≤ (((0 : Int32) + (1 : Int32))).toNatClampNeg) := inb_of S25 ⟨(by decide), (by decide)⟩
  have hat25 : c25.slots[(((0 : Int32) + (1 : Int32))).toNatClampNeg]? = some (.ref v1) := Hh25.at hin25 rfl
  obtain ⟨T26, X26, e26, st26⟩ := getF X24 hx hZ hown (host := "") (Or.inl (hw _ (List.mem_of_getElem? (i := 52) rfl))) Via.refl e24 (FO1.ext O16.2) (g := (mkF m 21 #[.val (.ref t), .val (.ref b15), .val (.int (2 : Int32)), .val (.int ((0 : Int32) + (1 : Int32))), .val (.ref v1)] [(.ref v1)])) rfl rfl (hb hby d_prog_92_method_5_code_21)
  obtain ⟨cq27, kq27, qa27, qb27, qc27⟩ := isOf hZ e26 (EW1.ext O16.2)
  obtain ⟨_, _, ⟨T27, L27, k27, n27⟩, -, X27, ⟨Lc27, hQ27, l27, y27, z27⟩, st27⟩ := X26.virtualBack hx (y := (⟨"java/lang/String", "equals", "(Ljava/lang/Object;)Z"⟩ : MethodName)) (z := (⟨"java/lang/String", "equals", "(Ljava/lang/Object;)Z"⟩ : MethodName)) hown (mvT hZ (hw _ (List.mem_of_getElem? (i := 54) rfl))) (mvT hZ (hw _ (List.mem_of_getElem? (i := 55) rfl))) (notFace_of_selects (args := #[]) (mvT hZ (hw _ (List.mem_of_getElem? (i := 57) rfl)))) (mvT hZ (hw _ (List.mem_of_getElem? (i := 57) rfl))) (mvT hZ (hw _ (List.mem_of_getElem? (i := 56) rfl))) (by decide) (StrChars.Road.eqW (W := 0) hZ heq (kI := 4) (hw _ (List.mem_of_getElem? (i := 2) rfl)) (EW1.ext O16.2) (VW1.ext O16.2) (CW1.ext O16.2) (AW1.ext O16.2) own_cod1 own_lat1 own_len1 f17 f19 f18 f20 own_codT1 own_lat1 own_len1 (OC2.ext O16.2) OCz (by decide) (by decide)) qa27 qc27 (g := (mkF m 25 #[.val (.ref t), .val (.ref b15), .val (.int (2 : Int32)), .val (.int ((0 : Int32) + (1 : Int32))), .val (.ref v1)] [(.ref t), (.ref w1)])) rfl (by rw [hml]; rfl) (Steps.refl _) (argsL := [(.ref t)]) (rest := []) (lenOf pd__Ljava_lang_Object__Z rfl) rfl (by show 2 * 0 + _ ≤ _; exact Nat.le_of_eq rfl) (hb hby d_prog_92_method_5_code_25) (fun _ _ => ⟨rfl, e26, (by decide : 1 + 0 ≤ _), (by decide : 2 + 0 ≤ _)⟩)
  dsimp only [Pt.U, Pt.locs, Pt.cells, Pt.slots] at X27 l27 y27 z27 st27 hQ27
  subst l27 y27 z27
  obtain ⟨hd27, rfl, e27⟩ := hQ27
  obtain ⟨rfl, -⟩ := hd27.resolve_right (fun q => q.2 rfl)
  have N27q : Fr n0 ([] : List Loc) := Fr.nil n0
  have N27 := Fr.app N24 N27q
  obtain ⟨fs, hr, hrun, hended, hW, hsame⟩ := X27.leave (v := some (.ref v1)) (fun h => by rw [Bd.returns] at h; cases h)
  refine ⟨_, _, pre0 _ ?_, hrun, hended, _, _, rfl, ?_, ⟨_, rfl⟩, hW, hsame.mono (by decide) (by decide)⟩
  · show Steps p.tables e below (s₁.setTop (mkF m 0 #[.val (.ref t), .unset, .unset, .unset, .unset] [])) _
    refine st15 _ ?_
    show Steps p.tables e below (T15.setTop (mkF m 3 #[.val (.ref t), .unset, .unset, .unset, .unset] [(.ref b15)])) _
    refine XS.astoreN X15.here hx rfl (hb hby d_prog_92_method_5_code_3) rfl rfl (l' := #[.val (.ref t), .val (.ref b15), .unset, .unset, .unset]) rfl ?_
    show Steps p.tables e below (T15.setTop (mkF m 4 #[.val (.ref t), .val (.ref b15), .unset, .unset, .unset] [])) _
    refine XS.aloadN X15.here hx rfl (hb hby d_prog_92_method_5_code_4) rfl rfl ?_
    show Steps p.tables e below (T15.setTop (mkF m 5 #[.val (.ref t), .val (.ref b15), .unset, .unset, .unset] [(.ref b15)])) _
    refine X15.arraylength hx (by exact Ar21.1) (State.isArrayOf_alike hZ.alike Ar21.2.1) (g := (mkF m 5 #[.val (.ref t), .val (.ref b15), .unset, .unset, .unset] [(.ref b15)])) rfl rfl (hb hby d_prog_92_method_5_code_5) _ ?_
    rw [len_of S21 M21]
    show Steps p.tables e below (T15.setTop (mkF m 6 #[.val (.ref t), .val (.ref b15), .unset, .unset, .unset] [(.int (2 : Int32))])) _
    refine XS.istoreN X15.here hx rfl (hb hby d_prog_92_method_5_code_6) rfl (l' := #[.val (.ref t), .val (.ref b15), .val (.int (2 : Int32)), .unset, .unset]) rfl ?_
    show Steps p.tables e below (T15.setTop (mkF m 7 #[.val (.ref t), .val (.ref b15), .val (.int (2 : Int32)), .unset, .unset] [])) _
    refine XS.iconst X15.here hx rfl (hb hby d_prog_92_method_5_code_7) ?_
    show Steps p.tables e below (T15.setTop (mkF m 8 #[.val (.ref t), .val (.ref b15), .val (.int (2 : Int32)), .unset, .unset] [(.int (0 : Int32))])) _
    refine XS.istoreN X15.here hx rfl (hb hby d_prog_92_method_5_code_8) rfl (l' := #[.val (.ref t), .val (.ref b15), .val (.int (2 : Int32)), .val (.int (0 : Int32)), .unset]) rfl ?_
    show Steps p.tables e below (T15.setTop (mkF m 9 #[.val (.ref t), .val (.ref b15), .val (.int (2 : Int32)), .val (.int (0 : Int32)), .unset] [])) _
    refine XS.iloadN X15.here hx rfl (hb hby d_prog_92_method_5_code_9) rfl ?_
    show Steps p.tables e below (T15.setTop (mkF m 10 #[.val (.ref t), .val (.ref b15), .val (.int (2 : Int32)), .val (.int (0 : Int32)), .unset] [(.int (0 : Int32))])) _
    refine XS.iloadN X15.here hx rfl (hb hby d_prog_92_method_5_code_10) rfl ?_
    show Steps p.tables e below (T15.setTop (mkF m 11 #[.val (.ref t), .val (.ref b15), .val (.int (2 : Int32)), .val (.int (0 : Int32)), .unset] [(.int (2 : Int32)), (.int (0 : Int32))])) _
    refine XS.icmpNo X15.here hx rfl (hb hby d_prog_92_method_5_code_11) rfl (tlt (by decide : (0 : Int32) < (2 : Int32))).2.1 ?_
    show Steps p.tables e below (T15.setTop (mkF m 14 #[.val (.ref t), .val (.ref b15), .val (.int (2 : Int32)), .val (.int (0 : Int32)), .unset] [])) _
    refine XS.aloadN X15.here hx rfl (hb hby d_prog_92_method_5_code_14) rfl rfl ?_
    show Steps p.tables e below (T15.setTop (mkF m 15 #[.val (.ref t), .val (.ref b15), .val (.int (2 : Int32)), .val (.int (0 : Int32)), .unset] [(.ref b15)])) _
    refine XS.iloadN X15.here hx rfl (hb hby d_prog_92_method_5_code_15) rfl ?_
    show Steps p.tables e below (T15.setTop (mkF m 16 #[.val (.ref t), .val (.ref b15), .val (.int (2 : Int32)), .val (.int (0 : Int32)), .unset] [(.int (0 : Int32)), (.ref b15)])) _
    refine X15.aaload hx (j := (0 : Int32)) (v := (.ref v0)) (by exact Ar22.1) (State.isArrayOf_alike hZ.alike Ar22.2.1) rfl Ar22.2.2 hin22 hat22 (g := (mkF m 16 #[.val (.ref t), .val (.ref b15), .val (.int (2 : Int32)), .val (.int (0 : Int32)), .unset] [(.int (0 : Int32)), (.ref b15)])) rfl rfl (hb hby d_prog_92_method_5_code_16) _ ?_
    show Steps p.tables e below (T15.setTop (mkF m 17 #[.val (.ref t), .val (.ref b15), .val (.int (2 : Int32)), .val (.int (0 : Int32)), .unset] [(.ref v0)])) _
    refine XS.astore X15.here hx rfl (hb hby d_prog_92_method_5_code_17) rfl rfl (l' := #[.val (.ref t), .val (.ref b15), .val (.int (2 : Int32)), .val (.int (0 : Int32)), .val (.ref v0)]) rfl ?_
    show Steps p.tables e below (T15.setTop (mkF m 19 #[.val (.ref t), .val (.ref b15), .val (.int (2 : Int32)), .val (.int (0 : Int32)), .val (.ref v0)] [])) _
    refine XS.aload X15.here hx rfl (hb hby d_prog_92_method_5_code_19) rfl rfl ?_
    show Steps p.tables e below (T15.setTop (mkF m 21 #[.val (.ref t), .val (.ref b15), .val (.int (2 : Int32)), .val (.int (0 : Int32)), .val (.ref v0)] [(.ref v0)])) _
    refine st23 _ ?_
    show Steps p.tables e below (T23.setTop (mkF m 24 #[.val (.ref t), .val (.ref b15), .val (.int (2 : Int32)), .val (.int (0 : Int32)), .val (.ref v0)] [(.ref w0)])) _
    refine XS.aloadN X23.here hx rfl (hb hby d_prog_92_method_5_code_24) rfl rfl ?_
    show Steps p.tables e below (T23.setTop (mkF m 25 #[.val (.ref t), .val (.ref b15), .val (.int (2 : Int32)), .val (.int (0 : Int32)), .val (.ref v0)] [(.ref t), (.ref w0)])) _
    refine st24.trans ?_
    show Steps p.tables e below (T24.setTop (mkF m 28 #[.val (.ref t), .val (.ref b15), .val (.int (2 : Int32)), .val (.int (0 : Int32)), .val (.ref v0)] [(.int (0 : Int32))])) _
    refine XS.ifYes X24.here hx rfl (pc0 := 28) (pc' := 34) rfl (hb hby d_prog_92_method_5_code_28) rfl ((if0 _ _).trans (teq (rfl : (0 : Int32) = (0 : Int32))).1) (by decide) (by decide) ?_
    show Steps p.tables e below (T24.setTop (mkF m 34 #[.val (.ref t), .val (.ref b15), .val (.int (2 : Int32)), .val (.int (0 : Int32)), .val (.ref v0)] [])) _
    refine XS.iinc X24.here hx rfl (hb hby d_prog_92_method_5_code_34) rfl (l' := #[.val (.ref t), .val (.ref b15), .val (.int (2 : Int32)), .val (.int ((0 : Int32) + (1 : Int32))), .val (.ref v0)]) rfl ?_
    show Steps p.tables e below (T24.setTop (mkF m 37 #[.val (.ref t), .val (.ref b15), .val (.int (2 : Int32)), .val (.int ((0 : Int32) + (1 : Int32))), .val (.ref v0)] [])) _
    refine XS.goto X24.here hx rfl (pc0 := 37) (pc' := 9) rfl (hb hby d_prog_92_method_5_code_37) (by decide) (by decide) ?_
    show Steps p.tables e below (T24.setTop (mkF m 9 #[.val (.ref t), .val (.ref b15), .val (.int (2 : Int32)), .val (.int ((0 : Int32) + (1 : Int32))), .val (.ref v0)] [])) _
    refine XS.iloadN X24.here hx rfl (hb hby d_prog_92_method_5_code_9) rfl ?_
    show Steps p.tables e below (T24.setTop (mkF m 10 #[.val (.ref t), .val (.ref b15), .val (.int (2 : Int32)), .val (.int ((0 : Int32) + (1 : Int32))), .val (.ref v0)] [(.int ((0 : Int32) + (1 : Int32)))])) _
    refine XS.iloadN X24.here hx rfl (hb hby d_prog_92_method_5_code_10) rfl ?_
    show Steps p.tables e below (T24.setTop (mkF m 11 #[.val (.ref t), .val (.ref b15), .val (.int (2 : Int32)), .val (.int ((0 : Int32) + (1 : Int32))), .val (.ref v0)] [(.int (2 : Int32)), (.int ((0 : Int32) + (1 : Int32)))])) _
    refine XS.icmpNo X24.here hx rfl (hb hby d_prog_92_method_5_code_11) rfl (tlt (by decide : ((0 : Int32) + (1 : Int32)) < (2 : Int32))).2.1 ?_
    show Steps p.tables e below (T24.setTop (mkF m 14 #[.val (.ref t), .val (.ref b15), .val (.int (2 : Int32)), .val (.int ((0 : Int32) + (1 : Int32))), .val (.ref v0)] [])) _
    refine XS.aloadN X24.here hx rfl (hb hby d_prog_92_method_5_code_14) rfl rfl ?_
    show Steps p.tables e below (T24.setTop (mkF m 15 #[.val (.ref t), .val (.ref b15), .val (.int (2 : Int32)), .val (.int ((0 : Int32) + (1 : Int32))), .val (.ref v0)] [(.ref b15)])) _
    refine XS.iloadN X24.here hx rfl (hb hby d_prog_92_method_5_code_15) rfl ?_
    show Steps p.tables e below (T24.setTop (mkF m 16 #[.val (.ref t), .val (.ref b15), .val (.int (2 : Int32)), .val (.int ((0 : Int32) + (1 : Int32))), .val (.ref v0)] [(.int ((0 : Int32) + (1 : Int32))), (.ref b15)])) _
    refine X24.aaload hx (j := ((0 : Int32) + (1 : Int32))) (v := (.ref v1)) (by rw [e24]; exact Ar25.1) (State.isArrayOf_alike hZ.alike Ar25.2.1) rfl Ar25.2.2 hin25 hat25 (g := (mkF m 16 #[.val (.ref t), .val (.ref b15), .val (.int (2 : Int32)), .val (.int ((0 : Int32) + (1 : Int32))), .val (.ref v0)] [(.int ((0 : Int32) + (1 : Int32))), (.ref b15)])) rfl rfl (hb hby d_prog_92_method_5_code_16) _ ?_
    show Steps p.tables e below (T24.setTop (mkF m 17 #[.val (.ref t), .val (.ref b15), .val (.int (2 : Int32)), .val (.int ((0 : Int32) + (1 : Int32))), .val (.ref v0)] [(.ref v1)])) _
    refine XS.astore X24.here hx rfl (hb hby d_prog_92_method_5_code_17) rfl rfl (l' := #[.val (.ref t), .val (.ref b15), .val (.int (2 : Int32)), .val (.int ((0 : Int32) + (1 : Int32))), .val (.ref v1)]) rfl ?_
    show Steps p.tables e below (T24.setTop (mkF m 19 #[.val (.ref t), .val (.ref b15), .val (.int (2 : Int32)), .val (.int ((0 : Int32) + (1 : Int32))), .val (.ref v1)] [])) _
    refine XS.aload X24.here hx rfl (hb hby d_prog_92_method_5_code_19) rfl rfl ?_
    show Steps p.tables e below (T24.setTop (mkF m 21 #[.val (.ref t), .val (.ref b15), .val (.int (2 : Int32)), .val (.int ((0 : Int32) + (1 : Int32))), .val (.ref v1)] [(.ref v1)])) _
    refine st26 _ ?_
    show Steps p.tables e below (T26.setTop (mkF m 24 #[.val (.ref t), .val (.ref b15), .val (.int (2 : Int32)), .val (.int ((0 : Int32) + (1 : Int32))), .val (.ref v1)] [(.ref w1)])) _
    refine XS.aloadN X26.here hx rfl (hb hby d_prog_92_method_5_code_24) rfl rfl ?_
    show Steps p.tables e below (T26.setTop (mkF m 25 #[.val (.ref t), .val (.ref b15), .val (.int (2 : Int32)), .val (.int ((0 : Int32) + (1 : Int32))), .val (.ref v1)] [(.ref t), (.ref w1)])) _
    refine st27.trans ?_
    show Steps p.tables e below (T27.setTop (mkF m 28 #[.val (.ref t), .val (.ref b15), .val (.int (2 : Int32)), .val (.int ((0 : Int32) + (1 : Int32))), .val (.ref v1)] [(.int (1 : Int32))])) _
    refine XS.ifNo X27.here hx rfl (hb hby d_prog_92_method_5_code_28) rfl ((if0 _ _).trans (feq (by decide : ¬ ((1 : Int32) = (0 : Int32)))).1) ?_
    show Steps p.tables e below (T27.setTop (mkF m 31 #[.val (.ref t), .val (.ref b15), .val (.int (2 : Int32)), .val (.int ((0 : Int32) + (1 : Int32))), .val (.ref v1)] [])) _
    refine XS.aload X27.here hx rfl (hb hby d_prog_92_method_5_code_31) rfl rfl ?_
    show Steps p.tables e below (T27.setTop (mkF m 33 #[.val (.ref t), .val (.ref b15), .val (.int (2 : Int32)), .val (.int ((0 : Int32) + (1 : Int32))), .val (.ref v1)] [(.ref v1)])) _
    jvm_step X27.here [X27.here.top, hx, (hb hby d_prog_92_method_5_code_33), X27.method', Bd.returns, Value.isRef, FieldType.isReference]
    first | (intro acts; rw [hr _ acts rfl rfl rfl]) | rw [hr _ _ rfl rfl rfl]
    exact Steps.refl _
  · show QP1 Z va v0 w0 y0 v1 w1 y1 kv k0b k1b GC h0 n0 _ T27.heap _
    rw [e27]
    exact ⟨rfl, N27, K16⟩
def Qget (Z : State) (wv : Addr) (h0 : Heap) (n0 : Nat) (v : Option Value) (h : Heap) (L : List Loc) : Prop := v = some (.ref wv) ∧ Fr n0 L ∧ h = h0
theorem d_prog_92_method_4_code_0 : decode prog_92_method_4_code 0 = .ok (.aload_n 0, 1) := by decide +kernel
theorem d_prog_92_method_4_code_1 : decode prog_92_method_4_code 1 = .ok (.getfield 45, 3) := by decide +kernel
theorem d_prog_92_method_4_code_4 : decode prog_92_method_4_code 4 = .ok (.areturn, 1) := by decide +kernel
theorem ef_rmGet (m : MethodId) (x0 : Addr) : entryFrame m #[(.ref x0)] 1 = mkF m 0 #[.val (.ref x0)] [] := by first | (simp [entryFrame, mkF, argsToLocals, Value.category]; done) | rfl
set_option maxRecDepth 65536 in
set_option maxHeartbeats 40000000 in
theorem rmGet (l : Launch) (Z : State) (a0 : Array Value) (hw : ∀ d ∈ tables_1, d.before a0 Z = true) (ws : List Jvm.Cond) (a wv : Addr) (h0 : Heap) (n0 : Nat) (O0 : Old Z n0 h0) (FA : Fld Z h0 a "holdfast/redis/IndexMemberEncoding" "settingValue" "Ljava/lang/String;" (.ref wv)) :
    MetFree l (⟨"holdfast/redis/IndexMemberEncoding", "settingValue", "()Ljava/lang/String;"⟩ : MethodName) (head1 (Jvm.Cond.code (⟨"holdfast/redis/IndexMemberEncoding", "settingValue", "()Ljava/lang/String;"⟩ : MethodName) prog_92_method_4_code 1 (some (.object "java/lang/String")) :: ws) ({ frames := 0, cells := 0, slots := 0, locals := 0 } : Room)) (fun aa_ U => aa_ = #[(.ref a)] ∧ Z.Warmed39 U.vm ∧ U.heap = h0) (fun _ _ _ _ _ => True) (fun _ U o U' => ∃ v L, o = .returned v ∧ Qget Z wv h0 n0 v U'.heap L ∧ FrameEnd U o U' L ({ frames := 0, cells := 0, slots := 0, locals := 0 } : Room).cells ({ frames := 0, cells := 0, slots := 0, locals := 0 } : Room).slots) := by
  refine MetFree.of_bodySF (plainFor_of_name pn_holdfast_redis_IndexMemberEncoding) hisR ?_
  intro p e s m args below meth c s₁ Bd hml0 hP hK
  obtain ⟨rfl, hZ, hh⟩ := hP
  have hx := Bd.exec
  have hby := Bd.bytes
  have hml : c.maxLocals = 1 := hml0
  have hown : s.vm.findClass "holdfast/redis/IndexMemberEncoding" = some m.cls := findClass_of_methodNamed Bd.named
  have hnm := (name_of_methodNamed Bd.named Bd.method).1
  have X0 : Stand p l e ({ frames := 0, cells := 0, slots := 0, locals := 0 } : Room) s m #[(.ref a)] below meth c s₁ [] 0 0 := Stand.of_body Bd
  have e0 : s₁.heap = h0 := by rw [← hh, Bd.state]; rfl
  have N0 := Fr.nil n0
  have Z0 : n0 ≤ h0.size := O0.1 ▸ O0.2.1
  have K0 : Keep h0 h0 [] := Keep.refl _ _
  have pre0 : ∀ tgt_, Steps p.tables e below (s₁.setTop (mkF m 0 #[.val (.ref a)] [])) tgt_ → Steps p.tables e below (s₁.setTop (entryFrame m #[(.ref a)] 1)) tgt_ := fun tgt_ k => castTop (ef_rmGet m a) k
  obtain ⟨T28, X28, e28, st28⟩ := getF X0 hx hZ hown (host := "") (Or.inl (hw _ (List.mem_of_getElem? (i := 52) rfl))) Via.refl e0 FA (g := (mkF m 1 #[.val (.ref a)] [(.ref a)])) rfl rfl (hb hby d_prog_92_method_4_code_1)
  obtain ⟨fs, hr, hrun, hended, hW, hsame⟩ := X28.leave (v := some (.ref wv)) (fun h => by rw [Bd.returns] at h; cases h)
  refine ⟨_, _, pre0 _ ?_, hrun, hended, _, _, rfl, ?_, ⟨_, rfl⟩, hW, hsame.mono (by decide) (by decide)⟩
  · show Steps p.tables e below (s₁.setTop (mkF m 0 #[.val (.ref a)] [])) _
    refine XS.aloadN X0.here hx rfl (hb hby d_prog_92_method_4_code_0) rfl rfl ?_
    show Steps p.tables e below (s₁.setTop (mkF m 1 #[.val (.ref a)] [(.ref a)])) _
    refine st28 _ ?_
    show Steps p.tables e below (T28.setTop (mkF m 4 #[.val (.ref a)] [(.ref wv)])) _
    jvm_step X28.here [X28.here.top, hx, (hb hby d_prog_92_method_4_code_4), X28.method', Bd.returns, Value.isRef, FieldType.isReference]
    first | (intro acts; rw [hr _ acts rfl rfl rfl]) | rw [hr _ _ rfl rfl rfl]
    exact Steps.refl _
  · show Qget Z wv h0 n0 _ T28.heap _
    rw [e28]
    exact ⟨rfl, N0, rfl⟩
def Qlaw (Z : State)  (h0 : Heap) (n0 : Nat) (v : Option Value) (h : Heap) (L : List Loc) : Prop := v = some (.int 1) ∧ Fr n0 L
theorem pd___C_V : parseMethodDescriptor "([C)V" = some ⟨[(.array .char)], none⟩ := by decide +kernel
theorem pd__Ljava_lang_String__Lholdfast_redis_IndexMemberEncoding_ : parseMethodDescriptor "(Ljava/lang/String;)Lholdfast/redis/IndexMemberEncoding;" = some ⟨[(.object "java/lang/String")], some (.object "holdfast/redis/IndexMemberEncoding")⟩ := by decide +kernel
theorem pd___Ljava_lang_String_ : parseMethodDescriptor "()Ljava/lang/String;" = some ⟨[], some (.object "java/lang/String")⟩ := by decide +kernel
theorem pn_holdfast_redis_IndexMemberEncodingOfSettingValuePinLaw : plainName "holdfast/redis/IndexMemberEncodingOfSettingValuePinLaw" = true := by first | (simp [plainName, overriddenIn]; done) | decide +kernel
theorem ef_rmLawP (m : MethodId) (x0 : Int32) : entryFrame m #[(.int x0)] maxLocals = mkF m 0 #[.val (.int x0), .unset, .unset, .unset, .unset, .unset, .unset, .unset, .unset] [] := by first | (simp [entryFrame, mkF, argsToLocals, Value.category, maxLocals]; done) | rfl
set_option maxRecDepth 65536 in
set_option maxHeartbeats 40000000 in
theorem rmLawP (l : Launch) (Z : State) (a0 : Array Value) (hw : ∀ d ∈ tables_1, d.before a0 Z = true) (ws : List Jvm.Cond) (va v0 w0 y0 v1 w1 y1 : Addr) (kv k0b k1b : ClassId) (GC : Int32) (p1 : Int32) (h0 : Heap) (n0 : Nat) (O0 : Old Z n0 h0) (SV : Sta Z Z.heap "holdfast/redis/IndexMemberEncoding" "$VALUES" "[Lholdfast/redis/IndexMemberEncoding;" (.ref va)) (EV : Exa Z Z.heap va "[Lholdfast/redis/IndexMemberEncoding;") (AV : Arv Z Z.heap va kv (.object "holdfast/redis/IndexMemberEncoding") (2 : Int32) [(.ref v0), (.ref v1)] .null) (SO0 : Sta Z Z.heap "holdfast/redis/IndexMemberEncoding" "PLAIN" "Lholdfast/redis/IndexMemberEncoding;" (.ref v0)) (EO0 : Exa Z Z.heap v0 "holdfast/redis/IndexMemberEncoding") (FO0 : Fld Z Z.heap v0 "holdfast/redis/IndexMemberEncoding" "settingValue" "Ljava/lang/String;" (.ref w0)) (EW0 : Exa Z Z.heap w0 "java/lang/String") (CW0 : Fld Z Z.heap w0 "java/lang/String" "coder" "B" (.int 0)) (VW0 : Fld Z Z.heap w0 "java/lang/String" "value" "[B" (.ref y0)) (AW0 : Arv Z Z.heap y0 k0b .byte (5 : Int32) [(.int (112 : Int32)), (.int (108 : Int32)), (.int (97 : Int32)), (.int (105 : Int32)), (.int (110 : Int32))] (.int 0)) (SO1 : Sta Z Z.heap "holdfast/redis/IndexMemberEncoding" "SERIALIZED" "Lholdfast/redis/IndexMemberEncoding;" (.ref v1)) (EO1 : Exa Z Z.heap v1 "holdfast/redis/IndexMemberEncoding") (FO1 : Fld Z Z.heap v1 "holdfast/redis/IndexMemberEncoding" "settingValue" "Ljava/lang/String;" (.ref w1)) (EW1 : Exa Z Z.heap w1 "java/lang/String") (CW1 : Fld Z Z.heap w1 "java/lang/String" "coder" "B" (.int 0)) (VW1 : Fld Z Z.heap w1 "java/lang/String" "value" "[B" (.ref y1)) (AW1 : Arv Z Z.heap y1 k1b .byte (10 : Int32) [(.int (115 : Int32)), (.int (101 : Int32)), (.int (114 : Int32)), (.int (105 : Int32)), (.int (97 : Int32)), (.int (108 : Int32)), (.int (105 : Int32)), (.int (122 : Int32)), (.int (101 : Int32)), (.int (100 : Int32))] (.int 0)) (OC2 : Sta Z Z.heap "java/lang/String" "COMPACT_STRINGS" "Z" (.int GC)) (OCz : ¬ (GC = (0 : Int32))) (hbit : (p1 &&& (1 : Int32)) = 0) :
    MetFree l x (head1 (Jvm.Cond.code x code maxLocals ret :: ws) room_1) (fun aa_ U => aa_ = #[(.int p1)] ∧ Z.Warmed39 U.vm ∧ U.heap = h0) (fun _ _ _ _ _ => True) (fun _ U o U' => ∃ v L, o = .returned v ∧ Qlaw Z h0 n0 v U'.heap L ∧ FrameEnd U o U' L room_1.cells room_1.slots) := by
  refine MetFree.of_bodySF (plainFor_of_name pn_holdfast_redis_IndexMemberEncodingOfSettingValuePinLaw) hisR ?_
  intro p e s m args below meth c s₁ Bd hml0 hP hK
  obtain ⟨rfl, hZ, hh⟩ := hP
  have hx := Bd.exec
  have hby := Bd.bytes
  have hml : c.maxLocals = 9 := hml0
  have hown : s.vm.findClass "holdfast/redis/IndexMemberEncodingOfSettingValuePinLaw" = some m.cls := findClass_of_methodNamed Bd.named
  have hnm := (name_of_methodNamed Bd.named Bd.method).1
  have X0 : Stand p l e room_1 s m #[(.int p1)] below meth c s₁ [] 0 0 := Stand.of_body Bd
  have e0 : s₁.heap = h0 := by rw [← hh, Bd.state]; rfl
  have N0 := Fr.nil n0
  have Z0 : n0 ≤ h0.size := O0.1 ▸ O0.2.1
  have K0 : Keep h0 h0 [] := Keep.refl _ _
  have pre0 : ∀ tgt_, Steps p.tables e below (s₁.setTop (mkF m 0 #[.val (.int p1), .unset, .unset, .unset, .unset, .unset, .unset, .unset, .unset] [])) tgt_ → Steps p.tables e below (s₁.setTop (entryFrame m #[(.int p1)] maxLocals)) tgt_ := fun tgt_ k => castTop (ef_rmLawP m p1) k
  obtain ⟨T29, h29, k29, X29, e29, E29, A29, st29⟩ := newP X0 hx hZ (hw _ (List.mem_of_getElem? (i := 0) rfl)) e0 (g := (mkF m 13 #[.val (.int p1), .val (.int (0 : Int32)), .unset, .unset, .unset, .unset, .unset, .unset, .unset] [(.int (5 : Int32))])) rfl (hb hby at_13) rfl (by decide : ¬ ((5 : Int32) < (0 : Int32))) (cap := 5) (by decide : (5 : Int32).toNatClampNeg ≤ 5) (by decide) (by decide) (by decide)
  obtain ⟨b29, g29⟩ : ∃ z, z = h0.size := ⟨_, rfl⟩
  rw [← g29] at A29 st29
  have geb29 : h0.size ≤ b29 := Nat.le_of_eq g29.symm
  have g_b29 : n0 ≤ b29 := Nat.le_trans Z0 geb29
  have sz_b29 : h0.size ≤ b29 := Nat.le_trans K0.1 geb29
  have O30 : Old Z n0 h29 := O0.ext E29
  have Z30 : n0 ≤ h29.size := Nat.le_trans Z0 E29.1
  have K30 : Keep h0 h29 [] := K0.ext E29
  have f31 : Arv Z h29 b29 k29 .char (5 : Int32) [(.int (0 : Int32)), (.int (0 : Int32)), (.int (0 : Int32)), (.int (0 : Int32)), (.int (0 : Int32))] (.int (0 : Int32)) := (Arv.new A29 (by decide : ¬ ((5 : Int32) < (0 : Int32)))).pad (pad_rep [] (.int (0 : Int32)) 5)
  obtain ⟨c32, Ar32, q32, S32, M32, Hh32, U32⟩ := id f31
  obtain ⟨T32, h32, X32, e32, W32, st32⟩ := stC X29 hx hZ e29 Ar32 (j := (0 : Int32)) (inb_of S32 ⟨(by decide : ¬ ((0 : Int32) < (0 : Int32))), (by decide : (0 : Int32) < (5 : Int32))⟩) (g := (mkF m 19 #[.val (.int p1), .val (.int (0 : Int32)), .unset, .unset, .unset, .unset, .unset, .unset, .unset] [(.int (112 : Int32)), (.int (0 : Int32)), (.ref b29), (.ref b29)])) rfl rfl (hb hby at_19)
  have f33 : Arv Z h32 b29 k29 .char (5 : Int32) [(.int (112 : Int32)), (.int (0 : Int32)), (.int (0 : Int32)), (.int (0 : Int32)), (.int (0 : Int32))] (.int (0 : Int32)) := Arv.set Ar32 q32 S32 M32 Hh32 U32 rfl W32 0 rfl (Nat.le_of_ble_eq_true rfl)
  have N32 := Fr.snoc X32 N0 g_b29
  have O34 : Old Z n0 h32 := O30.wr W32 g_b29
  have Z34 : n0 ≤ h32.size := Nat.le_trans Z30 (Keep.of_wr W32).1
  have K34 : Keep h0 h32 [] := K30.wr W32 (Or.inr sz_b29)
  obtain ⟨c35, Ar35, q35, S35, M35, Hh35, U35⟩ := id f33
  obtain ⟨T35, h35, X35, e35, W35, st35⟩ := stC X32 hx hZ e32 Ar35 (j := (1 : Int32)) (inb_of S35 ⟨(by decide : ¬ ((1 : Int32) < (0 : Int32))), (by decide : (1 : Int32) < (5 : Int32))⟩) (g := (mkF m 24 #[.val (.int p1), .val (.int (0 : Int32)), .unset, .unset, .unset, .unset, .unset, .unset, .unset] [(.int (108 : Int32)), (.int (1 : Int32)), (.ref b29), (.ref b29)])) rfl rfl (hb hby at_24)
  have f36 : Arv Z h35 b29 k29 .char (5 : Int32) [(.int (112 : Int32)), (.int (108 : Int32)), (.int (0 : Int32)), (.int (0 : Int32)), (.int (0 : Int32))] (.int (0 : Int32)) := Arv.set Ar35 q35 S35 M35 Hh35 U35 rfl W35 1 rfl (Nat.le_of_ble_eq_true rfl)
  have N35 := Fr.snoc X35 N32 g_b29
  have O37 : Old Z n0 h35 := O34.wr W35 g_b29
  have Z37 : n0 ≤ h35.size := Nat.le_trans Z34 (Keep.of_wr W35).1
  have K37 : Keep h0 h35 [] := K34.wr W35 (Or.inr sz_b29)
  obtain ⟨c38, Ar38, q38, S38, M38, Hh38, U38⟩ := id f36
  obtain ⟨T38, h38, X38, e38, W38, st38⟩ := stC X35 hx hZ e35 Ar38 (j := (2 : Int32)) (inb_of S38 ⟨(by decide : ¬ ((2 : Int32) < (0 : Int32))), (by decide : (2 : Int32) < (5 : Int32))⟩) (g := (mkF m 29 #[.val (.int p1), .val (.int (0 : Int32)), .unset, .unset, .unset, .unset, .unset, .unset, .unset] [(.int (97 : Int32)), (.int (2 : Int32)), (.ref b29), (.ref b29)])) rfl rfl (hb hby at_29)
  have f39 : Arv Z h38 b29 k29 .char (5 : Int32) [(.int (112 : Int32)), (.int (108 : Int32)), (.int (97 : Int32)), (.int (0 : Int32)), (.int (0 : Int32))] (.int (0 : Int32)) := Arv.set Ar38 q38 S38 M38 Hh38 U38 rfl W38 2 rfl (Nat.le_of_ble_eq_true rfl)
  have N38 := Fr.snoc X38 N35 g_b29
  have O40 : Old Z n0 h38 := O37.wr W38 g_b29
  have Z40 : n0 ≤ h38.size := Nat.le_trans Z37 (Keep.of_wr W38).1
  have K40 : Keep h0 h38 [] := K37.wr W38 (Or.inr sz_b29)
  obtain ⟨c41, Ar41, q41, S41, M41, Hh41, U41⟩ := id f39
  obtain ⟨T41, h41, X41, e41, W41, st41⟩ := stC X38 hx hZ e38 Ar41 (j := (3 : Int32)) (inb_of S41 ⟨(by decide : ¬ ((3 : Int32) < (0 : Int32))), (by decide : (3 : Int32) < (5 : Int32))⟩) (g := (mkF m 34 #[.val (.int p1), .val (.int (0 : Int32)), .unset, .unset, .unset, .unset, .unset, .unset, .unset] [(.int (105 : Int32)), (.int (3 : Int32)), (.ref b29), (.ref b29)])) rfl rfl (hb hby at_34)
  have f42 : Arv Z h41 b29 k29 .char (5 : Int32) [(.int (112 : Int32)), (.int (108 : Int32)), (.int (97 : Int32)), (.int (105 : Int32)), (.int (0 : Int32))] (.int (0 : Int32)) := Arv.set Ar41 q41 S41 M41 Hh41 U41 rfl W41 3 rfl (Nat.le_of_ble_eq_true rfl)
  have N41 := Fr.snoc X41 N38 g_b29
  have O43 : Old Z n0 h41 := O40.wr W41 g_b29
  have Z43 : n0 ≤ h41.size := Nat.le_trans Z40 (Keep.of_wr W41).1
  have K43 : Keep h0 h41 [] := K40.wr W41 (Or.inr sz_b29)
  obtain ⟨c44, Ar44, q44, S44, M44, Hh44, U44⟩ := id f42
  obtain ⟨T44, h44, X44, e44, W44, st44⟩ := stC X41 hx hZ e41 Ar44 (j := (4 : Int32)) (inb_of S44 ⟨(by decide : ¬ ((4 : Int32) < (0 : Int32))), (by decide : (4 : Int32) < (5 : Int32))⟩) (g := (mkF m 39 #[.val (.int p1), .val (.int (0 : Int32)), .unset, .unset, .unset, .unset, .unset, .unset, .unset] [(.int (110 : Int32)), (.int (4 : Int32)), (.ref b29), (.ref b29)])) rfl rfl (hb hby at_39)
  have f45 : Arv Z h44 b29 k29 .char (5 : Int32) [(.int (112 : Int32)), (.int (108 : Int32)), (.int (97 : Int32)), (.int (105 : Int32)), (.int (110 : Int32))] (.int (0 : Int32)) := Arv.set Ar44 q44 S44 M44 Hh44 U44 rfl W44 4 rfl (Nat.le_of_ble_eq_true rfl)
  have N44 := Fr.snoc X44 N41 g_b29
  have O46 : Old Z n0 h44 := O43.wr W44 g_b29
  have Z46 : n0 ≤ h44.size := Nat.le_trans Z43 (Keep.of_wr W44).1
  have K46 : Keep h0 h44 [] := K43.wr W44 (Or.inr sz_b29)
  obtain ⟨T47, h47, k47, X47, e47, E47, A47, st47⟩ := newP X44 hx hZ (hw _ (List.mem_of_getElem? (i := 0) rfl)) e44 (g := (mkF m 43 #[.val (.int p1), .val (.int (0 : Int32)), .val (.ref b29), .unset, .unset, .unset, .unset, .unset, .unset] [(.int (10 : Int32))])) rfl (hb hby at_43) rfl (by decide : ¬ ((10 : Int32) < (0 : Int32))) (cap := 10) (by decide : (10 : Int32).toNatClampNeg ≤ 10) (by decide) (by decide) (by decide)
  obtain ⟨b47, g47⟩ : ∃ z, z = h44.size := ⟨_, rfl⟩
  rw [← g47] at A47 st47
  have geb47 : h44.size ≤ b47 := Nat.le_of_eq g47.symm
  have g_b47 : n0 ≤ b47 := Nat.le_trans Z46 geb47
  have sz_b47 : h0.size ≤ b47 := Nat.le_trans K46.1 geb47
  have O48 : Old Z n0 h47 := O46.ext E47
  have Z48 : n0 ≤ h47.size := Nat.le_trans Z46 E47.1
  have K48 : Keep h0 h47 [] := K46.ext E47
  have f49 : Arv Z h47 b29 k29 .char (5 : Int32) [(.int (112 : Int32)), (.int (108 : Int32)), (.int (97 : Int32)), (.int (105 : Int32)), (.int (110 : Int32))] (.int (0 : Int32)) := f45.ext E47
  have f50 : Arv Z h47 b47 k47 .char (10 : Int32) [(.int (0 : Int32)), (.int (0 : Int32)), (.int (0 : Int32)), (.int (0 : Int32)), (.int (0 : Int32)), (.int (0 : Int32)), (.int (0 : Int32)), (.int (0 : Int32)), (.int (0 : Int32)), (.int (0 : Int32))] (.int (0 : Int32)) := (Arv.new A47 (by decide : ¬ ((10 : Int32) < (0 : Int32)))).pad (pad_rep [] (.int (0 : Int32)) 10)
  obtain ⟨c51, Ar51, q51, S51, M51, Hh51, U51⟩ := id f50
  obtain ⟨T51, h51, X51, e51, W51, st51⟩ := stC X47 hx hZ e47 Ar51 (j := (0 : Int32)) (inb_of S51 ⟨(by decide : ¬ ((0 : Int32) < (0 : Int32))), (by decide : (0 : Int32) < (10 : Int32))⟩) (g := (mkF m 49 #[.val (.int p1), .val (.int (0 : Int32)), .val (.ref b29), .unset, .unset, .unset, .unset, .unset, .unset] [(.int (115 : Int32)), (.int (0 : Int32)), (.ref b47), (.ref b47)])) rfl rfl (hb hby at_49)
  have f52 : Arv Z h51 b47 k47 .char (10 : Int32) [(.int (115 : Int32)), (.int (0 : Int32)), (.int (0 : Int32)), (.int (0 : Int32)), (.int (0 : Int32)), (.int (0 : Int32)), (.int (0 : Int32)), (.int (0 : Int32)), (.int (0 : Int32)), (.int (0 : Int32))] (.int (0 : Int32)) := Arv.set Ar51 q51 S51 M51 Hh51 U51 rfl W51 0 rfl (Nat.le_of_ble_eq_true rfl)
  have N51 := Fr.snoc X51 N44 g_b47
  have O53 : Old Z n0 h51 := O48.wr W51 g_b47
  have Z53 : n0 ≤ h51.size := Nat.le_trans Z48 (Keep.of_wr W51).1
  have K53 : Keep h0 h51 [] := K48.wr W51 (Or.inr sz_b47)
  have f54 : Arv Z h51 b29 k29 .char (5 : Int32) [(.int (112 : Int32)), (.int (108 : Int32)), (.int (97 : Int32)), (.int (105 : Int32)), (.int (110 : Int32))] (.int (0 : Int32)) := f49.other W51 (Nat.ne_of_lt (Nat.lt_of_lt_of_le f45.lt geb47))
  obtain ⟨c55, Ar55, q55, S55, M55, Hh55, U55⟩ := id f52
  obtain ⟨T55, h55, X55, e55, W55, st55⟩ := stC X51 hx hZ e51 Ar55 (j := (1 : Int32)) (inb_of S55 ⟨(by decide : ¬ ((1 : Int32) < (0 : Int32))), (by decide : (1 : Int32) < (10 : Int32))⟩) (g := (mkF m 54 #[.val (.int p1), .val (.int (0 : Int32)), .val (.ref b29), .unset, .unset, .unset, .unset, .unset, .unset] [(.int (101 : Int32)), (.int (1 : Int32)), (.ref b47), (.ref b47)])) rfl rfl (hb hby at_54)
  have f56 : Arv Z h55 b47 k47 .char (10 : Int32) [(.int (115 : Int32)), (.int (101 : Int32)), (.int (0 : Int32)), (.int (0 : Int32)), (.int (0 : Int32)), (.int (0 : Int32)), (.int (0 : Int32)), (.int (0 : Int32)), (.int (0 : Int32)), (.int (0 : Int32))] (.int (0 : Int32)) := Arv.set Ar55 q55 S55 M55 Hh55 U55 rfl W55 1 rfl (Nat.le_of_ble_eq_true rfl)
  have N55 := Fr.snoc X55 N51 g_b47
  have O57 : Old Z n0 h55 := O53.wr W55 g_b47
  have Z57 : n0 ≤ h55.size := Nat.le_trans Z53 (Keep.of_wr W55).1
  have K57 : Keep h0 h55 [] := K53.wr W55 (Or.inr sz_b47)
  have f58 : Arv Z h55 b29 k29 .char (5 : Int32) [(.int (112 : Int32)), (.int (108 : Int32)), (.int (97 : Int32)), (.int (105 : Int32)), (.int (110 : Int32))] (.int (0 : Int32)) := f54.other W55 (Nat.ne_of_lt (Nat.lt_of_lt_of_le f45.lt geb47))
  obtain ⟨c59, Ar59, q59, S59, M59, Hh59, U59⟩ := id f56
  obtain ⟨T59, h59, X59, e59, W59, st59⟩ := stC X55 hx hZ e55 Ar59 (j := (2 : Int32)) (inb_of S59 ⟨(by decide : ¬ ((2 : Int32) < (0 : Int32))), (by decide : (2 : Int32) < (10 : Int32))⟩) (g := (mkF m 59 #[.val (.int p1), .val (.int (0 : Int32)), .val (.ref b29), .unset, .unset, .unset, .unset, .unset, .unset] [(.int (114 : Int32)), (.int (2 : Int32)), (.ref b47), (.ref b47)])) rfl rfl (hb hby at_59)
  have f60 : Arv Z h59 b47 k47 .char (10 : Int32) [(.int (115 : Int32)), (.int (101 : Int32)), (.int (114 : Int32)), (.int (0 : Int32)), (.int (0 : Int32)), (.int (0 : Int32)), (.int (0 : Int32)), (.int (0 : Int32)), (.int (0 : Int32)), (.int (0 : Int32))] (.int (0 : Int32)) := Arv.set Ar59 q59 S59 M59 Hh59 U59 rfl W59 2 rfl (Nat.le_of_ble_eq_true rfl)
  have N59 := Fr.snoc X59 N55 g_b47
  have O61 : Old Z n0 h59 := O57.wr W59 g_b47
  have Z61 : n0 ≤ h59.size := Nat.le_trans Z57 (Keep.of_wr W59).1
  have K61 : Keep h0 h59 [] := K57.wr W59 (Or.inr sz_b47)
  have f62 : Arv Z h59 b29 k29 .char (5 : Int32) [(.int (112 : Int32)), (.int (108 : Int32)), (.int (97 : Int32)), (.int (105 : Int32)), (.int (110 : Int32))] (.int (0 : Int32)) := f58.other W59 (Nat.ne_of_lt (Nat.lt_of_lt_of_le f45.lt geb47))
  obtain ⟨c63, Ar63, q63, S63, M63, Hh63, U63⟩ := id f60
  obtain ⟨T63, h63, X63, e63, W63, st63⟩ := stC X59 hx hZ e59 Ar63 (j := (3 : Int32)) (inb_of S63 ⟨(by decide : ¬ ((3 : Int32) < (0 : Int32))), (by decide : (3 : Int32) < (10 : Int32))⟩) (g := (mkF m 64 #[.val (.int p1), .val (.int (0 : Int32)), .val (.ref b29), .unset, .unset, .unset, .unset, .unset, .unset] [(.int (105 : Int32)), (.int (3 : Int32)), (.ref b47), (.ref b47)])) rfl rfl (hb hby at_64)
  have f64 : Arv Z h63 b47 k47 .char (10 : Int32) [(.int (115 : Int32)), (.int (101 : Int32)), (.int (114 : Int32)), (.int (105 : Int32)), (.int (0 : Int32)), (.int (0 : Int32)), (.int (0 : Int32)), (.int (0 : Int32)), (.int (0 : Int32)), (.int (0 : Int32))] (.int (0 : Int32)) := Arv.set Ar63 q63 S63 M63 Hh63 U63 rfl W63 3 rfl (Nat.le_of_ble_eq_true rfl)
  have N63 := Fr.snoc X63 N59 g_b47
  have O65 : Old Z n0 h63 := O61.wr W63 g_b47
  have Z65 : n0 ≤ h63.size := Nat.le_trans Z61 (Keep.of_wr W63).1
  have K65 : Keep h0 h63 [] := K61.wr W63 (Or.inr sz_b47)
  have f66 : Arv Z h63 b29 k29 .char (5 : Int32) [(.int (112 : Int32)), (.int (108 : Int32)), (.int (97 : Int32)), (.int (105 : Int32)), (.int (110 : Int32))] (.int (0 : Int32)) := f62.other W63 (Nat.ne_of_lt (Nat.lt_of_lt_of_le f45.lt geb47))
  obtain ⟨c67, Ar67, q67, S67, M67, Hh67, U67⟩ := id f64
  obtain ⟨T67, h67, X67, e67, W67, st67⟩ := stC X63 hx hZ e63 Ar67 (j := (4 : Int32)) (inb_of S67 ⟨(by decide : ¬ ((4 : Int32) < (0 : Int32))), (by decide : (4 : Int32) < (10 : Int32))⟩) (g := (mkF m 69 #[.val (.int p1), .val (.int (0 : Int32)), .val (.ref b29), .unset, .unset, .unset, .unset, .unset, .unset] [(.int (97 : Int32)), (.int (4 : Int32)), (.ref b47), (.ref b47)])) rfl rfl (hb hby at_69)
  have f68 : Arv Z h67 b47 k47 .char (10 : Int32) [(.int (115 : Int32)), (.int (101 : Int32)), (.int (114 : Int32)), (.int (105 : Int32)), (.int (97 : Int32)), (.int (0 : Int32)), (.int (0 : Int32)), (.int (0 : Int32)), (.int (0 : Int32)), (.int (0 : Int32))] (.int (0 : Int32)) := Arv.set Ar67 q67 S67 M67 Hh67 U67 rfl W67 4 rfl (Nat.le_of_ble_eq_true rfl)
  have N67 := Fr.snoc X67 N63 g_b47
  have O69 : Old Z n0 h67 := O65.wr W67 g_b47
  have Z69 : n0 ≤ h67.size := Nat.le_trans Z65 (Keep.of_wr W67).1
  have K69 : Keep h0 h67 [] := K65.wr W67 (Or.inr sz_b47)
  have f70 : Arv Z h67 b29 k29 .char (5 : Int32) [(.int (112 : Int32)), (.int (108 : Int32)), (.int (97 : Int32)), (.int (105 : Int32)), (.int (110 : Int32))] (.int (0 : Int32)) := f66.other W67 (Nat.ne_of_lt (Nat.lt_of_lt_of_le f45.lt geb47))
  obtain ⟨c71, Ar71, q71, S71, M71, Hh71, U71⟩ := id f68
  obtain ⟨T71, h71, X71, e71, W71, st71⟩ := stC X67 hx hZ e67 Ar71 (j := (5 : Int32)) (inb_of S71 ⟨(by decide : ¬ ((5 : Int32) < (0 : Int32))), (by decide : (5 : Int32) < (10 : Int32))⟩) (g := (mkF m 74 #[.val (.int p1), .val (.int (0 : Int32)), .val (.ref b29), .unset, .unset, .unset, .unset, .unset, .unset] [(.int (108 : Int32)), (.int (5 : Int32)), (.ref b47), (.ref b47)])) rfl rfl (hb hby at_74)
  have f72 : Arv Z h71 b47 k47 .char (10 : Int32) [(.int (115 : Int32)), (.int (101 : Int32)), (.int (114 : Int32)), (.int (105 : Int32)), (.int (97 : Int32)), (.int (108 : Int32)), (.int (0 : Int32)), (.int (0 : Int32)), (.int (0 : Int32)), (.int (0 : Int32))] (.int (0 : Int32)) := Arv.set Ar71 q71 S71 M71 Hh71 U71 rfl W71 5 rfl (Nat.le_of_ble_eq_true rfl)
  have N71 := Fr.snoc X71 N67 g_b47
  have O73 : Old Z n0 h71 := O69.wr W71 g_b47
  have Z73 : n0 ≤ h71.size := Nat.le_trans Z69 (Keep.of_wr W71).1
  have K73 : Keep h0 h71 [] := K69.wr W71 (Or.inr sz_b47)
  have f74 : Arv Z h71 b29 k29 .char (5 : Int32) [(.int (112 : Int32)), (.int (108 : Int32)), (.int (97 : Int32)), (.int (105 : Int32)), (.int (110 : Int32))] (.int (0 : Int32)) := f70.other W71 (Nat.ne_of_lt (Nat.lt_of_lt_of_le f45.lt geb47))
  obtain ⟨c75, Ar75, q75, S75, M75, Hh75, U75⟩ := id f72
  obtain ⟨T75, h75, X75, e75, W75, st75⟩ := stC X71 hx hZ e71 Ar75 (j := (6 : Int32)) (inb_of S75 ⟨(by decide : ¬ ((6 : Int32) < (0 : Int32))), (by decide : (6 : Int32) < (10 : Int32))⟩) (g := (mkF m 80 #[.val (.int p1), .val (.int (0 : Int32)), .val (.ref b29), .unset, .unset, .unset, .unset, .unset, .unset] [(.int (105 : Int32)), (.int (6 : Int32)), (.ref b47), (.ref b47)])) rfl rfl (hb hby at_80)
  have f76 : Arv Z h75 b47 k47 .char (10 : Int32) [(.int (115 : Int32)), (.int (101 : Int32)), (.int (114 : Int32)), (.int (105 : Int32)), (.int (97 : Int32)), (.int (108 : Int32)), (.int (105 : Int32)), (.int (0 : Int32)), (.int (0 : Int32)), (.int (0 : Int32))] (.int (0 : Int32)) := Arv.set Ar75 q75 S75 M75 Hh75 U75 rfl W75 6 rfl (Nat.le_of_ble_eq_true rfl)
  have N75 := Fr.snoc X75 N71 g_b47
  have O77 : Old Z n0 h75 := O73.wr W75 g_b47
  have Z77 : n0 ≤ h75.size := Nat.le_trans Z73 (Keep.of_wr W75).1
  have K77 : Keep h0 h75 [] := K73.wr W75 (Or.inr sz_b47)
  have f78 : Arv Z h75 b29 k29 .char (5 : Int32) [(.int (112 : Int32)), (.int (108 : Int32)), (.int (97 : Int32)), (.int (105 : Int32)), (.int (110 : Int32))] (.int (0 : Int32)) := f74.other W75 (Nat.ne_of_lt (Nat.lt_of_lt_of_le f45.lt geb47))
  obtain ⟨c79, Ar79, q79, S79, M79, Hh79, U79⟩ := id f76
  obtain ⟨T79, h79, X79, e79, W79, st79⟩ := stC X75 hx hZ e75 Ar79 (j := (7 : Int32)) (inb_of S79 ⟨(by decide : ¬ ((7 : Int32) < (0 : Int32))), (by decide : (7 : Int32) < (10 : Int32))⟩) (g := (mkF m 86 #[.val (.int p1), .val (.int (0 : Int32)), .val (.ref b29), .unset, .unset, .unset, .unset, .unset, .unset] [(.int (122 : Int32)), (.int (7 : Int32)), (.ref b47), (.ref b47)])) rfl rfl (hb hby at_86)
  have f80 : Arv Z h79 b47 k47 .char (10 : Int32) [(.int (115 : Int32)), (.int (101 : Int32)), (.int (114 : Int32)), (.int (105 : Int32)), (.int (97 : Int32)), (.int (108 : Int32)), (.int (105 : Int32)), (.int (122 : Int32)), (.int (0 : Int32)), (.int (0 : Int32))] (.int (0 : Int32)) := Arv.set Ar79 q79 S79 M79 Hh79 U79 rfl W79 7 rfl (Nat.le_of_ble_eq_true rfl)
  have N79 := Fr.snoc X79 N75 g_b47
  have O81 : Old Z n0 h79 := O77.wr W79 g_b47
  have Z81 : n0 ≤ h79.size := Nat.le_trans Z77 (Keep.of_wr W79).1
  have K81 : Keep h0 h79 [] := K77.wr W79 (Or.inr sz_b47)
  have f82 : Arv Z h79 b29 k29 .char (5 : Int32) [(.int (112 : Int32)), (.int (108 : Int32)), (.int (97 : Int32)), (.int (105 : Int32)), (.int (110 : Int32))] (.int (0 : Int32)) := f78.other W79 (Nat.ne_of_lt (Nat.lt_of_lt_of_le f45.lt geb47))
  obtain ⟨c83, Ar83, q83, S83, M83, Hh83, U83⟩ := id f80
  obtain ⟨T83, h83, X83, e83, W83, st83⟩ := stC X79 hx hZ e79 Ar83 (j := (8 : Int32)) (inb_of S83 ⟨(by decide : ¬ ((8 : Int32) < (0 : Int32))), (by decide : (8 : Int32) < (10 : Int32))⟩) (g := (mkF m 92 #[.val (.int p1), .val (.int (0 : Int32)), .val (.ref b29), .unset, .unset, .unset, .unset, .unset, .unset] [(.int (101 : Int32)), (.int (8 : Int32)), (.ref b47), (.ref b47)])) rfl rfl (hb hby at_92)
  have f84 : Arv Z h83 b47 k47 .char (10 : Int32) [(.int (115 : Int32)), (.int (101 : Int32)), (.int (114 : Int32)), (.int (105 : Int32)), (.int (97 : Int32)), (.int (108 : Int32)), (.int (105 : Int32)), (.int (122 : Int32)), (.int (101 : Int32)), (.int (0 : Int32))] (.int (0 : Int32)) := Arv.set Ar83 q83 S83 M83 Hh83 U83 rfl W83 8 rfl (Nat.le_of_ble_eq_true rfl)
  have N83 := Fr.snoc X83 N79 g_b47
  have O85 : Old Z n0 h83 := O81.wr W83 g_b47
  have Z85 : n0 ≤ h83.size := Nat.le_trans Z81 (Keep.of_wr W83).1
  have K85 : Keep h0 h83 [] := K81.wr W83 (Or.inr sz_b47)
  have f86 : Arv Z h83 b29 k29 .char (5 : Int32) [(.int (112 : Int32)), (.int (108 : Int32)), (.int (97 : Int32)), (.int (105 : Int32)), (.int (110 : Int32))] (.int (0 : Int32)) := f82.other W83 (Nat.ne_of_lt (Nat.lt_of_lt_of_le f45.lt geb47))
  obtain ⟨c87, Ar87, q87, S87, M87, Hh87, U87⟩ := id f84
  obtain ⟨T87, h87, X87, e87, W87, st87⟩ := stC X83 hx hZ e83 Ar87 (j := (9 : Int32)) (inb_of S87 ⟨(by decide : ¬ ((9 : Int32) < (0 : Int32))), (by decide : (9 : Int32) < (10 : Int32))⟩) (g := (mkF m 98 #[.val (.int p1), .val (.int (0 : Int32)), .val (.ref b29), .unset, .unset, .unset, .unset, .unset, .unset] [(.int (100 : Int32)), (.int (9 : Int32)), (.ref b47), (.ref b47)])) rfl rfl (hb hby at_98)
  have f88 : Arv Z h87 b47 k47 .char (10 : Int32) [(.int (115 : Int32)), (.int (101 : Int32)), (.int (114 : Int32)), (.int (105 : Int32)), (.int (97 : Int32)), (.int (108 : Int32)), (.int (105 : Int32)), (.int (122 : Int32)), (.int (101 : Int32)), (.int (100 : Int32))] (.int (0 : Int32)) := Arv.set Ar87 q87 S87 M87 Hh87 U87 rfl W87 9 rfl (Nat.le_of_ble_eq_true rfl)
  have N87 := Fr.snoc X87 N83 g_b47
  have O89 : Old Z n0 h87 := O85.wr W87 g_b47
  have Z89 : n0 ≤ h87.size := Nat.le_trans Z85 (Keep.of_wr W87).1
  have K89 : Keep h0 h87 [] := K85.wr W87 (Or.inr sz_b47)
  have f90 : Arv Z h87 b29 k29 .char (5 : Int32) [(.int (112 : Int32)), (.int (108 : Int32)), (.int (97 : Int32)), (.int (105 : Int32)), (.int (110 : Int32))] (.int (0 : Int32)) := f86.other W87 (Nat.ne_of_lt (Nat.lt_of_lt_of_le f45.lt geb47))
  obtain ⟨T91, h91, X91, e91, E91, A91, D91, -, st91⟩ := newO X87 hx hZ hown (hw _ (List.mem_of_getElem? (i := 1) rfl)) (hw _ (List.mem_of_getElem? (i := 2) rfl)) (hw _ (List.mem_of_getElem? (i := 3) rfl)) e87 (g := (mkF m 115 #[.val (.int p1), .val (.int (0 : Int32)), .val (.ref b29), .val (.ref b47), .unset, .unset, .unset, .unset, .unset] [])) rfl (hb hby at_115) (by decide) (by decide)
  obtain ⟨b91, g91⟩ : ∃ z, z = h87.size := ⟨_, rfl⟩
  rw [← g91] at A91 D91 st91
  have geb91 : h87.size ≤ b91 := Nat.le_of_eq g91.symm
  have g_b91 : n0 ≤ b91 := Nat.le_trans Z89 geb91
  have sz_b91 : h0.size ≤ b91 := Nat.le_trans K89.1 geb91
  have O92 : Old Z n0 h91 := O89.ext E91
  have Z92 : n0 ≤ h91.size := Nat.le_trans Z89 E91.1
  have K92 : Keep h0 h91 [] := K89.ext E91
  have f93 : Arv Z h91 b29 k29 .char (5 : Int32) [(.int (112 : Int32)), (.int (108 : Int32)), (.int (97 : Int32)), (.int (105 : Int32)), (.int (110 : Int32))] (.int (0 : Int32)) := f90.ext E91
  have f94 : Arv Z h91 b47 k47 .char (10 : Int32) [(.int (115 : Int32)), (.int (101 : Int32)), (.int (114 : Int32)), (.int (105 : Int32)), (.int (97 : Int32)), (.int (108 : Int32)), (.int (105 : Int32)), (.int (122 : Int32)), (.int (101 : Int32)), (.int (100 : Int32))] (.int (0 : Int32)) := f88.ext E91
  have f95 : Fld Z h91 b91 "java/lang/String" "coder" "B" (.int (0 : Int32)) := D91 (Or.inr (hw _ (List.mem_of_getElem? (i := 27) rfl))) (ty := .byte) (by decide)
  have f96 : Fld Z h91 b91 "java/lang/String" "value" "[B" .null := D91 (Or.inr (hw _ (List.mem_of_getElem? (i := 29) rfl))) (ty := (.array .byte)) (by decide)
  have hws : ∀ d ∈ StrChars.Road.words, d.before a0 Z = true := fun d hd => hw d ((by decide +kernel : ∀ d ∈ StrChars.Road.words, d ∈ tables_1) d hd)
  have hp97 : ∀ c ∈ ([(112 : Int32), (108 : Int32), (97 : Int32), (105 : Int32), (110 : Int32)] : List Int32), ¬ c < 0 ∧ ¬ (255 : Int32) < c := by
    decide
  obtain ⟨_, _, ⟨T98, L98, k98, n98⟩, -, X98, ⟨Lc98, hQ98, l98, y98, z98⟩, st98⟩ := X91.specialBack hx (y := (⟨"java/lang/String", "<init>", "([C)V"⟩ : MethodName)) rfl hown (mvT hZ (hw _ (List.mem_of_getElem? (i := 4) rfl))) (mvT hZ (hw _ (List.mem_of_getElem? (i := 5) rfl))) (mvT hZ (hw _ (List.mem_of_getElem? (i := 6) rfl))) (by decide) (StrChars.Road.backV (W := 1) hZ hws (kI := 4) (hw _ (List.mem_of_getElem? (i := 2) rfl)) (cs := ([(112 : Int32), (108 : Int32), (97 : Int32), (105 : Int32), (110 : Int32)] : List Int32)) (bs := (([(112 : Int32), (108 : Int32), (97 : Int32), (105 : Int32), (110 : Int32)] : List Int32)).map (fun c => c.toInt8.toInt32)) (n := 5) g_b91 Z92 A91 f96 f95 f93 (OC2.ext O92.2) OCz rfl rfl (by decide) (by decide) hp97 rfl (by decide) (by decide)) (g := (mkF m 120 #[.val (.int p1), .val (.int (0 : Int32)), .val (.ref b29), .val (.ref b47), .unset, .unset, .unset, .unset, .unset] [(.ref b29), (.ref b91), (.ref b91)])) rfl (by rw [hml]; rfl) (Steps.refl _) (a := b91) (argsL := [(.ref b29)]) (rest := [(.ref b91)]) (lenOf pd___C_V rfl) rfl (by show 2 * 0 + _ ≤ _; exact Nat.le_of_eq rfl) (hb hby at_120) (fun _ _ => ⟨rfl, e91, (by decide : 3 + 1 ≤ _), (by decide : 19 + 5 ≤ _)⟩)
  dsimp only [Pt.U, Pt.locs, Pt.cells, Pt.slots] at X98 l98 y98 z98 st98 hQ98
  subst l98 y98 z98
  obtain ⟨rfl, N98q, K98k, g198, g298, t98, kb98, u198, u298, u398, g398, g498⟩ := hQ98
  have N98 := Fr.app N87 N98q
  have O99 : Old Z n0 T98.heap := O92.keep K98k (allS g_b91 all0)
  have Z99 : n0 ≤ T98.heap.size := Nat.le_trans Z92 K98k.1
  have K99 : Keep h0 T98.heap [] := K92.trans K98k (allS (Or.inr sz_b91) all0)
  have f100 : Arv Z T98.heap b29 k29 .char (5 : Int32) [(.int (112 : Int32)), (.int (108 : Int32)), (.int (97 : Int32)), (.int (105 : Int32)), (.int (110 : Int32))] (.int (0 : Int32)) := f93.keep K98k (ninS (Nat.ne_of_lt (Nat.lt_of_lt_of_le f90.lt geb91)) nin0)
  have f101 : Arv Z T98.heap b47 k47 .char (10 : Int32) [(.int (115 : Int32)), (.int (101 : Int32)), (.int (114 : Int32)), (.int (105 : Int32)), (.int (97 : Int32)), (.int (108 : Int32)), (.int (105 : Int32)), (.int (122 : Int32)), (.int (101 : Int32)), (.int (100 : Int32))] (.int (0 : Int32)) := f94.keep K98k (ninS (Nat.ne_of_lt (Nat.lt_of_lt_of_le f88.lt geb91)) nin0)
  have f102 : Exa Z T98.heap b91 "java/lang/String" := A91.keep K98k
  have sz_t98 : h0.size ≤ t98 := Nat.le_trans K92.1 u298
  obtain ⟨T103, X103, e103, st103⟩ := getS2 X98 hx hZ hown (host := "") (Or.inl (hw _ (List.mem_of_getElem? (i := 30) rfl))) Via.refl rfl (SO0.ext O99.2) (g := (mkF m 135 #[.val (.int p1), .val (.int (0 : Int32)), .val (.ref b29), .val (.ref b47), .val (.ref b91), .unset, .unset, .unset, .unset] [])) rfl (hb hby at_135)
  obtain ⟨_, _, ⟨T104, L104, k104, n104⟩, -, X104, ⟨Lc104, hQ104, l104, y104, z104⟩, st104⟩ := Jvm.LawKit.callS X103 hx (y := (⟨"holdfast/redis/IndexMemberEncoding", "ofSettingValue", "(Ljava/lang/String;)Lholdfast/redis/IndexMemberEncoding;"⟩ : MethodName)) hown (mvT hZ (hw _ (List.mem_of_getElem? (i := 33) rfl))) (mvT hZ (hw _ (List.mem_of_getElem? (i := 34) rfl))) (mvT hZ (hw _ (List.mem_of_getElem? (i := 31) rfl))) (mvT hZ (hw _ (List.mem_of_getElem? (i := 35) rfl))) (by decide) (backOf (W := 0) (rmParse0 l Z a0 hw [] va v0 w0 y0 v1 w1 y1 kv k0b k1b GC b91 t98 kb98 T98.heap n0 O99 SV EV AV SO0 EO0 FO0 EW0 CW0 VW0 AW0 SO1 EO1 FO1 EW1 CW1 VW1 AW1 OC2 OCz g198 g298 g398 g498) hZ (hw _ (List.mem_of_getElem? (i := 35) rfl)) (hw _ (List.mem_of_getElem? (i := 31) rfl)) (by decide) (by decide)) (g := (mkF m 142 #[.val (.int p1), .val (.int (0 : Int32)), .val (.ref b29), .val (.ref b47), .val (.ref b91), .val (.ref v0), .unset, .unset, .unset] [(.ref b91)])) rfl (by rw [hml]; rfl) (argsL := [(.ref b91)]) (rest := []) (lenOf pd__Ljava_lang_String__Lholdfast_redis_IndexMemberEncoding_ rfl) rfl (by show 2 * 0 + _ ≤ _; exact Nat.le_of_eq rfl) (hb hby at_142) (fun _ _ => ⟨rfl, e103, (by decide : 4 + 1 ≤ _), (by decide : 24 + 2 ≤ _)⟩)
  dsimp only [Pt.U, Pt.locs, Pt.cells, Pt.slots] at X104 l104 y104 z104 st104 hQ104
  subst l104 y104 z104
  obtain ⟨rfl, N104q, K104k⟩ := hQ104
  have N104 := Fr.app N98 N104q
  have O105 : Old Z n0 T104.heap := O99.keep K104k all0
  have Z105 : n0 ≤ T104.heap.size := Nat.le_trans Z99 K104k.1
  have K105 : Keep h0 T104.heap [] := K99.trans K104k all0
  have f106 : Arv Z T104.heap b29 k29 .char (5 : Int32) [(.int (112 : Int32)), (.int (108 : Int32)), (.int (97 : Int32)), (.int (105 : Int32)), (.int (110 : Int32))] (.int (0 : Int32)) := f100.keep K104k nin0
  have f107 : Arv Z T104.heap b47 k47 .char (10 : Int32) [(.int (115 : Int32)), (.int (101 : Int32)), (.int (114 : Int32)), (.int (105 : Int32)), (.int (97 : Int32)), (.int (108 : Int32)), (.int (105 : Int32)), (.int (122 : Int32)), (.int (101 : Int32)), (.int (100 : Int32))] (.int (0 : Int32)) := f101.keep K104k nin0
  have f108 : Exa Z T104.heap b91 "java/lang/String" := g198.keep K104k
  have f109 : Fld Z T104.heap b91 "java/lang/String" "coder" "B" (.int 0) := g298.keep K104k nin0
  have f110 : Fld Z T104.heap b91 "java/lang/String" "value" "[B" (.ref t98) := g398.keep K104k nin0
  have f111 : Arv Z T104.heap t98 kb98 .byte (5 : Int32) (((([(112 : Int32), (108 : Int32), (97 : Int32), (105 : Int32), (110 : Int32)] : List Int32)).map (fun c => c.toInt8.toInt32)).map Value.int) (.int 0) := g498.keep K104k nin0
  obtain ⟨cq112, kq112, qa112, qb112, qc112⟩ := isOf hZ rfl (EO0.ext O105.2)
  obtain ⟨_, _, ⟨T112, L112, k112, n112⟩, -, X112, ⟨Lc112, hQ112, l112, y112, z112⟩, st112⟩ := X104.virtualBack hx (y := (⟨"holdfast/redis/IndexMemberEncoding", "settingValue", "()Ljava/lang/String;"⟩ : MethodName)) (z := (⟨"holdfast/redis/IndexMemberEncoding", "settingValue", "()Ljava/lang/String;"⟩ : MethodName)) hown (mvT hZ (hw _ (List.mem_of_getElem? (i := 64) rfl))) (mvT hZ (hw _ (List.mem_of_getElem? (i := 65) rfl))) (notFace_of_selects (args := #[]) (mvT hZ (hw _ (List.mem_of_getElem? (i := 67) rfl)))) (mvT hZ (hw _ (List.mem_of_getElem? (i := 67) rfl))) (mvT hZ (hw _ (List.mem_of_getElem? (i := 66) rfl))) (by decide) (backOf (W := 0) (rmGet l Z a0 hw [] v0 w0 T104.heap n0 O105 (FO0.ext O105.2)) hZ (hw _ (List.mem_of_getElem? (i := 68) rfl)) (hw _ (List.mem_of_getElem? (i := 31) rfl)) (by decide) (by decide)) qa112 qc112 (g := (mkF m 149 #[.val (.int p1), .val (.int (0 : Int32)), .val (.ref b29), .val (.ref b47), .val (.ref b91), .val (.ref v0), .val (.ref v0), .unset, .unset] [(.ref v0)])) rfl (by rw [hml]; rfl) (Steps.refl _) (argsL := []) (rest := []) (lenOf pd___Ljava_lang_String_ rfl) rfl (by show 2 * 0 + _ ≤ _; exact Nat.le_of_eq rfl) (hb hby at_149) (fun _ _ => ⟨rfl, rfl, (by decide : 5 + 0 ≤ _), (by decide : 26 + 0 ≤ _)⟩)
  dsimp only [Pt.U, Pt.locs, Pt.cells, Pt.slots] at X112 l112 y112 z112 st112 hQ112
  subst l112 y112 z112
  obtain ⟨rfl, N112q, e112⟩ := hQ112
  have N112 := Fr.app N104 N112q
  obtain ⟨_, _, ⟨T113, L113, k113, n113⟩, -, X113, ⟨Lc113, hQ113, l113, y113, z113⟩, st113⟩ := Jvm.LawKit.callS X112 hx (y := (⟨"holdfast/redis/IndexMemberEncoding", "ofSettingValue", "(Ljava/lang/String;)Lholdfast/redis/IndexMemberEncoding;"⟩ : MethodName)) hown (mvT hZ (hw _ (List.mem_of_getElem? (i := 33) rfl))) (mvT hZ (hw _ (List.mem_of_getElem? (i := 34) rfl))) (mvT hZ (hw _ (List.mem_of_getElem? (i := 31) rfl))) (mvT hZ (hw _ (List.mem_of_getElem? (i := 35) rfl))) (by decide) (backOf (W := 0) (rmParse0 l Z a0 hw [] va v0 w0 y0 v1 w1 y1 kv k0b k1b GC w0 y0 k0b T104.heap n0 O105 SV EV AV SO0 EO0 FO0 EW0 CW0 VW0 AW0 SO1 EO1 FO1 EW1 CW1 VW1 AW1 OC2 OCz (EW0.ext O105.2) (CW0.ext O105.2) (VW0.ext O105.2) (AW0.ext O105.2)) hZ (hw _ (List.mem_of_getElem? (i := 35) rfl)) (hw _ (List.mem_of_getElem? (i := 31) rfl)) (by decide) (by decide)) (g := (mkF m 156 #[.val (.int p1), .val (.int (0 : Int32)), .val (.ref b29), .val (.ref b47), .val (.ref b91), .val (.ref v0), .val (.ref v0), .val (.ref w0), .unset] [(.ref w0)])) rfl (by rw [hml]; rfl) (argsL := [(.ref w0)]) (rest := []) (lenOf pd__Ljava_lang_String__Lholdfast_redis_IndexMemberEncoding_ rfl) rfl (by show 2 * 0 + _ ≤ _; exact Nat.le_of_eq rfl) (hb hby at_156) (fun _ _ => ⟨rfl, e112, (by decide : 5 + 1 ≤ _), (by decide : 26 + 2 ≤ _)⟩)
  dsimp only [Pt.U, Pt.locs, Pt.cells, Pt.slots] at X113 l113 y113 z113 st113 hQ113
  subst l113 y113 z113
  obtain ⟨rfl, N113q, K113k⟩ := hQ113
  have N113 := Fr.app N112 N113q
  have O114 : Old Z n0 T113.heap := O105.keep K113k all0
  have Z114 : n0 ≤ T113.heap.size := Nat.le_trans Z105 K113k.1
  have K114 : Keep h0 T113.heap [] := K105.trans K113k all0
  have f115 : Arv Z T113.heap b29 k29 .char (5 : Int32) [(.int (112 : Int32)), (.int (108 : Int32)), (.int (97 : Int32)), (.int (105 : Int32)), (.int (110 : Int32))] (.int (0 : Int32)) := f106.keep K113k nin0
  have f116 : Arv Z T113.heap b47 k47 .char (10 : Int32) [(.int (115 : Int32)), (.int (101 : Int32)), (.int (114 : Int32)), (.int (105 : Int32)), (.int (97 : Int32)), (.int (108 : Int32)), (.int (105 : Int32)), (.int (122 : Int32)), (.int (101 : Int32)), (.int (100 : Int32))] (.int (0 : Int32)) := f107.keep K113k nin0
  have f117 : Exa Z T113.heap b91 "java/lang/String" := f108.keep K113k
  have f118 : Fld Z T113.heap b91 "java/lang/String" "coder" "B" (.int 0) := f109.keep K113k nin0
  have f119 : Fld Z T113.heap b91 "java/lang/String" "value" "[B" (.ref t98) := f110.keep K113k nin0
  have f120 : Arv Z T113.heap t98 kb98 .byte (5 : Int32) (((([(112 : Int32), (108 : Int32), (97 : Int32), (105 : Int32), (110 : Int32)] : List Int32)).map (fun c => c.toInt8.toInt32)).map Value.int) (.int 0) := f111.keep K113k nin0
  have heq : ∀ d ∈ StrChars.Road.wordsEq, d.before a0 Z = true := fun d hd => hw d ((by decide +kernel : ∀ d ∈ StrChars.Road.wordsEq, d ∈ tables_1) d hd)
  obtain ⟨cq121, kq121, qa121, qb121, qc121⟩ := isOf hZ rfl (EW0.ext O114.2)
  obtain ⟨_, _, ⟨T121, L121, k121, n121⟩, -, X121, ⟨Lc121, hQ121, l121, y121, z121⟩, st121⟩ := X113.virtualBack hx (y := (⟨"java/lang/String", "equals", "(Ljava/lang/Object;)Z"⟩ : MethodName)) (z := (⟨"java/lang/String", "equals", "(Ljava/lang/Object;)Z"⟩ : MethodName)) hown (mvT hZ (hw _ (List.mem_of_getElem? (i := 69) rfl))) (mvT hZ (hw _ (List.mem_of_getElem? (i := 55) rfl))) (notFace_of_selects (args := #[]) (mvT hZ (hw _ (List.mem_of_getElem? (i := 57) rfl)))) (mvT hZ (hw _ (List.mem_of_getElem? (i := 57) rfl))) (mvT hZ (hw _ (List.mem_of_getElem? (i := 56) rfl))) (by decide) (StrChars.Road.eqW (W := 0) hZ heq (kI := 4) (hw _ (List.mem_of_getElem? (i := 2) rfl)) (EW0.ext O114.2) (VW0.ext O114.2) (CW0.ext O114.2) (AW0.ext O114.2) own_cod0 own_lat0 own_len0 f117 f119 f118 f120 own_codT0 own_lat0 own_len0 (OC2.ext O114.2) OCz (by decide) (by decide)) qa121 qc121 (g := (mkF m 179 #[.val (.int p1), .val (.int (0 : Int32)), .val (.ref b29), .val (.ref b47), .val (.ref b91), .val (.ref v0), .val (.ref v0), .val (.ref w0), .val (.ref v0)] [(.ref b91), (.ref w0)])) rfl (by rw [hml]; rfl) (Steps.refl _) (argsL := [(.ref b91)]) (rest := []) (lenOf pd__Ljava_lang_Object__Z rfl) rfl (by show 2 * 0 + _ ≤ _; exact Nat.le_of_eq rfl) (hb hby at_179) (fun _ _ => ⟨rfl, rfl, (by decide : 6 + 0 ≤ _), (by decide : 28 + 0 ≤ _)⟩)
  dsimp only [Pt.U, Pt.locs, Pt.cells, Pt.slots] at X121 l121 y121 z121 st121 hQ121
  subst l121 y121 z121
  obtain ⟨hd121, rfl, e121⟩ := hQ121
  obtain ⟨rfl, -⟩ := hd121.resolve_right (fun q => q.2 rfl)
  have N121q : Fr n0 ([] : List Loc) := Fr.nil n0
  have N121 := Fr.app N113 N121q
  obtain ⟨fs, hr, hrun, hended, hW, hsame⟩ := X121.leave (v := some (.int (1 : Int32))) (fun h => by rw [Bd.returns] at h; cases h)
  refine ⟨_, _, pre0 _ ?_, hrun, hended, _, _, rfl, ?_, ⟨_, rfl⟩, hW, hsame.mono (by decide) (by decide)⟩
  · show Steps p.tables e below (s₁.setTop (mkF m 0 #[.val (.int p1), .unset, .unset, .unset, .unset, .unset, .unset, .unset, .unset] [])) _
    refine XS.iloadN X0.here hx rfl (hb hby at_0) rfl ?_
    show Steps p.tables e below (s₁.setTop (mkF m 1 #[.val (.int p1), .unset, .unset, .unset, .unset, .unset, .unset, .unset, .unset] [(.int p1)])) _
    refine XS.iconst X0.here hx rfl (hb hby at_1) ?_
    show Steps p.tables e below (s₁.setTop (mkF m 2 #[.val (.int p1), .unset, .unset, .unset, .unset, .unset, .unset, .unset, .unset] [(.int (1 : Int32)), (.int p1)])) _
    refine XS.iand X0.here hx rfl (hb hby at_2) rfl ?_
    show Steps p.tables e below (s₁.setTop (mkF m 3 #[.val (.int p1), .unset, .unset, .unset, .unset, .unset, .unset, .unset, .unset] [(.int (p1 &&& (1 : Int32)))])) _
    refine XS.ifYes X0.here hx rfl (pc0 := 3) (pc' := 10) rfl (hb hby at_3) rfl ((if0 _ _).trans (teq (hbit : (p1 &&& (1 : Int32)) = (0 : Int32))).1) (by decide) (by decide) ?_
    show Steps p.tables e below (s₁.setTop (mkF m 10 #[.val (.int p1), .unset, .unset, .unset, .unset, .unset, .unset, .unset, .unset] [])) _
    refine XS.iconst X0.here hx rfl (hb hby at_10) ?_
    show Steps p.tables e below (s₁.setTop (mkF m 11 #[.val (.int p1), .unset, .unset, .unset, .unset, .unset, .unset, .unset, .unset] [(.int (0 : Int32))])) _
    refine XS.istoreN X0.here hx rfl (hb hby at_11) rfl (l' := #[.val (.int p1), .val (.int (0 : Int32)), .unset, .unset, .unset, .unset, .unset, .unset, .unset]) rfl ?_
    show Steps p.tables e below (s₁.setTop (mkF m 12 #[.val (.int p1), .val (.int (0 : Int32)), .unset, .unset, .unset, .unset, .unset, .unset, .unset] [])) _
    refine XS.iconst X0.here hx rfl (hb hby at_12) ?_
    show Steps p.tables e below (s₁.setTop (mkF m 13 #[.val (.int p1), .val (.int (0 : Int32)), .unset, .unset, .unset, .unset, .unset, .unset, .unset] [(.int (5 : Int32))])) _
    refine st29 _ ?_
    show Steps p.tables e below (T29.setTop (mkF m 15 #[.val (.int p1), .val (.int (0 : Int32)), .unset, .unset, .unset, .unset, .unset, .unset, .unset] [(.ref b29)])) _
    refine XS.dup X29.here hx rfl (hb hby at_15) rfl rfl ?_
    show Steps p.tables e below (T29.setTop (mkF m 16 #[.val (.int p1), .val (.int (0 : Int32)), .unset, .unset, .unset, .unset, .unset, .unset, .unset] [(.ref b29), (.ref b29)])) _
    refine XS.iconst X29.here hx rfl (hb hby at_16) ?_
    show Steps p.tables e below (T29.setTop (mkF m 17 #[.val (.int p1), .val (.int (0 : Int32)), .unset, .unset, .unset, .unset, .unset, .unset, .unset] [(.int (0 : Int32)), (.ref b29), (.ref b29)])) _
    refine XS.bipush X29.here hx rfl (hb hby at_17) ?_
    show Steps p.tables e below (T29.setTop (mkF m 19 #[.val (.int p1), .val (.int (0 : Int32)), .unset, .unset, .unset, .unset, .unset, .unset, .unset] [(.int (112 : Int32)), (.int (0 : Int32)), (.ref b29), (.ref b29)])) _
    refine st32 _ ?_
    show Steps p.tables e below (T32.setTop (mkF m 20 #[.val (.int p1), .val (.int (0 : Int32)), .unset, .unset, .unset, .unset, .unset, .unset, .unset] [(.ref b29)])) _
    refine XS.dup X32.here hx rfl (hb hby at_20) rfl rfl ?_
    show Steps p.tables e below (T32.setTop (mkF m 21 #[.val (.int p1), .val (.int (0 : Int32)), .unset, .unset, .unset, .unset, .unset, .unset, .unset] [(.ref b29), (.ref b29)])) _
    refine XS.iconst X32.here hx rfl (hb hby at_21) ?_
    show Steps p.tables e below (T32.setTop (mkF m 22 #[.val (.int p1), .val (.int (0 : Int32)), .unset, .unset, .unset, .unset, .unset, .unset, .unset] [(.int (1 : Int32)), (.ref b29), (.ref b29)])) _
    refine XS.bipush X32.here hx rfl (hb hby at_22) ?_
    show Steps p.tables e below (T32.setTop (mkF m 24 #[.val (.int p1), .val (.int (0 : Int32)), .unset, .unset, .unset, .unset, .unset, .unset, .unset] [(.int (108 : Int32)), (.int (1 : Int32)), (.ref b29), (.ref b29)])) _
    refine st35 _ ?_
    show Steps p.tables e below (T35.setTop (mkF m 25 #[.val (.int p1), .val (.int (0 : Int32)), .unset, .unset, .unset, .unset, .unset, .unset, .unset] [(.ref b29)])) _
    refine XS.dup X35.here hx rfl (hb hby at_25) rfl rfl ?_
    show Steps p.tables e below (T35.setTop (mkF m 26 #[.val (.int p1), .val (.int (0 : Int32)), .unset, .unset, .unset, .unset, .unset, .unset, .unset] [(.ref b29), (.ref b29)])) _
    refine XS.iconst X35.here hx rfl (hb hby at_26) ?_
    show Steps p.tables e below (T35.setTop (mkF m 27 #[.val (.int p1), .val (.int (0 : Int32)), .unset, .unset, .unset, .unset, .unset, .unset, .unset] [(.int (2 : Int32)), (.ref b29), (.ref b29)])) _
    refine XS.bipush X35.here hx rfl (hb hby at_27) ?_
    show Steps p.tables e below (T35.setTop (mkF m 29 #[.val (.int p1), .val (.int (0 : Int32)), .unset, .unset, .unset, .unset, .unset, .unset, .unset] [(.int (97 : Int32)), (.int (2 : Int32)), (.ref b29), (.ref b29)])) _
    refine st38 _ ?_
    show Steps p.tables e below (T38.setTop (mkF m 30 #[.val (.int p1), .val (.int (0 : Int32)), .unset, .unset, .unset, .unset, .unset, .unset, .unset] [(.ref b29)])) _
    refine XS.dup X38.here hx rfl (hb hby at_30) rfl rfl ?_
    show Steps p.tables e below (T38.setTop (mkF m 31 #[.val (.int p1), .val (.int (0 : Int32)), .unset, .unset, .unset, .unset, .unset, .unset, .unset] [(.ref b29), (.ref b29)])) _
    refine XS.iconst X38.here hx rfl (hb hby at_31) ?_
    show Steps p.tables e below (T38.setTop (mkF m 32 #[.val (.int p1), .val (.int (0 : Int32)), .unset, .unset, .unset, .unset, .unset, .unset, .unset] [(.int (3 : Int32)), (.ref b29), (.ref b29)])) _
    refine XS.bipush X38.here hx rfl (hb hby at_32) ?_
    show Steps p.tables e below (T38.setTop (mkF m 34 #[.val (.int p1), .val (.int (0 : Int32)), .unset, .unset, .unset, .unset, .unset, .unset, .unset] [(.int (105 : Int32)), (.int (3 : Int32)), (.ref b29), (.ref b29)])) _
    refine st41 _ ?_
    show Steps p.tables e below (T41.setTop (mkF m 35 #[.val (.int p1), .val (.int (0 : Int32)), .unset, .unset, .unset, .unset, .unset, .unset, .unset] [(.ref b29)])) _
    refine XS.dup X41.here hx rfl (hb hby at_35) rfl rfl ?_
    show Steps p.tables e below (T41.setTop (mkF m 36 #[.val (.int p1), .val (.int (0 : Int32)), .unset, .unset, .unset, .unset, .unset, .unset, .unset] [(.ref b29), (.ref b29)])) _
    refine XS.iconst X41.here hx rfl (hb hby at_36) ?_
    show Steps p.tables e below (T41.setTop (mkF m 37 #[.val (.int p1), .val (.int (0 : Int32)), .unset, .unset, .unset, .unset, .unset, .unset, .unset] [(.int (4 : Int32)), (.ref b29), (.ref b29)])) _
    refine XS.bipush X41.here hx rfl (hb hby at_37) ?_
    show Steps p.tables e below (T41.setTop (mkF m 39 #[.val (.int p1), .val (.int (0 : Int32)), .unset, .unset, .unset, .unset, .unset, .unset, .unset] [(.int (110 : Int32)), (.int (4 : Int32)), (.ref b29), (.ref b29)])) _
    refine st44 _ ?_
    show Steps p.tables e below (T44.setTop (mkF m 40 #[.val (.int p1), .val (.int (0 : Int32)), .unset, .unset, .unset, .unset, .unset, .unset, .unset] [(.ref b29)])) _
    refine XS.astoreN X44.here hx rfl (hb hby at_40) rfl rfl (l' := #[.val (.int p1), .val (.int (0 : Int32)), .val (.ref b29), .unset, .unset, .unset, .unset, .unset, .unset]) rfl ?_
    show Steps p.tables e below (T44.setTop (mkF m 41 #[.val (.int p1), .val (.int (0 : Int32)), .val (.ref b29), .unset, .unset, .unset, .unset, .unset, .unset] [])) _
    refine XS.bipush X44.here hx rfl (hb hby at_41) ?_
    show Steps p.tables e below (T44.setTop (mkF m 43 #[.val (.int p1), .val (.int (0 : Int32)), .val (.ref b29), .unset, .unset, .unset, .unset, .unset, .unset] [(.int (10 : Int32))])) _
    refine st47 _ ?_
    show Steps p.tables e below (T47.setTop (mkF m 45 #[.val (.int p1), .val (.int (0 : Int32)), .val (.ref b29), .unset, .unset, .unset, .unset, .unset, .unset] [(.ref b47)])) _
    refine XS.dup X47.here hx rfl (hb hby at_45) rfl rfl ?_
    show Steps p.tables e below (T47.setTop (mkF m 46 #[.val (.int p1), .val (.int (0 : Int32)), .val (.ref b29), .unset, .unset, .unset, .unset, .unset, .unset] [(.ref b47), (.ref b47)])) _
    refine XS.iconst X47.here hx rfl (hb hby at_46) ?_
    show Steps p.tables e below (T47.setTop (mkF m 47 #[.val (.int p1), .val (.int (0 : Int32)), .val (.ref b29), .unset, .unset, .unset, .unset, .unset, .unset] [(.int (0 : Int32)), (.ref b47), (.ref b47)])) _
    refine XS.bipush X47.here hx rfl (hb hby at_47) ?_
    show Steps p.tables e below (T47.setTop (mkF m 49 #[.val (.int p1), .val (.int (0 : Int32)), .val (.ref b29), .unset, .unset, .unset, .unset, .unset, .unset] [(.int (115 : Int32)), (.int (0 : Int32)), (.ref b47), (.ref b47)])) _
    refine st51 _ ?_
    show Steps p.tables e below (T51.setTop (mkF m 50 #[.val (.int p1), .val (.int (0 : Int32)), .val (.ref b29), .unset, .unset, .unset, .unset, .unset, .unset] [(.ref b47)])) _
    refine XS.dup X51.here hx rfl (hb hby at_50) rfl rfl ?_
    show Steps p.tables e below (T51.setTop (mkF m 51 #[.val (.int p1), .val (.int (0 : Int32)), .val (.ref b29), .unset, .unset, .unset, .unset, .unset, .unset] [(.ref b47), (.ref b47)])) _
    refine XS.iconst X51.here hx rfl (hb hby at_51) ?_
    show Steps p.tables e below (T51.setTop (mkF m 52 #[.val (.int p1), .val (.int (0 : Int32)), .val (.ref b29), .unset, .unset, .unset, .unset, .unset, .unset] [(.int (1 : Int32)), (.ref b47), (.ref b47)])) _
    refine XS.bipush X51.here hx rfl (hb hby at_52) ?_
    show Steps p.tables e below (T51.setTop (mkF m 54 #[.val (.int p1), .val (.int (0 : Int32)), .val (.ref b29), .unset, .unset, .unset, .unset, .unset, .unset] [(.int (101 : Int32)), (.int (1 : Int32)), (.ref b47), (.ref b47)])) _
    refine st55 _ ?_
    show Steps p.tables e below (T55.setTop (mkF m 55 #[.val (.int p1), .val (.int (0 : Int32)), .val (.ref b29), .unset, .unset, .unset, .unset, .unset, .unset] [(.ref b47)])) _
    refine XS.dup X55.here hx rfl (hb hby at_55) rfl rfl ?_
    show Steps p.tables e below (T55.setTop (mkF m 56 #[.val (.int p1), .val (.int (0 : Int32)), .val (.ref b29), .unset, .unset, .unset, .unset, .unset, .unset] [(.ref b47), (.ref b47)])) _
    refine XS.iconst X55.here hx rfl (hb hby at_56) ?_
    show Steps p.tables e below (T55.setTop (mkF m 57 #[.val (.int p1), .val (.int (0 : Int32)), .val (.ref b29), .unset, .unset, .unset, .unset, .unset, .unset] [(.int (2 : Int32)), (.ref b47), (.ref b47)])) _
    refine XS.bipush X55.here hx rfl (hb hby at_57) ?_
    show Steps p.tables e below (T55.setTop (mkF m 59 #[.val (.int p1), .val (.int (0 : Int32)), .val (.ref b29), .unset, .unset, .unset, .unset, .unset, .unset] [(.int (114 : Int32)), (.int (2 : Int32)), (.ref b47), (.ref b47)])) _
    refine st59 _ ?_
    show Steps p.tables e below (T59.setTop (mkF m 60 #[.val (.int p1), .val (.int (0 : Int32)), .val (.ref b29), .unset, .unset, .unset, .unset, .unset, .unset] [(.ref b47)])) _
    refine XS.dup X59.here hx rfl (hb hby at_60) rfl rfl ?_
    show Steps p.tables e below (T59.setTop (mkF m 61 #[.val (.int p1), .val (.int (0 : Int32)), .val (.ref b29), .unset, .unset, .unset, .unset, .unset, .unset] [(.ref b47), (.ref b47)])) _
    refine XS.iconst X59.here hx rfl (hb hby at_61) ?_
    show Steps p.tables e below (T59.setTop (mkF m 62 #[.val (.int p1), .val (.int (0 : Int32)), .val (.ref b29), .unset, .unset, .unset, .unset, .unset, .unset] [(.int (3 : Int32)), (.ref b47), (.ref b47)])) _
    refine XS.bipush X59.here hx rfl (hb hby at_62) ?_
    show Steps p.tables e below (T59.setTop (mkF m 64 #[.val (.int p1), .val (.int (0 : Int32)), .val (.ref b29), .unset, .unset, .unset, .unset, .unset, .unset] [(.int (105 : Int32)), (.int (3 : Int32)), (.ref b47), (.ref b47)])) _
    refine st63 _ ?_
    show Steps p.tables e below (T63.setTop (mkF m 65 #[.val (.int p1), .val (.int (0 : Int32)), .val (.ref b29), .unset, .unset, .unset, .unset, .unset, .unset] [(.ref b47)])) _
    refine XS.dup X63.here hx rfl (hb hby at_65) rfl rfl ?_
    show Steps p.tables e below (T63.setTop (mkF m 66 #[.val (.int p1), .val (.int (0 : Int32)), .val (.ref b29), .unset, .unset, .unset, .unset, .unset, .unset] [(.ref b47), (.ref b47)])) _
    refine XS.iconst X63.here hx rfl (hb hby at_66) ?_
    show Steps p.tables e below (T63.setTop (mkF m 67 #[.val (.int p1), .val (.int (0 : Int32)), .val (.ref b29), .unset, .unset, .unset, .unset, .unset, .unset] [(.int (4 : Int32)), (.ref b47), (.ref b47)])) _
    refine XS.bipush X63.here hx rfl (hb hby at_67) ?_
    show Steps p.tables e below (T63.setTop (mkF m 69 #[.val (.int p1), .val (.int (0 : Int32)), .val (.ref b29), .unset, .unset, .unset, .unset, .unset, .unset] [(.int (97 : Int32)), (.int (4 : Int32)), (.ref b47), (.ref b47)])) _
    refine st67 _ ?_
    show Steps p.tables e below (T67.setTop (mkF m 70 #[.val (.int p1), .val (.int (0 : Int32)), .val (.ref b29), .unset, .unset, .unset, .unset, .unset, .unset] [(.ref b47)])) _
    refine XS.dup X67.here hx rfl (hb hby at_70) rfl rfl ?_
    show Steps p.tables e below (T67.setTop (mkF m 71 #[.val (.int p1), .val (.int (0 : Int32)), .val (.ref b29), .unset, .unset, .unset, .unset, .unset, .unset] [(.ref b47), (.ref b47)])) _
    refine XS.iconst X67.here hx rfl (hb hby at_71) ?_
    show Steps p.tables e below (T67.setTop (mkF m 72 #[.val (.int p1), .val (.int (0 : Int32)), .val (.ref b29), .unset, .unset, .unset, .unset, .unset, .unset] [(.int (5 : Int32)), (.ref b47), (.ref b47)])) _
    refine XS.bipush X67.here hx rfl (hb hby at_72) ?_
    show Steps p.tables e below (T67.setTop (mkF m 74 #[.val (.int p1), .val (.int (0 : Int32)), .val (.ref b29), .unset, .unset, .unset, .unset, .unset, .unset] [(.int (108 : Int32)), (.int (5 : Int32)), (.ref b47), (.ref b47)])) _
    refine st71 _ ?_
    show Steps p.tables e below (T71.setTop (mkF m 75 #[.val (.int p1), .val (.int (0 : Int32)), .val (.ref b29), .unset, .unset, .unset, .unset, .unset, .unset] [(.ref b47)])) _
    refine XS.dup X71.here hx rfl (hb hby at_75) rfl rfl ?_
    show Steps p.tables e below (T71.setTop (mkF m 76 #[.val (.int p1), .val (.int (0 : Int32)), .val (.ref b29), .unset, .unset, .unset, .unset, .unset, .unset] [(.ref b47), (.ref b47)])) _
    refine XS.bipush X71.here hx rfl (hb hby at_76) ?_
    show Steps p.tables e below (T71.setTop (mkF m 78 #[.val (.int p1), .val (.int (0 : Int32)), .val (.ref b29), .unset, .unset, .unset, .unset, .unset, .unset] [(.int (6 : Int32)), (.ref b47), (.ref b47)])) _
    refine XS.bipush X71.here hx rfl (hb hby at_78) ?_
    show Steps p.tables e below (T71.setTop (mkF m 80 #[.val (.int p1), .val (.int (0 : Int32)), .val (.ref b29), .unset, .unset, .unset, .unset, .unset, .unset] [(.int (105 : Int32)), (.int (6 : Int32)), (.ref b47), (.ref b47)])) _
    refine st75 _ ?_
    show Steps p.tables e below (T75.setTop (mkF m 81 #[.val (.int p1), .val (.int (0 : Int32)), .val (.ref b29), .unset, .unset, .unset, .unset, .unset, .unset] [(.ref b47)])) _
    refine XS.dup X75.here hx rfl (hb hby at_81) rfl rfl ?_
    show Steps p.tables e below (T75.setTop (mkF m 82 #[.val (.int p1), .val (.int (0 : Int32)), .val (.ref b29), .unset, .unset, .unset, .unset, .unset, .unset] [(.ref b47), (.ref b47)])) _
    refine XS.bipush X75.here hx rfl (hb hby at_82) ?_
    show Steps p.tables e below (T75.setTop (mkF m 84 #[.val (.int p1), .val (.int (0 : Int32)), .val (.ref b29), .unset, .unset, .unset, .unset, .unset, .unset] [(.int (7 : Int32)), (.ref b47), (.ref b47)])) _
    refine XS.bipush X75.here hx rfl (hb hby at_84) ?_
    show Steps p.tables e below (T75.setTop (mkF m 86 #[.val (.int p1), .val (.int (0 : Int32)), .val (.ref b29), .unset, .unset, .unset, .unset, .unset, .unset] [(.int (122 : Int32)), (.int (7 : Int32)), (.ref b47), (.ref b47)])) _
    refine st79 _ ?_
    show Steps p.tables e below (T79.setTop (mkF m 87 #[.val (.int p1), .val (.int (0 : Int32)), .val (.ref b29), .unset, .unset, .unset, .unset, .unset, .unset] [(.ref b47)])) _
    refine XS.dup X79.here hx rfl (hb hby at_87) rfl rfl ?_
    show Steps p.tables e below (T79.setTop (mkF m 88 #[.val (.int p1), .val (.int (0 : Int32)), .val (.ref b29), .unset, .unset, .unset, .unset, .unset, .unset] [(.ref b47), (.ref b47)])) _
    refine XS.bipush X79.here hx rfl (hb hby at_88) ?_
    show Steps p.tables e below (T79.setTop (mkF m 90 #[.val (.int p1), .val (.int (0 : Int32)), .val (.ref b29), .unset, .unset, .unset, .unset, .unset, .unset] [(.int (8 : Int32)), (.ref b47), (.ref b47)])) _
    refine XS.bipush X79.here hx rfl (hb hby at_90) ?_
    show Steps p.tables e below (T79.setTop (mkF m 92 #[.val (.int p1), .val (.int (0 : Int32)), .val (.ref b29), .unset, .unset, .unset, .unset, .unset, .unset] [(.int (101 : Int32)), (.int (8 : Int32)), (.ref b47), (.ref b47)])) _
    refine st83 _ ?_
    show Steps p.tables e below (T83.setTop (mkF m 93 #[.val (.int p1), .val (.int (0 : Int32)), .val (.ref b29), .unset, .unset, .unset, .unset, .unset, .unset] [(.ref b47)])) _
    refine XS.dup X83.here hx rfl (hb hby at_93) rfl rfl ?_
    show Steps p.tables e below (T83.setTop (mkF m 94 #[.val (.int p1), .val (.int (0 : Int32)), .val (.ref b29), .unset, .unset, .unset, .unset, .unset, .unset] [(.ref b47), (.ref b47)])) _
    refine XS.bipush X83.here hx rfl (hb hby at_94) ?_
    show Steps p.tables e below (T83.setTop (mkF m 96 #[.val (.int p1), .val (.int (0 : Int32)), .val (.ref b29), .unset, .unset, .unset, .unset, .unset, .unset] [(.int (9 : Int32)), (.ref b47), (.ref b47)])) _
    refine XS.bipush X83.here hx rfl (hb hby at_96) ?_
    show Steps p.tables e below (T83.setTop (mkF m 98 #[.val (.int p1), .val (.int (0 : Int32)), .val (.ref b29), .unset, .unset, .unset, .unset, .unset, .unset] [(.int (100 : Int32)), (.int (9 : Int32)), (.ref b47), (.ref b47)])) _
    refine st87 _ ?_
    show Steps p.tables e below (T87.setTop (mkF m 99 #[.val (.int p1), .val (.int (0 : Int32)), .val (.ref b29), .unset, .unset, .unset, .unset, .unset, .unset] [(.ref b47)])) _
    refine XS.astoreN X87.here hx rfl (hb hby at_99) rfl rfl (l' := #[.val (.int p1), .val (.int (0 : Int32)), .val (.ref b29), .val (.ref b47), .unset, .unset, .unset, .unset, .unset]) rfl ?_
    show Steps p.tables e below (T87.setTop (mkF m 100 #[.val (.int p1), .val (.int (0 : Int32)), .val (.ref b29), .val (.ref b47), .unset, .unset, .unset, .unset, .unset] [])) _
    refine XS.iloadN X87.here hx rfl (hb hby at_100) rfl ?_
    show Steps p.tables e below (T87.setTop (mkF m 101 #[.val (.int p1), .val (.int (0 : Int32)), .val (.ref b29), .val (.ref b47), .unset, .unset, .unset, .unset, .unset] [(.int (0 : Int32))])) _
    refine XS.ifYes X87.here hx rfl (pc0 := 101) (pc' := 115) rfl (hb hby at_101) rfl ((if0 _ _).trans (teq (rfl : (0 : Int32) = (0 : Int32))).1) (by decide) (by decide) ?_
    show Steps p.tables e below (T87.setTop (mkF m 115 #[.val (.int p1), .val (.int (0 : Int32)), .val (.ref b29), .val (.ref b47), .unset, .unset, .unset, .unset, .unset] [])) _
    refine st91 _ ?_
    show Steps p.tables e below (T91.setTop (mkF m 118 #[.val (.int p1), .val (.int (0 : Int32)), .val (.ref b29), .val (.ref b47), .unset, .unset, .unset, .unset, .unset] [(.ref b91)])) _
    refine XS.dup X91.here hx rfl (hb hby at_118) rfl rfl ?_
    show Steps p.tables e below (T91.setTop (mkF m 119 #[.val (.int p1), .val (.int (0 : Int32)), .val (.ref b29), .val (.ref b47), .unset, .unset, .unset, .unset, .unset] [(.ref b91), (.ref b91)])) _
    refine XS.aloadN X91.here hx rfl (hb hby at_119) rfl rfl ?_
    show Steps p.tables e below (T91.setTop (mkF m 120 #[.val (.int p1), .val (.int (0 : Int32)), .val (.ref b29), .val (.ref b47), .unset, .unset, .unset, .unset, .unset] [(.ref b29), (.ref b91), (.ref b91)])) _
    refine st98.trans ?_
    show Steps p.tables e below (T98.setTop (mkF m 123 #[.val (.int p1), .val (.int (0 : Int32)), .val (.ref b29), .val (.ref b47), .unset, .unset, .unset, .unset, .unset] [(.ref b91)])) _
    refine XS.astore X98.here hx rfl (hb hby at_123) rfl rfl (l' := #[.val (.int p1), .val (.int (0 : Int32)), .val (.ref b29), .val (.ref b47), .val (.ref b91), .unset, .unset, .unset, .unset]) rfl ?_
    show Steps p.tables e below (T98.setTop (mkF m 125 #[.val (.int p1), .val (.int (0 : Int32)), .val (.ref b29), .val (.ref b47), .val (.ref b91), .unset, .unset, .unset, .unset] [])) _
    refine XS.iloadN X98.here hx rfl (hb hby at_125) rfl ?_
    show Steps p.tables e below (T98.setTop (mkF m 126 #[.val (.int p1), .val (.int (0 : Int32)), .val (.ref b29), .val (.ref b47), .val (.ref b91), .unset, .unset, .unset, .unset] [(.int (0 : Int32))])) _
    refine XS.ifYes X98.here hx rfl (pc0 := 126) (pc' := 135) rfl (hb hby at_126) rfl ((if0 _ _).trans (teq (rfl : (0 : Int32) = (0 : Int32))).1) (by decide) (by decide) ?_
    show Steps p.tables e below (T98.setTop (mkF m 135 #[.val (.int p1), .val (.int (0 : Int32)), .val (.ref b29), .val (.ref b47), .val (.ref b91), .unset, .unset, .unset, .unset] [])) _
    refine st103 _ ?_
    show Steps p.tables e below (T103.setTop (mkF m 138 #[.val (.int p1), .val (.int (0 : Int32)), .val (.ref b29), .val (.ref b47), .val (.ref b91), .unset, .unset, .unset, .unset] [(.ref v0)])) _
    refine XS.astore X103.here hx rfl (hb hby at_138) rfl rfl (l' := #[.val (.int p1), .val (.int (0 : Int32)), .val (.ref b29), .val (.ref b47), .val (.ref b91), .val (.ref v0), .unset, .unset, .unset]) rfl ?_
    show Steps p.tables e below (T103.setTop (mkF m 140 #[.val (.int p1), .val (.int (0 : Int32)), .val (.ref b29), .val (.ref b47), .val (.ref b91), .val (.ref v0), .unset, .unset, .unset] [])) _
    refine XS.aload X103.here hx rfl (hb hby at_140) rfl rfl ?_
    show Steps p.tables e below (T103.setTop (mkF m 142 #[.val (.int p1), .val (.int (0 : Int32)), .val (.ref b29), .val (.ref b47), .val (.ref b91), .val (.ref v0), .unset, .unset, .unset] [(.ref b91)])) _
    refine st104 _ ?_
    show Steps p.tables e below (T104.setTop (mkF m 145 #[.val (.int p1), .val (.int (0 : Int32)), .val (.ref b29), .val (.ref b47), .val (.ref b91), .val (.ref v0), .unset, .unset, .unset] [(.ref v0)])) _
    refine XS.astore X104.here hx rfl (hb hby at_145) rfl rfl (l' := #[.val (.int p1), .val (.int (0 : Int32)), .val (.ref b29), .val (.ref b47), .val (.ref b91), .val (.ref v0), .val (.ref v0), .unset, .unset]) rfl ?_
    show Steps p.tables e below (T104.setTop (mkF m 147 #[.val (.int p1), .val (.int (0 : Int32)), .val (.ref b29), .val (.ref b47), .val (.ref b91), .val (.ref v0), .val (.ref v0), .unset, .unset] [])) _
    refine XS.aload X104.here hx rfl (hb hby at_147) rfl rfl ?_
    show Steps p.tables e below (T104.setTop (mkF m 149 #[.val (.int p1), .val (.int (0 : Int32)), .val (.ref b29), .val (.ref b47), .val (.ref b91), .val (.ref v0), .val (.ref v0), .unset, .unset] [(.ref v0)])) _
    refine st112.trans ?_
    show Steps p.tables e below (T112.setTop (mkF m 152 #[.val (.int p1), .val (.int (0 : Int32)), .val (.ref b29), .val (.ref b47), .val (.ref b91), .val (.ref v0), .val (.ref v0), .unset, .unset] [(.ref w0)])) _
    refine XS.astore X112.here hx rfl (hb hby at_152) rfl rfl (l' := #[.val (.int p1), .val (.int (0 : Int32)), .val (.ref b29), .val (.ref b47), .val (.ref b91), .val (.ref v0), .val (.ref v0), .val (.ref w0), .unset]) rfl ?_
    show Steps p.tables e below (T112.setTop (mkF m 154 #[.val (.int p1), .val (.int (0 : Int32)), .val (.ref b29), .val (.ref b47), .val (.ref b91), .val (.ref v0), .val (.ref v0), .val (.ref w0), .unset] [])) _
    refine XS.aload X112.here hx rfl (hb hby at_154) rfl rfl ?_
    show Steps p.tables e below (T112.setTop (mkF m 156 #[.val (.int p1), .val (.int (0 : Int32)), .val (.ref b29), .val (.ref b47), .val (.ref b91), .val (.ref v0), .val (.ref v0), .val (.ref w0), .unset] [(.ref w0)])) _
    refine st113 _ ?_
    show Steps p.tables e below (T113.setTop (mkF m 159 #[.val (.int p1), .val (.int (0 : Int32)), .val (.ref b29), .val (.ref b47), .val (.ref b91), .val (.ref v0), .val (.ref v0), .val (.ref w0), .unset] [(.ref v0)])) _
    refine XS.astore X113.here hx rfl (hb hby at_159) rfl rfl (l' := #[.val (.int p1), .val (.int (0 : Int32)), .val (.ref b29), .val (.ref b47), .val (.ref b91), .val (.ref v0), .val (.ref v0), .val (.ref w0), .val (.ref v0)]) rfl ?_
    show Steps p.tables e below (T113.setTop (mkF m 161 #[.val (.int p1), .val (.int (0 : Int32)), .val (.ref b29), .val (.ref b47), .val (.ref b91), .val (.ref v0), .val (.ref v0), .val (.ref w0), .val (.ref v0)] [])) _
    refine XS.aload X113.here hx rfl (hb hby at_161) rfl rfl ?_
    show Steps p.tables e below (T113.setTop (mkF m 163 #[.val (.int p1), .val (.int (0 : Int32)), .val (.ref b29), .val (.ref b47), .val (.ref b91), .val (.ref v0), .val (.ref v0), .val (.ref w0), .val (.ref v0)] [(.ref v0)])) _
    refine XS.aload X113.here hx rfl (hb hby at_163) rfl rfl ?_
    show Steps p.tables e below (T113.setTop (mkF m 165 #[.val (.int p1), .val (.int (0 : Int32)), .val (.ref b29), .val (.ref b47), .val (.ref b91), .val (.ref v0), .val (.ref v0), .val (.ref w0), .val (.ref v0)] [(.ref v0), (.ref v0)])) _
    refine Jvm.RoadKit.acmp (g := (mkF m 165 #[.val (.int p1), .val (.int (0 : Int32)), .val (.ref b29), .val (.ref b47), .val (.ref b91), .val (.ref v0), .val (.ref v0), .val (.ref w0), .val (.ref v0)] [(.ref v0), (.ref v0)])) X113 hx rfl rfl rfl (pc0 := 165) (pc' := 168) (same := true) rfl (hb hby at_165) rfl (decide_eq_true rfl) (by decide) (by decide) ?_
    show Steps p.tables e below (T113.setTop (mkF m 168 #[.val (.int p1), .val (.int (0 : Int32)), .val (.ref b29), .val (.ref b47), .val (.ref b91), .val (.ref v0), .val (.ref v0), .val (.ref w0), .val (.ref v0)] [])) _
    refine XS.aload X113.here hx rfl (hb hby at_168) rfl rfl ?_
    show Steps p.tables e below (T113.setTop (mkF m 170 #[.val (.int p1), .val (.int (0 : Int32)), .val (.ref b29), .val (.ref b47), .val (.ref b91), .val (.ref v0), .val (.ref v0), .val (.ref w0), .val (.ref v0)] [(.ref v0)])) _
    refine XS.aload X113.here hx rfl (hb hby at_170) rfl rfl ?_
    show Steps p.tables e below (T113.setTop (mkF m 172 #[.val (.int p1), .val (.int (0 : Int32)), .val (.ref b29), .val (.ref b47), .val (.ref b91), .val (.ref v0), .val (.ref v0), .val (.ref w0), .val (.ref v0)] [(.ref v0), (.ref v0)])) _
    refine Jvm.RoadKit.acmp (g := (mkF m 172 #[.val (.int p1), .val (.int (0 : Int32)), .val (.ref b29), .val (.ref b47), .val (.ref b91), .val (.ref v0), .val (.ref v0), .val (.ref w0), .val (.ref v0)] [(.ref v0), (.ref v0)])) X113 hx rfl rfl rfl (pc0 := 172) (pc' := 175) (same := true) rfl (hb hby at_172) rfl (decide_eq_true rfl) (by decide) (by decide) ?_
    show Steps p.tables e below (T113.setTop (mkF m 175 #[.val (.int p1), .val (.int (0 : Int32)), .val (.ref b29), .val (.ref b47), .val (.ref b91), .val (.ref v0), .val (.ref v0), .val (.ref w0), .val (.ref v0)] [])) _
    refine XS.aload X113.here hx rfl (hb hby at_175) rfl rfl ?_
    show Steps p.tables e below (T113.setTop (mkF m 177 #[.val (.int p1), .val (.int (0 : Int32)), .val (.ref b29), .val (.ref b47), .val (.ref b91), .val (.ref v0), .val (.ref v0), .val (.ref w0), .val (.ref v0)] [(.ref w0)])) _
    refine XS.aload X113.here hx rfl (hb hby at_177) rfl rfl ?_
    show Steps p.tables e below (T113.setTop (mkF m 179 #[.val (.int p1), .val (.int (0 : Int32)), .val (.ref b29), .val (.ref b47), .val (.ref b91), .val (.ref v0), .val (.ref v0), .val (.ref w0), .val (.ref v0)] [(.ref b91), (.ref w0)])) _
    refine st121.trans ?_
    show Steps p.tables e below (T121.setTop (mkF m 182 #[.val (.int p1), .val (.int (0 : Int32)), .val (.ref b29), .val (.ref b47), .val (.ref b91), .val (.ref v0), .val (.ref v0), .val (.ref w0), .val (.ref v0)] [(.int (1 : Int32))])) _
    refine XS.ifNo X121.here hx rfl (hb hby at_182) rfl ((if0 _ _).trans (feq (by decide : ¬ ((1 : Int32) = (0 : Int32)))).1) ?_
    show Steps p.tables e below (T121.setTop (mkF m 185 #[.val (.int p1), .val (.int (0 : Int32)), .val (.ref b29), .val (.ref b47), .val (.ref b91), .val (.ref v0), .val (.ref v0), .val (.ref w0), .val (.ref v0)] [])) _
    refine XS.iconst X121.here hx rfl (hb hby at_185) ?_
    show Steps p.tables e below (T121.setTop (mkF m 186 #[.val (.int p1), .val (.int (0 : Int32)), .val (.ref b29), .val (.ref b47), .val (.ref b91), .val (.ref v0), .val (.ref v0), .val (.ref w0), .val (.ref v0)] [(.int (1 : Int32))])) _
    refine XS.goto X121.here hx rfl (pc0 := 186) (pc' := 190) rfl (hb hby at_186) (by decide) (by decide) ?_
    show Steps p.tables e below (T121.setTop (mkF m 190 #[.val (.int p1), .val (.int (0 : Int32)), .val (.ref b29), .val (.ref b47), .val (.ref b91), .val (.ref v0), .val (.ref v0), .val (.ref w0), .val (.ref v0)] [(.int (1 : Int32))])) _
    exact retN X121 hx (t := .boolean) Bd.returns (by simp) (hb hby at_190) hr
  · show Qlaw Z h0 n0 _ T121.heap _
    rw [e121]
    exact ⟨rfl, N121⟩
theorem ef_rmLawS (m : MethodId) (x0 : Int32) : entryFrame m #[(.int x0)] maxLocals = mkF m 0 #[.val (.int x0), .unset, .unset, .unset, .unset, .unset, .unset, .unset, .unset] [] := by first | (simp [entryFrame, mkF, argsToLocals, Value.category, maxLocals]; done) | rfl
set_option maxRecDepth 65536 in
set_option maxHeartbeats 40000000 in
theorem rmLawS (l : Launch) (Z : State) (a0 : Array Value) (hw : ∀ d ∈ tables_1, d.before a0 Z = true) (ws : List Jvm.Cond) (va v0 w0 y0 v1 w1 y1 : Addr) (kv k0b k1b : ClassId) (GC : Int32) (p1 : Int32) (h0 : Heap) (n0 : Nat) (O0 : Old Z n0 h0) (SV : Sta Z Z.heap "holdfast/redis/IndexMemberEncoding" "$VALUES" "[Lholdfast/redis/IndexMemberEncoding;" (.ref va)) (EV : Exa Z Z.heap va "[Lholdfast/redis/IndexMemberEncoding;") (AV : Arv Z Z.heap va kv (.object "holdfast/redis/IndexMemberEncoding") (2 : Int32) [(.ref v0), (.ref v1)] .null) (SO0 : Sta Z Z.heap "holdfast/redis/IndexMemberEncoding" "PLAIN" "Lholdfast/redis/IndexMemberEncoding;" (.ref v0)) (EO0 : Exa Z Z.heap v0 "holdfast/redis/IndexMemberEncoding") (FO0 : Fld Z Z.heap v0 "holdfast/redis/IndexMemberEncoding" "settingValue" "Ljava/lang/String;" (.ref w0)) (EW0 : Exa Z Z.heap w0 "java/lang/String") (CW0 : Fld Z Z.heap w0 "java/lang/String" "coder" "B" (.int 0)) (VW0 : Fld Z Z.heap w0 "java/lang/String" "value" "[B" (.ref y0)) (AW0 : Arv Z Z.heap y0 k0b .byte (5 : Int32) [(.int (112 : Int32)), (.int (108 : Int32)), (.int (97 : Int32)), (.int (105 : Int32)), (.int (110 : Int32))] (.int 0)) (SO1 : Sta Z Z.heap "holdfast/redis/IndexMemberEncoding" "SERIALIZED" "Lholdfast/redis/IndexMemberEncoding;" (.ref v1)) (EO1 : Exa Z Z.heap v1 "holdfast/redis/IndexMemberEncoding") (FO1 : Fld Z Z.heap v1 "holdfast/redis/IndexMemberEncoding" "settingValue" "Ljava/lang/String;" (.ref w1)) (EW1 : Exa Z Z.heap w1 "java/lang/String") (CW1 : Fld Z Z.heap w1 "java/lang/String" "coder" "B" (.int 0)) (VW1 : Fld Z Z.heap w1 "java/lang/String" "value" "[B" (.ref y1)) (AW1 : Arv Z Z.heap y1 k1b .byte (10 : Int32) [(.int (115 : Int32)), (.int (101 : Int32)), (.int (114 : Int32)), (.int (105 : Int32)), (.int (97 : Int32)), (.int (108 : Int32)), (.int (105 : Int32)), (.int (122 : Int32)), (.int (101 : Int32)), (.int (100 : Int32))] (.int 0)) (OC2 : Sta Z Z.heap "java/lang/String" "COMPACT_STRINGS" "Z" (.int GC)) (OCz : ¬ (GC = (0 : Int32))) (hbit : ¬ ((p1 &&& (1 : Int32)) = 0)) :
    MetFree l x (head1 (Jvm.Cond.code x code maxLocals ret :: ws) room_1) (fun aa_ U => aa_ = #[(.int p1)] ∧ Z.Warmed39 U.vm ∧ U.heap = h0) (fun _ _ _ _ _ => True) (fun _ U o U' => ∃ v L, o = .returned v ∧ Qlaw Z h0 n0 v U'.heap L ∧ FrameEnd U o U' L room_1.cells room_1.slots) := by
  refine MetFree.of_bodySF (plainFor_of_name pn_holdfast_redis_IndexMemberEncodingOfSettingValuePinLaw) hisR ?_
  intro p e s m args below meth c s₁ Bd hml0 hP hK
  obtain ⟨rfl, hZ, hh⟩ := hP
  have hx := Bd.exec
  have hby := Bd.bytes
  have hml : c.maxLocals = 9 := hml0
  have hown : s.vm.findClass "holdfast/redis/IndexMemberEncodingOfSettingValuePinLaw" = some m.cls := findClass_of_methodNamed Bd.named
  have hnm := (name_of_methodNamed Bd.named Bd.method).1
  have X0 : Stand p l e room_1 s m #[(.int p1)] below meth c s₁ [] 0 0 := Stand.of_body Bd
  have e0 : s₁.heap = h0 := by rw [← hh, Bd.state]; rfl
  have N0 := Fr.nil n0
  have Z0 : n0 ≤ h0.size := O0.1 ▸ O0.2.1
  have K0 : Keep h0 h0 [] := Keep.refl _ _
  have pre0 : ∀ tgt_, Steps p.tables e below (s₁.setTop (mkF m 0 #[.val (.int p1), .unset, .unset, .unset, .unset, .unset, .unset, .unset, .unset] [])) tgt_ → Steps p.tables e below (s₁.setTop (entryFrame m #[(.int p1)] maxLocals)) tgt_ := fun tgt_ k => castTop (ef_rmLawS m p1) k
  obtain ⟨T122, h122, k122, X122, e122, E122, A122, st122⟩ := newP X0 hx hZ (hw _ (List.mem_of_getElem? (i := 0) rfl)) e0 (g := (mkF m 13 #[.val (.int p1), .val (.int (1 : Int32)), .unset, .unset, .unset, .unset, .unset, .unset, .unset] [(.int (5 : Int32))])) rfl (hb hby at_13) rfl (by decide : ¬ ((5 : Int32) < (0 : Int32))) (cap := 5) (by decide : (5 : Int32).toNatClampNeg ≤ 5) (by decide) (by decide) (by decide)
  obtain ⟨b122, g122⟩ : ∃ z, z = h0.size := ⟨_, rfl⟩
  rw [← g122] at A122 st122
  have geb122 : h0.size ≤ b122 := Nat.le_of_eq g122.symm
  have g_b122 : n0 ≤ b122 := Nat.le_trans Z0 geb122
  have sz_b122 : h0.size ≤ b122 := Nat.le_trans K0.1 geb122
  have O123 : Old Z n0 h122 := O0.ext E122
  have Z123 : n0 ≤ h122.size := Nat.le_trans Z0 E122.1
  have K123 : Keep h0 h122 [] := K0.ext E122
  have f124 : Arv Z h122 b122 k122 .char (5 : Int32) [(.int (0 : Int32)), (.int (0 : Int32)), (.int (0 : Int32)), (.int (0 : Int32)), (.int (0 : Int32))] (.int (0 : Int32)) := (Arv.new A122 (by decide : ¬ ((5 : Int32) < (0 : Int32)))).pad (pad_rep [] (.int (0 : Int32)) 5)
  obtain ⟨c125, Ar125, q125, S125, M125, Hh125, U125⟩ := id f124
  obtain ⟨T125, h125, X125, e125, W125, st125⟩ := stC X122 hx hZ e122 Ar125 (j := (0 : Int32)) (inb_of S125 ⟨(by decide : ¬ ((0 : Int32) < (0 : Int32))), (by decide : (0 : Int32) < (5 : Int32))⟩) (g := (mkF m 19 #[.val (.int p1), .val (.int (1 : Int32)), .unset, .unset, .unset, .unset, .unset, .unset, .unset] [(.int (112 : Int32)), (.int (0 : Int32)), (.ref b122), (.ref b122)])) rfl rfl (hb hby at_19)
  have f126 : Arv Z h125 b122 k122 .char (5 : Int32) [(.int (112 : Int32)), (.int (0 : Int32)), (.int (0 : Int32)), (.int (0 : Int32)), (.int (0 : Int32))] (.int (0 : Int32)) := Arv.set Ar125 q125 S125 M125 Hh125 U125 rfl W125 0 rfl (Nat.le_of_ble_eq_true rfl)
  have N125 := Fr.snoc X125 N0 g_b122
  have O127 : Old Z n0 h125 := O123.wr W125 g_b122
  have Z127 : n0 ≤ h125.size := Nat.le_trans Z123 (Keep.of_wr W125).1
  have K127 : Keep h0 h125 [] := K123.wr W125 (Or.inr sz_b122)
  obtain ⟨c128, Ar128, q128, S128, M128, Hh128, U128⟩ := id f126
  obtain ⟨T128, h128, X128, e128, W128, st128⟩ := stC X125 hx hZ e125 Ar128 (j := (1 : Int32)) (inb_of S128 ⟨(by decide : ¬ ((1 : Int32) < (0 : Int32))), (by decide : (1 : Int32) < (5 : Int32))⟩) (g := (mkF m 24 #[.val (.int p1), .val (.int (1 : Int32)), .unset, .unset, .unset, .unset, .unset, .unset, .unset] [(.int (108 : Int32)), (.int (1 : Int32)), (.ref b122), (.ref b122)])) rfl rfl (hb hby at_24)
  have f129 : Arv Z h128 b122 k122 .char (5 : Int32) [(.int (112 : Int32)), (.int (108 : Int32)), (.int (0 : Int32)), (.int (0 : Int32)), (.int (0 : Int32))] (.int (0 : Int32)) := Arv.set Ar128 q128 S128 M128 Hh128 U128 rfl W128 1 rfl (Nat.le_of_ble_eq_true rfl)
  have N128 := Fr.snoc X128 N125 g_b122
  have O130 : Old Z n0 h128 := O127.wr W128 g_b122
  have Z130 : n0 ≤ h128.size := Nat.le_trans Z127 (Keep.of_wr W128).1
  have K130 : Keep h0 h128 [] := K127.wr W128 (Or.inr sz_b122)
  obtain ⟨c131, Ar131, q131, S131, M131, Hh131, U131⟩ := id f129
  obtain ⟨T131, h131, X131, e131, W131, st131⟩ := stC X128 hx hZ e128 Ar131 (j := (2 : Int32)) (inb_of S131 ⟨(by decide : ¬ ((2 : Int32) < (0 : Int32))), (by decide : (2 : Int32) < (5 : Int32))⟩) (g := (mkF m 29 #[.val (.int p1), .val (.int (1 : Int32)), .unset, .unset, .unset, .unset, .unset, .unset, .unset] [(.int (97 : Int32)), (.int (2 : Int32)), (.ref b122), (.ref b122)])) rfl rfl (hb hby at_29)
  have f132 : Arv Z h131 b122 k122 .char (5 : Int32) [(.int (112 : Int32)), (.int (108 : Int32)), (.int (97 : Int32)), (.int (0 : Int32)), (.int (0 : Int32))] (.int (0 : Int32)) := Arv.set Ar131 q131 S131 M131 Hh131 U131 rfl W131 2 rfl (Nat.le_of_ble_eq_true rfl)
  have N131 := Fr.snoc X131 N128 g_b122
  have O133 : Old Z n0 h131 := O130.wr W131 g_b122
  have Z133 : n0 ≤ h131.size := Nat.le_trans Z130 (Keep.of_wr W131).1
  have K133 : Keep h0 h131 [] := K130.wr W131 (Or.inr sz_b122)
  obtain ⟨c134, Ar134, q134, S134, M134, Hh134, U134⟩ := id f132
  obtain ⟨T134, h134, X134, e134, W134, st134⟩ := stC X131 hx hZ e131 Ar134 (j := (3 : Int32)) (inb_of S134 ⟨(by decide : ¬ ((3 : Int32) < (0 : Int32))), (by decide : (3 : Int32) < (5 : Int32))⟩) (g := (mkF m 34 #[.val (.int p1), .val (.int (1 : Int32)), .unset, .unset, .unset, .unset, .unset, .unset, .unset] [(.int (105 : Int32)), (.int (3 : Int32)), (.ref b122), (.ref b122)])) rfl rfl (hb hby at_34)
  have f135 : Arv Z h134 b122 k122 .char (5 : Int32) [(.int (112 : Int32)), (.int (108 : Int32)), (.int (97 : Int32)), (.int (105 : Int32)), (.int (0 : Int32))] (.int (0 : Int32)) := Arv.set Ar134 q134 S134 M134 Hh134 U134 rfl W134 3 rfl (Nat.le_of_ble_eq_true rfl)
  have N134 := Fr.snoc X134 N131 g_b122
  have O136 : Old Z n0 h134 := O133.wr W134 g_b122
  have Z136 : n0 ≤ h134.size := Nat.le_trans Z133 (Keep.of_wr W134).1
  have K136 : Keep h0 h134 [] := K133.wr W134 (Or.inr sz_b122)
  obtain ⟨c137, Ar137, q137, S137, M137, Hh137, U137⟩ := id f135
  obtain ⟨T137, h137, X137, e137, W137, st137⟩ := stC X134 hx hZ e134 Ar137 (j := (4 : Int32)) (inb_of S137 ⟨(by decide : ¬ ((4 : Int32) < (0 : Int32))), (by decide : (4 : Int32) < (5 : Int32))⟩) (g := (mkF m 39 #[.val (.int p1), .val (.int (1 : Int32)), .unset, .unset, .unset, .unset, .unset, .unset, .unset] [(.int (110 : Int32)), (.int (4 : Int32)), (.ref b122), (.ref b122)])) rfl rfl (hb hby at_39)
  have f138 : Arv Z h137 b122 k122 .char (5 : Int32) [(.int (112 : Int32)), (.int (108 : Int32)), (.int (97 : Int32)), (.int (105 : Int32)), (.int (110 : Int32))] (.int (0 : Int32)) := Arv.set Ar137 q137 S137 M137 Hh137 U137 rfl W137 4 rfl (Nat.le_of_ble_eq_true rfl)
  have N137 := Fr.snoc X137 N134 g_b122
  have O139 : Old Z n0 h137 := O136.wr W137 g_b122
  have Z139 : n0 ≤ h137.size := Nat.le_trans Z136 (Keep.of_wr W137).1
  have K139 : Keep h0 h137 [] := K136.wr W137 (Or.inr sz_b122)
  obtain ⟨T140, h140, k140, X140, e140, E140, A140, st140⟩ := newP X137 hx hZ (hw _ (List.mem_of_getElem? (i := 0) rfl)) e137 (g := (mkF m 43 #[.val (.int p1), .val (.int (1 : Int32)), .val (.ref b122), .unset, .unset, .unset, .unset, .unset, .unset] [(.int (10 : Int32))])) rfl (hb hby at_43) rfl (by decide : ¬ ((10 : Int32) < (0 : Int32))) (cap := 10) (by decide : (10 : Int32).toNatClampNeg ≤ 10) (by decide) (by decide) (by decide)
  obtain ⟨b140, g140⟩ : ∃ z, z = h137.size := ⟨_, rfl⟩
  rw [← g140] at A140 st140
  have geb140 : h137.size ≤ b140 := Nat.le_of_eq g140.symm
  have g_b140 : n0 ≤ b140 := Nat.le_trans Z139 geb140
  have sz_b140 : h0.size ≤ b140 := Nat.le_trans K139.1 geb140
  have O141 : Old Z n0 h140 := O139.ext E140
  have Z141 : n0 ≤ h140.size := Nat.le_trans Z139 E140.1
  have K141 : Keep h0 h140 [] := K139.ext E140
  have f142 : Arv Z h140 b122 k122 .char (5 : Int32) [(.int (112 : Int32)), (.int (108 : Int32)), (.int (97 : Int32)), (.int (105 : Int32)), (.int (110 : Int32))] (.int (0 : Int32)) := f138.ext E140
  have f143 : Arv Z h140 b140 k140 .char (10 : Int32) [(.int (0 : Int32)), (.int (0 : Int32)), (.int (0 : Int32)), (.int (0 : Int32)), (.int (0 : Int32)), (.int (0 : Int32)), (.int (0 : Int32)), (.int (0 : Int32)), (.int (0 : Int32)), (.int (0 : Int32))] (.int (0 : Int32)) := (Arv.new A140 (by decide : ¬ ((10 : Int32) < (0 : Int32)))).pad (pad_rep [] (.int (0 : Int32)) 10)
  obtain ⟨c144, Ar144, q144, S144, M144, Hh144, U144⟩ := id f143
  obtain ⟨T144, h144, X144, e144, W144, st144⟩ := stC X140 hx hZ e140 Ar144 (j := (0 : Int32)) (inb_of S144 ⟨(by decide : ¬ ((0 : Int32) < (0 : Int32))), (by decide : (0 : Int32) < (10 : Int32))⟩) (g := (mkF m 49 #[.val (.int p1), .val (.int (1 : Int32)), .val (.ref b122), .unset, .unset, .unset, .unset, .unset, .unset] [(.int (115 : Int32)), (.int (0 : Int32)), (.ref b140), (.ref b140)])) rfl rfl (hb hby at_49)
  have f145 : Arv Z h144 b140 k140 .char (10 : Int32) [(.int (115 : Int32)), (.int (0 : Int32)), (.int (0 : Int32)), (.int (0 : Int32)), (.int (0 : Int32)), (.int (0 : Int32)), (.int (0 : Int32)), (.int (0 : Int32)), (.int (0 : Int32)), (.int (0 : Int32))] (.int (0 : Int32)) := Arv.set Ar144 q144 S144 M144 Hh144 U144 rfl W144 0 rfl (Nat.le_of_ble_eq_true rfl)
  have N144 := Fr.snoc X144 N137 g_b140
  have O146 : Old Z n0 h144 := O141.wr W144 g_b140
  have Z146 : n0 ≤ h144.size := Nat.le_trans Z141 (Keep.of_wr W144).1
  have K146 : Keep h0 h144 [] := K141.wr W144 (Or.inr sz_b140)
  have f147 : Arv Z h144 b122 k122 .char (5 : Int32) [(.int (112 : Int32)), (.int (108 : Int32)), (.int (97 : Int32)), (.int (105 : Int32)), (.int (110 : Int32))] (.int (0 : Int32)) := f142.other W144 (Nat.ne_of_lt (Nat.lt_of_lt_of_le f138.lt geb140))
  obtain ⟨c148, Ar148, q148, S148, M148, Hh148, U148⟩ := id f145
  obtain ⟨T148, h148, X148, e148, W148, st148⟩ := stC X144 hx hZ e144 Ar148 (j := (1 : Int32)) (inb_of S148 ⟨(by decide : ¬ ((1 : Int32) < (0 : Int32))), (by decide : (1 : Int32) < (10 : Int32))⟩) (g := (mkF m 54 #[.val (.int p1), .val (.int (1 : Int32)), .val (.ref b122), .unset, .unset, .unset, .unset, .unset, .unset] [(.int (101 : Int32)), (.int (1 : Int32)), (.ref b140), (.ref b140)])) rfl rfl (hb hby at_54)
  have f149 : Arv Z h148 b140 k140 .char (10 : Int32) [(.int (115 : Int32)), (.int (101 : Int32)), (.int (0 : Int32)), (.int (0 : Int32)), (.int (0 : Int32)), (.int (0 : Int32)), (.int (0 : Int32)), (.int (0 : Int32)), (.int (0 : Int32)), (.int (0 : Int32))] (.int (0 : Int32)) := Arv.set Ar148 q148 S148 M148 Hh148 U148 rfl W148 1 rfl (Nat.le_of_ble_eq_true rfl)
  have N148 := Fr.snoc X148 N144 g_b140
  have O150 : Old Z n0 h148 := O146.wr W148 g_b140
  have Z150 : n0 ≤ h148.size := Nat.le_trans Z146 (Keep.of_wr W148).1
  have K150 : Keep h0 h148 [] := K146.wr W148 (Or.inr sz_b140)
  have f151 : Arv Z h148 b122 k122 .char (5 : Int32) [(.int (112 : Int32)), (.int (108 : Int32)), (.int (97 : Int32)), (.int (105 : Int32)), (.int (110 : Int32))] (.int (0 : Int32)) := f147.other W148 (Nat.ne_of_lt (Nat.lt_of_lt_of_le f138.lt geb140))
  obtain ⟨c152, Ar152, q152, S152, M152, Hh152, U152⟩ := id f149
  obtain ⟨T152, h152, X152, e152, W152, st152⟩ := stC X148 hx hZ e148 Ar152 (j := (2 : Int32)) (inb_of S152 ⟨(by decide : ¬ ((2 : Int32) < (0 : Int32))), (by decide : (2 : Int32) < (10 : Int32))⟩) (g := (mkF m 59 #[.val (.int p1), .val (.int (1 : Int32)), .val (.ref b122), .unset, .unset, .unset, .unset, .unset, .unset] [(.int (114 : Int32)), (.int (2 : Int32)), (.ref b140), (.ref b140)])) rfl rfl (hb hby at_59)
  have f153 : Arv Z h152 b140 k140 .char (10 : Int32) [(.int (115 : Int32)), (.int (101 : Int32)), (.int (114 : Int32)), (.int (0 : Int32)), (.int (0 : Int32)), (.int (0 : Int32)), (.int (0 : Int32)), (.int (0 : Int32)), (.int (0 : Int32)), (.int (0 : Int32))] (.int (0 : Int32)) := Arv.set Ar152 q152 S152 M152 Hh152 U152 rfl W152 2 rfl (Nat.le_of_ble_eq_true rfl)
  have N152 := Fr.snoc X152 N148 g_b140
  have O154 : Old Z n0 h152 := O150.wr W152 g_b140
  have Z154 : n0 ≤ h152.size := Nat.le_trans Z150 (Keep.of_wr W152).1
  have K154 : Keep h0 h152 [] := K150.wr W152 (Or.inr sz_b140)
  have f155 : Arv Z h152 b122 k122 .char (5 : Int32) [(.int (112 : Int32)), (.int (108 : Int32)), (.int (97 : Int32)), (.int (105 : Int32)), (.int (110 : Int32))] (.int (0 : Int32)) := f151.other W152 (Nat.ne_of_lt (Nat.lt_of_lt_of_le f138.lt geb140))
  obtain ⟨c156, Ar156, q156, S156, M156, Hh156, U156⟩ := id f153
  obtain ⟨T156, h156, X156, e156, W156, st156⟩ := stC X152 hx hZ e152 Ar156 (j := (3 : Int32)) (inb_of S156 ⟨(by decide : ¬ ((3 : Int32) < (0 : Int32))), (by decide : (3 : Int32) < (10 : Int32))⟩) (g := (mkF m 64 #[.val (.int p1), .val (.int (1 : Int32)), .val (.ref b122), .unset, .unset, .unset, .unset, .unset, .unset] [(.int (105 : Int32)), (.int (3 : Int32)), (.ref b140), (.ref b140)])) rfl rfl (hb hby at_64)
  have f157 : Arv Z h156 b140 k140 .char (10 : Int32) [(.int (115 : Int32)), (.int (101 : Int32)), (.int (114 : Int32)), (.int (105 : Int32)), (.int (0 : Int32)), (.int (0 : Int32)), (.int (0 : Int32)), (.int (0 : Int32)), (.int (0 : Int32)), (.int (0 : Int32))] (.int (0 : Int32)) := Arv.set Ar156 q156 S156 M156 Hh156 U156 rfl W156 3 rfl (Nat.le_of_ble_eq_true rfl)
  have N156 := Fr.snoc X156 N152 g_b140
  have O158 : Old Z n0 h156 := O154.wr W156 g_b140
  have Z158 : n0 ≤ h156.size := Nat.le_trans Z154 (Keep.of_wr W156).1
  have K158 : Keep h0 h156 [] := K154.wr W156 (Or.inr sz_b140)
  have f159 : Arv Z h156 b122 k122 .char (5 : Int32) [(.int (112 : Int32)), (.int (108 : Int32)), (.int (97 : Int32)), (.int (105 : Int32)), (.int (110 : Int32))] (.int (0 : Int32)) := f155.other W156 (Nat.ne_of_lt (Nat.lt_of_lt_of_le f138.lt geb140))
  obtain ⟨c160, Ar160, q160, S160, M160, Hh160, U160⟩ := id f157
  obtain ⟨T160, h160, X160, e160, W160, st160⟩ := stC X156 hx hZ e156 Ar160 (j := (4 : Int32)) (inb_of S160 ⟨(by decide : ¬ ((4 : Int32) < (0 : Int32))), (by decide : (4 : Int32) < (10 : Int32))⟩) (g := (mkF m 69 #[.val (.int p1), .val (.int (1 : Int32)), .val (.ref b122), .unset, .unset, .unset, .unset, .unset, .unset] [(.int (97 : Int32)), (.int (4 : Int32)), (.ref b140), (.ref b140)])) rfl rfl (hb hby at_69)
  have f161 : Arv Z h160 b140 k140 .char (10 : Int32) [(.int (115 : Int32)), (.int (101 : Int32)), (.int (114 : Int32)), (.int (105 : Int32)), (.int (97 : Int32)), (.int (0 : Int32)), (.int (0 : Int32)), (.int (0 : Int32)), (.int (0 : Int32)), (.int (0 : Int32))] (.int (0 : Int32)) := Arv.set Ar160 q160 S160 M160 Hh160 U160 rfl W160 4 rfl (Nat.le_of_ble_eq_true rfl)
  have N160 := Fr.snoc X160 N156 g_b140
  have O162 : Old Z n0 h160 := O158.wr W160 g_b140
  have Z162 : n0 ≤ h160.size := Nat.le_trans Z158 (Keep.of_wr W160).1
  have K162 : Keep h0 h160 [] := K158.wr W160 (Or.inr sz_b140)
  have f163 : Arv Z h160 b122 k122 .char (5 : Int32) [(.int (112 : Int32)), (.int (108 : Int32)), (.int (97 : Int32)), (.int (105 : Int32)), (.int (110 : Int32))] (.int (0 : Int32)) := f159.other W160 (Nat.ne_of_lt (Nat.lt_of_lt_of_le f138.lt geb140))
  obtain ⟨c164, Ar164, q164, S164, M164, Hh164, U164⟩ := id f161
  obtain ⟨T164, h164, X164, e164, W164, st164⟩ := stC X160 hx hZ e160 Ar164 (j := (5 : Int32)) (inb_of S164 ⟨(by decide : ¬ ((5 : Int32) < (0 : Int32))), (by decide : (5 : Int32) < (10 : Int32))⟩) (g := (mkF m 74 #[.val (.int p1), .val (.int (1 : Int32)), .val (.ref b122), .unset, .unset, .unset, .unset, .unset, .unset] [(.int (108 : Int32)), (.int (5 : Int32)), (.ref b140), (.ref b140)])) rfl rfl (hb hby at_74)
  have f165 : Arv Z h164 b140 k140 .char (10 : Int32) [(.int (115 : Int32)), (.int (101 : Int32)), (.int (114 : Int32)), (.int (105 : Int32)), (.int (97 : Int32)), (.int (108 : Int32)), (.int (0 : Int32)), (.int (0 : Int32)), (.int (0 : Int32)), (.int (0 : Int32))] (.int (0 : Int32)) := Arv.set Ar164 q164 S164 M164 Hh164 U164 rfl W164 5 rfl (Nat.le_of_ble_eq_true rfl)
  have N164 := Fr.snoc X164 N160 g_b140
  have O166 : Old Z n0 h164 := O162.wr W164 g_b140
  have Z166 : n0 ≤ h164.size := Nat.le_trans Z162 (Keep.of_wr W164).1
  have K166 : Keep h0 h164 [] := K162.wr W164 (Or.inr sz_b140)
  have f167 : Arv Z h164 b122 k122 .char (5 : Int32) [(.int (112 : Int32)), (.int (108 : Int32)), (.int (97 : Int32)), (.int (105 : Int32)), (.int (110 : Int32))] (.int (0 : Int32)) := f163.other W164 (Nat.ne_of_lt (Nat.lt_of_lt_of_le f138.lt geb140))
  obtain ⟨c168, Ar168, q168, S168, M168, Hh168, U168⟩ := id f165
  obtain ⟨T168, h168, X168, e168, W168, st168⟩ := stC X164 hx hZ e164 Ar168 (j := (6 : Int32)) (inb_of S168 ⟨(by decide : ¬ ((6 : Int32) < (0 : Int32))), (by decide : (6 : Int32) < (10 : Int32))⟩) (g := (mkF m 80 #[.val (.int p1), .val (.int (1 : Int32)), .val (.ref b122), .unset, .unset, .unset, .unset, .unset, .unset] [(.int (105 : Int32)), (.int (6 : Int32)), (.ref b140), (.ref b140)])) rfl rfl (hb hby at_80)
  have f169 : Arv Z h168 b140 k140 .char (10 : Int32) [(.int (115 : Int32)), (.int (101 : Int32)), (.int (114 : Int32)), (.int (105 : Int32)), (.int (97 : Int32)), (.int (108 : Int32)), (.int (105 : Int32)), (.int (0 : Int32)), (.int (0 : Int32)), (.int (0 : Int32))] (.int (0 : Int32)) := Arv.set Ar168 q168 S168 M168 Hh168 U168 rfl W168 6 rfl (Nat.le_of_ble_eq_true rfl)
  have N168 := Fr.snoc X168 N164 g_b140
  have O170 : Old Z n0 h168 := O166.wr W168 g_b140
  have Z170 : n0 ≤ h168.size := Nat.le_trans Z166 (Keep.of_wr W168).1
  have K170 : Keep h0 h168 [] := K166.wr W168 (Or.inr sz_b140)
  have f171 : Arv Z h168 b122 k122 .char (5 : Int32) [(.int (112 : Int32)), (.int (108 : Int32)), (.int (97 : Int32)), (.int (105 : Int32)), (.int (110 : Int32))] (.int (0 : Int32)) := f167.other W168 (Nat.ne_of_lt (Nat.lt_of_lt_of_le f138.lt geb140))
  obtain ⟨c172, Ar172, q172, S172, M172, Hh172, U172⟩ := id f169
  obtain ⟨T172, h172, X172, e172, W172, st172⟩ := stC X168 hx hZ e168 Ar172 (j := (7 : Int32)) (inb_of S172 ⟨(by decide : ¬ ((7 : Int32) < (0 : Int32))), (by decide : (7 : Int32) < (10 : Int32))⟩) (g := (mkF m 86 #[.val (.int p1), .val (.int (1 : Int32)), .val (.ref b122), .unset, .unset, .unset, .unset, .unset, .unset] [(.int (122 : Int32)), (.int (7 : Int32)), (.ref b140), (.ref b140)])) rfl rfl (hb hby at_86)
  have f173 : Arv Z h172 b140 k140 .char (10 : Int32) [(.int (115 : Int32)), (.int (101 : Int32)), (.int (114 : Int32)), (.int (105 : Int32)), (.int (97 : Int32)), (.int (108 : Int32)), (.int (105 : Int32)), (.int (122 : Int32)), (.int (0 : Int32)), (.int (0 : Int32))] (.int (0 : Int32)) := Arv.set Ar172 q172 S172 M172 Hh172 U172 rfl W172 7 rfl (Nat.le_of_ble_eq_true rfl)
  have N172 := Fr.snoc X172 N168 g_b140
  have O174 : Old Z n0 h172 := O170.wr W172 g_b140
  have Z174 : n0 ≤ h172.size := Nat.le_trans Z170 (Keep.of_wr W172).1
  have K174 : Keep h0 h172 [] := K170.wr W172 (Or.inr sz_b140)
  have f175 : Arv Z h172 b122 k122 .char (5 : Int32) [(.int (112 : Int32)), (.int (108 : Int32)), (.int (97 : Int32)), (.int (105 : Int32)), (.int (110 : Int32))] (.int (0 : Int32)) := f171.other W172 (Nat.ne_of_lt (Nat.lt_of_lt_of_le f138.lt geb140))
  obtain ⟨c176, Ar176, q176, S176, M176, Hh176, U176⟩ := id f173
  obtain ⟨T176, h176, X176, e176, W176, st176⟩ := stC X172 hx hZ e172 Ar176 (j := (8 : Int32)) (inb_of S176 ⟨(by decide : ¬ ((8 : Int32) < (0 : Int32))), (by decide : (8 : Int32) < (10 : Int32))⟩) (g := (mkF m 92 #[.val (.int p1), .val (.int (1 : Int32)), .val (.ref b122), .unset, .unset, .unset, .unset, .unset, .unset] [(.int (101 : Int32)), (.int (8 : Int32)), (.ref b140), (.ref b140)])) rfl rfl (hb hby at_92)
  have f177 : Arv Z h176 b140 k140 .char (10 : Int32) [(.int (115 : Int32)), (.int (101 : Int32)), (.int (114 : Int32)), (.int (105 : Int32)), (.int (97 : Int32)), (.int (108 : Int32)), (.int (105 : Int32)), (.int (122 : Int32)), (.int (101 : Int32)), (.int (0 : Int32))] (.int (0 : Int32)) := Arv.set Ar176 q176 S176 M176 Hh176 U176 rfl W176 8 rfl (Nat.le_of_ble_eq_true rfl)
  have N176 := Fr.snoc X176 N172 g_b140
  have O178 : Old Z n0 h176 := O174.wr W176 g_b140
  have Z178 : n0 ≤ h176.size := Nat.le_trans Z174 (Keep.of_wr W176).1
  have K178 : Keep h0 h176 [] := K174.wr W176 (Or.inr sz_b140)
  have f179 : Arv Z h176 b122 k122 .char (5 : Int32) [(.int (112 : Int32)), (.int (108 : Int32)), (.int (97 : Int32)), (.int (105 : Int32)), (.int (110 : Int32))] (.int (0 : Int32)) := f175.other W176 (Nat.ne_of_lt (Nat.lt_of_lt_of_le f138.lt geb140))
  obtain ⟨c180, Ar180, q180, S180, M180, Hh180, U180⟩ := id f177
  obtain ⟨T180, h180, X180, e180, W180, st180⟩ := stC X176 hx hZ e176 Ar180 (j := (9 : Int32)) (inb_of S180 ⟨(by decide : ¬ ((9 : Int32) < (0 : Int32))), (by decide : (9 : Int32) < (10 : Int32))⟩) (g := (mkF m 98 #[.val (.int p1), .val (.int (1 : Int32)), .val (.ref b122), .unset, .unset, .unset, .unset, .unset, .unset] [(.int (100 : Int32)), (.int (9 : Int32)), (.ref b140), (.ref b140)])) rfl rfl (hb hby at_98)
  have f181 : Arv Z h180 b140 k140 .char (10 : Int32) [(.int (115 : Int32)), (.int (101 : Int32)), (.int (114 : Int32)), (.int (105 : Int32)), (.int (97 : Int32)), (.int (108 : Int32)), (.int (105 : Int32)), (.int (122 : Int32)), (.int (101 : Int32)), (.int (100 : Int32))] (.int (0 : Int32)) := Arv.set Ar180 q180 S180 M180 Hh180 U180 rfl W180 9 rfl (Nat.le_of_ble_eq_true rfl)
  have N180 := Fr.snoc X180 N176 g_b140
  have O182 : Old Z n0 h180 := O178.wr W180 g_b140
  have Z182 : n0 ≤ h180.size := Nat.le_trans Z178 (Keep.of_wr W180).1
  have K182 : Keep h0 h180 [] := K178.wr W180 (Or.inr sz_b140)
  have f183 : Arv Z h180 b122 k122 .char (5 : Int32) [(.int (112 : Int32)), (.int (108 : Int32)), (.int (97 : Int32)), (.int (105 : Int32)), (.int (110 : Int32))] (.int (0 : Int32)) := f179.other W180 (Nat.ne_of_lt (Nat.lt_of_lt_of_le f138.lt geb140))
  obtain ⟨T184, h184, X184, e184, E184, A184, D184, -, st184⟩ := newO X180 hx hZ hown (hw _ (List.mem_of_getElem? (i := 1) rfl)) (hw _ (List.mem_of_getElem? (i := 2) rfl)) (hw _ (List.mem_of_getElem? (i := 3) rfl)) e180 (g := (mkF m 104 #[.val (.int p1), .val (.int (1 : Int32)), .val (.ref b122), .val (.ref b140), .unset, .unset, .unset, .unset, .unset] [])) rfl (hb hby at_104) (by decide) (by decide)
  obtain ⟨b184, g184⟩ : ∃ z, z = h180.size := ⟨_, rfl⟩
  rw [← g184] at A184 D184 st184
  have geb184 : h180.size ≤ b184 := Nat.le_of_eq g184.symm
  have g_b184 : n0 ≤ b184 := Nat.le_trans Z182 geb184
  have sz_b184 : h0.size ≤ b184 := Nat.le_trans K182.1 geb184
  have O185 : Old Z n0 h184 := O182.ext E184
  have Z185 : n0 ≤ h184.size := Nat.le_trans Z182 E184.1
  have K185 : Keep h0 h184 [] := K182.ext E184
  have f186 : Arv Z h184 b122 k122 .char (5 : Int32) [(.int (112 : Int32)), (.int (108 : Int32)), (.int (97 : Int32)), (.int (105 : Int32)), (.int (110 : Int32))] (.int (0 : Int32)) := f183.ext E184
  have f187 : Arv Z h184 b140 k140 .char (10 : Int32) [(.int (115 : Int32)), (.int (101 : Int32)), (.int (114 : Int32)), (.int (105 : Int32)), (.int (97 : Int32)), (.int (108 : Int32)), (.int (105 : Int32)), (.int (122 : Int32)), (.int (101 : Int32)), (.int (100 : Int32))] (.int (0 : Int32)) := f181.ext E184
  have f188 : Fld Z h184 b184 "java/lang/String" "coder" "B" (.int (0 : Int32)) := D184 (Or.inr (hw _ (List.mem_of_getElem? (i := 27) rfl))) (ty := .byte) (by decide)
  have f189 : Fld Z h184 b184 "java/lang/String" "value" "[B" .null := D184 (Or.inr (hw _ (List.mem_of_getElem? (i := 29) rfl))) (ty := (.array .byte)) (by decide)
  have hws : ∀ d ∈ StrChars.Road.words, d.before a0 Z = true := fun d hd => hw d ((by decide +kernel : ∀ d ∈ StrChars.Road.words, d ∈ tables_1) d hd)
  have hp190 : ∀ c ∈ ([(115 : Int32), (101 : Int32), (114 : Int32), (105 : Int32), (97 : Int32), (108 : Int32), (105 : Int32), (122 : Int32), (101 : Int32), (100 : Int32)] : List Int32), ¬ c < 0 ∧ ¬ (255 : Int32) < c := by
    decide
  obtain ⟨_, _, ⟨T191, L191, k191, n191⟩, -, X191, ⟨Lc191, hQ191, l191, y191, z191⟩, st191⟩ := X184.specialBack hx (y := (⟨"java/lang/String", "<init>", "([C)V"⟩ : MethodName)) rfl hown (mvT hZ (hw _ (List.mem_of_getElem? (i := 4) rfl))) (mvT hZ (hw _ (List.mem_of_getElem? (i := 5) rfl))) (mvT hZ (hw _ (List.mem_of_getElem? (i := 6) rfl))) (by decide) (StrChars.Road.backV (W := 1) hZ hws (kI := 4) (hw _ (List.mem_of_getElem? (i := 2) rfl)) (cs := ([(115 : Int32), (101 : Int32), (114 : Int32), (105 : Int32), (97 : Int32), (108 : Int32), (105 : Int32), (122 : Int32), (101 : Int32), (100 : Int32)] : List Int32)) (bs := (([(115 : Int32), (101 : Int32), (114 : Int32), (105 : Int32), (97 : Int32), (108 : Int32), (105 : Int32), (122 : Int32), (101 : Int32), (100 : Int32)] : List Int32)).map (fun c => c.toInt8.toInt32)) (n := 10) g_b184 Z185 A184 f189 f188 f187 (OC2.ext O185.2) OCz rfl rfl (by decide) (by decide) hp190 rfl (by decide) (by decide)) (g := (mkF m 109 #[.val (.int p1), .val (.int (1 : Int32)), .val (.ref b122), .val (.ref b140), .unset, .unset, .unset, .unset, .unset] [(.ref b140), (.ref b184), (.ref b184)])) rfl (by rw [hml]; rfl) (Steps.refl _) (a := b184) (argsL := [(.ref b140)]) (rest := [(.ref b184)]) (lenOf pd___C_V rfl) rfl (by show 2 * 0 + _ ≤ _; exact Nat.le_of_eq rfl) (hb hby at_109) (fun _ _ => ⟨rfl, e184, (by decide : 3 + 1 ≤ _), (by decide : 19 + 10 ≤ _)⟩)
  dsimp only [Pt.U, Pt.locs, Pt.cells, Pt.slots] at X191 l191 y191 z191 st191 hQ191
  subst l191 y191 z191
  obtain ⟨rfl, N191q, K191k, g1191, g2191, t191, kb191, u1191, u2191, u3191, g3191, g4191⟩ := hQ191
  have N191 := Fr.app N180 N191q
  have O192 : Old Z n0 T191.heap := O185.keep K191k (allS g_b184 all0)
  have Z192 : n0 ≤ T191.heap.size := Nat.le_trans Z185 K191k.1
  have K192 : Keep h0 T191.heap [] := K185.trans K191k (allS (Or.inr sz_b184) all0)
  have f193 : Arv Z T191.heap b122 k122 .char (5 : Int32) [(.int (112 : Int32)), (.int (108 : Int32)), (.int (97 : Int32)), (.int (105 : Int32)), (.int (110 : Int32))] (.int (0 : Int32)) := f186.keep K191k (ninS (Nat.ne_of_lt (Nat.lt_of_lt_of_le f183.lt geb184)) nin0)
  have f194 : Arv Z T191.heap b140 k140 .char (10 : Int32) [(.int (115 : Int32)), (.int (101 : Int32)), (.int (114 : Int32)), (.int (105 : Int32)), (.int (97 : Int32)), (.int (108 : Int32)), (.int (105 : Int32)), (.int (122 : Int32)), (.int (101 : Int32)), (.int (100 : Int32))] (.int (0 : Int32)) := f187.keep K191k (ninS (Nat.ne_of_lt (Nat.lt_of_lt_of_le f181.lt geb184)) nin0)
  have f195 : Exa Z T191.heap b184 "java/lang/String" := A184.keep K191k
  have sz_t191 : h0.size ≤ t191 := Nat.le_trans K185.1 u2191
  obtain ⟨T196, X196, e196, st196⟩ := getS2 X191 hx hZ hown (host := "") (Or.inl (hw _ (List.mem_of_getElem? (i := 70) rfl))) Via.refl rfl (SO1.ext O192.2) (g := (mkF m 129 #[.val (.int p1), .val (.int (1 : Int32)), .val (.ref b122), .val (.ref b140), .val (.ref b184), .unset, .unset, .unset, .unset] [])) rfl (hb hby at_129)
  obtain ⟨_, _, ⟨T197, L197, k197, n197⟩, -, X197, ⟨Lc197, hQ197, l197, y197, z197⟩, st197⟩ := Jvm.LawKit.callS X196 hx (y := (⟨"holdfast/redis/IndexMemberEncoding", "ofSettingValue", "(Ljava/lang/String;)Lholdfast/redis/IndexMemberEncoding;"⟩ : MethodName)) hown (mvT hZ (hw _ (List.mem_of_getElem? (i := 33) rfl))) (mvT hZ (hw _ (List.mem_of_getElem? (i := 34) rfl))) (mvT hZ (hw _ (List.mem_of_getElem? (i := 31) rfl))) (mvT hZ (hw _ (List.mem_of_getElem? (i := 35) rfl))) (by decide) (backOf (W := 0) (rmParse1 l Z a0 hw [] va v0 w0 y0 v1 w1 y1 kv k0b k1b GC b184 t191 kb191 T191.heap n0 O192 SV EV AV SO0 EO0 FO0 EW0 CW0 VW0 AW0 SO1 EO1 FO1 EW1 CW1 VW1 AW1 OC2 OCz g1191 g2191 g3191 g4191) hZ (hw _ (List.mem_of_getElem? (i := 35) rfl)) (hw _ (List.mem_of_getElem? (i := 31) rfl)) (by decide) (by decide)) (g := (mkF m 142 #[.val (.int p1), .val (.int (1 : Int32)), .val (.ref b122), .val (.ref b140), .val (.ref b184), .val (.ref v1), .unset, .unset, .unset] [(.ref b184)])) rfl (by rw [hml]; rfl) (argsL := [(.ref b184)]) (rest := []) (lenOf pd__Ljava_lang_String__Lholdfast_redis_IndexMemberEncoding_ rfl) rfl (by show 2 * 0 + _ ≤ _; exact Nat.le_of_eq rfl) (hb hby at_142) (fun _ _ => ⟨rfl, e196, (by decide : 4 + 1 ≤ _), (by decide : 29 + 2 ≤ _)⟩)
  dsimp only [Pt.U, Pt.locs, Pt.cells, Pt.slots] at X197 l197 y197 z197 st197 hQ197
  subst l197 y197 z197
  obtain ⟨rfl, N197q, K197k⟩ := hQ197
  have N197 := Fr.app N191 N197q
  have O198 : Old Z n0 T197.heap := O192.keep K197k all0
  have Z198 : n0 ≤ T197.heap.size := Nat.le_trans Z192 K197k.1
  have K198 : Keep h0 T197.heap [] := K192.trans K197k all0
  have f199 : Arv Z T197.heap b122 k122 .char (5 : Int32) [(.int (112 : Int32)), (.int (108 : Int32)), (.int (97 : Int32)), (.int (105 : Int32)), (.int (110 : Int32))] (.int (0 : Int32)) := f193.keep K197k nin0
  have f200 : Arv Z T197.heap b140 k140 .char (10 : Int32) [(.int (115 : Int32)), (.int (101 : Int32)), (.int (114 : Int32)), (.int (105 : Int32)), (.int (97 : Int32)), (.int (108 : Int32)), (.int (105 : Int32)), (.int (122 : Int32)), (.int (101 : Int32)), (.int (100 : Int32))] (.int (0 : Int32)) := f194.keep K197k nin0
  have f201 : Exa Z T197.heap b184 "java/lang/String" := g1191.keep K197k
  have f202 : Fld Z T197.heap b184 "java/lang/String" "coder" "B" (.int 0) := g2191.keep K197k nin0
  have f203 : Fld Z T197.heap b184 "java/lang/String" "value" "[B" (.ref t191) := g3191.keep K197k nin0
  have f204 : Arv Z T197.heap t191 kb191 .byte (10 : Int32) (((([(115 : Int32), (101 : Int32), (114 : Int32), (105 : Int32), (97 : Int32), (108 : Int32), (105 : Int32), (122 : Int32), (101 : Int32), (100 : Int32)] : List Int32)).map (fun c => c.toInt8.toInt32)).map Value.int) (.int 0) := g4191.keep K197k nin0
  obtain ⟨cq205, kq205, qa205, qb205, qc205⟩ := isOf hZ rfl (EO1.ext O198.2)
  obtain ⟨_, _, ⟨T205, L205, k205, n205⟩, -, X205, ⟨Lc205, hQ205, l205, y205, z205⟩, st205⟩ := X197.virtualBack hx (y := (⟨"holdfast/redis/IndexMemberEncoding", "settingValue", "()Ljava/lang/String;"⟩ : MethodName)) (z := (⟨"holdfast/redis/IndexMemberEncoding", "settingValue", "()Ljava/lang/String;"⟩ : MethodName)) hown (mvT hZ (hw _ (List.mem_of_getElem? (i := 64) rfl))) (mvT hZ (hw _ (List.mem_of_getElem? (i := 65) rfl))) (notFace_of_selects (args := #[]) (mvT hZ (hw _ (List.mem_of_getElem? (i := 67) rfl)))) (mvT hZ (hw _ (List.mem_of_getElem? (i := 67) rfl))) (mvT hZ (hw _ (List.mem_of_getElem? (i := 66) rfl))) (by decide) (backOf (W := 0) (rmGet l Z a0 hw [] v1 w1 T197.heap n0 O198 (FO1.ext O198.2)) hZ (hw _ (List.mem_of_getElem? (i := 68) rfl)) (hw _ (List.mem_of_getElem? (i := 31) rfl)) (by decide) (by decide)) qa205 qc205 (g := (mkF m 149 #[.val (.int p1), .val (.int (1 : Int32)), .val (.ref b122), .val (.ref b140), .val (.ref b184), .val (.ref v1), .val (.ref v1), .unset, .unset] [(.ref v1)])) rfl (by rw [hml]; rfl) (Steps.refl _) (argsL := []) (rest := []) (lenOf pd___Ljava_lang_String_ rfl) rfl (by show 2 * 0 + _ ≤ _; exact Nat.le_of_eq rfl) (hb hby at_149) (fun _ _ => ⟨rfl, rfl, (by decide : 5 + 0 ≤ _), (by decide : 31 + 0 ≤ _)⟩)
  dsimp only [Pt.U, Pt.locs, Pt.cells, Pt.slots] at X205 l205 y205 z205 st205 hQ205
  subst l205 y205 z205
  obtain ⟨rfl, N205q, e205⟩ := hQ205
  have N205 := Fr.app N197 N205q
  obtain ⟨_, _, ⟨T206, L206, k206, n206⟩, -, X206, ⟨Lc206, hQ206, l206, y206, z206⟩, st206⟩ := Jvm.LawKit.callS X205 hx (y := (⟨"holdfast/redis/IndexMemberEncoding", "ofSettingValue", "(Ljava/lang/String;)Lholdfast/redis/IndexMemberEncoding;"⟩ : MethodName)) hown (mvT hZ (hw _ (List.mem_of_getElem? (i := 33) rfl))) (mvT hZ (hw _ (List.mem_of_getElem? (i := 34) rfl))) (mvT hZ (hw _ (List.mem_of_getElem? (i := 31) rfl))) (mvT hZ (hw _ (List.mem_of_getElem? (i := 35) rfl))) (by decide) (backOf (W := 0) (rmParse1 l Z a0 hw [] va v0 w0 y0 v1 w1 y1 kv k0b k1b GC w1 y1 k1b T197.heap n0 O198 SV EV AV SO0 EO0 FO0 EW0 CW0 VW0 AW0 SO1 EO1 FO1 EW1 CW1 VW1 AW1 OC2 OCz (EW1.ext O198.2) (CW1.ext O198.2) (VW1.ext O198.2) (AW1.ext O198.2)) hZ (hw _ (List.mem_of_getElem? (i := 35) rfl)) (hw _ (List.mem_of_getElem? (i := 31) rfl)) (by decide) (by decide)) (g := (mkF m 156 #[.val (.int p1), .val (.int (1 : Int32)), .val (.ref b122), .val (.ref b140), .val (.ref b184), .val (.ref v1), .val (.ref v1), .val (.ref w1), .unset] [(.ref w1)])) rfl (by rw [hml]; rfl) (argsL := [(.ref w1)]) (rest := []) (lenOf pd__Ljava_lang_String__Lholdfast_redis_IndexMemberEncoding_ rfl) rfl (by show 2 * 0 + _ ≤ _; exact Nat.le_of_eq rfl) (hb hby at_156) (fun _ _ => ⟨rfl, e205, (by decide : 5 + 1 ≤ _), (by decide : 31 + 2 ≤ _)⟩)
  dsimp only [Pt.U, Pt.locs, Pt.cells, Pt.slots] at X206 l206 y206 z206 st206 hQ206
  subst l206 y206 z206
  obtain ⟨rfl, N206q, K206k⟩ := hQ206
  have N206 := Fr.app N205 N206q
  have O207 : Old Z n0 T206.heap := O198.keep K206k all0
  have Z207 : n0 ≤ T206.heap.size := Nat.le_trans Z198 K206k.1
  have K207 : Keep h0 T206.heap [] := K198.trans K206k all0
  have f208 : Arv Z T206.heap b122 k122 .char (5 : Int32) [(.int (112 : Int32)), (.int (108 : Int32)), (.int (97 : Int32)), (.int (105 : Int32)), (.int (110 : Int32))] (.int (0 : Int32)) := f199.keep K206k nin0
  have f209 : Arv Z T206.heap b140 k140 .char (10 : Int32) [(.int (115 : Int32)), (.int (101 : Int32)), (.int (114 : Int32)), (.int (105 : Int32)), (.int (97 : Int32)), (.int (108 : Int32)), (.int (105 : Int32)), (.int (122 : Int32)), (.int (101 : Int32)), (.int (100 : Int32))] (.int (0 : Int32)) := f200.keep K206k nin0
  have f210 : Exa Z T206.heap b184 "java/lang/String" := f201.keep K206k
  have f211 : Fld Z T206.heap b184 "java/lang/String" "coder" "B" (.int 0) := f202.keep K206k nin0
  have f212 : Fld Z T206.heap b184 "java/lang/String" "value" "[B" (.ref t191) := f203.keep K206k nin0
  have f213 : Arv Z T206.heap t191 kb191 .byte (10 : Int32) (((([(115 : Int32), (101 : Int32), (114 : Int32), (105 : Int32), (97 : Int32), (108 : Int32), (105 : Int32), (122 : Int32), (101 : Int32), (100 : Int32)] : List Int32)).map (fun c => c.toInt8.toInt32)).map Value.int) (.int 0) := f204.keep K206k nin0
  have heq : ∀ d ∈ StrChars.Road.wordsEq, d.before a0 Z = true := fun d hd => hw d ((by decide +kernel : ∀ d ∈ StrChars.Road.wordsEq, d ∈ tables_1) d hd)
  obtain ⟨cq214, kq214, qa214, qb214, qc214⟩ := isOf hZ rfl (EW1.ext O207.2)
  obtain ⟨_, _, ⟨T214, L214, k214, n214⟩, -, X214, ⟨Lc214, hQ214, l214, y214, z214⟩, st214⟩ := X206.virtualBack hx (y := (⟨"java/lang/String", "equals", "(Ljava/lang/Object;)Z"⟩ : MethodName)) (z := (⟨"java/lang/String", "equals", "(Ljava/lang/Object;)Z"⟩ : MethodName)) hown (mvT hZ (hw _ (List.mem_of_getElem? (i := 69) rfl))) (mvT hZ (hw _ (List.mem_of_getElem? (i := 55) rfl))) (notFace_of_selects (args := #[]) (mvT hZ (hw _ (List.mem_of_getElem? (i := 57) rfl)))) (mvT hZ (hw _ (List.mem_of_getElem? (i := 57) rfl))) (mvT hZ (hw _ (List.mem_of_getElem? (i := 56) rfl))) (by decide) (StrChars.Road.eqW (W := 0) hZ heq (kI := 4) (hw _ (List.mem_of_getElem? (i := 2) rfl)) (EW1.ext O207.2) (VW1.ext O207.2) (CW1.ext O207.2) (AW1.ext O207.2) own_cod1 own_lat1 own_len1 f210 f212 f211 f213 own_codT1 own_lat1 own_len1 (OC2.ext O207.2) OCz (by decide) (by decide)) qa214 qc214 (g := (mkF m 179 #[.val (.int p1), .val (.int (1 : Int32)), .val (.ref b122), .val (.ref b140), .val (.ref b184), .val (.ref v1), .val (.ref v1), .val (.ref w1), .val (.ref v1)] [(.ref b184), (.ref w1)])) rfl (by rw [hml]; rfl) (Steps.refl _) (argsL := [(.ref b184)]) (rest := []) (lenOf pd__Ljava_lang_Object__Z rfl) rfl (by show 2 * 0 + _ ≤ _; exact Nat.le_of_eq rfl) (hb hby at_179) (fun _ _ => ⟨rfl, rfl, (by decide : 6 + 0 ≤ _), (by decide : 33 + 0 ≤ _)⟩)
  dsimp only [Pt.U, Pt.locs, Pt.cells, Pt.slots] at X214 l214 y214 z214 st214 hQ214
  subst l214 y214 z214
  obtain ⟨hd214, rfl, e214⟩ := hQ214
  obtain ⟨rfl, -⟩ := hd214.resolve_right (fun q => q.2 rfl)
  have N214q : Fr n0 ([] : List Loc) := Fr.nil n0
  have N214 := Fr.app N206 N214q
  obtain ⟨fs, hr, hrun, hended, hW, hsame⟩ := X214.leave (v := some (.int (1 : Int32))) (fun h => by rw [Bd.returns] at h; cases h)
  refine ⟨_, _, pre0 _ ?_, hrun, hended, _, _, rfl, ?_, ⟨_, rfl⟩, hW, hsame.mono (by decide) (by decide)⟩
  · show Steps p.tables e below (s₁.setTop (mkF m 0 #[.val (.int p1), .unset, .unset, .unset, .unset, .unset, .unset, .unset, .unset] [])) _
    refine XS.iloadN X0.here hx rfl (hb hby at_0) rfl ?_
    show Steps p.tables e below (s₁.setTop (mkF m 1 #[.val (.int p1), .unset, .unset, .unset, .unset, .unset, .unset, .unset, .unset] [(.int p1)])) _
    refine XS.iconst X0.here hx rfl (hb hby at_1) ?_
    show Steps p.tables e below (s₁.setTop (mkF m 2 #[.val (.int p1), .unset, .unset, .unset, .unset, .unset, .unset, .unset, .unset] [(.int (1 : Int32)), (.int p1)])) _
    refine XS.iand X0.here hx rfl (hb hby at_2) rfl ?_
    show Steps p.tables e below (s₁.setTop (mkF m 3 #[.val (.int p1), .unset, .unset, .unset, .unset, .unset, .unset, .unset, .unset] [(.int (p1 &&& (1 : Int32)))])) _
    refine XS.ifNo X0.here hx rfl (hb hby at_3) rfl ((if0 _ _).trans (feq (hbit : ¬ ((p1 &&& (1 : Int32)) = (0 : Int32)))).1) ?_
    show Steps p.tables e below (s₁.setTop (mkF m 6 #[.val (.int p1), .unset, .unset, .unset, .unset, .unset, .unset, .unset, .unset] [])) _
    refine XS.iconst X0.here hx rfl (hb hby at_6) ?_
    show Steps p.tables e below (s₁.setTop (mkF m 7 #[.val (.int p1), .unset, .unset, .unset, .unset, .unset, .unset, .unset, .unset] [(.int (1 : Int32))])) _
    refine XS.goto X0.here hx rfl (pc0 := 7) (pc' := 11) rfl (hb hby at_7) (by decide) (by decide) ?_
    show Steps p.tables e below (s₁.setTop (mkF m 11 #[.val (.int p1), .unset, .unset, .unset, .unset, .unset, .unset, .unset, .unset] [(.int (1 : Int32))])) _
    refine XS.istoreN X0.here hx rfl (hb hby at_11) rfl (l' := #[.val (.int p1), .val (.int (1 : Int32)), .unset, .unset, .unset, .unset, .unset, .unset, .unset]) rfl ?_
    show Steps p.tables e below (s₁.setTop (mkF m 12 #[.val (.int p1), .val (.int (1 : Int32)), .unset, .unset, .unset, .unset, .unset, .unset, .unset] [])) _
    refine XS.iconst X0.here hx rfl (hb hby at_12) ?_
    show Steps p.tables e below (s₁.setTop (mkF m 13 #[.val (.int p1), .val (.int (1 : Int32)), .unset, .unset, .unset, .unset, .unset, .unset, .unset] [(.int (5 : Int32))])) _
    refine st122 _ ?_
    show Steps p.tables e below (T122.setTop (mkF m 15 #[.val (.int p1), .val (.int (1 : Int32)), .unset, .unset, .unset, .unset, .unset, .unset, .unset] [(.ref b122)])) _
    refine XS.dup X122.here hx rfl (hb hby at_15) rfl rfl ?_
    show Steps p.tables e below (T122.setTop (mkF m 16 #[.val (.int p1), .val (.int (1 : Int32)), .unset, .unset, .unset, .unset, .unset, .unset, .unset] [(.ref b122), (.ref b122)])) _
    refine XS.iconst X122.here hx rfl (hb hby at_16) ?_
    show Steps p.tables e below (T122.setTop (mkF m 17 #[.val (.int p1), .val (.int (1 : Int32)), .unset, .unset, .unset, .unset, .unset, .unset, .unset] [(.int (0 : Int32)), (.ref b122), (.ref b122)])) _
    refine XS.bipush X122.here hx rfl (hb hby at_17) ?_
    show Steps p.tables e below (T122.setTop (mkF m 19 #[.val (.int p1), .val (.int (1 : Int32)), .unset, .unset, .unset, .unset, .unset, .unset, .unset] [(.int (112 : Int32)), (.int (0 : Int32)), (.ref b122), (.ref b122)])) _
    refine st125 _ ?_
    show Steps p.tables e below (T125.setTop (mkF m 20 #[.val (.int p1), .val (.int (1 : Int32)), .unset, .unset, .unset, .unset, .unset, .unset, .unset] [(.ref b122)])) _
    refine XS.dup X125.here hx rfl (hb hby at_20) rfl rfl ?_
    show Steps p.tables e below (T125.setTop (mkF m 21 #[.val (.int p1), .val (.int (1 : Int32)), .unset, .unset, .unset, .unset, .unset, .unset, .unset] [(.ref b122), (.ref b122)])) _
    refine XS.iconst X125.here hx rfl (hb hby at_21) ?_
    show Steps p.tables e below (T125.setTop (mkF m 22 #[.val (.int p1), .val (.int (1 : Int32)), .unset, .unset, .unset, .unset, .unset, .unset, .unset] [(.int (1 : Int32)), (.ref b122), (.ref b122)])) _
    refine XS.bipush X125.here hx rfl (hb hby at_22) ?_
    show Steps p.tables e below (T125.setTop (mkF m 24 #[.val (.int p1), .val (.int (1 : Int32)), .unset, .unset, .unset, .unset, .unset, .unset, .unset] [(.int (108 : Int32)), (.int (1 : Int32)), (.ref b122), (.ref b122)])) _
    refine st128 _ ?_
    show Steps p.tables e below (T128.setTop (mkF m 25 #[.val (.int p1), .val (.int (1 : Int32)), .unset, .unset, .unset, .unset, .unset, .unset, .unset] [(.ref b122)])) _
    refine XS.dup X128.here hx rfl (hb hby at_25) rfl rfl ?_
    show Steps p.tables e below (T128.setTop (mkF m 26 #[.val (.int p1), .val (.int (1 : Int32)), .unset, .unset, .unset, .unset, .unset, .unset, .unset] [(.ref b122), (.ref b122)])) _
    refine XS.iconst X128.here hx rfl (hb hby at_26) ?_
    show Steps p.tables e below (T128.setTop (mkF m 27 #[.val (.int p1), .val (.int (1 : Int32)), .unset, .unset, .unset, .unset, .unset, .unset, .unset] [(.int (2 : Int32)), (.ref b122), (.ref b122)])) _
    refine XS.bipush X128.here hx rfl (hb hby at_27) ?_
    show Steps p.tables e below (T128.setTop (mkF m 29 #[.val (.int p1), .val (.int (1 : Int32)), .unset, .unset, .unset, .unset, .unset, .unset, .unset] [(.int (97 : Int32)), (.int (2 : Int32)), (.ref b122), (.ref b122)])) _
    refine st131 _ ?_
    show Steps p.tables e below (T131.setTop (mkF m 30 #[.val (.int p1), .val (.int (1 : Int32)), .unset, .unset, .unset, .unset, .unset, .unset, .unset] [(.ref b122)])) _
    refine XS.dup X131.here hx rfl (hb hby at_30) rfl rfl ?_
    show Steps p.tables e below (T131.setTop (mkF m 31 #[.val (.int p1), .val (.int (1 : Int32)), .unset, .unset, .unset, .unset, .unset, .unset, .unset] [(.ref b122), (.ref b122)])) _
    refine XS.iconst X131.here hx rfl (hb hby at_31) ?_
    show Steps p.tables e below (T131.setTop (mkF m 32 #[.val (.int p1), .val (.int (1 : Int32)), .unset, .unset, .unset, .unset, .unset, .unset, .unset] [(.int (3 : Int32)), (.ref b122), (.ref b122)])) _
    refine XS.bipush X131.here hx rfl (hb hby at_32) ?_
    show Steps p.tables e below (T131.setTop (mkF m 34 #[.val (.int p1), .val (.int (1 : Int32)), .unset, .unset, .unset, .unset, .unset, .unset, .unset] [(.int (105 : Int32)), (.int (3 : Int32)), (.ref b122), (.ref b122)])) _
    refine st134 _ ?_
    show Steps p.tables e below (T134.setTop (mkF m 35 #[.val (.int p1), .val (.int (1 : Int32)), .unset, .unset, .unset, .unset, .unset, .unset, .unset] [(.ref b122)])) _
    refine XS.dup X134.here hx rfl (hb hby at_35) rfl rfl ?_
    show Steps p.tables e below (T134.setTop (mkF m 36 #[.val (.int p1), .val (.int (1 : Int32)), .unset, .unset, .unset, .unset, .unset, .unset, .unset] [(.ref b122), (.ref b122)])) _
    refine XS.iconst X134.here hx rfl (hb hby at_36) ?_
    show Steps p.tables e below (T134.setTop (mkF m 37 #[.val (.int p1), .val (.int (1 : Int32)), .unset, .unset, .unset, .unset, .unset, .unset, .unset] [(.int (4 : Int32)), (.ref b122), (.ref b122)])) _
    refine XS.bipush X134.here hx rfl (hb hby at_37) ?_
    show Steps p.tables e below (T134.setTop (mkF m 39 #[.val (.int p1), .val (.int (1 : Int32)), .unset, .unset, .unset, .unset, .unset, .unset, .unset] [(.int (110 : Int32)), (.int (4 : Int32)), (.ref b122), (.ref b122)])) _
    refine st137 _ ?_
    show Steps p.tables e below (T137.setTop (mkF m 40 #[.val (.int p1), .val (.int (1 : Int32)), .unset, .unset, .unset, .unset, .unset, .unset, .unset] [(.ref b122)])) _
    refine XS.astoreN X137.here hx rfl (hb hby at_40) rfl rfl (l' := #[.val (.int p1), .val (.int (1 : Int32)), .val (.ref b122), .unset, .unset, .unset, .unset, .unset, .unset]) rfl ?_
    show Steps p.tables e below (T137.setTop (mkF m 41 #[.val (.int p1), .val (.int (1 : Int32)), .val (.ref b122), .unset, .unset, .unset, .unset, .unset, .unset] [])) _
    refine XS.bipush X137.here hx rfl (hb hby at_41) ?_
    show Steps p.tables e below (T137.setTop (mkF m 43 #[.val (.int p1), .val (.int (1 : Int32)), .val (.ref b122), .unset, .unset, .unset, .unset, .unset, .unset] [(.int (10 : Int32))])) _
    refine st140 _ ?_
    show Steps p.tables e below (T140.setTop (mkF m 45 #[.val (.int p1), .val (.int (1 : Int32)), .val (.ref b122), .unset, .unset, .unset, .unset, .unset, .unset] [(.ref b140)])) _
    refine XS.dup X140.here hx rfl (hb hby at_45) rfl rfl ?_
    show Steps p.tables e below (T140.setTop (mkF m 46 #[.val (.int p1), .val (.int (1 : Int32)), .val (.ref b122), .unset, .unset, .unset, .unset, .unset, .unset] [(.ref b140), (.ref b140)])) _
    refine XS.iconst X140.here hx rfl (hb hby at_46) ?_
    show Steps p.tables e below (T140.setTop (mkF m 47 #[.val (.int p1), .val (.int (1 : Int32)), .val (.ref b122), .unset, .unset, .unset, .unset, .unset, .unset] [(.int (0 : Int32)), (.ref b140), (.ref b140)])) _
    refine XS.bipush X140.here hx rfl (hb hby at_47) ?_
    show Steps p.tables e below (T140.setTop (mkF m 49 #[.val (.int p1), .val (.int (1 : Int32)), .val (.ref b122), .unset, .unset, .unset, .unset, .unset, .unset] [(.int (115 : Int32)), (.int (0 : Int32)), (.ref b140), (.ref b140)])) _
    refine st144 _ ?_
    show Steps p.tables e below (T144.setTop (mkF m 50 #[.val (.int p1), .val (.int (1 : Int32)), .val (.ref b122), .unset, .unset, .unset, .unset, .unset, .unset] [(.ref b140)])) _
    refine XS.dup X144.here hx rfl (hb hby at_50) rfl rfl ?_
    show Steps p.tables e below (T144.setTop (mkF m 51 #[.val (.int p1), .val (.int (1 : Int32)), .val (.ref b122), .unset, .unset, .unset, .unset, .unset, .unset] [(.ref b140), (.ref b140)])) _
    refine XS.iconst X144.here hx rfl (hb hby at_51) ?_
    show Steps p.tables e below (T144.setTop (mkF m 52 #[.val (.int p1), .val (.int (1 : Int32)), .val (.ref b122), .unset, .unset, .unset, .unset, .unset, .unset] [(.int (1 : Int32)), (.ref b140), (.ref b140)])) _
    refine XS.bipush X144.here hx rfl (hb hby at_52) ?_
    show Steps p.tables e below (T144.setTop (mkF m 54 #[.val (.int p1), .val (.int (1 : Int32)), .val (.ref b122), .unset, .unset, .unset, .unset, .unset, .unset] [(.int (101 : Int32)), (.int (1 : Int32)), (.ref b140), (.ref b140)])) _
    refine st148 _ ?_
    show Steps p.tables e below (T148.setTop (mkF m 55 #[.val (.int p1), .val (.int (1 : Int32)), .val (.ref b122), .unset, .unset, .unset, .unset, .unset, .unset] [(.ref b140)])) _
    refine XS.dup X148.here hx rfl (hb hby at_55) rfl rfl ?_
    show Steps p.tables e below (T148.setTop (mkF m 56 #[.val (.int p1), .val (.int (1 : Int32)), .val (.ref b122), .unset, .unset, .unset, .unset, .unset, .unset] [(.ref b140), (.ref b140)])) _
    refine XS.iconst X148.here hx rfl (hb hby at_56) ?_
    show Steps p.tables e below (T148.setTop (mkF m 57 #[.val (.int p1), .val (.int (1 : Int32)), .val (.ref b122), .unset, .unset, .unset, .unset, .unset, .unset] [(.int (2 : Int32)), (.ref b140), (.ref b140)])) _
    refine XS.bipush X148.here hx rfl (hb hby at_57) ?_
    show Steps p.tables e below (T148.setTop (mkF m 59 #[.val (.int p1), .val (.int (1 : Int32)), .val (.ref b122), .unset, .unset, .unset, .unset, .unset, .unset] [(.int (114 : Int32)), (.int (2 : Int32)), (.ref b140), (.ref b140)])) _
    refine st152 _ ?_
    show Steps p.tables e below (T152.setTop (mkF m 60 #[.val (.int p1), .val (.int (1 : Int32)), .val (.ref b122), .unset, .unset, .unset, .unset, .unset, .unset] [(.ref b140)])) _
    refine XS.dup X152.here hx rfl (hb hby at_60) rfl rfl ?_
    show Steps p.tables e below (T152.setTop (mkF m 61 #[.val (.int p1), .val (.int (1 : Int32)), .val (.ref b122), .unset, .unset, .unset, .unset, .unset, .unset] [(.ref b140), (.ref b140)])) _
    refine XS.iconst X152.here hx rfl (hb hby at_61) ?_
    show Steps p.tables e below (T152.setTop (mkF m 62 #[.val (.int p1), .val (.int (1 : Int32)), .val (.ref b122), .unset, .unset, .unset, .unset, .unset, .unset] [(.int (3 : Int32)), (.ref b140), (.ref b140)])) _
    refine XS.bipush X152.here hx rfl (hb hby at_62) ?_
    show Steps p.tables e below (T152.setTop (mkF m 64 #[.val (.int p1), .val (.int (1 : Int32)), .val (.ref b122), .unset, .unset, .unset, .unset, .unset, .unset] [(.int (105 : Int32)), (.int (3 : Int32)), (.ref b140), (.ref b140)])) _
    refine st156 _ ?_
    show Steps p.tables e below (T156.setTop (mkF m 65 #[.val (.int p1), .val (.int (1 : Int32)), .val (.ref b122), .unset, .unset, .unset, .unset, .unset, .unset] [(.ref b140)])) _
    refine XS.dup X156.here hx rfl (hb hby at_65) rfl rfl ?_
    show Steps p.tables e below (T156.setTop (mkF m 66 #[.val (.int p1), .val (.int (1 : Int32)), .val (.ref b122), .unset, .unset, .unset, .unset, .unset, .unset] [(.ref b140), (.ref b140)])) _
    refine XS.iconst X156.here hx rfl (hb hby at_66) ?_
    show Steps p.tables e below (T156.setTop (mkF m 67 #[.val (.int p1), .val (.int (1 : Int32)), .val (.ref b122), .unset, .unset, .unset, .unset, .unset, .unset] [(.int (4 : Int32)), (.ref b140), (.ref b140)])) _
    refine XS.bipush X156.here hx rfl (hb hby at_67) ?_
    show Steps p.tables e below (T156.setTop (mkF m 69 #[.val (.int p1), .val (.int (1 : Int32)), .val (.ref b122), .unset, .unset, .unset, .unset, .unset, .unset] [(.int (97 : Int32)), (.int (4 : Int32)), (.ref b140), (.ref b140)])) _
    refine st160 _ ?_
    show Steps p.tables e below (T160.setTop (mkF m 70 #[.val (.int p1), .val (.int (1 : Int32)), .val (.ref b122), .unset, .unset, .unset, .unset, .unset, .unset] [(.ref b140)])) _
    refine XS.dup X160.here hx rfl (hb hby at_70) rfl rfl ?_
    show Steps p.tables e below (T160.setTop (mkF m 71 #[.val (.int p1), .val (.int (1 : Int32)), .val (.ref b122), .unset, .unset, .unset, .unset, .unset, .unset] [(.ref b140), (.ref b140)])) _
    refine XS.iconst X160.here hx rfl (hb hby at_71) ?_
    show Steps p.tables e below (T160.setTop (mkF m 72 #[.val (.int p1), .val (.int (1 : Int32)), .val (.ref b122), .unset, .unset, .unset, .unset, .unset, .unset] [(.int (5 : Int32)), (.ref b140), (.ref b140)])) _
    refine XS.bipush X160.here hx rfl (hb hby at_72) ?_
    show Steps p.tables e below (T160.setTop (mkF m 74 #[.val (.int p1), .val (.int (1 : Int32)), .val (.ref b122), .unset, .unset, .unset, .unset, .unset, .unset] [(.int (108 : Int32)), (.int (5 : Int32)), (.ref b140), (.ref b140)])) _
    refine st164 _ ?_
    show Steps p.tables e below (T164.setTop (mkF m 75 #[.val (.int p1), .val (.int (1 : Int32)), .val (.ref b122), .unset, .unset, .unset, .unset, .unset, .unset] [(.ref b140)])) _
    refine XS.dup X164.here hx rfl (hb hby at_75) rfl rfl ?_
    show Steps p.tables e below (T164.setTop (mkF m 76 #[.val (.int p1), .val (.int (1 : Int32)), .val (.ref b122), .unset, .unset, .unset, .unset, .unset, .unset] [(.ref b140), (.ref b140)])) _
    refine XS.bipush X164.here hx rfl (hb hby at_76) ?_
    show Steps p.tables e below (T164.setTop (mkF m 78 #[.val (.int p1), .val (.int (1 : Int32)), .val (.ref b122), .unset, .unset, .unset, .unset, .unset, .unset] [(.int (6 : Int32)), (.ref b140), (.ref b140)])) _
    refine XS.bipush X164.here hx rfl (hb hby at_78) ?_
    show Steps p.tables e below (T164.setTop (mkF m 80 #[.val (.int p1), .val (.int (1 : Int32)), .val (.ref b122), .unset, .unset, .unset, .unset, .unset, .unset] [(.int (105 : Int32)), (.int (6 : Int32)), (.ref b140), (.ref b140)])) _
    refine st168 _ ?_
    show Steps p.tables e below (T168.setTop (mkF m 81 #[.val (.int p1), .val (.int (1 : Int32)), .val (.ref b122), .unset, .unset, .unset, .unset, .unset, .unset] [(.ref b140)])) _
    refine XS.dup X168.here hx rfl (hb hby at_81) rfl rfl ?_
    show Steps p.tables e below (T168.setTop (mkF m 82 #[.val (.int p1), .val (.int (1 : Int32)), .val (.ref b122), .unset, .unset, .unset, .unset, .unset, .unset] [(.ref b140), (.ref b140)])) _
    refine XS.bipush X168.here hx rfl (hb hby at_82) ?_
    show Steps p.tables e below (T168.setTop (mkF m 84 #[.val (.int p1), .val (.int (1 : Int32)), .val (.ref b122), .unset, .unset, .unset, .unset, .unset, .unset] [(.int (7 : Int32)), (.ref b140), (.ref b140)])) _
    refine XS.bipush X168.here hx rfl (hb hby at_84) ?_
    show Steps p.tables e below (T168.setTop (mkF m 86 #[.val (.int p1), .val (.int (1 : Int32)), .val (.ref b122), .unset, .unset, .unset, .unset, .unset, .unset] [(.int (122 : Int32)), (.int (7 : Int32)), (.ref b140), (.ref b140)])) _
    refine st172 _ ?_
    show Steps p.tables e below (T172.setTop (mkF m 87 #[.val (.int p1), .val (.int (1 : Int32)), .val (.ref b122), .unset, .unset, .unset, .unset, .unset, .unset] [(.ref b140)])) _
    refine XS.dup X172.here hx rfl (hb hby at_87) rfl rfl ?_
    show Steps p.tables e below (T172.setTop (mkF m 88 #[.val (.int p1), .val (.int (1 : Int32)), .val (.ref b122), .unset, .unset, .unset, .unset, .unset, .unset] [(.ref b140), (.ref b140)])) _
    refine XS.bipush X172.here hx rfl (hb hby at_88) ?_
    show Steps p.tables e below (T172.setTop (mkF m 90 #[.val (.int p1), .val (.int (1 : Int32)), .val (.ref b122), .unset, .unset, .unset, .unset, .unset, .unset] [(.int (8 : Int32)), (.ref b140), (.ref b140)])) _
    refine XS.bipush X172.here hx rfl (hb hby at_90) ?_
    show Steps p.tables e below (T172.setTop (mkF m 92 #[.val (.int p1), .val (.int (1 : Int32)), .val (.ref b122), .unset, .unset, .unset, .unset, .unset, .unset] [(.int (101 : Int32)), (.int (8 : Int32)), (.ref b140), (.ref b140)])) _
    refine st176 _ ?_
    show Steps p.tables e below (T176.setTop (mkF m 93 #[.val (.int p1), .val (.int (1 : Int32)), .val (.ref b122), .unset, .unset, .unset, .unset, .unset, .unset] [(.ref b140)])) _
    refine XS.dup X176.here hx rfl (hb hby at_93) rfl rfl ?_
    show Steps p.tables e below (T176.setTop (mkF m 94 #[.val (.int p1), .val (.int (1 : Int32)), .val (.ref b122), .unset, .unset, .unset, .unset, .unset, .unset] [(.ref b140), (.ref b140)])) _
    refine XS.bipush X176.here hx rfl (hb hby at_94) ?_
    show Steps p.tables e below (T176.setTop (mkF m 96 #[.val (.int p1), .val (.int (1 : Int32)), .val (.ref b122), .unset, .unset, .unset, .unset, .unset, .unset] [(.int (9 : Int32)), (.ref b140), (.ref b140)])) _
    refine XS.bipush X176.here hx rfl (hb hby at_96) ?_
    show Steps p.tables e below (T176.setTop (mkF m 98 #[.val (.int p1), .val (.int (1 : Int32)), .val (.ref b122), .unset, .unset, .unset, .unset, .unset, .unset] [(.int (100 : Int32)), (.int (9 : Int32)), (.ref b140), (.ref b140)])) _
    refine st180 _ ?_
    show Steps p.tables e below (T180.setTop (mkF m 99 #[.val (.int p1), .val (.int (1 : Int32)), .val (.ref b122), .unset, .unset, .unset, .unset, .unset, .unset] [(.ref b140)])) _
    refine XS.astoreN X180.here hx rfl (hb hby at_99) rfl rfl (l' := #[.val (.int p1), .val (.int (1 : Int32)), .val (.ref b122), .val (.ref b140), .unset, .unset, .unset, .unset, .unset]) rfl ?_
    show Steps p.tables e below (T180.setTop (mkF m 100 #[.val (.int p1), .val (.int (1 : Int32)), .val (.ref b122), .val (.ref b140), .unset, .unset, .unset, .unset, .unset] [])) _
    refine XS.iloadN X180.here hx rfl (hb hby at_100) rfl ?_
    show Steps p.tables e below (T180.setTop (mkF m 101 #[.val (.int p1), .val (.int (1 : Int32)), .val (.ref b122), .val (.ref b140), .unset, .unset, .unset, .unset, .unset] [(.int (1 : Int32))])) _
    refine XS.ifNo X180.here hx rfl (hb hby at_101) rfl ((if0 _ _).trans (feq (by decide : ¬ ((1 : Int32) = (0 : Int32)))).1) ?_
    show Steps p.tables e below (T180.setTop (mkF m 104 #[.val (.int p1), .val (.int (1 : Int32)), .val (.ref b122), .val (.ref b140), .unset, .unset, .unset, .unset, .unset] [])) _
    refine st184 _ ?_
    show Steps p.tables e below (T184.setTop (mkF m 107 #[.val (.int p1), .val (.int (1 : Int32)), .val (.ref b122), .val (.ref b140), .unset, .unset, .unset, .unset, .unset] [(.ref b184)])) _
    refine XS.dup X184.here hx rfl (hb hby at_107) rfl rfl ?_
    show Steps p.tables e below (T184.setTop (mkF m 108 #[.val (.int p1), .val (.int (1 : Int32)), .val (.ref b122), .val (.ref b140), .unset, .unset, .unset, .unset, .unset] [(.ref b184), (.ref b184)])) _
    refine XS.aloadN X184.here hx rfl (hb hby at_108) rfl rfl ?_
    show Steps p.tables e below (T184.setTop (mkF m 109 #[.val (.int p1), .val (.int (1 : Int32)), .val (.ref b122), .val (.ref b140), .unset, .unset, .unset, .unset, .unset] [(.ref b140), (.ref b184), (.ref b184)])) _
    refine st191.trans ?_
    show Steps p.tables e below (T191.setTop (mkF m 112 #[.val (.int p1), .val (.int (1 : Int32)), .val (.ref b122), .val (.ref b140), .unset, .unset, .unset, .unset, .unset] [(.ref b184)])) _
    refine XS.goto X191.here hx rfl (pc0 := 112) (pc' := 123) rfl (hb hby at_112) (by decide) (by decide) ?_
    show Steps p.tables e below (T191.setTop (mkF m 123 #[.val (.int p1), .val (.int (1 : Int32)), .val (.ref b122), .val (.ref b140), .unset, .unset, .unset, .unset, .unset] [(.ref b184)])) _
    refine XS.astore X191.here hx rfl (hb hby at_123) rfl rfl (l' := #[.val (.int p1), .val (.int (1 : Int32)), .val (.ref b122), .val (.ref b140), .val (.ref b184), .unset, .unset, .unset, .unset]) rfl ?_
    show Steps p.tables e below (T191.setTop (mkF m 125 #[.val (.int p1), .val (.int (1 : Int32)), .val (.ref b122), .val (.ref b140), .val (.ref b184), .unset, .unset, .unset, .unset] [])) _
    refine XS.iloadN X191.here hx rfl (hb hby at_125) rfl ?_
    show Steps p.tables e below (T191.setTop (mkF m 126 #[.val (.int p1), .val (.int (1 : Int32)), .val (.ref b122), .val (.ref b140), .val (.ref b184), .unset, .unset, .unset, .unset] [(.int (1 : Int32))])) _
    refine XS.ifNo X191.here hx rfl (hb hby at_126) rfl ((if0 _ _).trans (feq (by decide : ¬ ((1 : Int32) = (0 : Int32)))).1) ?_
    show Steps p.tables e below (T191.setTop (mkF m 129 #[.val (.int p1), .val (.int (1 : Int32)), .val (.ref b122), .val (.ref b140), .val (.ref b184), .unset, .unset, .unset, .unset] [])) _
    refine st196 _ ?_
    show Steps p.tables e below (T196.setTop (mkF m 132 #[.val (.int p1), .val (.int (1 : Int32)), .val (.ref b122), .val (.ref b140), .val (.ref b184), .unset, .unset, .unset, .unset] [(.ref v1)])) _
    refine XS.goto X196.here hx rfl (pc0 := 132) (pc' := 138) rfl (hb hby at_132) (by decide) (by decide) ?_
    show Steps p.tables e below (T196.setTop (mkF m 138 #[.val (.int p1), .val (.int (1 : Int32)), .val (.ref b122), .val (.ref b140), .val (.ref b184), .unset, .unset, .unset, .unset] [(.ref v1)])) _
    refine XS.astore X196.here hx rfl (hb hby at_138) rfl rfl (l' := #[.val (.int p1), .val (.int (1 : Int32)), .val (.ref b122), .val (.ref b140), .val (.ref b184), .val (.ref v1), .unset, .unset, .unset]) rfl ?_
    show Steps p.tables e below (T196.setTop (mkF m 140 #[.val (.int p1), .val (.int (1 : Int32)), .val (.ref b122), .val (.ref b140), .val (.ref b184), .val (.ref v1), .unset, .unset, .unset] [])) _
    refine XS.aload X196.here hx rfl (hb hby at_140) rfl rfl ?_
    show Steps p.tables e below (T196.setTop (mkF m 142 #[.val (.int p1), .val (.int (1 : Int32)), .val (.ref b122), .val (.ref b140), .val (.ref b184), .val (.ref v1), .unset, .unset, .unset] [(.ref b184)])) _
    refine st197 _ ?_
    show Steps p.tables e below (T197.setTop (mkF m 145 #[.val (.int p1), .val (.int (1 : Int32)), .val (.ref b122), .val (.ref b140), .val (.ref b184), .val (.ref v1), .unset, .unset, .unset] [(.ref v1)])) _
    refine XS.astore X197.here hx rfl (hb hby at_145) rfl rfl (l' := #[.val (.int p1), .val (.int (1 : Int32)), .val (.ref b122), .val (.ref b140), .val (.ref b184), .val (.ref v1), .val (.ref v1), .unset, .unset]) rfl ?_
    show Steps p.tables e below (T197.setTop (mkF m 147 #[.val (.int p1), .val (.int (1 : Int32)), .val (.ref b122), .val (.ref b140), .val (.ref b184), .val (.ref v1), .val (.ref v1), .unset, .unset] [])) _
    refine XS.aload X197.here hx rfl (hb hby at_147) rfl rfl ?_
    show Steps p.tables e below (T197.setTop (mkF m 149 #[.val (.int p1), .val (.int (1 : Int32)), .val (.ref b122), .val (.ref b140), .val (.ref b184), .val (.ref v1), .val (.ref v1), .unset, .unset] [(.ref v1)])) _
    refine st205.trans ?_
    show Steps p.tables e below (T205.setTop (mkF m 152 #[.val (.int p1), .val (.int (1 : Int32)), .val (.ref b122), .val (.ref b140), .val (.ref b184), .val (.ref v1), .val (.ref v1), .unset, .unset] [(.ref w1)])) _
    refine XS.astore X205.here hx rfl (hb hby at_152) rfl rfl (l' := #[.val (.int p1), .val (.int (1 : Int32)), .val (.ref b122), .val (.ref b140), .val (.ref b184), .val (.ref v1), .val (.ref v1), .val (.ref w1), .unset]) rfl ?_
    show Steps p.tables e below (T205.setTop (mkF m 154 #[.val (.int p1), .val (.int (1 : Int32)), .val (.ref b122), .val (.ref b140), .val (.ref b184), .val (.ref v1), .val (.ref v1), .val (.ref w1), .unset] [])) _
    refine XS.aload X205.here hx rfl (hb hby at_154) rfl rfl ?_
    show Steps p.tables e below (T205.setTop (mkF m 156 #[.val (.int p1), .val (.int (1 : Int32)), .val (.ref b122), .val (.ref b140), .val (.ref b184), .val (.ref v1), .val (.ref v1), .val (.ref w1), .unset] [(.ref w1)])) _
    refine st206 _ ?_
    show Steps p.tables e below (T206.setTop (mkF m 159 #[.val (.int p1), .val (.int (1 : Int32)), .val (.ref b122), .val (.ref b140), .val (.ref b184), .val (.ref v1), .val (.ref v1), .val (.ref w1), .unset] [(.ref v1)])) _
    refine XS.astore X206.here hx rfl (hb hby at_159) rfl rfl (l' := #[.val (.int p1), .val (.int (1 : Int32)), .val (.ref b122), .val (.ref b140), .val (.ref b184), .val (.ref v1), .val (.ref v1), .val (.ref w1), .val (.ref v1)]) rfl ?_
    show Steps p.tables e below (T206.setTop (mkF m 161 #[.val (.int p1), .val (.int (1 : Int32)), .val (.ref b122), .val (.ref b140), .val (.ref b184), .val (.ref v1), .val (.ref v1), .val (.ref w1), .val (.ref v1)] [])) _
    refine XS.aload X206.here hx rfl (hb hby at_161) rfl rfl ?_
    show Steps p.tables e below (T206.setTop (mkF m 163 #[.val (.int p1), .val (.int (1 : Int32)), .val (.ref b122), .val (.ref b140), .val (.ref b184), .val (.ref v1), .val (.ref v1), .val (.ref w1), .val (.ref v1)] [(.ref v1)])) _
    refine XS.aload X206.here hx rfl (hb hby at_163) rfl rfl ?_
    show Steps p.tables e below (T206.setTop (mkF m 165 #[.val (.int p1), .val (.int (1 : Int32)), .val (.ref b122), .val (.ref b140), .val (.ref b184), .val (.ref v1), .val (.ref v1), .val (.ref w1), .val (.ref v1)] [(.ref v1), (.ref v1)])) _
    refine Jvm.RoadKit.acmp (g := (mkF m 165 #[.val (.int p1), .val (.int (1 : Int32)), .val (.ref b122), .val (.ref b140), .val (.ref b184), .val (.ref v1), .val (.ref v1), .val (.ref w1), .val (.ref v1)] [(.ref v1), (.ref v1)])) X206 hx rfl rfl rfl (pc0 := 165) (pc' := 168) (same := true) rfl (hb hby at_165) rfl (decide_eq_true rfl) (by decide) (by decide) ?_
    show Steps p.tables e below (T206.setTop (mkF m 168 #[.val (.int p1), .val (.int (1 : Int32)), .val (.ref b122), .val (.ref b140), .val (.ref b184), .val (.ref v1), .val (.ref v1), .val (.ref w1), .val (.ref v1)] [])) _
    refine XS.aload X206.here hx rfl (hb hby at_168) rfl rfl ?_
    show Steps p.tables e below (T206.setTop (mkF m 170 #[.val (.int p1), .val (.int (1 : Int32)), .val (.ref b122), .val (.ref b140), .val (.ref b184), .val (.ref v1), .val (.ref v1), .val (.ref w1), .val (.ref v1)] [(.ref v1)])) _
    refine XS.aload X206.here hx rfl (hb hby at_170) rfl rfl ?_
    show Steps p.tables e below (T206.setTop (mkF m 172 #[.val (.int p1), .val (.int (1 : Int32)), .val (.ref b122), .val (.ref b140), .val (.ref b184), .val (.ref v1), .val (.ref v1), .val (.ref w1), .val (.ref v1)] [(.ref v1), (.ref v1)])) _
    refine Jvm.RoadKit.acmp (g := (mkF m 172 #[.val (.int p1), .val (.int (1 : Int32)), .val (.ref b122), .val (.ref b140), .val (.ref b184), .val (.ref v1), .val (.ref v1), .val (.ref w1), .val (.ref v1)] [(.ref v1), (.ref v1)])) X206 hx rfl rfl rfl (pc0 := 172) (pc' := 175) (same := true) rfl (hb hby at_172) rfl (decide_eq_true rfl) (by decide) (by decide) ?_
    show Steps p.tables e below (T206.setTop (mkF m 175 #[.val (.int p1), .val (.int (1 : Int32)), .val (.ref b122), .val (.ref b140), .val (.ref b184), .val (.ref v1), .val (.ref v1), .val (.ref w1), .val (.ref v1)] [])) _
    refine XS.aload X206.here hx rfl (hb hby at_175) rfl rfl ?_
    show Steps p.tables e below (T206.setTop (mkF m 177 #[.val (.int p1), .val (.int (1 : Int32)), .val (.ref b122), .val (.ref b140), .val (.ref b184), .val (.ref v1), .val (.ref v1), .val (.ref w1), .val (.ref v1)] [(.ref w1)])) _
    refine XS.aload X206.here hx rfl (hb hby at_177) rfl rfl ?_
    show Steps p.tables e below (T206.setTop (mkF m 179 #[.val (.int p1), .val (.int (1 : Int32)), .val (.ref b122), .val (.ref b140), .val (.ref b184), .val (.ref v1), .val (.ref v1), .val (.ref w1), .val (.ref v1)] [(.ref b184), (.ref w1)])) _
    refine st214.trans ?_
    show Steps p.tables e below (T214.setTop (mkF m 182 #[.val (.int p1), .val (.int (1 : Int32)), .val (.ref b122), .val (.ref b140), .val (.ref b184), .val (.ref v1), .val (.ref v1), .val (.ref w1), .val (.ref v1)] [(.int (1 : Int32))])) _
    refine XS.ifNo X214.here hx rfl (hb hby at_182) rfl ((if0 _ _).trans (feq (by decide : ¬ ((1 : Int32) = (0 : Int32)))).1) ?_
    show Steps p.tables e below (T214.setTop (mkF m 185 #[.val (.int p1), .val (.int (1 : Int32)), .val (.ref b122), .val (.ref b140), .val (.ref b184), .val (.ref v1), .val (.ref v1), .val (.ref w1), .val (.ref v1)] [])) _
    refine XS.iconst X214.here hx rfl (hb hby at_185) ?_
    show Steps p.tables e below (T214.setTop (mkF m 186 #[.val (.int p1), .val (.int (1 : Int32)), .val (.ref b122), .val (.ref b140), .val (.ref b184), .val (.ref v1), .val (.ref v1), .val (.ref w1), .val (.ref v1)] [(.int (1 : Int32))])) _
    refine XS.goto X214.here hx rfl (pc0 := 186) (pc' := 190) rfl (hb hby at_186) (by decide) (by decide) ?_
    show Steps p.tables e below (T214.setTop (mkF m 190 #[.val (.int p1), .val (.int (1 : Int32)), .val (.ref b122), .val (.ref b140), .val (.ref b184), .val (.ref v1), .val (.ref v1), .val (.ref w1), .val (.ref v1)] [(.int (1 : Int32))])) _
    exact retN X214 hx (t := .boolean) Bd.returns (by simp) (hb hby at_190) hr
  · show Qlaw Z h0 n0 _ T214.heap _
    rw [e214]
    exact ⟨rfl, N214⟩
set_option maxHeartbeats 40000000 in
theorem rmLaw (l : Launch) (Z : State) (a0 : Array Value) (hw : ∀ d ∈ tables_1, d.before a0 Z = true) (ws : List Jvm.Cond) (va v0 w0 y0 v1 w1 y1 : Addr) (kv k0b k1b : ClassId) (GC : Int32) (p1 : Int32) (h0 : Heap) (n0 : Nat) (O0 : Old Z n0 h0) (SV : Sta Z Z.heap "holdfast/redis/IndexMemberEncoding" "$VALUES" "[Lholdfast/redis/IndexMemberEncoding;" (.ref va)) (EV : Exa Z Z.heap va "[Lholdfast/redis/IndexMemberEncoding;") (AV : Arv Z Z.heap va kv (.object "holdfast/redis/IndexMemberEncoding") (2 : Int32) [(.ref v0), (.ref v1)] .null) (SO0 : Sta Z Z.heap "holdfast/redis/IndexMemberEncoding" "PLAIN" "Lholdfast/redis/IndexMemberEncoding;" (.ref v0)) (EO0 : Exa Z Z.heap v0 "holdfast/redis/IndexMemberEncoding") (FO0 : Fld Z Z.heap v0 "holdfast/redis/IndexMemberEncoding" "settingValue" "Ljava/lang/String;" (.ref w0)) (EW0 : Exa Z Z.heap w0 "java/lang/String") (CW0 : Fld Z Z.heap w0 "java/lang/String" "coder" "B" (.int 0)) (VW0 : Fld Z Z.heap w0 "java/lang/String" "value" "[B" (.ref y0)) (AW0 : Arv Z Z.heap y0 k0b .byte (5 : Int32) [(.int (112 : Int32)), (.int (108 : Int32)), (.int (97 : Int32)), (.int (105 : Int32)), (.int (110 : Int32))] (.int 0)) (SO1 : Sta Z Z.heap "holdfast/redis/IndexMemberEncoding" "SERIALIZED" "Lholdfast/redis/IndexMemberEncoding;" (.ref v1)) (EO1 : Exa Z Z.heap v1 "holdfast/redis/IndexMemberEncoding") (FO1 : Fld Z Z.heap v1 "holdfast/redis/IndexMemberEncoding" "settingValue" "Ljava/lang/String;" (.ref w1)) (EW1 : Exa Z Z.heap w1 "java/lang/String") (CW1 : Fld Z Z.heap w1 "java/lang/String" "coder" "B" (.int 0)) (VW1 : Fld Z Z.heap w1 "java/lang/String" "value" "[B" (.ref y1)) (AW1 : Arv Z Z.heap y1 k1b .byte (10 : Int32) [(.int (115 : Int32)), (.int (101 : Int32)), (.int (114 : Int32)), (.int (105 : Int32)), (.int (97 : Int32)), (.int (108 : Int32)), (.int (105 : Int32)), (.int (122 : Int32)), (.int (101 : Int32)), (.int (100 : Int32))] (.int 0)) (OC2 : Sta Z Z.heap "java/lang/String" "COMPACT_STRINGS" "Z" (.int GC)) (OCz : ¬ (GC = (0 : Int32))) :
    MetFree l x (head1 (Jvm.Cond.code x code maxLocals ret :: ws) room_1) (fun a U => a = #[(.int p1)] ∧ Z.Warmed39 U.vm ∧ U.heap = h0) (fun _ _ _ _ _ => True) (fun _ U o U' => ∃ v L, o = .returned v ∧ Qlaw Z h0 n0 v U'.heap L ∧ FrameEnd U o U' L room_1.cells room_1.slots) := by
  by_cases hbit : (p1 &&& (1 : Int32)) = 0
  · exact rmLawP l Z a0 hw ws va v0 w0 y0 v1 w1 y1 kv k0b k1b GC p1 h0 n0 O0 SV EV AV SO0 EO0 FO0 EW0 CW0 VW0 AW0 SO1 EO1 FO1 EW1 CW1 VW1 AW1 OC2 OCz hbit
  · exact rmLawS l Z a0 hw ws va v0 w0 y0 v1 w1 y1 kv k0b k1b GC p1 h0 n0 O0 SV EV AV SO0 EO0 FO0 EW0 CW0 VW0 AW0 SO1 EO1 FO1 EW1 CW1 VW1 AW1 OC2 OCz hbit
set_option maxRecDepth 65536 in
set_option maxHeartbeats 40000000 in
theorem comes_1 {Post : Tables → Env → Array Value → State → Outcome → State → Prop} (hpost : ∀ tb e args s v u, (limb_1_1.after args s (.returned v) u = true ∧ limb_1_2.after args s (.returned v) u = true ∧ True) → FrameEnd s (.returned v) u (Jvm.fieldLocs frame_1_writes args s ++ Jvm.arrayLocs frame_1_arrays args s ++ Jvm.staticLocs frame_1_statics s) 24 192 → Post tb e args s (.returned v) u) :
    ArmFor flags0 classFile x code maxLocals ret World_1 tables_1 room_1 Calls_1 rest_1 Pre_1 Post := by
  intro l hfl _ _ p e ha hc hk s m args below hf hA hF happ hP
  obtain ⟨hcalls, hrest, hpre⟩ := hP
  obtain ⟨-, -, -, hnamed, -, -, -, hat⟩ := (Spec.applies_iff hf).mp happ
  obtain ⟨hg, hn⟩ := and_e (Cond.before_iff.mp (show (Jvm.Cond.and given_1 narrow_1).before args s = true from hpre))
  obtain ⟨h1, h2⟩ := and_e hg
  obtain ⟨w0, rfl⟩ : ∃ w0 : Value, args = #[w0] := by
    have hs : args.size = 1 := by simpa [Cond.value, given_1] using h1
    obtain ⟨L⟩ := args
    match L, hs with
    | [w0], _ => exact ⟨w0, rfl⟩
  have hw := fun d (hd : d ∈ tables_1) => atoms_spec (ws := Jvm.Cond.code x code maxLocals ret :: tables_1) hat d (List.mem_cons_of_mem _ hd)
  obtain ⟨hsets, hown0⟩ := atoms_of _ (rest_1_c_eq ▸ (show rest_1_c.before _ s = true from hrest))
  have hfit : Fit s := fun {y c} hc i hi => by
    obtain ⟨ha, rfl⟩ := Array.getElem?_eq_some_iff.mp hc
    have q := List.all_eq_true.mp ((Array.all_eq_true_iff_forall_mem.mp hF) _ (Array.getElem_mem ha)) i (List.mem_range.mpr hi)
    simpa [Array.getElem?_eq_getElem hi] using q
  obtain ⟨i0, e0⟩ := is_v h2
  obtain rfl : w0 = (.int i0) := Option.some.inj e0
  obtain ⟨GC, eGC⟩ := is_v (Cond.before_iff.mp (hsets _ (List.mem_of_getElem? (i := 1) rfl)))
  have OC2 : Sta s s.heap "java/lang/String" "COMPACT_STRINGS" "Z" (.int GC) := Sta.start eGC (Or.inl (hsets _ (List.mem_of_getElem? (i := 0) rfl)))
  have OCz : ¬ (GC = (0 : Int32)) := gotF (Cond.eq_ints eGC (Term.int_eval (0))) (not_v (Cond.before_iff.mp (hsets _ (List.mem_of_getElem? (i := 2) rfl))))
  obtain ⟨nn0, nr0⟩ := and_e hn
  obtain ⟨nn1, nr1⟩ := and_e nr0
  obtain ⟨nn2, nr2⟩ := and_e nr1
  obtain ⟨nn3, nr3⟩ := and_e nr2
  obtain ⟨nn4, nr4⟩ := and_e nr3
  obtain ⟨nn5, nr5⟩ := and_e nr4
  obtain ⟨nn6, nr6⟩ := and_e nr5
  obtain ⟨nn7, nr7⟩ := and_e nr6
  obtain ⟨nn8, nr8⟩ := and_e nr7
  obtain ⟨nn9, nr9⟩ := and_e nr8
  obtain ⟨nn10, nr10⟩ := and_e nr9
  obtain ⟨nn11, nr11⟩ := and_e nr10
  obtain ⟨nn12, nr12⟩ := and_e nr11
  obtain ⟨nn13, nr13⟩ := and_e nr12
  obtain ⟨nn14, nr14⟩ := and_e nr13
  obtain ⟨nn15, nr15⟩ := and_e nr14
  obtain ⟨nn16, nr16⟩ := and_e nr15
  obtain ⟨nn17, nr17⟩ := and_e nr16
  obtain ⟨nn18, nr18⟩ := and_e nr17
  obtain ⟨nn19, nr19⟩ := and_e nr18
  obtain ⟨nn20, nr20⟩ := and_e nr19
  obtain ⟨nn21, nr21⟩ := and_e nr20
  obtain ⟨nn22, nr22⟩ := and_e nr21
  obtain ⟨nn23, nr23⟩ := and_e nr22
  obtain ⟨nn24, nr24⟩ := and_e nr23
  obtain ⟨nn25, nr25⟩ := and_e nr24
  obtain ⟨nn26, nr26⟩ := and_e nr25
  obtain ⟨nn27, nr27⟩ := and_e nr26
  obtain ⟨nn28, nr28⟩ := and_e nr27
  obtain ⟨nn29, nr29⟩ := and_e nr28
  have nn30 := nr29
  obtain ⟨va, eva⟩ := exa_v nn2
  have SV : Sta s s.heap "holdfast/redis/IndexMemberEncoding" "$VALUES" "[Lholdfast/redis/IndexMemberEncoding;" (.ref va) := Sta.start eva (Or.inl (hw _ (List.mem_of_getElem? (i := 49) rfl)))
  have EV : Exa s s.heap va "[Lholdfast/redis/IndexMemberEncoding;" := Exa.start eva nn2
  obtain ⟨v0, ev0⟩ := exa_v nn0
  have SO0 : Sta s s.heap "holdfast/redis/IndexMemberEncoding" "PLAIN" "Lholdfast/redis/IndexMemberEncoding;" (.ref v0) := Sta.start ev0 (Or.inr ⟨(hw _ (List.mem_of_getElem? (i := 31) rfl)), (hw _ (List.mem_of_getElem? (i := 32) rfl))⟩)
  have EO0 : Exa s s.heap v0 "holdfast/redis/IndexMemberEncoding" := Exa.start ev0 nn0
  obtain ⟨w0, ew0⟩ := exa_v nn7
  have FO0 : Fld s s.heap v0 "holdfast/redis/IndexMemberEncoding" "settingValue" "Ljava/lang/String;" (.ref w0) := Fld.start ((fld_at ev0).symm.trans ew0)
  have EW0 : Exa s s.heap w0 "java/lang/String" := Exa.start ew0 nn7
  have CW0 : Fld s s.heap w0 "java/lang/String" "coder" "B" (.int 0) := Fld.start ((fld_at ew0).symm.trans (own_eqI nn8))
  obtain ⟨y0, ey0⟩ := arr_v nn9
  have VW0 : Fld s s.heap w0 "java/lang/String" "value" "[B" (.ref y0) := Fld.start ((fld_at ew0).symm.trans ey0)
  obtain ⟨k0b, AW0⟩ := own_arv (vs := [(.int (112 : Int32)), (.int (108 : Int32)), (.int (97 : Int32)), (.int (105 : Int32)), (.int (110 : Int32))]) (dv := .int 0) hfit ey0 nn9 (own_eqI nn10) (by decide) rfl (fun c hc => ⟨(elem_in (own_eqI nn16) ey0 (Term.int_eval (0)) hc).2, (elem_in (own_eqI nn17) ey0 (Term.int_eval (1)) hc).2, (elem_in (own_eqI nn18) ey0 (Term.int_eval (2)) hc).2, (elem_in (own_eqI nn19) ey0 (Term.int_eval (3)) hc).2, (elem_in (own_eqI nn20) ey0 (Term.int_eval (4)) hc).2, trivial⟩)
  obtain ⟨v1, ev1⟩ := exa_v nn5
  have SO1 : Sta s s.heap "holdfast/redis/IndexMemberEncoding" "SERIALIZED" "Lholdfast/redis/IndexMemberEncoding;" (.ref v1) := Sta.start ev1 (Or.inr ⟨(hw _ (List.mem_of_getElem? (i := 31) rfl)), (hw _ (List.mem_of_getElem? (i := 48) rfl))⟩)
  have EO1 : Exa s s.heap v1 "holdfast/redis/IndexMemberEncoding" := Exa.start ev1 nn5
  obtain ⟨w1, ew1⟩ := exa_v nn11
  have FO1 : Fld s s.heap v1 "holdfast/redis/IndexMemberEncoding" "settingValue" "Ljava/lang/String;" (.ref w1) := Fld.start ((fld_at ev1).symm.trans ew1)
  have EW1 : Exa s s.heap w1 "java/lang/String" := Exa.start ew1 nn11
  have CW1 : Fld s s.heap w1 "java/lang/String" "coder" "B" (.int 0) := Fld.start ((fld_at ew1).symm.trans (own_eqI nn12))
  obtain ⟨y1, ey1⟩ := arr_v nn13
  have VW1 : Fld s s.heap w1 "java/lang/String" "value" "[B" (.ref y1) := Fld.start ((fld_at ew1).symm.trans ey1)
  obtain ⟨k1b, AW1⟩ := own_arv (vs := [(.int (115 : Int32)), (.int (101 : Int32)), (.int (114 : Int32)), (.int (105 : Int32)), (.int (97 : Int32)), (.int (108 : Int32)), (.int (105 : Int32)), (.int (122 : Int32)), (.int (101 : Int32)), (.int (100 : Int32))]) (dv := .int 0) hfit ey1 nn13 (own_eqI nn14) (by decide) rfl (fun c hc => ⟨(elem_in (own_eqI nn21) ey1 (Term.int_eval (0)) hc).2, (elem_in (own_eqI nn22) ey1 (Term.int_eval (1)) hc).2, (elem_in (own_eqI nn23) ey1 (Term.int_eval (2)) hc).2, (elem_in (own_eqI nn24) ey1 (Term.int_eval (3)) hc).2, (elem_in (own_eqI nn25) ey1 (Term.int_eval (4)) hc).2, (elem_in (own_eqI nn26) ey1 (Term.int_eval (5)) hc).2, (elem_in (own_eqI nn27) ey1 (Term.int_eval (6)) hc).2, (elem_in (own_eqI nn28) ey1 (Term.int_eval (7)) hc).2, (elem_in (own_eqI nn29) ey1 (Term.int_eval (8)) hc).2, (elem_in (own_eqI nn30) ey1 (Term.int_eval (9)) hc).2, trivial⟩)
  obtain ⟨kv, AV⟩ := own_arv (vs := [(.ref v0), (.ref v1)]) (dv := .null) hfit eva nn1 (own_eqI nn3) (by decide) rfl (fun c hc => ⟨(elem_in (own_eqR nn4 ev0) eva (Term.int_eval (0)) hc).2, (elem_in (own_eqR nn6 ev1) eva (Term.int_eval (1)) hc).2, trivial⟩)
  obtain ⟨n, o, h1, h2, h3, _, L, rfl, ⟨rfl, N⟩, hq⟩ := rmLaw l s _ hw tables_1 va v0 w0 y0 v1 w1 y1 kv k0b k1b GC i0 s.heap s.heap.size (Old.start s) SV EV AV SO0 EO0 FO0 EW0 CW0 VW0 AW0 SO1 EO1 FO1 EW1 CW1 VW1 AW1 OC2 OCz p e ha hc hk s m _ below hf ((Spec.applies_iff_loose hf).mp happ).1 ⟨rfl, State.Warmed39.refl s, rfl⟩ trivial
  refine ⟨n, _, h1, h2, h3, hpost _ _ _ _ _ _ ⟨Cond.after_iff.mpr rfl, Cond.after_iff.mpr (eq_i res_at (Term.int_eval (1)) rfl), trivial⟩ ⟨hq.1, hq.2.1, (hq.2.2.sift fun y hy => Or.inr (N y hy)).mono (by decide) (by decide)⟩⟩
theorem main_1_1 : Claimed_1_1 := comes_1 fun _ _ _ _ _ _ h hF => ⟨h.1, hF⟩
theorem main_1_2 : Claimed_1_2 := comes_1 fun _ _ _ _ _ _ h hF => ⟨h.2.1, hF⟩
end Jvm.Pilot.@@N@@

namespace Jvm.Pilot.@@N@@
open Jvm Jvm.ClassFile Sem Op Lib Jvm.Free Jvm.Stand Jvm.Pilot.@@N@@.Jvm.D
/-! MADE BY PROGRAM (witnessworld.py) out of the Statement's table words and the real class files: 22 classes; the members and pool entries that the words name. The judged class is class 1, her method 1. -/
namespace start1
open Jvm.ClassFile
def u (s : String) : CpInfo := .utf8 (stringToUtf16 s)
/-- a pool by its gaps: so many unusable entries, then the entry; so many at the end -/
def gap : Nat → List CpInfo → List CpInfo
  | 0, r => r
  | n + 1, r => .unusable :: gap n r
def poolList (es : List (Nat × CpInfo)) (last : Nat) : List CpInfo := es.foldr (fun e r => gap e.1 (e.2 :: r)) (gap last [])
def pool (es : List (Nat × CpInfo)) (last : Nat) : Array CpInfo := ⟨poolList es last⟩
def fileOf (pool : Array CpInfo) (this : Nat) (attrs : Array Attribute := #[]) (ms : Array MethodInfo := #[]) (fl : Nat := 33) (sup : Nat := 0) (ifs : Array Nat := #[]) (fds : Array FieldInfo := #[]) : ClassFile where
  minorVersion := 0
  majorVersion := 65
  constantPool := pool
  accessFlags := fl
  thisClass := this
  superClass := sup
  interfaces := ifs
  fields := fds
  methods := ms
  attributes := attrs
def plain (name : String) (sup : Option ClassId) : Class where
  name := name
  kind := .ordinary
  loader := none
  accessFlags := 33
  super := sup
  interfaces := #[]
  cf := none
  fields := #[]
  methods := #[]
  instanceTypes := #[]
  staticTypes := #[]
  resolved := #[]
  callSites := []
  init := .initialized
  statics := none
  mirror := none

def pool0 : Array CpInfo := pool [(5, u "<init>"), (0, u "()V"), (1, .class_ 10), (1, u "java/lang/Object"), (85, u "clone"), (0, u "()Ljava/lang/Object;")] 26

def k0c0 : Code := { maxStack := 0, maxLocals := 1, code := object_method_1_code, exceptionTable := #[], attributes := #[] }
def k0m0 : Method := { name := "<init>", desc := "()V", sig := { parameters := [], returnType := none }, accessFlags := 1, code := some k0c0 }
def k0m1 : Method := { name := "clone", desc := "()Ljava/lang/Object;", sig := { parameters := [], returnType := some (.object "java/lang/Object") }, accessFlags := 260, code := none }
/-- java/lang/Object -/
def k0 : Class := { plain "java/lang/Object" none with
  accessFlags := 33
  interfaces := #[]
  cf := some (fileOf pool0 8 #[] #[{ accessFlags := 1, nameIndex := 5, descriptorIndex := 6, attributes := #[] }, { accessFlags := 260, nameIndex := 96, descriptorIndex := 97, attributes := #[] }] 33 0 #[] #[])
  fields := #[]
  methods := #[k0m0, k0m1]
  instanceTypes := #[]
  staticTypes := #[]
  resolved := Array.replicate 124 none
  statics := none }

def pool1 : Array CpInfo := pool [(2, .class_ 4), (1, u "java/lang/Object"), (0, u "<init>"), (0, u "()V"), (0, .class_ 8), (0, u "java/lang/String"), (0, .methodref 7 10), (0, .nameAndType 5 11), (0, u "([C)V"), (0, .fieldref 13 14), (0, .class_ 15), (0, .nameAndType 16 17), (0, u "holdfast/redis/IndexMemberEncoding"), (0, u "SERIALIZED"), (0, u "Lholdfast/redis/IndexMemberEncoding;"), (0, .fieldref 13 19), (0, .nameAndType 20 17), (0, u "PLAIN"), (0, .methodref 13 22), (0, .nameAndType 23 24), (0, u "ofSettingValue"), (0, u "(Ljava/lang/String;)Lholdfast/redis/IndexMemberEncoding;"), (0, .methodref 13 26), (0, .nameAndType 27 28), (0, u "settingValue"), (0, u "()Ljava/lang/String;"), (0, .methodref 7 30), (0, .nameAndType 31 32), (0, u "equals"), (0, u "(Ljava/lang/Object;)Z"), (0, .class_ 34), (0, u "holdfast/redis/IndexMemberEncodingOfSettingValuePinLaw"), (2, u "law"), (0, u "(I)Z")] 5

def k1m0 : Method := { name := "<init>", desc := "()V", sig := { parameters := [], returnType := none }, accessFlags := 1, code := none }
def k1c1 : Code := { maxStack := 4, maxLocals := 9, code := code, exceptionTable := #[], attributes := #[] }
def k1m1 : Method := { name := "law", desc := "(I)Z", sig := { parameters := [.int], returnType := some .boolean }, accessFlags := 9, code := some k1c1 }
/-- holdfast/redis/IndexMemberEncodingOfSettingValuePinLaw -/
def k1 : Class := { plain "holdfast/redis/IndexMemberEncodingOfSettingValuePinLaw" (some 0) with
  accessFlags := 49
  interfaces := #[]
  cf := some (fileOf pool1 33 #[] #[{ accessFlags := 1, nameIndex := 5, descriptorIndex := 6, attributes := #[] }, { accessFlags := 9, nameIndex := 37, descriptorIndex := 38, attributes := #[] }] 49 2 #[] #[])
  fields := #[]
  methods := #[k1m0, k1m1]
  instanceTypes := #[]
  staticTypes := #[]
  resolved := Array.replicate 44 none
  statics := none }

def pool2 : Array CpInfo := pool [(1, .class_ 2), (0, u "java/io/Serializable"), (0, .class_ 4), (0, u "java/lang/Object")] 2

/-- java/io/Serializable -/
def k2 : Class := { plain "java/io/Serializable" (some 0) with
  accessFlags := 1537
  interfaces := #[]
  cf := some (fileOf pool2 1 #[] #[] 1537 3 #[] #[])
  fields := #[]
  methods := #[]
  instanceTypes := #[]
  staticTypes := #[]
  resolved := Array.replicate 7 none
  statics := none }

def pool3 : Array CpInfo := pool [(1, .class_ 2), (0, u "java/lang/Comparable"), (0, .class_ 4), (0, u "java/lang/Object")] 7

/-- java/lang/Comparable -/
def k3 : Class := { plain "java/lang/Comparable" (some 0) with
  accessFlags := 1537
  interfaces := #[]
  cf := some (fileOf pool3 1 #[] #[] 1537 3 #[] #[])
  fields := #[]
  methods := #[]
  instanceTypes := #[]
  staticTypes := #[]
  resolved := Array.replicate 12 none
  statics := none }

def pool4 : Array CpInfo := pool [(2, .class_ 4), (1, u "java/lang/CharSequence"), (42, .class_ 48), (0, u "java/lang/CharSequence$1CodePointIterator"), (10, .class_ 60), (0, u "java/lang/CharSequence$1CharIterator"), (5, .class_ 67), (0, u "java/lang/Object")] 63

/-- java/lang/CharSequence -/
def k4 : Class := { plain "java/lang/CharSequence" (some 0) with
  accessFlags := 1537
  interfaces := #[]
  cf := some (fileOf pool4 2 #[.nestMembers #[47, 59]] #[] 1537 66 #[] #[])
  fields := #[]
  methods := #[]
  instanceTypes := #[]
  staticTypes := #[]
  resolved := Array.replicate 131 none
  statics := none }

def pool5 : Array CpInfo := pool [(1, .class_ 2), (0, u "java/lang/constant/Constable"), (0, .class_ 4), (0, u "java/lang/Object")] 6

/-- java/lang/constant/Constable -/
def k5 : Class := { plain "java/lang/constant/Constable" (some 0) with
  accessFlags := 1537
  interfaces := #[]
  cf := some (fileOf pool5 1 #[] #[] 1537 3 #[] #[])
  fields := #[]
  methods := #[]
  instanceTypes := #[]
  staticTypes := #[]
  resolved := Array.replicate 11 none
  statics := none }

def pool6 : Array CpInfo := pool [(1, .class_ 2), (0, u "java/lang/constant/ConstantDesc"), (0, .class_ 4), (0, u "java/lang/Object")] 32

/-- java/lang/constant/ConstantDesc -/
def k6 : Class := { plain "java/lang/constant/ConstantDesc" (some 0) with
  accessFlags := 1537
  interfaces := #[]
  cf := some (fileOf pool6 1 #[] #[] 1537 3 #[] #[])
  fields := #[]
  methods := #[]
  instanceTypes := #[]
  staticTypes := #[]
  resolved := Array.replicate 37 none
  statics := none }

def pool7 : Array CpInfo := pool [(1, .methodref 2 3), (0, .class_ 4), (0, .nameAndType 5 6), (0, u "java/lang/Object"), (0, u "<init>"), (0, u "()V"), (2, .fieldref 10 11), (0, .class_ 12), (0, .nameAndType 13 14), (0, u "java/lang/String"), (0, u "value"), (0, u "[B"), (0, .fieldref 10 16), (0, .nameAndType 17 18), (0, u "coder"), (0, u "B"), (2, u "hash"), (0, u "I"), (2, u "hashIsZero"), (0, u "Z"), (0, .methodref 10 28), (0, .nameAndType 5 29), (0, u "([CIILjava/lang/Void;)V"), (8, .fieldref 10 39), (0, .nameAndType 40 26), (0, u "COMPACT_STRINGS"), (1, .class_ 44), (1, u "java/lang/StringUTF16"), (0, u "compress"), (1, .methodref 42 48), (0, .nameAndType 49 50), (0, u "coderFromArrayLen"), (0, u "([BI)B"), (56, .class_ 109), (1, u "java/lang/StringLatin1"), (67, .methodref 42 178), (0, .nameAndType 45 179), (0, u "([CII)[B"), (361, .methodref 107 542), (0, .nameAndType 543 544), (0, u "equals"), (0, u "([B[B)Z"), (28, u "(Ljava/lang/Object;)Z"), (1, .class_ 576), (0, u "java/lang/CharSequence"), (22, u "CASE_INSENSITIVE_ORDER"), (0, u "Ljava/util/Comparator;"), (409, u "([C)V"), (90, u "serialPersistentFields"), (0, u "[Ljava/io/ObjectStreamField;"), (0, .class_ 1104), (0, u "java/lang/String$CaseInsensitiveComparator"), (1, .class_ 1107), (0, u "java/io/Serializable"), (0, .class_ 1109), (0, u "java/lang/Comparable"), (0, .class_ 1111), (0, u "java/lang/constant/Constable"), (0, .class_ 1113), (0, u "java/lang/constant/ConstantDesc"), (2, u "serialVersionUID"), (0, u "J"), (3, u "REPL"), (0, u "C"), (2, u "LATIN1"), (1, u "UTF16")] 323

def k7m0 : Method := { name := "<init>", desc := "()V", sig := { parameters := [], returnType := none }, accessFlags := 1, code := none }
def k7c1 : Code := { maxStack := 5, maxLocals := 2, code := jdk_42_method_3_code, exceptionTable := #[], attributes := #[] }
def k7m1 : Method := { name := "<init>", desc := "([C)V", sig := { parameters := [(.array .char)], returnType := none }, accessFlags := 1, code := some k7c1 }
def k7c2 : Code := { maxStack := 2, maxLocals := 3, code := jdk_42_method_66_code, exceptionTable := #[], attributes := #[] }
def k7m2 : Method := { name := "equals", desc := "(Ljava/lang/Object;)Z", sig := { parameters := [(.object "java/lang/Object")], returnType := some .boolean }, accessFlags := 1, code := some k7c2 }
def k7c3 : Code := { maxStack := 4, maxLocals := 6, code := jdk_42_method_149_code, exceptionTable := #[], attributes := #[] }
def k7m3 : Method := { name := "<init>", desc := "([CIILjava/lang/Void;)V", sig := { parameters := [(.array .char), .int, .int, (.object "java/lang/Void")], returnType := none }, accessFlags := 2, code := some k7c3 }
/-- java/lang/String -/
def k7 : Class := { plain "java/lang/String" (some 0) with
  accessFlags := 49
  interfaces := #[2, 3, 4, 5, 6]
  cf := some (fileOf pool7 10 #[.nestMembers #[1103]] #[{ accessFlags := 1, nameIndex := 5, descriptorIndex := 6, attributes := #[] }, { accessFlags := 1, nameIndex := 5, descriptorIndex := 1010, attributes := #[] }, { accessFlags := 1, nameIndex := 543, descriptorIndex := 573, attributes := #[] }, { accessFlags := 2, nameIndex := 5, descriptorIndex := 29, attributes := #[] }] 49 2 #[1106, 1108, 575, 1110, 1112] #[{ accessFlags := 18, nameIndex := 13, descriptorIndex := 14, attributes := #[] }, { accessFlags := 18, nameIndex := 17, descriptorIndex := 18, attributes := #[] }, { accessFlags := 2, nameIndex := 21, descriptorIndex := 22, attributes := #[] }, { accessFlags := 2, nameIndex := 25, descriptorIndex := 26, attributes := #[] }, { accessFlags := 26, nameIndex := 1116, descriptorIndex := 1117, attributes := #[] }, { accessFlags := 24, nameIndex := 40, descriptorIndex := 26, attributes := #[] }, { accessFlags := 26, nameIndex := 1101, descriptorIndex := 1102, attributes := #[] }, { accessFlags := 26, nameIndex := 1121, descriptorIndex := 1122, attributes := #[] }, { accessFlags := 25, nameIndex := 599, descriptorIndex := 600, attributes := #[] }, { accessFlags := 24, nameIndex := 1125, descriptorIndex := 18, attributes := #[] }, { accessFlags := 24, nameIndex := 1127, descriptorIndex := 18, attributes := #[] }])
  fields := #[{ name := "value", type := (.array .byte), accessFlags := 18, slot := 0, constantValue := 0 }, { name := "coder", type := .byte, accessFlags := 18, slot := 1, constantValue := 0 }, { name := "hash", type := .int, accessFlags := 2, slot := 2, constantValue := 0 }, { name := "hashIsZero", type := .boolean, accessFlags := 2, slot := 3, constantValue := 0 }, { name := "serialVersionUID", type := .long, accessFlags := 26, slot := 0, constantValue := 0 }, { name := "COMPACT_STRINGS", type := .boolean, accessFlags := 24, slot := 1, constantValue := 0 }, { name := "serialPersistentFields", type := (.array (.object "java/io/ObjectStreamField")), accessFlags := 26, slot := 2, constantValue := 0 }, { name := "REPL", type := .char, accessFlags := 26, slot := 3, constantValue := 0 }, { name := "CASE_INSENSITIVE_ORDER", type := (.object "java/util/Comparator"), accessFlags := 25, slot := 4, constantValue := 0 }, { name := "LATIN1", type := .byte, accessFlags := 24, slot := 5, constantValue := 0 }, { name := "UTF16", type := .byte, accessFlags := 24, slot := 6, constantValue := 0 }]
  methods := #[k7m0, k7m1, k7m2, k7m3]
  instanceTypes := #[(.array .byte), .byte, .int, .boolean]
  staticTypes := #[.long, .boolean, (.array (.object "java/io/ObjectStreamField")), .char, (.object "java/util/Comparator"), .byte, .byte]
  resolved := Array.replicate 1451 none
  statics := some 0 }

def pool8 : Array CpInfo := pool [(6, .class_ 8), (1, u "java/lang/Object"), (0, u "<init>"), (0, u "()V"), (1, .class_ 14), (1, u "java/lang/StringUTF16"), (31, u "$assertionsDisabled"), (0, u "Z"), (13, u "HI_BYTE_SHIFT"), (0, u "I"), (2, u "LO_BYTE_SHIFT"), (49, .methodref 12 116), (0, .nameAndType 117 118), (0, u "compress"), (0, u "([CI[BII)I"), (3, u "([CII)[B"), (138, u "coderFromArrayLen"), (0, u "([BI)B"), (106, .class_ 371), (1, u "java/lang/StringUTF16$LinesSpliterator"), (58, u "MAX_LENGTH"), (196, .class_ 628), (0, u "java/lang/StringUTF16$CodePointsSpliterator"), (0, .class_ 630), (0, u "java/lang/StringUTF16$CharsSpliterator")] 4

def k8m0 : Method := { name := "<init>", desc := "()V", sig := { parameters := [], returnType := none }, accessFlags := 0, code := none }
def k8c1 : Code := { maxStack := 2, maxLocals := 2, code := jdk_52_method_15_code, exceptionTable := #[], attributes := #[] }
def k8m1 : Method := { name := "coderFromArrayLen", desc := "([BI)B", sig := { parameters := [(.array .byte), .int], returnType := some .byte }, accessFlags := 8, code := some k8c1 }
def k8c2 : Code := { maxStack := 5, maxLocals := 6, code := jdk_52_method_16_code, exceptionTable := #[], attributes := #[] }
def k8m2 : Method := { name := "compress", desc := "([CII)[B", sig := { parameters := [(.array .char), .int, .int], returnType := some (.array .byte) }, accessFlags := 9, code := some k8c2 }
def k8c3 : Code := { maxStack := 3, maxLocals := 7, code := jdk_52_method_21_code, exceptionTable := #[], attributes := #[] }
def k8m3 : Method := { name := "compress", desc := "([CI[BII)I", sig := { parameters := [(.array .char), .int, (.array .byte), .int, .int], returnType := some .int }, accessFlags := 9, code := some k8c3 }
/-- java/lang/StringUTF16 -/
def k8 : Class := { plain "java/lang/StringUTF16" (some 0) with
  accessFlags := 48
  interfaces := #[]
  cf := some (fileOf pool8 12 #[.nestMembers #[627, 629, 369]] #[{ accessFlags := 0, nameIndex := 9, descriptorIndex := 10, attributes := #[] }, { accessFlags := 8, nameIndex := 261, descriptorIndex := 262, attributes := #[] }, { accessFlags := 9, nameIndex := 117, descriptorIndex := 122, attributes := #[] }, { accessFlags := 9, nameIndex := 117, descriptorIndex := 118, attributes := #[] }] 48 6 #[] #[{ accessFlags := 26, nameIndex := 61, descriptorIndex := 62, attributes := #[] }, { accessFlags := 26, nameIndex := 65, descriptorIndex := 62, attributes := #[] }, { accessFlags := 24, nameIndex := 430, descriptorIndex := 62, attributes := #[] }, { accessFlags := 4120, nameIndex := 46, descriptorIndex := 47, attributes := #[] }])
  fields := #[{ name := "HI_BYTE_SHIFT", type := .int, accessFlags := 26, slot := 0, constantValue := 0 }, { name := "LO_BYTE_SHIFT", type := .int, accessFlags := 26, slot := 1, constantValue := 0 }, { name := "MAX_LENGTH", type := .int, accessFlags := 24, slot := 2, constantValue := 0 }, { name := "$assertionsDisabled", type := .boolean, accessFlags := 4120, slot := 3, constantValue := 0 }]
  methods := #[k8m0, k8m1, k8m2, k8m3]
  instanceTypes := #[]
  staticTypes := #[.int, .int, .int, .boolean]
  resolved := Array.replicate 635 none
  statics := none }

def pool9 : Array CpInfo := pool [(2, .class_ 4), (1, u "java/lang/Enum"), (0, u "name"), (0, u "Ljava/lang/String;"), (2, u "ordinal"), (0, u "I"), (1, .class_ 14), (1, u "java/lang/Object"), (4, u "hash"), (86, .class_ 108), (1, u "java/lang/Enum$EnumDesc"), (2, .class_ 112), (0, u "java/lang/constant/Constable"), (0, .class_ 114), (0, u "java/lang/Comparable"), (0, .class_ 116), (0, u "java/io/Serializable")] 87

/-- java/lang/Enum -/
def k9 : Class := { plain "java/lang/Enum" (some 0) with
  accessFlags := 1057
  interfaces := #[5, 3, 2]
  cf := some (fileOf pool9 2 #[.nestMembers #[106]] #[] 1057 12 #[111, 113, 115] #[{ accessFlags := 18, nameIndex := 5, descriptorIndex := 6, attributes := #[] }, { accessFlags := 18, nameIndex := 9, descriptorIndex := 10, attributes := #[] }, { accessFlags := 2, nameIndex := 19, descriptorIndex := 10, attributes := #[] }])
  fields := #[{ name := "name", type := (.object "java/lang/String"), accessFlags := 18, slot := 0, constantValue := 0 }, { name := "ordinal", type := .int, accessFlags := 18, slot := 1, constantValue := 0 }, { name := "hash", type := .int, accessFlags := 2, slot := 2, constantValue := 0 }]
  methods := #[]
  instanceTypes := #[(.object "java/lang/String"), .int, .int]
  staticTypes := #[]
  resolved := Array.replicate 204 none
  statics := none }

def pool10 : Array CpInfo := pool [(1, .class_ 2), (0, u "holdfast/redis/IndexMemberEncoding"), (2, u "PLAIN"), (0, u "Lholdfast/redis/IndexMemberEncoding;"), (2, u "SERIALIZED"), (0, .fieldref 1 11), (0, .nameAndType 12 13), (0, u "$VALUES"), (0, u "[Lholdfast/redis/IndexMemberEncoding;"), (0, .methodref 15 16), (0, .class_ 13), (0, .nameAndType 17 18), (0, u "clone"), (0, u "()Ljava/lang/Object;"), (1, .class_ 22), (1, u "java/lang/Enum"), (9, u "()Ljava/lang/String;"), (7, .class_ 42), (1, u "java/lang/String"), (2, .fieldref 1 46), (0, .nameAndType 47 48), (0, u "settingValue"), (0, u "Ljava/lang/String;"), (12, u "argument"), (0, u "[B"), (0, .methodref 1 64), (0, .nameAndType 65 66), (0, u "values"), (0, u "()[Lholdfast/redis/IndexMemberEncoding;"), (0, .methodref 40 68), (0, .nameAndType 69 70), (0, u "equals"), (0, u "(Ljava/lang/Object;)Z"), (45, u "(Ljava/lang/String;)Lholdfast/redis/IndexMemberEncoding;"), (3, u "ofSettingValue")] 36

def k10c0 : Code := { maxStack := 1, maxLocals := 0, code := prog_92_method_1_code, exceptionTable := #[], attributes := #[] }
def k10m0 : Method := { name := "values", desc := "()[Lholdfast/redis/IndexMemberEncoding;", sig := { parameters := [], returnType := some (.array (.object "holdfast/redis/IndexMemberEncoding")) }, accessFlags := 9, code := some k10c0 }
def k10c1 : Code := { maxStack := 1, maxLocals := 1, code := prog_92_method_4_code, exceptionTable := #[], attributes := #[] }
def k10m1 : Method := { name := "settingValue", desc := "()Ljava/lang/String;", sig := { parameters := [], returnType := some (.object "java/lang/String") }, accessFlags := 0, code := some k10c1 }
def k10c2 : Code := { maxStack := 3, maxLocals := 5, code := prog_92_method_5_code, exceptionTable := #[], attributes := #[] }
def k10m2 : Method := { name := "ofSettingValue", desc := "(Ljava/lang/String;)Lholdfast/redis/IndexMemberEncoding;", sig := { parameters := [(.object "java/lang/String")], returnType := some (.object "holdfast/redis/IndexMemberEncoding") }, accessFlags := 8, code := some k10c2 }
/-- holdfast/redis/IndexMemberEncoding -/
def k10 : Class := { plain "holdfast/redis/IndexMemberEncoding" (some 9) with
  accessFlags := 16433
  interfaces := #[]
  cf := some (fileOf pool10 1 #[] #[{ accessFlags := 9, nameIndex := 65, descriptorIndex := 66, attributes := #[] }, { accessFlags := 0, nameIndex := 47, descriptorIndex := 32, attributes := #[] }, { accessFlags := 8, nameIndex := 120, descriptorIndex := 116, attributes := #[] }] 16433 20 #[] #[{ accessFlags := 16409, nameIndex := 5, descriptorIndex := 6, attributes := #[] }, { accessFlags := 16409, nameIndex := 9, descriptorIndex := 6, attributes := #[] }, { accessFlags := 18, nameIndex := 47, descriptorIndex := 48, attributes := #[] }, { accessFlags := 18, nameIndex := 61, descriptorIndex := 62, attributes := #[] }, { accessFlags := 4122, nameIndex := 12, descriptorIndex := 13, attributes := #[] }])
  fields := #[{ name := "PLAIN", type := (.object "holdfast/redis/IndexMemberEncoding"), accessFlags := 16409, slot := 0, constantValue := 0 }, { name := "SERIALIZED", type := (.object "holdfast/redis/IndexMemberEncoding"), accessFlags := 16409, slot := 1, constantValue := 0 }, { name := "settingValue", type := (.object "java/lang/String"), accessFlags := 18, slot := 3, constantValue := 0 }, { name := "argument", type := (.array .byte), accessFlags := 18, slot := 4, constantValue := 0 }, { name := "$VALUES", type := (.array (.object "holdfast/redis/IndexMemberEncoding")), accessFlags := 4122, slot := 2, constantValue := 0 }]
  methods := #[k10m0, k10m1, k10m2]
  instanceTypes := #[(.object "java/lang/String"), .int, .int, (.object "java/lang/String"), (.array .byte)]
  staticTypes := #[(.object "holdfast/redis/IndexMemberEncoding"), (.object "holdfast/redis/IndexMemberEncoding"), (.array (.object "holdfast/redis/IndexMemberEncoding"))]
  resolved := Array.replicate 157 none
  statics := some 1 }

def pool11 : Array CpInfo := pool [(1, .class_ 2), (0, u "java/lang/Cloneable"), (0, .class_ 4), (0, u "java/lang/Object")] 2

/-- java/lang/Cloneable -/
def k11 : Class := { plain "java/lang/Cloneable" (some 0) with
  accessFlags := 1537
  interfaces := #[]
  cf := some (fileOf pool11 1 #[] #[] 1537 3 #[] #[])
  fields := #[]
  methods := #[]
  instanceTypes := #[]
  staticTypes := #[]
  resolved := Array.replicate 7 none
  statics := none }

def pool12 : Array CpInfo := pool [(4, .class_ 6), (1, u "java/lang/Object"), (0, u "<init>"), (0, u "()V"), (5, .class_ 16), (1, u "java/lang/StringLatin1"), (104, u "$assertionsDisabled"), (0, u "Z"), (98, .class_ 223), (1, u "java/lang/StringLatin1$LinesSpliterator"), (57, u "equals"), (0, u "([B[B)Z"), (107, .class_ 391), (0, u "java/lang/StringLatin1$CharsSpliterator")] 3

def k12m0 : Method := { name := "<init>", desc := "()V", sig := { parameters := [], returnType := none }, accessFlags := 0, code := none }
def k12c1 : Code := { maxStack := 3, maxLocals := 3, code := jdk_43_method_13_code, exceptionTable := #[], attributes := #[] }
def k12m1 : Method := { name := "equals", desc := "([B[B)Z", sig := { parameters := [(.array .byte), (.array .byte)], returnType := some .boolean }, accessFlags := 9, code := some k12c1 }
/-- java/lang/StringLatin1 -/
def k12 : Class := { plain "java/lang/StringLatin1" (some 0) with
  accessFlags := 48
  interfaces := #[]
  cf := some (fileOf pool12 14 #[.nestMembers #[390, 221]] #[{ accessFlags := 0, nameIndex := 7, descriptorIndex := 8, attributes := #[] }, { accessFlags := 9, nameIndex := 281, descriptorIndex := 282, attributes := #[] }] 48 4 #[] #[{ accessFlags := 4120, nameIndex := 121, descriptorIndex := 122, attributes := #[] }])
  fields := #[{ name := "$assertionsDisabled", type := .boolean, accessFlags := 4120, slot := 0, constantValue := 0 }]
  methods := #[k12m0, k12m1]
  instanceTypes := #[]
  staticTypes := #[.boolean]
  resolved := Array.replicate 395 none
  statics := none }

def pool13 : Array CpInfo := pool [(2, .class_ 4), (1, u "java/lang/Object"), (0, u "<init>"), (0, u "()V"), (17, .class_ 26), (1, u "jdk/internal/util/Preconditions"), (28, .class_ 56), (0, u "jdk/internal/util/Preconditions$4"), (57, .class_ 115), (0, u "jdk/internal/util/Preconditions$1"), (7, u "SIOOBE_FORMATTER"), (0, u "Ljava/util/function/BiFunction;"), (0, .class_ 126), (0, u "jdk/internal/util/Preconditions$2"), (3, u "AIOOBE_FORMATTER"), (0, .class_ 132), (0, u "jdk/internal/util/Preconditions$3"), (3, u "IOOBE_FORMATTER")] 57

def k13m0 : Method := { name := "<init>", desc := "()V", sig := { parameters := [], returnType := none }, accessFlags := 1, code := none }
/-- jdk/internal/util/Preconditions -/
def k13 : Class := { plain "jdk/internal/util/Preconditions" (some 0) with
  accessFlags := 33
  interfaces := #[]
  cf := some (fileOf pool13 24 #[.nestMembers #[55, 131, 125, 114]] #[{ accessFlags := 1, nameIndex := 5, descriptorIndex := 6, attributes := #[] }] 33 2 #[] #[{ accessFlags := 25, nameIndex := 123, descriptorIndex := 124, attributes := #[] }, { accessFlags := 25, nameIndex := 130, descriptorIndex := 124, attributes := #[] }, { accessFlags := 25, nameIndex := 136, descriptorIndex := 124, attributes := #[] }])
  fields := #[{ name := "SIOOBE_FORMATTER", type := (.object "java/util/function/BiFunction"), accessFlags := 25, slot := 0, constantValue := 0 }, { name := "AIOOBE_FORMATTER", type := (.object "java/util/function/BiFunction"), accessFlags := 25, slot := 1, constantValue := 0 }, { name := "IOOBE_FORMATTER", type := (.object "java/util/function/BiFunction"), accessFlags := 25, slot := 2, constantValue := 0 }]
  methods := #[k13m0]
  instanceTypes := #[]
  staticTypes := #[(.object "java/util/function/BiFunction"), (.object "java/util/function/BiFunction"), (.object "java/util/function/BiFunction")]
  resolved := Array.replicate 194 none
  statics := some 2 }

def pool14 : Array CpInfo := pool [(9, u "<init>"), (6, .class_ 18), (1, u "java/lang/Object"), (0, u "()V"), (1, .class_ 23), (1, u "jdk/internal/util/ArraysSupport"), (0, u "LOG2_ARRAY_LONG_INDEX_SCALE"), (0, u "I"), (2, u "U"), (0, u "Ljdk/internal/misc/Unsafe;"), (8, u "BIG_ENDIAN"), (0, u "Z"), (8, u "LOG2_BYTE_BIT_SIZE"), (4, u "LOG2_ARRAY_INT_INDEX_SCALE"), (54, u "JLA"), (0, u "Ljdk/internal/access/JavaLangAccess;"), (11, u "LOG2_ARRAY_BOOLEAN_INDEX_SCALE"), (9, u "LOG2_ARRAY_BYTE_INDEX_SCALE"), (5, u "LOG2_ARRAY_CHAR_INDEX_SCALE"), (5, u "LOG2_ARRAY_SHORT_INDEX_SCALE"), (18, u "LOG2_ARRAY_FLOAT_INDEX_SCALE"), (24, u "LOG2_ARRAY_DOUBLE_INDEX_SCALE"), (89, u "T_BOOLEAN"), (2, u "T_CHAR"), (1, u "T_FLOAT"), (1, u "T_DOUBLE"), (1, u "T_BYTE"), (1, u "T_SHORT"), (1, u "T_INT"), (1, u "T_LONG"), (1, u "SOFT_MAX_ARRAY_LENGTH")] 83

def k14m0 : Method := { name := "<init>", desc := "()V", sig := { parameters := [], returnType := none }, accessFlags := 2, code := none }
/-- jdk/internal/util/ArraysSupport -/
def k14 : Class := { plain "jdk/internal/util/ArraysSupport" (some 0) with
  accessFlags := 33
  interfaces := #[]
  cf := some (fileOf pool14 21 #[] #[{ accessFlags := 2, nameIndex := 9, descriptorIndex := 19, attributes := #[] }] 33 16 #[] #[{ accessFlags := 24, nameIndex := 28, descriptorIndex := 29, attributes := #[] }, { accessFlags := 26, nameIndex := 38, descriptorIndex := 39, attributes := #[] }, { accessFlags := 25, nameIndex := 121, descriptorIndex := 25, attributes := #[] }, { accessFlags := 25, nameIndex := 131, descriptorIndex := 25, attributes := #[] }, { accessFlags := 25, nameIndex := 137, descriptorIndex := 25, attributes := #[] }, { accessFlags := 25, nameIndex := 143, descriptorIndex := 25, attributes := #[] }, { accessFlags := 25, nameIndex := 53, descriptorIndex := 25, attributes := #[] }, { accessFlags := 25, nameIndex := 24, descriptorIndex := 25, attributes := #[] }, { accessFlags := 25, nameIndex := 162, descriptorIndex := 25, attributes := #[] }, { accessFlags := 25, nameIndex := 187, descriptorIndex := 25, attributes := #[] }, { accessFlags := 26, nameIndex := 48, descriptorIndex := 25, attributes := #[] }, { accessFlags := 25, nameIndex := 277, descriptorIndex := 25, attributes := #[] }, { accessFlags := 25, nameIndex := 280, descriptorIndex := 25, attributes := #[] }, { accessFlags := 25, nameIndex := 282, descriptorIndex := 25, attributes := #[] }, { accessFlags := 25, nameIndex := 284, descriptorIndex := 25, attributes := #[] }, { accessFlags := 25, nameIndex := 286, descriptorIndex := 25, attributes := #[] }, { accessFlags := 25, nameIndex := 288, descriptorIndex := 25, attributes := #[] }, { accessFlags := 25, nameIndex := 290, descriptorIndex := 25, attributes := #[] }, { accessFlags := 25, nameIndex := 292, descriptorIndex := 25, attributes := #[] }, { accessFlags := 26, nameIndex := 108, descriptorIndex := 109, attributes := #[] }, { accessFlags := 25, nameIndex := 294, descriptorIndex := 25, attributes := #[] }])
  fields := #[{ name := "U", type := (.object "jdk/internal/misc/Unsafe"), accessFlags := 24, slot := 0, constantValue := 0 }, { name := "BIG_ENDIAN", type := .boolean, accessFlags := 26, slot := 1, constantValue := 0 }, { name := "LOG2_ARRAY_BOOLEAN_INDEX_SCALE", type := .int, accessFlags := 25, slot := 2, constantValue := 0 }, { name := "LOG2_ARRAY_BYTE_INDEX_SCALE", type := .int, accessFlags := 25, slot := 3, constantValue := 0 }, { name := "LOG2_ARRAY_CHAR_INDEX_SCALE", type := .int, accessFlags := 25, slot := 4, constantValue := 0 }, { name := "LOG2_ARRAY_SHORT_INDEX_SCALE", type := .int, accessFlags := 25, slot := 5, constantValue := 0 }, { name := "LOG2_ARRAY_INT_INDEX_SCALE", type := .int, accessFlags := 25, slot := 6, constantValue := 0 }, { name := "LOG2_ARRAY_LONG_INDEX_SCALE", type := .int, accessFlags := 25, slot := 7, constantValue := 0 }, { name := "LOG2_ARRAY_FLOAT_INDEX_SCALE", type := .int, accessFlags := 25, slot := 8, constantValue := 0 }, { name := "LOG2_ARRAY_DOUBLE_INDEX_SCALE", type := .int, accessFlags := 25, slot := 9, constantValue := 0 }, { name := "LOG2_BYTE_BIT_SIZE", type := .int, accessFlags := 26, slot := 10, constantValue := 0 }, { name := "T_BOOLEAN", type := .int, accessFlags := 25, slot := 11, constantValue := 0 }, { name := "T_CHAR", type := .int, accessFlags := 25, slot := 12, constantValue := 0 }, { name := "T_FLOAT", type := .int, accessFlags := 25, slot := 13, constantValue := 0 }, { name := "T_DOUBLE", type := .int, accessFlags := 25, slot := 14, constantValue := 0 }, { name := "T_BYTE", type := .int, accessFlags := 25, slot := 15, constantValue := 0 }, { name := "T_SHORT", type := .int, accessFlags := 25, slot := 16, constantValue := 0 }, { name := "T_INT", type := .int, accessFlags := 25, slot := 17, constantValue := 0 }, { name := "T_LONG", type := .int, accessFlags := 25, slot := 18, constantValue := 0 }, { name := "JLA", type := (.object "jdk/internal/access/JavaLangAccess"), accessFlags := 26, slot := 19, constantValue := 0 }, { name := "SOFT_MAX_ARRAY_LENGTH", type := .int, accessFlags := 25, slot := 20, constantValue := 0 }]
  methods := #[k14m0]
  instanceTypes := #[]
  staticTypes := #[(.object "jdk/internal/misc/Unsafe"), .boolean, .int, .int, .int, .int, .int, .int, .int, .int, .int, .int, .int, .int, .int, .int, .int, .int, .int, (.object "jdk/internal/access/JavaLangAccess"), .int]
  resolved := Array.replicate 378 none
  statics := none }

/-- the primitive byte -/
def k15 : Class := { plain "byte" none with kind := .primitive 'B', accessFlags := 0x411 }
/-- [B -/
def k16 : Class := { plain "[B" (some 0) with kind := .array 15 .byte, interfaces := #[11, 2], accessFlags := 1041 }

/-- the primitive char -/
def k17 : Class := { plain "char" none with kind := .primitive 'C', accessFlags := 0x411 }
/-- [C -/
def k18 : Class := { plain "[C" (some 0) with kind := .array 17 .char, interfaces := #[11, 2], accessFlags := 1041 }

/-- the primitive int -/
def k19 : Class := { plain "int" none with kind := .primitive 'I', accessFlags := 0x411 }
/-- [I -/
def k20 : Class := { plain "[I" (some 0) with kind := .array 19 .int, interfaces := #[11, 2], accessFlags := 1041 }

/-- [Lholdfast/redis/IndexMemberEncoding; -/
def k21 : Class := { plain "[Lholdfast/redis/IndexMemberEncoding;" (some 0) with kind := .array 10 (.object "holdfast/redis/IndexMemberEncoding"), interfaces := #[11, 2], accessFlags := 1041 }

def heap : Heap := #[{ cls := 7, slots := #[.long 0, .int 1, .null, .int 0, .null, .int 0, .int 0], vm := .statics 7 },
  { cls := 10, slots := #[.ref 4, .ref 5, .ref 3], vm := .statics 10 },
  { cls := 13, slots := #[.null, .null, .null], vm := .statics 13 },
  { cls := 21, slots := #[.ref 4, .ref 5], vm := .none },
  { cls := 10, slots := #[.null, .int 0, .int 0, .ref 6, .null], vm := .none },
  { cls := 10, slots := #[.null, .int 1, .int 0, .ref 7, .null], vm := .none },
  { cls := 7, slots := #[.ref 8, .int 0, .int 0, .int 0], vm := .none },
  { cls := 7, slots := #[.ref 9, .int 0, .int 0, .int 0], vm := .none },
  { cls := 16, slots := #[.int 112, .int 108, .int 97, .int 105, .int 110], vm := .none },
  { cls := 16, slots := #[.int 115, .int 101, .int 114, .int 105, .int 97, .int 108, .int 105, .int 122, .int 101, .int 100], vm := .none }]
def classes : Array Class := #[k0, k1, k2, k3, k4, k5, k6, k7, k8, k9, k10, k11, k12, k13, k14, k15, k16, k17, k18, k19, k20, k21]
def interned : List (Array UInt16 × Addr) := []
def slotsUsed : Nat := 48
def theMethod : MethodId := ⟨1, 1⟩
def args0 : Array Value := #[.int 5]
def aboutOver (below : List Frame) : State where
  vm := { classes := classes, interned := interned.toArray }
  heap := heap
  slotsUsed := slotsUsed
  threads := #[{ frames := .invoking theMethod args0 :: below }]
def below0 : List Frame := [.native { method := ⟨0, 0⟩, args := #[] }]
def about1 : State := aboutOver below0
def p0 : Program := .bare "" "" ""
def e0 : Env := launch0.env 0 0 0
theorem w_frames : about1.frames = Frame.invoking theMethod args0 :: below0 := rfl
set_option maxRecDepth 65536 in
theorem w_args : argsFit about1.vm theMethod args0 = true := by decide +kernel
set_option maxRecDepth 65536 in
theorem w_heap : heapFits about1 = true := by decide +kernel
set_option maxRecDepth 65536 in
theorem w_runnable : about1.curStatus? = some .runnable := by decide +kernel
set_option maxRecDepth 65536 in
theorem w_alone : about1.alone = true := by decide +kernel
set_option maxRecDepth 65536 in
theorem w_named : about1.methodNamed? x = some theMethod := by decide +kernel
set_option maxRecDepth 65536 in
theorem w_hears : about1.hears theMethod below0 = true := by decide +kernel
set_option maxRecDepth 65536 in
theorem w_ripe : about1.ripe theMethod args0 below0 = true := by decide +kernel
theorem w_running : about1.status = .running := rfl
set_option maxRecDepth 65536 in
theorem w_room : about1.hasRoom e0.platform room_1 = true :=
  launch0.hasRoom_least _ room_1 (by decide +kernel) (by decide +kernel) (by decide +kernel) (by decide +kernel) (by decide +kernel) (by decide +kernel)
theorem allAtoms_all (ts : List Jvm.Cond) (a : Array Jvm.Value) (st : Jvm.State) : (allAtoms ts).before a st = ts.all (fun c => c.before a st) := by
  induction ts with
  | nil => rfl
  | cons c t ih =>
    show (Jvm.Cond.and c (allAtoms t)).before a st = _
    rw [Jvm.Cond.before_and, ih, List.all_cons]
def words1 : List Jvm.Cond := Jvm.Cond.code x code maxLocals ret :: tables_1
/-- a 'code' word, met by the world's own term for the bytes: nothing is compared byte by byte -/
theorem code_word {y : MethodName} {bytes : ByteArray} {mx : Nat} {rt : Option FieldType} {a : Array Value} {s : State} {m : MethodId} {meth : Method} {c : Code} (h1 : s.methodNamed? y = some m) (h2 : s.vm.method? m = some meth) (h3 : meth.code = some c) (h4 : c.code = bytes)
    (h5 : (c.maxLocals == mx && c.exceptionTable.isEmpty && decide (c.maxStack ≤ mostOperands) && decide (meth.sig.returnType = rt) && !meth.locks && decide (parseMethodDescriptor y.desc = some meth.sig)) = true) : (Jvm.Cond.code y bytes mx rt).before a s = true := by
  simp only [Bool.and_eq_true, beq_iff_eq, Bool.not_eq_true', decide_eq_true_eq] at h5
  obtain ⟨⟨⟨⟨⟨g1, g2⟩, g3⟩, g4⟩, g5⟩, g6⟩ := h5
  simp [Cond.before, Cond.holds, Cond.value, h1, h2, h3, h4, g1, g2, g3, g4, g5, g6]
def isCode : Jvm.Cond → Bool
  | .code _ _ _ _ => true
  | _ => false
theorem all_split {L : List Jvm.Cond} {P : Jvm.Cond → Bool} (h1 : L.all (fun c => isCode c || P c) = true) (h2 : ∀ c ∈ L.filter isCode, P c = true) : L.all P = true := by
  refine List.all_eq_true.mpr fun c hc => ?_
  have h := List.all_eq_true.mp h1 c hc
  rcases Bool.eq_false_or_eq_true (isCode c) with hi | hi
  · exact h2 c (List.mem_filter.mpr ⟨hc, hi⟩)
  · simpa [hi] using h
set_option maxRecDepth 65536 in
theorem w_c0 : (Jvm.Cond.code x code maxLocals ret).before args0 about1 = true := code_word (m := ⟨1, 1⟩) (meth := k1m1) (c := k1c1) (by decide +kernel) rfl rfl rfl (by decide +kernel)
set_option maxRecDepth 65536 in
theorem w_c1 : (Jvm.Cond.code ({ cls := "java/lang/String", name := "<init>", desc := "([C)V" } : Jvm.MethodName) jdk_42_method_3_code (2 : Nat) (Option.none : Option Jvm.ClassFile.FieldType)).before args0 about1 = true := code_word (m := ⟨7, 1⟩) (meth := k7m1) (c := k7c1) (by decide +kernel) rfl rfl rfl (by decide +kernel)
set_option maxRecDepth 65536 in
theorem w_c2 : (Jvm.Cond.code ({ cls := "java/lang/String", name := "<init>", desc := "([CIILjava/lang/Void;)V" } : Jvm.MethodName) jdk_42_method_149_code (6 : Nat) (Option.none : Option Jvm.ClassFile.FieldType)).before args0 about1 = true := code_word (m := ⟨7, 3⟩) (meth := k7m3) (c := k7c3) (by decide +kernel) rfl rfl rfl (by decide +kernel)
set_option maxRecDepth 65536 in
theorem w_c3 : (Jvm.Cond.code ({ cls := "java/lang/Object", name := "<init>", desc := "()V" } : Jvm.MethodName) object_method_1_code (1 : Nat) (Option.none : Option Jvm.ClassFile.FieldType)).before args0 about1 = true := code_word (m := ⟨0, 0⟩) (meth := k0m0) (c := k0c0) (by decide +kernel) rfl rfl rfl (by decide +kernel)
set_option maxRecDepth 65536 in
theorem w_c4 : (Jvm.Cond.code ({ cls := "java/lang/StringUTF16", name := "compress", desc := "([CII)[B" } : Jvm.MethodName) jdk_52_method_16_code (6 : Nat) (Option.some (Jvm.ClassFile.FieldType.array Jvm.ClassFile.FieldType.byte))).before args0 about1 = true := code_word (m := ⟨8, 2⟩) (meth := k8m2) (c := k8c2) (by decide +kernel) rfl rfl rfl (by decide +kernel)
set_option maxRecDepth 65536 in
theorem w_c5 : (Jvm.Cond.code ({ cls := "java/lang/StringUTF16", name := "compress", desc := "([CI[BII)I" } : Jvm.MethodName) jdk_52_method_21_code (7 : Nat) (Option.some Jvm.ClassFile.FieldType.int)).before args0 about1 = true := code_word (m := ⟨8, 3⟩) (meth := k8m3) (c := k8c3) (by decide +kernel) rfl rfl rfl (by decide +kernel)
set_option maxRecDepth 65536 in
theorem w_c6 : (Jvm.Cond.code ({ cls := "java/lang/StringUTF16", name := "coderFromArrayLen", desc := "([BI)B" } : Jvm.MethodName) jdk_52_method_15_code (2 : Nat) (Option.some Jvm.ClassFile.FieldType.byte)).before args0 about1 = true := code_word (m := ⟨8, 1⟩) (meth := k8m1) (c := k8c1) (by decide +kernel) rfl rfl rfl (by decide +kernel)
set_option maxRecDepth 65536 in
theorem w_c7 : (Jvm.Cond.code ({ cls := "holdfast/redis/IndexMemberEncoding", name := "ofSettingValue", desc := "(Ljava/lang/String;)Lholdfast/redis/IndexMemberEncoding;" } : Jvm.MethodName) prog_92_method_5_code (5 : Nat) (Option.some (Jvm.ClassFile.FieldType.object "holdfast/redis/IndexMemberEncoding"))).before args0 about1 = true := code_word (m := ⟨10, 2⟩) (meth := k10m2) (c := k10c2) (by decide +kernel) rfl rfl rfl (by decide +kernel)
set_option maxRecDepth 65536 in
theorem w_c8 : (Jvm.Cond.code ({ cls := "holdfast/redis/IndexMemberEncoding", name := "values", desc := "()[Lholdfast/redis/IndexMemberEncoding;" } : Jvm.MethodName) prog_92_method_1_code (0 : Nat) (Option.some (Jvm.ClassFile.FieldType.array (Jvm.ClassFile.FieldType.object "holdfast/redis/IndexMemberEncoding")))).before args0 about1 = true := code_word (m := ⟨10, 0⟩) (meth := k10m0) (c := k10c0) (by decide +kernel) rfl rfl rfl (by decide +kernel)
set_option maxRecDepth 65536 in
theorem w_c9 : (Jvm.Cond.code ({ cls := "java/lang/String", name := "equals", desc := "(Ljava/lang/Object;)Z" } : Jvm.MethodName) jdk_42_method_66_code (3 : Nat) (Option.some Jvm.ClassFile.FieldType.boolean)).before args0 about1 = true := code_word (m := ⟨7, 2⟩) (meth := k7m2) (c := k7c2) (by decide +kernel) rfl rfl rfl (by decide +kernel)
set_option maxRecDepth 65536 in
theorem w_c10 : (Jvm.Cond.code ({ cls := "java/lang/StringLatin1", name := "equals", desc := "([B[B)Z" } : Jvm.MethodName) jdk_43_method_13_code (3 : Nat) (Option.some Jvm.ClassFile.FieldType.boolean)).before args0 about1 = true := code_word (m := ⟨12, 1⟩) (meth := k12m1) (c := k12c1) (by decide +kernel) rfl rfl rfl (by decide +kernel)
set_option maxRecDepth 65536 in
theorem w_c11 : (Jvm.Cond.code ({ cls := "holdfast/redis/IndexMemberEncoding", name := "settingValue", desc := "()Ljava/lang/String;" } : Jvm.MethodName) prog_92_method_4_code (1 : Nat) (Option.some (Jvm.ClassFile.FieldType.object "java/lang/String"))).before args0 about1 = true := code_word (m := ⟨10, 1⟩) (meth := k10m1) (c := k10c1) (by decide +kernel) rfl rfl rfl (by decide +kernel)
def codes1 : List Jvm.Cond := [Jvm.Cond.code x code maxLocals ret, Jvm.Cond.code ({ cls := "java/lang/String", name := "<init>", desc := "([C)V" } : Jvm.MethodName) jdk_42_method_3_code (2 : Nat) (Option.none : Option Jvm.ClassFile.FieldType), Jvm.Cond.code ({ cls := "java/lang/String", name := "<init>", desc := "([CIILjava/lang/Void;)V" } : Jvm.MethodName) jdk_42_method_149_code (6 : Nat) (Option.none : Option Jvm.ClassFile.FieldType), Jvm.Cond.code ({ cls := "java/lang/Object", name := "<init>", desc := "()V" } : Jvm.MethodName) object_method_1_code (1 : Nat) (Option.none : Option Jvm.ClassFile.FieldType), Jvm.Cond.code ({ cls := "java/lang/StringUTF16", name := "compress", desc := "([CII)[B" } : Jvm.MethodName) jdk_52_method_16_code (6 : Nat) (Option.some (Jvm.ClassFile.FieldType.array Jvm.ClassFile.FieldType.byte)), Jvm.Cond.code ({ cls := "java/lang/StringUTF16", name := "compress", desc := "([CI[BII)I" } : Jvm.MethodName) jdk_52_method_21_code (7 : Nat) (Option.some Jvm.ClassFile.FieldType.int), Jvm.Cond.code ({ cls := "java/lang/StringUTF16", name := "coderFromArrayLen", desc := "([BI)B" } : Jvm.MethodName) jdk_52_method_15_code (2 : Nat) (Option.some Jvm.ClassFile.FieldType.byte), Jvm.Cond.code ({ cls := "holdfast/redis/IndexMemberEncoding", name := "ofSettingValue", desc := "(Ljava/lang/String;)Lholdfast/redis/IndexMemberEncoding;" } : Jvm.MethodName) prog_92_method_5_code (5 : Nat) (Option.some (Jvm.ClassFile.FieldType.object "holdfast/redis/IndexMemberEncoding")), Jvm.Cond.code ({ cls := "holdfast/redis/IndexMemberEncoding", name := "values", desc := "()[Lholdfast/redis/IndexMemberEncoding;" } : Jvm.MethodName) prog_92_method_1_code (0 : Nat) (Option.some (Jvm.ClassFile.FieldType.array (Jvm.ClassFile.FieldType.object "holdfast/redis/IndexMemberEncoding"))), Jvm.Cond.code ({ cls := "java/lang/String", name := "equals", desc := "(Ljava/lang/Object;)Z" } : Jvm.MethodName) jdk_42_method_66_code (3 : Nat) (Option.some Jvm.ClassFile.FieldType.boolean), Jvm.Cond.code ({ cls := "java/lang/StringLatin1", name := "equals", desc := "([B[B)Z" } : Jvm.MethodName) jdk_43_method_13_code (3 : Nat) (Option.some Jvm.ClassFile.FieldType.boolean), Jvm.Cond.code ({ cls := "holdfast/redis/IndexMemberEncoding", name := "settingValue", desc := "()Ljava/lang/String;" } : Jvm.MethodName) prog_92_method_4_code (1 : Nat) (Option.some (Jvm.ClassFile.FieldType.object "java/lang/String"))]
set_option maxRecDepth 65536 in
theorem codes_eq : words1.filter isCode = codes1 := rfl
theorem w_codes : ∀ c ∈ words1.filter isCode, c.before args0 about1 = true := by
  rw [codes_eq]
  intro c hc
  simp only [codes1, List.mem_cons, List.not_mem_nil, or_false] at hc
  rcases hc with rfl | rfl | rfl | rfl | rfl | rfl | rfl | rfl | rfl | rfl | rfl | rfl
  · exact w_c0
  · exact w_c1
  · exact w_c2
  · exact w_c3
  · exact w_c4
  · exact w_c5
  · exact w_c6
  · exact w_c7
  · exact w_c8
  · exact w_c9
  · exact w_c10
  · exact w_c11
set_option maxRecDepth 65536 in
theorem w_t1 : (words1.take 24).all (fun c => isCode c || c.before args0 about1) = true := by decide +kernel
set_option maxRecDepth 65536 in
theorem w_t2 : ((words1.drop 24).take 24).all (fun c => isCode c || c.before args0 about1) = true := by decide +kernel
set_option maxRecDepth 65536 in
theorem w_t3 : ((words1.drop 24).drop 24).all (fun c => isCode c || c.before args0 about1) = true := by decide +kernel
theorem w_tables : (allAtoms (Jvm.Cond.code x code maxLocals ret :: tables_1)).before args0 about1 = true := by
  rw [allAtoms_all]
  show words1.all (fun c => c.before args0 about1) = true
  refine all_split ?_ w_codes
  rw [← List.take_append_drop 24 words1, List.all_append, w_t1, ← List.take_append_drop 24 (words1.drop 24), List.all_append, w_t2, w_t3]
  rfl
set_option maxRecDepth 65536 in
theorem w_rest : rest_1_c.before args0 about1 = true := by decide +kernel
set_option maxRecDepth 65536 in
theorem w_case : (Jvm.Cond.and given_1 narrow_1).before args0 about1 = true := by decide +kernel
theorem w_applies : (headSpec (Jvm.Cond.code x code maxLocals ret :: tables_1) room_1).applies x e0.platform about1 = true :=
  (Spec.applies_iff w_frames).mpr ⟨w_running, w_runnable, w_alone, w_named, w_hears, w_ripe, w_room, w_tables⟩
theorem atStart : AtStart classFile x code maxLocals ret World_1 tables_1 room_1 Calls_1 rest_1 Pre_1 launch0 p0 e0 about1 theMethod args0 below0 :=
  ⟨lists_1, trivial, launch0.admits_env _ _ _, launch0.least_env, fairChoices_fair.cas, fairChoices_fair.clock, w_frames, w_args, w_heap, w_applies, trivial, w_rest, w_case⟩
end start1
theorem witness_1 : WitnessClaimed_1 := ⟨start1.p0, start1.e0, start1.about1, start1.theMethod, start1.args0, start1.below0, start1.atStart⟩
end Jvm.Pilot.@@N@@
