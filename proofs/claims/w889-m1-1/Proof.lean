import JvmDerived
import JvmDerived.Pilot.@@N@@Statement
import JvmDerived.Pilot.@@N@@Code
set_option linter.unusedVariables false
set_option linter.unusedSimpArgs false
namespace Jvm.RoadKit
open Sem ClassFile Op Lib Jvm.Stand Jvm.Free Jvm.LawKit
section New
variable {p : Program} {l : Launch} {e : Env} {R : Room} {s : State} {m : MethodId} {args : Array Value} {below : List Frame} {meth : Method} {c : Code} {T : State} {locs : List Loc} {cells slots : Nat}
theorem retI (X : Stand p l e R s m args below meth c T locs cells slots) (hx : p.tables.exec = Jvm.exec) {pc : Nat} {Ls : Array Slot} {z : Int32} {rest : List Value} (hret : meth.sig.returnType = some .int) (hd : decode c.code pc = .ok (.ireturn, 1)) {fs : List Frame}
    (hl : ∀ (f : JFrame) (acts : List Action), f.method = m → f.locked = none → f.entered = [] → (doReturn e (T.setTop f) acts (some (.int z))).1 = T.setFrames fs) : Steps p.tables e below (T.setTop (mkF m pc Ls (.int z :: rest))) (T.setFrames fs) := by
  have hm' : T.vm.method? m = some meth := X.method'
  have hn : narrow .int (.int z) = .int z := rfl
  show Steps p.tables e below (T.setTop { method := m, pc := pc, locals := Ls, stack := _ :: rest, locked := none }) _
  jvm_step X.here [X.here.top, hx, hd, hm', hret, hn]
  first | (intro acts; rw [hl _ acts rfl rfl rfl]) | rw [hl _ _ rfl rfl rfl]
  exact Steps.refl _
end New
end Jvm.RoadKit
/- laws to paste: Road.backV (cut by pick.py; bodies as the Statement names them) -/
namespace Jvm.Pilot.@@N@@
namespace StrChars
open Jvm Sem ClassFile Op Lib Jvm.Stand Jvm.Free.XT Jvm.Free.ALB Jvm.Free.JM Jvm.Free
open Jvm.Lib.Cold (StaticIs)
/-- a char array whose places are chars -/
def Ch (a : Addr) (A : Cell) (U : State) : Prop := Arr .char a A U ∧ Typed .char A
theorem Ch.mv {a : Addr} {A : Cell} {U U' : State} (h : Ch a A U) (hal : U.vm.Alike U'.vm) (hh : U'.heap = U.heap) : Ch a A U' := ⟨h.1.mv hal hh, h.2⟩
theorem Ch.keep {a : Addr} {A : Cell} {U U' : State} (h : Ch a A U) (hal : U.vm.Alike U'.vm) (hk : U'.heap[a]? = some A) : Ch a A U' := ⟨h.1.keep hal hk, h.2⟩
/-- what place i of a char[]'s cell holds -/
def cv (A : Cell) (i : Nat) : Int32 := match A.slots[i]? with | some (.int x) => x | _ => 0
theorem Ch.get {a : Addr} {A : Cell} {U : State} (h : Ch a A U) {i : Nat} (hi : i < A.slots.size) : A.slots[i]? = some (.int (cv A i)) := by
  have e := Array.getElem?_eq_getElem hi
  have f := h.2 i _ e
  unfold cv; rw [e]
  generalize A.slots[i] = v at f
  cases v <;> simp [fits] at f ⊢
/-- the byte that i2b leaves of a char -/
def lo8 (x : Int32) : Int32 := x.toInt8.toInt32
theorem fits_lo8 (y : Int32) : fits .byte (.int (lo8 y)) = true := by
  have h1 := y.toInt8.le_toInt
  have h2 := y.toInt8.toInt_lt
  simp only [lo8, fits, Bool.and_eq_true, decide_eq_true_eq, Int32.le_iff_toInt_le, Int8.toInt_toInt32, show (-128 : Int32).toInt = -128 from by decide, show (127 : Int32).toInt = 127 from by decide]
  omega
/-- A' is A but that each place j of lo .. hi - 1 holds f j -/
def Laid (A A' : Cell) (lo hi : Nat) (f : Nat → Value) : Prop := A'.cls = A.cls ∧ A'.vm = A.vm ∧ A'.slots.size = A.slots.size ∧ ∀ i, A'.slots[i]? = if lo ≤ i ∧ i < hi then some (f i) else A.slots[i]?
theorem Laid.zero (A : Cell) (lo : Nat) (f : Nat → Value) : Laid A A lo (lo + 0) f := ⟨rfl, rfl, rfl, fun i => by rw [if_neg (by omega)]⟩
theorem Laid.step {A Ak : Cell} {lo k : Nat} {f : Nat → Value} {v : Value} (h : Laid A Ak lo k f) (hlo : lo ≤ k) (hk : k < Ak.slots.size) (hv : v = f k) : Laid A (Ak.setSlot k v) lo (k + 1) f := by
  refine ⟨h.1, h.2.1, by simpa [Cell.setSlot] using h.2.2.1, fun i => ?_⟩
  by_cases e : k = i
  · subst e; rw [Cell.slots_setSlot_self v hk, if_pos (by omega), hv]
  · rw [Cell.slots_setSlot_ne v e, h.2.2.2 i]
    by_cases q : lo ≤ i ∧ i < k
    · rw [if_pos q, if_pos (by omega)]
    · rw [if_neg q, if_neg (by omega)]
def U16 : String := "java/lang/StringUTF16"
namespace Cmp5
def yN : MethodName := ⟨"java/lang/StringUTF16", "compress", "([CI[BII)I"⟩
abbrev yB : ByteArray := jdk_52_method_21_code
theorem d0 : decode yB 0 = .ok (.iconst 0, 1) := by decide +kernel
theorem d1 : decode yB 1 = .ok (.istore 5, 2) := by decide +kernel
theorem d3 : decode yB 3 = .ok (.iload 5, 2) := by decide +kernel
theorem d5 : decode yB 5 = .ok (.iload 4, 2) := by decide +kernel
theorem d7 : decode yB 7 = .ok (.if_icmp (.ge) 37, 3) := by decide +kernel
theorem d10 : decode yB 10 = .ok (.aload_n 0, 1) := by decide +kernel
theorem d11 : decode yB 11 = .ok (.iload_n 1, 1) := by decide +kernel
theorem d12 : decode yB 12 = .ok (.caload, 1) := by decide +kernel
theorem d13 : decode yB 13 = .ok (.istore 6, 2) := by decide +kernel
theorem d15 : decode yB 15 = .ok (.iload 6, 2) := by decide +kernel
theorem d17 : decode yB 17 = .ok (.sipush 255, 3) := by decide +kernel
theorem d20 : decode yB 20 = .ok (.if_icmp (.le) 6, 3) := by decide +kernel
theorem d26 : decode yB 26 = .ok (.aload_n 2, 1) := by decide +kernel
theorem d27 : decode yB 27 = .ok (.iload_n 3, 1) := by decide +kernel
theorem d28 : decode yB 28 = .ok (.iload 6, 2) := by decide +kernel
theorem d30 : decode yB 30 = .ok (.i2b, 1) := by decide +kernel
theorem d31 : decode yB 31 = .ok (.bastore, 1) := by decide +kernel
theorem d32 : decode yB 32 = .ok (.iinc 1 1, 3) := by decide +kernel
theorem d35 : decode yB 35 = .ok (.iinc 3 1, 3) := by decide +kernel
theorem d38 : decode yB 38 = .ok (.iinc 5 1, 3) := by decide +kernel
theorem d41 : decode yB 41 = .ok (.goto (-38), 3) := by decide +kernel
theorem d44 : decode yB 44 = .ok (.iload 4, 2) := by decide +kernel
theorem d46 : decode yB 46 = .ok (.ireturn, 1) := by decide +kernel
def site : List Cond := []
def tab : Cond := tabOf yN yB 7 (some .int) site
def P (b : Addr) (A : Cell) (d : Addr) (B : Cell) (o q len : Nat) (args : Array Value) (s : State) : Prop := args = #[.ref b, .int (Int32.ofNat o), .ref d, .int (Int32.ofNat q), .int (Int32.ofNat len)] ∧ Ch b A s ∧ Arr .byte d B s ∧ b ≠ d ∧ o + len ≤ A.slots.size ∧ q + len ≤ B.slots.size ∧ ∀ i, i < len → ¬ 255 < cv A (o + i)
def E (b : Addr) (A : Cell) (d : Addr) (B : Cell) (o q len : Nat) (r : Option Value) (s u : State) : Prop := r = some (.int (Int32.ofNat len)) ∧ ∃ B', Put d B' s u ∧ Laid B B' q (q + len) (fun j => Value.int (lo8 (cv A (o + (j - q)))))
/-- no char of the range above 255: len; the places written hold each char's low byte -/
theorem law (l : Launch) (b : Addr) (A : Cell) (d : Addr) (B : Cell) (o q len : Nat) : Law l yN 5 5 0 0 yB 7 (some .int) site (P b A d B o q len) (E b A d B o q len) (copyLocs d q len) 0 0 := by
  refine Law.of_walk (plainFor_of_name (by decide +kernel)) (by decide +kernel) (by decide +kernel) (by decide) (fun _ _ h => by rw [h.1]; rfl) (fun _ U U' hal hh h => ⟨h.1, h.2.1.mv hal hh, h.2.2.1.mv hal hh, h.2.2.2⟩) (fun r U U' V V' h1 hal h2 h => ⟨h.1, h.2.elim fun B' q => ⟨B', q.1.mv h1 h2, q.2⟩⟩) ?_
  intro p e s m args below meth c s₁ X0 hexec hbytes hml hret hlk hnm hown hh0 W hP
  obtain ⟨rfl, hA, hB, hne, l1, l2, hp⟩ := hP
  have c1 : Steps p.tables e below (s₁.setTop (entryFrame m #[.ref b, .int (Int32.ofNat o), .ref d, .int (Int32.ofNat q), .int (Int32.ofNat len)] 7)) (s₁.setTop (mkF m 0 #[.val (.ref b), .val (.int (Int32.ofNat o)), .val (.ref d), .val (.int (Int32.ofNat q)), .val (.int (Int32.ofNat len)), .unset, .unset] [])) := entry rfl
  have hA0 := hA.1.mv X0.warmed.alike hh0
  have hB0 := hB.mv X0.warmed.alike hh0
  have a31 := hA.1.2.2.2
  have c2 : Steps p.tables e below (s₁.setTop (entryFrame m #[.ref b, .int (Int32.ofNat o), .ref d, .int (Int32.ofNat q), .int (Int32.ofNat len)] 7)) (s₁.setTop (mkF m 3 #[.val (.ref b), .val (.int (Int32.ofNat o)), .val (.ref d), .val (.int (Int32.ofNat q)), .val (.int (Int32.ofNat len)), .val (.int 0), .unset] [])) := c1.trans (by
    refine iconstV X0.here hexec rfl 0 (hb hbytes d0) (by decide) ?_
    refine XS.istore X0.here hexec rfl (hb hbytes d1) rfl rfl ?_
    exact Steps.refl _)
  have loop : ∀ (r i : Nat), i + r = len → ∀ (z : Slot), (z = .unset ∨ ∃ w, z = .val w ∧ w.category = 1) → ∀ (Tl : State) (Bk : Cell), Stand p l e { frames := 0, locals := 0, cells := 0, slots := 0 } s m #[.ref b, .int (Int32.ofNat o), .ref d, .int (Int32.ofNat q), .int (Int32.ofNat len)] below meth c Tl ([] ++ copyLocs d q i) 0 0 → Put d Bk s₁ Tl → Laid B Bk q (q + i) (fun j => Value.int (lo8 (cv A (o + (j - q))))) →
      Steps p.tables e below (s₁.setTop (entryFrame m #[.ref b, .int (Int32.ofNat o), .ref d, .int (Int32.ofNat q), .int (Int32.ofNat len)] 7)) (Tl.setTop (mkF m 3 #[.val (.ref b), .val (.int (Int32.ofNat (o + i))), .val (.ref d), .val (.int (Int32.ofNat (q + i))), .val (.int (Int32.ofNat len)), .val (.int (Int32.ofNat i)), z] [])) → ∃ (T' : State) (B' : Cell) (z' : Slot), Stand p l e { frames := 0, locals := 0, cells := 0, slots := 0 } s m #[.ref b, .int (Int32.ofNat o), .ref d, .int (Int32.ofNat q), .int (Int32.ofNat len)] below meth c T' ([] ++ copyLocs d q len) 0 0 ∧ Put d B' s₁ T' ∧ Laid B B' q (q + len) (fun j => Value.int (lo8 (cv A (o + (j - q))))) ∧
      Steps p.tables e below (s₁.setTop (entryFrame m #[.ref b, .int (Int32.ofNat o), .ref d, .int (Int32.ofNat q), .int (Int32.ofNat len)] 7)) (T'.setTop (mkF m 3 #[.val (.ref b), .val (.int (Int32.ofNat (o + len))), .val (.ref d), .val (.int (Int32.ofNat (q + len))), .val (.int (Int32.ofNat len)), .val (.int (Int32.ofNat len)), z'] [])) := by
    intro r
    induction r with
    | zero =>
      intro i hi z hz Tl Bk Xl pl fl cl
      have hil : i = len := by omega
      rw [hil] at Xl fl cl
      exact ⟨Tl, Bk, z, Xl, pl, fl, cl⟩
    | succ r ih =>
      intro i hi z hz Tl Bk Xl pl fl cl
      have all := X0.warmed.alike.symm.trans Xl.warmed.alike
      have hAl := hA0.keep all (pl.other hne hA0.1)
      have hBk := hB0.like all pl.1 fl.1 fl.2.1 fl.2.2.1
      have hlt : q + i < Bk.slots.size := by rw [fl.2.2.1]; omega
      have c3 : Steps p.tables e below (s₁.setTop (entryFrame m #[.ref b, .int (Int32.ofNat o), .ref d, .int (Int32.ofNat q), .int (Int32.ofNat len)] 7)) (Tl.setTop (mkF m 12 #[.val (.ref b), .val (.int (Int32.ofNat (o + i))), .val (.ref d), .val (.int (Int32.ofNat (q + i))), .val (.int (Int32.ofNat len)), .val (.int (Int32.ofNat i)), z] [.int (Int32.ofNat (o + i)), .ref b])) := cl.trans (by
        refine XS.iload Xl.here hexec rfl (hb hbytes d3) rfl ?_
        refine XS.iload Xl.here hexec rfl (hb hbytes d5) rfl ?_
        refine XS.icmpNo Xl.here hexec rfl (hb hbytes d7) rfl (ii_ge_f (lt32 (by omega) (by omega))) ?_
        refine XS.aloadN Xl.here hexec rfl (hb hbytes d10) rfl rfl ?_
        refine XS.iloadN Xl.here hexec rfl (hb hbytes d11) rfl ?_
        exact Steps.refl _)
      have c4 : Steps p.tables e below (s₁.setTop (entryFrame m #[.ref b, .int (Int32.ofNat o), .ref d, .int (Int32.ofNat q), .int (Int32.ofNat len)] 7)) (Tl.setTop (mkF m 13 #[.val (.ref b), .val (.int (Int32.ofNat (o + i))), .val (.ref d), .val (.int (Int32.ofNat (q + i))), .val (.int (Int32.ofNat len)), .val (.int (Int32.ofNat i)), z] [.int (cv A (o + i))])) := c3.trans (by
        refine Xl.aget hexec hAl rfl (hA.get (i := o + i) (by omega)) rfl rfl (hb hbytes d12) ?_
        exact Steps.refl _)
      have c5 : Steps p.tables e below (s₁.setTop (entryFrame m #[.ref b, .int (Int32.ofNat o), .ref d, .int (Int32.ofNat q), .int (Int32.ofNat len)] 7)) (Tl.setTop (mkF m 15 #[.val (.ref b), .val (.int (Int32.ofNat (o + i))), .val (.ref d), .val (.int (Int32.ofNat (q + i))), .val (.int (Int32.ofNat len)), .val (.int (Int32.ofNat i)), .val (.int (cv A (o + i)))] [])) := c4.trans (by
        refine XS.istoreS Xl.here hexec rfl (hb hbytes d13) rfl rfl hz ?_
        exact Steps.refl _)
      have c6 : Steps p.tables e below (s₁.setTop (entryFrame m #[.ref b, .int (Int32.ofNat o), .ref d, .int (Int32.ofNat q), .int (Int32.ofNat len)] 7)) (Tl.setTop (mkF m 31 #[.val (.ref b), .val (.int (Int32.ofNat (o + i))), .val (.ref d), .val (.int (Int32.ofNat (q + i))), .val (.int (Int32.ofNat len)), .val (.int (Int32.ofNat i)), .val (.int (cv A (o + i)))] [.int (lo8 (cv A (o + i))), .int (Int32.ofNat (q + i)), .ref d])) := c5.trans (by
        refine XS.iload Xl.here hexec rfl (hb hbytes d15) rfl ?_
        refine sipushV Xl.here hexec rfl 255 (hb hbytes d17) (by decide) ?_
        refine XS.icmpYes Xl.here hexec rfl (pc0 := 20) rfl (hb hbytes d20) rfl (ii_le_t (hp i (by omega))) (by decide) rfl ?_
        refine XS.aloadN Xl.here hexec rfl (hb hbytes d26) rfl rfl ?_
        refine XS.iloadN Xl.here hexec rfl (hb hbytes d27) rfl ?_
        refine XS.iload Xl.here hexec rfl (hb hbytes d28) rfl ?_
        refine i2b Xl.here hexec rfl (hb hbytes d30) rfl ?_
        exact Steps.refl _)
      obtain ⟨T7, X7, p7, st7⟩ := Xl.aput hexec hBk rfl hlt rfl (fits_lo8 (cv A (o + i))) (g := (mkF m 31 #[.val (.ref b), .val (.int (Int32.ofNat (o + i))), .val (.ref d), .val (.int (Int32.ofNat (q + i))), .val (.int (Int32.ofNat len)), .val (.int (Int32.ofNat i)), .val (.int (cv A (o + i)))] [.int (lo8 (cv A (o + i))), .int (Int32.ofNat (q + i)), .ref d])) rfl (rest := []) rfl (hb hbytes d31)
      have c8 : Steps p.tables e below (s₁.setTop (entryFrame m #[.ref b, .int (Int32.ofNat o), .ref d, .int (Int32.ofNat q), .int (Int32.ofNat len)] 7)) (T7.setTop (mkF m 32 #[.val (.ref b), .val (.int (Int32.ofNat (o + i))), .val (.ref d), .val (.int (Int32.ofNat (q + i))), .val (.int (Int32.ofNat len)), .val (.int (Int32.ofNat i)), .val (.int (cv A (o + i)))] [])) := c6.trans (st7 _ (Steps.refl _))
      have c9 : Steps p.tables e below (s₁.setTop (entryFrame m #[.ref b, .int (Int32.ofNat o), .ref d, .int (Int32.ofNat q), .int (Int32.ofNat len)] 7)) (T7.setTop (mkF m 3 #[.val (.ref b), .val (.int (Int32.ofNat (o + i) + 1)), .val (.ref d), .val (.int (Int32.ofNat (q + i) + 1)), .val (.int (Int32.ofNat len)), .val (.int (Int32.ofNat i + 1)), .val (.int (cv A (o + i)))] [])) := c8.trans (by
        refine iincV X7.here hexec rfl 1 (hb hbytes d32) (by decide) rfl rfl ?_
        refine iincV X7.here hexec rfl 1 (hb hbytes d35) (by decide) rfl rfl ?_
        refine iincV X7.here hexec rfl 1 (hb hbytes d38) (by decide) rfl rfl ?_
        refine XS.goto X7.here hexec rfl (pc0 := 41) rfl (hb hbytes d41) (by decide) rfl ?_
        exact Steps.refl _)
      have c10 : Steps p.tables e below (s₁.setTop (entryFrame m #[.ref b, .int (Int32.ofNat o), .ref d, .int (Int32.ofNat q), .int (Int32.ofNat len)] 7)) (T7.setTop (mkF m 3 #[.val (.ref b), .val (.int (Int32.ofNat (o + (i + 1)))), .val (.ref d), .val (.int (Int32.ofNat (q + (i + 1)))), .val (.int (Int32.ofNat len)), .val (.int (Int32.ofNat (i + 1))), .val (.int (cv A (o + i)))] [])) := by
        have := c9
        rw [succ32, succ32, succ32] at this
        exact this
      exact ih (i + 1) (by omega) _ (Or.inr ⟨_, rfl, rfl⟩) T7 _ (by rw [copyLocs_step, ← List.append_assoc]; exact X7) (pl.trans p7) (fl.step (by omega) hlt (by simp)) c10
  obtain ⟨T9, B9, z9, X9, p9, f9, g9⟩ := loop len 0 (by omega) .unset (Or.inl rfl) s₁ B (by simpa [copyLocs] using X0) ⟨hB0.1, fun _ _ => rfl, rfl⟩ (Laid.zero _ _ _) c2
  have c11 : Steps p.tables e below (s₁.setTop (entryFrame m #[.ref b, .int (Int32.ofNat o), .ref d, .int (Int32.ofNat q), .int (Int32.ofNat len)] 7)) (T9.setTop (mkF m 46 #[.val (.ref b), .val (.int (Int32.ofNat (o + len))), .val (.ref d), .val (.int (Int32.ofNat (q + len))), .val (.int (Int32.ofNat len)), .val (.int (Int32.ofNat len)), z9] [.int (Int32.ofNat len)])) := g9.trans (by
    refine XS.iload X9.here hexec rfl (hb hbytes d3) rfl ?_
    refine XS.iload X9.here hexec rfl (hb hbytes d5) rfl ?_
    refine XS.icmpYes X9.here hexec rfl (pc0 := 7) rfl (hb hbytes d7) rfl (ii_ge_t (nlt32 (by omega) (Nat.le_refl _))) (by decide) rfl ?_
    refine XS.iload X9.here hexec rfl (hb hbytes d44) rfl ?_
    exact Steps.refl _)
  exact ⟨T9, some (.int (Int32.ofNat len)), _, _, _, X9, by simp, rfl, rfl, (fun h => by cases h), ⟨rfl, B9, p9.from hh0, f9⟩, fun fs hl => c11.trans (X9.ireturnOut hexec hret rfl (Or.inl rfl) (hb hbytes d46) hl)⟩
end Cmp5
namespace Cmp3
def yN : MethodName := ⟨"java/lang/StringUTF16", "compress", "([CII)[B"⟩
abbrev yB : ByteArray := jdk_52_method_16_code
theorem d0 : decode yB 0 = .ok (.iload_n 2, 1) := by decide +kernel
theorem d1 : decode yB 1 = .ok (.newarray .byte, 2) := by decide +kernel
theorem d3 : decode yB 3 = .ok (.astore_n 3, 1) := by decide +kernel
theorem d4 : decode yB 4 = .ok (.aload_n 0, 1) := by decide +kernel
theorem d5 : decode yB 5 = .ok (.iload_n 1, 1) := by decide +kernel
theorem d6 : decode yB 6 = .ok (.aload_n 3, 1) := by decide +kernel
theorem d7 : decode yB 7 = .ok (.iconst 0, 1) := by decide +kernel
theorem d8 : decode yB 8 = .ok (.iload_n 2, 1) := by decide +kernel
theorem d9 : decode yB 9 = .ok (.invokestatic 115, 3) := by decide +kernel
theorem d12 : decode yB 12 = .ok (.istore 4, 2) := by decide +kernel
theorem d14 : decode yB 14 = .ok (.iload 4, 2) := by decide +kernel
theorem d16 : decode yB 16 = .ok (.iload_n 2, 1) := by decide +kernel
theorem d17 : decode yB 17 = .ok (.if_icmp (.eq) 40, 3) := by decide +kernel
theorem d57 : decode yB 57 = .ok (.aload_n 3, 1) := by decide +kernel
theorem d58 : decode yB 58 = .ok (.areturn, 1) := by decide +kernel
def site : List Cond := [.arrayClass .byte, Cmp5.tab] ++ staticW U16 115 Cmp5.yN
def tab : Cond := tabOf yN yB 6 (some (.array .byte)) site
def P (b : Addr) (A : Cell) (o len : Nat) (args : Array Value) (s : State) : Prop := args = #[.ref b, .int (Int32.ofNat o), .int (Int32.ofNat len)] ∧ Ch b A s ∧ o + len ≤ A.slots.size ∧ len ≤ 536870912 ∧ ∀ i, i < len → ¬ 255 < cv A (o + i)
def E (b : Addr) (A : Cell) (o len : Nat) (r : Option Value) (s u : State) : Prop := NewArr .byte "[B" len (fun j => .int (lo8 (cv A (o + j)))) r s u ∧ u.heap.size = s.heap.size + 1
/-- no char of the range above 255: a new byte[] of their low bytes -/
theorem law (l : Launch) (b : Addr) (A : Cell) (o len : Nat) : Law l yN 3 3 1 18 yB 6 (some (.array .byte)) site (P b A o len) (E b A o len) [] 1 len := by
  refine Law.of_walk (plainFor_of_name (by decide +kernel)) (by decide +kernel) (by decide +kernel) (by decide) (fun _ _ h => by rw [h.1]; rfl) (fun _ U U' hal hh h => ⟨h.1, h.2.1.mv hal hh, h.2.2⟩) (fun r U U' V V' h1 hal h2 h => ⟨NewArr.mv r U U' V V' h1 hal h2 h.1, by rw [h1, h2]; exact h.2⟩) ?_
  intro p e s m args below meth c s₁ X0 hexec hbytes hml hret hlk hnm hown hh0 W hP
  obtain ⟨rfl, hA, l1, l2, hp⟩ := hP
  have a31 := hA.1.2.2.2
  have c1 : Steps p.tables e below (s₁.setTop (entryFrame m #[.ref b, .int (Int32.ofNat o), .int (Int32.ofNat len)] 6)) (s₁.setTop (mkF m 0 #[.val (.ref b), .val (.int (Int32.ofNat o)), .val (.int (Int32.ofNat len)), .unset, .unset, .unset] [])) := entry rfl
  have c2 : Steps p.tables e below (s₁.setTop (entryFrame m #[.ref b, .int (Int32.ofNat o), .int (Int32.ofNat len)] 6)) (s₁.setTop (mkF m 1 #[.val (.ref b), .val (.int (Int32.ofNat o)), .val (.int (Int32.ofNat len)), .unset, .unset, .unset] [.int (Int32.ofNat len)])) := c1.trans (by
    refine XS.iloadN X0.here hexec rfl (hb hbytes d0) rfl ?_
    exact Steps.refl _)
  obtain ⟨T3, B3, X3, ba3, bs3, bv3, bh3, bf3, st3⟩ := X0.anew hexec (atype := .byte) (wk W (.arrayClass .byte)) rfl (by show len * 1 ≤ _; omega) (by omega) (g := (mkF m 1 #[.val (.ref b), .val (.int (Int32.ofNat o)), .val (.int (Int32.ofNat len)), .unset, .unset, .unset] [.int (Int32.ofNat len)])) rfl (hb hbytes d1) (rest := []) rfl (Nat.le_refl _) (by show 0 + len ≤ len; omega)
  rw [hh0] at ba3 st3
  have kp3 : XT.Kept s T3 := (XT.Kept.of_eq hh0).push bh3
  have hA3 := hA.keep X3.warmed.alike (kp3 _ _ hA.1.1)
  have hne : b ≠ s.heap.size := hA.1.ne
  have c4 : Steps p.tables e below (s₁.setTop (entryFrame m #[.ref b, .int (Int32.ofNat o), .int (Int32.ofNat len)] 6)) (T3.setTop (mkF m 3 #[.val (.ref b), .val (.int (Int32.ofNat o)), .val (.int (Int32.ofNat len)), .unset, .unset, .unset] [.ref s.heap.size])) := c2.trans (st3 _ (Steps.refl _))
  have c5 : Steps p.tables e below (s₁.setTop (entryFrame m #[.ref b, .int (Int32.ofNat o), .int (Int32.ofNat len)] 6)) (T3.setTop (mkF m 9 #[.val (.ref b), .val (.int (Int32.ofNat o)), .val (.int (Int32.ofNat len)), .val (.ref s.heap.size), .unset, .unset] [.int (Int32.ofNat len), .int 0, .ref s.heap.size, .int (Int32.ofNat o), .ref b])) := c4.trans (by
    refine XS.astoreN X3.here hexec rfl (hb hbytes d3) rfl rfl rfl ?_
    refine XS.aloadN X3.here hexec rfl (hb hbytes d4) rfl rfl ?_
    refine XS.iloadN X3.here hexec rfl (hb hbytes d5) rfl ?_
    refine XS.aloadN X3.here hexec rfl (hb hbytes d6) rfl rfl ?_
    refine iconstV X3.here hexec rfl 0 (hb hbytes d7) (by decide) ?_
    refine XS.iloadN X3.here hexec rfl (hb hbytes d8) rfl ?_
    exact Steps.refl _)
  obtain ⟨v6, T6, X6, E6, g6⟩ := X3.callS hexec (Cmp5.law l b A s.heap.size B3 o 0 len) hown (wks W (staticW U16 115 Cmp5.yN)) (wk W Cmp5.tab) (W := 0) (Nat.le_of_ble_eq_true rfl) (Nat.le_of_ble_eq_true rfl) (Nat.le_refl _) (by show 0 + len + 0 ≤ len; omega) (g := (mkF m 9 #[.val (.ref b), .val (.int (Int32.ofNat o)), .val (.int (Int32.ofNat len)), .val (.ref s.heap.size), .unset, .unset] [.int (Int32.ofNat len), .int (Int32.ofNat 0), .ref s.heap.size, .int (Int32.ofNat o), .ref b])) rfl (by rw [hml]; rfl) c5 (argsL := [.ref b, .int (Int32.ofNat o), .ref s.heap.size, .int (Int32.ofNat 0), .int (Int32.ofNat len)]) (rest := []) rfl rfl (by show 2 * 0 + 0 ≤ _; decide) (hb hbytes d9) (⟨rfl, hA3, ba3, hne, l1, by rw [bs3]; simp, hp⟩)
  obtain ⟨rfl, B6, p6, f6⟩ := E6
  have c7 : Steps p.tables e below (s₁.setTop (entryFrame m #[.ref b, .int (Int32.ofNat o), .int (Int32.ofNat len)] 6)) (T6.setTop (mkF m 12 #[.val (.ref b), .val (.int (Int32.ofNat o)), .val (.int (Int32.ofNat len)), .val (.ref s.heap.size), .unset, .unset] [.int (Int32.ofNat len)])) := g6
  have c8 : Steps p.tables e below (s₁.setTop (entryFrame m #[.ref b, .int (Int32.ofNat o), .int (Int32.ofNat len)] 6)) (T6.setTop (mkF m 58 #[.val (.ref b), .val (.int (Int32.ofNat o)), .val (.int (Int32.ofNat len)), .val (.ref s.heap.size), .val (.int (Int32.ofNat len)), .unset] [.ref s.heap.size])) := c7.trans (by
    refine XS.istore X6.here hexec rfl (hb hbytes d12) rfl rfl ?_
    refine XS.iload X6.here hexec rfl (hb hbytes d14) rfl ?_
    refine XS.iloadN X6.here hexec rfl (hb hbytes d16) rfl ?_
    refine XS.icmpYes X6.here hexec rfl (pc0 := 17) rfl (hb hbytes d17) rfl (ii_eq_t rfl) (by decide) rfl ?_
    refine XS.aloadN X6.here hexec rfl (hb hbytes d57) rfl rfl ?_
    exact Steps.refl _)
  have X8 := X6.wide (L' := []) (cells' := 1) (slots' := len) (fun x hx hlt => by
    simp only [List.nil_append, copyLocs, List.mem_map, List.mem_range] at hx
    obtain ⟨i, -, rfl⟩ := hx
    exact absurd hlt (Nat.lt_irrefl _)) (Nat.le_refl _) (by omega)
  exact ⟨T6, some (.ref s.heap.size), _, _, _, X8, rfl, rfl, rfl, (fun h => by cases h), ⟨⟨rfl, B6, ba3.like (X3.warmed.alike.symm.trans X6.warmed.alike) p6.1 f6.1 f6.2.1 f6.2.2.1, f6.2.1.trans bv3, by rw [X6.warmed.alike.findClass, f6.1]; exact bf3, by rw [f6.2.2.1, bs3]; simp, fun j hj => by rw [f6.2.2.2 j, if_pos (by omega)]; rfl, kp3.put p6 (Nat.le_refl _)⟩, by rw [p6.2.2, bh3, hh0]; simp⟩, fun fs hl => c8.trans (X8.areturnOut hexec rfl hret rfl (hb hbytes d58) hl)⟩
end Cmp3
namespace CodL
def yN : MethodName := ⟨"java/lang/StringUTF16", "coderFromArrayLen", "([BI)B"⟩
abbrev yB : ByteArray := jdk_52_method_15_code
theorem d0 : decode yB 0 = .ok (.iload_n 1, 1) := by decide +kernel
theorem d1 : decode yB 1 = .ok (.aload_n 0, 1) := by decide +kernel
theorem d2 : decode yB 2 = .ok (.arraylength, 1) := by decide +kernel
theorem d3 : decode yB 3 = .ok (.isub, 1) := by decide +kernel
theorem d4 : decode yB 4 = .ok (.bipush 31, 2) := by decide +kernel
theorem d6 : decode yB 6 = .ok (.iushr, 1) := by decide +kernel
theorem d7 : decode yB 7 = .ok (.i2b, 1) := by decide +kernel
theorem d8 : decode yB 8 = .ok (.ireturn, 1) := by decide +kernel
def site : List Cond := []
def tab : Cond := tabOf yN yB 2 (some .byte) site
def P (d : Addr) (B : Cell) (args : Array Value) (s : State) : Prop := args = #[.ref d, .int (Int32.ofNat B.slots.size)] ∧ Arr .byte d B s
def E (r : Option Value) (s u : State) : Prop := XT.PureE (some (.int 0)) r s u
/-- an array as long as the number of chars: LATIN1 -/
theorem law (l : Launch) (d : Addr) (B : Cell) : Law l yN 2 2 0 0 yB 2 (some .byte) site (P d B) E [] 0 0 := by
  refine Law.of_walk (plainFor_of_name (by decide +kernel)) (by decide +kernel) (by decide +kernel) (by decide) (fun _ _ h => by rw [h.1]; rfl) (fun _ U U' hal hh h => ⟨h.1, h.2.mv hal hh⟩) (fun r U U' V V' h1 hal h2 h => XT.PureE.mv r U U' V V' h1 hal h2 h) ?_
  intro p e s m args below meth c s₁ X0 hexec hbytes hml hret hlk hnm hown hh0 W hP
  obtain ⟨rfl, hB⟩ := hP
  have hB0 := hB.mv X0.warmed.alike hh0
  have c1 : Steps p.tables e below (s₁.setTop (entryFrame m #[.ref d, .int (Int32.ofNat B.slots.size)] 2)) (s₁.setTop (mkF m 0 #[.val (.ref d), .val (.int (Int32.ofNat B.slots.size))] [])) := entry rfl
  have c2 : Steps p.tables e below (s₁.setTop (entryFrame m #[.ref d, .int (Int32.ofNat B.slots.size)] 2)) (s₁.setTop (mkF m 2 #[.val (.ref d), .val (.int (Int32.ofNat B.slots.size))] [.ref d, .int (Int32.ofNat B.slots.size)])) := c1.trans (by
    refine XS.iloadN X0.here hexec rfl (hb hbytes d0) rfl ?_
    refine XS.aloadN X0.here hexec rfl (hb hbytes d1) rfl rfl ?_
    exact Steps.refl _)
  have c3 : Steps p.tables e below (s₁.setTop (entryFrame m #[.ref d, .int (Int32.ofNat B.slots.size)] 2)) (s₁.setTop (mkF m 8 #[.val (.ref d), .val (.int (Int32.ofNat B.slots.size))] [.int (lo8 (ushr (Int32.ofNat B.slots.size - Int32.ofNat B.slots.size) 31))])) := c2.trans (by
    refine X0.alen hexec hB0 rfl rfl (hb hbytes d2) ?_
    refine XS.isub X0.here hexec rfl (hb hbytes d3) rfl ?_
    refine bipushV X0.here hexec rfl 31 (hb hbytes d4) (by decide) ?_
    refine iushr X0.here hexec rfl (hb hbytes d6) rfl ?_
    refine i2b X0.here hexec rfl (hb hbytes d7) rfl ?_
    exact Steps.refl _)
  have e0 : lo8 (ushr (Int32.ofNat B.slots.size - Int32.ofNat B.slots.size) 31) = 0 := by rw [Int32.sub_self]; decide
  rw [e0] at c3
  exact ⟨s₁, some (.int 0), _, _, _, X0, rfl, rfl, rfl, (fun h => by cases h), ⟨rfl, hh0⟩, fun fs hl => c3.trans (X0.ireturnOut hexec hret rfl (Or.inr (Or.inr (Or.inl rfl))) (hb hbytes d8) hl)⟩
end CodL
/-- the String at a is Latin-1 over a new byte[] (the heap's one new cell): the low bytes of the len chars of A from o on; every cell but a is kept -/
def Got (a : Addr) (D : Cell) (fV fC : Field) (A : Cell) (o len : Nat) (r : Option Value) (s u : State) : Prop := r = none ∧ ∃ D' V : Cell, Blank "java/lang/String" a D' u ∧ Same D D' [fV.slot, fC.slot] ∧ D'.slots[fV.slot]? = some (.ref s.heap.size) ∧ D'.slots[fC.slot]? = some (.int 0) ∧ Arr .byte s.heap.size V u ∧ V.vm = .none ∧ u.vm.findClass "[B" = some V.cls ∧ V.slots.size = len ∧ (∀ j, j < len → V.slots[j]? = some (.int (lo8 (cv A (o + j))))) ∧ (∀ (y : Addr) (c : Cell), y ≠ a → s.heap[y]? = some c → u.heap[y]? = some c) ∧ u.heap.size = s.heap.size + 1
theorem Got.mv {a : Addr} {D A : Cell} {fV fC : Field} {o len : Nat} : ∀ r (U U' V V' : State), U'.heap = U.heap → V.vm.Alike V'.vm → V'.heap = V.heap → Got a D fV fC A o len r U V → Got a D fV fC A o len r U' V' :=
  fun r U U' V V' h1 hal h2 ⟨e0, D', X, a1, a2, a3, a4, a5, a6, a7, a8, a9, a10, a11⟩ => ⟨e0, D', X, a1.mv hal h2, a2, by rw [h1]; exact a3, a4, by rw [h1]; exact a5.mv hal h2, a6, by rw [hal.findClass]; exact a7, a8, a9, by rw [h1, h2]; exact a10, by rw [h1, h2]; exact a11⟩
namespace New4
def yN : MethodName := ⟨"java/lang/String", "<init>", "([CIILjava/lang/Void;)V"⟩
abbrev yB : ByteArray := jdk_42_method_149_code
theorem d0 : decode yB 0 = .ok (.aload_n 0, 1) := by decide +kernel
theorem d1 : decode yB 1 = .ok (.invokespecial 1, 3) := by decide +kernel
theorem d4 : decode yB 4 = .ok (.iload_n 3, 1) := by decide +kernel
theorem d5 : decode yB 5 = .ok (.ifCond (.ne) 22, 3) := by decide +kernel
theorem d27 : decode yB 27 = .ok (.getstatic 38, 3) := by decide +kernel
theorem d30 : decode yB 30 = .ok (.ifCond (.eq) 28, 3) := by decide +kernel
theorem d33 : decode yB 33 = .ok (.aload_n 1, 1) := by decide +kernel
theorem d34 : decode yB 34 = .ok (.iload_n 2, 1) := by decide +kernel
theorem d35 : decode yB 35 = .ok (.iload_n 3, 1) := by decide +kernel
theorem d36 : decode yB 36 = .ok (.invokestatic 177, 3) := by decide +kernel
theorem d39 : decode yB 39 = .ok (.astore 5, 2) := by decide +kernel
theorem d41 : decode yB 41 = .ok (.aload_n 0, 1) := by decide +kernel
theorem d42 : decode yB 42 = .ok (.aload 5, 2) := by decide +kernel
theorem d44 : decode yB 44 = .ok (.iload_n 3, 1) := by decide +kernel
theorem d45 : decode yB 45 = .ok (.invokestatic 47, 3) := by decide +kernel
theorem d48 : decode yB 48 = .ok (.putfield 15, 3) := by decide +kernel
theorem d51 : decode yB 51 = .ok (.aload_n 0, 1) := by decide +kernel
theorem d52 : decode yB 52 = .ok (.aload 5, 2) := by decide +kernel
theorem d54 : decode yB 54 = .ok (.putfield 9, 3) := by decide +kernel
theorem d57 : decode yB 57 = .ok (.return_, 1) := by decide +kernel
def site : List Cond := [.fieldLink "java/lang/String" 38 "java/lang/String" "COMPACT_STRINGS" "Z", Cmp3.tab, CodL.tab, .laysFinal "java/lang/String" "java/lang/String" "value" "[B", .fieldLink "java/lang/String" 9 "java/lang/String" "value" "[B", .laysFinal "java/lang/String" "java/lang/String" "coder" "B", .fieldLink "java/lang/String" 15 "java/lang/String" "coder" "B"] ++ objW "java/lang/String" 1 ++ staticW "java/lang/String" 177 Cmp3.yN ++ staticW "java/lang/String" 47 CodL.yN
def tab : Cond := tabOf yN yB 6 none site
def P (a : Addr) (D : Cell) (fV fC : Field) (b : Addr) (A : Cell) (z : Int32) (o len : Nat) (args : Array Value) (s : State) : Prop := args = #[.ref a, .ref b, .int (Int32.ofNat o), .int (Int32.ofNat len), .null] ∧ Blank "java/lang/String" a D s ∧ Found "java/lang/String" "value" "[B" fV s ∧ Found "java/lang/String" "coder" "B" fC s ∧ Ch b A s ∧ StaticIs s "java/lang/String" "COMPACT_STRINGS" "Z" (.int z) ∧ ¬ z = 0 ∧ 0 < len ∧ o + len ≤ A.slots.size ∧ len ≤ 536870912 ∧ ∀ i, i < len → ¬ 255 < cv A (o + i)
def E (a : Addr) (D : Cell) (fV fC : Field) (A : Cell) (o len : Nat) (r : Option Value) (s u : State) : Prop := Got a D fV fC A o len r s u
/-- len > 0, no char of the range above 255: a Latin-1 String of their low bytes -/
theorem law (l : Launch) (a : Addr) (D : Cell) (fV fC : Field) (b : Addr) (A : Cell) (z : Int32) (o len : Nat) : Law l yN 5 4 2 35 yB 6 none site (P a D fV fC b A z o len) (E a D fV fC A o len) [⟨a, fC.slot⟩, ⟨a, fV.slot⟩] 1 len := by
  refine Law.of_walk (plainFor_of_name (by decide +kernel)) (by decide +kernel) (by decide +kernel) (by decide) (fun _ _ h => by rw [h.1]; rfl) (fun _ U U' hal hh h => ⟨h.1, h.2.1.mv hal hh, h.2.2.1.al hal, h.2.2.2.1.al hal, h.2.2.2.2.1.mv hal hh, h.2.2.2.2.2.1.there hal hh, h.2.2.2.2.2.2⟩) (fun r U U' V V' h1 hal h2 h => Got.mv r U U' V V' h1 hal h2 h) ?_
  intro p e s m args below meth c s₁ X0 hexec hbytes hml hret hlk hnm hown hh0 W hP
  obtain ⟨rfl, hB, f1, f2, hA, s1, hz, l0, l1, l2, hp⟩ := hP
  have a31 := hA.1.2.2.2
  have c1 : Steps p.tables e below (s₁.setTop (entryFrame m #[.ref a, .ref b, .int (Int32.ofNat o), .int (Int32.ofNat len), .null] 6)) (s₁.setTop (mkF m 0 #[.val (.ref a), .val (.ref b), .val (.int (Int32.ofNat o)), .val (.int (Int32.ofNat len)), .val .null, .unset] [])) := entry rfl
  have c2 : Steps p.tables e below (s₁.setTop (entryFrame m #[.ref a, .ref b, .int (Int32.ofNat o), .int (Int32.ofNat len), .null] 6)) (s₁.setTop (mkF m 1 #[.val (.ref a), .val (.ref b), .val (.int (Int32.ofNat o)), .val (.int (Int32.ofNat len)), .val .null, .unset] [.ref a])) := c1.trans (by
    refine XS.aloadN X0.here hexec rfl (hb hbytes d0) rfl rfl ?_
    exact Steps.refl _)
  obtain ⟨T3, X3, q3, st3⟩ := X0.oinit hexec hown (wks W (objW "java/lang/String" 1)) (g := (mkF m 1 #[.val (.ref a), .val (.ref b), .val (.int (Int32.ofNat o)), .val (.int (Int32.ofNat len)), .val .null, .unset] [.ref a])) rfl (by rw [hml]; rfl) (rest := []) rfl (hb hbytes d1) (W := 0) (by show 2 * 0 + 0 ≤ _; decide) (Nat.le_of_ble_eq_true rfl) (Nat.le_of_ble_eq_true rfl)
  have hh3 := q3.trans hh0
  have c4 : Steps p.tables e below (s₁.setTop (entryFrame m #[.ref a, .ref b, .int (Int32.ofNat o), .int (Int32.ofNat len), .null] 6)) (T3.setTop (mkF m 27 #[.val (.ref a), .val (.ref b), .val (.int (Int32.ofNat o)), .val (.int (Int32.ofNat len)), .val .null, .unset] [])) := (c2.trans (st3 _ (Steps.refl _))).trans (by
    refine XS.iloadN X3.here hexec rfl (hb hbytes d4) rfl ?_
    refine XS.ifYes X3.here hexec rfl (pc0 := 5) rfl (hb hbytes d5) rfl (i0_ne_t (nz32 (by omega) l0)) (by decide) rfl ?_
    exact Steps.refl _)
  obtain ⟨T5, X5, q5, st5⟩ := X3.sget hexec hown (wk W (.fieldLink "java/lang/String" 38 "java/lang/String" "COMPACT_STRINGS" "Z")) s1 (fun _ _ h => by rw [hh3]; exact h) (g := (mkF m 27 #[.val (.ref a), .val (.ref b), .val (.int (Int32.ofNat o)), .val (.int (Int32.ofNat len)), .val .null, .unset] [])) rfl (hb hbytes d27)
  have hh5 := q5.trans hh3
  have c6 : Steps p.tables e below (s₁.setTop (entryFrame m #[.ref a, .ref b, .int (Int32.ofNat o), .int (Int32.ofNat len), .null] 6)) (T5.setTop (mkF m 30 #[.val (.ref a), .val (.ref b), .val (.int (Int32.ofNat o)), .val (.int (Int32.ofNat len)), .val .null, .unset] [.int z])) := c4.trans (st5 _ (Steps.refl _))
  have c7 : Steps p.tables e below (s₁.setTop (entryFrame m #[.ref a, .ref b, .int (Int32.ofNat o), .int (Int32.ofNat len), .null] 6)) (T5.setTop (mkF m 36 #[.val (.ref a), .val (.ref b), .val (.int (Int32.ofNat o)), .val (.int (Int32.ofNat len)), .val .null, .unset] [.int (Int32.ofNat len), .int (Int32.ofNat o), .ref b])) := c6.trans (by
    refine XS.ifNo X5.here hexec rfl (hb hbytes d30) rfl (i0_eq_f hz) ?_
    refine XS.aloadN X5.here hexec rfl (hb hbytes d33) rfl rfl ?_
    refine XS.iloadN X5.here hexec rfl (hb hbytes d34) rfl ?_
    refine XS.iloadN X5.here hexec rfl (hb hbytes d35) rfl ?_
    exact Steps.refl _)
  obtain ⟨v8, T8, X8, E8, g8⟩ := X5.callS hexec (Cmp3.law l b A o len) hown (wks W (staticW "java/lang/String" 177 Cmp3.yN)) (wk W Cmp3.tab) (W := 0) (Nat.le_of_ble_eq_true rfl) (Nat.le_of_ble_eq_true rfl) (Nat.le_refl _) (by show 0 + len ≤ len; omega) (g := (mkF m 36 #[.val (.ref a), .val (.ref b), .val (.int (Int32.ofNat o)), .val (.int (Int32.ofNat len)), .val .null, .unset] [.int (Int32.ofNat len), .int (Int32.ofNat o), .ref b])) rfl (by rw [hml]; rfl) c7 (argsL := [.ref b, .int (Int32.ofNat o), .int (Int32.ofNat len)]) (rest := []) rfl rfl (by show 2 * 0 + 0 ≤ _; decide) (hb hbytes d36) (⟨rfl, hA.mv X5.warmed.alike hh5, l1, l2, hp⟩)
  obtain ⟨e8, z8⟩ := E8
  obtain ⟨rfl, N, n1, n2, n3, n4, n5, n6⟩ := NewArr.mv _ T5 s _ _ hh5.symm (Vm.Alike.refl _) rfl e8
  rw [hh5] at z8
  have hB1 := hB.keep X8.warmed.alike (n6 _ _ hB.1)
  have hne : s.heap.size ≠ a := (Nat.ne_of_lt (Array.getElem?_eq_some_iff.mp hB.1).1).symm
  have c9 : Steps p.tables e below (s₁.setTop (entryFrame m #[.ref a, .ref b, .int (Int32.ofNat o), .int (Int32.ofNat len), .null] 6)) (T8.setTop (mkF m 39 #[.val (.ref a), .val (.ref b), .val (.int (Int32.ofNat o)), .val (.int (Int32.ofNat len)), .val .null, .unset] [.ref s.heap.size])) := g8
  have c10 : Steps p.tables e below (s₁.setTop (entryFrame m #[.ref a, .ref b, .int (Int32.ofNat o), .int (Int32.ofNat len), .null] 6)) (T8.setTop (mkF m 45 #[.val (.ref a), .val (.ref b), .val (.int (Int32.ofNat o)), .val (.int (Int32.ofNat len)), .val .null, .val (.ref s.heap.size)] [.int (Int32.ofNat N.slots.size), .ref s.heap.size, .ref a])) := by
    have hc : Steps p.tables e below (s₁.setTop (entryFrame m #[.ref a, .ref b, .int (Int32.ofNat o), .int (Int32.ofNat len), .null] 6)) (T8.setTop (mkF m 45 #[.val (.ref a), .val (.ref b), .val (.int (Int32.ofNat o)), .val (.int (Int32.ofNat len)), .val .null, .val (.ref s.heap.size)] [.int (Int32.ofNat len), .ref s.heap.size, .ref a])) := c9.trans (by
      refine XS.astore X8.here hexec rfl (hb hbytes d39) rfl rfl rfl ?_
      refine XS.aloadN X8.here hexec rfl (hb hbytes d41) rfl rfl ?_
      refine XS.aload X8.here hexec rfl (hb hbytes d42) rfl rfl ?_
      refine XS.iloadN X8.here hexec rfl (hb hbytes d44) rfl ?_
      exact Steps.refl _)
    rw [n4]; exact hc
  obtain ⟨v11, T11, X11, E11, g11⟩ := X8.callS hexec (CodL.law l s.heap.size N) hown (wks W (staticW "java/lang/String" 47 CodL.yN)) (wk W CodL.tab) (W := 1) (Nat.le_of_ble_eq_true rfl) (Nat.le_of_ble_eq_true rfl) (Nat.le_refl _) (by show 0 + len + 0 ≤ len; omega) (g := (mkF m 45 #[.val (.ref a), .val (.ref b), .val (.int (Int32.ofNat o)), .val (.int (Int32.ofNat len)), .val .null, .val (.ref s.heap.size)] [.int (Int32.ofNat N.slots.size), .ref s.heap.size, .ref a])) rfl (by rw [hml]; rfl) c10 (argsL := [.ref s.heap.size, .int (Int32.ofNat N.slots.size)]) (rest := [.ref a]) rfl rfl (by show 2 * 0 + (1 + 0) ≤ _; decide) (hb hbytes d45) (⟨rfl, n1⟩)
  obtain ⟨rfl, q11⟩ := E11
  have hB11 := hB1.mv (X8.warmed.alike.symm.trans X11.warmed.alike) q11
  have c12 : Steps p.tables e below (s₁.setTop (entryFrame m #[.ref a, .ref b, .int (Int32.ofNat o), .int (Int32.ofNat len), .null] 6)) (T11.setTop (mkF m 48 #[.val (.ref a), .val (.ref b), .val (.int (Int32.ofNat o)), .val (.int (Int32.ofNat len)), .val .null, .val (.ref s.heap.size)] [.int 0, .ref a])) := g11
  obtain ⟨T13, X13, p13, bl13, sl13, st13⟩ := X11.finit hexec hown (wk W (.fieldLink "java/lang/String" 15 "java/lang/String" "coder" "B")) (Or.inr ⟨_, (wk W (.laysFinal "java/lang/String" "java/lang/String" "coder" "B"))⟩) (Or.inl ⟨rfl, hnm⟩) f2 (Or.inl rfl) hB11 (t := .byte) (by decide +kernel) rfl (g := (mkF m 48 #[.val (.ref a), .val (.ref b), .val (.int (Int32.ofNat o)), .val (.int (Int32.ofNat len)), .val .null, .val (.ref s.heap.size)] [.int 0, .ref a])) rfl (rest := []) rfl (hb hbytes d48)
  have c14 : Steps p.tables e below (s₁.setTop (entryFrame m #[.ref a, .ref b, .int (Int32.ofNat o), .int (Int32.ofNat len), .null] 6)) (T13.setTop (mkF m 54 #[.val (.ref a), .val (.ref b), .val (.int (Int32.ofNat o)), .val (.int (Int32.ofNat len)), .val .null, .val (.ref s.heap.size)] [.ref s.heap.size, .ref a])) := (c12.trans (st13 _ (Steps.refl _))).trans (by
    refine XS.aloadN X13.here hexec rfl (hb hbytes d51) rfl rfl ?_
    refine XS.aload X13.here hexec rfl (hb hbytes d52) rfl rfl ?_
    exact Steps.refl _)
  obtain ⟨T15, X15, p15, bl15, sl15, st15⟩ := X13.finit hexec hown (wk W (.fieldLink "java/lang/String" 9 "java/lang/String" "value" "[B")) (Or.inr ⟨_, (wk W (.laysFinal "java/lang/String" "java/lang/String" "value" "[B"))⟩) (Or.inl ⟨rfl, hnm⟩) f1 (Or.inl rfl) bl13 (t := (.array .byte)) (by decide +kernel) rfl (g := (mkF m 54 #[.val (.ref a), .val (.ref b), .val (.int (Int32.ofNat o)), .val (.int (Int32.ofNat len)), .val .null, .val (.ref s.heap.size)] [.ref s.heap.size, .ref a])) rfl (rest := []) rfl (hb hbytes d54)
  have c16 : Steps p.tables e below (s₁.setTop (entryFrame m #[.ref a, .ref b, .int (Int32.ofNat o), .int (Int32.ofNat len), .null] 6)) (T15.setTop (mkF m 57 #[.val (.ref a), .val (.ref b), .val (.int (Int32.ofNat o)), .val (.int (Int32.ofNat len)), .val .null, .val (.ref s.heap.size)] [])) := c14.trans (st15 _ (Steps.refl _))
  have ap := apart (Or.inr ⟨_, (wk W (.laysFinal "java/lang/String" "java/lang/String" "value" "[B"))⟩) (Or.inr ⟨_, (wk W (.laysFinal "java/lang/String" "java/lang/String" "coder" "B"))⟩) f1 f2 (t₁ := .array .byte) (t₂ := .byte) (by decide +kernel) (by decide +kernel) (by decide)
  have al := X8.warmed.alike.symm.trans X15.warmed.alike
  have n7 : T11.heap[s.heap.size]? = some N := by rw [q11]; exact n1.1
  exact ⟨T15, none, _, _, _, X15, by simp, rfl, by omega, (fun _ => rfl), ⟨rfl, _, N, bl15, ((Same.refl D _).set _ (by simp)).set _ (by simp), sl15, (Cell.slots_setSlot_ne _ ap).trans sl13, n1.keep al (p15.other hne (p13.other hne n7)), n2, by rw [al.findClass]; exact n3, n4, n5, fun y c h1 h2 => p15.other h1 (p13.other h1 (by rw [q11]; exact n6 y c h2)), by rw [p15.2.2, p13.2.2, q11]; exact z8⟩, fun fs hl => c16.trans (X15.returnOut hexec hret (hb hbytes d57) hl)⟩
end New4
namespace New1
def yN : MethodName := ⟨"java/lang/String", "<init>", "([C)V"⟩
abbrev yB : ByteArray := jdk_42_method_3_code
theorem d0 : decode yB 0 = .ok (.aload_n 0, 1) := by decide +kernel
theorem d1 : decode yB 1 = .ok (.aload_n 1, 1) := by decide +kernel
theorem d2 : decode yB 2 = .ok (.iconst 0, 1) := by decide +kernel
theorem d3 : decode yB 3 = .ok (.aload_n 1, 1) := by decide +kernel
theorem d4 : decode yB 4 = .ok (.arraylength, 1) := by decide +kernel
theorem d5 : decode yB 5 = .ok (.aconst_null, 1) := by decide +kernel
theorem d6 : decode yB 6 = .ok (.invokespecial 27, 3) := by decide +kernel
theorem d9 : decode yB 9 = .ok (.return_, 1) := by decide +kernel
def site : List Cond := [New4.tab] ++ initW "java/lang/String" 27 New4.yN
def tab : Cond := tabOf yN yB 2 none site
def P (a : Addr) (D : Cell) (fV fC : Field) (b : Addr) (A : Cell) (z : Int32) (args : Array Value) (s : State) : Prop := args = #[.ref a, .ref b] ∧ Blank "java/lang/String" a D s ∧ Found "java/lang/String" "value" "[B" fV s ∧ Found "java/lang/String" "coder" "B" fC s ∧ Ch b A s ∧ StaticIs s "java/lang/String" "COMPACT_STRINGS" "Z" (.int z) ∧ ¬ z = 0 ∧ 0 < A.slots.size ∧ A.slots.size ≤ 536870912 ∧ ∀ i, i < A.slots.size → ¬ 255 < cv A i
def E (a : Addr) (D : Cell) (fV fC : Field) (A : Cell) (r : Option Value) (s u : State) : Prop := Got a D fV fC A 0 A.slots.size r s u
/-- new String(chars), not empty, no char above 255: a Latin-1 String of their low bytes -/
theorem law (l : Launch) (a : Addr) (D : Cell) (fV fC : Field) (b : Addr) (A : Cell) (z : Int32) : Law l yN 2 1 3 52 yB 2 none site (P a D fV fC b A z) (E a D fV fC A) [⟨a, fC.slot⟩, ⟨a, fV.slot⟩] 1 A.slots.size := by
  refine Law.of_walk (plainFor_of_name (by decide +kernel)) (by decide +kernel) (by decide +kernel) (by decide) (fun _ _ h => by rw [h.1]; rfl) (fun _ U U' hal hh h => ⟨h.1, h.2.1.mv hal hh, h.2.2.1.al hal, h.2.2.2.1.al hal, h.2.2.2.2.1.mv hal hh, h.2.2.2.2.2.1.there hal hh, h.2.2.2.2.2.2⟩) (fun r U U' V V' h1 hal h2 h => Got.mv r U U' V V' h1 hal h2 h) ?_
  intro p e s m args below meth c s₁ X0 hexec hbytes hml hret hlk hnm hown hh0 W hP
  obtain ⟨rfl, hB, f1, f2, hA, s1, hz, l0, l2, hp⟩ := hP
  have c1 : Steps p.tables e below (s₁.setTop (entryFrame m #[.ref a, .ref b] 2)) (s₁.setTop (mkF m 0 #[.val (.ref a), .val (.ref b)] [])) := entry rfl
  have c2 : Steps p.tables e below (s₁.setTop (entryFrame m #[.ref a, .ref b] 2)) (s₁.setTop (mkF m 6 #[.val (.ref a), .val (.ref b)] [.null, .int (Int32.ofNat A.slots.size), .int 0, .ref b, .ref a])) := c1.trans (by
    refine XS.aloadN X0.here hexec rfl (hb hbytes d0) rfl rfl ?_
    refine XS.aloadN X0.here hexec rfl (hb hbytes d1) rfl rfl ?_
    refine iconstV X0.here hexec rfl 0 (hb hbytes d2) (by decide) ?_
    refine XS.aloadN X0.here hexec rfl (hb hbytes d3) rfl rfl ?_
    refine X0.alen hexec (hA.1.mv X0.warmed.alike hh0) rfl rfl (hb hbytes d4) ?_
    refine XS.aconstNull X0.here hexec rfl (hb hbytes d5) ?_
    exact Steps.refl _)
  obtain ⟨v3, T3, X3, E3, g3⟩ := X0.callN hexec (New4.law l a D fV fC b A z 0 A.slots.size) rfl hown (wks W (initW "java/lang/String" 27 New4.yN)) (W New4.tab (by simp only [site, List.mem_cons, List.mem_append, true_or, or_true])) (W := 0) (Nat.le_of_ble_eq_true rfl) (Nat.le_of_ble_eq_true rfl) (Nat.le_refl _) (by show 0 + A.slots.size ≤ A.slots.size; omega) (g := (mkF m 6 #[.val (.ref a), .val (.ref b)] [.null, .int (Int32.ofNat A.slots.size), .int (Int32.ofNat 0), .ref b, .ref a])) rfl (by rw [hml]; rfl) c2 (argsL := [.ref b, .int (Int32.ofNat 0), .int (Int32.ofNat A.slots.size), .null]) (rest := []) rfl rfl (by show 2 * 0 + 0 ≤ _; decide) (hb hbytes d6) (⟨rfl, hB.mv X0.warmed.alike hh0, f1.al X0.warmed.alike, f2.al X0.warmed.alike, hA.mv X0.warmed.alike hh0, s1.there X0.warmed.alike hh0, hz, l0, by omega, l2, fun i hi => by rw [Nat.zero_add]; exact hp i hi⟩)
  have e0 := Got.mv _ s₁ s _ _ hh0.symm (Vm.Alike.refl _) rfl E3
  obtain rfl := e0.1
  have c4 : Steps p.tables e below (s₁.setTop (entryFrame m #[.ref a, .ref b] 2)) (T3.setTop (mkF m 9 #[.val (.ref a), .val (.ref b)] [])) := g3
  exact ⟨T3, none, _, _, _, X3, by simp, rfl, by omega, (fun _ => rfl), e0, fun fs hl => c4.trans (X3.returnOut hexec hret (hb hbytes d9) hl)⟩
theorem pays {l : Launch} {R : Room} {p : Program} {e : Env} {below : List Frame} {s : State} {sargs : Array Value} {len W : Nat} (a : Addr) (D : Cell) (fV fC : Field) (b : Addr) (A : Cell) (z : Int32) (htab : tab.before sargs s = true) (hfr : 4 ≤ R.frames) (hlo : W + 65 ≤ R.locals) :
    Back l R p e below s sargs yN len W (fun A₁ a₁ => A₁.cells + 1 ≤ R.cells ∧ A₁.slots + A.slots.size ≤ R.slots ∧ P a D fV fC b A z a₁ A₁.U) (fun A₁ _ v₁ B₁ => E a D fV fC A v₁ A₁.U B₁.U ∧ B₁.locs = A₁.locs ++ [⟨a, fC.slot⟩, ⟨a, fV.slot⟩] ∧ B₁.cells = A₁.cells + 1 ∧ B₁.slots = A₁.slots + A.slots.size) :=
  (law l a D fV fC b A z).pays htab hfr (by omega)
end New1
end StrChars
namespace StrChars.Road
open Jvm Sem ClassFile Op Lib Jvm.Stand Jvm.Free Jvm.Free.XT
open Jvm.Lib.Cold (StaticIs)
abbrev ST : String := "java/lang/String"
/-- every table word that New1's law asks, flat -/
abbrev words : List Jvm.Cond := [.code New1.yN New1.yB 2 none, .initialized ST, .methodLink ST 27 New4.yN, .instanceMethod New4.yN,
  .code New4.yN New4.yB 6 none, .fieldLink ST 38 ST "COMPACT_STRINGS" "Z", .laysFinal ST ST "value" "[B", .fieldLink ST 9 ST "value" "[B", .laysFinal ST ST "coder" "B", .fieldLink ST 15 ST "coder" "B",
  .methodLink ST 1 Lib.objectInit, .instanceMethod Lib.objectInit, .code Lib.objectInit ⟨#[0xb1]⟩ 1 none, .methodLink ST 177 Cmp3.yN, .static Cmp3.yN, .methodLink ST 47 CodL.yN, .static CodL.yN,
  .code Cmp3.yN Cmp3.yB 6 (some (.array .byte)), .initialized U16, .arrayClass .byte, .methodLink U16 115 Cmp5.yN, .static Cmp5.yN, .code Cmp5.yN Cmp5.yB 7 (some .int), .code CodL.yN CodL.yB 2 (some .byte)]
theorem tab_of {a : Array Value} {s : State} (h : ∀ w ∈ words, w.before a s = true) : New1.tab.before a s = true := by
  have h5 : Cmp5.tab.before a s = true := unparts (wk h (.code Cmp5.yN Cmp5.yB 7 (some .int))) (wks h (.initialized Cmp5.yN.cls :: Cmp5.site))
  have hc : CodL.tab.before a s = true := unparts (wk h (.code CodL.yN CodL.yB 2 (some .byte))) (wks h (.initialized CodL.yN.cls :: CodL.site))
  have q5 : ∀ w ∈ Cmp5.tab :: words, w.before a s = true := fun w hw => (List.mem_cons.mp hw).elim (fun e => e ▸ h5) (h w)
  have h3 : Cmp3.tab.before a s = true := unparts (wk q5 (.code Cmp3.yN Cmp3.yB 6 (some (.array .byte)))) (wks q5 (.initialized Cmp3.yN.cls :: Cmp3.site))
  have q3 : ∀ w ∈ Cmp3.tab :: CodL.tab :: words, w.before a s = true := fun w hw => (List.mem_cons.mp hw).elim (fun e => e ▸ h3) fun hw => (List.mem_cons.mp hw).elim (fun e => e ▸ hc) (h w)
  have h4 : New4.tab.before a s = true := unparts (wk q3 (.code New4.yN New4.yB 6 none)) (wks q3 (.initialized New4.yN.cls :: New4.site))
  have q4 : ∀ w ∈ New4.tab :: words, w.before a s = true := fun w hw => (List.mem_cons.mp hw).elim (fun e => e ▸ h4) (h w)
  exact unparts (wk q4 (.code New1.yN New1.yB 2 none)) (wks q4 (.initialized New1.yN.cls :: New1.site))
/-- the words ride from the start Z to the walk's own state -/
theorem moved {Z s : State} {a0 args : Array Value} (hZ : Z.Warmed39 s.vm) (hw : ∀ d ∈ words, d.before a0 Z = true) : ∀ d ∈ words, d.before args s = true := fun d hd => by
  have q := hw d hd
  have t : ∀ d ∈ words, d = .arrayClass .byte ∨ (d.onTables && d.keepsFace) = true := by decide +kernel
  rcases t d hd with rfl | t
  · exact RoadKit.mvA hZ q
  · exact RoadKit.mv hZ q t
/-- WHAT COMES BACK, over the tables of the start Z: h the heap at the call, h' behind it -/
def Q (Z : State) (x : Addr) (A : Cell) (h : Heap) (v : Option Value) (h' : Heap) (L : List Loc) : Prop := v = none ∧ (∀ y ∈ L, y.base = x) ∧ RoadKit.Keep h h' [x] ∧ h'.size = h.size + 1 ∧ RoadKit.Exa Z h' x ST ∧ RoadKit.Fld Z h' x ST "value" "[B" (.ref h.size) ∧ RoadKit.Fld Z h' x ST "coder" "B" (.int 0) ∧
  (∃ V : Cell, RoadKit.Arr Z h' h.size V .byte ∧ V.vm = .none ∧ Z.vm.findClass "[B" = some V.cls ∧ V.slots.size = A.slots.size ∧ ∀ j, j < A.slots.size → V.slots[j]? = some (.int (lo8 (cv A j)))) ∧
  ∀ (O n d : String) (w : Value), RoadKit.Fld Z h x O n d w → RoadKit.slotOf Z O n d ≠ RoadKit.slotOf Z ST "value" "[B" → RoadKit.slotOf Z O n d ≠ RoadKit.slotOf Z ST "coder" "B" → RoadKit.Fld Z h' x O n d w
/-- **new String(chars) AT A CALL, IN THE ROAD'S FORM**: for specialBack behind newO: x the fresh String, b the char[] with the cell A -/
theorem back {p : Program} {l : Launch} {e : Env} {R : Room} {s : State} {args : Array Value} {below : List Frame} {len W : Nat} {Z : State} {a0 : Array Value} {h : Heap} (hZ : Z.Warmed39 s.vm) (hw : ∀ d ∈ words, d.before a0 Z = true) {kI : Nat} (wi : (Jvm.Cond.instantiable ST kI).before a0 Z = true)
    {x b : Addr} {A : Cell} {z : Int32} {v0 c0 : Value} (E : RoadKit.Exa Z h x ST) (V : RoadKit.Fld Z h x ST "value" "[B" v0) (C : RoadKit.Fld Z h x ST "coder" "B" c0) (K : RoadKit.Arr Z h b A .char) (hty : Typed .char A) (S : RoadKit.Sta Z h ST "COMPACT_STRINGS" "Z" (.int z)) (hz : ¬ z = 0)
    (l0 : 0 < A.slots.size) (l2 : A.slots.size ≤ 536870912) (hp : ∀ i, i < A.slots.size → ¬ 255 < cv A i) (hfr : 4 ≤ R.frames) (hlo : W + 65 ≤ R.locals) :
    Back l R p e below s args New1.yN len W (fun P a => a = #[.ref x, .ref b] ∧ P.U.heap = h ∧ P.cells + 1 ≤ R.cells ∧ P.slots + A.slots.size ≤ R.slots)
      (fun P _ v B => ∃ L, Q Z x A h v B.U.heap L ∧ B.locs = P.locs ++ L ∧ B.cells = P.cells + 1 ∧ B.slots = P.slots + A.slots.size) := by
  intro m meth c P g ig mk a X hg hsize hdg hW hn hp'
  obtain ⟨rfl, rfl, r1, r2⟩ := hp'
  have al : Z.vm.Alike P.U.vm := hZ.alike.trans X.warmed.alike
  obtain ⟨D, cfV, kV, iV, fV, hD, gV, stV, knV, obV, asV, slV⟩ := id V
  obtain ⟨D', cfC, kC, iC, fC, hD', gC, stC, -, -, asC, slC⟩ := id C
  cases hD.symm.trans hD'
  obtain ⟨D2, kD, e1, e2, e3, e4, e5⟩ := id E
  cases hD.symm.trans e1
  obtain ⟨c2, k2, i1, i2, i3, -⟩ := Cond.instantiable_spec wi
  cases e2.symm.trans i1
  cases e3.symm.trans i2
  obtain ⟨kU, u1, u2⟩ := al.2.2 _ _ e3
  have hB : Blank ST x D P.U := ⟨hD, ⟨knV, fun q hq => by rw [hq] at obV; cases obV⟩, by rw [al.findClass]; exact e2, kU, u1, by rw [u2]; exact i3, by rw [u2]; exact e5 i3⟩
  have F1 : Found ST "value" "[B" fV P.U := ⟨SBG.found_only al ⟨cfV, kV, iV, gV⟩, stV⟩
  have F2 : Found ST "coder" "B" fC P.U := ⟨SBG.found_only al ⟨cfC, kC, iC, gC⟩, stC⟩
  have hA : Ch b A P.U := ⟨⟨K.1, State.isArrayOf_alike al K.2.1, K.2.2, by omega⟩, hty⟩
  have hS : StaticIs P.U ST "COMPACT_STRINGS" "Z" (.int z) := by
    obtain ⟨cfS, iS, kS, fS, st, cS, t1, t2, t3, t4, t5, t6, t7⟩ := S
    exact StaticIs.there (s := { Z with heap := P.U.heap }) ⟨cfS, iS, kS, fS, st, cS, t1, t2, t3, t4, t5, (fun q => by rw [q] at t6; cases t6), t7⟩ al rfl
  obtain ⟨v, B, X', ⟨⟨hv, E', V', q1, q2, q3, q4, q5, q6, q7, q8, q9, q10, q11⟩, hl, hc, hs⟩, st⟩ := New1.pays x D fV fC b A z (tab_of (moved hZ hw)) hfr hlo m meth c P g ig mk _ X hg hsize hdg hW hn ⟨r1, r2, rfl, hB, F1, F2, hA, hS, hz, l0, l2, hp⟩
  have al' : Z.vm.Alike B.U.vm := hZ.alike.trans X'.warmed.alike
  have hsz : E'.slots.size = D.slots.size := by
    obtain ⟨-, -, -, kB, w1, w2, w3⟩ := q1
    obtain ⟨kB', y1, y2⟩ := al'.2.2 _ _ e3
    rw [q2.2.1] at w1
    cases w1.symm.trans y1
    rw [w3, e5 i3, y2]
  refine ⟨v, B, X', ⟨_, ⟨hv, ?_, ⟨by omega, fun y cy hy hn' => q10 y cy (by simpa using hn') hy, fun y cy hy => ?_⟩, q11, ⟨E', _, q1.1, by rw [q2.2.1]; exact e2, by rw [q2.2.1]; exact e3, by rw [q2.1]; exact obV, fun _ => by rw [hsz]; exact e5 i3⟩,
    ⟨E', cfV, kV, iV, fV, q1.1, gV, stV, by rw [q2.1]; exact knV, by rw [q2.1]; exact obV, by rw [q2.2.1]; exact asV, q3⟩, ⟨E', cfC, kC, iC, fC, q1.1, gC, stC, by rw [q2.1]; exact knV, by rw [q2.1]; exact obV, by rw [q2.2.1]; exact asC, q4⟩,
    ⟨V', ⟨q5.1, State.isArrayOf_alike al'.symm q5.2.1, q5.2.2.1⟩, q6, by rw [← al'.findClass]; exact q7, q8, fun j hj => by have := q9 j hj; rwa [Nat.zero_add] at this⟩, fun O n d w F n1 n2 => ?_⟩, hl, hc, hs⟩, st⟩
  · intro y hy
    simp only [List.mem_cons, List.not_mem_nil, or_false] at hy
    rcases hy with rfl | rfl <;> rfl
  · by_cases q : y = x
    · subst q
      cases hD.symm.trans hy
      exact ⟨E', q1.1, q2.2.1, q2.1, hsz⟩
    · exact ⟨cy, q10 y cy q hy, rfl, rfl, rfl⟩
  · obtain ⟨D3, cf, k, i, f, g1, g2, g3, g4, g5, g6, g7⟩ := F
    cases hD.symm.trans g1
    simp only [RoadKit.slotOf, g2, gV, gC, Option.map_some, Option.getD_some] at n1 n2
    exact ⟨E', cf, k, i, f, q1.1, g2, g3, by rw [q2.1]; exact g4, by rw [q2.1]; exact g5, by rw [q2.2.1]; exact g6, by rw [q2.2.2 f.slot (by simp [n1, n2])]; exact g7⟩
end StrChars.Road
namespace StrChars.Road
open Jvm Sem ClassFile Op Lib Jvm.Stand Jvm.Free Jvm.Free.XT
/-- WHAT COMES BACK, the byte[] as a list of values -/
def QA (Z : State) (x : Addr) (zn : Int32) (cs : List Int32) (h : Heap) (v : Option Value) (h' : Heap) (L : List Loc) : Prop := v = none ∧ (∀ y ∈ L, y.base = x) ∧ RoadKit.Keep h h' [x] ∧ h'.size = h.size + 1 ∧ RoadKit.Exa Z h' x ST ∧ RoadKit.Fld Z h' x ST "value" "[B" (.ref h.size) ∧ RoadKit.Fld Z h' x ST "coder" "B" (.int 0) ∧
  (∃ kb, Z.vm.findClass "[B" = some kb ∧ RoadKit.Arv Z h' h.size kb .byte zn (cs.map fun c => .int (lo8 c)) (.int 0)) ∧
  ∀ (O n d : String) (w : Value), RoadKit.Fld Z h x O n d w → RoadKit.slotOf Z O n d ≠ RoadKit.slotOf Z ST "value" "[B" → RoadKit.slotOf Z O n d ≠ RoadKit.slotOf Z ST "coder" "B" → RoadKit.Fld Z h' x O n d w
/-- **new String(chars) AT A CALL, THE ARRAYS AS LISTS**: the char[] at b holds cs, not empty, no char above 255 -/
theorem backArv {p : Program} {l : Launch} {e : Env} {R : Room} {s : State} {args : Array Value} {below : List Frame} {len W : Nat} {Z : State} {a0 : Array Value} {h : Heap} (hZ : Z.Warmed39 s.vm) (hw : ∀ d ∈ words, d.before a0 Z = true) {kI : Nat} (wi : (Jvm.Cond.instantiable ST kI).before a0 Z = true)
    {x b : Addr} {k : ClassId} {zn z : Int32} {cs : List Int32} {dv v0 c0 : Value} (E : RoadKit.Exa Z h x ST) (V : RoadKit.Fld Z h x ST "value" "[B" v0) (C : RoadKit.Fld Z h x ST "coder" "B" c0) (K : RoadKit.Arv Z h b k .char zn (cs.map Value.int) dv) (S : RoadKit.Sta Z h ST "COMPACT_STRINGS" "Z" (.int z)) (hz : ¬ z = 0)
    (hlen : zn.toNatClampNeg = cs.length) (h0 : 0 < cs.length) (hbig : cs.length ≤ 536870912) (hall : ∀ c ∈ cs, ¬ 255 < c) (hfr : 4 ≤ R.frames) (hlo : W + 65 ≤ R.locals) :
    Back l R p e below s args New1.yN len W (fun P a => a = #[.ref x, .ref b] ∧ P.U.heap = h ∧ P.cells + 1 ≤ R.cells ∧ P.slots + cs.length ≤ R.slots)
      (fun P _ v B => ∃ L, QA Z x zn cs h v B.U.heap L ∧ B.locs = P.locs ++ L ∧ B.cells = P.cells + 1 ∧ B.slots = P.slots + cs.length) := by
  obtain ⟨A, K1, K2, K3, K4, K5, K6⟩ := K
  have e : A.slots.size = cs.length := K3.trans hlen
  have hat : ∀ (i : Nat) (hi : i < cs.length), A.slots[i]? = some (.int cs[i]) := fun i hi => by rw [K5 i (by omega)]; simp [List.getD_eq_getElem?_getD, hi]
  have hcv : ∀ (i : Nat) (hi : i < cs.length), cv A i = cs[i] := fun i hi => by unfold cv; rw [hat i hi]
  have hty : Typed .char A := fun i v hv => by
    have hi : i < A.slots.size := (Array.getElem?_eq_some_iff.mp hv).1
    have q := K5 i hi
    rw [hv] at q
    rw [Option.some.inj q]
    exact K6 i hi
  refine Back.mono (back hZ hw wi E V C K1 hty S hz (by omega) (by omega) (fun i hi => by rw [hcv i (by omega)]; exact hall _ (List.getElem_mem _)) hfr hlo) (fun P a hp => ⟨hp.1, hp.2.1, hp.2.2.1, by rw [e]; exact hp.2.2.2⟩) (fun P a v B hp hq => ?_)
  obtain ⟨L, ⟨q1, q2, q3, q4, q5, q6, q7, ⟨V', v1, v2, v3, v4, v5⟩, q9⟩, hl, hc, hs⟩ := hq
  refine ⟨L, ⟨q1, q2, q3, q4, q5, q6, q7, ⟨V'.cls, v3, V', v1, rfl, by rw [v4, e, hlen], K4, fun i hi => ?_, fun i hi => ?_⟩, q9⟩, hl, hc, by rw [hs, e]⟩
  · have hi' : i < cs.length := by omega
    rw [v5 i (by omega), hcv i hi']; simp [List.getD_eq_getElem?_getD, hi']
  · have hi' : i < cs.length := by omega
    simp only [List.getD_eq_getElem?_getD, List.getElem?_map, List.getElem?_eq_getElem hi', Option.map_some, Option.getD_some]
    exact fits_lo8 _
end StrChars.Road
namespace StrChars.Road
open Jvm Sem ClassFile Op Lib Jvm.Stand Jvm.Free Jvm.Free.XT
/-- WHAT COMES BACK, in the writer's own shape -/
def QV (Z : State) (x : Addr) (N : Int32) (bs : List Int32) (h : Heap) (n0 : Nat) (v : Option Value) (h' : Heap) (L : List Loc) : Prop := v = none ∧ RoadKit.Fr n0 L ∧ RoadKit.Keep h h' [x] ∧ RoadKit.Exa Z h' x ST ∧ RoadKit.Fld Z h' x ST "coder" "B" (.int 0) ∧
  ∃ (t : Addr) (kb : ClassId), n0 ≤ t ∧ h.size ≤ t ∧ ¬ t = x ∧ RoadKit.Fld Z h' x ST "value" "[B" (.ref t) ∧ RoadKit.Arv Z h' t kb .byte N (bs.map Value.int) (.int 0)
/-- **new String(chars) AT A CALL, FOR THE WRITER**: a char[] of n known ints, each 0 to 255 -/
theorem backV {p : Program} {l : Launch} {e : Env} {R : Room} {s : State} {args : Array Value} {below : List Frame} {len W : Nat} {Z : State} {a0 : Array Value} {h : Heap} (hZ : Z.Warmed39 s.vm) (hw : ∀ d ∈ words, d.before a0 Z = true) {kI : Nat} (wi : (Jvm.Cond.instantiable ST kI).before a0 Z = true)
    {x b : Addr} {kC : ClassId} {cs bs : List Int32} {d v0 c0 : Value} {z N : Int32} {n n0 : Nat} (hx0 : n0 ≤ x) (hh0 : n0 ≤ h.size) (E : RoadKit.Exa Z h x ST) (V : RoadKit.Fld Z h x ST "value" "[B" v0) (C : RoadKit.Fld Z h x ST "coder" "B" c0) (K : RoadKit.Arv Z h b kC .char N (cs.map Value.int) d) (S : RoadKit.Sta Z h ST "COMPACT_STRINGS" "Z" (.int z)) (hz : ¬ z = 0)
    (hn : cs.length = n) (hN : N = Int32.ofNat n) (l0 : 0 < n) (l2 : n ≤ 4000) (hp : ∀ c ∈ cs, ¬ c < 0 ∧ ¬ (255 : Int32) < c) (hb : bs = cs.map (fun c => c.toInt8.toInt32)) (hfr : 4 ≤ R.frames) (hlo : W + 65 ≤ R.locals) :
    Back l R p e below s args (⟨"java/lang/String", "<init>", "([C)V"⟩ : MethodName) len W (fun P a => a = #[.ref x, .ref b] ∧ P.U.heap = h ∧ P.cells + 1 ≤ R.cells ∧ P.slots + n ≤ R.slots)
      (fun P _ v B => ∃ L, QV Z x N bs h n0 v B.U.heap L ∧ B.locs = P.locs ++ L ∧ B.cells = P.cells + 1 ∧ B.slots = P.slots + n) := by
  subst hn hN hb
  refine Back.mono (backArv hZ hw wi E V C K S hz (n32 (by omega)) l0 (by omega) (fun c hc => (hp c hc).2) hfr hlo) (fun P a hp => hp) (fun P a v B hp hq => ?_)
  obtain ⟨L, ⟨q1, q2, q3, q4, q5, q6, q7, ⟨kb, v1, v2⟩, q9⟩, hl, hc, hs⟩ := hq
  exact ⟨L, ⟨q1, fun y hy => by rw [q2 y hy]; exact hx0, q3, q5, q7, h.size, kb, hh0, Nat.le_refl _, Nat.ne_of_gt E.lt, q6, by rw [List.map_map]; exact v2⟩, hl, hc, hs⟩
end StrChars.Road
end Jvm.Pilot.@@N@@
namespace Jvm.Pilot.@@N@@
open Jvm Jvm.ClassFile Sem Op Lib Jvm.Free Jvm.Stand Jvm.LawKit Jvm.RoadKit Bundle Jvm.Pilot.@@N@@.Jvm.D
theorem own_eqI {args : Array Value} {s : State} {t : Term} {n : Int32} (h : (Jvm.Cond.eq t (.int n)).value args s none s [] = some true) : t.eval args s none [] s = some (.int n) := Cond.eq_int (Cond.before_iff.mpr h) rfl
theorem own_eqR {args : Array Value} {s : State} {t u : Term} {o : Addr} (h : (Jvm.Cond.eq t u).value args s none s [] = some true) (hu : u.eval args s none [] s = some (.ref o)) : t.eval args s none [] s = some (.ref o) := by
  obtain ⟨x, y, hx, hy, k1, k2⟩ := cmp_v (Or.inl h)
  cases hy.symm.trans hu
  have e := gotT (eq_R hx hu k2.2 rfl) h
  rw [e] at hx; exact hx
theorem own_arv {args : Array Value} {s : State} {t : Term} {a : Addr} {ty : FieldType} {n : Int32} {vs : List Value} {dv : Value} (hf : Fit s) (ev : t.eval args s none [] s = some (.ref a)) (ho : (Jvm.Cond.arrayOf t ty).value args s none s [] = some true)
    (hlen : (Term.length t).eval args s none [] s = some (.int n)) (hn : ¬ n < 0) (hl : n.toNatClampNeg = vs.length) (H : ∀ c : Cell, s.heap[a]? = some c → HasL c 0 vs) : ∃ k, Arv s s.heap a k ty n vs dv := by
  obtain ⟨c, A⟩ := Arr.start ev ho
  have ha : s.arrayAt? a = some c := IntBox.arrayAt_of A.1 A.2.1 A.2.2
  have h31 : c.slots.size < 2 ^ 31 := SBG.length_lt ev ha hlen
  have e := (len_f ev ha h31).symm.trans hlen
  exact ⟨_, Arv.start hf A h31 (Value.int.inj (Option.some.inj e)) hn hl (H c A.1)⟩
theorem own_fits : ∀ (t : FieldType) (v : Value), v.isRef = true → t.isReference = true → fits t v = true := fun t v hv ht => by
  cases t <;> first | (cases ht; done) | (cases v <;> simp [fits, Value.isRef] at hv ⊢)
theorem and255_chars (x : Int32) : ¬ nar .char ((x &&& (255 : Int32)).toUInt32.toUInt16.toUInt32.toInt32) < 0 ∧ ¬ (255 : Int32) < nar .char ((x &&& (255 : Int32)).toUInt32.toUInt16.toUInt32.toInt32) := by
  have t : ∀ k : Fin 256, ¬ nar .char ((Int32.ofNat k.val).toUInt32.toUInt16.toUInt32.toInt32) < 0 ∧ ¬ (255 : Int32) < nar .char ((Int32.ofNat k.val).toUInt32.toUInt16.toUInt32.toInt32) := by decide +kernel
  have h : (x &&& 255).toBitVec.toNat < 256 := by
    simp only [Int32.toBitVec_and, BitVec.toNat_and]
    exact Nat.lt_succ_of_le Nat.and_le_right
  have e : (x &&& 255) = Int32.ofNat (x &&& 255).toBitVec.toNat := by
    apply Int32.toBitVec_inj.mp
    show _ = BitVec.ofNat 32 _
    rw [BitVec.ofNat_toNat]; simp
  rw [e]
  exact t ⟨_, h⟩
theorem own_c255 (x : Int32) : ¬ (255 : Int32) < ((x &&& (255 : Int32)).toUInt32.toUInt16.toUInt32.toInt32) := by
  rw [i2c_mask]
  intro q
  have h1 := (c_and x 255 (by decide)).2
  rw [Int32.lt_iff_toInt_lt] at q
  omega
theorem own_safeN {Z : State} {EL : List (String × Nat)} {vm : Vm} {h : Heap} {x : Addr} (hal : Z.vm.Alike vm) (E : Exa Z h x "java/lang/String") (F : Fld Z h x "java/lang/String" "value" "[B" .null) : Safe Z EL vm h x := fun B => by
  obtain ⟨p, -, u, a, -, q, -, G, rfl | rfl⟩ := B
  · have hc := G.ha
    obtain ⟨cS, ⟨I, f, e⟩, -⟩ := G
    obtain ⟨cell, cf, k, i, fd, h1, h2, h3, h4, h5, h6, h7⟩ := F
    cases (show h[q.sa]? = some q.sC from hc).symm.trans h1
    obtain ⟨cV, kV, iV, g1, -⟩ := I.ffV
    obtain ⟨k', g2⟩ := ff_back (U := Wst Z vm h) hal g1
    cases g2.symm.trans h2
    have := I.slV.symm.trans h7
    cases this
  · obtain ⟨cell, k, e1, e2, e3, -, -⟩ := E
    cases (show h[q.sd]? = some q.SA from G.hd).symm.trans e1
    obtain ⟨cS, -, -, f, -⟩ := G
    have f' : vm.findClass "[B" = some q.SA.cls := f
    rw [hal.findClass] at f'
    obtain ⟨k1, q1, q2⟩ := Vm.findClass_spec f'
    obtain ⟨k2, q3, q4⟩ := Vm.findClass_spec e2
    cases q1.symm.trans q3
    exact absurd (q2.symm.trans q4) (by decide)
def QE (Z : State) (x : Addr) (h0 : Heap) (n0 : Nat) (v : Option Value) (h : Heap) (L : List Loc) : Prop := v = none ∧ Fr n0 L ∧ Keep h0 h [x] ∧ Exa Z h x "java/lang/String" ∧ Fld Z h x "java/lang/String" "coder" "B" (.int 0) ∧ ∃ (t : Addr) (k : ClassId), Fld Z h x "java/lang/String" "value" "[B" (.ref t) ∧ Arv Z h t k .byte (0 : Int32) [] (.int 0)
theorem d_jdk_42_method_149_code_0 : decode jdk_42_method_149_code 0 = .ok (.aload_n 0, 1) := by decide +kernel
theorem d_jdk_42_method_149_code_1 : decode jdk_42_method_149_code 1 = .ok (.invokespecial 1, 3) := by decide +kernel
theorem d_jdk_42_method_149_code_4 : decode jdk_42_method_149_code 4 = .ok (.iload_n 3, 1) := by decide +kernel
theorem d_jdk_42_method_149_code_5 : decode jdk_42_method_149_code 5 = .ok (.ifCond .ne 22, 3) := by decide +kernel
theorem d_jdk_42_method_149_code_8 : decode jdk_42_method_149_code 8 = .ok (.aload_n 0, 1) := by decide +kernel
theorem d_jdk_42_method_149_code_9 : decode jdk_42_method_149_code 9 = .ok (.ldc 7, 2) := by decide +kernel
theorem d_jdk_42_method_149_code_11 : decode jdk_42_method_149_code 11 = .ok (.getfield 9, 3) := by decide +kernel
theorem d_jdk_42_method_149_code_14 : decode jdk_42_method_149_code 14 = .ok (.putfield 9, 3) := by decide +kernel
theorem d_jdk_42_method_149_code_17 : decode jdk_42_method_149_code 17 = .ok (.aload_n 0, 1) := by decide +kernel
theorem d_jdk_42_method_149_code_18 : decode jdk_42_method_149_code 18 = .ok (.ldc 7, 2) := by decide +kernel
theorem d_jdk_42_method_149_code_20 : decode jdk_42_method_149_code 20 = .ok (.getfield 15, 3) := by decide +kernel
theorem d_jdk_42_method_149_code_23 : decode jdk_42_method_149_code 23 = .ok (.putfield 15, 3) := by decide +kernel
theorem d_jdk_42_method_149_code_26 : decode jdk_42_method_149_code 26 = .ok (.return_, 1) := by decide +kernel
theorem pn_java_lang_String : plainName "java/lang/String" = true := by first | (simp [plainName, overriddenIn]; done) | decide +kernel
theorem ef_rmE2 (m : MethodId) (x0 : Addr) (x1 : Addr) : entryFrame m #[(.ref x0), (.ref x1), (.int (0 : Int32)), (.int (0 : Int32)), .null] 6 = mkF m 0 #[.val (.ref x0), .val (.ref x1), .val (.int (0 : Int32)), .val (.int (0 : Int32)), .val .null, .unset] [] := by first | (simp [entryFrame, mkF, argsToLocals, Value.category]; done) | rfl
set_option maxRecDepth 65536 in
set_option maxHeartbeats 40000000 in
theorem rmE2 (l : Launch) (Z : State) (a0 : Array Value) (hw : ∀ d ∈ tables_1, d.before a0 Z = true) (ws : List Jvm.Cond) (x b : Addr) (h0 : Heap) (n0 : Nat) (O0 : Old Z n0 h0) (hEL : EW Z a0 [("java/lang/String", 7)]) (wS : ∀ a ∈ Bundle.stringAtoms, a.before a0 Z = true) (g_x : n0 ≤ x) (Ex : Exa Z h0 x "java/lang/String") (Vx : Fld Z h0 x "java/lang/String" "value" "[B" .null) (Cx : Fld Z h0 x "java/lang/String" "coder" "B" (.int (0 : Int32))) :
    MetFree l (⟨"java/lang/String", "<init>", "([CIILjava/lang/Void;)V"⟩ : MethodName) (head1 (Jvm.Cond.code (⟨"java/lang/String", "<init>", "([CIILjava/lang/Void;)V"⟩ : MethodName) jdk_42_method_149_code 6 none :: ws) ({ frames := 1, cells := 2, slots := 4, locals := 12 } : Room)) (fun aa_ U => aa_ = #[(.ref x), (.ref b), (.int (0 : Int32)), (.int (0 : Int32)), .null] ∧ Z.Warmed39 U.vm ∧ U.heap = h0 ∧ CHv Z [("java/lang/String", 7)] U.vm h0) (fun _ _ _ _ _ => True) (fun _ U o U' => ∃ v L, o = .returned v ∧ QE Z x h0 n0 v U'.heap L ∧ CHr Z [("java/lang/String", 7)] U.vm U.heap U'.vm U'.heap ∧ ReturnedEndW U o U' L ({ frames := 1, cells := 2, slots := 4, locals := 12 } : Room).cells ({ frames := 1, cells := 2, slots := 4, locals := 12 } : Room).slots) := by
  refine MetFree.of_bodySF (plainFor_of_name pn_java_lang_String) hisR ?_
  intro p e s m args below meth c s₁ Bd hml0 hP hK
  obtain ⟨rfl, hZ, hh, hC0⟩ := hP
  have hx := Bd.exec
  have hby := Bd.bytes
  have hml : c.maxLocals = 6 := hml0
  have hown : s.vm.findClass "java/lang/String" = some m.cls := findClass_of_methodNamed Bd.named
  have hnm := (name_of_methodNamed Bd.named Bd.method).1
  have X0 : Stand p l e ({ frames := 1, cells := 2, slots := 4, locals := 12 } : Room) (s.setVm s.vm) m #[(.ref x), (.ref b), (.int (0 : Int32)), (.int (0 : Int32)), .null] below meth c s₁ [] 0 0 := Stand.of_body Bd
  have e0 : s₁.heap = h0 := by rw [← hh, Bd.state]; rfl
  have N0 := Fr.nil n0
  have Z0 : n0 ≤ h0.size := O0.1 ▸ O0.2.1
  have K0 : Keep h0 h0 [x] := Keep.refl _ _
  have hS0 : s.Since s.vm h0.size := (State.WarmedH.refl s).since _
  have hk0 : h0.size ≤ h0.size := Nat.le_refl _
  have HC0 : CHr Z [("java/lang/String", 7)] s.vm h0 s.vm h0 := CHr.refl hC0
  have pre0 : ∀ tgt_, Steps p.tables e below (s₁.setTop (mkF m 0 #[.val (.ref x), .val (.ref b), .val (.int (0 : Int32)), .val (.int (0 : Int32)), .val .null, .unset] [])) tgt_ → Steps p.tables e below (s₁.setTop (entryFrame m #[(.ref x), (.ref b), (.int (0 : Int32)), (.int (0 : Int32)), .null] 6)) tgt_ := fun tgt_ k => castTop (ef_rmE2 m x b) k
  have sf0x : Safe Z [("java/lang/String", 7)] s.vm h0 x := own_safeN hZ.alike Ex Vx
  obtain ⟨T1, X1, e1, st1⟩ := initO X0 hx hZ hown (hw _ (List.mem_of_getElem? (i := 15) rfl)) (hw _ (List.mem_of_getElem? (i := 16) rfl)) (hw _ (List.mem_of_getElem? (i := 17) rfl)) e0 (g := (mkF m 1 #[.val (.ref x), .val (.ref b), .val (.int (0 : Int32)), .val (.int (0 : Int32)), .val .null, .unset] [(.ref x)])) rfl (by rw [hml]; rfl) rfl (hb hby d_jdk_42_method_149_code_1) (by decide) (W := 0) (by show 2 * 0 + _ ≤ _; exact Nat.le_of_eq rfl) (by decide)
  obtain ⟨a2, T2, h2, kk2, t2, kc2, X2, e2, E2, hS2, hk2, hZ2, hown2, EE2, CC2, VV2, AA2, la2, lb2, HR2, li2, sf2, st2⟩ := ldcCH (s := s) X1 hx hZ hown (hw _ (List.mem_of_getElem? (i := 81) rfl)) wS e1 hS0 hk0 hEL (by simp) HC0.1 (vs := []) (z := (0 : Int32)) ⟨by decide, rfl⟩ (by decide) (by decide) (g := (mkF m 9 #[.val (.ref x), .val (.ref b), .val (.int (0 : Int32)), .val (.int (0 : Int32)), .val .null, .unset] [(.ref x)])) rfl (hb hby d_jdk_42_method_149_code_9) (n := 0) (by decide) (by decide) (by decide) (by decide)
  have O3 : Old Z n0 h2 := O0.ext E2
  have Z3 : n0 ≤ h2.size := Nat.le_trans Z0 E2.1
  have K3 : Keep h0 h2 [x] := K0.ext E2
  have HC3 : CHr Z [("java/lang/String", 7)] s.vm h0 T2.vm h2 := HC0.trans HR2
  have sf3_x : Safe Z [("java/lang/String", 7)] T2.vm h2 x := HR2.safe Ex.lt sf0x
  have f4 : Exa Z h2 x "java/lang/String" := Ex.ext E2
  have f5 : Fld Z h2 x "java/lang/String" "value" "[B" .null := Vx.ext E2
  have f6 : Fld Z h2 x "java/lang/String" "coder" "B" (.int (0 : Int32)) := Cx.ext E2
  obtain ⟨T7, X7, e7, st7⟩ := getF X2 hx hZ2 hown2 (host := "") (Or.inl (hw _ (List.mem_of_getElem? (i := 32) rfl))) Via.refl e2 VV2 (g := (mkF m 11 #[.val (.ref x), .val (.ref b), .val (.int (0 : Int32)), .val (.int (0 : Int32)), .val .null, .unset] [(.ref a2), (.ref x)])) rfl rfl (hb hby d_jdk_42_method_149_code_11)
  obtain ⟨T8, h8, X8, e8, W8, st8⟩ := putF X7 hx hZ2 hown2 (host := "") (Or.inl (hw _ (List.mem_of_getElem? (i := 32) rfl))) Via.refl e7 f5 f4 (Or.inr ⟨(hw _ (List.mem_of_getElem? (i := 33) rfl)), rfl, hnm⟩) (hw _ (List.mem_of_getElem? (i := 5) rfl)) (ty := (.array .byte)) (by decide) rfl rfl (g := (mkF m 14 #[.val (.ref x), .val (.ref b), .val (.int (0 : Int32)), .val (.int (0 : Int32)), .val .null, .unset] [(.ref t2), (.ref x)])) rfl rfl (hb hby d_jdk_42_method_149_code_14)
  have N8 := Fr.snoc X8 N0 g_x
  have O9 : Old Z n0 h8 := O3.wr W8 g_x
  have Z9 : n0 ≤ h8.size := Nat.le_trans Z3 (Keep.of_wr W8).1
  have K9 : Keep h0 h8 [x] := K3.wr W8 (Or.inl (List.mem_of_getElem? (i := 0) rfl))
  have HC9 : CHr Z [("java/lang/String", 7)] s.vm h0 T2.vm h8 := HC3.trans (CHr.wr W8 sf3_x HC3.1)
  have sf9_x : Safe Z [("java/lang/String", 7)] T2.vm h8 x := Safe.wr W8 sf3_x HC3.1 sf3_x
  have hk9 : kk2 ≤ h8.size := Nat.le_trans hk2 (Keep.of_wr W8).1
  have f10 : Exa Z h8 x "java/lang/String" := f4.wr W8
  have f11 : Fld Z h8 x "java/lang/String" "value" "[B" (.ref t2) := f5.same W8
  have f12 : Fld Z h8 x "java/lang/String" "coder" "B" (.int (0 : Int32)) := f6.other W8 (Or.inr (slot_ne (Or.inr (hw _ (List.mem_of_getElem? (i := 31) rfl))) (Or.inr (hw _ (List.mem_of_getElem? (i := 33) rfl))) (by decide) (t := .byte) (t' := (.array .byte)) (by decide) (by decide)))
  have f13 : Exa Z h8 a2 "java/lang/String" := EE2.wr W8
  have f14 : Fld Z h8 a2 "java/lang/String" "coder" "B" (.int 0) := CC2.other W8 (Or.inl (Ne.symm (sf2 x sf3_x).1))
  have f15 : Fld Z h8 a2 "java/lang/String" "value" "[B" (.ref t2) := VV2.other W8 (Or.inl (Ne.symm (sf2 x sf3_x).1))
  have f16 : Arv Z h8 t2 kc2 .byte (0 : Int32) [] (.int 0) := AA2.other W8 (Ne.symm (sf2 x sf3_x).2)
  obtain ⟨T17, X17, e17, st17⟩ := getF X8 hx hZ2 hown2 (host := "") (Or.inl (hw _ (List.mem_of_getElem? (i := 30) rfl))) Via.refl e8 f14 (g := (mkF m 20 #[.val (.ref x), .val (.ref b), .val (.int (0 : Int32)), .val (.int (0 : Int32)), .val .null, .unset] [(.ref a2), (.ref x)])) rfl rfl (hb hby d_jdk_42_method_149_code_20)
  obtain ⟨T18, h18, X18, e18, W18, st18⟩ := putF X17 hx hZ2 hown2 (host := "") (Or.inl (hw _ (List.mem_of_getElem? (i := 30) rfl))) Via.refl e17 f12 f10 (Or.inr ⟨(hw _ (List.mem_of_getElem? (i := 31) rfl)), rfl, hnm⟩) (hw _ (List.mem_of_getElem? (i := 5) rfl)) (ty := .byte) (by decide) rfl rfl (g := (mkF m 23 #[.val (.ref x), .val (.ref b), .val (.int (0 : Int32)), .val (.int (0 : Int32)), .val .null, .unset] [(.int 0), (.ref x)])) rfl rfl (hb hby d_jdk_42_method_149_code_23)
  have N18 := Fr.snoc X18 N8 g_x
  have O19 : Old Z n0 h18 := O9.wr W18 g_x
  have Z19 : n0 ≤ h18.size := Nat.le_trans Z9 (Keep.of_wr W18).1
  have K19 : Keep h0 h18 [x] := K9.wr W18 (Or.inl (List.mem_of_getElem? (i := 0) rfl))
  have HC19 : CHr Z [("java/lang/String", 7)] s.vm h0 T2.vm h18 := HC9.trans (CHr.wr W18 sf9_x HC9.1)
  have sf19_x : Safe Z [("java/lang/String", 7)] T2.vm h18 x := Safe.wr W18 sf9_x HC9.1 sf9_x
  have hk19 : kk2 ≤ h18.size := Nat.le_trans hk9 (Keep.of_wr W18).1
  have f20 : Exa Z h18 x "java/lang/String" := f10.wr W18
  have f21 : Fld Z h18 x "java/lang/String" "value" "[B" (.ref t2) := f11.other W18 (Or.inr (slot_ne (Or.inr (hw _ (List.mem_of_getElem? (i := 33) rfl))) (Or.inr (hw _ (List.mem_of_getElem? (i := 31) rfl))) (by decide) (t := (.array .byte)) (t' := .byte) (by decide) (by decide)))
  have f22 : Fld Z h18 x "java/lang/String" "coder" "B" (.int 0) := f12.same W18
  have f23 : Exa Z h18 a2 "java/lang/String" := f13.wr W18
  have f24 : Fld Z h18 a2 "java/lang/String" "coder" "B" (.int 0) := f14.other W18 (Or.inl (Ne.symm (sf2 x sf3_x).1))
  have f25 : Fld Z h18 a2 "java/lang/String" "value" "[B" (.ref t2) := f15.other W18 (Or.inl (Ne.symm (sf2 x sf3_x).1))
  have f26 : Arv Z h18 t2 kc2 .byte (0 : Int32) [] (.int 0) := f16.other W18 (Ne.symm (sf2 x sf3_x).2)
  obtain ⟨fs, hr, hrun, hended, hEnd⟩ := X18.leaveW (s := s) hS2 (by rw [e18]; exact hk19) (v := none) (fun _ => rfl)
  refine ⟨_, _, pre0 _ ?_, hrun, hended, _, _, rfl, ?_, ?_, hEnd.1, hEnd.2.1, hEnd.2.2.1, hEnd.2.2.2.mono (by decide) (by decide)⟩
  · show Steps p.tables e below (s₁.setTop (mkF m 0 #[.val (.ref x), .val (.ref b), .val (.int (0 : Int32)), .val (.int (0 : Int32)), .val .null, .unset] [])) _
    refine XS.aloadN X0.here hx rfl (hb hby d_jdk_42_method_149_code_0) rfl rfl ?_
    show Steps p.tables e below (s₁.setTop (mkF m 1 #[.val (.ref x), .val (.ref b), .val (.int (0 : Int32)), .val (.int (0 : Int32)), .val .null, .unset] [(.ref x)])) _
    refine st1 _ ?_
    show Steps p.tables e below (T1.setTop (mkF m 4 #[.val (.ref x), .val (.ref b), .val (.int (0 : Int32)), .val (.int (0 : Int32)), .val .null, .unset] [])) _
    refine XS.iloadN X1.here hx rfl (hb hby d_jdk_42_method_149_code_4) rfl ?_
    show Steps p.tables e below (T1.setTop (mkF m 5 #[.val (.ref x), .val (.ref b), .val (.int (0 : Int32)), .val (.int (0 : Int32)), .val .null, .unset] [(.int (0 : Int32))])) _
    refine XS.ifNo X1.here hx rfl (hb hby d_jdk_42_method_149_code_5) rfl ((if0 _ _).trans (teq (rfl : (0 : Int32) = (0 : Int32))).2) ?_
    show Steps p.tables e below (T1.setTop (mkF m 8 #[.val (.ref x), .val (.ref b), .val (.int (0 : Int32)), .val (.int (0 : Int32)), .val .null, .unset] [])) _
    refine XS.aloadN X1.here hx rfl (hb hby d_jdk_42_method_149_code_8) rfl rfl ?_
    show Steps p.tables e below (T1.setTop (mkF m 9 #[.val (.ref x), .val (.ref b), .val (.int (0 : Int32)), .val (.int (0 : Int32)), .val .null, .unset] [(.ref x)])) _
    refine st2 _ ?_
    show Steps p.tables e below (T2.setTop (mkF m 11 #[.val (.ref x), .val (.ref b), .val (.int (0 : Int32)), .val (.int (0 : Int32)), .val .null, .unset] [(.ref a2), (.ref x)])) _
    refine st7 _ ?_
    show Steps p.tables e below (T7.setTop (mkF m 14 #[.val (.ref x), .val (.ref b), .val (.int (0 : Int32)), .val (.int (0 : Int32)), .val .null, .unset] [(.ref t2), (.ref x)])) _
    refine st8 _ ?_
    show Steps p.tables e below (T8.setTop (mkF m 17 #[.val (.ref x), .val (.ref b), .val (.int (0 : Int32)), .val (.int (0 : Int32)), .val .null, .unset] [])) _
    refine XS.aloadN X8.here hx rfl (hb hby d_jdk_42_method_149_code_17) rfl rfl ?_
    show Steps p.tables e below (T8.setTop (mkF m 18 #[.val (.ref x), .val (.ref b), .val (.int (0 : Int32)), .val (.int (0 : Int32)), .val .null, .unset] [(.ref x)])) _
    refine ldcAgain X8 hx hZ2 hown2 (hw _ (List.mem_of_getElem? (i := 81) rfl)) li2 (g := (mkF m 18 #[.val (.ref x), .val (.ref b), .val (.int (0 : Int32)), .val (.int (0 : Int32)), .val .null, .unset] [(.ref x)])) rfl (hb hby d_jdk_42_method_149_code_18) _ ?_
    show Steps p.tables e below (T8.setTop (mkF m 20 #[.val (.ref x), .val (.ref b), .val (.int (0 : Int32)), .val (.int (0 : Int32)), .val .null, .unset] [(.ref a2), (.ref x)])) _
    refine st17 _ ?_
    show Steps p.tables e below (T17.setTop (mkF m 23 #[.val (.ref x), .val (.ref b), .val (.int (0 : Int32)), .val (.int (0 : Int32)), .val .null, .unset] [(.int 0), (.ref x)])) _
    refine st18 _ ?_
    show Steps p.tables e below (T18.setTop (mkF m 26 #[.val (.ref x), .val (.ref b), .val (.int (0 : Int32)), .val (.int (0 : Int32)), .val .null, .unset] [])) _
    exact X18.returnOut hx Bd.returns (hb hby d_jdk_42_method_149_code_26) hr
  · show QE Z x h0 n0 _ T18.heap _
    rw [e18]
    exact ⟨rfl, N18, K19, f20, f22, t2, _, f21, f26⟩
  · show CHr Z [("java/lang/String", 7)] s.vm s.heap T18.vm T18.heap
    rw [hh, e18]
    exact HC19.trans (CHv.at X18 hZ2 hEL HC19.1)
theorem d_jdk_42_method_3_code_0 : decode jdk_42_method_3_code 0 = .ok (.aload_n 0, 1) := by decide +kernel
theorem d_jdk_42_method_3_code_1 : decode jdk_42_method_3_code 1 = .ok (.aload_n 1, 1) := by decide +kernel
theorem d_jdk_42_method_3_code_2 : decode jdk_42_method_3_code 2 = .ok (.iconst 0, 1) := by decide +kernel
theorem d_jdk_42_method_3_code_3 : decode jdk_42_method_3_code 3 = .ok (.aload_n 1, 1) := by decide +kernel
theorem d_jdk_42_method_3_code_4 : decode jdk_42_method_3_code 4 = .ok (.arraylength, 1) := by decide +kernel
theorem d_jdk_42_method_3_code_5 : decode jdk_42_method_3_code 5 = .ok (.aconst_null, 1) := by decide +kernel
theorem d_jdk_42_method_3_code_6 : decode jdk_42_method_3_code 6 = .ok (.invokespecial 27, 3) := by decide +kernel
theorem pd___CIILjava_lang_Void__V : parseMethodDescriptor "([CIILjava/lang/Void;)V" = some ⟨[(.array .char), .int, .int, (.object "java/lang/Void")], none⟩ := by decide +kernel
theorem d_jdk_42_method_3_code_9 : decode jdk_42_method_3_code 9 = .ok (.return_, 1) := by decide +kernel
theorem ef_rmE1 (m : MethodId) (x0 : Addr) (x1 : Addr) : entryFrame m #[(.ref x0), (.ref x1)] 2 = mkF m 0 #[.val (.ref x0), .val (.ref x1)] [] := by first | (simp [entryFrame, mkF, argsToLocals, Value.category]; done) | rfl
set_option maxRecDepth 65536 in
set_option maxHeartbeats 40000000 in
theorem rmE1 (l : Launch) (Z : State) (a0 : Array Value) (hw : ∀ d ∈ tables_1, d.before a0 Z = true) (ws : List Jvm.Cond) (x b : Addr) (kb : ClassId) (h0 : Heap) (n0 : Nat) (O0 : Old Z n0 h0) (hEL : EW Z a0 [("java/lang/String", 7)]) (wS : ∀ a ∈ Bundle.stringAtoms, a.before a0 Z = true) (g_x : n0 ≤ x) (Ex : Exa Z h0 x "java/lang/String") (Vx : Fld Z h0 x "java/lang/String" "value" "[B" .null) (Cx : Fld Z h0 x "java/lang/String" "coder" "B" (.int (0 : Int32))) (Ab : Arv Z h0 b kb .char (0 : Int32) [] (.int (0 : Int32))) :
    MetFree l (⟨"java/lang/String", "<init>", "([C)V"⟩ : MethodName) (head1 (Jvm.Cond.code (⟨"java/lang/String", "<init>", "([C)V"⟩ : MethodName) jdk_42_method_3_code 2 none :: ws) ({ frames := 2, cells := 2, slots := 4, locals := 29 } : Room)) (fun aa_ U => aa_ = #[(.ref x), (.ref b)] ∧ Z.Warmed39 U.vm ∧ U.heap = h0 ∧ CHv Z [("java/lang/String", 7)] U.vm h0) (fun _ _ _ _ _ => True) (fun _ U o U' => ∃ v L, o = .returned v ∧ QE Z x h0 n0 v U'.heap L ∧ CHr Z [("java/lang/String", 7)] U.vm U.heap U'.vm U'.heap ∧ ReturnedEndW U o U' L ({ frames := 2, cells := 2, slots := 4, locals := 29 } : Room).cells ({ frames := 2, cells := 2, slots := 4, locals := 29 } : Room).slots) := by
  refine MetFree.of_bodySF (plainFor_of_name pn_java_lang_String) hisR ?_
  intro p e s m args below meth c s₁ Bd hml0 hP hK
  obtain ⟨rfl, hZ, hh, hC0⟩ := hP
  have hx := Bd.exec
  have hby := Bd.bytes
  have hml : c.maxLocals = 2 := hml0
  have hown : s.vm.findClass "java/lang/String" = some m.cls := findClass_of_methodNamed Bd.named
  have hnm := (name_of_methodNamed Bd.named Bd.method).1
  have X0 : Stand p l e ({ frames := 2, cells := 2, slots := 4, locals := 29 } : Room) (s.setVm s.vm) m #[(.ref x), (.ref b)] below meth c s₁ [] 0 0 := Stand.of_body Bd
  have e0 : s₁.heap = h0 := by rw [← hh, Bd.state]; rfl
  have N0 := Fr.nil n0
  have Z0 : n0 ≤ h0.size := O0.1 ▸ O0.2.1
  have K0 : Keep h0 h0 [x] := Keep.refl _ _
  have hS0 : s.Since s.vm h0.size := (State.WarmedH.refl s).since _
  have hk0 : h0.size ≤ h0.size := Nat.le_refl _
  have HC0 : CHr Z [("java/lang/String", 7)] s.vm h0 s.vm h0 := CHr.refl hC0
  have pre0 : ∀ tgt_, Steps p.tables e below (s₁.setTop (mkF m 0 #[.val (.ref x), .val (.ref b)] [])) tgt_ → Steps p.tables e below (s₁.setTop (entryFrame m #[(.ref x), (.ref b)] 2)) tgt_ := fun tgt_ k => castTop (ef_rmE1 m x b) k
  have sf0x : Safe Z [("java/lang/String", 7)] s.vm h0 x := own_safeN hZ.alike Ex Vx
  obtain ⟨c27, Ar27, q27, S27, M27, Hh27, U27⟩ := id Ab
  obtain ⟨_, _, ⟨T28, L28, k28, n28⟩, -, X28, hS28, hg28, ⟨Lc28, hQ28, l28, y28, z28, HR28⟩, st28⟩ := X0.specialBackS hx (y := (⟨"java/lang/String", "<init>", "([CIILjava/lang/Void;)V"⟩ : MethodName)) rfl hown (mvT hZ (hw _ (List.mem_of_getElem? (i := 11) rfl))) (mvT hZ (hw _ (List.mem_of_getElem? (i := 12) rfl))) (mvT hZ (hw _ (List.mem_of_getElem? (i := 14) rfl))) (by decide) (backOfSH (s := s) (W := 0) (rmE2 l Z a0 hw [] x b h0 n0 O0 hEL wS g_x Ex Vx Cx) hZ (hw _ (List.mem_of_getElem? (i := 14) rfl)) (hw _ (List.mem_of_getElem? (i := 6) rfl)) (by decide) (by decide) hEL HC0.1) (g := (mkF m 6 #[.val (.ref x), .val (.ref b)] [.null, (.int (0 : Int32)), (.int (0 : Int32)), (.ref b), (.ref x)])) rfl (by rw [hml]; rfl) (Steps.refl _) (a := x) (argsL := [(.ref b), (.int (0 : Int32)), (.int (0 : Int32)), .null]) (rest := []) (lenOf pd___CIILjava_lang_Void__V rfl) rfl (by show 2 * 0 + _ ≤ _; exact Nat.le_of_eq rfl) (hb hby d_jdk_42_method_3_code_6) (fun _ _ => ⟨rfl, e0, (by decide : 0 + 2 ≤ _), (by decide : 0 + 4 ≤ _)⟩)
  dsimp only [Pt.U, Pt.locs, Pt.cells, Pt.slots] at X28 l28 y28 z28 st28 hQ28 hS28 hg28 HR28
  subst l28 y28 z28
  obtain ⟨rfl, N28q, K28k, g128, g228, t28, kt28, g328, g428⟩ := hQ28
  have N28 := Fr.app N0 N28q
  obtain ⟨X28r, hS28r, hZ28, hown28⟩ := rebS hS0 (by rw [e0]; exact hk0) X28 hS28 hg28 hZ hown
  have O29 : Old Z n0 T28.heap := O0.keep K28k (allS g_x all0)
  have Z29 : n0 ≤ T28.heap.size := Nat.le_trans Z0 K28k.1
  have K29 : Keep h0 T28.heap [x] := K0.trans K28k (allS (Or.inl (List.mem_of_getElem? (i := 0) rfl)) all0)
  have HC29 : CHr Z [("java/lang/String", 7)] s.vm h0 T28.vm T28.heap := HC0.trans HR28
  have sf29_x : Safe Z [("java/lang/String", 7)] T28.vm T28.heap x := HR28.safe Ex.lt sf0x
  have f30 : Exa Z T28.heap x "java/lang/String" := Ex.keep K28k
  have f31 : Arv Z T28.heap b kb .char (0 : Int32) [] (.int (0 : Int32)) := Ab.keep K28k (ninS (Ne.symm (Exa.neArv Ex Ab (hw _ (List.mem_of_getElem? (i := 5) rfl)))) nin0)
  obtain ⟨fs, hr, hrun, hended, hEnd⟩ := X28r.leaveW (s := s) hS28r (Nat.le_refl _) (v := none) (fun _ => rfl)
  refine ⟨_, _, pre0 _ ?_, hrun, hended, _, _, rfl, ?_, ?_, hEnd.1, hEnd.2.1, hEnd.2.2.1, hEnd.2.2.2.mono (by decide) (by decide)⟩
  · show Steps p.tables e below (s₁.setTop (mkF m 0 #[.val (.ref x), .val (.ref b)] [])) _
    refine XS.aloadN X0.here hx rfl (hb hby d_jdk_42_method_3_code_0) rfl rfl ?_
    show Steps p.tables e below (s₁.setTop (mkF m 1 #[.val (.ref x), .val (.ref b)] [(.ref x)])) _
    refine XS.aloadN X0.here hx rfl (hb hby d_jdk_42_method_3_code_1) rfl rfl ?_
    show Steps p.tables e below (s₁.setTop (mkF m 2 #[.val (.ref x), .val (.ref b)] [(.ref b), (.ref x)])) _
    refine XS.iconst X0.here hx rfl (hb hby d_jdk_42_method_3_code_2) ?_
    show Steps p.tables e below (s₁.setTop (mkF m 3 #[.val (.ref x), .val (.ref b)] [(.int (0 : Int32)), (.ref b), (.ref x)])) _
    refine XS.aloadN X0.here hx rfl (hb hby d_jdk_42_method_3_code_3) rfl rfl ?_
    show Steps p.tables e below (s₁.setTop (mkF m 4 #[.val (.ref x), .val (.ref b)] [(.ref b), (.int (0 : Int32)), (.ref b), (.ref x)])) _
    refine X0.arraylength hx (by rw [e0]; exact Ar27.1) (State.isArrayOf_alike hZ.alike Ar27.2.1) (g := (mkF m 4 #[.val (.ref x), .val (.ref b)] [(.ref b), (.int (0 : Int32)), (.ref b), (.ref x)])) rfl rfl (hb hby d_jdk_42_method_3_code_4) _ ?_
    rw [len_of S27 M27]
    show Steps p.tables e below (s₁.setTop (mkF m 5 #[.val (.ref x), .val (.ref b)] [(.int (0 : Int32)), (.int (0 : Int32)), (.ref b), (.ref x)])) _
    refine XS.aconstNull X0.here hx rfl (hb hby d_jdk_42_method_3_code_5) ?_
    show Steps p.tables e below (s₁.setTop (mkF m 6 #[.val (.ref x), .val (.ref b)] [.null, (.int (0 : Int32)), (.int (0 : Int32)), (.ref b), (.ref x)])) _
    refine st28.trans ?_
    show Steps p.tables e below (T28.setTop (mkF m 9 #[.val (.ref x), .val (.ref b)] [])) _
    exact X28r.returnOut hx Bd.returns (hb hby d_jdk_42_method_3_code_9) hr
  · show QE Z x h0 n0 _ T28.heap _
    exact ⟨rfl, N28, K29, g128, g228, t28, _, g328, g428⟩
  · show CHr Z [("java/lang/String", 7)] s.vm s.heap T28.vm T28.heap
    rw [hh]
    exact HC29.trans (CHv.at X28r hZ28 hEL HC29.1)
def QCan (Z : State)  (h0 : Heap) (n0 : Nat) (v : Option Value) (h : Heap) (L : List Loc) : Prop := v = some (.int 1) ∧ Fr n0 L ∧ h = h0
theorem d_jdk_43_method_3_code_0 : decode jdk_43_method_3_code 0 = .ok (.iload_n 0, 1) := by decide +kernel
theorem d_jdk_43_method_3_code_1 : decode jdk_43_method_3_code 1 = .ok (.sipush 255, 3) := by decide +kernel
theorem d_jdk_43_method_3_code_4 : decode jdk_43_method_3_code 4 = .ok (.if_icmp .gt 7, 3) := by decide +kernel
theorem d_jdk_43_method_3_code_7 : decode jdk_43_method_3_code 7 = .ok (.iconst 1, 1) := by decide +kernel
theorem d_jdk_43_method_3_code_8 : decode jdk_43_method_3_code 8 = .ok (.goto 4, 3) := by decide +kernel
theorem d_jdk_43_method_3_code_12 : decode jdk_43_method_3_code 12 = .ok (.ireturn, 1) := by decide +kernel
theorem pn_java_lang_StringLatin1 : plainName "java/lang/StringLatin1" = true := by first | (simp [plainName, overriddenIn]; done) | decide +kernel
theorem ef_rmCan (m : MethodId) (x0 : Int32) : entryFrame m #[(.int x0)] 1 = mkF m 0 #[.val (.int x0)] [] := by first | (simp [entryFrame, mkF, argsToLocals, Value.category]; done) | rfl
set_option maxRecDepth 65536 in
set_option maxHeartbeats 40000000 in
theorem rmCan (l : Launch) (Z : State) (a0 : Array Value) (hw : ∀ d ∈ tables_1, d.before a0 Z = true) (ws : List Jvm.Cond) (p1 : Int32) (h0 : Heap) (n0 : Nat) (O0 : Old Z n0 h0) (hp : ¬ ((255 : Int32) < p1)) :
    MetFree l (⟨"java/lang/StringLatin1", "canEncode", "(C)Z"⟩ : MethodName) (head1 (Jvm.Cond.code (⟨"java/lang/StringLatin1", "canEncode", "(C)Z"⟩ : MethodName) jdk_43_method_3_code 1 (some .boolean) :: ws) ({ frames := 0, cells := 0, slots := 0, locals := 0 } : Room)) (fun aa_ U => aa_ = #[(.int p1)] ∧ Z.Warmed39 U.vm ∧ U.heap = h0) (fun _ _ _ _ _ => True) (fun _ U o U' => ∃ v L, o = .returned v ∧ QCan Z h0 n0 v U'.heap L ∧ FrameEnd U o U' L ({ frames := 0, cells := 0, slots := 0, locals := 0 } : Room).cells ({ frames := 0, cells := 0, slots := 0, locals := 0 } : Room).slots) := by
  refine MetFree.of_bodySF (plainFor_of_name pn_java_lang_StringLatin1) hisR ?_
  intro p e s m args below meth c s₁ Bd hml0 hP hK
  obtain ⟨rfl, hZ, hh⟩ := hP
  have hx := Bd.exec
  have hby := Bd.bytes
  have hml : c.maxLocals = 1 := hml0
  have hown : s.vm.findClass "java/lang/StringLatin1" = some m.cls := findClass_of_methodNamed Bd.named
  have hnm := (name_of_methodNamed Bd.named Bd.method).1
  have X0 : Stand p l e ({ frames := 0, cells := 0, slots := 0, locals := 0 } : Room) s m #[(.int p1)] below meth c s₁ [] 0 0 := Stand.of_body Bd
  have e0 : s₁.heap = h0 := by rw [← hh, Bd.state]; rfl
  have N0 := Fr.nil n0
  have Z0 : n0 ≤ h0.size := O0.1 ▸ O0.2.1
  have K0 : Keep h0 h0 [] := Keep.refl _ _
  have pre0 : ∀ tgt_, Steps p.tables e below (s₁.setTop (mkF m 0 #[.val (.int p1)] [])) tgt_ → Steps p.tables e below (s₁.setTop (entryFrame m #[(.int p1)] 1)) tgt_ := fun tgt_ k => castTop (ef_rmCan m p1) k
  obtain ⟨fs, hr, hrun, hended, hW, hsame⟩ := X0.leave (v := some (.int (1 : Int32))) (fun h => by rw [Bd.returns] at h; cases h)
  refine ⟨_, _, pre0 _ ?_, hrun, hended, _, _, rfl, ?_, ⟨_, rfl⟩, hW, hsame.mono (by decide) (by decide)⟩
  · show Steps p.tables e below (s₁.setTop (mkF m 0 #[.val (.int p1)] [])) _
    refine XS.iloadN X0.here hx rfl (hb hby d_jdk_43_method_3_code_0) rfl ?_
    show Steps p.tables e below (s₁.setTop (mkF m 1 #[.val (.int p1)] [(.int p1)])) _
    refine XS.sipush X0.here hx rfl (hb hby d_jdk_43_method_3_code_1) ?_
    show Steps p.tables e below (s₁.setTop (mkF m 4 #[.val (.int p1)] [(.int (255 : Int32)), (.int p1)])) _
    refine XS.icmpNo X0.here hx rfl (hb hby d_jdk_43_method_3_code_4) rfl (flt (hp : ¬ ((255 : Int32) < p1))).2.2.1 ?_
    show Steps p.tables e below (s₁.setTop (mkF m 7 #[.val (.int p1)] [])) _
    refine XS.iconst X0.here hx rfl (hb hby d_jdk_43_method_3_code_7) ?_
    show Steps p.tables e below (s₁.setTop (mkF m 8 #[.val (.int p1)] [(.int (1 : Int32))])) _
    refine XS.goto X0.here hx rfl (pc0 := 8) (pc' := 12) rfl (hb hby d_jdk_43_method_3_code_8) (by decide) (by decide) ?_
    show Steps p.tables e below (s₁.setTop (mkF m 12 #[.val (.int p1)] [(.int (1 : Int32))])) _
    exact retN X0 hx (t := .boolean) Bd.returns (by simp) (hb hby d_jdk_43_method_3_code_12) hr
  · show QCan Z h0 n0 _ s₁.heap _
    rw [e0]
    exact ⟨rfl, N0, rfl⟩
def QTob (Z : State) (p1 : Int32) (h0 : Heap) (n0 : Nat) (v : Option Value) (h : Heap) (L : List Loc) : Prop := ∃ (b : Addr) (k : ClassId), v = some (.ref b) ∧ Fr n0 L ∧ Keep h0 h [] ∧ h0.size ≤ b ∧ Arv Z h b k .byte (1 : Int32) [(.int (nar .byte (p1.toInt8.toInt32)))] (.int (0 : Int32))
theorem d_jdk_43_method_46_code_0 : decode jdk_43_method_46_code 0 = .ok (.iconst 1, 1) := by decide +kernel
theorem d_jdk_43_method_46_code_1 : decode jdk_43_method_46_code 1 = .ok (.newarray .byte, 2) := by decide +kernel
theorem d_jdk_43_method_46_code_3 : decode jdk_43_method_46_code 3 = .ok (.dup, 1) := by decide +kernel
theorem d_jdk_43_method_46_code_4 : decode jdk_43_method_46_code 4 = .ok (.iconst 0, 1) := by decide +kernel
theorem d_jdk_43_method_46_code_5 : decode jdk_43_method_46_code 5 = .ok (.iload_n 0, 1) := by decide +kernel
theorem d_jdk_43_method_46_code_6 : decode jdk_43_method_46_code 6 = .ok (.i2b, 1) := by decide +kernel
theorem d_jdk_43_method_46_code_7 : decode jdk_43_method_46_code 7 = .ok (.bastore, 1) := by decide +kernel
theorem d_jdk_43_method_46_code_8 : decode jdk_43_method_46_code 8 = .ok (.areturn, 1) := by decide +kernel
theorem ef_rmTob (m : MethodId) (x0 : Int32) : entryFrame m #[(.int x0)] 1 = mkF m 0 #[.val (.int x0)] [] := by first | (simp [entryFrame, mkF, argsToLocals, Value.category]; done) | rfl
set_option maxRecDepth 65536 in
set_option maxHeartbeats 40000000 in
theorem rmTob (l : Launch) (Z : State) (a0 : Array Value) (hw : ∀ d ∈ tables_1, d.before a0 Z = true) (ws : List Jvm.Cond) (p1 : Int32) (h0 : Heap) (n0 : Nat) (O0 : Old Z n0 h0) :
    MetFree l (⟨"java/lang/StringLatin1", "toBytes", "(C)[B"⟩ : MethodName) (head1 (Jvm.Cond.code (⟨"java/lang/StringLatin1", "toBytes", "(C)[B"⟩ : MethodName) jdk_43_method_46_code 1 (some (.array .byte)) :: ws) ({ frames := 0, cells := 1, slots := 1, locals := 0 } : Room)) (fun aa_ U => aa_ = #[(.int p1)] ∧ Z.Warmed39 U.vm ∧ U.heap = h0) (fun _ _ _ _ _ => True) (fun _ U o U' => ∃ v L, o = .returned v ∧ QTob Z p1 h0 n0 v U'.heap L ∧ FrameEnd U o U' L ({ frames := 0, cells := 1, slots := 1, locals := 0 } : Room).cells ({ frames := 0, cells := 1, slots := 1, locals := 0 } : Room).slots) := by
  refine MetFree.of_bodySF (plainFor_of_name pn_java_lang_StringLatin1) hisR ?_
  intro p e s m args below meth c s₁ Bd hml0 hP hK
  obtain ⟨rfl, hZ, hh⟩ := hP
  have hx := Bd.exec
  have hby := Bd.bytes
  have hml : c.maxLocals = 1 := hml0
  have hown : s.vm.findClass "java/lang/StringLatin1" = some m.cls := findClass_of_methodNamed Bd.named
  have hnm := (name_of_methodNamed Bd.named Bd.method).1
  have X0 : Stand p l e ({ frames := 0, cells := 1, slots := 1, locals := 0 } : Room) s m #[(.int p1)] below meth c s₁ [] 0 0 := Stand.of_body Bd
  have e0 : s₁.heap = h0 := by rw [← hh, Bd.state]; rfl
  have N0 := Fr.nil n0
  have Z0 : n0 ≤ h0.size := O0.1 ▸ O0.2.1
  have K0 : Keep h0 h0 [] := Keep.refl _ _
  have pre0 : ∀ tgt_, Steps p.tables e below (s₁.setTop (mkF m 0 #[.val (.int p1)] [])) tgt_ → Steps p.tables e below (s₁.setTop (entryFrame m #[(.int p1)] 1)) tgt_ := fun tgt_ k => castTop (ef_rmTob m p1) k
  obtain ⟨T32, h32, k32, X32, e32, E32, A32, st32⟩ := newP X0 hx hZ (hw _ (List.mem_of_getElem? (i := 23) rfl)) e0 (g := (mkF m 1 #[.val (.int p1)] [(.int (1 : Int32))])) rfl (hb hby d_jdk_43_method_46_code_1) rfl (by decide : ¬ ((1 : Int32) < (0 : Int32))) (cap := 1) (by decide : (1 : Int32).toNatClampNeg ≤ 1) (by decide) (by decide) (by decide)
  obtain ⟨b32, g32⟩ : ∃ z, z = h0.size := ⟨_, rfl⟩
  rw [← g32] at A32 st32
  have geb32 : h0.size ≤ b32 := Nat.le_of_eq g32.symm
  have g_b32 : n0 ≤ b32 := Nat.le_trans Z0 geb32
  have sz_b32 : h0.size ≤ b32 := Nat.le_trans K0.1 geb32
  have O33 : Old Z n0 h32 := O0.ext E32
  have Z33 : n0 ≤ h32.size := Nat.le_trans Z0 E32.1
  have K33 : Keep h0 h32 [] := K0.ext E32
  have f34 : Arv Z h32 b32 k32 .byte (1 : Int32) [(.int (0 : Int32))] (.int (0 : Int32)) := (Arv.new A32 (by decide : ¬ ((1 : Int32) < (0 : Int32)))).pad (pad_rep [] (.int (0 : Int32)) 1)
  obtain ⟨c35, Ar35, q35, S35, M35, Hh35, U35⟩ := id f34
  obtain ⟨T35, h35, X35, e35, W35, st35⟩ := stB X32 hx hZ e32 Ar35 (j := (0 : Int32)) (inb_of S35 ⟨(by decide : ¬ ((0 : Int32) < (0 : Int32))), (by decide : (0 : Int32) < (1 : Int32))⟩) (g := (mkF m 7 #[.val (.int p1)] [(.int (p1.toInt8.toInt32)), (.int (0 : Int32)), (.ref b32), (.ref b32)])) rfl rfl (hb hby d_jdk_43_method_46_code_7)
  have f36 : Arv Z h35 b32 k32 .byte (1 : Int32) [(.int (nar .byte (p1.toInt8.toInt32)))] (.int (0 : Int32)) := Arv.set Ar35 q35 S35 M35 Hh35 U35 (fits_nar_byte _) W35 0 rfl (Nat.le_of_ble_eq_true rfl)
  have N35 := Fr.snoc X35 N0 g_b32
  have O37 : Old Z n0 h35 := O33.wr W35 g_b32
  have Z37 : n0 ≤ h35.size := Nat.le_trans Z33 (Keep.of_wr W35).1
  have K37 : Keep h0 h35 [] := K33.wr W35 (Or.inr sz_b32)
  obtain ⟨fs, hr, hrun, hended, hW, hsame⟩ := X35.leave (v := some (.ref b32)) (fun h => by rw [Bd.returns] at h; cases h)
  refine ⟨_, _, pre0 _ ?_, hrun, hended, _, _, rfl, ?_, ⟨_, rfl⟩, hW, hsame.mono (by decide) (by decide)⟩
  · show Steps p.tables e below (s₁.setTop (mkF m 0 #[.val (.int p1)] [])) _
    refine XS.iconst X0.here hx rfl (hb hby d_jdk_43_method_46_code_0) ?_
    show Steps p.tables e below (s₁.setTop (mkF m 1 #[.val (.int p1)] [(.int (1 : Int32))])) _
    refine st32 _ ?_
    show Steps p.tables e below (T32.setTop (mkF m 3 #[.val (.int p1)] [(.ref b32)])) _
    refine XS.dup X32.here hx rfl (hb hby d_jdk_43_method_46_code_3) rfl rfl ?_
    show Steps p.tables e below (T32.setTop (mkF m 4 #[.val (.int p1)] [(.ref b32), (.ref b32)])) _
    refine XS.iconst X32.here hx rfl (hb hby d_jdk_43_method_46_code_4) ?_
    show Steps p.tables e below (T32.setTop (mkF m 5 #[.val (.int p1)] [(.int (0 : Int32)), (.ref b32), (.ref b32)])) _
    refine XS.iloadN X32.here hx rfl (hb hby d_jdk_43_method_46_code_5) rfl ?_
    show Steps p.tables e below (T32.setTop (mkF m 6 #[.val (.int p1)] [(.int p1), (.int (0 : Int32)), (.ref b32), (.ref b32)])) _
    refine XS.i2b X32.here hx rfl (hb hby d_jdk_43_method_46_code_6) rfl ?_
    show Steps p.tables e below (T32.setTop (mkF m 7 #[.val (.int p1)] [(.int (p1.toInt8.toInt32)), (.int (0 : Int32)), (.ref b32), (.ref b32)])) _
    refine st35 _ ?_
    show Steps p.tables e below (T35.setTop (mkF m 8 #[.val (.int p1)] [(.ref b32)])) _
    jvm_step X35.here [X35.here.top, hx, (hb hby d_jdk_43_method_46_code_8), X35.method', Bd.returns, Value.isRef, FieldType.isReference]
    first | (intro acts; rw [hr _ acts rfl rfl rfl]) | rw [hr _ _ rfl rfl rfl]
    exact Steps.refl _
  · show QTob Z p1 h0 n0 _ T35.heap _
    rw [e35]
    exact ⟨b32, _, rfl, N35, K37, sz_b32, f36⟩
def QIB (Z : State) (x b : Addr) (h0 : Heap) (n0 : Nat) (v : Option Value) (h : Heap) (L : List Loc) : Prop := v = none ∧ Fr n0 L ∧ Keep h0 h [x] ∧ Exa Z h x "java/lang/String" ∧ Fld Z h x "java/lang/String" "coder" "B" (.int (0 : Int32)) ∧ Fld Z h x "java/lang/String" "value" "[B" (.ref b)
theorem d_jdk_42_method_151_code_0 : decode jdk_42_method_151_code 0 = .ok (.aload_n 0, 1) := by decide +kernel
theorem d_jdk_42_method_151_code_1 : decode jdk_42_method_151_code 1 = .ok (.invokespecial 1, 3) := by decide +kernel
theorem d_jdk_42_method_151_code_4 : decode jdk_42_method_151_code 4 = .ok (.aload_n 0, 1) := by decide +kernel
theorem d_jdk_42_method_151_code_5 : decode jdk_42_method_151_code 5 = .ok (.aload_n 1, 1) := by decide +kernel
theorem d_jdk_42_method_151_code_6 : decode jdk_42_method_151_code 6 = .ok (.putfield 9, 3) := by decide +kernel
theorem d_jdk_42_method_151_code_9 : decode jdk_42_method_151_code 9 = .ok (.aload_n 0, 1) := by decide +kernel
theorem d_jdk_42_method_151_code_10 : decode jdk_42_method_151_code 10 = .ok (.iload_n 2, 1) := by decide +kernel
theorem d_jdk_42_method_151_code_11 : decode jdk_42_method_151_code 11 = .ok (.putfield 15, 3) := by decide +kernel
theorem d_jdk_42_method_151_code_14 : decode jdk_42_method_151_code 14 = .ok (.return_, 1) := by decide +kernel
theorem ef_rmIB (m : MethodId) (x0 : Addr) (x1 : Addr) : entryFrame m #[(.ref x0), (.ref x1), (.int (0 : Int32))] 3 = mkF m 0 #[.val (.ref x0), .val (.ref x1), .val (.int (0 : Int32))] [] := by first | (simp [entryFrame, mkF, argsToLocals, Value.category]; done) | rfl
set_option maxRecDepth 65536 in
set_option maxHeartbeats 40000000 in
theorem rmIB (l : Launch) (Z : State) (a0 : Array Value) (hw : ∀ d ∈ tables_1, d.before a0 Z = true) (ws : List Jvm.Cond) (x b : Addr) (h0 : Heap) (n0 : Nat) (O0 : Old Z n0 h0) (g_x : n0 ≤ x) (Ex : Exa Z h0 x "java/lang/String") (Vx : Fld Z h0 x "java/lang/String" "value" "[B" .null) (Cx : Fld Z h0 x "java/lang/String" "coder" "B" (.int (0 : Int32))) :
    MetFree l (⟨"java/lang/String", "<init>", "([BB)V"⟩ : MethodName) (head1 (Jvm.Cond.code (⟨"java/lang/String", "<init>", "([BB)V"⟩ : MethodName) jdk_42_method_151_code 3 none :: ws) ({ frames := 1, cells := 0, slots := 0, locals := 12 } : Room)) (fun aa_ U => aa_ = #[(.ref x), (.ref b), (.int (0 : Int32))] ∧ Z.Warmed39 U.vm ∧ U.heap = h0) (fun _ _ _ _ _ => True) (fun _ U o U' => ∃ v L, o = .returned v ∧ QIB Z x b h0 n0 v U'.heap L ∧ FrameEnd U o U' L ({ frames := 1, cells := 0, slots := 0, locals := 12 } : Room).cells ({ frames := 1, cells := 0, slots := 0, locals := 12 } : Room).slots) := by
  refine MetFree.of_bodySF (plainFor_of_name pn_java_lang_String) hisR ?_
  intro p e s m args below meth c s₁ Bd hml0 hP hK
  obtain ⟨rfl, hZ, hh⟩ := hP
  have hx := Bd.exec
  have hby := Bd.bytes
  have hml : c.maxLocals = 3 := hml0
  have hown : s.vm.findClass "java/lang/String" = some m.cls := findClass_of_methodNamed Bd.named
  have hnm := (name_of_methodNamed Bd.named Bd.method).1
  have X0 : Stand p l e ({ frames := 1, cells := 0, slots := 0, locals := 12 } : Room) s m #[(.ref x), (.ref b), (.int (0 : Int32))] below meth c s₁ [] 0 0 := Stand.of_body Bd
  have e0 : s₁.heap = h0 := by rw [← hh, Bd.state]; rfl
  have N0 := Fr.nil n0
  have Z0 : n0 ≤ h0.size := O0.1 ▸ O0.2.1
  have K0 : Keep h0 h0 [x] := Keep.refl _ _
  have pre0 : ∀ tgt_, Steps p.tables e below (s₁.setTop (mkF m 0 #[.val (.ref x), .val (.ref b), .val (.int (0 : Int32))] [])) tgt_ → Steps p.tables e below (s₁.setTop (entryFrame m #[(.ref x), (.ref b), (.int (0 : Int32))] 3)) tgt_ := fun tgt_ k => castTop (ef_rmIB m x b) k
  obtain ⟨T38, X38, e38, st38⟩ := initO X0 hx hZ hown (hw _ (List.mem_of_getElem? (i := 15) rfl)) (hw _ (List.mem_of_getElem? (i := 16) rfl)) (hw _ (List.mem_of_getElem? (i := 17) rfl)) e0 (g := (mkF m 1 #[.val (.ref x), .val (.ref b), .val (.int (0 : Int32))] [(.ref x)])) rfl (by rw [hml]; rfl) rfl (hb hby d_jdk_42_method_151_code_1) (by decide) (W := 0) (by show 2 * 0 + _ ≤ _; exact Nat.le_of_eq rfl) (by decide)
  obtain ⟨T39, h39, X39, e39, W39, st39⟩ := putF X38 hx hZ hown (host := "") (Or.inl (hw _ (List.mem_of_getElem? (i := 32) rfl))) Via.refl e38 Vx Ex (Or.inr ⟨(hw _ (List.mem_of_getElem? (i := 33) rfl)), rfl, hnm⟩) (hw _ (List.mem_of_getElem? (i := 5) rfl)) (ty := (.array .byte)) (by decide) rfl rfl (g := (mkF m 6 #[.val (.ref x), .val (.ref b), .val (.int (0 : Int32))] [(.ref b), (.ref x)])) rfl rfl (hb hby d_jdk_42_method_151_code_6)
  have N39 := Fr.snoc X39 N0 g_x
  have O40 : Old Z n0 h39 := O0.wr W39 g_x
  have Z40 : n0 ≤ h39.size := Nat.le_trans Z0 (Keep.of_wr W39).1
  have K40 : Keep h0 h39 [x] := K0.wr W39 (Or.inl (List.mem_of_getElem? (i := 0) rfl))
  have f41 : Exa Z h39 x "java/lang/String" := Ex.wr W39
  have f42 : Fld Z h39 x "java/lang/String" "value" "[B" (.ref b) := Vx.same W39
  have f43 : Fld Z h39 x "java/lang/String" "coder" "B" (.int (0 : Int32)) := Cx.other W39 (Or.inr (slot_ne (Or.inr (hw _ (List.mem_of_getElem? (i := 31) rfl))) (Or.inr (hw _ (List.mem_of_getElem? (i := 33) rfl))) (by decide) (t := .byte) (t' := (.array .byte)) (by decide) (by decide)))
  obtain ⟨T44, h44, X44, e44, W44, st44⟩ := putF X39 hx hZ hown (host := "") (Or.inl (hw _ (List.mem_of_getElem? (i := 30) rfl))) Via.refl e39 f43 f41 (Or.inr ⟨(hw _ (List.mem_of_getElem? (i := 31) rfl)), rfl, hnm⟩) (hw _ (List.mem_of_getElem? (i := 5) rfl)) (ty := .byte) (by decide) rfl rfl (g := (mkF m 11 #[.val (.ref x), .val (.ref b), .val (.int (0 : Int32))] [(.int (0 : Int32)), (.ref x)])) rfl rfl (hb hby d_jdk_42_method_151_code_11)
  have N44 := Fr.snoc X44 N39 g_x
  have O45 : Old Z n0 h44 := O40.wr W44 g_x
  have Z45 : n0 ≤ h44.size := Nat.le_trans Z40 (Keep.of_wr W44).1
  have K45 : Keep h0 h44 [x] := K40.wr W44 (Or.inl (List.mem_of_getElem? (i := 0) rfl))
  have f46 : Exa Z h44 x "java/lang/String" := f41.wr W44
  have f47 : Fld Z h44 x "java/lang/String" "value" "[B" (.ref b) := f42.other W44 (Or.inr (slot_ne (Or.inr (hw _ (List.mem_of_getElem? (i := 33) rfl))) (Or.inr (hw _ (List.mem_of_getElem? (i := 31) rfl))) (by decide) (t := (.array .byte)) (t' := .byte) (by decide) (by decide)))
  have f48 : Fld Z h44 x "java/lang/String" "coder" "B" (.int (0 : Int32)) := f43.same W44
  obtain ⟨fs, hr, hrun, hended, hW, hsame⟩ := X44.leave (v := none) (fun _ => rfl)
  refine ⟨_, _, pre0 _ ?_, hrun, hended, _, _, rfl, ?_, ⟨_, rfl⟩, hW, hsame.mono (by decide) (by decide)⟩
  · show Steps p.tables e below (s₁.setTop (mkF m 0 #[.val (.ref x), .val (.ref b), .val (.int (0 : Int32))] [])) _
    refine XS.aloadN X0.here hx rfl (hb hby d_jdk_42_method_151_code_0) rfl rfl ?_
    show Steps p.tables e below (s₁.setTop (mkF m 1 #[.val (.ref x), .val (.ref b), .val (.int (0 : Int32))] [(.ref x)])) _
    refine st38 _ ?_
    show Steps p.tables e below (T38.setTop (mkF m 4 #[.val (.ref x), .val (.ref b), .val (.int (0 : Int32))] [])) _
    refine XS.aloadN X38.here hx rfl (hb hby d_jdk_42_method_151_code_4) rfl rfl ?_
    show Steps p.tables e below (T38.setTop (mkF m 5 #[.val (.ref x), .val (.ref b), .val (.int (0 : Int32))] [(.ref x)])) _
    refine XS.aloadN X38.here hx rfl (hb hby d_jdk_42_method_151_code_5) rfl rfl ?_
    show Steps p.tables e below (T38.setTop (mkF m 6 #[.val (.ref x), .val (.ref b), .val (.int (0 : Int32))] [(.ref b), (.ref x)])) _
    refine st39 _ ?_
    show Steps p.tables e below (T39.setTop (mkF m 9 #[.val (.ref x), .val (.ref b), .val (.int (0 : Int32))] [])) _
    refine XS.aloadN X39.here hx rfl (hb hby d_jdk_42_method_151_code_9) rfl rfl ?_
    show Steps p.tables e below (T39.setTop (mkF m 10 #[.val (.ref x), .val (.ref b), .val (.int (0 : Int32))] [(.ref x)])) _
    refine XS.iloadN X39.here hx rfl (hb hby d_jdk_42_method_151_code_10) rfl ?_
    show Steps p.tables e below (T39.setTop (mkF m 11 #[.val (.ref x), .val (.ref b), .val (.int (0 : Int32))] [(.int (0 : Int32)), (.ref x)])) _
    refine st44 _ ?_
    show Steps p.tables e below (T44.setTop (mkF m 14 #[.val (.ref x), .val (.ref b), .val (.int (0 : Int32))] [])) _
    exact X44.returnOut hx Bd.returns (hb hby d_jdk_42_method_151_code_14) hr
  · show QIB Z x b h0 n0 _ T44.heap _
    rw [e44]
    exact ⟨rfl, N44, K45, f46, f48, f47⟩
def QVC (Z : State) (p1 : Int32) (h0 : Heap) (n0 : Nat) (v : Option Value) (h : Heap) (L : List Loc) : Prop := ∃ (a t : Addr) (k : ClassId), v = some (.ref a) ∧ Fr n0 L ∧ Keep h0 h [] ∧ h0.size ≤ a ∧ h0.size ≤ t ∧ ¬ t = a ∧ Exa Z h a "java/lang/String" ∧ Fld Z h a "java/lang/String" "coder" "B" (.int (0 : Int32)) ∧ Fld Z h a "java/lang/String" "value" "[B" (.ref t) ∧ Arv Z h t k .byte (1 : Int32) [(.int (nar .byte (p1.toInt8.toInt32)))] (.int (0 : Int32))
theorem d_jdk_42_method_139_code_0 : decode jdk_42_method_139_code 0 = .ok (.getstatic 38, 3) := by decide +kernel
theorem d_jdk_42_method_139_code_3 : decode jdk_42_method_139_code 3 = .ok (.ifCond .eq 23, 3) := by decide +kernel
theorem d_jdk_42_method_139_code_6 : decode jdk_42_method_139_code 6 = .ok (.iload_n 0, 1) := by decide +kernel
theorem d_jdk_42_method_139_code_7 : decode jdk_42_method_139_code 7 = .ok (.invokestatic 1015, 3) := by decide +kernel
theorem pd__C_Z : parseMethodDescriptor "(C)Z" = some ⟨[.char], some .boolean⟩ := by decide +kernel
theorem d_jdk_42_method_139_code_10 : decode jdk_42_method_139_code 10 = .ok (.ifCond .eq 16, 3) := by decide +kernel
theorem d_jdk_42_method_139_code_13 : decode jdk_42_method_139_code 13 = .ok (.new 10, 3) := by decide +kernel
theorem d_jdk_42_method_139_code_16 : decode jdk_42_method_139_code 16 = .ok (.dup, 1) := by decide +kernel
theorem d_jdk_42_method_139_code_17 : decode jdk_42_method_139_code 17 = .ok (.iload_n 0, 1) := by decide +kernel
theorem d_jdk_42_method_139_code_18 : decode jdk_42_method_139_code 18 = .ok (.invokestatic 1018, 3) := by decide +kernel
theorem pd__C__B : parseMethodDescriptor "(C)[B" = some ⟨[.char], some (.array .byte)⟩ := by decide +kernel
theorem d_jdk_42_method_139_code_21 : decode jdk_42_method_139_code 21 = .ok (.iconst 0, 1) := by decide +kernel
theorem d_jdk_42_method_139_code_22 : decode jdk_42_method_139_code 22 = .ok (.invokespecial 209, 3) := by decide +kernel
theorem pd___BB_V : parseMethodDescriptor "([BB)V" = some ⟨[(.array .byte), .byte], none⟩ := by decide +kernel
theorem d_jdk_42_method_139_code_25 : decode jdk_42_method_139_code 25 = .ok (.areturn, 1) := by decide +kernel
theorem ef_rmVC (m : MethodId) (x0 : Int32) : entryFrame m #[(.int x0)] 1 = mkF m 0 #[.val (.int x0)] [] := by first | (simp [entryFrame, mkF, argsToLocals, Value.category]; done) | rfl
set_option maxRecDepth 65536 in
set_option maxHeartbeats 40000000 in
theorem rmVC (l : Launch) (Z : State) (a0 : Array Value) (hw : ∀ d ∈ tables_1, d.before a0 Z = true) (ws : List Jvm.Cond) (p1 GC : Int32) (h0 : Heap) (n0 : Nat) (O0 : Old Z n0 h0) (OC2 : Sta Z Z.heap "java/lang/String" "COMPACT_STRINGS" "Z" (.int GC)) (OCz : ¬ (GC = (0 : Int32))) (hp : ¬ ((255 : Int32) < p1)) :
    MetFree l (⟨"java/lang/String", "valueOf", "(C)Ljava/lang/String;"⟩ : MethodName) (head1 (Jvm.Cond.code (⟨"java/lang/String", "valueOf", "(C)Ljava/lang/String;"⟩ : MethodName) jdk_42_method_139_code 1 (some (.object "java/lang/String")) :: ws) ({ frames := 2, cells := 2, slots := 5, locals := 27 } : Room)) (fun aa_ U => aa_ = #[(.int p1)] ∧ Z.Warmed39 U.vm ∧ U.heap = h0) (fun _ _ _ _ _ => True) (fun _ U o U' => ∃ v L, o = .returned v ∧ QVC Z p1 h0 n0 v U'.heap L ∧ FrameEnd U o U' L ({ frames := 2, cells := 2, slots := 5, locals := 27 } : Room).cells ({ frames := 2, cells := 2, slots := 5, locals := 27 } : Room).slots) := by
  refine MetFree.of_bodySF (plainFor_of_name pn_java_lang_String) hisR ?_
  intro p e s m args below meth c s₁ Bd hml0 hP hK
  obtain ⟨rfl, hZ, hh⟩ := hP
  have hx := Bd.exec
  have hby := Bd.bytes
  have hml : c.maxLocals = 1 := hml0
  have hown : s.vm.findClass "java/lang/String" = some m.cls := findClass_of_methodNamed Bd.named
  have hnm := (name_of_methodNamed Bd.named Bd.method).1
  have X0 : Stand p l e ({ frames := 2, cells := 2, slots := 5, locals := 27 } : Room) s m #[(.int p1)] below meth c s₁ [] 0 0 := Stand.of_body Bd
  have e0 : s₁.heap = h0 := by rw [← hh, Bd.state]; rfl
  have N0 := Fr.nil n0
  have Z0 : n0 ≤ h0.size := O0.1 ▸ O0.2.1
  have K0 : Keep h0 h0 [] := Keep.refl _ _
  have pre0 : ∀ tgt_, Steps p.tables e below (s₁.setTop (mkF m 0 #[.val (.int p1)] [])) tgt_ → Steps p.tables e below (s₁.setTop (entryFrame m #[(.int p1)] 1)) tgt_ := fun tgt_ k => castTop (ef_rmVC m p1) k
  obtain ⟨T49, X49, e49, st49⟩ := getS2 X0 hx hZ hown (host := "") (Or.inl (hw _ (List.mem_of_getElem? (i := 18) rfl))) Via.refl e0 (OC2.ext O0.2) (g := (mkF m 0 #[.val (.int p1)] [])) rfl (hb hby d_jdk_42_method_139_code_0)
  obtain ⟨_, _, ⟨T50, L50, k50, n50⟩, -, X50, ⟨Lc50, hQ50, l50, y50, z50⟩, st50⟩ := Jvm.LawKit.callS X49 hx (y := (⟨"java/lang/StringLatin1", "canEncode", "(C)Z"⟩ : MethodName)) hown (mvT hZ (hw _ (List.mem_of_getElem? (i := 70) rfl))) (mvT hZ (hw _ (List.mem_of_getElem? (i := 71) rfl))) (mvT hZ (hw _ (List.mem_of_getElem? (i := 72) rfl))) (mvT hZ (hw _ (List.mem_of_getElem? (i := 73) rfl))) (by decide) (backOf (W := 0) (rmCan l Z a0 hw [] p1 h0 n0 O0 hp) hZ (hw _ (List.mem_of_getElem? (i := 73) rfl)) (hw _ (List.mem_of_getElem? (i := 72) rfl)) (by decide) (by decide)) (g := (mkF m 7 #[.val (.int p1)] [(.int p1)])) rfl (by rw [hml]; rfl) (argsL := [(.int p1)]) (rest := []) (lenOf pd__C_Z rfl) rfl (by show 2 * 0 + _ ≤ _; exact Nat.le_of_eq rfl) (hb hby d_jdk_42_method_139_code_7) (fun _ _ => ⟨rfl, e49, (by decide : 0 + 0 ≤ _), (by decide : 0 + 0 ≤ _)⟩)
  dsimp only [Pt.U, Pt.locs, Pt.cells, Pt.slots] at X50 l50 y50 z50 st50 hQ50
  subst l50 y50 z50
  obtain ⟨rfl, N50q, e50⟩ := hQ50
  have N50 := Fr.app N0 N50q
  obtain ⟨T51, h51, X51, e51, E51, A51, D51, -, st51⟩ := newO X50 hx hZ hown (hw _ (List.mem_of_getElem? (i := 74) rfl)) (hw _ (List.mem_of_getElem? (i := 5) rfl)) (hw _ (List.mem_of_getElem? (i := 6) rfl)) e50 (g := (mkF m 13 #[.val (.int p1)] [])) rfl (hb hby d_jdk_42_method_139_code_13) (by decide) (by decide)
  obtain ⟨b51, g51⟩ : ∃ z, z = h0.size := ⟨_, rfl⟩
  rw [← g51] at A51 D51 st51
  have geb51 : h0.size ≤ b51 := Nat.le_of_eq g51.symm
  have g_b51 : n0 ≤ b51 := Nat.le_trans Z0 geb51
  have sz_b51 : h0.size ≤ b51 := Nat.le_trans K0.1 geb51
  have O52 : Old Z n0 h51 := O0.ext E51
  have Z52 : n0 ≤ h51.size := Nat.le_trans Z0 E51.1
  have K52 : Keep h0 h51 [] := K0.ext E51
  have f53 : Fld Z h51 b51 "java/lang/String" "coder" "B" (.int (0 : Int32)) := D51 (Or.inr (hw _ (List.mem_of_getElem? (i := 31) rfl))) (ty := .byte) (by decide)
  have f54 : Fld Z h51 b51 "java/lang/String" "value" "[B" .null := D51 (Or.inr (hw _ (List.mem_of_getElem? (i := 33) rfl))) (ty := (.array .byte)) (by decide)
  obtain ⟨_, _, ⟨T55, L55, k55, n55⟩, -, X55, ⟨Lc55, hQ55, l55, y55, z55⟩, st55⟩ := Jvm.LawKit.callS X51 hx (y := (⟨"java/lang/StringLatin1", "toBytes", "(C)[B"⟩ : MethodName)) hown (mvT hZ (hw _ (List.mem_of_getElem? (i := 75) rfl))) (mvT hZ (hw _ (List.mem_of_getElem? (i := 76) rfl))) (mvT hZ (hw _ (List.mem_of_getElem? (i := 72) rfl))) (mvT hZ (hw _ (List.mem_of_getElem? (i := 77) rfl))) (by decide) (backOf (W := 2) (rmTob l Z a0 hw [] p1 h51 n0 O52) hZ (hw _ (List.mem_of_getElem? (i := 77) rfl)) (hw _ (List.mem_of_getElem? (i := 72) rfl)) (by decide) (by decide)) (g := (mkF m 18 #[.val (.int p1)] [(.int p1), (.ref b51), (.ref b51)])) rfl (by rw [hml]; rfl) (argsL := [(.int p1)]) (rest := [(.ref b51), (.ref b51)]) (lenOf pd__C__B rfl) rfl (by show 2 * 0 + _ ≤ _; exact Nat.le_of_eq rfl) (hb hby d_jdk_42_method_139_code_18) (fun _ _ => ⟨rfl, e51, (by decide : 1 + 1 ≤ _), (by decide : 4 + 1 ≤ _)⟩)
  dsimp only [Pt.U, Pt.locs, Pt.cells, Pt.slots] at X55 l55 y55 z55 st55 hQ55
  subst l55 y55 z55
  obtain ⟨b55, kb55, rfl, N55q, K55k, hf55, g155⟩ := hQ55
  have N55 := Fr.app N50 N55q
  have O56 : Old Z n0 T55.heap := O52.keep K55k all0
  have Z56 : n0 ≤ T55.heap.size := Nat.le_trans Z52 K55k.1
  have K56 : Keep h0 T55.heap [] := K52.trans K55k all0
  have f57 : Exa Z T55.heap b51 "java/lang/String" := A51.keep K55k
  have f58 : Fld Z T55.heap b51 "java/lang/String" "coder" "B" (.int (0 : Int32)) := f53.keep K55k nin0
  have f59 : Fld Z T55.heap b51 "java/lang/String" "value" "[B" .null := f54.keep K55k nin0
  have g_b55 : n0 ≤ b55 := Nat.le_trans Z52 hf55
  have sz_b55 : h0.size ≤ b55 := Nat.le_trans K52.1 hf55
  obtain ⟨_, _, ⟨T60, L60, k60, n60⟩, -, X60, ⟨Lc60, hQ60, l60, y60, z60⟩, st60⟩ := X55.specialBack hx (y := (⟨"java/lang/String", "<init>", "([BB)V"⟩ : MethodName)) rfl hown (mvT hZ (hw _ (List.mem_of_getElem? (i := 78) rfl))) (mvT hZ (hw _ (List.mem_of_getElem? (i := 79) rfl))) (mvT hZ (hw _ (List.mem_of_getElem? (i := 80) rfl))) (by decide) (backOf (W := 1) (rmIB l Z a0 hw [] b51 b55 T55.heap n0 O56 g_b51 f57 f59 f58) hZ (hw _ (List.mem_of_getElem? (i := 80) rfl)) (hw _ (List.mem_of_getElem? (i := 6) rfl)) (by decide) (by decide)) (g := (mkF m 22 #[.val (.int p1)] [(.int (0 : Int32)), (.ref b55), (.ref b51), (.ref b51)])) rfl (by rw [hml]; rfl) (Steps.refl _) (a := b51) (argsL := [(.ref b55), (.int (0 : Int32))]) (rest := [(.ref b51)]) (lenOf pd___BB_V rfl) rfl (by show 2 * 0 + _ ≤ _; exact Nat.le_of_eq rfl) (hb hby d_jdk_42_method_139_code_22) (fun _ _ => ⟨rfl, rfl, (by decide : 2 + 0 ≤ _), (by decide : 5 + 0 ≤ _)⟩)
  dsimp only [Pt.U, Pt.locs, Pt.cells, Pt.slots] at X60 l60 y60 z60 st60 hQ60
  subst l60 y60 z60
  obtain ⟨rfl, N60q, K60k, g160, g260, g360⟩ := hQ60
  have N60 := Fr.app N55 N60q
  have O61 : Old Z n0 T60.heap := O56.keep K60k (allS g_b51 all0)
  have Z61 : n0 ≤ T60.heap.size := Nat.le_trans Z56 K60k.1
  have K61 : Keep h0 T60.heap [] := K56.trans K60k (allS (Or.inr sz_b51) all0)
  have f62 : Exa Z T60.heap b51 "java/lang/String" := f57.keep K60k
  have f63 : Arv Z T60.heap b55 kb55 .byte (1 : Int32) [(.int (nar .byte (p1.toInt8.toInt32)))] (.int (0 : Int32)) := g155.keep K60k (ninS (Ne.symm (Nat.ne_of_lt (Nat.lt_of_lt_of_le A51.lt hf55))) nin0)
  obtain ⟨fs, hr, hrun, hended, hW, hsame⟩ := X60.leave (v := some (.ref b51)) (fun h => by rw [Bd.returns] at h; cases h)
  refine ⟨_, _, pre0 _ ?_, hrun, hended, _, _, rfl, ?_, ⟨_, rfl⟩, hW, hsame.mono (by decide) (by decide)⟩
  · show Steps p.tables e below (s₁.setTop (mkF m 0 #[.val (.int p1)] [])) _
    refine st49 _ ?_
    show Steps p.tables e below (T49.setTop (mkF m 3 #[.val (.int p1)] [(.int GC)])) _
    refine XS.ifNo X49.here hx rfl (hb hby d_jdk_42_method_139_code_3) rfl ((if0 _ _).trans (feq (OCz : ¬ (GC = (0 : Int32)))).1) ?_
    show Steps p.tables e below (T49.setTop (mkF m 6 #[.val (.int p1)] [])) _
    refine XS.iloadN X49.here hx rfl (hb hby d_jdk_42_method_139_code_6) rfl ?_
    show Steps p.tables e below (T49.setTop (mkF m 7 #[.val (.int p1)] [(.int p1)])) _
    refine st50 _ ?_
    show Steps p.tables e below (T50.setTop (mkF m 10 #[.val (.int p1)] [(.int (1 : Int32))])) _
    refine XS.ifNo X50.here hx rfl (hb hby d_jdk_42_method_139_code_10) rfl ((if0 _ _).trans (feq (by decide : ¬ ((1 : Int32) = (0 : Int32)))).1) ?_
    show Steps p.tables e below (T50.setTop (mkF m 13 #[.val (.int p1)] [])) _
    refine st51 _ ?_
    show Steps p.tables e below (T51.setTop (mkF m 16 #[.val (.int p1)] [(.ref b51)])) _
    refine XS.dup X51.here hx rfl (hb hby d_jdk_42_method_139_code_16) rfl rfl ?_
    show Steps p.tables e below (T51.setTop (mkF m 17 #[.val (.int p1)] [(.ref b51), (.ref b51)])) _
    refine XS.iloadN X51.here hx rfl (hb hby d_jdk_42_method_139_code_17) rfl ?_
    show Steps p.tables e below (T51.setTop (mkF m 18 #[.val (.int p1)] [(.int p1), (.ref b51), (.ref b51)])) _
    refine st55 _ ?_
    show Steps p.tables e below (T55.setTop (mkF m 21 #[.val (.int p1)] [(.ref b55), (.ref b51), (.ref b51)])) _
    refine XS.iconst X55.here hx rfl (hb hby d_jdk_42_method_139_code_21) ?_
    show Steps p.tables e below (T55.setTop (mkF m 22 #[.val (.int p1)] [(.int (0 : Int32)), (.ref b55), (.ref b51), (.ref b51)])) _
    refine st60.trans ?_
    show Steps p.tables e below (T60.setTop (mkF m 25 #[.val (.int p1)] [(.ref b51)])) _
    jvm_step X60.here [X60.here.top, hx, (hb hby d_jdk_42_method_139_code_25), X60.method', Bd.returns, Value.isRef, FieldType.isReference]
    first | (intro acts; rw [hr _ acts rfl rfl rfl]) | rw [hr _ _ rfl rfl rfl]
    exact Steps.refl _
  · show QVC Z p1 h0 n0 _ T60.heap _
    exact ⟨b51, b55, _, rfl, N60, K61, sz_b51, sz_b55, (Ne.symm (Nat.ne_of_lt (Nat.lt_of_lt_of_le A51.lt hf55))), g160, g260, g360, f63⟩
def QD0 (Z : State)  (h0 : Heap) (n0 : Nat) (v : Option Value) (h : Heap) (L : List Loc) : Prop := v = some .null ∧ Fr n0 L ∧ Keep h0 h []
def QD1 (Z : State)  (h0 : Heap) (n0 : Nat) (v : Option Value) (h : Heap) (L : List Loc) : Prop := ∃ a : Addr, v = some (.ref a) ∧ Fr n0 L ∧ Keep h0 h [] ∧ h0.size ≤ a ∧ Exa Z h a "java/lang/String"
theorem d_method_2_code_0 : decode method_2_code 0 = .ok (.iload_n 0, 1) := by decide +kernel
theorem d_method_2_code_1 : decode method_2_code 1 = .ok (.iconst 3, 1) := by decide +kernel
theorem d_method_2_code_2 : decode method_2_code 2 = .ok (.iand, 1) := by decide +kernel
theorem d_method_2_code_3 : decode method_2_code 3 = .ok (.istore_n 3, 1) := by decide +kernel
theorem d_method_2_code_4 : decode method_2_code 4 = .ok (.iload_n 3, 1) := by decide +kernel
theorem d_method_2_code_5 : decode method_2_code 5 = .ok (.ifCond .ne 5, 3) := by decide +kernel
theorem d_method_2_code_8 : decode method_2_code 8 = .ok (.aconst_null, 1) := by decide +kernel
theorem d_method_2_code_9 : decode method_2_code 9 = .ok (.areturn, 1) := by decide +kernel
theorem d_method_2_code_10 : decode method_2_code 10 = .ok (.iload_n 3, 1) := by decide +kernel
theorem d_method_2_code_11 : decode method_2_code 11 = .ok (.iconst 1, 1) := by decide +kernel
theorem d_method_2_code_12 : decode method_2_code 12 = .ok (.if_icmp .ne 14, 3) := by decide +kernel
theorem d_method_2_code_15 : decode method_2_code 15 = .ok (.new 7, 3) := by decide +kernel
theorem d_method_2_code_18 : decode method_2_code 18 = .ok (.dup, 1) := by decide +kernel
theorem d_method_2_code_19 : decode method_2_code 19 = .ok (.iconst 0, 1) := by decide +kernel
theorem d_method_2_code_20 : decode method_2_code 20 = .ok (.newarray .char, 2) := by decide +kernel
theorem d_method_2_code_22 : decode method_2_code 22 = .ok (.invokespecial 9, 3) := by decide +kernel
theorem pd___C_V : parseMethodDescriptor "([C)V" = some ⟨[(.array .char)], none⟩ := by decide +kernel
theorem d_method_2_code_25 : decode method_2_code 25 = .ok (.areturn, 1) := by decide +kernel
theorem d_method_2_code_26 : decode method_2_code 26 = .ok (.iload_n 3, 1) := by decide +kernel
theorem d_method_2_code_27 : decode method_2_code 27 = .ok (.iconst 2, 1) := by decide +kernel
theorem d_method_2_code_28 : decode method_2_code 28 = .ok (.if_icmp .ne 13, 3) := by decide +kernel
theorem d_method_2_code_31 : decode method_2_code 31 = .ok (.iload_n 1, 1) := by decide +kernel
theorem d_method_2_code_32 : decode method_2_code 32 = .ok (.sipush 255, 3) := by decide +kernel
theorem d_method_2_code_35 : decode method_2_code 35 = .ok (.iand, 1) := by decide +kernel
theorem d_method_2_code_36 : decode method_2_code 36 = .ok (.i2c, 1) := by decide +kernel
theorem d_method_2_code_37 : decode method_2_code 37 = .ok (.invokestatic 12, 3) := by decide +kernel
theorem pd__C_Ljava_lang_String_ : parseMethodDescriptor "(C)Ljava/lang/String;" = some ⟨[.char], some (.object "java/lang/String")⟩ := by decide +kernel
theorem d_method_2_code_40 : decode method_2_code 40 = .ok (.areturn, 1) := by decide +kernel
theorem d_method_2_code_41 : decode method_2_code 41 = .ok (.new 7, 3) := by decide +kernel
theorem d_method_2_code_44 : decode method_2_code 44 = .ok (.dup, 1) := by decide +kernel
theorem d_method_2_code_45 : decode method_2_code 45 = .ok (.iconst 2, 1) := by decide +kernel
theorem d_method_2_code_46 : decode method_2_code 46 = .ok (.newarray .char, 2) := by decide +kernel
theorem d_method_2_code_48 : decode method_2_code 48 = .ok (.dup, 1) := by decide +kernel
theorem d_method_2_code_49 : decode method_2_code 49 = .ok (.iconst 0, 1) := by decide +kernel
theorem d_method_2_code_50 : decode method_2_code 50 = .ok (.iload_n 1, 1) := by decide +kernel
theorem d_method_2_code_51 : decode method_2_code 51 = .ok (.sipush 255, 3) := by decide +kernel
theorem d_method_2_code_54 : decode method_2_code 54 = .ok (.iand, 1) := by decide +kernel
theorem d_method_2_code_55 : decode method_2_code 55 = .ok (.i2c, 1) := by decide +kernel
theorem d_method_2_code_56 : decode method_2_code 56 = .ok (.castore, 1) := by decide +kernel
theorem d_method_2_code_57 : decode method_2_code 57 = .ok (.dup, 1) := by decide +kernel
theorem d_method_2_code_58 : decode method_2_code 58 = .ok (.iconst 1, 1) := by decide +kernel
theorem d_method_2_code_59 : decode method_2_code 59 = .ok (.iload_n 2, 1) := by decide +kernel
theorem d_method_2_code_60 : decode method_2_code 60 = .ok (.sipush 255, 3) := by decide +kernel
theorem d_method_2_code_63 : decode method_2_code 63 = .ok (.iand, 1) := by decide +kernel
theorem d_method_2_code_64 : decode method_2_code 64 = .ok (.i2c, 1) := by decide +kernel
theorem d_method_2_code_65 : decode method_2_code 65 = .ok (.castore, 1) := by decide +kernel
theorem d_method_2_code_66 : decode method_2_code 66 = .ok (.invokespecial 9, 3) := by decide +kernel
theorem d_method_2_code_69 : decode method_2_code 69 = .ok (.areturn, 1) := by decide +kernel
theorem pn_com_example_nimble_container_nimblecontainer_creation_MethodNamingOfPinLaw : plainName "com/example/nimble_container/nimblecontainer/creation/MethodNamingOfPinLaw" = true := by first | (simp [plainName, overriddenIn]; done) | decide +kernel
theorem ef_rmD0 (m : MethodId) (x0 : Int32) (x1 : Int32) (x2 : Int32) : entryFrame m #[(.int x0), (.int x1), (.int x2)] 4 = mkF m 0 #[.val (.int x0), .val (.int x1), .val (.int x2), .unset] [] := by first | (simp [entryFrame, mkF, argsToLocals, Value.category]; done) | rfl
set_option maxRecDepth 65536 in
set_option maxHeartbeats 40000000 in
theorem rmD0 (l : Launch) (Z : State) (a0 : Array Value) (hw : ∀ d ∈ tables_1, d.before a0 Z = true) (ws : List Jvm.Cond) (p1 p2 p3 GC : Int32) (h0 : Heap) (n0 : Nat) (O0 : Old Z n0 h0) (hEL : EW Z a0 [("java/lang/String", 7)]) (wS : ∀ a ∈ Bundle.stringAtoms, a.before a0 Z = true) (OC2 : Sta Z Z.heap "java/lang/String" "COMPACT_STRINGS" "Z" (.int GC)) (OCz : ¬ (GC = (0 : Int32))) (hq : (p1 &&& (3 : Int32)) = (0 : Int32)) :
    MetFree l (⟨"com/example/nimble_container/nimblecontainer/creation/MethodNamingOfPinLaw", "draw", "(III)Ljava/lang/String;"⟩ : MethodName) (head1 (Jvm.Cond.code (⟨"com/example/nimble_container/nimblecontainer/creation/MethodNamingOfPinLaw", "draw", "(III)Ljava/lang/String;"⟩ : MethodName) method_2_code 4 (some (.object "java/lang/String")) :: ws) ({ frames := 4, cells := 4, slots := 8, locals := 66 } : Room)) (fun aa_ U => aa_ = #[(.int p1), (.int p2), (.int p3)] ∧ Z.Warmed39 U.vm ∧ U.heap = h0 ∧ CHv Z [("java/lang/String", 7)] U.vm h0) (fun _ _ _ _ _ => True) (fun _ U o U' => ∃ v L, o = .returned v ∧ QD0 Z h0 n0 v U'.heap L ∧ CHr Z [("java/lang/String", 7)] U.vm U.heap U'.vm U'.heap ∧ ReturnedEndW U o U' L ({ frames := 4, cells := 4, slots := 8, locals := 66 } : Room).cells ({ frames := 4, cells := 4, slots := 8, locals := 66 } : Room).slots) := by
  refine MetFree.of_bodySF (plainFor_of_name pn_com_example_nimble_container_nimblecontainer_creation_MethodNamingOfPinLaw) hisR ?_
  intro p e s m args below meth c s₁ Bd hml0 hP hK
  obtain ⟨rfl, hZ, hh, hC0⟩ := hP
  have hx := Bd.exec
  have hby := Bd.bytes
  have hml : c.maxLocals = 4 := hml0
  have hown : s.vm.findClass "com/example/nimble_container/nimblecontainer/creation/MethodNamingOfPinLaw" = some m.cls := findClass_of_methodNamed Bd.named
  have hnm := (name_of_methodNamed Bd.named Bd.method).1
  have X0 : Stand p l e ({ frames := 4, cells := 4, slots := 8, locals := 66 } : Room) (s.setVm s.vm) m #[(.int p1), (.int p2), (.int p3)] below meth c s₁ [] 0 0 := Stand.of_body Bd
  have e0 : s₁.heap = h0 := by rw [← hh, Bd.state]; rfl
  have N0 := Fr.nil n0
  have Z0 : n0 ≤ h0.size := O0.1 ▸ O0.2.1
  have K0 : Keep h0 h0 [] := Keep.refl _ _
  have hS0 : s.Since s.vm h0.size := (State.WarmedH.refl s).since _
  have hk0 : h0.size ≤ h0.size := Nat.le_refl _
  have HC0 : CHr Z [("java/lang/String", 7)] s.vm h0 s.vm h0 := CHr.refl hC0
  have pre0 : ∀ tgt_, Steps p.tables e below (s₁.setTop (mkF m 0 #[.val (.int p1), .val (.int p2), .val (.int p3), .unset] [])) tgt_ → Steps p.tables e below (s₁.setTop (entryFrame m #[(.int p1), (.int p2), (.int p3)] 4)) tgt_ := fun tgt_ k => castTop (ef_rmD0 m p1 p2 p3) k
  obtain ⟨fs, hr, hrun, hended, hEnd⟩ := X0.leaveW (s := s) hS0 (by rw [e0]; exact hk0) (v := some .null) (fun h => by rw [Bd.returns] at h; cases h)
  refine ⟨_, _, pre0 _ ?_, hrun, hended, _, _, rfl, ?_, ?_, hEnd.1, hEnd.2.1, hEnd.2.2.1, hEnd.2.2.2.mono (by decide) (by decide)⟩
  · show Steps p.tables e below (s₁.setTop (mkF m 0 #[.val (.int p1), .val (.int p2), .val (.int p3), .unset] [])) _
    refine XS.iloadN X0.here hx rfl (hb hby d_method_2_code_0) rfl ?_
    show Steps p.tables e below (s₁.setTop (mkF m 1 #[.val (.int p1), .val (.int p2), .val (.int p3), .unset] [(.int p1)])) _
    refine XS.iconst X0.here hx rfl (hb hby d_method_2_code_1) ?_
    show Steps p.tables e below (s₁.setTop (mkF m 2 #[.val (.int p1), .val (.int p2), .val (.int p3), .unset] [(.int (3 : Int32)), (.int p1)])) _
    refine XS.iand X0.here hx rfl (hb hby d_method_2_code_2) rfl ?_
    show Steps p.tables e below (s₁.setTop (mkF m 3 #[.val (.int p1), .val (.int p2), .val (.int p3), .unset] [(.int (p1 &&& (3 : Int32)))])) _
    refine XS.istoreN X0.here hx rfl (hb hby d_method_2_code_3) rfl (l' := #[.val (.int p1), .val (.int p2), .val (.int p3), .val (.int (p1 &&& (3 : Int32)))]) rfl ?_
    show Steps p.tables e below (s₁.setTop (mkF m 4 #[.val (.int p1), .val (.int p2), .val (.int p3), .val (.int (p1 &&& (3 : Int32)))] [])) _
    refine XS.iloadN X0.here hx rfl (hb hby d_method_2_code_4) rfl ?_
    show Steps p.tables e below (s₁.setTop (mkF m 5 #[.val (.int p1), .val (.int p2), .val (.int p3), .val (.int (p1 &&& (3 : Int32)))] [(.int (p1 &&& (3 : Int32)))])) _
    refine XS.ifNo X0.here hx rfl (hb hby d_method_2_code_5) rfl ((if0 _ _).trans (teq (hq : (p1 &&& (3 : Int32)) = (0 : Int32))).2) ?_
    show Steps p.tables e below (s₁.setTop (mkF m 8 #[.val (.int p1), .val (.int p2), .val (.int p3), .val (.int (p1 &&& (3 : Int32)))] [])) _
    refine XS.aconstNull X0.here hx rfl (hb hby d_method_2_code_8) ?_
    show Steps p.tables e below (s₁.setTop (mkF m 9 #[.val (.int p1), .val (.int p2), .val (.int p3), .val (.int (p1 &&& (3 : Int32)))] [.null])) _
    jvm_step X0.here [X0.here.top, hx, (hb hby d_method_2_code_9), X0.method', Bd.returns, Value.isRef, FieldType.isReference]
    first | (intro acts; rw [hr _ acts rfl rfl rfl]) | rw [hr _ _ rfl rfl rfl]
    exact Steps.refl _
  · show QD0 Z h0 n0 _ s₁.heap _
    rw [e0]
    exact ⟨rfl, N0, K0⟩
  · show CHr Z [("java/lang/String", 7)] s.vm s.heap s₁.vm s₁.heap
    rw [hh, e0]
    exact HC0.trans (CHv.at X0 hZ hEL HC0.1)
theorem ef_rmD1 (m : MethodId) (x0 : Int32) (x1 : Int32) (x2 : Int32) : entryFrame m #[(.int x0), (.int x1), (.int x2)] 4 = mkF m 0 #[.val (.int x0), .val (.int x1), .val (.int x2), .unset] [] := by first | (simp [entryFrame, mkF, argsToLocals, Value.category]; done) | rfl
set_option maxRecDepth 65536 in
set_option maxHeartbeats 40000000 in
theorem rmD1 (l : Launch) (Z : State) (a0 : Array Value) (hw : ∀ d ∈ tables_1, d.before a0 Z = true) (ws : List Jvm.Cond) (p1 p2 p3 GC : Int32) (h0 : Heap) (n0 : Nat) (O0 : Old Z n0 h0) (hEL : EW Z a0 [("java/lang/String", 7)]) (wS : ∀ a ∈ Bundle.stringAtoms, a.before a0 Z = true) (OC2 : Sta Z Z.heap "java/lang/String" "COMPACT_STRINGS" "Z" (.int GC)) (OCz : ¬ (GC = (0 : Int32))) (nq0 : ¬ ((p1 &&& (3 : Int32)) = (0 : Int32))) (hq : (p1 &&& (3 : Int32)) = (1 : Int32)) :
    MetFree l (⟨"com/example/nimble_container/nimblecontainer/creation/MethodNamingOfPinLaw", "draw", "(III)Ljava/lang/String;"⟩ : MethodName) (head1 (Jvm.Cond.code (⟨"com/example/nimble_container/nimblecontainer/creation/MethodNamingOfPinLaw", "draw", "(III)Ljava/lang/String;"⟩ : MethodName) method_2_code 4 (some (.object "java/lang/String")) :: ws) ({ frames := 4, cells := 4, slots := 8, locals := 66 } : Room)) (fun aa_ U => aa_ = #[(.int p1), (.int p2), (.int p3)] ∧ Z.Warmed39 U.vm ∧ U.heap = h0 ∧ CHv Z [("java/lang/String", 7)] U.vm h0) (fun _ _ _ _ _ => True) (fun _ U o U' => ∃ v L, o = .returned v ∧ QD1 Z h0 n0 v U'.heap L ∧ CHr Z [("java/lang/String", 7)] U.vm U.heap U'.vm U'.heap ∧ ReturnedEndW U o U' L ({ frames := 4, cells := 4, slots := 8, locals := 66 } : Room).cells ({ frames := 4, cells := 4, slots := 8, locals := 66 } : Room).slots) := by
  refine MetFree.of_bodySF (plainFor_of_name pn_com_example_nimble_container_nimblecontainer_creation_MethodNamingOfPinLaw) hisR ?_
  intro p e s m args below meth c s₁ Bd hml0 hP hK
  obtain ⟨rfl, hZ, hh, hC0⟩ := hP
  have hx := Bd.exec
  have hby := Bd.bytes
  have hml : c.maxLocals = 4 := hml0
  have hown : s.vm.findClass "com/example/nimble_container/nimblecontainer/creation/MethodNamingOfPinLaw" = some m.cls := findClass_of_methodNamed Bd.named
  have hnm := (name_of_methodNamed Bd.named Bd.method).1
  have X0 : Stand p l e ({ frames := 4, cells := 4, slots := 8, locals := 66 } : Room) (s.setVm s.vm) m #[(.int p1), (.int p2), (.int p3)] below meth c s₁ [] 0 0 := Stand.of_body Bd
  have e0 : s₁.heap = h0 := by rw [← hh, Bd.state]; rfl
  have N0 := Fr.nil n0
  have Z0 : n0 ≤ h0.size := O0.1 ▸ O0.2.1
  have K0 : Keep h0 h0 [] := Keep.refl _ _
  have hS0 : s.Since s.vm h0.size := (State.WarmedH.refl s).since _
  have hk0 : h0.size ≤ h0.size := Nat.le_refl _
  have HC0 : CHr Z [("java/lang/String", 7)] s.vm h0 s.vm h0 := CHr.refl hC0
  have pre0 : ∀ tgt_, Steps p.tables e below (s₁.setTop (mkF m 0 #[.val (.int p1), .val (.int p2), .val (.int p3), .unset] [])) tgt_ → Steps p.tables e below (s₁.setTop (entryFrame m #[(.int p1), (.int p2), (.int p3)] 4)) tgt_ := fun tgt_ k => castTop (ef_rmD1 m p1 p2 p3) k
  obtain ⟨T64, h64, X64, e64, E64, A64, D64, -, st64⟩ := newO X0 hx hZ hown (hw _ (List.mem_of_getElem? (i := 4) rfl)) (hw _ (List.mem_of_getElem? (i := 5) rfl)) (hw _ (List.mem_of_getElem? (i := 6) rfl)) e0 (g := (mkF m 15 #[.val (.int p1), .val (.int p2), .val (.int p3), .val (.int (p1 &&& (3 : Int32)))] [])) rfl (hb hby d_method_2_code_15) (by decide) (by decide)
  obtain ⟨b64, g64⟩ : ∃ z, z = h0.size := ⟨_, rfl⟩
  rw [← g64] at A64 D64 st64
  have geb64 : h0.size ≤ b64 := Nat.le_of_eq g64.symm
  have g_b64 : n0 ≤ b64 := Nat.le_trans Z0 geb64
  have sz_b64 : h0.size ≤ b64 := Nat.le_trans K0.1 geb64
  have sf_b64 : Safe Z [("java/lang/String", 7)] s.vm h0 b64 := Safe.new geb64
  have O65 : Old Z n0 h64 := O0.ext E64
  have Z65 : n0 ≤ h64.size := Nat.le_trans Z0 E64.1
  have K65 : Keep h0 h64 [] := K0.ext E64
  have HC65 : CHr Z [("java/lang/String", 7)] s.vm h0 s.vm h64 := HC0.trans (CHr.ext E64 HC0.1)
  have sf65_b64 : Safe Z [("java/lang/String", 7)] s.vm h64 b64 := sf_b64.ext E64 HC0.1
  have hk65 : h0.size ≤ h64.size := Nat.le_trans hk0 E64.1
  have f66 : Fld Z h64 b64 "java/lang/String" "coder" "B" (.int (0 : Int32)) := D64 (Or.inr (hw _ (List.mem_of_getElem? (i := 31) rfl))) (ty := .byte) (by decide)
  have f67 : Fld Z h64 b64 "java/lang/String" "value" "[B" .null := D64 (Or.inr (hw _ (List.mem_of_getElem? (i := 33) rfl))) (ty := (.array .byte)) (by decide)
  obtain ⟨T68, h68, k68, X68, e68, E68, A68, st68⟩ := newP X64 hx hZ (hw _ (List.mem_of_getElem? (i := 7) rfl)) e64 (g := (mkF m 20 #[.val (.int p1), .val (.int p2), .val (.int p3), .val (.int (p1 &&& (3 : Int32)))] [(.int (0 : Int32)), (.ref b64), (.ref b64)])) rfl (hb hby d_method_2_code_20) rfl (by decide : ¬ ((0 : Int32) < (0 : Int32))) (cap := 0) (by decide : (0 : Int32).toNatClampNeg ≤ 0) (by decide) (by decide) (by decide)
  obtain ⟨b68, g68⟩ : ∃ z, z = h64.size := ⟨_, rfl⟩
  rw [← g68] at A68 st68
  have geb68 : h64.size ≤ b68 := Nat.le_of_eq g68.symm
  have g_b68 : n0 ≤ b68 := Nat.le_trans Z65 geb68
  have sz_b68 : h0.size ≤ b68 := Nat.le_trans K65.1 geb68
  have sf_b68 : Safe Z [("java/lang/String", 7)] s.vm h64 b68 := Safe.new geb68
  have O69 : Old Z n0 h68 := O65.ext E68
  have Z69 : n0 ≤ h68.size := Nat.le_trans Z65 E68.1
  have K69 : Keep h0 h68 [] := K65.ext E68
  have HC69 : CHr Z [("java/lang/String", 7)] s.vm h0 s.vm h68 := HC65.trans (CHr.ext E68 HC65.1)
  have sf69_b64 : Safe Z [("java/lang/String", 7)] s.vm h68 b64 := sf65_b64.ext E68 HC65.1
  have sf69_b68 : Safe Z [("java/lang/String", 7)] s.vm h68 b68 := sf_b68.ext E68 HC65.1
  have hk69 : h0.size ≤ h68.size := Nat.le_trans hk65 E68.1
  have f70 : Exa Z h68 b64 "java/lang/String" := A64.ext E68
  have f71 : Fld Z h68 b64 "java/lang/String" "coder" "B" (.int (0 : Int32)) := f66.ext E68
  have f72 : Fld Z h68 b64 "java/lang/String" "value" "[B" .null := f67.ext E68
  have f73 : Arv Z h68 b68 k68 .char (0 : Int32) [] (.int (0 : Int32)) := Arv.new A68 (by decide : ¬ ((0 : Int32) < (0 : Int32)))
  obtain ⟨_, _, ⟨T74, L74, k74, n74⟩, -, X74, hS74, hg74, ⟨Lc74, hQ74, l74, y74, z74, HR74⟩, st74⟩ := X68.specialBackS hx (y := (⟨"java/lang/String", "<init>", "([C)V"⟩ : MethodName)) rfl hown (mvT hZ (hw _ (List.mem_of_getElem? (i := 8) rfl))) (mvT hZ (hw _ (List.mem_of_getElem? (i := 9) rfl))) (mvT hZ (hw _ (List.mem_of_getElem? (i := 10) rfl))) (by decide) (backOfSH (s := s) (W := 1) (rmE1 l Z a0 hw [] b64 b68 k68 h68 n0 O69 hEL wS g_b64 f70 f72 f71 f73) hZ (hw _ (List.mem_of_getElem? (i := 10) rfl)) (hw _ (List.mem_of_getElem? (i := 6) rfl)) (by decide) (by decide) hEL HC69.1) (g := (mkF m 22 #[.val (.int p1), .val (.int p2), .val (.int p3), .val (.int (p1 &&& (3 : Int32)))] [(.ref b68), (.ref b64), (.ref b64)])) rfl (by rw [hml]; rfl) (Steps.refl _) (a := b64) (argsL := [(.ref b68)]) (rest := [(.ref b64)]) (lenOf pd___C_V rfl) rfl (by show 2 * 0 + _ ≤ _; exact Nat.le_of_eq rfl) (hb hby d_method_2_code_22) (fun _ _ => ⟨rfl, e68, (by decide : 2 + 2 ≤ _), (by decide : 4 + 4 ≤ _)⟩)
  dsimp only [Pt.U, Pt.locs, Pt.cells, Pt.slots] at X74 l74 y74 z74 st74 hQ74 hS74 hg74 HR74
  subst l74 y74 z74
  obtain ⟨rfl, N74q, K74k, g174, g274, t74, kt74, g374, g474⟩ := hQ74
  have N74 := Fr.app N0 N74q
  obtain ⟨X74r, hS74r, hZ74, hown74⟩ := rebS hS0 (by rw [e68]; exact hk69) X74 hS74 hg74 hZ hown
  have O75 : Old Z n0 T74.heap := O69.keep K74k (allS g_b64 all0)
  have Z75 : n0 ≤ T74.heap.size := Nat.le_trans Z69 K74k.1
  have K75 : Keep h0 T74.heap [] := K69.trans K74k (allS (Or.inr sz_b64) all0)
  have HC75 : CHr Z [("java/lang/String", 7)] s.vm h0 T74.vm T74.heap := HC69.trans HR74
  have sf75_b64 : Safe Z [("java/lang/String", 7)] T74.vm T74.heap b64 := HR74.safe f70.lt sf69_b64
  have sf75_b68 : Safe Z [("java/lang/String", 7)] T74.vm T74.heap b68 := HR74.safe f73.lt sf69_b68
  have f76 : Exa Z T74.heap b64 "java/lang/String" := f70.keep K74k
  have f77 : Arv Z T74.heap b68 k68 .char (0 : Int32) [] (.int (0 : Int32)) := f73.keep K74k (ninS (Ne.symm (Nat.ne_of_lt (Nat.lt_of_lt_of_le A64.lt geb68))) nin0)
  obtain ⟨fs, hr, hrun, hended, hEnd⟩ := X74r.leaveW (s := s) hS74r (Nat.le_refl _) (v := some (.ref b64)) (fun h => by rw [Bd.returns] at h; cases h)
  refine ⟨_, _, pre0 _ ?_, hrun, hended, _, _, rfl, ?_, ?_, hEnd.1, hEnd.2.1, hEnd.2.2.1, hEnd.2.2.2.mono (by decide) (by decide)⟩
  · show Steps p.tables e below (s₁.setTop (mkF m 0 #[.val (.int p1), .val (.int p2), .val (.int p3), .unset] [])) _
    refine XS.iloadN X0.here hx rfl (hb hby d_method_2_code_0) rfl ?_
    show Steps p.tables e below (s₁.setTop (mkF m 1 #[.val (.int p1), .val (.int p2), .val (.int p3), .unset] [(.int p1)])) _
    refine XS.iconst X0.here hx rfl (hb hby d_method_2_code_1) ?_
    show Steps p.tables e below (s₁.setTop (mkF m 2 #[.val (.int p1), .val (.int p2), .val (.int p3), .unset] [(.int (3 : Int32)), (.int p1)])) _
    refine XS.iand X0.here hx rfl (hb hby d_method_2_code_2) rfl ?_
    show Steps p.tables e below (s₁.setTop (mkF m 3 #[.val (.int p1), .val (.int p2), .val (.int p3), .unset] [(.int (p1 &&& (3 : Int32)))])) _
    refine XS.istoreN X0.here hx rfl (hb hby d_method_2_code_3) rfl (l' := #[.val (.int p1), .val (.int p2), .val (.int p3), .val (.int (p1 &&& (3 : Int32)))]) rfl ?_
    show Steps p.tables e below (s₁.setTop (mkF m 4 #[.val (.int p1), .val (.int p2), .val (.int p3), .val (.int (p1 &&& (3 : Int32)))] [])) _
    refine XS.iloadN X0.here hx rfl (hb hby d_method_2_code_4) rfl ?_
    show Steps p.tables e below (s₁.setTop (mkF m 5 #[.val (.int p1), .val (.int p2), .val (.int p3), .val (.int (p1 &&& (3 : Int32)))] [(.int (p1 &&& (3 : Int32)))])) _
    refine XS.ifYes X0.here hx rfl (pc0 := 5) (pc' := 10) rfl (hb hby d_method_2_code_5) rfl ((if0 _ _).trans (feq (nq0 : ¬ ((p1 &&& (3 : Int32)) = (0 : Int32)))).2) (by decide) (by decide) ?_
    show Steps p.tables e below (s₁.setTop (mkF m 10 #[.val (.int p1), .val (.int p2), .val (.int p3), .val (.int (p1 &&& (3 : Int32)))] [])) _
    refine XS.iloadN X0.here hx rfl (hb hby d_method_2_code_10) rfl ?_
    show Steps p.tables e below (s₁.setTop (mkF m 11 #[.val (.int p1), .val (.int p2), .val (.int p3), .val (.int (p1 &&& (3 : Int32)))] [(.int (p1 &&& (3 : Int32)))])) _
    refine XS.iconst X0.here hx rfl (hb hby d_method_2_code_11) ?_
    show Steps p.tables e below (s₁.setTop (mkF m 12 #[.val (.int p1), .val (.int p2), .val (.int p3), .val (.int (p1 &&& (3 : Int32)))] [(.int (1 : Int32)), (.int (p1 &&& (3 : Int32)))])) _
    refine XS.icmpNo X0.here hx rfl (hb hby d_method_2_code_12) rfl (teq (hq : (p1 &&& (3 : Int32)) = (1 : Int32))).2 ?_
    show Steps p.tables e below (s₁.setTop (mkF m 15 #[.val (.int p1), .val (.int p2), .val (.int p3), .val (.int (p1 &&& (3 : Int32)))] [])) _
    refine st64 _ ?_
    show Steps p.tables e below (T64.setTop (mkF m 18 #[.val (.int p1), .val (.int p2), .val (.int p3), .val (.int (p1 &&& (3 : Int32)))] [(.ref b64)])) _
    refine XS.dup X64.here hx rfl (hb hby d_method_2_code_18) rfl rfl ?_
    show Steps p.tables e below (T64.setTop (mkF m 19 #[.val (.int p1), .val (.int p2), .val (.int p3), .val (.int (p1 &&& (3 : Int32)))] [(.ref b64), (.ref b64)])) _
    refine XS.iconst X64.here hx rfl (hb hby d_method_2_code_19) ?_
    show Steps p.tables e below (T64.setTop (mkF m 20 #[.val (.int p1), .val (.int p2), .val (.int p3), .val (.int (p1 &&& (3 : Int32)))] [(.int (0 : Int32)), (.ref b64), (.ref b64)])) _
    refine st68 _ ?_
    show Steps p.tables e below (T68.setTop (mkF m 22 #[.val (.int p1), .val (.int p2), .val (.int p3), .val (.int (p1 &&& (3 : Int32)))] [(.ref b68), (.ref b64), (.ref b64)])) _
    refine st74.trans ?_
    show Steps p.tables e below (T74.setTop (mkF m 25 #[.val (.int p1), .val (.int p2), .val (.int p3), .val (.int (p1 &&& (3 : Int32)))] [(.ref b64)])) _
    jvm_step X74r.here [X74r.here.top, hx, (hb hby d_method_2_code_25), X74r.method', Bd.returns, Value.isRef, FieldType.isReference]
    first | (intro acts; rw [hr _ acts rfl rfl rfl]) | rw [hr _ _ rfl rfl rfl]
    exact Steps.refl _
  · show QD1 Z h0 n0 _ T74.heap _
    exact ⟨b64, rfl, N74, K75, sz_b64, g174⟩
  · show CHr Z [("java/lang/String", 7)] s.vm s.heap T74.vm T74.heap
    rw [hh]
    exact HC75.trans (CHv.at X74r hZ74 hEL HC75.1)
theorem ef_rmD2 (m : MethodId) (x0 : Int32) (x1 : Int32) (x2 : Int32) : entryFrame m #[(.int x0), (.int x1), (.int x2)] 4 = mkF m 0 #[.val (.int x0), .val (.int x1), .val (.int x2), .unset] [] := by first | (simp [entryFrame, mkF, argsToLocals, Value.category]; done) | rfl
set_option maxRecDepth 65536 in
set_option maxHeartbeats 40000000 in
theorem rmD2 (l : Launch) (Z : State) (a0 : Array Value) (hw : ∀ d ∈ tables_1, d.before a0 Z = true) (ws : List Jvm.Cond) (p1 p2 p3 GC : Int32) (h0 : Heap) (n0 : Nat) (O0 : Old Z n0 h0) (hEL : EW Z a0 [("java/lang/String", 7)]) (wS : ∀ a ∈ Bundle.stringAtoms, a.before a0 Z = true) (OC2 : Sta Z Z.heap "java/lang/String" "COMPACT_STRINGS" "Z" (.int GC)) (OCz : ¬ (GC = (0 : Int32))) (nq0 : ¬ ((p1 &&& (3 : Int32)) = (0 : Int32))) (nq1 : ¬ ((p1 &&& (3 : Int32)) = (1 : Int32))) (hq : (p1 &&& (3 : Int32)) = (2 : Int32)) :
    MetFree l (⟨"com/example/nimble_container/nimblecontainer/creation/MethodNamingOfPinLaw", "draw", "(III)Ljava/lang/String;"⟩ : MethodName) (head1 (Jvm.Cond.code (⟨"com/example/nimble_container/nimblecontainer/creation/MethodNamingOfPinLaw", "draw", "(III)Ljava/lang/String;"⟩ : MethodName) method_2_code 4 (some (.object "java/lang/String")) :: ws) ({ frames := 4, cells := 4, slots := 8, locals := 66 } : Room)) (fun aa_ U => aa_ = #[(.int p1), (.int p2), (.int p3)] ∧ Z.Warmed39 U.vm ∧ U.heap = h0 ∧ CHv Z [("java/lang/String", 7)] U.vm h0) (fun _ _ _ _ _ => True) (fun _ U o U' => ∃ v L, o = .returned v ∧ QD1 Z h0 n0 v U'.heap L ∧ CHr Z [("java/lang/String", 7)] U.vm U.heap U'.vm U'.heap ∧ ReturnedEndW U o U' L ({ frames := 4, cells := 4, slots := 8, locals := 66 } : Room).cells ({ frames := 4, cells := 4, slots := 8, locals := 66 } : Room).slots) := by
  refine MetFree.of_bodySF (plainFor_of_name pn_com_example_nimble_container_nimblecontainer_creation_MethodNamingOfPinLaw) hisR ?_
  intro p e s m args below meth c s₁ Bd hml0 hP hK
  obtain ⟨rfl, hZ, hh, hC0⟩ := hP
  have hx := Bd.exec
  have hby := Bd.bytes
  have hml : c.maxLocals = 4 := hml0
  have hown : s.vm.findClass "com/example/nimble_container/nimblecontainer/creation/MethodNamingOfPinLaw" = some m.cls := findClass_of_methodNamed Bd.named
  have hnm := (name_of_methodNamed Bd.named Bd.method).1
  have X0 : Stand p l e ({ frames := 4, cells := 4, slots := 8, locals := 66 } : Room) (s.setVm s.vm) m #[(.int p1), (.int p2), (.int p3)] below meth c s₁ [] 0 0 := Stand.of_body Bd
  have e0 : s₁.heap = h0 := by rw [← hh, Bd.state]; rfl
  have N0 := Fr.nil n0
  have Z0 : n0 ≤ h0.size := O0.1 ▸ O0.2.1
  have K0 : Keep h0 h0 [] := Keep.refl _ _
  have hS0 : s.Since s.vm h0.size := (State.WarmedH.refl s).since _
  have hk0 : h0.size ≤ h0.size := Nat.le_refl _
  have HC0 : CHr Z [("java/lang/String", 7)] s.vm h0 s.vm h0 := CHr.refl hC0
  have pre0 : ∀ tgt_, Steps p.tables e below (s₁.setTop (mkF m 0 #[.val (.int p1), .val (.int p2), .val (.int p3), .unset] [])) tgt_ → Steps p.tables e below (s₁.setTop (entryFrame m #[(.int p1), (.int p2), (.int p3)] 4)) tgt_ := fun tgt_ k => castTop (ef_rmD2 m p1 p2 p3) k
  obtain ⟨_, _, ⟨T78, L78, k78, n78⟩, -, X78, ⟨Lc78, hQ78, l78, y78, z78⟩, st78⟩ := Jvm.LawKit.callS X0 hx (y := (⟨"java/lang/String", "valueOf", "(C)Ljava/lang/String;"⟩ : MethodName)) hown (mvT hZ (hw _ (List.mem_of_getElem? (i := 67) rfl))) (mvT hZ (hw _ (List.mem_of_getElem? (i := 68) rfl))) (mvT hZ (hw _ (List.mem_of_getElem? (i := 6) rfl))) (mvT hZ (hw _ (List.mem_of_getElem? (i := 69) rfl))) (by decide) (backOf (W := 0) (rmVC l Z a0 hw [] ((p2 &&& (255 : Int32)).toUInt32.toUInt16.toUInt32.toInt32) GC h0 n0 O0 OC2 OCz (own_c255 p2)) hZ (hw _ (List.mem_of_getElem? (i := 69) rfl)) (hw _ (List.mem_of_getElem? (i := 6) rfl)) (by decide) (by decide)) (g := (mkF m 37 #[.val (.int p1), .val (.int p2), .val (.int p3), .val (.int (p1 &&& (3 : Int32)))] [(.int ((p2 &&& (255 : Int32)).toUInt32.toUInt16.toUInt32.toInt32))])) rfl (by rw [hml]; rfl) (argsL := [(.int ((p2 &&& (255 : Int32)).toUInt32.toUInt16.toUInt32.toInt32))]) (rest := []) (lenOf pd__C_Ljava_lang_String_ rfl) rfl (by show 2 * 0 + _ ≤ _; exact Nat.le_of_eq rfl) (hb hby d_method_2_code_37) (fun _ _ => ⟨rfl, e0, (by decide : 0 + 2 ≤ _), (by decide : 0 + 5 ≤ _)⟩)
  dsimp only [Pt.U, Pt.locs, Pt.cells, Pt.slots] at X78 l78 y78 z78 st78 hQ78
  subst l78 y78 z78
  obtain ⟨b78, t78, kb78, rfl, N78q, K78k, hf78, hft78, hne78, g178, g278, g378, g478⟩ := hQ78
  have N78 := Fr.app N0 N78q
  have O79 : Old Z n0 T78.heap := O0.keep K78k all0
  have Z79 : n0 ≤ T78.heap.size := Nat.le_trans Z0 K78k.1
  have K79 : Keep h0 T78.heap [] := K0.trans K78k all0
  have HC79 : CHr Z [("java/lang/String", 7)] s.vm h0 s.vm T78.heap := HC0.trans (CHr.keep K78k sf0 HC0.1)
  have hk79 : h0.size ≤ T78.heap.size := Nat.le_trans hk0 K78k.1
  have g_b78 : n0 ≤ b78 := Nat.le_trans Z0 hf78
  have sz_b78 : h0.size ≤ b78 := Nat.le_trans K0.1 hf78
  obtain ⟨fs, hr, hrun, hended, hEnd⟩ := X78.leaveW (s := s) hS0 hk79 (v := some (.ref b78)) (fun h => by rw [Bd.returns] at h; cases h)
  refine ⟨_, _, pre0 _ ?_, hrun, hended, _, _, rfl, ?_, ?_, hEnd.1, hEnd.2.1, hEnd.2.2.1, hEnd.2.2.2.mono (by decide) (by decide)⟩
  · show Steps p.tables e below (s₁.setTop (mkF m 0 #[.val (.int p1), .val (.int p2), .val (.int p3), .unset] [])) _
    refine XS.iloadN X0.here hx rfl (hb hby d_method_2_code_0) rfl ?_
    show Steps p.tables e below (s₁.setTop (mkF m 1 #[.val (.int p1), .val (.int p2), .val (.int p3), .unset] [(.int p1)])) _
    refine XS.iconst X0.here hx rfl (hb hby d_method_2_code_1) ?_
    show Steps p.tables e below (s₁.setTop (mkF m 2 #[.val (.int p1), .val (.int p2), .val (.int p3), .unset] [(.int (3 : Int32)), (.int p1)])) _
    refine XS.iand X0.here hx rfl (hb hby d_method_2_code_2) rfl ?_
    show Steps p.tables e below (s₁.setTop (mkF m 3 #[.val (.int p1), .val (.int p2), .val (.int p3), .unset] [(.int (p1 &&& (3 : Int32)))])) _
    refine XS.istoreN X0.here hx rfl (hb hby d_method_2_code_3) rfl (l' := #[.val (.int p1), .val (.int p2), .val (.int p3), .val (.int (p1 &&& (3 : Int32)))]) rfl ?_
    show Steps p.tables e below (s₁.setTop (mkF m 4 #[.val (.int p1), .val (.int p2), .val (.int p3), .val (.int (p1 &&& (3 : Int32)))] [])) _
    refine XS.iloadN X0.here hx rfl (hb hby d_method_2_code_4) rfl ?_
    show Steps p.tables e below (s₁.setTop (mkF m 5 #[.val (.int p1), .val (.int p2), .val (.int p3), .val (.int (p1 &&& (3 : Int32)))] [(.int (p1 &&& (3 : Int32)))])) _
    refine XS.ifYes X0.here hx rfl (pc0 := 5) (pc' := 10) rfl (hb hby d_method_2_code_5) rfl ((if0 _ _).trans (feq (nq0 : ¬ ((p1 &&& (3 : Int32)) = (0 : Int32)))).2) (by decide) (by decide) ?_
    show Steps p.tables e below (s₁.setTop (mkF m 10 #[.val (.int p1), .val (.int p2), .val (.int p3), .val (.int (p1 &&& (3 : Int32)))] [])) _
    refine XS.iloadN X0.here hx rfl (hb hby d_method_2_code_10) rfl ?_
    show Steps p.tables e below (s₁.setTop (mkF m 11 #[.val (.int p1), .val (.int p2), .val (.int p3), .val (.int (p1 &&& (3 : Int32)))] [(.int (p1 &&& (3 : Int32)))])) _
    refine XS.iconst X0.here hx rfl (hb hby d_method_2_code_11) ?_
    show Steps p.tables e below (s₁.setTop (mkF m 12 #[.val (.int p1), .val (.int p2), .val (.int p3), .val (.int (p1 &&& (3 : Int32)))] [(.int (1 : Int32)), (.int (p1 &&& (3 : Int32)))])) _
    refine XS.icmpYes X0.here hx rfl (pc0 := 12) (pc' := 26) rfl (hb hby d_method_2_code_12) rfl (feq (nq1 : ¬ ((p1 &&& (3 : Int32)) = (1 : Int32)))).2 (by decide) (by decide) ?_
    show Steps p.tables e below (s₁.setTop (mkF m 26 #[.val (.int p1), .val (.int p2), .val (.int p3), .val (.int (p1 &&& (3 : Int32)))] [])) _
    refine XS.iloadN X0.here hx rfl (hb hby d_method_2_code_26) rfl ?_
    show Steps p.tables e below (s₁.setTop (mkF m 27 #[.val (.int p1), .val (.int p2), .val (.int p3), .val (.int (p1 &&& (3 : Int32)))] [(.int (p1 &&& (3 : Int32)))])) _
    refine XS.iconst X0.here hx rfl (hb hby d_method_2_code_27) ?_
    show Steps p.tables e below (s₁.setTop (mkF m 28 #[.val (.int p1), .val (.int p2), .val (.int p3), .val (.int (p1 &&& (3 : Int32)))] [(.int (2 : Int32)), (.int (p1 &&& (3 : Int32)))])) _
    refine XS.icmpNo X0.here hx rfl (hb hby d_method_2_code_28) rfl (teq (hq : (p1 &&& (3 : Int32)) = (2 : Int32))).2 ?_
    show Steps p.tables e below (s₁.setTop (mkF m 31 #[.val (.int p1), .val (.int p2), .val (.int p3), .val (.int (p1 &&& (3 : Int32)))] [])) _
    refine XS.iloadN X0.here hx rfl (hb hby d_method_2_code_31) rfl ?_
    show Steps p.tables e below (s₁.setTop (mkF m 32 #[.val (.int p1), .val (.int p2), .val (.int p3), .val (.int (p1 &&& (3 : Int32)))] [(.int p2)])) _
    refine XS.sipush X0.here hx rfl (hb hby d_method_2_code_32) ?_
    show Steps p.tables e below (s₁.setTop (mkF m 35 #[.val (.int p1), .val (.int p2), .val (.int p3), .val (.int (p1 &&& (3 : Int32)))] [(.int (255 : Int32)), (.int p2)])) _
    refine XS.iand X0.here hx rfl (hb hby d_method_2_code_35) rfl ?_
    show Steps p.tables e below (s₁.setTop (mkF m 36 #[.val (.int p1), .val (.int p2), .val (.int p3), .val (.int (p1 &&& (3 : Int32)))] [(.int (p2 &&& (255 : Int32)))])) _
    refine XS.i2c X0.here hx rfl (hb hby d_method_2_code_36) rfl ?_
    show Steps p.tables e below (s₁.setTop (mkF m 37 #[.val (.int p1), .val (.int p2), .val (.int p3), .val (.int (p1 &&& (3 : Int32)))] [(.int ((p2 &&& (255 : Int32)).toUInt32.toUInt16.toUInt32.toInt32))])) _
    refine st78 _ ?_
    show Steps p.tables e below (T78.setTop (mkF m 40 #[.val (.int p1), .val (.int p2), .val (.int p3), .val (.int (p1 &&& (3 : Int32)))] [(.ref b78)])) _
    jvm_step X78.here [X78.here.top, hx, (hb hby d_method_2_code_40), X78.method', Bd.returns, Value.isRef, FieldType.isReference]
    first | (intro acts; rw [hr _ acts rfl rfl rfl]) | rw [hr _ _ rfl rfl rfl]
    exact Steps.refl _
  · show QD1 Z h0 n0 _ T78.heap _
    exact ⟨b78, rfl, N78, K79, sz_b78, g178⟩
  · show CHr Z [("java/lang/String", 7)] s.vm s.heap T78.vm T78.heap
    rw [hh]
    exact HC79.trans (CHv.at X78 hZ hEL HC79.1)
theorem ef_rmD3 (m : MethodId) (x0 : Int32) (x1 : Int32) (x2 : Int32) : entryFrame m #[(.int x0), (.int x1), (.int x2)] 4 = mkF m 0 #[.val (.int x0), .val (.int x1), .val (.int x2), .unset] [] := by first | (simp [entryFrame, mkF, argsToLocals, Value.category]; done) | rfl
set_option maxRecDepth 65536 in
set_option maxHeartbeats 40000000 in
theorem rmD3 (l : Launch) (Z : State) (a0 : Array Value) (hw : ∀ d ∈ tables_1, d.before a0 Z = true) (ws : List Jvm.Cond) (p1 p2 p3 GC : Int32) (h0 : Heap) (n0 : Nat) (O0 : Old Z n0 h0) (hEL : EW Z a0 [("java/lang/String", 7)]) (wS : ∀ a ∈ Bundle.stringAtoms, a.before a0 Z = true) (OC2 : Sta Z Z.heap "java/lang/String" "COMPACT_STRINGS" "Z" (.int GC)) (OCz : ¬ (GC = (0 : Int32))) (nq0 : ¬ ((p1 &&& (3 : Int32)) = (0 : Int32))) (nq1 : ¬ ((p1 &&& (3 : Int32)) = (1 : Int32))) (nq2 : ¬ ((p1 &&& (3 : Int32)) = (2 : Int32))) :
    MetFree l (⟨"com/example/nimble_container/nimblecontainer/creation/MethodNamingOfPinLaw", "draw", "(III)Ljava/lang/String;"⟩ : MethodName) (head1 (Jvm.Cond.code (⟨"com/example/nimble_container/nimblecontainer/creation/MethodNamingOfPinLaw", "draw", "(III)Ljava/lang/String;"⟩ : MethodName) method_2_code 4 (some (.object "java/lang/String")) :: ws) ({ frames := 4, cells := 4, slots := 8, locals := 66 } : Room)) (fun aa_ U => aa_ = #[(.int p1), (.int p2), (.int p3)] ∧ Z.Warmed39 U.vm ∧ U.heap = h0 ∧ CHv Z [("java/lang/String", 7)] U.vm h0) (fun _ _ _ _ _ => True) (fun _ U o U' => ∃ v L, o = .returned v ∧ QD1 Z h0 n0 v U'.heap L ∧ CHr Z [("java/lang/String", 7)] U.vm U.heap U'.vm U'.heap ∧ ReturnedEndW U o U' L ({ frames := 4, cells := 4, slots := 8, locals := 66 } : Room).cells ({ frames := 4, cells := 4, slots := 8, locals := 66 } : Room).slots) := by
  refine MetFree.of_bodySF (plainFor_of_name pn_com_example_nimble_container_nimblecontainer_creation_MethodNamingOfPinLaw) hisR ?_
  intro p e s m args below meth c s₁ Bd hml0 hP hK
  obtain ⟨rfl, hZ, hh, hC0⟩ := hP
  have hx := Bd.exec
  have hby := Bd.bytes
  have hml : c.maxLocals = 4 := hml0
  have hown : s.vm.findClass "com/example/nimble_container/nimblecontainer/creation/MethodNamingOfPinLaw" = some m.cls := findClass_of_methodNamed Bd.named
  have hnm := (name_of_methodNamed Bd.named Bd.method).1
  have X0 : Stand p l e ({ frames := 4, cells := 4, slots := 8, locals := 66 } : Room) (s.setVm s.vm) m #[(.int p1), (.int p2), (.int p3)] below meth c s₁ [] 0 0 := Stand.of_body Bd
  have e0 : s₁.heap = h0 := by rw [← hh, Bd.state]; rfl
  have N0 := Fr.nil n0
  have Z0 : n0 ≤ h0.size := O0.1 ▸ O0.2.1
  have K0 : Keep h0 h0 [] := Keep.refl _ _
  have hS0 : s.Since s.vm h0.size := (State.WarmedH.refl s).since _
  have hk0 : h0.size ≤ h0.size := Nat.le_refl _
  have HC0 : CHr Z [("java/lang/String", 7)] s.vm h0 s.vm h0 := CHr.refl hC0
  have pre0 : ∀ tgt_, Steps p.tables e below (s₁.setTop (mkF m 0 #[.val (.int p1), .val (.int p2), .val (.int p3), .unset] [])) tgt_ → Steps p.tables e below (s₁.setTop (entryFrame m #[(.int p1), (.int p2), (.int p3)] 4)) tgt_ := fun tgt_ k => castTop (ef_rmD3 m p1 p2 p3) k
  obtain ⟨T80, h80, X80, e80, E80, A80, D80, -, st80⟩ := newO X0 hx hZ hown (hw _ (List.mem_of_getElem? (i := 4) rfl)) (hw _ (List.mem_of_getElem? (i := 5) rfl)) (hw _ (List.mem_of_getElem? (i := 6) rfl)) e0 (g := (mkF m 41 #[.val (.int p1), .val (.int p2), .val (.int p3), .val (.int (p1 &&& (3 : Int32)))] [])) rfl (hb hby d_method_2_code_41) (by decide) (by decide)
  obtain ⟨b80, g80⟩ : ∃ z, z = h0.size := ⟨_, rfl⟩
  rw [← g80] at A80 D80 st80
  have geb80 : h0.size ≤ b80 := Nat.le_of_eq g80.symm
  have g_b80 : n0 ≤ b80 := Nat.le_trans Z0 geb80
  have sz_b80 : h0.size ≤ b80 := Nat.le_trans K0.1 geb80
  have sf_b80 : Safe Z [("java/lang/String", 7)] s.vm h0 b80 := Safe.new geb80
  have O81 : Old Z n0 h80 := O0.ext E80
  have Z81 : n0 ≤ h80.size := Nat.le_trans Z0 E80.1
  have K81 : Keep h0 h80 [] := K0.ext E80
  have HC81 : CHr Z [("java/lang/String", 7)] s.vm h0 s.vm h80 := HC0.trans (CHr.ext E80 HC0.1)
  have sf81_b80 : Safe Z [("java/lang/String", 7)] s.vm h80 b80 := sf_b80.ext E80 HC0.1
  have hk81 : h0.size ≤ h80.size := Nat.le_trans hk0 E80.1
  have f82 : Fld Z h80 b80 "java/lang/String" "coder" "B" (.int (0 : Int32)) := D80 (Or.inr (hw _ (List.mem_of_getElem? (i := 31) rfl))) (ty := .byte) (by decide)
  have f83 : Fld Z h80 b80 "java/lang/String" "value" "[B" .null := D80 (Or.inr (hw _ (List.mem_of_getElem? (i := 33) rfl))) (ty := (.array .byte)) (by decide)
  obtain ⟨T84, h84, k84, X84, e84, E84, A84, st84⟩ := newP X80 hx hZ (hw _ (List.mem_of_getElem? (i := 7) rfl)) e80 (g := (mkF m 46 #[.val (.int p1), .val (.int p2), .val (.int p3), .val (.int (p1 &&& (3 : Int32)))] [(.int (2 : Int32)), (.ref b80), (.ref b80)])) rfl (hb hby d_method_2_code_46) rfl (by decide : ¬ ((2 : Int32) < (0 : Int32))) (cap := 2) (by decide : (2 : Int32).toNatClampNeg ≤ 2) (by decide) (by decide) (by decide)
  obtain ⟨b84, g84⟩ : ∃ z, z = h80.size := ⟨_, rfl⟩
  rw [← g84] at A84 st84
  have geb84 : h80.size ≤ b84 := Nat.le_of_eq g84.symm
  have g_b84 : n0 ≤ b84 := Nat.le_trans Z81 geb84
  have sz_b84 : h0.size ≤ b84 := Nat.le_trans K81.1 geb84
  have sf_b84 : Safe Z [("java/lang/String", 7)] s.vm h80 b84 := Safe.new geb84
  have O85 : Old Z n0 h84 := O81.ext E84
  have Z85 : n0 ≤ h84.size := Nat.le_trans Z81 E84.1
  have K85 : Keep h0 h84 [] := K81.ext E84
  have HC85 : CHr Z [("java/lang/String", 7)] s.vm h0 s.vm h84 := HC81.trans (CHr.ext E84 HC81.1)
  have sf85_b80 : Safe Z [("java/lang/String", 7)] s.vm h84 b80 := sf81_b80.ext E84 HC81.1
  have sf85_b84 : Safe Z [("java/lang/String", 7)] s.vm h84 b84 := sf_b84.ext E84 HC81.1
  have hk85 : h0.size ≤ h84.size := Nat.le_trans hk81 E84.1
  have f86 : Exa Z h84 b80 "java/lang/String" := A80.ext E84
  have f87 : Fld Z h84 b80 "java/lang/String" "coder" "B" (.int (0 : Int32)) := f82.ext E84
  have f88 : Fld Z h84 b80 "java/lang/String" "value" "[B" .null := f83.ext E84
  have f89 : Arv Z h84 b84 k84 .char (2 : Int32) [(.int (0 : Int32)), (.int (0 : Int32))] (.int (0 : Int32)) := (Arv.new A84 (by decide : ¬ ((2 : Int32) < (0 : Int32)))).pad (pad_rep [] (.int (0 : Int32)) 2)
  obtain ⟨c90, Ar90, q90, S90, M90, Hh90, U90⟩ := id f89
  obtain ⟨T90, h90, X90, e90, W90, st90⟩ := stC X84 hx hZ e84 Ar90 (j := (0 : Int32)) (inb_of S90 ⟨(by decide : ¬ ((0 : Int32) < (0 : Int32))), (by decide : (0 : Int32) < (2 : Int32))⟩) (g := (mkF m 56 #[.val (.int p1), .val (.int p2), .val (.int p3), .val (.int (p1 &&& (3 : Int32)))] [(.int ((p2 &&& (255 : Int32)).toUInt32.toUInt16.toUInt32.toInt32)), (.int (0 : Int32)), (.ref b84), (.ref b84), (.ref b80), (.ref b80)])) rfl rfl (hb hby d_method_2_code_56)
  have f91 : Arv Z h90 b84 k84 .char (2 : Int32) [(.int (nar .char ((p2 &&& (255 : Int32)).toUInt32.toUInt16.toUInt32.toInt32))), (.int (0 : Int32))] (.int (0 : Int32)) := Arv.set Ar90 q90 S90 M90 Hh90 U90 (fits_nar_char _) W90 0 rfl (Nat.le_of_ble_eq_true rfl)
  have N90 := Fr.snoc X90 N0 g_b84
  have O92 : Old Z n0 h90 := O85.wr W90 g_b84
  have Z92 : n0 ≤ h90.size := Nat.le_trans Z85 (Keep.of_wr W90).1
  have K92 : Keep h0 h90 [] := K85.wr W90 (Or.inr sz_b84)
  have HC92 : CHr Z [("java/lang/String", 7)] s.vm h0 s.vm h90 := HC85.trans (CHr.wr W90 sf85_b84 HC85.1)
  have sf92_b80 : Safe Z [("java/lang/String", 7)] s.vm h90 b80 := Safe.wr W90 sf85_b84 HC85.1 sf85_b80
  have sf92_b84 : Safe Z [("java/lang/String", 7)] s.vm h90 b84 := Safe.wr W90 sf85_b84 HC85.1 sf85_b84
  have hk92 : h0.size ≤ h90.size := Nat.le_trans hk85 (Keep.of_wr W90).1
  have f93 : Exa Z h90 b80 "java/lang/String" := f86.wr W90
  have f94 : Fld Z h90 b80 "java/lang/String" "coder" "B" (.int (0 : Int32)) := f87.other W90 (Or.inl (Nat.ne_of_lt (Nat.lt_of_lt_of_le A80.lt geb84)))
  have f95 : Fld Z h90 b80 "java/lang/String" "value" "[B" .null := f88.other W90 (Or.inl (Nat.ne_of_lt (Nat.lt_of_lt_of_le A80.lt geb84)))
  obtain ⟨c96, Ar96, q96, S96, M96, Hh96, U96⟩ := id f91
  obtain ⟨T96, h96, X96, e96, W96, st96⟩ := stC X90 hx hZ e90 Ar96 (j := (1 : Int32)) (inb_of S96 ⟨(by decide : ¬ ((1 : Int32) < (0 : Int32))), (by decide : (1 : Int32) < (2 : Int32))⟩) (g := (mkF m 65 #[.val (.int p1), .val (.int p2), .val (.int p3), .val (.int (p1 &&& (3 : Int32)))] [(.int ((p3 &&& (255 : Int32)).toUInt32.toUInt16.toUInt32.toInt32)), (.int (1 : Int32)), (.ref b84), (.ref b84), (.ref b80), (.ref b80)])) rfl rfl (hb hby d_method_2_code_65)
  have f97 : Arv Z h96 b84 k84 .char (2 : Int32) [(.int (nar .char ((p2 &&& (255 : Int32)).toUInt32.toUInt16.toUInt32.toInt32))), (.int (nar .char ((p3 &&& (255 : Int32)).toUInt32.toUInt16.toUInt32.toInt32)))] (.int (0 : Int32)) := Arv.set Ar96 q96 S96 M96 Hh96 U96 (fits_nar_char _) W96 1 rfl (Nat.le_of_ble_eq_true rfl)
  have N96 := Fr.snoc X96 N90 g_b84
  have O98 : Old Z n0 h96 := O92.wr W96 g_b84
  have Z98 : n0 ≤ h96.size := Nat.le_trans Z92 (Keep.of_wr W96).1
  have K98 : Keep h0 h96 [] := K92.wr W96 (Or.inr sz_b84)
  have HC98 : CHr Z [("java/lang/String", 7)] s.vm h0 s.vm h96 := HC92.trans (CHr.wr W96 sf92_b84 HC92.1)
  have sf98_b80 : Safe Z [("java/lang/String", 7)] s.vm h96 b80 := Safe.wr W96 sf92_b84 HC92.1 sf92_b80
  have sf98_b84 : Safe Z [("java/lang/String", 7)] s.vm h96 b84 := Safe.wr W96 sf92_b84 HC92.1 sf92_b84
  have hk98 : h0.size ≤ h96.size := Nat.le_trans hk92 (Keep.of_wr W96).1
  have f99 : Exa Z h96 b80 "java/lang/String" := f93.wr W96
  have f100 : Fld Z h96 b80 "java/lang/String" "coder" "B" (.int (0 : Int32)) := f94.other W96 (Or.inl (Nat.ne_of_lt (Nat.lt_of_lt_of_le A80.lt geb84)))
  have f101 : Fld Z h96 b80 "java/lang/String" "value" "[B" .null := f95.other W96 (Or.inl (Nat.ne_of_lt (Nat.lt_of_lt_of_le A80.lt geb84)))
  have hws : ∀ d ∈ StrChars.Road.words, d.before a0 Z = true := fun d hd => hw d ((by decide +kernel : ∀ d ∈ StrChars.Road.words, d ∈ tables_1) d hd)
  have hp102 : ∀ c ∈ ([(nar .char ((p2 &&& (255 : Int32)).toUInt32.toUInt16.toUInt32.toInt32)), (nar .char ((p3 &&& (255 : Int32)).toUInt32.toUInt16.toUInt32.toInt32))] : List Int32), ¬ c < 0 ∧ ¬ (255 : Int32) < c := by
    intro c hc
    simp only [List.mem_cons, List.not_mem_nil, or_false] at hc
    rcases hc with rfl | rfl
    · exact and255_chars p2
    · exact and255_chars p3
  obtain ⟨_, _, ⟨T103, L103, k103, n103⟩, -, X103, ⟨Lc103, hQ103, l103, y103, z103⟩, st103⟩ := X96.specialBack hx (y := (⟨"java/lang/String", "<init>", "([C)V"⟩ : MethodName)) rfl hown (mvT hZ (hw _ (List.mem_of_getElem? (i := 8) rfl))) (mvT hZ (hw _ (List.mem_of_getElem? (i := 9) rfl))) (mvT hZ (hw _ (List.mem_of_getElem? (i := 10) rfl))) (by decide) (StrChars.Road.backV (W := 1) hZ hws (kI := 4) (hw _ (List.mem_of_getElem? (i := 5) rfl)) (cs := ([(nar .char ((p2 &&& (255 : Int32)).toUInt32.toUInt16.toUInt32.toInt32)), (nar .char ((p3 &&& (255 : Int32)).toUInt32.toUInt16.toUInt32.toInt32))] : List Int32)) (bs := (([(nar .char ((p2 &&& (255 : Int32)).toUInt32.toUInt16.toUInt32.toInt32)), (nar .char ((p3 &&& (255 : Int32)).toUInt32.toUInt16.toUInt32.toInt32))] : List Int32)).map (fun c => c.toInt8.toInt32)) (n := 2) g_b80 Z98 f99 f101 f100 f97 (OC2.ext O98.2) OCz rfl rfl (by decide) (by decide) hp102 rfl (by decide) (by decide)) (g := (mkF m 66 #[.val (.int p1), .val (.int p2), .val (.int p3), .val (.int (p1 &&& (3 : Int32)))] [(.ref b84), (.ref b80), (.ref b80)])) rfl (by rw [hml]; rfl) (Steps.refl _) (a := b80) (argsL := [(.ref b84)]) (rest := [(.ref b80)]) (lenOf pd___C_V rfl) rfl (by show 2 * 0 + _ ≤ _; exact Nat.le_of_eq rfl) (hb hby d_method_2_code_66) (fun _ _ => ⟨rfl, e96, (by decide : 2 + 1 ≤ _), (by decide : 6 + 2 ≤ _)⟩)
  dsimp only [Pt.U, Pt.locs, Pt.cells, Pt.slots] at X103 l103 y103 z103 st103 hQ103
  subst l103 y103 z103
  obtain ⟨rfl, N103q, K103k, g1103, g2103, t103, kb103, u1103, u2103, u3103, g3103, g4103⟩ := hQ103
  have N103 := Fr.app N96 N103q
  have O104 : Old Z n0 T103.heap := O98.keep K103k (allS g_b80 all0)
  have Z104 : n0 ≤ T103.heap.size := Nat.le_trans Z98 K103k.1
  have K104 : Keep h0 T103.heap [] := K98.trans K103k (allS (Or.inr sz_b80) all0)
  have HC104 : CHr Z [("java/lang/String", 7)] s.vm h0 s.vm T103.heap := HC98.trans (CHr.keep K103k (sfS sf98_b80 sf0) HC98.1)
  have sf104_b80 : Safe Z [("java/lang/String", 7)] s.vm T103.heap b80 := Safe.keep K103k (sfS sf98_b80 sf0) HC98.1 sf98_b80
  have sf104_b84 : Safe Z [("java/lang/String", 7)] s.vm T103.heap b84 := Safe.keep K103k (sfS sf98_b80 sf0) HC98.1 sf98_b84
  have hk104 : h0.size ≤ T103.heap.size := Nat.le_trans hk98 K103k.1
  have f105 : Exa Z T103.heap b80 "java/lang/String" := f99.keep K103k
  have f106 : Arv Z T103.heap b84 k84 .char (2 : Int32) [(.int (nar .char ((p2 &&& (255 : Int32)).toUInt32.toUInt16.toUInt32.toInt32))), (.int (nar .char ((p3 &&& (255 : Int32)).toUInt32.toUInt16.toUInt32.toInt32)))] (.int (0 : Int32)) := f97.keep K103k (ninS (Ne.symm (Nat.ne_of_lt (Nat.lt_of_lt_of_le A80.lt geb84))) nin0)
  have sz_t103 : h0.size ≤ t103 := Nat.le_trans K98.1 u2103
  obtain ⟨fs, hr, hrun, hended, hEnd⟩ := X103.leaveW (s := s) hS0 hk104 (v := some (.ref b80)) (fun h => by rw [Bd.returns] at h; cases h)
  refine ⟨_, _, pre0 _ ?_, hrun, hended, _, _, rfl, ?_, ?_, hEnd.1, hEnd.2.1, hEnd.2.2.1, hEnd.2.2.2.mono (by decide) (by decide)⟩
  · show Steps p.tables e below (s₁.setTop (mkF m 0 #[.val (.int p1), .val (.int p2), .val (.int p3), .unset] [])) _
    refine XS.iloadN X0.here hx rfl (hb hby d_method_2_code_0) rfl ?_
    show Steps p.tables e below (s₁.setTop (mkF m 1 #[.val (.int p1), .val (.int p2), .val (.int p3), .unset] [(.int p1)])) _
    refine XS.iconst X0.here hx rfl (hb hby d_method_2_code_1) ?_
    show Steps p.tables e below (s₁.setTop (mkF m 2 #[.val (.int p1), .val (.int p2), .val (.int p3), .unset] [(.int (3 : Int32)), (.int p1)])) _
    refine XS.iand X0.here hx rfl (hb hby d_method_2_code_2) rfl ?_
    show Steps p.tables e below (s₁.setTop (mkF m 3 #[.val (.int p1), .val (.int p2), .val (.int p3), .unset] [(.int (p1 &&& (3 : Int32)))])) _
    refine XS.istoreN X0.here hx rfl (hb hby d_method_2_code_3) rfl (l' := #[.val (.int p1), .val (.int p2), .val (.int p3), .val (.int (p1 &&& (3 : Int32)))]) rfl ?_
    show Steps p.tables e below (s₁.setTop (mkF m 4 #[.val (.int p1), .val (.int p2), .val (.int p3), .val (.int (p1 &&& (3 : Int32)))] [])) _
    refine XS.iloadN X0.here hx rfl (hb hby d_method_2_code_4) rfl ?_
    show Steps p.tables e below (s₁.setTop (mkF m 5 #[.val (.int p1), .val (.int p2), .val (.int p3), .val (.int (p1 &&& (3 : Int32)))] [(.int (p1 &&& (3 : Int32)))])) _
    refine XS.ifYes X0.here hx rfl (pc0 := 5) (pc' := 10) rfl (hb hby d_method_2_code_5) rfl ((if0 _ _).trans (feq (nq0 : ¬ ((p1 &&& (3 : Int32)) = (0 : Int32)))).2) (by decide) (by decide) ?_
    show Steps p.tables e below (s₁.setTop (mkF m 10 #[.val (.int p1), .val (.int p2), .val (.int p3), .val (.int (p1 &&& (3 : Int32)))] [])) _
    refine XS.iloadN X0.here hx rfl (hb hby d_method_2_code_10) rfl ?_
    show Steps p.tables e below (s₁.setTop (mkF m 11 #[.val (.int p1), .val (.int p2), .val (.int p3), .val (.int (p1 &&& (3 : Int32)))] [(.int (p1 &&& (3 : Int32)))])) _
    refine XS.iconst X0.here hx rfl (hb hby d_method_2_code_11) ?_
    show Steps p.tables e below (s₁.setTop (mkF m 12 #[.val (.int p1), .val (.int p2), .val (.int p3), .val (.int (p1 &&& (3 : Int32)))] [(.int (1 : Int32)), (.int (p1 &&& (3 : Int32)))])) _
    refine XS.icmpYes X0.here hx rfl (pc0 := 12) (pc' := 26) rfl (hb hby d_method_2_code_12) rfl (feq (nq1 : ¬ ((p1 &&& (3 : Int32)) = (1 : Int32)))).2 (by decide) (by decide) ?_
    show Steps p.tables e below (s₁.setTop (mkF m 26 #[.val (.int p1), .val (.int p2), .val (.int p3), .val (.int (p1 &&& (3 : Int32)))] [])) _
    refine XS.iloadN X0.here hx rfl (hb hby d_method_2_code_26) rfl ?_
    show Steps p.tables e below (s₁.setTop (mkF m 27 #[.val (.int p1), .val (.int p2), .val (.int p3), .val (.int (p1 &&& (3 : Int32)))] [(.int (p1 &&& (3 : Int32)))])) _
    refine XS.iconst X0.here hx rfl (hb hby d_method_2_code_27) ?_
    show Steps p.tables e below (s₁.setTop (mkF m 28 #[.val (.int p1), .val (.int p2), .val (.int p3), .val (.int (p1 &&& (3 : Int32)))] [(.int (2 : Int32)), (.int (p1 &&& (3 : Int32)))])) _
    refine XS.icmpYes X0.here hx rfl (pc0 := 28) (pc' := 41) rfl (hb hby d_method_2_code_28) rfl (feq (nq2 : ¬ ((p1 &&& (3 : Int32)) = (2 : Int32)))).2 (by decide) (by decide) ?_
    show Steps p.tables e below (s₁.setTop (mkF m 41 #[.val (.int p1), .val (.int p2), .val (.int p3), .val (.int (p1 &&& (3 : Int32)))] [])) _
    refine st80 _ ?_
    show Steps p.tables e below (T80.setTop (mkF m 44 #[.val (.int p1), .val (.int p2), .val (.int p3), .val (.int (p1 &&& (3 : Int32)))] [(.ref b80)])) _
    refine XS.dup X80.here hx rfl (hb hby d_method_2_code_44) rfl rfl ?_
    show Steps p.tables e below (T80.setTop (mkF m 45 #[.val (.int p1), .val (.int p2), .val (.int p3), .val (.int (p1 &&& (3 : Int32)))] [(.ref b80), (.ref b80)])) _
    refine XS.iconst X80.here hx rfl (hb hby d_method_2_code_45) ?_
    show Steps p.tables e below (T80.setTop (mkF m 46 #[.val (.int p1), .val (.int p2), .val (.int p3), .val (.int (p1 &&& (3 : Int32)))] [(.int (2 : Int32)), (.ref b80), (.ref b80)])) _
    refine st84 _ ?_
    show Steps p.tables e below (T84.setTop (mkF m 48 #[.val (.int p1), .val (.int p2), .val (.int p3), .val (.int (p1 &&& (3 : Int32)))] [(.ref b84), (.ref b80), (.ref b80)])) _
    refine XS.dup X84.here hx rfl (hb hby d_method_2_code_48) rfl rfl ?_
    show Steps p.tables e below (T84.setTop (mkF m 49 #[.val (.int p1), .val (.int p2), .val (.int p3), .val (.int (p1 &&& (3 : Int32)))] [(.ref b84), (.ref b84), (.ref b80), (.ref b80)])) _
    refine XS.iconst X84.here hx rfl (hb hby d_method_2_code_49) ?_
    show Steps p.tables e below (T84.setTop (mkF m 50 #[.val (.int p1), .val (.int p2), .val (.int p3), .val (.int (p1 &&& (3 : Int32)))] [(.int (0 : Int32)), (.ref b84), (.ref b84), (.ref b80), (.ref b80)])) _
    refine XS.iloadN X84.here hx rfl (hb hby d_method_2_code_50) rfl ?_
    show Steps p.tables e below (T84.setTop (mkF m 51 #[.val (.int p1), .val (.int p2), .val (.int p3), .val (.int (p1 &&& (3 : Int32)))] [(.int p2), (.int (0 : Int32)), (.ref b84), (.ref b84), (.ref b80), (.ref b80)])) _
    refine XS.sipush X84.here hx rfl (hb hby d_method_2_code_51) ?_
    show Steps p.tables e below (T84.setTop (mkF m 54 #[.val (.int p1), .val (.int p2), .val (.int p3), .val (.int (p1 &&& (3 : Int32)))] [(.int (255 : Int32)), (.int p2), (.int (0 : Int32)), (.ref b84), (.ref b84), (.ref b80), (.ref b80)])) _
    refine XS.iand X84.here hx rfl (hb hby d_method_2_code_54) rfl ?_
    show Steps p.tables e below (T84.setTop (mkF m 55 #[.val (.int p1), .val (.int p2), .val (.int p3), .val (.int (p1 &&& (3 : Int32)))] [(.int (p2 &&& (255 : Int32))), (.int (0 : Int32)), (.ref b84), (.ref b84), (.ref b80), (.ref b80)])) _
    refine XS.i2c X84.here hx rfl (hb hby d_method_2_code_55) rfl ?_
    show Steps p.tables e below (T84.setTop (mkF m 56 #[.val (.int p1), .val (.int p2), .val (.int p3), .val (.int (p1 &&& (3 : Int32)))] [(.int ((p2 &&& (255 : Int32)).toUInt32.toUInt16.toUInt32.toInt32)), (.int (0 : Int32)), (.ref b84), (.ref b84), (.ref b80), (.ref b80)])) _
    refine st90 _ ?_
    show Steps p.tables e below (T90.setTop (mkF m 57 #[.val (.int p1), .val (.int p2), .val (.int p3), .val (.int (p1 &&& (3 : Int32)))] [(.ref b84), (.ref b80), (.ref b80)])) _
    refine XS.dup X90.here hx rfl (hb hby d_method_2_code_57) rfl rfl ?_
    show Steps p.tables e below (T90.setTop (mkF m 58 #[.val (.int p1), .val (.int p2), .val (.int p3), .val (.int (p1 &&& (3 : Int32)))] [(.ref b84), (.ref b84), (.ref b80), (.ref b80)])) _
    refine XS.iconst X90.here hx rfl (hb hby d_method_2_code_58) ?_
    show Steps p.tables e below (T90.setTop (mkF m 59 #[.val (.int p1), .val (.int p2), .val (.int p3), .val (.int (p1 &&& (3 : Int32)))] [(.int (1 : Int32)), (.ref b84), (.ref b84), (.ref b80), (.ref b80)])) _
    refine XS.iloadN X90.here hx rfl (hb hby d_method_2_code_59) rfl ?_
    show Steps p.tables e below (T90.setTop (mkF m 60 #[.val (.int p1), .val (.int p2), .val (.int p3), .val (.int (p1 &&& (3 : Int32)))] [(.int p3), (.int (1 : Int32)), (.ref b84), (.ref b84), (.ref b80), (.ref b80)])) _
    refine XS.sipush X90.here hx rfl (hb hby d_method_2_code_60) ?_
    show Steps p.tables e below (T90.setTop (mkF m 63 #[.val (.int p1), .val (.int p2), .val (.int p3), .val (.int (p1 &&& (3 : Int32)))] [(.int (255 : Int32)), (.int p3), (.int (1 : Int32)), (.ref b84), (.ref b84), (.ref b80), (.ref b80)])) _
    refine XS.iand X90.here hx rfl (hb hby d_method_2_code_63) rfl ?_
    show Steps p.tables e below (T90.setTop (mkF m 64 #[.val (.int p1), .val (.int p2), .val (.int p3), .val (.int (p1 &&& (3 : Int32)))] [(.int (p3 &&& (255 : Int32))), (.int (1 : Int32)), (.ref b84), (.ref b84), (.ref b80), (.ref b80)])) _
    refine XS.i2c X90.here hx rfl (hb hby d_method_2_code_64) rfl ?_
    show Steps p.tables e below (T90.setTop (mkF m 65 #[.val (.int p1), .val (.int p2), .val (.int p3), .val (.int (p1 &&& (3 : Int32)))] [(.int ((p3 &&& (255 : Int32)).toUInt32.toUInt16.toUInt32.toInt32)), (.int (1 : Int32)), (.ref b84), (.ref b84), (.ref b80), (.ref b80)])) _
    refine st96 _ ?_
    show Steps p.tables e below (T96.setTop (mkF m 66 #[.val (.int p1), .val (.int p2), .val (.int p3), .val (.int (p1 &&& (3 : Int32)))] [(.ref b84), (.ref b80), (.ref b80)])) _
    refine st103.trans ?_
    show Steps p.tables e below (T103.setTop (mkF m 69 #[.val (.int p1), .val (.int p2), .val (.int p3), .val (.int (p1 &&& (3 : Int32)))] [(.ref b80)])) _
    jvm_step X103.here [X103.here.top, hx, (hb hby d_method_2_code_69), X103.method', Bd.returns, Value.isRef, FieldType.isReference]
    first | (intro acts; rw [hr _ acts rfl rfl rfl]) | rw [hr _ _ rfl rfl rfl]
    exact Steps.refl _
  · show QD1 Z h0 n0 _ T103.heap _
    exact ⟨b80, rfl, N103, K104, sz_b80, g1103⟩
  · show CHr Z [("java/lang/String", 7)] s.vm s.heap T103.vm T103.heap
    rw [hh]
    exact HC104.trans (CHv.at X103 hZ hEL HC104.1)
theorem rmD (l : Launch) (Z : State) (a0 : Array Value) (hw : ∀ d ∈ tables_1, d.before a0 Z = true) (ws : List Jvm.Cond) (p1 p2 p3 GC : Int32) (h0 : Heap) (n0 : Nat) (O0 : Old Z n0 h0) (hEL : EW Z a0 [("java/lang/String", 7)]) (wS : ∀ a ∈ Bundle.stringAtoms, a.before a0 Z = true) (OC2 : Sta Z Z.heap "java/lang/String" "COMPACT_STRINGS" "Z" (.int GC)) (OCz : ¬ (GC = (0 : Int32))) (q0 : ¬ ((p1 &&& (3 : Int32)) = (0 : Int32))) :
    MetFree l (⟨"com/example/nimble_container/nimblecontainer/creation/MethodNamingOfPinLaw", "draw", "(III)Ljava/lang/String;"⟩ : MethodName) (head1 (Jvm.Cond.code (⟨"com/example/nimble_container/nimblecontainer/creation/MethodNamingOfPinLaw", "draw", "(III)Ljava/lang/String;"⟩ : MethodName) method_2_code 4 (some (.object "java/lang/String")) :: ws) ({ frames := 4, cells := 4, slots := 8, locals := 66 } : Room)) (fun a U => a = #[(.int p1), (.int p2), (.int p3)] ∧ Z.Warmed39 U.vm ∧ U.heap = h0 ∧ CHv Z [("java/lang/String", 7)] U.vm h0) (fun _ _ _ _ _ => True) (fun _ U o U' => ∃ v L, o = .returned v ∧ QD1 Z h0 n0 v U'.heap L ∧ CHr Z [("java/lang/String", 7)] U.vm U.heap U'.vm U'.heap ∧ ReturnedEndW U o U' L ({ frames := 4, cells := 4, slots := 8, locals := 66 } : Room).cells ({ frames := 4, cells := 4, slots := 8, locals := 66 } : Room).slots) := by
  by_cases q1 : (p1 &&& (3 : Int32)) = (1 : Int32)
  · exact rmD1 l Z a0 hw ws p1 p2 p3 GC h0 n0 O0 hEL wS OC2 OCz q0 q1
  by_cases q2 : (p1 &&& (3 : Int32)) = (2 : Int32)
  · exact rmD2 l Z a0 hw ws p1 p2 p3 GC h0 n0 O0 hEL wS OC2 OCz q0 q1 q2
  exact rmD3 l Z a0 hw ws p1 p2 p3 GC h0 n0 O0 hEL wS OC2 OCz q0 q1 q2
def QNone (Z : State) (nn : Addr) (h0 : Heap) (n0 : Nat) (v : Option Value) (h : Heap) (L : List Loc) : Prop := v = some (.ref nn) ∧ Fr n0 L ∧ h = h0
theorem d_prog_6_method_2_code_0 : decode prog_6_method_2_code 0 = .ok (.aload_n 0, 1) := by decide +kernel
theorem d_prog_6_method_2_code_1 : decode prog_6_method_2_code 1 = .ok (.ifnonnull 17, 3) := by decide +kernel
theorem d_prog_6_method_2_code_4 : decode prog_6_method_2_code 4 = .ok (.aload_n 1, 1) := by decide +kernel
theorem d_prog_6_method_2_code_5 : decode prog_6_method_2_code 5 = .ok (.ifnonnull 13, 3) := by decide +kernel
theorem d_prog_6_method_2_code_8 : decode prog_6_method_2_code 8 = .ok (.iload_n 2, 1) := by decide +kernel
theorem d_prog_6_method_2_code_9 : decode prog_6_method_2_code 9 = .ok (.ifCond .ne 9, 3) := by decide +kernel
theorem d_prog_6_method_2_code_12 : decode prog_6_method_2_code 12 = .ok (.getstatic 20, 3) := by decide +kernel
theorem d_prog_6_method_2_code_15 : decode prog_6_method_2_code 15 = .ok (.goto 13, 3) := by decide +kernel
theorem d_prog_6_method_2_code_28 : decode prog_6_method_2_code 28 = .ok (.areturn, 1) := by decide +kernel
theorem pn_com_example_nimble_container_nimblecontainer_creation_MethodNaming : plainName "com/example/nimble_container/nimblecontainer/creation/MethodNaming" = true := by first | (simp [plainName, overriddenIn]; done) | decide +kernel
theorem ef_rmOfNone (m : MethodId)  : entryFrame m #[.null, .null, (.int (0 : Int32))] 3 = mkF m 0 #[.val .null, .val .null, .val (.int (0 : Int32))] [] := by first | (simp [entryFrame, mkF, argsToLocals, Value.category]; done) | rfl
set_option maxRecDepth 65536 in
set_option maxHeartbeats 40000000 in
theorem rmOfNone (l : Launch) (Z : State) (a0 : Array Value) (hw : ∀ d ∈ tables_1, d.before a0 Z = true) (ws : List Jvm.Cond) (nn : Addr) (h0 : Heap) (n0 : Nat) (O0 : Old Z n0 h0) (SN : Sta Z Z.heap "com/example/nimble_container/nimblecontainer/creation/MethodNaming" "NONE" "Lcom/example/nimble_container/nimblecontainer/creation/MethodNaming;" (.ref nn)) :
    MetFree l (⟨"com/example/nimble_container/nimblecontainer/creation/MethodNaming", "of", "(Ljava/lang/String;Ljava/lang/String;Z)Lcom/example/nimble_container/nimblecontainer/creation/MethodNaming;"⟩ : MethodName) (head1 (Jvm.Cond.code (⟨"com/example/nimble_container/nimblecontainer/creation/MethodNaming", "of", "(Ljava/lang/String;Ljava/lang/String;Z)Lcom/example/nimble_container/nimblecontainer/creation/MethodNaming;"⟩ : MethodName) prog_6_method_2_code 3 (some (.object "com/example/nimble_container/nimblecontainer/creation/MethodNaming")) :: ws) ({ frames := 0, cells := 0, slots := 0, locals := 0 } : Room)) (fun aa_ U => aa_ = #[.null, .null, (.int (0 : Int32))] ∧ Z.Warmed39 U.vm ∧ U.heap = h0) (fun _ _ _ _ _ => True) (fun _ U o U' => ∃ v L, o = .returned v ∧ QNone Z nn h0 n0 v U'.heap L ∧ FrameEnd U o U' L ({ frames := 0, cells := 0, slots := 0, locals := 0 } : Room).cells ({ frames := 0, cells := 0, slots := 0, locals := 0 } : Room).slots) := by
  refine MetFree.of_bodySF (plainFor_of_name pn_com_example_nimble_container_nimblecontainer_creation_MethodNaming) hisR ?_
  intro p e s m args below meth c s₁ Bd hml0 hP hK
  obtain ⟨rfl, hZ, hh⟩ := hP
  have hx := Bd.exec
  have hby := Bd.bytes
  have hml : c.maxLocals = 3 := hml0
  have hown : s.vm.findClass "com/example/nimble_container/nimblecontainer/creation/MethodNaming" = some m.cls := findClass_of_methodNamed Bd.named
  have hnm := (name_of_methodNamed Bd.named Bd.method).1
  have X0 : Stand p l e ({ frames := 0, cells := 0, slots := 0, locals := 0 } : Room) s m #[.null, .null, (.int (0 : Int32))] below meth c s₁ [] 0 0 := Stand.of_body Bd
  have e0 : s₁.heap = h0 := by rw [← hh, Bd.state]; rfl
  have N0 := Fr.nil n0
  have Z0 : n0 ≤ h0.size := O0.1 ▸ O0.2.1
  have K0 : Keep h0 h0 [] := Keep.refl _ _
  have pre0 : ∀ tgt_, Steps p.tables e below (s₁.setTop (mkF m 0 #[.val .null, .val .null, .val (.int (0 : Int32))] [])) tgt_ → Steps p.tables e below (s₁.setTop (entryFrame m #[.null, .null, (.int (0 : Int32))] 3)) tgt_ := fun tgt_ k => castTop (ef_rmOfNone m ) k
  obtain ⟨T107, X107, e107, st107⟩ := getS2 X0 hx hZ hown (host := "") (Or.inl (hw _ (List.mem_of_getElem? (i := 84) rfl))) Via.refl e0 (SN.ext O0.2) (g := (mkF m 12 #[.val .null, .val .null, .val (.int (0 : Int32))] [])) rfl (hb hby d_prog_6_method_2_code_12)
  obtain ⟨fs, hr, hrun, hended, hW, hsame⟩ := X107.leave (v := some (.ref nn)) (fun h => by rw [Bd.returns] at h; cases h)
  refine ⟨_, _, pre0 _ ?_, hrun, hended, _, _, rfl, ?_, ⟨_, rfl⟩, hW, hsame.mono (by decide) (by decide)⟩
  · show Steps p.tables e below (s₁.setTop (mkF m 0 #[.val .null, .val .null, .val (.int (0 : Int32))] [])) _
    refine XS.aloadN X0.here hx rfl (hb hby d_prog_6_method_2_code_0) rfl rfl ?_
    show Steps p.tables e below (s₁.setTop (mkF m 1 #[.val .null, .val .null, .val (.int (0 : Int32))] [.null])) _
    refine XS.ifnonnullNo X0.here hx rfl (hb hby d_prog_6_method_2_code_1) rfl ?_
    show Steps p.tables e below (s₁.setTop (mkF m 4 #[.val .null, .val .null, .val (.int (0 : Int32))] [])) _
    refine XS.aloadN X0.here hx rfl (hb hby d_prog_6_method_2_code_4) rfl rfl ?_
    show Steps p.tables e below (s₁.setTop (mkF m 5 #[.val .null, .val .null, .val (.int (0 : Int32))] [.null])) _
    refine XS.ifnonnullNo X0.here hx rfl (hb hby d_prog_6_method_2_code_5) rfl ?_
    show Steps p.tables e below (s₁.setTop (mkF m 8 #[.val .null, .val .null, .val (.int (0 : Int32))] [])) _
    refine XS.iloadN X0.here hx rfl (hb hby d_prog_6_method_2_code_8) rfl ?_
    show Steps p.tables e below (s₁.setTop (mkF m 9 #[.val .null, .val .null, .val (.int (0 : Int32))] [(.int (0 : Int32))])) _
    refine XS.ifNo X0.here hx rfl (hb hby d_prog_6_method_2_code_9) rfl ((if0 _ _).trans (teq (rfl : (0 : Int32) = (0 : Int32))).2) ?_
    show Steps p.tables e below (s₁.setTop (mkF m 12 #[.val .null, .val .null, .val (.int (0 : Int32))] [])) _
    refine st107 _ ?_
    show Steps p.tables e below (T107.setTop (mkF m 15 #[.val .null, .val .null, .val (.int (0 : Int32))] [(.ref nn)])) _
    refine XS.goto X107.here hx rfl (pc0 := 15) (pc' := 28) rfl (hb hby d_prog_6_method_2_code_15) (by decide) (by decide) ?_
    show Steps p.tables e below (T107.setTop (mkF m 28 #[.val .null, .val .null, .val (.int (0 : Int32))] [(.ref nn)])) _
    jvm_step X107.here [X107.here.top, hx, (hb hby d_prog_6_method_2_code_28), X107.method', Bd.returns, Value.isRef, FieldType.isReference]
    first | (intro acts; rw [hr _ acts rfl rfl rfl]) | rw [hr _ _ rfl rfl rfl]
    exact Steps.refl _
  · show QNone Z nn h0 n0 _ T107.heap _
    rw [e107]
    exact ⟨rfl, N0, rfl⟩
def QMINN0 (Z : State) (x sn sd : Addr) (h0 : Heap) (n0 : Nat) (v : Option Value) (h : Heap) (L : List Loc) : Prop := v = none ∧ Fr n0 L ∧ Keep h0 h [x] ∧ Exa Z h x "com/example/nimble_container/nimblecontainer/creation/MethodNaming" ∧ Fld Z h x "com/example/nimble_container/nimblecontainer/creation/MethodNaming" "named" "Ljava/lang/String;" .null ∧ Fld Z h x "com/example/nimble_container/nimblecontainer/creation/MethodNaming" "byDefault" "Ljava/lang/String;" .null ∧ Fld Z h x "com/example/nimble_container/nimblecontainer/creation/MethodNaming" "inferred" "Z" (.int (0 : Int32))
theorem d_prog_6_method_1_code_0 : decode prog_6_method_1_code 0 = .ok (.aload_n 0, 1) := by decide +kernel
theorem d_prog_6_method_1_code_1 : decode prog_6_method_1_code 1 = .ok (.invokespecial 1, 3) := by decide +kernel
theorem d_prog_6_method_1_code_4 : decode prog_6_method_1_code 4 = .ok (.aload_n 0, 1) := by decide +kernel
theorem d_prog_6_method_1_code_5 : decode prog_6_method_1_code 5 = .ok (.aload_n 1, 1) := by decide +kernel
theorem d_prog_6_method_1_code_6 : decode prog_6_method_1_code 6 = .ok (.putfield 7, 3) := by decide +kernel
theorem d_prog_6_method_1_code_9 : decode prog_6_method_1_code 9 = .ok (.aload_n 0, 1) := by decide +kernel
theorem d_prog_6_method_1_code_10 : decode prog_6_method_1_code 10 = .ok (.aload_n 2, 1) := by decide +kernel
theorem d_prog_6_method_1_code_11 : decode prog_6_method_1_code 11 = .ok (.putfield 13, 3) := by decide +kernel
theorem d_prog_6_method_1_code_14 : decode prog_6_method_1_code 14 = .ok (.aload_n 0, 1) := by decide +kernel
theorem d_prog_6_method_1_code_15 : decode prog_6_method_1_code 15 = .ok (.iload_n 3, 1) := by decide +kernel
theorem d_prog_6_method_1_code_16 : decode prog_6_method_1_code 16 = .ok (.putfield 16, 3) := by decide +kernel
theorem d_prog_6_method_1_code_19 : decode prog_6_method_1_code 19 = .ok (.return_, 1) := by decide +kernel
theorem ef_rmMINN0 (m : MethodId) (x0 : Addr) : entryFrame m #[(.ref x0), .null, .null, (.int (0 : Int32))] 4 = mkF m 0 #[.val (.ref x0), .val .null, .val .null, .val (.int (0 : Int32))] [] := by first | (simp [entryFrame, mkF, argsToLocals, Value.category]; done) | rfl
set_option maxRecDepth 65536 in
set_option maxHeartbeats 40000000 in
theorem rmMINN0 (l : Launch) (Z : State) (a0 : Array Value) (hw : ∀ d ∈ tables_1, d.before a0 Z = true) (ws : List Jvm.Cond) (x sn sd : Addr) (h0 : Heap) (n0 : Nat) (O0 : Old Z n0 h0) (g_x : n0 ≤ x) (Ex : Exa Z h0 x "com/example/nimble_container/nimblecontainer/creation/MethodNaming") (F0 : Fld Z h0 x "com/example/nimble_container/nimblecontainer/creation/MethodNaming" "named" "Ljava/lang/String;" .null) (F1 : Fld Z h0 x "com/example/nimble_container/nimblecontainer/creation/MethodNaming" "byDefault" "Ljava/lang/String;" .null) (F2 : Fld Z h0 x "com/example/nimble_container/nimblecontainer/creation/MethodNaming" "inferred" "Z" (.int (0 : Int32))) :
    MetFree l (⟨"com/example/nimble_container/nimblecontainer/creation/MethodNaming", "<init>", "(Ljava/lang/String;Ljava/lang/String;Z)V"⟩ : MethodName) (head1 (Jvm.Cond.code (⟨"com/example/nimble_container/nimblecontainer/creation/MethodNaming", "<init>", "(Ljava/lang/String;Ljava/lang/String;Z)V"⟩ : MethodName) prog_6_method_1_code 4 none :: ws) ({ frames := 1, cells := 0, slots := 0, locals := 12 } : Room)) (fun aa_ U => aa_ = #[(.ref x), .null, .null, (.int (0 : Int32))] ∧ Z.Warmed39 U.vm ∧ U.heap = h0) (fun _ _ _ _ _ => True) (fun _ U o U' => ∃ v L, o = .returned v ∧ QMINN0 Z x sn sd h0 n0 v U'.heap L ∧ FrameEnd U o U' L ({ frames := 1, cells := 0, slots := 0, locals := 12 } : Room).cells ({ frames := 1, cells := 0, slots := 0, locals := 12 } : Room).slots) := by
  refine MetFree.of_bodySF (plainFor_of_name pn_com_example_nimble_container_nimblecontainer_creation_MethodNaming) hisR ?_
  intro p e s m args below meth c s₁ Bd hml0 hP hK
  obtain ⟨rfl, hZ, hh⟩ := hP
  have hx := Bd.exec
  have hby := Bd.bytes
  have hml : c.maxLocals = 4 := hml0
  have hown : s.vm.findClass "com/example/nimble_container/nimblecontainer/creation/MethodNaming" = some m.cls := findClass_of_methodNamed Bd.named
  have hnm := (name_of_methodNamed Bd.named Bd.method).1
  have X0 : Stand p l e ({ frames := 1, cells := 0, slots := 0, locals := 12 } : Room) s m #[(.ref x), .null, .null, (.int (0 : Int32))] below meth c s₁ [] 0 0 := Stand.of_body Bd
  have e0 : s₁.heap = h0 := by rw [← hh, Bd.state]; rfl
  have N0 := Fr.nil n0
  have Z0 : n0 ≤ h0.size := O0.1 ▸ O0.2.1
  have K0 : Keep h0 h0 [x] := Keep.refl _ _
  have pre0 : ∀ tgt_, Steps p.tables e below (s₁.setTop (mkF m 0 #[.val (.ref x), .val .null, .val .null, .val (.int (0 : Int32))] [])) tgt_ → Steps p.tables e below (s₁.setTop (entryFrame m #[(.ref x), .null, .null, (.int (0 : Int32))] 4)) tgt_ := fun tgt_ k => castTop (ef_rmMINN0 m x) k
  obtain ⟨T108, X108, e108, st108⟩ := initO X0 hx hZ hown (hw _ (List.mem_of_getElem? (i := 43) rfl)) (hw _ (List.mem_of_getElem? (i := 16) rfl)) (hw _ (List.mem_of_getElem? (i := 17) rfl)) e0 (g := (mkF m 1 #[.val (.ref x), .val .null, .val .null, .val (.int (0 : Int32))] [(.ref x)])) rfl (by rw [hml]; rfl) rfl (hb hby d_prog_6_method_1_code_1) (by decide) (W := 0) (by show 2 * 0 + _ ≤ _; exact Nat.le_of_eq rfl) (by decide)
  obtain ⟨T109, h109, X109, e109, W109, st109⟩ := putF X108 hx hZ hown (host := "") (Or.inl (hw _ (List.mem_of_getElem? (i := 44) rfl))) Via.refl e108 F0 Ex (Or.inr ⟨(hw _ (List.mem_of_getElem? (i := 45) rfl)), rfl, hnm⟩) (hw _ (List.mem_of_getElem? (i := 39) rfl)) (ty := (.object "java/lang/String")) (by decide) rfl rfl (g := (mkF m 6 #[.val (.ref x), .val .null, .val .null, .val (.int (0 : Int32))] [.null, (.ref x)])) rfl rfl (hb hby d_prog_6_method_1_code_6)
  have N109 := Fr.snoc X109 N0 g_x
  have O110 : Old Z n0 h109 := O0.wr W109 g_x
  have Z110 : n0 ≤ h109.size := Nat.le_trans Z0 (Keep.of_wr W109).1
  have K110 : Keep h0 h109 [x] := K0.wr W109 (Or.inl (List.mem_of_getElem? (i := 0) rfl))
  have f111 : Exa Z h109 x "com/example/nimble_container/nimblecontainer/creation/MethodNaming" := Ex.wr W109
  have f112 : Fld Z h109 x "com/example/nimble_container/nimblecontainer/creation/MethodNaming" "named" "Ljava/lang/String;" .null := F0.same W109
  have f113 : Fld Z h109 x "com/example/nimble_container/nimblecontainer/creation/MethodNaming" "byDefault" "Ljava/lang/String;" .null := F1.other W109 (Or.inr (slot_ne (Or.inr (hw _ (List.mem_of_getElem? (i := 47) rfl))) (Or.inr (hw _ (List.mem_of_getElem? (i := 45) rfl))) (by decide) (t := (.object "java/lang/String")) (t' := (.object "java/lang/String")) (by decide) (by decide)))
  have f114 : Fld Z h109 x "com/example/nimble_container/nimblecontainer/creation/MethodNaming" "inferred" "Z" (.int (0 : Int32)) := F2.other W109 (Or.inr (slot_ne (Or.inr (hw _ (List.mem_of_getElem? (i := 49) rfl))) (Or.inr (hw _ (List.mem_of_getElem? (i := 45) rfl))) (by decide) (t := .boolean) (t' := (.object "java/lang/String")) (by decide) (by decide)))
  obtain ⟨T115, h115, X115, e115, W115, st115⟩ := putF X109 hx hZ hown (host := "") (Or.inl (hw _ (List.mem_of_getElem? (i := 46) rfl))) Via.refl e109 f113 f111 (Or.inr ⟨(hw _ (List.mem_of_getElem? (i := 47) rfl)), rfl, hnm⟩) (hw _ (List.mem_of_getElem? (i := 39) rfl)) (ty := (.object "java/lang/String")) (by decide) rfl rfl (g := (mkF m 11 #[.val (.ref x), .val .null, .val .null, .val (.int (0 : Int32))] [.null, (.ref x)])) rfl rfl (hb hby d_prog_6_method_1_code_11)
  have N115 := Fr.snoc X115 N109 g_x
  have O116 : Old Z n0 h115 := O110.wr W115 g_x
  have Z116 : n0 ≤ h115.size := Nat.le_trans Z110 (Keep.of_wr W115).1
  have K116 : Keep h0 h115 [x] := K110.wr W115 (Or.inl (List.mem_of_getElem? (i := 0) rfl))
  have f117 : Exa Z h115 x "com/example/nimble_container/nimblecontainer/creation/MethodNaming" := f111.wr W115
  have f118 : Fld Z h115 x "com/example/nimble_container/nimblecontainer/creation/MethodNaming" "named" "Ljava/lang/String;" .null := f112.other W115 (Or.inr (slot_ne (Or.inr (hw _ (List.mem_of_getElem? (i := 45) rfl))) (Or.inr (hw _ (List.mem_of_getElem? (i := 47) rfl))) (by decide) (t := (.object "java/lang/String")) (t' := (.object "java/lang/String")) (by decide) (by decide)))
  have f119 : Fld Z h115 x "com/example/nimble_container/nimblecontainer/creation/MethodNaming" "byDefault" "Ljava/lang/String;" .null := f113.same W115
  have f120 : Fld Z h115 x "com/example/nimble_container/nimblecontainer/creation/MethodNaming" "inferred" "Z" (.int (0 : Int32)) := f114.other W115 (Or.inr (slot_ne (Or.inr (hw _ (List.mem_of_getElem? (i := 49) rfl))) (Or.inr (hw _ (List.mem_of_getElem? (i := 47) rfl))) (by decide) (t := .boolean) (t' := (.object "java/lang/String")) (by decide) (by decide)))
  obtain ⟨T121, h121, X121, e121, W121, st121⟩ := putF X115 hx hZ hown (host := "") (Or.inl (hw _ (List.mem_of_getElem? (i := 48) rfl))) Via.refl e115 f120 f117 (Or.inr ⟨(hw _ (List.mem_of_getElem? (i := 49) rfl)), rfl, hnm⟩) (hw _ (List.mem_of_getElem? (i := 39) rfl)) (ty := .boolean) (by decide) rfl rfl (g := (mkF m 16 #[.val (.ref x), .val .null, .val .null, .val (.int (0 : Int32))] [(.int (0 : Int32)), (.ref x)])) rfl rfl (hb hby d_prog_6_method_1_code_16)
  have N121 := Fr.snoc X121 N115 g_x
  have O122 : Old Z n0 h121 := O116.wr W121 g_x
  have Z122 : n0 ≤ h121.size := Nat.le_trans Z116 (Keep.of_wr W121).1
  have K122 : Keep h0 h121 [x] := K116.wr W121 (Or.inl (List.mem_of_getElem? (i := 0) rfl))
  have f123 : Exa Z h121 x "com/example/nimble_container/nimblecontainer/creation/MethodNaming" := f117.wr W121
  have f124 : Fld Z h121 x "com/example/nimble_container/nimblecontainer/creation/MethodNaming" "named" "Ljava/lang/String;" .null := f118.other W121 (Or.inr (slot_ne (Or.inr (hw _ (List.mem_of_getElem? (i := 45) rfl))) (Or.inr (hw _ (List.mem_of_getElem? (i := 49) rfl))) (by decide) (t := (.object "java/lang/String")) (t' := .boolean) (by decide) (by decide)))
  have f125 : Fld Z h121 x "com/example/nimble_container/nimblecontainer/creation/MethodNaming" "byDefault" "Ljava/lang/String;" .null := f119.other W121 (Or.inr (slot_ne (Or.inr (hw _ (List.mem_of_getElem? (i := 47) rfl))) (Or.inr (hw _ (List.mem_of_getElem? (i := 49) rfl))) (by decide) (t := (.object "java/lang/String")) (t' := .boolean) (by decide) (by decide)))
  have f126 : Fld Z h121 x "com/example/nimble_container/nimblecontainer/creation/MethodNaming" "inferred" "Z" (.int (0 : Int32)) := f120.same W121
  obtain ⟨fs, hr, hrun, hended, hW, hsame⟩ := X121.leave (v := none) (fun _ => rfl)
  refine ⟨_, _, pre0 _ ?_, hrun, hended, _, _, rfl, ?_, ⟨_, rfl⟩, hW, hsame.mono (by decide) (by decide)⟩
  · show Steps p.tables e below (s₁.setTop (mkF m 0 #[.val (.ref x), .val .null, .val .null, .val (.int (0 : Int32))] [])) _
    refine XS.aloadN X0.here hx rfl (hb hby d_prog_6_method_1_code_0) rfl rfl ?_
    show Steps p.tables e below (s₁.setTop (mkF m 1 #[.val (.ref x), .val .null, .val .null, .val (.int (0 : Int32))] [(.ref x)])) _
    refine st108 _ ?_
    show Steps p.tables e below (T108.setTop (mkF m 4 #[.val (.ref x), .val .null, .val .null, .val (.int (0 : Int32))] [])) _
    refine XS.aloadN X108.here hx rfl (hb hby d_prog_6_method_1_code_4) rfl rfl ?_
    show Steps p.tables e below (T108.setTop (mkF m 5 #[.val (.ref x), .val .null, .val .null, .val (.int (0 : Int32))] [(.ref x)])) _
    refine XS.aloadN X108.here hx rfl (hb hby d_prog_6_method_1_code_5) rfl rfl ?_
    show Steps p.tables e below (T108.setTop (mkF m 6 #[.val (.ref x), .val .null, .val .null, .val (.int (0 : Int32))] [.null, (.ref x)])) _
    refine st109 _ ?_
    show Steps p.tables e below (T109.setTop (mkF m 9 #[.val (.ref x), .val .null, .val .null, .val (.int (0 : Int32))] [])) _
    refine XS.aloadN X109.here hx rfl (hb hby d_prog_6_method_1_code_9) rfl rfl ?_
    show Steps p.tables e below (T109.setTop (mkF m 10 #[.val (.ref x), .val .null, .val .null, .val (.int (0 : Int32))] [(.ref x)])) _
    refine XS.aloadN X109.here hx rfl (hb hby d_prog_6_method_1_code_10) rfl rfl ?_
    show Steps p.tables e below (T109.setTop (mkF m 11 #[.val (.ref x), .val .null, .val .null, .val (.int (0 : Int32))] [.null, (.ref x)])) _
    refine st115 _ ?_
    show Steps p.tables e below (T115.setTop (mkF m 14 #[.val (.ref x), .val .null, .val .null, .val (.int (0 : Int32))] [])) _
    refine XS.aloadN X115.here hx rfl (hb hby d_prog_6_method_1_code_14) rfl rfl ?_
    show Steps p.tables e below (T115.setTop (mkF m 15 #[.val (.ref x), .val .null, .val .null, .val (.int (0 : Int32))] [(.ref x)])) _
    refine XS.iloadN X115.here hx rfl (hb hby d_prog_6_method_1_code_15) rfl ?_
    show Steps p.tables e below (T115.setTop (mkF m 16 #[.val (.ref x), .val .null, .val .null, .val (.int (0 : Int32))] [(.int (0 : Int32)), (.ref x)])) _
    refine st121 _ ?_
    show Steps p.tables e below (T121.setTop (mkF m 19 #[.val (.ref x), .val .null, .val .null, .val (.int (0 : Int32))] [])) _
    exact X121.returnOut hx Bd.returns (hb hby d_prog_6_method_1_code_19) hr
  · show QMINN0 Z x sn sd h0 n0 _ T121.heap _
    rw [e121]
    exact ⟨rfl, N121, K122, f123, f124, f125, f126⟩
def QMINN1 (Z : State) (x sn sd : Addr) (h0 : Heap) (n0 : Nat) (v : Option Value) (h : Heap) (L : List Loc) : Prop := v = none ∧ Fr n0 L ∧ Keep h0 h [x] ∧ Exa Z h x "com/example/nimble_container/nimblecontainer/creation/MethodNaming" ∧ Fld Z h x "com/example/nimble_container/nimblecontainer/creation/MethodNaming" "named" "Ljava/lang/String;" .null ∧ Fld Z h x "com/example/nimble_container/nimblecontainer/creation/MethodNaming" "byDefault" "Ljava/lang/String;" .null ∧ Fld Z h x "com/example/nimble_container/nimblecontainer/creation/MethodNaming" "inferred" "Z" (.int (1 : Int32))
theorem ef_rmMINN1 (m : MethodId) (x0 : Addr) : entryFrame m #[(.ref x0), .null, .null, (.int (1 : Int32))] 4 = mkF m 0 #[.val (.ref x0), .val .null, .val .null, .val (.int (1 : Int32))] [] := by first | (simp [entryFrame, mkF, argsToLocals, Value.category]; done) | rfl
set_option maxRecDepth 65536 in
set_option maxHeartbeats 40000000 in
theorem rmMINN1 (l : Launch) (Z : State) (a0 : Array Value) (hw : ∀ d ∈ tables_1, d.before a0 Z = true) (ws : List Jvm.Cond) (x sn sd : Addr) (h0 : Heap) (n0 : Nat) (O0 : Old Z n0 h0) (g_x : n0 ≤ x) (Ex : Exa Z h0 x "com/example/nimble_container/nimblecontainer/creation/MethodNaming") (F0 : Fld Z h0 x "com/example/nimble_container/nimblecontainer/creation/MethodNaming" "named" "Ljava/lang/String;" .null) (F1 : Fld Z h0 x "com/example/nimble_container/nimblecontainer/creation/MethodNaming" "byDefault" "Ljava/lang/String;" .null) (F2 : Fld Z h0 x "com/example/nimble_container/nimblecontainer/creation/MethodNaming" "inferred" "Z" (.int (0 : Int32))) :
    MetFree l (⟨"com/example/nimble_container/nimblecontainer/creation/MethodNaming", "<init>", "(Ljava/lang/String;Ljava/lang/String;Z)V"⟩ : MethodName) (head1 (Jvm.Cond.code (⟨"com/example/nimble_container/nimblecontainer/creation/MethodNaming", "<init>", "(Ljava/lang/String;Ljava/lang/String;Z)V"⟩ : MethodName) prog_6_method_1_code 4 none :: ws) ({ frames := 1, cells := 0, slots := 0, locals := 12 } : Room)) (fun aa_ U => aa_ = #[(.ref x), .null, .null, (.int (1 : Int32))] ∧ Z.Warmed39 U.vm ∧ U.heap = h0) (fun _ _ _ _ _ => True) (fun _ U o U' => ∃ v L, o = .returned v ∧ QMINN1 Z x sn sd h0 n0 v U'.heap L ∧ FrameEnd U o U' L ({ frames := 1, cells := 0, slots := 0, locals := 12 } : Room).cells ({ frames := 1, cells := 0, slots := 0, locals := 12 } : Room).slots) := by
  refine MetFree.of_bodySF (plainFor_of_name pn_com_example_nimble_container_nimblecontainer_creation_MethodNaming) hisR ?_
  intro p e s m args below meth c s₁ Bd hml0 hP hK
  obtain ⟨rfl, hZ, hh⟩ := hP
  have hx := Bd.exec
  have hby := Bd.bytes
  have hml : c.maxLocals = 4 := hml0
  have hown : s.vm.findClass "com/example/nimble_container/nimblecontainer/creation/MethodNaming" = some m.cls := findClass_of_methodNamed Bd.named
  have hnm := (name_of_methodNamed Bd.named Bd.method).1
  have X0 : Stand p l e ({ frames := 1, cells := 0, slots := 0, locals := 12 } : Room) s m #[(.ref x), .null, .null, (.int (1 : Int32))] below meth c s₁ [] 0 0 := Stand.of_body Bd
  have e0 : s₁.heap = h0 := by rw [← hh, Bd.state]; rfl
  have N0 := Fr.nil n0
  have Z0 : n0 ≤ h0.size := O0.1 ▸ O0.2.1
  have K0 : Keep h0 h0 [x] := Keep.refl _ _
  have pre0 : ∀ tgt_, Steps p.tables e below (s₁.setTop (mkF m 0 #[.val (.ref x), .val .null, .val .null, .val (.int (1 : Int32))] [])) tgt_ → Steps p.tables e below (s₁.setTop (entryFrame m #[(.ref x), .null, .null, (.int (1 : Int32))] 4)) tgt_ := fun tgt_ k => castTop (ef_rmMINN1 m x) k
  obtain ⟨T127, X127, e127, st127⟩ := initO X0 hx hZ hown (hw _ (List.mem_of_getElem? (i := 43) rfl)) (hw _ (List.mem_of_getElem? (i := 16) rfl)) (hw _ (List.mem_of_getElem? (i := 17) rfl)) e0 (g := (mkF m 1 #[.val (.ref x), .val .null, .val .null, .val (.int (1 : Int32))] [(.ref x)])) rfl (by rw [hml]; rfl) rfl (hb hby d_prog_6_method_1_code_1) (by decide) (W := 0) (by show 2 * 0 + _ ≤ _; exact Nat.le_of_eq rfl) (by decide)
  obtain ⟨T128, h128, X128, e128, W128, st128⟩ := putF X127 hx hZ hown (host := "") (Or.inl (hw _ (List.mem_of_getElem? (i := 44) rfl))) Via.refl e127 F0 Ex (Or.inr ⟨(hw _ (List.mem_of_getElem? (i := 45) rfl)), rfl, hnm⟩) (hw _ (List.mem_of_getElem? (i := 39) rfl)) (ty := (.object "java/lang/String")) (by decide) rfl rfl (g := (mkF m 6 #[.val (.ref x), .val .null, .val .null, .val (.int (1 : Int32))] [.null, (.ref x)])) rfl rfl (hb hby d_prog_6_method_1_code_6)
  have N128 := Fr.snoc X128 N0 g_x
  have O129 : Old Z n0 h128 := O0.wr W128 g_x
  have Z129 : n0 ≤ h128.size := Nat.le_trans Z0 (Keep.of_wr W128).1
  have K129 : Keep h0 h128 [x] := K0.wr W128 (Or.inl (List.mem_of_getElem? (i := 0) rfl))
  have f130 : Exa Z h128 x "com/example/nimble_container/nimblecontainer/creation/MethodNaming" := Ex.wr W128
  have f131 : Fld Z h128 x "com/example/nimble_container/nimblecontainer/creation/MethodNaming" "named" "Ljava/lang/String;" .null := F0.same W128
  have f132 : Fld Z h128 x "com/example/nimble_container/nimblecontainer/creation/MethodNaming" "byDefault" "Ljava/lang/String;" .null := F1.other W128 (Or.inr (slot_ne (Or.inr (hw _ (List.mem_of_getElem? (i := 47) rfl))) (Or.inr (hw _ (List.mem_of_getElem? (i := 45) rfl))) (by decide) (t := (.object "java/lang/String")) (t' := (.object "java/lang/String")) (by decide) (by decide)))
  have f133 : Fld Z h128 x "com/example/nimble_container/nimblecontainer/creation/MethodNaming" "inferred" "Z" (.int (0 : Int32)) := F2.other W128 (Or.inr (slot_ne (Or.inr (hw _ (List.mem_of_getElem? (i := 49) rfl))) (Or.inr (hw _ (List.mem_of_getElem? (i := 45) rfl))) (by decide) (t := .boolean) (t' := (.object "java/lang/String")) (by decide) (by decide)))
  obtain ⟨T134, h134, X134, e134, W134, st134⟩ := putF X128 hx hZ hown (host := "") (Or.inl (hw _ (List.mem_of_getElem? (i := 46) rfl))) Via.refl e128 f132 f130 (Or.inr ⟨(hw _ (List.mem_of_getElem? (i := 47) rfl)), rfl, hnm⟩) (hw _ (List.mem_of_getElem? (i := 39) rfl)) (ty := (.object "java/lang/String")) (by decide) rfl rfl (g := (mkF m 11 #[.val (.ref x), .val .null, .val .null, .val (.int (1 : Int32))] [.null, (.ref x)])) rfl rfl (hb hby d_prog_6_method_1_code_11)
  have N134 := Fr.snoc X134 N128 g_x
  have O135 : Old Z n0 h134 := O129.wr W134 g_x
  have Z135 : n0 ≤ h134.size := Nat.le_trans Z129 (Keep.of_wr W134).1
  have K135 : Keep h0 h134 [x] := K129.wr W134 (Or.inl (List.mem_of_getElem? (i := 0) rfl))
  have f136 : Exa Z h134 x "com/example/nimble_container/nimblecontainer/creation/MethodNaming" := f130.wr W134
  have f137 : Fld Z h134 x "com/example/nimble_container/nimblecontainer/creation/MethodNaming" "named" "Ljava/lang/String;" .null := f131.other W134 (Or.inr (slot_ne (Or.inr (hw _ (List.mem_of_getElem? (i := 45) rfl))) (Or.inr (hw _ (List.mem_of_getElem? (i := 47) rfl))) (by decide) (t := (.object "java/lang/String")) (t' := (.object "java/lang/String")) (by decide) (by decide)))
  have f138 : Fld Z h134 x "com/example/nimble_container/nimblecontainer/creation/MethodNaming" "byDefault" "Ljava/lang/String;" .null := f132.same W134
  have f139 : Fld Z h134 x "com/example/nimble_container/nimblecontainer/creation/MethodNaming" "inferred" "Z" (.int (0 : Int32)) := f133.other W134 (Or.inr (slot_ne (Or.inr (hw _ (List.mem_of_getElem? (i := 49) rfl))) (Or.inr (hw _ (List.mem_of_getElem? (i := 47) rfl))) (by decide) (t := .boolean) (t' := (.object "java/lang/String")) (by decide) (by decide)))
  obtain ⟨T140, h140, X140, e140, W140, st140⟩ := putF X134 hx hZ hown (host := "") (Or.inl (hw _ (List.mem_of_getElem? (i := 48) rfl))) Via.refl e134 f139 f136 (Or.inr ⟨(hw _ (List.mem_of_getElem? (i := 49) rfl)), rfl, hnm⟩) (hw _ (List.mem_of_getElem? (i := 39) rfl)) (ty := .boolean) (by decide) rfl rfl (g := (mkF m 16 #[.val (.ref x), .val .null, .val .null, .val (.int (1 : Int32))] [(.int (1 : Int32)), (.ref x)])) rfl rfl (hb hby d_prog_6_method_1_code_16)
  have N140 := Fr.snoc X140 N134 g_x
  have O141 : Old Z n0 h140 := O135.wr W140 g_x
  have Z141 : n0 ≤ h140.size := Nat.le_trans Z135 (Keep.of_wr W140).1
  have K141 : Keep h0 h140 [x] := K135.wr W140 (Or.inl (List.mem_of_getElem? (i := 0) rfl))
  have f142 : Exa Z h140 x "com/example/nimble_container/nimblecontainer/creation/MethodNaming" := f136.wr W140
  have f143 : Fld Z h140 x "com/example/nimble_container/nimblecontainer/creation/MethodNaming" "named" "Ljava/lang/String;" .null := f137.other W140 (Or.inr (slot_ne (Or.inr (hw _ (List.mem_of_getElem? (i := 45) rfl))) (Or.inr (hw _ (List.mem_of_getElem? (i := 49) rfl))) (by decide) (t := (.object "java/lang/String")) (t' := .boolean) (by decide) (by decide)))
  have f144 : Fld Z h140 x "com/example/nimble_container/nimblecontainer/creation/MethodNaming" "byDefault" "Ljava/lang/String;" .null := f138.other W140 (Or.inr (slot_ne (Or.inr (hw _ (List.mem_of_getElem? (i := 47) rfl))) (Or.inr (hw _ (List.mem_of_getElem? (i := 49) rfl))) (by decide) (t := (.object "java/lang/String")) (t' := .boolean) (by decide) (by decide)))
  have f145 : Fld Z h140 x "com/example/nimble_container/nimblecontainer/creation/MethodNaming" "inferred" "Z" (.int (1 : Int32)) := f139.same W140
  obtain ⟨fs, hr, hrun, hended, hW, hsame⟩ := X140.leave (v := none) (fun _ => rfl)
  refine ⟨_, _, pre0 _ ?_, hrun, hended, _, _, rfl, ?_, ⟨_, rfl⟩, hW, hsame.mono (by decide) (by decide)⟩
  · show Steps p.tables e below (s₁.setTop (mkF m 0 #[.val (.ref x), .val .null, .val .null, .val (.int (1 : Int32))] [])) _
    refine XS.aloadN X0.here hx rfl (hb hby d_prog_6_method_1_code_0) rfl rfl ?_
    show Steps p.tables e below (s₁.setTop (mkF m 1 #[.val (.ref x), .val .null, .val .null, .val (.int (1 : Int32))] [(.ref x)])) _
    refine st127 _ ?_
    show Steps p.tables e below (T127.setTop (mkF m 4 #[.val (.ref x), .val .null, .val .null, .val (.int (1 : Int32))] [])) _
    refine XS.aloadN X127.here hx rfl (hb hby d_prog_6_method_1_code_4) rfl rfl ?_
    show Steps p.tables e below (T127.setTop (mkF m 5 #[.val (.ref x), .val .null, .val .null, .val (.int (1 : Int32))] [(.ref x)])) _
    refine XS.aloadN X127.here hx rfl (hb hby d_prog_6_method_1_code_5) rfl rfl ?_
    show Steps p.tables e below (T127.setTop (mkF m 6 #[.val (.ref x), .val .null, .val .null, .val (.int (1 : Int32))] [.null, (.ref x)])) _
    refine st128 _ ?_
    show Steps p.tables e below (T128.setTop (mkF m 9 #[.val (.ref x), .val .null, .val .null, .val (.int (1 : Int32))] [])) _
    refine XS.aloadN X128.here hx rfl (hb hby d_prog_6_method_1_code_9) rfl rfl ?_
    show Steps p.tables e below (T128.setTop (mkF m 10 #[.val (.ref x), .val .null, .val .null, .val (.int (1 : Int32))] [(.ref x)])) _
    refine XS.aloadN X128.here hx rfl (hb hby d_prog_6_method_1_code_10) rfl rfl ?_
    show Steps p.tables e below (T128.setTop (mkF m 11 #[.val (.ref x), .val .null, .val .null, .val (.int (1 : Int32))] [.null, (.ref x)])) _
    refine st134 _ ?_
    show Steps p.tables e below (T134.setTop (mkF m 14 #[.val (.ref x), .val .null, .val .null, .val (.int (1 : Int32))] [])) _
    refine XS.aloadN X134.here hx rfl (hb hby d_prog_6_method_1_code_14) rfl rfl ?_
    show Steps p.tables e below (T134.setTop (mkF m 15 #[.val (.ref x), .val .null, .val .null, .val (.int (1 : Int32))] [(.ref x)])) _
    refine XS.iloadN X134.here hx rfl (hb hby d_prog_6_method_1_code_15) rfl ?_
    show Steps p.tables e below (T134.setTop (mkF m 16 #[.val (.ref x), .val .null, .val .null, .val (.int (1 : Int32))] [(.int (1 : Int32)), (.ref x)])) _
    refine st140 _ ?_
    show Steps p.tables e below (T140.setTop (mkF m 19 #[.val (.ref x), .val .null, .val .null, .val (.int (1 : Int32))] [])) _
    exact X140.returnOut hx Bd.returns (hb hby d_prog_6_method_1_code_19) hr
  · show QMINN1 Z x sn sd h0 n0 _ T140.heap _
    rw [e140]
    exact ⟨rfl, N140, K141, f142, f143, f144, f145⟩
def QOfNN1 (Z : State) (sn sd : Addr) (h0 : Heap) (n0 : Nat) (v : Option Value) (h : Heap) (L : List Loc) : Prop := ∃ x : Addr, v = some (.ref x) ∧ Fr n0 L ∧ Keep h0 h [] ∧ h0.size ≤ x ∧ Exa Z h x "com/example/nimble_container/nimblecontainer/creation/MethodNaming" ∧ Fld Z h x "com/example/nimble_container/nimblecontainer/creation/MethodNaming" "named" "Ljava/lang/String;" .null ∧ Fld Z h x "com/example/nimble_container/nimblecontainer/creation/MethodNaming" "byDefault" "Ljava/lang/String;" .null ∧ Fld Z h x "com/example/nimble_container/nimblecontainer/creation/MethodNaming" "inferred" "Z" (.int (1 : Int32))
theorem d_prog_6_method_2_code_18 : decode prog_6_method_2_code 18 = .ok (.new 8, 3) := by decide +kernel
theorem d_prog_6_method_2_code_21 : decode prog_6_method_2_code 21 = .ok (.dup, 1) := by decide +kernel
theorem d_prog_6_method_2_code_22 : decode prog_6_method_2_code 22 = .ok (.aload_n 0, 1) := by decide +kernel
theorem d_prog_6_method_2_code_23 : decode prog_6_method_2_code 23 = .ok (.aload_n 1, 1) := by decide +kernel
theorem d_prog_6_method_2_code_24 : decode prog_6_method_2_code 24 = .ok (.iload_n 2, 1) := by decide +kernel
theorem d_prog_6_method_2_code_25 : decode prog_6_method_2_code 25 = .ok (.invokespecial 24, 3) := by decide +kernel
theorem pd__Ljava_lang_String_Ljava_lang_String_Z_V : parseMethodDescriptor "(Ljava/lang/String;Ljava/lang/String;Z)V" = some ⟨[(.object "java/lang/String"), (.object "java/lang/String"), .boolean], none⟩ := by decide +kernel
theorem ef_rmOfNN1 (m : MethodId)  : entryFrame m #[.null, .null, (.int (1 : Int32))] 3 = mkF m 0 #[.val .null, .val .null, .val (.int (1 : Int32))] [] := by first | (simp [entryFrame, mkF, argsToLocals, Value.category]; done) | rfl
set_option maxRecDepth 65536 in
set_option maxHeartbeats 40000000 in
theorem rmOfNN1 (l : Launch) (Z : State) (a0 : Array Value) (hw : ∀ d ∈ tables_1, d.before a0 Z = true) (ws : List Jvm.Cond) (sn sd : Addr) (h0 : Heap) (n0 : Nat) (O0 : Old Z n0 h0) :
    MetFree l (⟨"com/example/nimble_container/nimblecontainer/creation/MethodNaming", "of", "(Ljava/lang/String;Ljava/lang/String;Z)Lcom/example/nimble_container/nimblecontainer/creation/MethodNaming;"⟩ : MethodName) (head1 (Jvm.Cond.code (⟨"com/example/nimble_container/nimblecontainer/creation/MethodNaming", "of", "(Ljava/lang/String;Ljava/lang/String;Z)Lcom/example/nimble_container/nimblecontainer/creation/MethodNaming;"⟩ : MethodName) prog_6_method_2_code 3 (some (.object "com/example/nimble_container/nimblecontainer/creation/MethodNaming")) :: ws) ({ frames := 2, cells := 1, slots := 3, locals := 28 } : Room)) (fun aa_ U => aa_ = #[.null, .null, (.int (1 : Int32))] ∧ Z.Warmed39 U.vm ∧ U.heap = h0) (fun _ _ _ _ _ => True) (fun _ U o U' => ∃ v L, o = .returned v ∧ QOfNN1 Z sn sd h0 n0 v U'.heap L ∧ FrameEnd U o U' L ({ frames := 2, cells := 1, slots := 3, locals := 28 } : Room).cells ({ frames := 2, cells := 1, slots := 3, locals := 28 } : Room).slots) := by
  refine MetFree.of_bodySF (plainFor_of_name pn_com_example_nimble_container_nimblecontainer_creation_MethodNaming) hisR ?_
  intro p e s m args below meth c s₁ Bd hml0 hP hK
  obtain ⟨rfl, hZ, hh⟩ := hP
  have hx := Bd.exec
  have hby := Bd.bytes
  have hml : c.maxLocals = 3 := hml0
  have hown : s.vm.findClass "com/example/nimble_container/nimblecontainer/creation/MethodNaming" = some m.cls := findClass_of_methodNamed Bd.named
  have hnm := (name_of_methodNamed Bd.named Bd.method).1
  have X0 : Stand p l e ({ frames := 2, cells := 1, slots := 3, locals := 28 } : Room) s m #[.null, .null, (.int (1 : Int32))] below meth c s₁ [] 0 0 := Stand.of_body Bd
  have e0 : s₁.heap = h0 := by rw [← hh, Bd.state]; rfl
  have N0 := Fr.nil n0
  have Z0 : n0 ≤ h0.size := O0.1 ▸ O0.2.1
  have K0 : Keep h0 h0 [] := Keep.refl _ _
  have pre0 : ∀ tgt_, Steps p.tables e below (s₁.setTop (mkF m 0 #[.val .null, .val .null, .val (.int (1 : Int32))] [])) tgt_ → Steps p.tables e below (s₁.setTop (entryFrame m #[.null, .null, (.int (1 : Int32))] 3)) tgt_ := fun tgt_ k => castTop (ef_rmOfNN1 m ) k
  obtain ⟨T146, h146, X146, e146, E146, A146, D146, -, st146⟩ := newO X0 hx hZ hown (hw _ (List.mem_of_getElem? (i := 38) rfl)) (hw _ (List.mem_of_getElem? (i := 39) rfl)) (hw _ (List.mem_of_getElem? (i := 36) rfl)) e0 (g := (mkF m 18 #[.val .null, .val .null, .val (.int (1 : Int32))] [])) rfl (hb hby d_prog_6_method_2_code_18) (by decide) (by decide)
  obtain ⟨b146, g146⟩ : ∃ z, z = h0.size := ⟨_, rfl⟩
  rw [← g146] at A146 D146 st146
  have geb146 : h0.size ≤ b146 := Nat.le_of_eq g146.symm
  have g_b146 : n0 ≤ b146 := Nat.le_trans Z0 geb146
  have sz_b146 : h0.size ≤ b146 := Nat.le_trans K0.1 geb146
  have O147 : Old Z n0 h146 := O0.ext E146
  have Z147 : n0 ≤ h146.size := Nat.le_trans Z0 E146.1
  have K147 : Keep h0 h146 [] := K0.ext E146
  have f148 : Fld Z h146 b146 "com/example/nimble_container/nimblecontainer/creation/MethodNaming" "named" "Ljava/lang/String;" .null := D146 (Or.inr (hw _ (List.mem_of_getElem? (i := 45) rfl))) (ty := (.object "java/lang/String")) (by decide)
  have f149 : Fld Z h146 b146 "com/example/nimble_container/nimblecontainer/creation/MethodNaming" "byDefault" "Ljava/lang/String;" .null := D146 (Or.inr (hw _ (List.mem_of_getElem? (i := 47) rfl))) (ty := (.object "java/lang/String")) (by decide)
  have f150 : Fld Z h146 b146 "com/example/nimble_container/nimblecontainer/creation/MethodNaming" "inferred" "Z" (.int (0 : Int32)) := D146 (Or.inr (hw _ (List.mem_of_getElem? (i := 49) rfl))) (ty := .boolean) (by decide)
  obtain ⟨_, _, ⟨T151, L151, k151, n151⟩, -, X151, ⟨Lc151, hQ151, l151, y151, z151⟩, st151⟩ := X146.specialBack hx (y := (⟨"com/example/nimble_container/nimblecontainer/creation/MethodNaming", "<init>", "(Ljava/lang/String;Ljava/lang/String;Z)V"⟩ : MethodName)) rfl hown (mvT hZ (hw _ (List.mem_of_getElem? (i := 40) rfl))) (mvT hZ (hw _ (List.mem_of_getElem? (i := 41) rfl))) (mvT hZ (hw _ (List.mem_of_getElem? (i := 42) rfl))) (by decide) (backOf (W := 1) (rmMINN1 l Z a0 hw [] b146 sn sd h146 n0 O147 g_b146 A146 f148 f149 f150) hZ (hw _ (List.mem_of_getElem? (i := 42) rfl)) (hw _ (List.mem_of_getElem? (i := 36) rfl)) (by decide) (by decide)) (g := (mkF m 25 #[.val .null, .val .null, .val (.int (1 : Int32))] [(.int (1 : Int32)), .null, .null, (.ref b146), (.ref b146)])) rfl (by rw [hml]; rfl) (Steps.refl _) (a := b146) (argsL := [.null, .null, (.int (1 : Int32))]) (rest := [(.ref b146)]) (lenOf pd__Ljava_lang_String_Ljava_lang_String_Z_V rfl) rfl (by show 2 * 0 + _ ≤ _; exact Nat.le_of_eq rfl) (hb hby d_prog_6_method_2_code_25) (fun _ _ => ⟨rfl, e146, (by decide : 1 + 0 ≤ _), (by decide : 3 + 0 ≤ _)⟩)
  dsimp only [Pt.U, Pt.locs, Pt.cells, Pt.slots] at X151 l151 y151 z151 st151 hQ151
  subst l151 y151 z151
  obtain ⟨rfl, N151q, K151k, g1151, g2151, g3151, g4151⟩ := hQ151
  have N151 := Fr.app N0 N151q
  have O152 : Old Z n0 T151.heap := O147.keep K151k (allS g_b146 all0)
  have Z152 : n0 ≤ T151.heap.size := Nat.le_trans Z147 K151k.1
  have K152 : Keep h0 T151.heap [] := K147.trans K151k (allS (Or.inr sz_b146) all0)
  have f153 : Exa Z T151.heap b146 "com/example/nimble_container/nimblecontainer/creation/MethodNaming" := A146.keep K151k
  obtain ⟨fs, hr, hrun, hended, hW, hsame⟩ := X151.leave (v := some (.ref b146)) (fun h => by rw [Bd.returns] at h; cases h)
  refine ⟨_, _, pre0 _ ?_, hrun, hended, _, _, rfl, ?_, ⟨_, rfl⟩, hW, hsame.mono (by decide) (by decide)⟩
  · show Steps p.tables e below (s₁.setTop (mkF m 0 #[.val .null, .val .null, .val (.int (1 : Int32))] [])) _
    refine XS.aloadN X0.here hx rfl (hb hby d_prog_6_method_2_code_0) rfl rfl ?_
    show Steps p.tables e below (s₁.setTop (mkF m 1 #[.val .null, .val .null, .val (.int (1 : Int32))] [.null])) _
    refine XS.ifnonnullNo X0.here hx rfl (hb hby d_prog_6_method_2_code_1) rfl ?_
    show Steps p.tables e below (s₁.setTop (mkF m 4 #[.val .null, .val .null, .val (.int (1 : Int32))] [])) _
    refine XS.aloadN X0.here hx rfl (hb hby d_prog_6_method_2_code_4) rfl rfl ?_
    show Steps p.tables e below (s₁.setTop (mkF m 5 #[.val .null, .val .null, .val (.int (1 : Int32))] [.null])) _
    refine XS.ifnonnullNo X0.here hx rfl (hb hby d_prog_6_method_2_code_5) rfl ?_
    show Steps p.tables e below (s₁.setTop (mkF m 8 #[.val .null, .val .null, .val (.int (1 : Int32))] [])) _
    refine XS.iloadN X0.here hx rfl (hb hby d_prog_6_method_2_code_8) rfl ?_
    show Steps p.tables e below (s₁.setTop (mkF m 9 #[.val .null, .val .null, .val (.int (1 : Int32))] [(.int (1 : Int32))])) _
    refine XS.ifYes X0.here hx rfl (pc0 := 9) (pc' := 18) rfl (hb hby d_prog_6_method_2_code_9) rfl ((if0 _ _).trans (feq (by decide : ¬ ((1 : Int32) = (0 : Int32)))).2) (by decide) (by decide) ?_
    show Steps p.tables e below (s₁.setTop (mkF m 18 #[.val .null, .val .null, .val (.int (1 : Int32))] [])) _
    refine st146 _ ?_
    show Steps p.tables e below (T146.setTop (mkF m 21 #[.val .null, .val .null, .val (.int (1 : Int32))] [(.ref b146)])) _
    refine XS.dup X146.here hx rfl (hb hby d_prog_6_method_2_code_21) rfl rfl ?_
    show Steps p.tables e below (T146.setTop (mkF m 22 #[.val .null, .val .null, .val (.int (1 : Int32))] [(.ref b146), (.ref b146)])) _
    refine XS.aloadN X146.here hx rfl (hb hby d_prog_6_method_2_code_22) rfl rfl ?_
    show Steps p.tables e below (T146.setTop (mkF m 23 #[.val .null, .val .null, .val (.int (1 : Int32))] [.null, (.ref b146), (.ref b146)])) _
    refine XS.aloadN X146.here hx rfl (hb hby d_prog_6_method_2_code_23) rfl rfl ?_
    show Steps p.tables e below (T146.setTop (mkF m 24 #[.val .null, .val .null, .val (.int (1 : Int32))] [.null, .null, (.ref b146), (.ref b146)])) _
    refine XS.iloadN X146.here hx rfl (hb hby d_prog_6_method_2_code_24) rfl ?_
    show Steps p.tables e below (T146.setTop (mkF m 25 #[.val .null, .val .null, .val (.int (1 : Int32))] [(.int (1 : Int32)), .null, .null, (.ref b146), (.ref b146)])) _
    refine st151.trans ?_
    show Steps p.tables e below (T151.setTop (mkF m 28 #[.val .null, .val .null, .val (.int (1 : Int32))] [(.ref b146)])) _
    jvm_step X151.here [X151.here.top, hx, (hb hby d_prog_6_method_2_code_28), X151.method', Bd.returns, Value.isRef, FieldType.isReference]
    first | (intro acts; rw [hr _ acts rfl rfl rfl]) | rw [hr _ _ rfl rfl rfl]
    exact Steps.refl _
  · show QOfNN1 Z sn sd h0 n0 _ T151.heap _
    exact ⟨b146, rfl, N151, K152, sz_b146, g1151, g2151, g3151, g4151⟩
def QMINR0 (Z : State) (x sn sd : Addr) (h0 : Heap) (n0 : Nat) (v : Option Value) (h : Heap) (L : List Loc) : Prop := v = none ∧ Fr n0 L ∧ Keep h0 h [x] ∧ Exa Z h x "com/example/nimble_container/nimblecontainer/creation/MethodNaming" ∧ Fld Z h x "com/example/nimble_container/nimblecontainer/creation/MethodNaming" "named" "Ljava/lang/String;" .null ∧ Fld Z h x "com/example/nimble_container/nimblecontainer/creation/MethodNaming" "byDefault" "Ljava/lang/String;" (.ref sd) ∧ Fld Z h x "com/example/nimble_container/nimblecontainer/creation/MethodNaming" "inferred" "Z" (.int (0 : Int32))
theorem ef_rmMINR0 (m : MethodId) (x0 : Addr) (x2 : Addr) : entryFrame m #[(.ref x0), .null, (.ref x2), (.int (0 : Int32))] 4 = mkF m 0 #[.val (.ref x0), .val .null, .val (.ref x2), .val (.int (0 : Int32))] [] := by first | (simp [entryFrame, mkF, argsToLocals, Value.category]; done) | rfl
set_option maxRecDepth 65536 in
set_option maxHeartbeats 40000000 in
theorem rmMINR0 (l : Launch) (Z : State) (a0 : Array Value) (hw : ∀ d ∈ tables_1, d.before a0 Z = true) (ws : List Jvm.Cond) (x sn sd : Addr) (h0 : Heap) (n0 : Nat) (O0 : Old Z n0 h0) (g_x : n0 ≤ x) (Ex : Exa Z h0 x "com/example/nimble_container/nimblecontainer/creation/MethodNaming") (F0 : Fld Z h0 x "com/example/nimble_container/nimblecontainer/creation/MethodNaming" "named" "Ljava/lang/String;" .null) (F1 : Fld Z h0 x "com/example/nimble_container/nimblecontainer/creation/MethodNaming" "byDefault" "Ljava/lang/String;" .null) (F2 : Fld Z h0 x "com/example/nimble_container/nimblecontainer/creation/MethodNaming" "inferred" "Z" (.int (0 : Int32))) :
    MetFree l (⟨"com/example/nimble_container/nimblecontainer/creation/MethodNaming", "<init>", "(Ljava/lang/String;Ljava/lang/String;Z)V"⟩ : MethodName) (head1 (Jvm.Cond.code (⟨"com/example/nimble_container/nimblecontainer/creation/MethodNaming", "<init>", "(Ljava/lang/String;Ljava/lang/String;Z)V"⟩ : MethodName) prog_6_method_1_code 4 none :: ws) ({ frames := 1, cells := 0, slots := 0, locals := 12 } : Room)) (fun aa_ U => aa_ = #[(.ref x), .null, (.ref sd), (.int (0 : Int32))] ∧ Z.Warmed39 U.vm ∧ U.heap = h0) (fun _ _ _ _ _ => True) (fun _ U o U' => ∃ v L, o = .returned v ∧ QMINR0 Z x sn sd h0 n0 v U'.heap L ∧ FrameEnd U o U' L ({ frames := 1, cells := 0, slots := 0, locals := 12 } : Room).cells ({ frames := 1, cells := 0, slots := 0, locals := 12 } : Room).slots) := by
  refine MetFree.of_bodySF (plainFor_of_name pn_com_example_nimble_container_nimblecontainer_creation_MethodNaming) hisR ?_
  intro p e s m args below meth c s₁ Bd hml0 hP hK
  obtain ⟨rfl, hZ, hh⟩ := hP
  have hx := Bd.exec
  have hby := Bd.bytes
  have hml : c.maxLocals = 4 := hml0
  have hown : s.vm.findClass "com/example/nimble_container/nimblecontainer/creation/MethodNaming" = some m.cls := findClass_of_methodNamed Bd.named
  have hnm := (name_of_methodNamed Bd.named Bd.method).1
  have X0 : Stand p l e ({ frames := 1, cells := 0, slots := 0, locals := 12 } : Room) s m #[(.ref x), .null, (.ref sd), (.int (0 : Int32))] below meth c s₁ [] 0 0 := Stand.of_body Bd
  have e0 : s₁.heap = h0 := by rw [← hh, Bd.state]; rfl
  have N0 := Fr.nil n0
  have Z0 : n0 ≤ h0.size := O0.1 ▸ O0.2.1
  have K0 : Keep h0 h0 [x] := Keep.refl _ _
  have pre0 : ∀ tgt_, Steps p.tables e below (s₁.setTop (mkF m 0 #[.val (.ref x), .val .null, .val (.ref sd), .val (.int (0 : Int32))] [])) tgt_ → Steps p.tables e below (s₁.setTop (entryFrame m #[(.ref x), .null, (.ref sd), (.int (0 : Int32))] 4)) tgt_ := fun tgt_ k => castTop (ef_rmMINR0 m x sd) k
  obtain ⟨T154, X154, e154, st154⟩ := initO X0 hx hZ hown (hw _ (List.mem_of_getElem? (i := 43) rfl)) (hw _ (List.mem_of_getElem? (i := 16) rfl)) (hw _ (List.mem_of_getElem? (i := 17) rfl)) e0 (g := (mkF m 1 #[.val (.ref x), .val .null, .val (.ref sd), .val (.int (0 : Int32))] [(.ref x)])) rfl (by rw [hml]; rfl) rfl (hb hby d_prog_6_method_1_code_1) (by decide) (W := 0) (by show 2 * 0 + _ ≤ _; exact Nat.le_of_eq rfl) (by decide)
  obtain ⟨T155, h155, X155, e155, W155, st155⟩ := putF X154 hx hZ hown (host := "") (Or.inl (hw _ (List.mem_of_getElem? (i := 44) rfl))) Via.refl e154 F0 Ex (Or.inr ⟨(hw _ (List.mem_of_getElem? (i := 45) rfl)), rfl, hnm⟩) (hw _ (List.mem_of_getElem? (i := 39) rfl)) (ty := (.object "java/lang/String")) (by decide) rfl rfl (g := (mkF m 6 #[.val (.ref x), .val .null, .val (.ref sd), .val (.int (0 : Int32))] [.null, (.ref x)])) rfl rfl (hb hby d_prog_6_method_1_code_6)
  have N155 := Fr.snoc X155 N0 g_x
  have O156 : Old Z n0 h155 := O0.wr W155 g_x
  have Z156 : n0 ≤ h155.size := Nat.le_trans Z0 (Keep.of_wr W155).1
  have K156 : Keep h0 h155 [x] := K0.wr W155 (Or.inl (List.mem_of_getElem? (i := 0) rfl))
  have f157 : Exa Z h155 x "com/example/nimble_container/nimblecontainer/creation/MethodNaming" := Ex.wr W155
  have f158 : Fld Z h155 x "com/example/nimble_container/nimblecontainer/creation/MethodNaming" "named" "Ljava/lang/String;" .null := F0.same W155
  have f159 : Fld Z h155 x "com/example/nimble_container/nimblecontainer/creation/MethodNaming" "byDefault" "Ljava/lang/String;" .null := F1.other W155 (Or.inr (slot_ne (Or.inr (hw _ (List.mem_of_getElem? (i := 47) rfl))) (Or.inr (hw _ (List.mem_of_getElem? (i := 45) rfl))) (by decide) (t := (.object "java/lang/String")) (t' := (.object "java/lang/String")) (by decide) (by decide)))
  have f160 : Fld Z h155 x "com/example/nimble_container/nimblecontainer/creation/MethodNaming" "inferred" "Z" (.int (0 : Int32)) := F2.other W155 (Or.inr (slot_ne (Or.inr (hw _ (List.mem_of_getElem? (i := 49) rfl))) (Or.inr (hw _ (List.mem_of_getElem? (i := 45) rfl))) (by decide) (t := .boolean) (t' := (.object "java/lang/String")) (by decide) (by decide)))
  obtain ⟨T161, h161, X161, e161, W161, st161⟩ := putF X155 hx hZ hown (host := "") (Or.inl (hw _ (List.mem_of_getElem? (i := 46) rfl))) Via.refl e155 f159 f157 (Or.inr ⟨(hw _ (List.mem_of_getElem? (i := 47) rfl)), rfl, hnm⟩) (hw _ (List.mem_of_getElem? (i := 39) rfl)) (ty := (.object "java/lang/String")) (by decide) rfl rfl (g := (mkF m 11 #[.val (.ref x), .val .null, .val (.ref sd), .val (.int (0 : Int32))] [(.ref sd), (.ref x)])) rfl rfl (hb hby d_prog_6_method_1_code_11)
  have N161 := Fr.snoc X161 N155 g_x
  have O162 : Old Z n0 h161 := O156.wr W161 g_x
  have Z162 : n0 ≤ h161.size := Nat.le_trans Z156 (Keep.of_wr W161).1
  have K162 : Keep h0 h161 [x] := K156.wr W161 (Or.inl (List.mem_of_getElem? (i := 0) rfl))
  have f163 : Exa Z h161 x "com/example/nimble_container/nimblecontainer/creation/MethodNaming" := f157.wr W161
  have f164 : Fld Z h161 x "com/example/nimble_container/nimblecontainer/creation/MethodNaming" "named" "Ljava/lang/String;" .null := f158.other W161 (Or.inr (slot_ne (Or.inr (hw _ (List.mem_of_getElem? (i := 45) rfl))) (Or.inr (hw _ (List.mem_of_getElem? (i := 47) rfl))) (by decide) (t := (.object "java/lang/String")) (t' := (.object "java/lang/String")) (by decide) (by decide)))
  have f165 : Fld Z h161 x "com/example/nimble_container/nimblecontainer/creation/MethodNaming" "byDefault" "Ljava/lang/String;" (.ref sd) := f159.same W161
  have f166 : Fld Z h161 x "com/example/nimble_container/nimblecontainer/creation/MethodNaming" "inferred" "Z" (.int (0 : Int32)) := f160.other W161 (Or.inr (slot_ne (Or.inr (hw _ (List.mem_of_getElem? (i := 49) rfl))) (Or.inr (hw _ (List.mem_of_getElem? (i := 47) rfl))) (by decide) (t := .boolean) (t' := (.object "java/lang/String")) (by decide) (by decide)))
  obtain ⟨T167, h167, X167, e167, W167, st167⟩ := putF X161 hx hZ hown (host := "") (Or.inl (hw _ (List.mem_of_getElem? (i := 48) rfl))) Via.refl e161 f166 f163 (Or.inr ⟨(hw _ (List.mem_of_getElem? (i := 49) rfl)), rfl, hnm⟩) (hw _ (List.mem_of_getElem? (i := 39) rfl)) (ty := .boolean) (by decide) rfl rfl (g := (mkF m 16 #[.val (.ref x), .val .null, .val (.ref sd), .val (.int (0 : Int32))] [(.int (0 : Int32)), (.ref x)])) rfl rfl (hb hby d_prog_6_method_1_code_16)
  have N167 := Fr.snoc X167 N161 g_x
  have O168 : Old Z n0 h167 := O162.wr W167 g_x
  have Z168 : n0 ≤ h167.size := Nat.le_trans Z162 (Keep.of_wr W167).1
  have K168 : Keep h0 h167 [x] := K162.wr W167 (Or.inl (List.mem_of_getElem? (i := 0) rfl))
  have f169 : Exa Z h167 x "com/example/nimble_container/nimblecontainer/creation/MethodNaming" := f163.wr W167
  have f170 : Fld Z h167 x "com/example/nimble_container/nimblecontainer/creation/MethodNaming" "named" "Ljava/lang/String;" .null := f164.other W167 (Or.inr (slot_ne (Or.inr (hw _ (List.mem_of_getElem? (i := 45) rfl))) (Or.inr (hw _ (List.mem_of_getElem? (i := 49) rfl))) (by decide) (t := (.object "java/lang/String")) (t' := .boolean) (by decide) (by decide)))
  have f171 : Fld Z h167 x "com/example/nimble_container/nimblecontainer/creation/MethodNaming" "byDefault" "Ljava/lang/String;" (.ref sd) := f165.other W167 (Or.inr (slot_ne (Or.inr (hw _ (List.mem_of_getElem? (i := 47) rfl))) (Or.inr (hw _ (List.mem_of_getElem? (i := 49) rfl))) (by decide) (t := (.object "java/lang/String")) (t' := .boolean) (by decide) (by decide)))
  have f172 : Fld Z h167 x "com/example/nimble_container/nimblecontainer/creation/MethodNaming" "inferred" "Z" (.int (0 : Int32)) := f166.same W167
  obtain ⟨fs, hr, hrun, hended, hW, hsame⟩ := X167.leave (v := none) (fun _ => rfl)
  refine ⟨_, _, pre0 _ ?_, hrun, hended, _, _, rfl, ?_, ⟨_, rfl⟩, hW, hsame.mono (by decide) (by decide)⟩
  · show Steps p.tables e below (s₁.setTop (mkF m 0 #[.val (.ref x), .val .null, .val (.ref sd), .val (.int (0 : Int32))] [])) _
    refine XS.aloadN X0.here hx rfl (hb hby d_prog_6_method_1_code_0) rfl rfl ?_
    show Steps p.tables e below (s₁.setTop (mkF m 1 #[.val (.ref x), .val .null, .val (.ref sd), .val (.int (0 : Int32))] [(.ref x)])) _
    refine st154 _ ?_
    show Steps p.tables e below (T154.setTop (mkF m 4 #[.val (.ref x), .val .null, .val (.ref sd), .val (.int (0 : Int32))] [])) _
    refine XS.aloadN X154.here hx rfl (hb hby d_prog_6_method_1_code_4) rfl rfl ?_
    show Steps p.tables e below (T154.setTop (mkF m 5 #[.val (.ref x), .val .null, .val (.ref sd), .val (.int (0 : Int32))] [(.ref x)])) _
    refine XS.aloadN X154.here hx rfl (hb hby d_prog_6_method_1_code_5) rfl rfl ?_
    show Steps p.tables e below (T154.setTop (mkF m 6 #[.val (.ref x), .val .null, .val (.ref sd), .val (.int (0 : Int32))] [.null, (.ref x)])) _
    refine st155 _ ?_
    show Steps p.tables e below (T155.setTop (mkF m 9 #[.val (.ref x), .val .null, .val (.ref sd), .val (.int (0 : Int32))] [])) _
    refine XS.aloadN X155.here hx rfl (hb hby d_prog_6_method_1_code_9) rfl rfl ?_
    show Steps p.tables e below (T155.setTop (mkF m 10 #[.val (.ref x), .val .null, .val (.ref sd), .val (.int (0 : Int32))] [(.ref x)])) _
    refine XS.aloadN X155.here hx rfl (hb hby d_prog_6_method_1_code_10) rfl rfl ?_
    show Steps p.tables e below (T155.setTop (mkF m 11 #[.val (.ref x), .val .null, .val (.ref sd), .val (.int (0 : Int32))] [(.ref sd), (.ref x)])) _
    refine st161 _ ?_
    show Steps p.tables e below (T161.setTop (mkF m 14 #[.val (.ref x), .val .null, .val (.ref sd), .val (.int (0 : Int32))] [])) _
    refine XS.aloadN X161.here hx rfl (hb hby d_prog_6_method_1_code_14) rfl rfl ?_
    show Steps p.tables e below (T161.setTop (mkF m 15 #[.val (.ref x), .val .null, .val (.ref sd), .val (.int (0 : Int32))] [(.ref x)])) _
    refine XS.iloadN X161.here hx rfl (hb hby d_prog_6_method_1_code_15) rfl ?_
    show Steps p.tables e below (T161.setTop (mkF m 16 #[.val (.ref x), .val .null, .val (.ref sd), .val (.int (0 : Int32))] [(.int (0 : Int32)), (.ref x)])) _
    refine st167 _ ?_
    show Steps p.tables e below (T167.setTop (mkF m 19 #[.val (.ref x), .val .null, .val (.ref sd), .val (.int (0 : Int32))] [])) _
    exact X167.returnOut hx Bd.returns (hb hby d_prog_6_method_1_code_19) hr
  · show QMINR0 Z x sn sd h0 n0 _ T167.heap _
    rw [e167]
    exact ⟨rfl, N167, K168, f169, f170, f171, f172⟩
def QOfNR0 (Z : State) (sn sd : Addr) (h0 : Heap) (n0 : Nat) (v : Option Value) (h : Heap) (L : List Loc) : Prop := ∃ x : Addr, v = some (.ref x) ∧ Fr n0 L ∧ Keep h0 h [] ∧ h0.size ≤ x ∧ Exa Z h x "com/example/nimble_container/nimblecontainer/creation/MethodNaming" ∧ Fld Z h x "com/example/nimble_container/nimblecontainer/creation/MethodNaming" "named" "Ljava/lang/String;" .null ∧ Fld Z h x "com/example/nimble_container/nimblecontainer/creation/MethodNaming" "byDefault" "Ljava/lang/String;" (.ref sd) ∧ Fld Z h x "com/example/nimble_container/nimblecontainer/creation/MethodNaming" "inferred" "Z" (.int (0 : Int32))
theorem ef_rmOfNR0 (m : MethodId) (x1 : Addr) : entryFrame m #[.null, (.ref x1), (.int (0 : Int32))] 3 = mkF m 0 #[.val .null, .val (.ref x1), .val (.int (0 : Int32))] [] := by first | (simp [entryFrame, mkF, argsToLocals, Value.category]; done) | rfl
set_option maxRecDepth 65536 in
set_option maxHeartbeats 40000000 in
theorem rmOfNR0 (l : Launch) (Z : State) (a0 : Array Value) (hw : ∀ d ∈ tables_1, d.before a0 Z = true) (ws : List Jvm.Cond) (sn sd : Addr) (h0 : Heap) (n0 : Nat) (O0 : Old Z n0 h0) :
    MetFree l (⟨"com/example/nimble_container/nimblecontainer/creation/MethodNaming", "of", "(Ljava/lang/String;Ljava/lang/String;Z)Lcom/example/nimble_container/nimblecontainer/creation/MethodNaming;"⟩ : MethodName) (head1 (Jvm.Cond.code (⟨"com/example/nimble_container/nimblecontainer/creation/MethodNaming", "of", "(Ljava/lang/String;Ljava/lang/String;Z)Lcom/example/nimble_container/nimblecontainer/creation/MethodNaming;"⟩ : MethodName) prog_6_method_2_code 3 (some (.object "com/example/nimble_container/nimblecontainer/creation/MethodNaming")) :: ws) ({ frames := 2, cells := 1, slots := 3, locals := 28 } : Room)) (fun aa_ U => aa_ = #[.null, (.ref sd), (.int (0 : Int32))] ∧ Z.Warmed39 U.vm ∧ U.heap = h0) (fun _ _ _ _ _ => True) (fun _ U o U' => ∃ v L, o = .returned v ∧ QOfNR0 Z sn sd h0 n0 v U'.heap L ∧ FrameEnd U o U' L ({ frames := 2, cells := 1, slots := 3, locals := 28 } : Room).cells ({ frames := 2, cells := 1, slots := 3, locals := 28 } : Room).slots) := by
  refine MetFree.of_bodySF (plainFor_of_name pn_com_example_nimble_container_nimblecontainer_creation_MethodNaming) hisR ?_
  intro p e s m args below meth c s₁ Bd hml0 hP hK
  obtain ⟨rfl, hZ, hh⟩ := hP
  have hx := Bd.exec
  have hby := Bd.bytes
  have hml : c.maxLocals = 3 := hml0
  have hown : s.vm.findClass "com/example/nimble_container/nimblecontainer/creation/MethodNaming" = some m.cls := findClass_of_methodNamed Bd.named
  have hnm := (name_of_methodNamed Bd.named Bd.method).1
  have X0 : Stand p l e ({ frames := 2, cells := 1, slots := 3, locals := 28 } : Room) s m #[.null, (.ref sd), (.int (0 : Int32))] below meth c s₁ [] 0 0 := Stand.of_body Bd
  have e0 : s₁.heap = h0 := by rw [← hh, Bd.state]; rfl
  have N0 := Fr.nil n0
  have Z0 : n0 ≤ h0.size := O0.1 ▸ O0.2.1
  have K0 : Keep h0 h0 [] := Keep.refl _ _
  have pre0 : ∀ tgt_, Steps p.tables e below (s₁.setTop (mkF m 0 #[.val .null, .val (.ref sd), .val (.int (0 : Int32))] [])) tgt_ → Steps p.tables e below (s₁.setTop (entryFrame m #[.null, (.ref sd), (.int (0 : Int32))] 3)) tgt_ := fun tgt_ k => castTop (ef_rmOfNR0 m sd) k
  obtain ⟨T173, h173, X173, e173, E173, A173, D173, -, st173⟩ := newO X0 hx hZ hown (hw _ (List.mem_of_getElem? (i := 38) rfl)) (hw _ (List.mem_of_getElem? (i := 39) rfl)) (hw _ (List.mem_of_getElem? (i := 36) rfl)) e0 (g := (mkF m 18 #[.val .null, .val (.ref sd), .val (.int (0 : Int32))] [])) rfl (hb hby d_prog_6_method_2_code_18) (by decide) (by decide)
  obtain ⟨b173, g173⟩ : ∃ z, z = h0.size := ⟨_, rfl⟩
  rw [← g173] at A173 D173 st173
  have geb173 : h0.size ≤ b173 := Nat.le_of_eq g173.symm
  have g_b173 : n0 ≤ b173 := Nat.le_trans Z0 geb173
  have sz_b173 : h0.size ≤ b173 := Nat.le_trans K0.1 geb173
  have O174 : Old Z n0 h173 := O0.ext E173
  have Z174 : n0 ≤ h173.size := Nat.le_trans Z0 E173.1
  have K174 : Keep h0 h173 [] := K0.ext E173
  have f175 : Fld Z h173 b173 "com/example/nimble_container/nimblecontainer/creation/MethodNaming" "named" "Ljava/lang/String;" .null := D173 (Or.inr (hw _ (List.mem_of_getElem? (i := 45) rfl))) (ty := (.object "java/lang/String")) (by decide)
  have f176 : Fld Z h173 b173 "com/example/nimble_container/nimblecontainer/creation/MethodNaming" "byDefault" "Ljava/lang/String;" .null := D173 (Or.inr (hw _ (List.mem_of_getElem? (i := 47) rfl))) (ty := (.object "java/lang/String")) (by decide)
  have f177 : Fld Z h173 b173 "com/example/nimble_container/nimblecontainer/creation/MethodNaming" "inferred" "Z" (.int (0 : Int32)) := D173 (Or.inr (hw _ (List.mem_of_getElem? (i := 49) rfl))) (ty := .boolean) (by decide)
  obtain ⟨_, _, ⟨T178, L178, k178, n178⟩, -, X178, ⟨Lc178, hQ178, l178, y178, z178⟩, st178⟩ := X173.specialBack hx (y := (⟨"com/example/nimble_container/nimblecontainer/creation/MethodNaming", "<init>", "(Ljava/lang/String;Ljava/lang/String;Z)V"⟩ : MethodName)) rfl hown (mvT hZ (hw _ (List.mem_of_getElem? (i := 40) rfl))) (mvT hZ (hw _ (List.mem_of_getElem? (i := 41) rfl))) (mvT hZ (hw _ (List.mem_of_getElem? (i := 42) rfl))) (by decide) (backOf (W := 1) (rmMINR0 l Z a0 hw [] b173 sn sd h173 n0 O174 g_b173 A173 f175 f176 f177) hZ (hw _ (List.mem_of_getElem? (i := 42) rfl)) (hw _ (List.mem_of_getElem? (i := 36) rfl)) (by decide) (by decide)) (g := (mkF m 25 #[.val .null, .val (.ref sd), .val (.int (0 : Int32))] [(.int (0 : Int32)), (.ref sd), .null, (.ref b173), (.ref b173)])) rfl (by rw [hml]; rfl) (Steps.refl _) (a := b173) (argsL := [.null, (.ref sd), (.int (0 : Int32))]) (rest := [(.ref b173)]) (lenOf pd__Ljava_lang_String_Ljava_lang_String_Z_V rfl) rfl (by show 2 * 0 + _ ≤ _; exact Nat.le_of_eq rfl) (hb hby d_prog_6_method_2_code_25) (fun _ _ => ⟨rfl, e173, (by decide : 1 + 0 ≤ _), (by decide : 3 + 0 ≤ _)⟩)
  dsimp only [Pt.U, Pt.locs, Pt.cells, Pt.slots] at X178 l178 y178 z178 st178 hQ178
  subst l178 y178 z178
  obtain ⟨rfl, N178q, K178k, g1178, g2178, g3178, g4178⟩ := hQ178
  have N178 := Fr.app N0 N178q
  have O179 : Old Z n0 T178.heap := O174.keep K178k (allS g_b173 all0)
  have Z179 : n0 ≤ T178.heap.size := Nat.le_trans Z174 K178k.1
  have K179 : Keep h0 T178.heap [] := K174.trans K178k (allS (Or.inr sz_b173) all0)
  have f180 : Exa Z T178.heap b173 "com/example/nimble_container/nimblecontainer/creation/MethodNaming" := A173.keep K178k
  obtain ⟨fs, hr, hrun, hended, hW, hsame⟩ := X178.leave (v := some (.ref b173)) (fun h => by rw [Bd.returns] at h; cases h)
  refine ⟨_, _, pre0 _ ?_, hrun, hended, _, _, rfl, ?_, ⟨_, rfl⟩, hW, hsame.mono (by decide) (by decide)⟩
  · show Steps p.tables e below (s₁.setTop (mkF m 0 #[.val .null, .val (.ref sd), .val (.int (0 : Int32))] [])) _
    refine XS.aloadN X0.here hx rfl (hb hby d_prog_6_method_2_code_0) rfl rfl ?_
    show Steps p.tables e below (s₁.setTop (mkF m 1 #[.val .null, .val (.ref sd), .val (.int (0 : Int32))] [.null])) _
    refine XS.ifnonnullNo X0.here hx rfl (hb hby d_prog_6_method_2_code_1) rfl ?_
    show Steps p.tables e below (s₁.setTop (mkF m 4 #[.val .null, .val (.ref sd), .val (.int (0 : Int32))] [])) _
    refine XS.aloadN X0.here hx rfl (hb hby d_prog_6_method_2_code_4) rfl rfl ?_
    show Steps p.tables e below (s₁.setTop (mkF m 5 #[.val .null, .val (.ref sd), .val (.int (0 : Int32))] [(.ref sd)])) _
    refine XS.ifnonnullYes X0.here hx rfl (pc0 := 5) (pc' := 18) rfl (hb hby d_prog_6_method_2_code_5) rfl (by decide) (by decide) ?_
    show Steps p.tables e below (s₁.setTop (mkF m 18 #[.val .null, .val (.ref sd), .val (.int (0 : Int32))] [])) _
    refine st173 _ ?_
    show Steps p.tables e below (T173.setTop (mkF m 21 #[.val .null, .val (.ref sd), .val (.int (0 : Int32))] [(.ref b173)])) _
    refine XS.dup X173.here hx rfl (hb hby d_prog_6_method_2_code_21) rfl rfl ?_
    show Steps p.tables e below (T173.setTop (mkF m 22 #[.val .null, .val (.ref sd), .val (.int (0 : Int32))] [(.ref b173), (.ref b173)])) _
    refine XS.aloadN X173.here hx rfl (hb hby d_prog_6_method_2_code_22) rfl rfl ?_
    show Steps p.tables e below (T173.setTop (mkF m 23 #[.val .null, .val (.ref sd), .val (.int (0 : Int32))] [.null, (.ref b173), (.ref b173)])) _
    refine XS.aloadN X173.here hx rfl (hb hby d_prog_6_method_2_code_23) rfl rfl ?_
    show Steps p.tables e below (T173.setTop (mkF m 24 #[.val .null, .val (.ref sd), .val (.int (0 : Int32))] [(.ref sd), .null, (.ref b173), (.ref b173)])) _
    refine XS.iloadN X173.here hx rfl (hb hby d_prog_6_method_2_code_24) rfl ?_
    show Steps p.tables e below (T173.setTop (mkF m 25 #[.val .null, .val (.ref sd), .val (.int (0 : Int32))] [(.int (0 : Int32)), (.ref sd), .null, (.ref b173), (.ref b173)])) _
    refine st178.trans ?_
    show Steps p.tables e below (T178.setTop (mkF m 28 #[.val .null, .val (.ref sd), .val (.int (0 : Int32))] [(.ref b173)])) _
    jvm_step X178.here [X178.here.top, hx, (hb hby d_prog_6_method_2_code_28), X178.method', Bd.returns, Value.isRef, FieldType.isReference]
    first | (intro acts; rw [hr _ acts rfl rfl rfl]) | rw [hr _ _ rfl rfl rfl]
    exact Steps.refl _
  · show QOfNR0 Z sn sd h0 n0 _ T178.heap _
    exact ⟨b173, rfl, N178, K179, sz_b173, g1178, g2178, g3178, g4178⟩
def QMINR1 (Z : State) (x sn sd : Addr) (h0 : Heap) (n0 : Nat) (v : Option Value) (h : Heap) (L : List Loc) : Prop := v = none ∧ Fr n0 L ∧ Keep h0 h [x] ∧ Exa Z h x "com/example/nimble_container/nimblecontainer/creation/MethodNaming" ∧ Fld Z h x "com/example/nimble_container/nimblecontainer/creation/MethodNaming" "named" "Ljava/lang/String;" .null ∧ Fld Z h x "com/example/nimble_container/nimblecontainer/creation/MethodNaming" "byDefault" "Ljava/lang/String;" (.ref sd) ∧ Fld Z h x "com/example/nimble_container/nimblecontainer/creation/MethodNaming" "inferred" "Z" (.int (1 : Int32))
theorem ef_rmMINR1 (m : MethodId) (x0 : Addr) (x2 : Addr) : entryFrame m #[(.ref x0), .null, (.ref x2), (.int (1 : Int32))] 4 = mkF m 0 #[.val (.ref x0), .val .null, .val (.ref x2), .val (.int (1 : Int32))] [] := by first | (simp [entryFrame, mkF, argsToLocals, Value.category]; done) | rfl
set_option maxRecDepth 65536 in
set_option maxHeartbeats 40000000 in
theorem rmMINR1 (l : Launch) (Z : State) (a0 : Array Value) (hw : ∀ d ∈ tables_1, d.before a0 Z = true) (ws : List Jvm.Cond) (x sn sd : Addr) (h0 : Heap) (n0 : Nat) (O0 : Old Z n0 h0) (g_x : n0 ≤ x) (Ex : Exa Z h0 x "com/example/nimble_container/nimblecontainer/creation/MethodNaming") (F0 : Fld Z h0 x "com/example/nimble_container/nimblecontainer/creation/MethodNaming" "named" "Ljava/lang/String;" .null) (F1 : Fld Z h0 x "com/example/nimble_container/nimblecontainer/creation/MethodNaming" "byDefault" "Ljava/lang/String;" .null) (F2 : Fld Z h0 x "com/example/nimble_container/nimblecontainer/creation/MethodNaming" "inferred" "Z" (.int (0 : Int32))) :
    MetFree l (⟨"com/example/nimble_container/nimblecontainer/creation/MethodNaming", "<init>", "(Ljava/lang/String;Ljava/lang/String;Z)V"⟩ : MethodName) (head1 (Jvm.Cond.code (⟨"com/example/nimble_container/nimblecontainer/creation/MethodNaming", "<init>", "(Ljava/lang/String;Ljava/lang/String;Z)V"⟩ : MethodName) prog_6_method_1_code 4 none :: ws) ({ frames := 1, cells := 0, slots := 0, locals := 12 } : Room)) (fun aa_ U => aa_ = #[(.ref x), .null, (.ref sd), (.int (1 : Int32))] ∧ Z.Warmed39 U.vm ∧ U.heap = h0) (fun _ _ _ _ _ => True) (fun _ U o U' => ∃ v L, o = .returned v ∧ QMINR1 Z x sn sd h0 n0 v U'.heap L ∧ FrameEnd U o U' L ({ frames := 1, cells := 0, slots := 0, locals := 12 } : Room).cells ({ frames := 1, cells := 0, slots := 0, locals := 12 } : Room).slots) := by
  refine MetFree.of_bodySF (plainFor_of_name pn_com_example_nimble_container_nimblecontainer_creation_MethodNaming) hisR ?_
  intro p e s m args below meth c s₁ Bd hml0 hP hK
  obtain ⟨rfl, hZ, hh⟩ := hP
  have hx := Bd.exec
  have hby := Bd.bytes
  have hml : c.maxLocals = 4 := hml0
  have hown : s.vm.findClass "com/example/nimble_container/nimblecontainer/creation/MethodNaming" = some m.cls := findClass_of_methodNamed Bd.named
  have hnm := (name_of_methodNamed Bd.named Bd.method).1
  have X0 : Stand p l e ({ frames := 1, cells := 0, slots := 0, locals := 12 } : Room) s m #[(.ref x), .null, (.ref sd), (.int (1 : Int32))] below meth c s₁ [] 0 0 := Stand.of_body Bd
  have e0 : s₁.heap = h0 := by rw [← hh, Bd.state]; rfl
  have N0 := Fr.nil n0
  have Z0 : n0 ≤ h0.size := O0.1 ▸ O0.2.1
  have K0 : Keep h0 h0 [x] := Keep.refl _ _
  have pre0 : ∀ tgt_, Steps p.tables e below (s₁.setTop (mkF m 0 #[.val (.ref x), .val .null, .val (.ref sd), .val (.int (1 : Int32))] [])) tgt_ → Steps p.tables e below (s₁.setTop (entryFrame m #[(.ref x), .null, (.ref sd), (.int (1 : Int32))] 4)) tgt_ := fun tgt_ k => castTop (ef_rmMINR1 m x sd) k
  obtain ⟨T181, X181, e181, st181⟩ := initO X0 hx hZ hown (hw _ (List.mem_of_getElem? (i := 43) rfl)) (hw _ (List.mem_of_getElem? (i := 16) rfl)) (hw _ (List.mem_of_getElem? (i := 17) rfl)) e0 (g := (mkF m 1 #[.val (.ref x), .val .null, .val (.ref sd), .val (.int (1 : Int32))] [(.ref x)])) rfl (by rw [hml]; rfl) rfl (hb hby d_prog_6_method_1_code_1) (by decide) (W := 0) (by show 2 * 0 + _ ≤ _; exact Nat.le_of_eq rfl) (by decide)
  obtain ⟨T182, h182, X182, e182, W182, st182⟩ := putF X181 hx hZ hown (host := "") (Or.inl (hw _ (List.mem_of_getElem? (i := 44) rfl))) Via.refl e181 F0 Ex (Or.inr ⟨(hw _ (List.mem_of_getElem? (i := 45) rfl)), rfl, hnm⟩) (hw _ (List.mem_of_getElem? (i := 39) rfl)) (ty := (.object "java/lang/String")) (by decide) rfl rfl (g := (mkF m 6 #[.val (.ref x), .val .null, .val (.ref sd), .val (.int (1 : Int32))] [.null, (.ref x)])) rfl rfl (hb hby d_prog_6_method_1_code_6)
  have N182 := Fr.snoc X182 N0 g_x
  have O183 : Old Z n0 h182 := O0.wr W182 g_x
  have Z183 : n0 ≤ h182.size := Nat.le_trans Z0 (Keep.of_wr W182).1
  have K183 : Keep h0 h182 [x] := K0.wr W182 (Or.inl (List.mem_of_getElem? (i := 0) rfl))
  have f184 : Exa Z h182 x "com/example/nimble_container/nimblecontainer/creation/MethodNaming" := Ex.wr W182
  have f185 : Fld Z h182 x "com/example/nimble_container/nimblecontainer/creation/MethodNaming" "named" "Ljava/lang/String;" .null := F0.same W182
  have f186 : Fld Z h182 x "com/example/nimble_container/nimblecontainer/creation/MethodNaming" "byDefault" "Ljava/lang/String;" .null := F1.other W182 (Or.inr (slot_ne (Or.inr (hw _ (List.mem_of_getElem? (i := 47) rfl))) (Or.inr (hw _ (List.mem_of_getElem? (i := 45) rfl))) (by decide) (t := (.object "java/lang/String")) (t' := (.object "java/lang/String")) (by decide) (by decide)))
  have f187 : Fld Z h182 x "com/example/nimble_container/nimblecontainer/creation/MethodNaming" "inferred" "Z" (.int (0 : Int32)) := F2.other W182 (Or.inr (slot_ne (Or.inr (hw _ (List.mem_of_getElem? (i := 49) rfl))) (Or.inr (hw _ (List.mem_of_getElem? (i := 45) rfl))) (by decide) (t := .boolean) (t' := (.object "java/lang/String")) (by decide) (by decide)))
  obtain ⟨T188, h188, X188, e188, W188, st188⟩ := putF X182 hx hZ hown (host := "") (Or.inl (hw _ (List.mem_of_getElem? (i := 46) rfl))) Via.refl e182 f186 f184 (Or.inr ⟨(hw _ (List.mem_of_getElem? (i := 47) rfl)), rfl, hnm⟩) (hw _ (List.mem_of_getElem? (i := 39) rfl)) (ty := (.object "java/lang/String")) (by decide) rfl rfl (g := (mkF m 11 #[.val (.ref x), .val .null, .val (.ref sd), .val (.int (1 : Int32))] [(.ref sd), (.ref x)])) rfl rfl (hb hby d_prog_6_method_1_code_11)
  have N188 := Fr.snoc X188 N182 g_x
  have O189 : Old Z n0 h188 := O183.wr W188 g_x
  have Z189 : n0 ≤ h188.size := Nat.le_trans Z183 (Keep.of_wr W188).1
  have K189 : Keep h0 h188 [x] := K183.wr W188 (Or.inl (List.mem_of_getElem? (i := 0) rfl))
  have f190 : Exa Z h188 x "com/example/nimble_container/nimblecontainer/creation/MethodNaming" := f184.wr W188
  have f191 : Fld Z h188 x "com/example/nimble_container/nimblecontainer/creation/MethodNaming" "named" "Ljava/lang/String;" .null := f185.other W188 (Or.inr (slot_ne (Or.inr (hw _ (List.mem_of_getElem? (i := 45) rfl))) (Or.inr (hw _ (List.mem_of_getElem? (i := 47) rfl))) (by decide) (t := (.object "java/lang/String")) (t' := (.object "java/lang/String")) (by decide) (by decide)))
  have f192 : Fld Z h188 x "com/example/nimble_container/nimblecontainer/creation/MethodNaming" "byDefault" "Ljava/lang/String;" (.ref sd) := f186.same W188
  have f193 : Fld Z h188 x "com/example/nimble_container/nimblecontainer/creation/MethodNaming" "inferred" "Z" (.int (0 : Int32)) := f187.other W188 (Or.inr (slot_ne (Or.inr (hw _ (List.mem_of_getElem? (i := 49) rfl))) (Or.inr (hw _ (List.mem_of_getElem? (i := 47) rfl))) (by decide) (t := .boolean) (t' := (.object "java/lang/String")) (by decide) (by decide)))
  obtain ⟨T194, h194, X194, e194, W194, st194⟩ := putF X188 hx hZ hown (host := "") (Or.inl (hw _ (List.mem_of_getElem? (i := 48) rfl))) Via.refl e188 f193 f190 (Or.inr ⟨(hw _ (List.mem_of_getElem? (i := 49) rfl)), rfl, hnm⟩) (hw _ (List.mem_of_getElem? (i := 39) rfl)) (ty := .boolean) (by decide) rfl rfl (g := (mkF m 16 #[.val (.ref x), .val .null, .val (.ref sd), .val (.int (1 : Int32))] [(.int (1 : Int32)), (.ref x)])) rfl rfl (hb hby d_prog_6_method_1_code_16)
  have N194 := Fr.snoc X194 N188 g_x
  have O195 : Old Z n0 h194 := O189.wr W194 g_x
  have Z195 : n0 ≤ h194.size := Nat.le_trans Z189 (Keep.of_wr W194).1
  have K195 : Keep h0 h194 [x] := K189.wr W194 (Or.inl (List.mem_of_getElem? (i := 0) rfl))
  have f196 : Exa Z h194 x "com/example/nimble_container/nimblecontainer/creation/MethodNaming" := f190.wr W194
  have f197 : Fld Z h194 x "com/example/nimble_container/nimblecontainer/creation/MethodNaming" "named" "Ljava/lang/String;" .null := f191.other W194 (Or.inr (slot_ne (Or.inr (hw _ (List.mem_of_getElem? (i := 45) rfl))) (Or.inr (hw _ (List.mem_of_getElem? (i := 49) rfl))) (by decide) (t := (.object "java/lang/String")) (t' := .boolean) (by decide) (by decide)))
  have f198 : Fld Z h194 x "com/example/nimble_container/nimblecontainer/creation/MethodNaming" "byDefault" "Ljava/lang/String;" (.ref sd) := f192.other W194 (Or.inr (slot_ne (Or.inr (hw _ (List.mem_of_getElem? (i := 47) rfl))) (Or.inr (hw _ (List.mem_of_getElem? (i := 49) rfl))) (by decide) (t := (.object "java/lang/String")) (t' := .boolean) (by decide) (by decide)))
  have f199 : Fld Z h194 x "com/example/nimble_container/nimblecontainer/creation/MethodNaming" "inferred" "Z" (.int (1 : Int32)) := f193.same W194
  obtain ⟨fs, hr, hrun, hended, hW, hsame⟩ := X194.leave (v := none) (fun _ => rfl)
  refine ⟨_, _, pre0 _ ?_, hrun, hended, _, _, rfl, ?_, ⟨_, rfl⟩, hW, hsame.mono (by decide) (by decide)⟩
  · show Steps p.tables e below (s₁.setTop (mkF m 0 #[.val (.ref x), .val .null, .val (.ref sd), .val (.int (1 : Int32))] [])) _
    refine XS.aloadN X0.here hx rfl (hb hby d_prog_6_method_1_code_0) rfl rfl ?_
    show Steps p.tables e below (s₁.setTop (mkF m 1 #[.val (.ref x), .val .null, .val (.ref sd), .val (.int (1 : Int32))] [(.ref x)])) _
    refine st181 _ ?_
    show Steps p.tables e below (T181.setTop (mkF m 4 #[.val (.ref x), .val .null, .val (.ref sd), .val (.int (1 : Int32))] [])) _
    refine XS.aloadN X181.here hx rfl (hb hby d_prog_6_method_1_code_4) rfl rfl ?_
    show Steps p.tables e below (T181.setTop (mkF m 5 #[.val (.ref x), .val .null, .val (.ref sd), .val (.int (1 : Int32))] [(.ref x)])) _
    refine XS.aloadN X181.here hx rfl (hb hby d_prog_6_method_1_code_5) rfl rfl ?_
    show Steps p.tables e below (T181.setTop (mkF m 6 #[.val (.ref x), .val .null, .val (.ref sd), .val (.int (1 : Int32))] [.null, (.ref x)])) _
    refine st182 _ ?_
    show Steps p.tables e below (T182.setTop (mkF m 9 #[.val (.ref x), .val .null, .val (.ref sd), .val (.int (1 : Int32))] [])) _
    refine XS.aloadN X182.here hx rfl (hb hby d_prog_6_method_1_code_9) rfl rfl ?_
    show Steps p.tables e below (T182.setTop (mkF m 10 #[.val (.ref x), .val .null, .val (.ref sd), .val (.int (1 : Int32))] [(.ref x)])) _
    refine XS.aloadN X182.here hx rfl (hb hby d_prog_6_method_1_code_10) rfl rfl ?_
    show Steps p.tables e below (T182.setTop (mkF m 11 #[.val (.ref x), .val .null, .val (.ref sd), .val (.int (1 : Int32))] [(.ref sd), (.ref x)])) _
    refine st188 _ ?_
    show Steps p.tables e below (T188.setTop (mkF m 14 #[.val (.ref x), .val .null, .val (.ref sd), .val (.int (1 : Int32))] [])) _
    refine XS.aloadN X188.here hx rfl (hb hby d_prog_6_method_1_code_14) rfl rfl ?_
    show Steps p.tables e below (T188.setTop (mkF m 15 #[.val (.ref x), .val .null, .val (.ref sd), .val (.int (1 : Int32))] [(.ref x)])) _
    refine XS.iloadN X188.here hx rfl (hb hby d_prog_6_method_1_code_15) rfl ?_
    show Steps p.tables e below (T188.setTop (mkF m 16 #[.val (.ref x), .val .null, .val (.ref sd), .val (.int (1 : Int32))] [(.int (1 : Int32)), (.ref x)])) _
    refine st194 _ ?_
    show Steps p.tables e below (T194.setTop (mkF m 19 #[.val (.ref x), .val .null, .val (.ref sd), .val (.int (1 : Int32))] [])) _
    exact X194.returnOut hx Bd.returns (hb hby d_prog_6_method_1_code_19) hr
  · show QMINR1 Z x sn sd h0 n0 _ T194.heap _
    rw [e194]
    exact ⟨rfl, N194, K195, f196, f197, f198, f199⟩
def QOfNR1 (Z : State) (sn sd : Addr) (h0 : Heap) (n0 : Nat) (v : Option Value) (h : Heap) (L : List Loc) : Prop := ∃ x : Addr, v = some (.ref x) ∧ Fr n0 L ∧ Keep h0 h [] ∧ h0.size ≤ x ∧ Exa Z h x "com/example/nimble_container/nimblecontainer/creation/MethodNaming" ∧ Fld Z h x "com/example/nimble_container/nimblecontainer/creation/MethodNaming" "named" "Ljava/lang/String;" .null ∧ Fld Z h x "com/example/nimble_container/nimblecontainer/creation/MethodNaming" "byDefault" "Ljava/lang/String;" (.ref sd) ∧ Fld Z h x "com/example/nimble_container/nimblecontainer/creation/MethodNaming" "inferred" "Z" (.int (1 : Int32))
theorem ef_rmOfNR1 (m : MethodId) (x1 : Addr) : entryFrame m #[.null, (.ref x1), (.int (1 : Int32))] 3 = mkF m 0 #[.val .null, .val (.ref x1), .val (.int (1 : Int32))] [] := by first | (simp [entryFrame, mkF, argsToLocals, Value.category]; done) | rfl
set_option maxRecDepth 65536 in
set_option maxHeartbeats 40000000 in
theorem rmOfNR1 (l : Launch) (Z : State) (a0 : Array Value) (hw : ∀ d ∈ tables_1, d.before a0 Z = true) (ws : List Jvm.Cond) (sn sd : Addr) (h0 : Heap) (n0 : Nat) (O0 : Old Z n0 h0) :
    MetFree l (⟨"com/example/nimble_container/nimblecontainer/creation/MethodNaming", "of", "(Ljava/lang/String;Ljava/lang/String;Z)Lcom/example/nimble_container/nimblecontainer/creation/MethodNaming;"⟩ : MethodName) (head1 (Jvm.Cond.code (⟨"com/example/nimble_container/nimblecontainer/creation/MethodNaming", "of", "(Ljava/lang/String;Ljava/lang/String;Z)Lcom/example/nimble_container/nimblecontainer/creation/MethodNaming;"⟩ : MethodName) prog_6_method_2_code 3 (some (.object "com/example/nimble_container/nimblecontainer/creation/MethodNaming")) :: ws) ({ frames := 2, cells := 1, slots := 3, locals := 28 } : Room)) (fun aa_ U => aa_ = #[.null, (.ref sd), (.int (1 : Int32))] ∧ Z.Warmed39 U.vm ∧ U.heap = h0) (fun _ _ _ _ _ => True) (fun _ U o U' => ∃ v L, o = .returned v ∧ QOfNR1 Z sn sd h0 n0 v U'.heap L ∧ FrameEnd U o U' L ({ frames := 2, cells := 1, slots := 3, locals := 28 } : Room).cells ({ frames := 2, cells := 1, slots := 3, locals := 28 } : Room).slots) := by
  refine MetFree.of_bodySF (plainFor_of_name pn_com_example_nimble_container_nimblecontainer_creation_MethodNaming) hisR ?_
  intro p e s m args below meth c s₁ Bd hml0 hP hK
  obtain ⟨rfl, hZ, hh⟩ := hP
  have hx := Bd.exec
  have hby := Bd.bytes
  have hml : c.maxLocals = 3 := hml0
  have hown : s.vm.findClass "com/example/nimble_container/nimblecontainer/creation/MethodNaming" = some m.cls := findClass_of_methodNamed Bd.named
  have hnm := (name_of_methodNamed Bd.named Bd.method).1
  have X0 : Stand p l e ({ frames := 2, cells := 1, slots := 3, locals := 28 } : Room) s m #[.null, (.ref sd), (.int (1 : Int32))] below meth c s₁ [] 0 0 := Stand.of_body Bd
  have e0 : s₁.heap = h0 := by rw [← hh, Bd.state]; rfl
  have N0 := Fr.nil n0
  have Z0 : n0 ≤ h0.size := O0.1 ▸ O0.2.1
  have K0 : Keep h0 h0 [] := Keep.refl _ _
  have pre0 : ∀ tgt_, Steps p.tables e below (s₁.setTop (mkF m 0 #[.val .null, .val (.ref sd), .val (.int (1 : Int32))] [])) tgt_ → Steps p.tables e below (s₁.setTop (entryFrame m #[.null, (.ref sd), (.int (1 : Int32))] 3)) tgt_ := fun tgt_ k => castTop (ef_rmOfNR1 m sd) k
  obtain ⟨T200, h200, X200, e200, E200, A200, D200, -, st200⟩ := newO X0 hx hZ hown (hw _ (List.mem_of_getElem? (i := 38) rfl)) (hw _ (List.mem_of_getElem? (i := 39) rfl)) (hw _ (List.mem_of_getElem? (i := 36) rfl)) e0 (g := (mkF m 18 #[.val .null, .val (.ref sd), .val (.int (1 : Int32))] [])) rfl (hb hby d_prog_6_method_2_code_18) (by decide) (by decide)
  obtain ⟨b200, g200⟩ : ∃ z, z = h0.size := ⟨_, rfl⟩
  rw [← g200] at A200 D200 st200
  have geb200 : h0.size ≤ b200 := Nat.le_of_eq g200.symm
  have g_b200 : n0 ≤ b200 := Nat.le_trans Z0 geb200
  have sz_b200 : h0.size ≤ b200 := Nat.le_trans K0.1 geb200
  have O201 : Old Z n0 h200 := O0.ext E200
  have Z201 : n0 ≤ h200.size := Nat.le_trans Z0 E200.1
  have K201 : Keep h0 h200 [] := K0.ext E200
  have f202 : Fld Z h200 b200 "com/example/nimble_container/nimblecontainer/creation/MethodNaming" "named" "Ljava/lang/String;" .null := D200 (Or.inr (hw _ (List.mem_of_getElem? (i := 45) rfl))) (ty := (.object "java/lang/String")) (by decide)
  have f203 : Fld Z h200 b200 "com/example/nimble_container/nimblecontainer/creation/MethodNaming" "byDefault" "Ljava/lang/String;" .null := D200 (Or.inr (hw _ (List.mem_of_getElem? (i := 47) rfl))) (ty := (.object "java/lang/String")) (by decide)
  have f204 : Fld Z h200 b200 "com/example/nimble_container/nimblecontainer/creation/MethodNaming" "inferred" "Z" (.int (0 : Int32)) := D200 (Or.inr (hw _ (List.mem_of_getElem? (i := 49) rfl))) (ty := .boolean) (by decide)
  obtain ⟨_, _, ⟨T205, L205, k205, n205⟩, -, X205, ⟨Lc205, hQ205, l205, y205, z205⟩, st205⟩ := X200.specialBack hx (y := (⟨"com/example/nimble_container/nimblecontainer/creation/MethodNaming", "<init>", "(Ljava/lang/String;Ljava/lang/String;Z)V"⟩ : MethodName)) rfl hown (mvT hZ (hw _ (List.mem_of_getElem? (i := 40) rfl))) (mvT hZ (hw _ (List.mem_of_getElem? (i := 41) rfl))) (mvT hZ (hw _ (List.mem_of_getElem? (i := 42) rfl))) (by decide) (backOf (W := 1) (rmMINR1 l Z a0 hw [] b200 sn sd h200 n0 O201 g_b200 A200 f202 f203 f204) hZ (hw _ (List.mem_of_getElem? (i := 42) rfl)) (hw _ (List.mem_of_getElem? (i := 36) rfl)) (by decide) (by decide)) (g := (mkF m 25 #[.val .null, .val (.ref sd), .val (.int (1 : Int32))] [(.int (1 : Int32)), (.ref sd), .null, (.ref b200), (.ref b200)])) rfl (by rw [hml]; rfl) (Steps.refl _) (a := b200) (argsL := [.null, (.ref sd), (.int (1 : Int32))]) (rest := [(.ref b200)]) (lenOf pd__Ljava_lang_String_Ljava_lang_String_Z_V rfl) rfl (by show 2 * 0 + _ ≤ _; exact Nat.le_of_eq rfl) (hb hby d_prog_6_method_2_code_25) (fun _ _ => ⟨rfl, e200, (by decide : 1 + 0 ≤ _), (by decide : 3 + 0 ≤ _)⟩)
  dsimp only [Pt.U, Pt.locs, Pt.cells, Pt.slots] at X205 l205 y205 z205 st205 hQ205
  subst l205 y205 z205
  obtain ⟨rfl, N205q, K205k, g1205, g2205, g3205, g4205⟩ := hQ205
  have N205 := Fr.app N0 N205q
  have O206 : Old Z n0 T205.heap := O201.keep K205k (allS g_b200 all0)
  have Z206 : n0 ≤ T205.heap.size := Nat.le_trans Z201 K205k.1
  have K206 : Keep h0 T205.heap [] := K201.trans K205k (allS (Or.inr sz_b200) all0)
  have f207 : Exa Z T205.heap b200 "com/example/nimble_container/nimblecontainer/creation/MethodNaming" := A200.keep K205k
  obtain ⟨fs, hr, hrun, hended, hW, hsame⟩ := X205.leave (v := some (.ref b200)) (fun h => by rw [Bd.returns] at h; cases h)
  refine ⟨_, _, pre0 _ ?_, hrun, hended, _, _, rfl, ?_, ⟨_, rfl⟩, hW, hsame.mono (by decide) (by decide)⟩
  · show Steps p.tables e below (s₁.setTop (mkF m 0 #[.val .null, .val (.ref sd), .val (.int (1 : Int32))] [])) _
    refine XS.aloadN X0.here hx rfl (hb hby d_prog_6_method_2_code_0) rfl rfl ?_
    show Steps p.tables e below (s₁.setTop (mkF m 1 #[.val .null, .val (.ref sd), .val (.int (1 : Int32))] [.null])) _
    refine XS.ifnonnullNo X0.here hx rfl (hb hby d_prog_6_method_2_code_1) rfl ?_
    show Steps p.tables e below (s₁.setTop (mkF m 4 #[.val .null, .val (.ref sd), .val (.int (1 : Int32))] [])) _
    refine XS.aloadN X0.here hx rfl (hb hby d_prog_6_method_2_code_4) rfl rfl ?_
    show Steps p.tables e below (s₁.setTop (mkF m 5 #[.val .null, .val (.ref sd), .val (.int (1 : Int32))] [(.ref sd)])) _
    refine XS.ifnonnullYes X0.here hx rfl (pc0 := 5) (pc' := 18) rfl (hb hby d_prog_6_method_2_code_5) rfl (by decide) (by decide) ?_
    show Steps p.tables e below (s₁.setTop (mkF m 18 #[.val .null, .val (.ref sd), .val (.int (1 : Int32))] [])) _
    refine st200 _ ?_
    show Steps p.tables e below (T200.setTop (mkF m 21 #[.val .null, .val (.ref sd), .val (.int (1 : Int32))] [(.ref b200)])) _
    refine XS.dup X200.here hx rfl (hb hby d_prog_6_method_2_code_21) rfl rfl ?_
    show Steps p.tables e below (T200.setTop (mkF m 22 #[.val .null, .val (.ref sd), .val (.int (1 : Int32))] [(.ref b200), (.ref b200)])) _
    refine XS.aloadN X200.here hx rfl (hb hby d_prog_6_method_2_code_22) rfl rfl ?_
    show Steps p.tables e below (T200.setTop (mkF m 23 #[.val .null, .val (.ref sd), .val (.int (1 : Int32))] [.null, (.ref b200), (.ref b200)])) _
    refine XS.aloadN X200.here hx rfl (hb hby d_prog_6_method_2_code_23) rfl rfl ?_
    show Steps p.tables e below (T200.setTop (mkF m 24 #[.val .null, .val (.ref sd), .val (.int (1 : Int32))] [(.ref sd), .null, (.ref b200), (.ref b200)])) _
    refine XS.iloadN X200.here hx rfl (hb hby d_prog_6_method_2_code_24) rfl ?_
    show Steps p.tables e below (T200.setTop (mkF m 25 #[.val .null, .val (.ref sd), .val (.int (1 : Int32))] [(.int (1 : Int32)), (.ref sd), .null, (.ref b200), (.ref b200)])) _
    refine st205.trans ?_
    show Steps p.tables e below (T205.setTop (mkF m 28 #[.val .null, .val (.ref sd), .val (.int (1 : Int32))] [(.ref b200)])) _
    jvm_step X205.here [X205.here.top, hx, (hb hby d_prog_6_method_2_code_28), X205.method', Bd.returns, Value.isRef, FieldType.isReference]
    first | (intro acts; rw [hr _ acts rfl rfl rfl]) | rw [hr _ _ rfl rfl rfl]
    exact Steps.refl _
  · show QOfNR1 Z sn sd h0 n0 _ T205.heap _
    exact ⟨b200, rfl, N205, K206, sz_b200, g1205, g2205, g3205, g4205⟩
def QMIRN0 (Z : State) (x sn sd : Addr) (h0 : Heap) (n0 : Nat) (v : Option Value) (h : Heap) (L : List Loc) : Prop := v = none ∧ Fr n0 L ∧ Keep h0 h [x] ∧ Exa Z h x "com/example/nimble_container/nimblecontainer/creation/MethodNaming" ∧ Fld Z h x "com/example/nimble_container/nimblecontainer/creation/MethodNaming" "named" "Ljava/lang/String;" (.ref sn) ∧ Fld Z h x "com/example/nimble_container/nimblecontainer/creation/MethodNaming" "byDefault" "Ljava/lang/String;" .null ∧ Fld Z h x "com/example/nimble_container/nimblecontainer/creation/MethodNaming" "inferred" "Z" (.int (0 : Int32))
theorem ef_rmMIRN0 (m : MethodId) (x0 : Addr) (x1 : Addr) : entryFrame m #[(.ref x0), (.ref x1), .null, (.int (0 : Int32))] 4 = mkF m 0 #[.val (.ref x0), .val (.ref x1), .val .null, .val (.int (0 : Int32))] [] := by first | (simp [entryFrame, mkF, argsToLocals, Value.category]; done) | rfl
set_option maxRecDepth 65536 in
set_option maxHeartbeats 40000000 in
theorem rmMIRN0 (l : Launch) (Z : State) (a0 : Array Value) (hw : ∀ d ∈ tables_1, d.before a0 Z = true) (ws : List Jvm.Cond) (x sn sd : Addr) (h0 : Heap) (n0 : Nat) (O0 : Old Z n0 h0) (g_x : n0 ≤ x) (Ex : Exa Z h0 x "com/example/nimble_container/nimblecontainer/creation/MethodNaming") (F0 : Fld Z h0 x "com/example/nimble_container/nimblecontainer/creation/MethodNaming" "named" "Ljava/lang/String;" .null) (F1 : Fld Z h0 x "com/example/nimble_container/nimblecontainer/creation/MethodNaming" "byDefault" "Ljava/lang/String;" .null) (F2 : Fld Z h0 x "com/example/nimble_container/nimblecontainer/creation/MethodNaming" "inferred" "Z" (.int (0 : Int32))) :
    MetFree l (⟨"com/example/nimble_container/nimblecontainer/creation/MethodNaming", "<init>", "(Ljava/lang/String;Ljava/lang/String;Z)V"⟩ : MethodName) (head1 (Jvm.Cond.code (⟨"com/example/nimble_container/nimblecontainer/creation/MethodNaming", "<init>", "(Ljava/lang/String;Ljava/lang/String;Z)V"⟩ : MethodName) prog_6_method_1_code 4 none :: ws) ({ frames := 1, cells := 0, slots := 0, locals := 12 } : Room)) (fun aa_ U => aa_ = #[(.ref x), (.ref sn), .null, (.int (0 : Int32))] ∧ Z.Warmed39 U.vm ∧ U.heap = h0) (fun _ _ _ _ _ => True) (fun _ U o U' => ∃ v L, o = .returned v ∧ QMIRN0 Z x sn sd h0 n0 v U'.heap L ∧ FrameEnd U o U' L ({ frames := 1, cells := 0, slots := 0, locals := 12 } : Room).cells ({ frames := 1, cells := 0, slots := 0, locals := 12 } : Room).slots) := by
  refine MetFree.of_bodySF (plainFor_of_name pn_com_example_nimble_container_nimblecontainer_creation_MethodNaming) hisR ?_
  intro p e s m args below meth c s₁ Bd hml0 hP hK
  obtain ⟨rfl, hZ, hh⟩ := hP
  have hx := Bd.exec
  have hby := Bd.bytes
  have hml : c.maxLocals = 4 := hml0
  have hown : s.vm.findClass "com/example/nimble_container/nimblecontainer/creation/MethodNaming" = some m.cls := findClass_of_methodNamed Bd.named
  have hnm := (name_of_methodNamed Bd.named Bd.method).1
  have X0 : Stand p l e ({ frames := 1, cells := 0, slots := 0, locals := 12 } : Room) s m #[(.ref x), (.ref sn), .null, (.int (0 : Int32))] below meth c s₁ [] 0 0 := Stand.of_body Bd
  have e0 : s₁.heap = h0 := by rw [← hh, Bd.state]; rfl
  have N0 := Fr.nil n0
  have Z0 : n0 ≤ h0.size := O0.1 ▸ O0.2.1
  have K0 : Keep h0 h0 [x] := Keep.refl _ _
  have pre0 : ∀ tgt_, Steps p.tables e below (s₁.setTop (mkF m 0 #[.val (.ref x), .val (.ref sn), .val .null, .val (.int (0 : Int32))] [])) tgt_ → Steps p.tables e below (s₁.setTop (entryFrame m #[(.ref x), (.ref sn), .null, (.int (0 : Int32))] 4)) tgt_ := fun tgt_ k => castTop (ef_rmMIRN0 m x sn) k
  obtain ⟨T208, X208, e208, st208⟩ := initO X0 hx hZ hown (hw _ (List.mem_of_getElem? (i := 43) rfl)) (hw _ (List.mem_of_getElem? (i := 16) rfl)) (hw _ (List.mem_of_getElem? (i := 17) rfl)) e0 (g := (mkF m 1 #[.val (.ref x), .val (.ref sn), .val .null, .val (.int (0 : Int32))] [(.ref x)])) rfl (by rw [hml]; rfl) rfl (hb hby d_prog_6_method_1_code_1) (by decide) (W := 0) (by show 2 * 0 + _ ≤ _; exact Nat.le_of_eq rfl) (by decide)
  obtain ⟨T209, h209, X209, e209, W209, st209⟩ := putF X208 hx hZ hown (host := "") (Or.inl (hw _ (List.mem_of_getElem? (i := 44) rfl))) Via.refl e208 F0 Ex (Or.inr ⟨(hw _ (List.mem_of_getElem? (i := 45) rfl)), rfl, hnm⟩) (hw _ (List.mem_of_getElem? (i := 39) rfl)) (ty := (.object "java/lang/String")) (by decide) rfl rfl (g := (mkF m 6 #[.val (.ref x), .val (.ref sn), .val .null, .val (.int (0 : Int32))] [(.ref sn), (.ref x)])) rfl rfl (hb hby d_prog_6_method_1_code_6)
  have N209 := Fr.snoc X209 N0 g_x
  have O210 : Old Z n0 h209 := O0.wr W209 g_x
  have Z210 : n0 ≤ h209.size := Nat.le_trans Z0 (Keep.of_wr W209).1
  have K210 : Keep h0 h209 [x] := K0.wr W209 (Or.inl (List.mem_of_getElem? (i := 0) rfl))
  have f211 : Exa Z h209 x "com/example/nimble_container/nimblecontainer/creation/MethodNaming" := Ex.wr W209
  have f212 : Fld Z h209 x "com/example/nimble_container/nimblecontainer/creation/MethodNaming" "named" "Ljava/lang/String;" (.ref sn) := F0.same W209
  have f213 : Fld Z h209 x "com/example/nimble_container/nimblecontainer/creation/MethodNaming" "byDefault" "Ljava/lang/String;" .null := F1.other W209 (Or.inr (slot_ne (Or.inr (hw _ (List.mem_of_getElem? (i := 47) rfl))) (Or.inr (hw _ (List.mem_of_getElem? (i := 45) rfl))) (by decide) (t := (.object "java/lang/String")) (t' := (.object "java/lang/String")) (by decide) (by decide)))
  have f214 : Fld Z h209 x "com/example/nimble_container/nimblecontainer/creation/MethodNaming" "inferred" "Z" (.int (0 : Int32)) := F2.other W209 (Or.inr (slot_ne (Or.inr (hw _ (List.mem_of_getElem? (i := 49) rfl))) (Or.inr (hw _ (List.mem_of_getElem? (i := 45) rfl))) (by decide) (t := .boolean) (t' := (.object "java/lang/String")) (by decide) (by decide)))
  obtain ⟨T215, h215, X215, e215, W215, st215⟩ := putF X209 hx hZ hown (host := "") (Or.inl (hw _ (List.mem_of_getElem? (i := 46) rfl))) Via.refl e209 f213 f211 (Or.inr ⟨(hw _ (List.mem_of_getElem? (i := 47) rfl)), rfl, hnm⟩) (hw _ (List.mem_of_getElem? (i := 39) rfl)) (ty := (.object "java/lang/String")) (by decide) rfl rfl (g := (mkF m 11 #[.val (.ref x), .val (.ref sn), .val .null, .val (.int (0 : Int32))] [.null, (.ref x)])) rfl rfl (hb hby d_prog_6_method_1_code_11)
  have N215 := Fr.snoc X215 N209 g_x
  have O216 : Old Z n0 h215 := O210.wr W215 g_x
  have Z216 : n0 ≤ h215.size := Nat.le_trans Z210 (Keep.of_wr W215).1
  have K216 : Keep h0 h215 [x] := K210.wr W215 (Or.inl (List.mem_of_getElem? (i := 0) rfl))
  have f217 : Exa Z h215 x "com/example/nimble_container/nimblecontainer/creation/MethodNaming" := f211.wr W215
  have f218 : Fld Z h215 x "com/example/nimble_container/nimblecontainer/creation/MethodNaming" "named" "Ljava/lang/String;" (.ref sn) := f212.other W215 (Or.inr (slot_ne (Or.inr (hw _ (List.mem_of_getElem? (i := 45) rfl))) (Or.inr (hw _ (List.mem_of_getElem? (i := 47) rfl))) (by decide) (t := (.object "java/lang/String")) (t' := (.object "java/lang/String")) (by decide) (by decide)))
  have f219 : Fld Z h215 x "com/example/nimble_container/nimblecontainer/creation/MethodNaming" "byDefault" "Ljava/lang/String;" .null := f213.same W215
  have f220 : Fld Z h215 x "com/example/nimble_container/nimblecontainer/creation/MethodNaming" "inferred" "Z" (.int (0 : Int32)) := f214.other W215 (Or.inr (slot_ne (Or.inr (hw _ (List.mem_of_getElem? (i := 49) rfl))) (Or.inr (hw _ (List.mem_of_getElem? (i := 47) rfl))) (by decide) (t := .boolean) (t' := (.object "java/lang/String")) (by decide) (by decide)))
  obtain ⟨T221, h221, X221, e221, W221, st221⟩ := putF X215 hx hZ hown (host := "") (Or.inl (hw _ (List.mem_of_getElem? (i := 48) rfl))) Via.refl e215 f220 f217 (Or.inr ⟨(hw _ (List.mem_of_getElem? (i := 49) rfl)), rfl, hnm⟩) (hw _ (List.mem_of_getElem? (i := 39) rfl)) (ty := .boolean) (by decide) rfl rfl (g := (mkF m 16 #[.val (.ref x), .val (.ref sn), .val .null, .val (.int (0 : Int32))] [(.int (0 : Int32)), (.ref x)])) rfl rfl (hb hby d_prog_6_method_1_code_16)
  have N221 := Fr.snoc X221 N215 g_x
  have O222 : Old Z n0 h221 := O216.wr W221 g_x
  have Z222 : n0 ≤ h221.size := Nat.le_trans Z216 (Keep.of_wr W221).1
  have K222 : Keep h0 h221 [x] := K216.wr W221 (Or.inl (List.mem_of_getElem? (i := 0) rfl))
  have f223 : Exa Z h221 x "com/example/nimble_container/nimblecontainer/creation/MethodNaming" := f217.wr W221
  have f224 : Fld Z h221 x "com/example/nimble_container/nimblecontainer/creation/MethodNaming" "named" "Ljava/lang/String;" (.ref sn) := f218.other W221 (Or.inr (slot_ne (Or.inr (hw _ (List.mem_of_getElem? (i := 45) rfl))) (Or.inr (hw _ (List.mem_of_getElem? (i := 49) rfl))) (by decide) (t := (.object "java/lang/String")) (t' := .boolean) (by decide) (by decide)))
  have f225 : Fld Z h221 x "com/example/nimble_container/nimblecontainer/creation/MethodNaming" "byDefault" "Ljava/lang/String;" .null := f219.other W221 (Or.inr (slot_ne (Or.inr (hw _ (List.mem_of_getElem? (i := 47) rfl))) (Or.inr (hw _ (List.mem_of_getElem? (i := 49) rfl))) (by decide) (t := (.object "java/lang/String")) (t' := .boolean) (by decide) (by decide)))
  have f226 : Fld Z h221 x "com/example/nimble_container/nimblecontainer/creation/MethodNaming" "inferred" "Z" (.int (0 : Int32)) := f220.same W221
  obtain ⟨fs, hr, hrun, hended, hW, hsame⟩ := X221.leave (v := none) (fun _ => rfl)
  refine ⟨_, _, pre0 _ ?_, hrun, hended, _, _, rfl, ?_, ⟨_, rfl⟩, hW, hsame.mono (by decide) (by decide)⟩
  · show Steps p.tables e below (s₁.setTop (mkF m 0 #[.val (.ref x), .val (.ref sn), .val .null, .val (.int (0 : Int32))] [])) _
    refine XS.aloadN X0.here hx rfl (hb hby d_prog_6_method_1_code_0) rfl rfl ?_
    show Steps p.tables e below (s₁.setTop (mkF m 1 #[.val (.ref x), .val (.ref sn), .val .null, .val (.int (0 : Int32))] [(.ref x)])) _
    refine st208 _ ?_
    show Steps p.tables e below (T208.setTop (mkF m 4 #[.val (.ref x), .val (.ref sn), .val .null, .val (.int (0 : Int32))] [])) _
    refine XS.aloadN X208.here hx rfl (hb hby d_prog_6_method_1_code_4) rfl rfl ?_
    show Steps p.tables e below (T208.setTop (mkF m 5 #[.val (.ref x), .val (.ref sn), .val .null, .val (.int (0 : Int32))] [(.ref x)])) _
    refine XS.aloadN X208.here hx rfl (hb hby d_prog_6_method_1_code_5) rfl rfl ?_
    show Steps p.tables e below (T208.setTop (mkF m 6 #[.val (.ref x), .val (.ref sn), .val .null, .val (.int (0 : Int32))] [(.ref sn), (.ref x)])) _
    refine st209 _ ?_
    show Steps p.tables e below (T209.setTop (mkF m 9 #[.val (.ref x), .val (.ref sn), .val .null, .val (.int (0 : Int32))] [])) _
    refine XS.aloadN X209.here hx rfl (hb hby d_prog_6_method_1_code_9) rfl rfl ?_
    show Steps p.tables e below (T209.setTop (mkF m 10 #[.val (.ref x), .val (.ref sn), .val .null, .val (.int (0 : Int32))] [(.ref x)])) _
    refine XS.aloadN X209.here hx rfl (hb hby d_prog_6_method_1_code_10) rfl rfl ?_
    show Steps p.tables e below (T209.setTop (mkF m 11 #[.val (.ref x), .val (.ref sn), .val .null, .val (.int (0 : Int32))] [.null, (.ref x)])) _
    refine st215 _ ?_
    show Steps p.tables e below (T215.setTop (mkF m 14 #[.val (.ref x), .val (.ref sn), .val .null, .val (.int (0 : Int32))] [])) _
    refine XS.aloadN X215.here hx rfl (hb hby d_prog_6_method_1_code_14) rfl rfl ?_
    show Steps p.tables e below (T215.setTop (mkF m 15 #[.val (.ref x), .val (.ref sn), .val .null, .val (.int (0 : Int32))] [(.ref x)])) _
    refine XS.iloadN X215.here hx rfl (hb hby d_prog_6_method_1_code_15) rfl ?_
    show Steps p.tables e below (T215.setTop (mkF m 16 #[.val (.ref x), .val (.ref sn), .val .null, .val (.int (0 : Int32))] [(.int (0 : Int32)), (.ref x)])) _
    refine st221 _ ?_
    show Steps p.tables e below (T221.setTop (mkF m 19 #[.val (.ref x), .val (.ref sn), .val .null, .val (.int (0 : Int32))] [])) _
    exact X221.returnOut hx Bd.returns (hb hby d_prog_6_method_1_code_19) hr
  · show QMIRN0 Z x sn sd h0 n0 _ T221.heap _
    rw [e221]
    exact ⟨rfl, N221, K222, f223, f224, f225, f226⟩
def QOfRN0 (Z : State) (sn sd : Addr) (h0 : Heap) (n0 : Nat) (v : Option Value) (h : Heap) (L : List Loc) : Prop := ∃ x : Addr, v = some (.ref x) ∧ Fr n0 L ∧ Keep h0 h [] ∧ h0.size ≤ x ∧ Exa Z h x "com/example/nimble_container/nimblecontainer/creation/MethodNaming" ∧ Fld Z h x "com/example/nimble_container/nimblecontainer/creation/MethodNaming" "named" "Ljava/lang/String;" (.ref sn) ∧ Fld Z h x "com/example/nimble_container/nimblecontainer/creation/MethodNaming" "byDefault" "Ljava/lang/String;" .null ∧ Fld Z h x "com/example/nimble_container/nimblecontainer/creation/MethodNaming" "inferred" "Z" (.int (0 : Int32))
theorem ef_rmOfRN0 (m : MethodId) (x0 : Addr) : entryFrame m #[(.ref x0), .null, (.int (0 : Int32))] 3 = mkF m 0 #[.val (.ref x0), .val .null, .val (.int (0 : Int32))] [] := by first | (simp [entryFrame, mkF, argsToLocals, Value.category]; done) | rfl
set_option maxRecDepth 65536 in
set_option maxHeartbeats 40000000 in
theorem rmOfRN0 (l : Launch) (Z : State) (a0 : Array Value) (hw : ∀ d ∈ tables_1, d.before a0 Z = true) (ws : List Jvm.Cond) (sn sd : Addr) (h0 : Heap) (n0 : Nat) (O0 : Old Z n0 h0) :
    MetFree l (⟨"com/example/nimble_container/nimblecontainer/creation/MethodNaming", "of", "(Ljava/lang/String;Ljava/lang/String;Z)Lcom/example/nimble_container/nimblecontainer/creation/MethodNaming;"⟩ : MethodName) (head1 (Jvm.Cond.code (⟨"com/example/nimble_container/nimblecontainer/creation/MethodNaming", "of", "(Ljava/lang/String;Ljava/lang/String;Z)Lcom/example/nimble_container/nimblecontainer/creation/MethodNaming;"⟩ : MethodName) prog_6_method_2_code 3 (some (.object "com/example/nimble_container/nimblecontainer/creation/MethodNaming")) :: ws) ({ frames := 2, cells := 1, slots := 3, locals := 28 } : Room)) (fun aa_ U => aa_ = #[(.ref sn), .null, (.int (0 : Int32))] ∧ Z.Warmed39 U.vm ∧ U.heap = h0) (fun _ _ _ _ _ => True) (fun _ U o U' => ∃ v L, o = .returned v ∧ QOfRN0 Z sn sd h0 n0 v U'.heap L ∧ FrameEnd U o U' L ({ frames := 2, cells := 1, slots := 3, locals := 28 } : Room).cells ({ frames := 2, cells := 1, slots := 3, locals := 28 } : Room).slots) := by
  refine MetFree.of_bodySF (plainFor_of_name pn_com_example_nimble_container_nimblecontainer_creation_MethodNaming) hisR ?_
  intro p e s m args below meth c s₁ Bd hml0 hP hK
  obtain ⟨rfl, hZ, hh⟩ := hP
  have hx := Bd.exec
  have hby := Bd.bytes
  have hml : c.maxLocals = 3 := hml0
  have hown : s.vm.findClass "com/example/nimble_container/nimblecontainer/creation/MethodNaming" = some m.cls := findClass_of_methodNamed Bd.named
  have hnm := (name_of_methodNamed Bd.named Bd.method).1
  have X0 : Stand p l e ({ frames := 2, cells := 1, slots := 3, locals := 28 } : Room) s m #[(.ref sn), .null, (.int (0 : Int32))] below meth c s₁ [] 0 0 := Stand.of_body Bd
  have e0 : s₁.heap = h0 := by rw [← hh, Bd.state]; rfl
  have N0 := Fr.nil n0
  have Z0 : n0 ≤ h0.size := O0.1 ▸ O0.2.1
  have K0 : Keep h0 h0 [] := Keep.refl _ _
  have pre0 : ∀ tgt_, Steps p.tables e below (s₁.setTop (mkF m 0 #[.val (.ref sn), .val .null, .val (.int (0 : Int32))] [])) tgt_ → Steps p.tables e below (s₁.setTop (entryFrame m #[(.ref sn), .null, (.int (0 : Int32))] 3)) tgt_ := fun tgt_ k => castTop (ef_rmOfRN0 m sn) k
  obtain ⟨T227, h227, X227, e227, E227, A227, D227, -, st227⟩ := newO X0 hx hZ hown (hw _ (List.mem_of_getElem? (i := 38) rfl)) (hw _ (List.mem_of_getElem? (i := 39) rfl)) (hw _ (List.mem_of_getElem? (i := 36) rfl)) e0 (g := (mkF m 18 #[.val (.ref sn), .val .null, .val (.int (0 : Int32))] [])) rfl (hb hby d_prog_6_method_2_code_18) (by decide) (by decide)
  obtain ⟨b227, g227⟩ : ∃ z, z = h0.size := ⟨_, rfl⟩
  rw [← g227] at A227 D227 st227
  have geb227 : h0.size ≤ b227 := Nat.le_of_eq g227.symm
  have g_b227 : n0 ≤ b227 := Nat.le_trans Z0 geb227
  have sz_b227 : h0.size ≤ b227 := Nat.le_trans K0.1 geb227
  have O228 : Old Z n0 h227 := O0.ext E227
  have Z228 : n0 ≤ h227.size := Nat.le_trans Z0 E227.1
  have K228 : Keep h0 h227 [] := K0.ext E227
  have f229 : Fld Z h227 b227 "com/example/nimble_container/nimblecontainer/creation/MethodNaming" "named" "Ljava/lang/String;" .null := D227 (Or.inr (hw _ (List.mem_of_getElem? (i := 45) rfl))) (ty := (.object "java/lang/String")) (by decide)
  have f230 : Fld Z h227 b227 "com/example/nimble_container/nimblecontainer/creation/MethodNaming" "byDefault" "Ljava/lang/String;" .null := D227 (Or.inr (hw _ (List.mem_of_getElem? (i := 47) rfl))) (ty := (.object "java/lang/String")) (by decide)
  have f231 : Fld Z h227 b227 "com/example/nimble_container/nimblecontainer/creation/MethodNaming" "inferred" "Z" (.int (0 : Int32)) := D227 (Or.inr (hw _ (List.mem_of_getElem? (i := 49) rfl))) (ty := .boolean) (by decide)
  obtain ⟨_, _, ⟨T232, L232, k232, n232⟩, -, X232, ⟨Lc232, hQ232, l232, y232, z232⟩, st232⟩ := X227.specialBack hx (y := (⟨"com/example/nimble_container/nimblecontainer/creation/MethodNaming", "<init>", "(Ljava/lang/String;Ljava/lang/String;Z)V"⟩ : MethodName)) rfl hown (mvT hZ (hw _ (List.mem_of_getElem? (i := 40) rfl))) (mvT hZ (hw _ (List.mem_of_getElem? (i := 41) rfl))) (mvT hZ (hw _ (List.mem_of_getElem? (i := 42) rfl))) (by decide) (backOf (W := 1) (rmMIRN0 l Z a0 hw [] b227 sn sd h227 n0 O228 g_b227 A227 f229 f230 f231) hZ (hw _ (List.mem_of_getElem? (i := 42) rfl)) (hw _ (List.mem_of_getElem? (i := 36) rfl)) (by decide) (by decide)) (g := (mkF m 25 #[.val (.ref sn), .val .null, .val (.int (0 : Int32))] [(.int (0 : Int32)), .null, (.ref sn), (.ref b227), (.ref b227)])) rfl (by rw [hml]; rfl) (Steps.refl _) (a := b227) (argsL := [(.ref sn), .null, (.int (0 : Int32))]) (rest := [(.ref b227)]) (lenOf pd__Ljava_lang_String_Ljava_lang_String_Z_V rfl) rfl (by show 2 * 0 + _ ≤ _; exact Nat.le_of_eq rfl) (hb hby d_prog_6_method_2_code_25) (fun _ _ => ⟨rfl, e227, (by decide : 1 + 0 ≤ _), (by decide : 3 + 0 ≤ _)⟩)
  dsimp only [Pt.U, Pt.locs, Pt.cells, Pt.slots] at X232 l232 y232 z232 st232 hQ232
  subst l232 y232 z232
  obtain ⟨rfl, N232q, K232k, g1232, g2232, g3232, g4232⟩ := hQ232
  have N232 := Fr.app N0 N232q
  have O233 : Old Z n0 T232.heap := O228.keep K232k (allS g_b227 all0)
  have Z233 : n0 ≤ T232.heap.size := Nat.le_trans Z228 K232k.1
  have K233 : Keep h0 T232.heap [] := K228.trans K232k (allS (Or.inr sz_b227) all0)
  have f234 : Exa Z T232.heap b227 "com/example/nimble_container/nimblecontainer/creation/MethodNaming" := A227.keep K232k
  obtain ⟨fs, hr, hrun, hended, hW, hsame⟩ := X232.leave (v := some (.ref b227)) (fun h => by rw [Bd.returns] at h; cases h)
  refine ⟨_, _, pre0 _ ?_, hrun, hended, _, _, rfl, ?_, ⟨_, rfl⟩, hW, hsame.mono (by decide) (by decide)⟩
  · show Steps p.tables e below (s₁.setTop (mkF m 0 #[.val (.ref sn), .val .null, .val (.int (0 : Int32))] [])) _
    refine XS.aloadN X0.here hx rfl (hb hby d_prog_6_method_2_code_0) rfl rfl ?_
    show Steps p.tables e below (s₁.setTop (mkF m 1 #[.val (.ref sn), .val .null, .val (.int (0 : Int32))] [(.ref sn)])) _
    refine XS.ifnonnullYes X0.here hx rfl (pc0 := 1) (pc' := 18) rfl (hb hby d_prog_6_method_2_code_1) rfl (by decide) (by decide) ?_
    show Steps p.tables e below (s₁.setTop (mkF m 18 #[.val (.ref sn), .val .null, .val (.int (0 : Int32))] [])) _
    refine st227 _ ?_
    show Steps p.tables e below (T227.setTop (mkF m 21 #[.val (.ref sn), .val .null, .val (.int (0 : Int32))] [(.ref b227)])) _
    refine XS.dup X227.here hx rfl (hb hby d_prog_6_method_2_code_21) rfl rfl ?_
    show Steps p.tables e below (T227.setTop (mkF m 22 #[.val (.ref sn), .val .null, .val (.int (0 : Int32))] [(.ref b227), (.ref b227)])) _
    refine XS.aloadN X227.here hx rfl (hb hby d_prog_6_method_2_code_22) rfl rfl ?_
    show Steps p.tables e below (T227.setTop (mkF m 23 #[.val (.ref sn), .val .null, .val (.int (0 : Int32))] [(.ref sn), (.ref b227), (.ref b227)])) _
    refine XS.aloadN X227.here hx rfl (hb hby d_prog_6_method_2_code_23) rfl rfl ?_
    show Steps p.tables e below (T227.setTop (mkF m 24 #[.val (.ref sn), .val .null, .val (.int (0 : Int32))] [.null, (.ref sn), (.ref b227), (.ref b227)])) _
    refine XS.iloadN X227.here hx rfl (hb hby d_prog_6_method_2_code_24) rfl ?_
    show Steps p.tables e below (T227.setTop (mkF m 25 #[.val (.ref sn), .val .null, .val (.int (0 : Int32))] [(.int (0 : Int32)), .null, (.ref sn), (.ref b227), (.ref b227)])) _
    refine st232.trans ?_
    show Steps p.tables e below (T232.setTop (mkF m 28 #[.val (.ref sn), .val .null, .val (.int (0 : Int32))] [(.ref b227)])) _
    jvm_step X232.here [X232.here.top, hx, (hb hby d_prog_6_method_2_code_28), X232.method', Bd.returns, Value.isRef, FieldType.isReference]
    first | (intro acts; rw [hr _ acts rfl rfl rfl]) | rw [hr _ _ rfl rfl rfl]
    exact Steps.refl _
  · show QOfRN0 Z sn sd h0 n0 _ T232.heap _
    exact ⟨b227, rfl, N232, K233, sz_b227, g1232, g2232, g3232, g4232⟩
def QMIRN1 (Z : State) (x sn sd : Addr) (h0 : Heap) (n0 : Nat) (v : Option Value) (h : Heap) (L : List Loc) : Prop := v = none ∧ Fr n0 L ∧ Keep h0 h [x] ∧ Exa Z h x "com/example/nimble_container/nimblecontainer/creation/MethodNaming" ∧ Fld Z h x "com/example/nimble_container/nimblecontainer/creation/MethodNaming" "named" "Ljava/lang/String;" (.ref sn) ∧ Fld Z h x "com/example/nimble_container/nimblecontainer/creation/MethodNaming" "byDefault" "Ljava/lang/String;" .null ∧ Fld Z h x "com/example/nimble_container/nimblecontainer/creation/MethodNaming" "inferred" "Z" (.int (1 : Int32))
theorem ef_rmMIRN1 (m : MethodId) (x0 : Addr) (x1 : Addr) : entryFrame m #[(.ref x0), (.ref x1), .null, (.int (1 : Int32))] 4 = mkF m 0 #[.val (.ref x0), .val (.ref x1), .val .null, .val (.int (1 : Int32))] [] := by first | (simp [entryFrame, mkF, argsToLocals, Value.category]; done) | rfl
set_option maxRecDepth 65536 in
set_option maxHeartbeats 40000000 in
theorem rmMIRN1 (l : Launch) (Z : State) (a0 : Array Value) (hw : ∀ d ∈ tables_1, d.before a0 Z = true) (ws : List Jvm.Cond) (x sn sd : Addr) (h0 : Heap) (n0 : Nat) (O0 : Old Z n0 h0) (g_x : n0 ≤ x) (Ex : Exa Z h0 x "com/example/nimble_container/nimblecontainer/creation/MethodNaming") (F0 : Fld Z h0 x "com/example/nimble_container/nimblecontainer/creation/MethodNaming" "named" "Ljava/lang/String;" .null) (F1 : Fld Z h0 x "com/example/nimble_container/nimblecontainer/creation/MethodNaming" "byDefault" "Ljava/lang/String;" .null) (F2 : Fld Z h0 x "com/example/nimble_container/nimblecontainer/creation/MethodNaming" "inferred" "Z" (.int (0 : Int32))) :
    MetFree l (⟨"com/example/nimble_container/nimblecontainer/creation/MethodNaming", "<init>", "(Ljava/lang/String;Ljava/lang/String;Z)V"⟩ : MethodName) (head1 (Jvm.Cond.code (⟨"com/example/nimble_container/nimblecontainer/creation/MethodNaming", "<init>", "(Ljava/lang/String;Ljava/lang/String;Z)V"⟩ : MethodName) prog_6_method_1_code 4 none :: ws) ({ frames := 1, cells := 0, slots := 0, locals := 12 } : Room)) (fun aa_ U => aa_ = #[(.ref x), (.ref sn), .null, (.int (1 : Int32))] ∧ Z.Warmed39 U.vm ∧ U.heap = h0) (fun _ _ _ _ _ => True) (fun _ U o U' => ∃ v L, o = .returned v ∧ QMIRN1 Z x sn sd h0 n0 v U'.heap L ∧ FrameEnd U o U' L ({ frames := 1, cells := 0, slots := 0, locals := 12 } : Room).cells ({ frames := 1, cells := 0, slots := 0, locals := 12 } : Room).slots) := by
  refine MetFree.of_bodySF (plainFor_of_name pn_com_example_nimble_container_nimblecontainer_creation_MethodNaming) hisR ?_
  intro p e s m args below meth c s₁ Bd hml0 hP hK
  obtain ⟨rfl, hZ, hh⟩ := hP
  have hx := Bd.exec
  have hby := Bd.bytes
  have hml : c.maxLocals = 4 := hml0
  have hown : s.vm.findClass "com/example/nimble_container/nimblecontainer/creation/MethodNaming" = some m.cls := findClass_of_methodNamed Bd.named
  have hnm := (name_of_methodNamed Bd.named Bd.method).1
  have X0 : Stand p l e ({ frames := 1, cells := 0, slots := 0, locals := 12 } : Room) s m #[(.ref x), (.ref sn), .null, (.int (1 : Int32))] below meth c s₁ [] 0 0 := Stand.of_body Bd
  have e0 : s₁.heap = h0 := by rw [← hh, Bd.state]; rfl
  have N0 := Fr.nil n0
  have Z0 : n0 ≤ h0.size := O0.1 ▸ O0.2.1
  have K0 : Keep h0 h0 [x] := Keep.refl _ _
  have pre0 : ∀ tgt_, Steps p.tables e below (s₁.setTop (mkF m 0 #[.val (.ref x), .val (.ref sn), .val .null, .val (.int (1 : Int32))] [])) tgt_ → Steps p.tables e below (s₁.setTop (entryFrame m #[(.ref x), (.ref sn), .null, (.int (1 : Int32))] 4)) tgt_ := fun tgt_ k => castTop (ef_rmMIRN1 m x sn) k
  obtain ⟨T235, X235, e235, st235⟩ := initO X0 hx hZ hown (hw _ (List.mem_of_getElem? (i := 43) rfl)) (hw _ (List.mem_of_getElem? (i := 16) rfl)) (hw _ (List.mem_of_getElem? (i := 17) rfl)) e0 (g := (mkF m 1 #[.val (.ref x), .val (.ref sn), .val .null, .val (.int (1 : Int32))] [(.ref x)])) rfl (by rw [hml]; rfl) rfl (hb hby d_prog_6_method_1_code_1) (by decide) (W := 0) (by show 2 * 0 + _ ≤ _; exact Nat.le_of_eq rfl) (by decide)
  obtain ⟨T236, h236, X236, e236, W236, st236⟩ := putF X235 hx hZ hown (host := "") (Or.inl (hw _ (List.mem_of_getElem? (i := 44) rfl))) Via.refl e235 F0 Ex (Or.inr ⟨(hw _ (List.mem_of_getElem? (i := 45) rfl)), rfl, hnm⟩) (hw _ (List.mem_of_getElem? (i := 39) rfl)) (ty := (.object "java/lang/String")) (by decide) rfl rfl (g := (mkF m 6 #[.val (.ref x), .val (.ref sn), .val .null, .val (.int (1 : Int32))] [(.ref sn), (.ref x)])) rfl rfl (hb hby d_prog_6_method_1_code_6)
  have N236 := Fr.snoc X236 N0 g_x
  have O237 : Old Z n0 h236 := O0.wr W236 g_x
  have Z237 : n0 ≤ h236.size := Nat.le_trans Z0 (Keep.of_wr W236).1
  have K237 : Keep h0 h236 [x] := K0.wr W236 (Or.inl (List.mem_of_getElem? (i := 0) rfl))
  have f238 : Exa Z h236 x "com/example/nimble_container/nimblecontainer/creation/MethodNaming" := Ex.wr W236
  have f239 : Fld Z h236 x "com/example/nimble_container/nimblecontainer/creation/MethodNaming" "named" "Ljava/lang/String;" (.ref sn) := F0.same W236
  have f240 : Fld Z h236 x "com/example/nimble_container/nimblecontainer/creation/MethodNaming" "byDefault" "Ljava/lang/String;" .null := F1.other W236 (Or.inr (slot_ne (Or.inr (hw _ (List.mem_of_getElem? (i := 47) rfl))) (Or.inr (hw _ (List.mem_of_getElem? (i := 45) rfl))) (by decide) (t := (.object "java/lang/String")) (t' := (.object "java/lang/String")) (by decide) (by decide)))
  have f241 : Fld Z h236 x "com/example/nimble_container/nimblecontainer/creation/MethodNaming" "inferred" "Z" (.int (0 : Int32)) := F2.other W236 (Or.inr (slot_ne (Or.inr (hw _ (List.mem_of_getElem? (i := 49) rfl))) (Or.inr (hw _ (List.mem_of_getElem? (i := 45) rfl))) (by decide) (t := .boolean) (t' := (.object "java/lang/String")) (by decide) (by decide)))
  obtain ⟨T242, h242, X242, e242, W242, st242⟩ := putF X236 hx hZ hown (host := "") (Or.inl (hw _ (List.mem_of_getElem? (i := 46) rfl))) Via.refl e236 f240 f238 (Or.inr ⟨(hw _ (List.mem_of_getElem? (i := 47) rfl)), rfl, hnm⟩) (hw _ (List.mem_of_getElem? (i := 39) rfl)) (ty := (.object "java/lang/String")) (by decide) rfl rfl (g := (mkF m 11 #[.val (.ref x), .val (.ref sn), .val .null, .val (.int (1 : Int32))] [.null, (.ref x)])) rfl rfl (hb hby d_prog_6_method_1_code_11)
  have N242 := Fr.snoc X242 N236 g_x
  have O243 : Old Z n0 h242 := O237.wr W242 g_x
  have Z243 : n0 ≤ h242.size := Nat.le_trans Z237 (Keep.of_wr W242).1
  have K243 : Keep h0 h242 [x] := K237.wr W242 (Or.inl (List.mem_of_getElem? (i := 0) rfl))
  have f244 : Exa Z h242 x "com/example/nimble_container/nimblecontainer/creation/MethodNaming" := f238.wr W242
  have f245 : Fld Z h242 x "com/example/nimble_container/nimblecontainer/creation/MethodNaming" "named" "Ljava/lang/String;" (.ref sn) := f239.other W242 (Or.inr (slot_ne (Or.inr (hw _ (List.mem_of_getElem? (i := 45) rfl))) (Or.inr (hw _ (List.mem_of_getElem? (i := 47) rfl))) (by decide) (t := (.object "java/lang/String")) (t' := (.object "java/lang/String")) (by decide) (by decide)))
  have f246 : Fld Z h242 x "com/example/nimble_container/nimblecontainer/creation/MethodNaming" "byDefault" "Ljava/lang/String;" .null := f240.same W242
  have f247 : Fld Z h242 x "com/example/nimble_container/nimblecontainer/creation/MethodNaming" "inferred" "Z" (.int (0 : Int32)) := f241.other W242 (Or.inr (slot_ne (Or.inr (hw _ (List.mem_of_getElem? (i := 49) rfl))) (Or.inr (hw _ (List.mem_of_getElem? (i := 47) rfl))) (by decide) (t := .boolean) (t' := (.object "java/lang/String")) (by decide) (by decide)))
  obtain ⟨T248, h248, X248, e248, W248, st248⟩ := putF X242 hx hZ hown (host := "") (Or.inl (hw _ (List.mem_of_getElem? (i := 48) rfl))) Via.refl e242 f247 f244 (Or.inr ⟨(hw _ (List.mem_of_getElem? (i := 49) rfl)), rfl, hnm⟩) (hw _ (List.mem_of_getElem? (i := 39) rfl)) (ty := .boolean) (by decide) rfl rfl (g := (mkF m 16 #[.val (.ref x), .val (.ref sn), .val .null, .val (.int (1 : Int32))] [(.int (1 : Int32)), (.ref x)])) rfl rfl (hb hby d_prog_6_method_1_code_16)
  have N248 := Fr.snoc X248 N242 g_x
  have O249 : Old Z n0 h248 := O243.wr W248 g_x
  have Z249 : n0 ≤ h248.size := Nat.le_trans Z243 (Keep.of_wr W248).1
  have K249 : Keep h0 h248 [x] := K243.wr W248 (Or.inl (List.mem_of_getElem? (i := 0) rfl))
  have f250 : Exa Z h248 x "com/example/nimble_container/nimblecontainer/creation/MethodNaming" := f244.wr W248
  have f251 : Fld Z h248 x "com/example/nimble_container/nimblecontainer/creation/MethodNaming" "named" "Ljava/lang/String;" (.ref sn) := f245.other W248 (Or.inr (slot_ne (Or.inr (hw _ (List.mem_of_getElem? (i := 45) rfl))) (Or.inr (hw _ (List.mem_of_getElem? (i := 49) rfl))) (by decide) (t := (.object "java/lang/String")) (t' := .boolean) (by decide) (by decide)))
  have f252 : Fld Z h248 x "com/example/nimble_container/nimblecontainer/creation/MethodNaming" "byDefault" "Ljava/lang/String;" .null := f246.other W248 (Or.inr (slot_ne (Or.inr (hw _ (List.mem_of_getElem? (i := 47) rfl))) (Or.inr (hw _ (List.mem_of_getElem? (i := 49) rfl))) (by decide) (t := (.object "java/lang/String")) (t' := .boolean) (by decide) (by decide)))
  have f253 : Fld Z h248 x "com/example/nimble_container/nimblecontainer/creation/MethodNaming" "inferred" "Z" (.int (1 : Int32)) := f247.same W248
  obtain ⟨fs, hr, hrun, hended, hW, hsame⟩ := X248.leave (v := none) (fun _ => rfl)
  refine ⟨_, _, pre0 _ ?_, hrun, hended, _, _, rfl, ?_, ⟨_, rfl⟩, hW, hsame.mono (by decide) (by decide)⟩
  · show Steps p.tables e below (s₁.setTop (mkF m 0 #[.val (.ref x), .val (.ref sn), .val .null, .val (.int (1 : Int32))] [])) _
    refine XS.aloadN X0.here hx rfl (hb hby d_prog_6_method_1_code_0) rfl rfl ?_
    show Steps p.tables e below (s₁.setTop (mkF m 1 #[.val (.ref x), .val (.ref sn), .val .null, .val (.int (1 : Int32))] [(.ref x)])) _
    refine st235 _ ?_
    show Steps p.tables e below (T235.setTop (mkF m 4 #[.val (.ref x), .val (.ref sn), .val .null, .val (.int (1 : Int32))] [])) _
    refine XS.aloadN X235.here hx rfl (hb hby d_prog_6_method_1_code_4) rfl rfl ?_
    show Steps p.tables e below (T235.setTop (mkF m 5 #[.val (.ref x), .val (.ref sn), .val .null, .val (.int (1 : Int32))] [(.ref x)])) _
    refine XS.aloadN X235.here hx rfl (hb hby d_prog_6_method_1_code_5) rfl rfl ?_
    show Steps p.tables e below (T235.setTop (mkF m 6 #[.val (.ref x), .val (.ref sn), .val .null, .val (.int (1 : Int32))] [(.ref sn), (.ref x)])) _
    refine st236 _ ?_
    show Steps p.tables e below (T236.setTop (mkF m 9 #[.val (.ref x), .val (.ref sn), .val .null, .val (.int (1 : Int32))] [])) _
    refine XS.aloadN X236.here hx rfl (hb hby d_prog_6_method_1_code_9) rfl rfl ?_
    show Steps p.tables e below (T236.setTop (mkF m 10 #[.val (.ref x), .val (.ref sn), .val .null, .val (.int (1 : Int32))] [(.ref x)])) _
    refine XS.aloadN X236.here hx rfl (hb hby d_prog_6_method_1_code_10) rfl rfl ?_
    show Steps p.tables e below (T236.setTop (mkF m 11 #[.val (.ref x), .val (.ref sn), .val .null, .val (.int (1 : Int32))] [.null, (.ref x)])) _
    refine st242 _ ?_
    show Steps p.tables e below (T242.setTop (mkF m 14 #[.val (.ref x), .val (.ref sn), .val .null, .val (.int (1 : Int32))] [])) _
    refine XS.aloadN X242.here hx rfl (hb hby d_prog_6_method_1_code_14) rfl rfl ?_
    show Steps p.tables e below (T242.setTop (mkF m 15 #[.val (.ref x), .val (.ref sn), .val .null, .val (.int (1 : Int32))] [(.ref x)])) _
    refine XS.iloadN X242.here hx rfl (hb hby d_prog_6_method_1_code_15) rfl ?_
    show Steps p.tables e below (T242.setTop (mkF m 16 #[.val (.ref x), .val (.ref sn), .val .null, .val (.int (1 : Int32))] [(.int (1 : Int32)), (.ref x)])) _
    refine st248 _ ?_
    show Steps p.tables e below (T248.setTop (mkF m 19 #[.val (.ref x), .val (.ref sn), .val .null, .val (.int (1 : Int32))] [])) _
    exact X248.returnOut hx Bd.returns (hb hby d_prog_6_method_1_code_19) hr
  · show QMIRN1 Z x sn sd h0 n0 _ T248.heap _
    rw [e248]
    exact ⟨rfl, N248, K249, f250, f251, f252, f253⟩
def QOfRN1 (Z : State) (sn sd : Addr) (h0 : Heap) (n0 : Nat) (v : Option Value) (h : Heap) (L : List Loc) : Prop := ∃ x : Addr, v = some (.ref x) ∧ Fr n0 L ∧ Keep h0 h [] ∧ h0.size ≤ x ∧ Exa Z h x "com/example/nimble_container/nimblecontainer/creation/MethodNaming" ∧ Fld Z h x "com/example/nimble_container/nimblecontainer/creation/MethodNaming" "named" "Ljava/lang/String;" (.ref sn) ∧ Fld Z h x "com/example/nimble_container/nimblecontainer/creation/MethodNaming" "byDefault" "Ljava/lang/String;" .null ∧ Fld Z h x "com/example/nimble_container/nimblecontainer/creation/MethodNaming" "inferred" "Z" (.int (1 : Int32))
theorem ef_rmOfRN1 (m : MethodId) (x0 : Addr) : entryFrame m #[(.ref x0), .null, (.int (1 : Int32))] 3 = mkF m 0 #[.val (.ref x0), .val .null, .val (.int (1 : Int32))] [] := by first | (simp [entryFrame, mkF, argsToLocals, Value.category]; done) | rfl
set_option maxRecDepth 65536 in
set_option maxHeartbeats 40000000 in
theorem rmOfRN1 (l : Launch) (Z : State) (a0 : Array Value) (hw : ∀ d ∈ tables_1, d.before a0 Z = true) (ws : List Jvm.Cond) (sn sd : Addr) (h0 : Heap) (n0 : Nat) (O0 : Old Z n0 h0) :
    MetFree l (⟨"com/example/nimble_container/nimblecontainer/creation/MethodNaming", "of", "(Ljava/lang/String;Ljava/lang/String;Z)Lcom/example/nimble_container/nimblecontainer/creation/MethodNaming;"⟩ : MethodName) (head1 (Jvm.Cond.code (⟨"com/example/nimble_container/nimblecontainer/creation/MethodNaming", "of", "(Ljava/lang/String;Ljava/lang/String;Z)Lcom/example/nimble_container/nimblecontainer/creation/MethodNaming;"⟩ : MethodName) prog_6_method_2_code 3 (some (.object "com/example/nimble_container/nimblecontainer/creation/MethodNaming")) :: ws) ({ frames := 2, cells := 1, slots := 3, locals := 28 } : Room)) (fun aa_ U => aa_ = #[(.ref sn), .null, (.int (1 : Int32))] ∧ Z.Warmed39 U.vm ∧ U.heap = h0) (fun _ _ _ _ _ => True) (fun _ U o U' => ∃ v L, o = .returned v ∧ QOfRN1 Z sn sd h0 n0 v U'.heap L ∧ FrameEnd U o U' L ({ frames := 2, cells := 1, slots := 3, locals := 28 } : Room).cells ({ frames := 2, cells := 1, slots := 3, locals := 28 } : Room).slots) := by
  refine MetFree.of_bodySF (plainFor_of_name pn_com_example_nimble_container_nimblecontainer_creation_MethodNaming) hisR ?_
  intro p e s m args below meth c s₁ Bd hml0 hP hK
  obtain ⟨rfl, hZ, hh⟩ := hP
  have hx := Bd.exec
  have hby := Bd.bytes
  have hml : c.maxLocals = 3 := hml0
  have hown : s.vm.findClass "com/example/nimble_container/nimblecontainer/creation/MethodNaming" = some m.cls := findClass_of_methodNamed Bd.named
  have hnm := (name_of_methodNamed Bd.named Bd.method).1
  have X0 : Stand p l e ({ frames := 2, cells := 1, slots := 3, locals := 28 } : Room) s m #[(.ref sn), .null, (.int (1 : Int32))] below meth c s₁ [] 0 0 := Stand.of_body Bd
  have e0 : s₁.heap = h0 := by rw [← hh, Bd.state]; rfl
  have N0 := Fr.nil n0
  have Z0 : n0 ≤ h0.size := O0.1 ▸ O0.2.1
  have K0 : Keep h0 h0 [] := Keep.refl _ _
  have pre0 : ∀ tgt_, Steps p.tables e below (s₁.setTop (mkF m 0 #[.val (.ref sn), .val .null, .val (.int (1 : Int32))] [])) tgt_ → Steps p.tables e below (s₁.setTop (entryFrame m #[(.ref sn), .null, (.int (1 : Int32))] 3)) tgt_ := fun tgt_ k => castTop (ef_rmOfRN1 m sn) k
  obtain ⟨T254, h254, X254, e254, E254, A254, D254, -, st254⟩ := newO X0 hx hZ hown (hw _ (List.mem_of_getElem? (i := 38) rfl)) (hw _ (List.mem_of_getElem? (i := 39) rfl)) (hw _ (List.mem_of_getElem? (i := 36) rfl)) e0 (g := (mkF m 18 #[.val (.ref sn), .val .null, .val (.int (1 : Int32))] [])) rfl (hb hby d_prog_6_method_2_code_18) (by decide) (by decide)
  obtain ⟨b254, g254⟩ : ∃ z, z = h0.size := ⟨_, rfl⟩
  rw [← g254] at A254 D254 st254
  have geb254 : h0.size ≤ b254 := Nat.le_of_eq g254.symm
  have g_b254 : n0 ≤ b254 := Nat.le_trans Z0 geb254
  have sz_b254 : h0.size ≤ b254 := Nat.le_trans K0.1 geb254
  have O255 : Old Z n0 h254 := O0.ext E254
  have Z255 : n0 ≤ h254.size := Nat.le_trans Z0 E254.1
  have K255 : Keep h0 h254 [] := K0.ext E254
  have f256 : Fld Z h254 b254 "com/example/nimble_container/nimblecontainer/creation/MethodNaming" "named" "Ljava/lang/String;" .null := D254 (Or.inr (hw _ (List.mem_of_getElem? (i := 45) rfl))) (ty := (.object "java/lang/String")) (by decide)
  have f257 : Fld Z h254 b254 "com/example/nimble_container/nimblecontainer/creation/MethodNaming" "byDefault" "Ljava/lang/String;" .null := D254 (Or.inr (hw _ (List.mem_of_getElem? (i := 47) rfl))) (ty := (.object "java/lang/String")) (by decide)
  have f258 : Fld Z h254 b254 "com/example/nimble_container/nimblecontainer/creation/MethodNaming" "inferred" "Z" (.int (0 : Int32)) := D254 (Or.inr (hw _ (List.mem_of_getElem? (i := 49) rfl))) (ty := .boolean) (by decide)
  obtain ⟨_, _, ⟨T259, L259, k259, n259⟩, -, X259, ⟨Lc259, hQ259, l259, y259, z259⟩, st259⟩ := X254.specialBack hx (y := (⟨"com/example/nimble_container/nimblecontainer/creation/MethodNaming", "<init>", "(Ljava/lang/String;Ljava/lang/String;Z)V"⟩ : MethodName)) rfl hown (mvT hZ (hw _ (List.mem_of_getElem? (i := 40) rfl))) (mvT hZ (hw _ (List.mem_of_getElem? (i := 41) rfl))) (mvT hZ (hw _ (List.mem_of_getElem? (i := 42) rfl))) (by decide) (backOf (W := 1) (rmMIRN1 l Z a0 hw [] b254 sn sd h254 n0 O255 g_b254 A254 f256 f257 f258) hZ (hw _ (List.mem_of_getElem? (i := 42) rfl)) (hw _ (List.mem_of_getElem? (i := 36) rfl)) (by decide) (by decide)) (g := (mkF m 25 #[.val (.ref sn), .val .null, .val (.int (1 : Int32))] [(.int (1 : Int32)), .null, (.ref sn), (.ref b254), (.ref b254)])) rfl (by rw [hml]; rfl) (Steps.refl _) (a := b254) (argsL := [(.ref sn), .null, (.int (1 : Int32))]) (rest := [(.ref b254)]) (lenOf pd__Ljava_lang_String_Ljava_lang_String_Z_V rfl) rfl (by show 2 * 0 + _ ≤ _; exact Nat.le_of_eq rfl) (hb hby d_prog_6_method_2_code_25) (fun _ _ => ⟨rfl, e254, (by decide : 1 + 0 ≤ _), (by decide : 3 + 0 ≤ _)⟩)
  dsimp only [Pt.U, Pt.locs, Pt.cells, Pt.slots] at X259 l259 y259 z259 st259 hQ259
  subst l259 y259 z259
  obtain ⟨rfl, N259q, K259k, g1259, g2259, g3259, g4259⟩ := hQ259
  have N259 := Fr.app N0 N259q
  have O260 : Old Z n0 T259.heap := O255.keep K259k (allS g_b254 all0)
  have Z260 : n0 ≤ T259.heap.size := Nat.le_trans Z255 K259k.1
  have K260 : Keep h0 T259.heap [] := K255.trans K259k (allS (Or.inr sz_b254) all0)
  have f261 : Exa Z T259.heap b254 "com/example/nimble_container/nimblecontainer/creation/MethodNaming" := A254.keep K259k
  obtain ⟨fs, hr, hrun, hended, hW, hsame⟩ := X259.leave (v := some (.ref b254)) (fun h => by rw [Bd.returns] at h; cases h)
  refine ⟨_, _, pre0 _ ?_, hrun, hended, _, _, rfl, ?_, ⟨_, rfl⟩, hW, hsame.mono (by decide) (by decide)⟩
  · show Steps p.tables e below (s₁.setTop (mkF m 0 #[.val (.ref sn), .val .null, .val (.int (1 : Int32))] [])) _
    refine XS.aloadN X0.here hx rfl (hb hby d_prog_6_method_2_code_0) rfl rfl ?_
    show Steps p.tables e below (s₁.setTop (mkF m 1 #[.val (.ref sn), .val .null, .val (.int (1 : Int32))] [(.ref sn)])) _
    refine XS.ifnonnullYes X0.here hx rfl (pc0 := 1) (pc' := 18) rfl (hb hby d_prog_6_method_2_code_1) rfl (by decide) (by decide) ?_
    show Steps p.tables e below (s₁.setTop (mkF m 18 #[.val (.ref sn), .val .null, .val (.int (1 : Int32))] [])) _
    refine st254 _ ?_
    show Steps p.tables e below (T254.setTop (mkF m 21 #[.val (.ref sn), .val .null, .val (.int (1 : Int32))] [(.ref b254)])) _
    refine XS.dup X254.here hx rfl (hb hby d_prog_6_method_2_code_21) rfl rfl ?_
    show Steps p.tables e below (T254.setTop (mkF m 22 #[.val (.ref sn), .val .null, .val (.int (1 : Int32))] [(.ref b254), (.ref b254)])) _
    refine XS.aloadN X254.here hx rfl (hb hby d_prog_6_method_2_code_22) rfl rfl ?_
    show Steps p.tables e below (T254.setTop (mkF m 23 #[.val (.ref sn), .val .null, .val (.int (1 : Int32))] [(.ref sn), (.ref b254), (.ref b254)])) _
    refine XS.aloadN X254.here hx rfl (hb hby d_prog_6_method_2_code_23) rfl rfl ?_
    show Steps p.tables e below (T254.setTop (mkF m 24 #[.val (.ref sn), .val .null, .val (.int (1 : Int32))] [.null, (.ref sn), (.ref b254), (.ref b254)])) _
    refine XS.iloadN X254.here hx rfl (hb hby d_prog_6_method_2_code_24) rfl ?_
    show Steps p.tables e below (T254.setTop (mkF m 25 #[.val (.ref sn), .val .null, .val (.int (1 : Int32))] [(.int (1 : Int32)), .null, (.ref sn), (.ref b254), (.ref b254)])) _
    refine st259.trans ?_
    show Steps p.tables e below (T259.setTop (mkF m 28 #[.val (.ref sn), .val .null, .val (.int (1 : Int32))] [(.ref b254)])) _
    jvm_step X259.here [X259.here.top, hx, (hb hby d_prog_6_method_2_code_28), X259.method', Bd.returns, Value.isRef, FieldType.isReference]
    first | (intro acts; rw [hr _ acts rfl rfl rfl]) | rw [hr _ _ rfl rfl rfl]
    exact Steps.refl _
  · show QOfRN1 Z sn sd h0 n0 _ T259.heap _
    exact ⟨b254, rfl, N259, K260, sz_b254, g1259, g2259, g3259, g4259⟩
def QMIRR0 (Z : State) (x sn sd : Addr) (h0 : Heap) (n0 : Nat) (v : Option Value) (h : Heap) (L : List Loc) : Prop := v = none ∧ Fr n0 L ∧ Keep h0 h [x] ∧ Exa Z h x "com/example/nimble_container/nimblecontainer/creation/MethodNaming" ∧ Fld Z h x "com/example/nimble_container/nimblecontainer/creation/MethodNaming" "named" "Ljava/lang/String;" (.ref sn) ∧ Fld Z h x "com/example/nimble_container/nimblecontainer/creation/MethodNaming" "byDefault" "Ljava/lang/String;" (.ref sd) ∧ Fld Z h x "com/example/nimble_container/nimblecontainer/creation/MethodNaming" "inferred" "Z" (.int (0 : Int32))
theorem ef_rmMIRR0 (m : MethodId) (x0 : Addr) (x1 : Addr) (x2 : Addr) : entryFrame m #[(.ref x0), (.ref x1), (.ref x2), (.int (0 : Int32))] 4 = mkF m 0 #[.val (.ref x0), .val (.ref x1), .val (.ref x2), .val (.int (0 : Int32))] [] := by first | (simp [entryFrame, mkF, argsToLocals, Value.category]; done) | rfl
set_option maxRecDepth 65536 in
set_option maxHeartbeats 40000000 in
theorem rmMIRR0 (l : Launch) (Z : State) (a0 : Array Value) (hw : ∀ d ∈ tables_1, d.before a0 Z = true) (ws : List Jvm.Cond) (x sn sd : Addr) (h0 : Heap) (n0 : Nat) (O0 : Old Z n0 h0) (g_x : n0 ≤ x) (Ex : Exa Z h0 x "com/example/nimble_container/nimblecontainer/creation/MethodNaming") (F0 : Fld Z h0 x "com/example/nimble_container/nimblecontainer/creation/MethodNaming" "named" "Ljava/lang/String;" .null) (F1 : Fld Z h0 x "com/example/nimble_container/nimblecontainer/creation/MethodNaming" "byDefault" "Ljava/lang/String;" .null) (F2 : Fld Z h0 x "com/example/nimble_container/nimblecontainer/creation/MethodNaming" "inferred" "Z" (.int (0 : Int32))) :
    MetFree l (⟨"com/example/nimble_container/nimblecontainer/creation/MethodNaming", "<init>", "(Ljava/lang/String;Ljava/lang/String;Z)V"⟩ : MethodName) (head1 (Jvm.Cond.code (⟨"com/example/nimble_container/nimblecontainer/creation/MethodNaming", "<init>", "(Ljava/lang/String;Ljava/lang/String;Z)V"⟩ : MethodName) prog_6_method_1_code 4 none :: ws) ({ frames := 1, cells := 0, slots := 0, locals := 12 } : Room)) (fun aa_ U => aa_ = #[(.ref x), (.ref sn), (.ref sd), (.int (0 : Int32))] ∧ Z.Warmed39 U.vm ∧ U.heap = h0) (fun _ _ _ _ _ => True) (fun _ U o U' => ∃ v L, o = .returned v ∧ QMIRR0 Z x sn sd h0 n0 v U'.heap L ∧ FrameEnd U o U' L ({ frames := 1, cells := 0, slots := 0, locals := 12 } : Room).cells ({ frames := 1, cells := 0, slots := 0, locals := 12 } : Room).slots) := by
  refine MetFree.of_bodySF (plainFor_of_name pn_com_example_nimble_container_nimblecontainer_creation_MethodNaming) hisR ?_
  intro p e s m args below meth c s₁ Bd hml0 hP hK
  obtain ⟨rfl, hZ, hh⟩ := hP
  have hx := Bd.exec
  have hby := Bd.bytes
  have hml : c.maxLocals = 4 := hml0
  have hown : s.vm.findClass "com/example/nimble_container/nimblecontainer/creation/MethodNaming" = some m.cls := findClass_of_methodNamed Bd.named
  have hnm := (name_of_methodNamed Bd.named Bd.method).1
  have X0 : Stand p l e ({ frames := 1, cells := 0, slots := 0, locals := 12 } : Room) s m #[(.ref x), (.ref sn), (.ref sd), (.int (0 : Int32))] below meth c s₁ [] 0 0 := Stand.of_body Bd
  have e0 : s₁.heap = h0 := by rw [← hh, Bd.state]; rfl
  have N0 := Fr.nil n0
  have Z0 : n0 ≤ h0.size := O0.1 ▸ O0.2.1
  have K0 : Keep h0 h0 [x] := Keep.refl _ _
  have pre0 : ∀ tgt_, Steps p.tables e below (s₁.setTop (mkF m 0 #[.val (.ref x), .val (.ref sn), .val (.ref sd), .val (.int (0 : Int32))] [])) tgt_ → Steps p.tables e below (s₁.setTop (entryFrame m #[(.ref x), (.ref sn), (.ref sd), (.int (0 : Int32))] 4)) tgt_ := fun tgt_ k => castTop (ef_rmMIRR0 m x sn sd) k
  obtain ⟨T262, X262, e262, st262⟩ := initO X0 hx hZ hown (hw _ (List.mem_of_getElem? (i := 43) rfl)) (hw _ (List.mem_of_getElem? (i := 16) rfl)) (hw _ (List.mem_of_getElem? (i := 17) rfl)) e0 (g := (mkF m 1 #[.val (.ref x), .val (.ref sn), .val (.ref sd), .val (.int (0 : Int32))] [(.ref x)])) rfl (by rw [hml]; rfl) rfl (hb hby d_prog_6_method_1_code_1) (by decide) (W := 0) (by show 2 * 0 + _ ≤ _; exact Nat.le_of_eq rfl) (by decide)
  obtain ⟨T263, h263, X263, e263, W263, st263⟩ := putF X262 hx hZ hown (host := "") (Or.inl (hw _ (List.mem_of_getElem? (i := 44) rfl))) Via.refl e262 F0 Ex (Or.inr ⟨(hw _ (List.mem_of_getElem? (i := 45) rfl)), rfl, hnm⟩) (hw _ (List.mem_of_getElem? (i := 39) rfl)) (ty := (.object "java/lang/String")) (by decide) rfl rfl (g := (mkF m 6 #[.val (.ref x), .val (.ref sn), .val (.ref sd), .val (.int (0 : Int32))] [(.ref sn), (.ref x)])) rfl rfl (hb hby d_prog_6_method_1_code_6)
  have N263 := Fr.snoc X263 N0 g_x
  have O264 : Old Z n0 h263 := O0.wr W263 g_x
  have Z264 : n0 ≤ h263.size := Nat.le_trans Z0 (Keep.of_wr W263).1
  have K264 : Keep h0 h263 [x] := K0.wr W263 (Or.inl (List.mem_of_getElem? (i := 0) rfl))
  have f265 : Exa Z h263 x "com/example/nimble_container/nimblecontainer/creation/MethodNaming" := Ex.wr W263
  have f266 : Fld Z h263 x "com/example/nimble_container/nimblecontainer/creation/MethodNaming" "named" "Ljava/lang/String;" (.ref sn) := F0.same W263
  have f267 : Fld Z h263 x "com/example/nimble_container/nimblecontainer/creation/MethodNaming" "byDefault" "Ljava/lang/String;" .null := F1.other W263 (Or.inr (slot_ne (Or.inr (hw _ (List.mem_of_getElem? (i := 47) rfl))) (Or.inr (hw _ (List.mem_of_getElem? (i := 45) rfl))) (by decide) (t := (.object "java/lang/String")) (t' := (.object "java/lang/String")) (by decide) (by decide)))
  have f268 : Fld Z h263 x "com/example/nimble_container/nimblecontainer/creation/MethodNaming" "inferred" "Z" (.int (0 : Int32)) := F2.other W263 (Or.inr (slot_ne (Or.inr (hw _ (List.mem_of_getElem? (i := 49) rfl))) (Or.inr (hw _ (List.mem_of_getElem? (i := 45) rfl))) (by decide) (t := .boolean) (t' := (.object "java/lang/String")) (by decide) (by decide)))
  obtain ⟨T269, h269, X269, e269, W269, st269⟩ := putF X263 hx hZ hown (host := "") (Or.inl (hw _ (List.mem_of_getElem? (i := 46) rfl))) Via.refl e263 f267 f265 (Or.inr ⟨(hw _ (List.mem_of_getElem? (i := 47) rfl)), rfl, hnm⟩) (hw _ (List.mem_of_getElem? (i := 39) rfl)) (ty := (.object "java/lang/String")) (by decide) rfl rfl (g := (mkF m 11 #[.val (.ref x), .val (.ref sn), .val (.ref sd), .val (.int (0 : Int32))] [(.ref sd), (.ref x)])) rfl rfl (hb hby d_prog_6_method_1_code_11)
  have N269 := Fr.snoc X269 N263 g_x
  have O270 : Old Z n0 h269 := O264.wr W269 g_x
  have Z270 : n0 ≤ h269.size := Nat.le_trans Z264 (Keep.of_wr W269).1
  have K270 : Keep h0 h269 [x] := K264.wr W269 (Or.inl (List.mem_of_getElem? (i := 0) rfl))
  have f271 : Exa Z h269 x "com/example/nimble_container/nimblecontainer/creation/MethodNaming" := f265.wr W269
  have f272 : Fld Z h269 x "com/example/nimble_container/nimblecontainer/creation/MethodNaming" "named" "Ljava/lang/String;" (.ref sn) := f266.other W269 (Or.inr (slot_ne (Or.inr (hw _ (List.mem_of_getElem? (i := 45) rfl))) (Or.inr (hw _ (List.mem_of_getElem? (i := 47) rfl))) (by decide) (t := (.object "java/lang/String")) (t' := (.object "java/lang/String")) (by decide) (by decide)))
  have f273 : Fld Z h269 x "com/example/nimble_container/nimblecontainer/creation/MethodNaming" "byDefault" "Ljava/lang/String;" (.ref sd) := f267.same W269
  have f274 : Fld Z h269 x "com/example/nimble_container/nimblecontainer/creation/MethodNaming" "inferred" "Z" (.int (0 : Int32)) := f268.other W269 (Or.inr (slot_ne (Or.inr (hw _ (List.mem_of_getElem? (i := 49) rfl))) (Or.inr (hw _ (List.mem_of_getElem? (i := 47) rfl))) (by decide) (t := .boolean) (t' := (.object "java/lang/String")) (by decide) (by decide)))
  obtain ⟨T275, h275, X275, e275, W275, st275⟩ := putF X269 hx hZ hown (host := "") (Or.inl (hw _ (List.mem_of_getElem? (i := 48) rfl))) Via.refl e269 f274 f271 (Or.inr ⟨(hw _ (List.mem_of_getElem? (i := 49) rfl)), rfl, hnm⟩) (hw _ (List.mem_of_getElem? (i := 39) rfl)) (ty := .boolean) (by decide) rfl rfl (g := (mkF m 16 #[.val (.ref x), .val (.ref sn), .val (.ref sd), .val (.int (0 : Int32))] [(.int (0 : Int32)), (.ref x)])) rfl rfl (hb hby d_prog_6_method_1_code_16)
  have N275 := Fr.snoc X275 N269 g_x
  have O276 : Old Z n0 h275 := O270.wr W275 g_x
  have Z276 : n0 ≤ h275.size := Nat.le_trans Z270 (Keep.of_wr W275).1
  have K276 : Keep h0 h275 [x] := K270.wr W275 (Or.inl (List.mem_of_getElem? (i := 0) rfl))
  have f277 : Exa Z h275 x "com/example/nimble_container/nimblecontainer/creation/MethodNaming" := f271.wr W275
  have f278 : Fld Z h275 x "com/example/nimble_container/nimblecontainer/creation/MethodNaming" "named" "Ljava/lang/String;" (.ref sn) := f272.other W275 (Or.inr (slot_ne (Or.inr (hw _ (List.mem_of_getElem? (i := 45) rfl))) (Or.inr (hw _ (List.mem_of_getElem? (i := 49) rfl))) (by decide) (t := (.object "java/lang/String")) (t' := .boolean) (by decide) (by decide)))
  have f279 : Fld Z h275 x "com/example/nimble_container/nimblecontainer/creation/MethodNaming" "byDefault" "Ljava/lang/String;" (.ref sd) := f273.other W275 (Or.inr (slot_ne (Or.inr (hw _ (List.mem_of_getElem? (i := 47) rfl))) (Or.inr (hw _ (List.mem_of_getElem? (i := 49) rfl))) (by decide) (t := (.object "java/lang/String")) (t' := .boolean) (by decide) (by decide)))
  have f280 : Fld Z h275 x "com/example/nimble_container/nimblecontainer/creation/MethodNaming" "inferred" "Z" (.int (0 : Int32)) := f274.same W275
  obtain ⟨fs, hr, hrun, hended, hW, hsame⟩ := X275.leave (v := none) (fun _ => rfl)
  refine ⟨_, _, pre0 _ ?_, hrun, hended, _, _, rfl, ?_, ⟨_, rfl⟩, hW, hsame.mono (by decide) (by decide)⟩
  · show Steps p.tables e below (s₁.setTop (mkF m 0 #[.val (.ref x), .val (.ref sn), .val (.ref sd), .val (.int (0 : Int32))] [])) _
    refine XS.aloadN X0.here hx rfl (hb hby d_prog_6_method_1_code_0) rfl rfl ?_
    show Steps p.tables e below (s₁.setTop (mkF m 1 #[.val (.ref x), .val (.ref sn), .val (.ref sd), .val (.int (0 : Int32))] [(.ref x)])) _
    refine st262 _ ?_
    show Steps p.tables e below (T262.setTop (mkF m 4 #[.val (.ref x), .val (.ref sn), .val (.ref sd), .val (.int (0 : Int32))] [])) _
    refine XS.aloadN X262.here hx rfl (hb hby d_prog_6_method_1_code_4) rfl rfl ?_
    show Steps p.tables e below (T262.setTop (mkF m 5 #[.val (.ref x), .val (.ref sn), .val (.ref sd), .val (.int (0 : Int32))] [(.ref x)])) _
    refine XS.aloadN X262.here hx rfl (hb hby d_prog_6_method_1_code_5) rfl rfl ?_
    show Steps p.tables e below (T262.setTop (mkF m 6 #[.val (.ref x), .val (.ref sn), .val (.ref sd), .val (.int (0 : Int32))] [(.ref sn), (.ref x)])) _
    refine st263 _ ?_
    show Steps p.tables e below (T263.setTop (mkF m 9 #[.val (.ref x), .val (.ref sn), .val (.ref sd), .val (.int (0 : Int32))] [])) _
    refine XS.aloadN X263.here hx rfl (hb hby d_prog_6_method_1_code_9) rfl rfl ?_
    show Steps p.tables e below (T263.setTop (mkF m 10 #[.val (.ref x), .val (.ref sn), .val (.ref sd), .val (.int (0 : Int32))] [(.ref x)])) _
    refine XS.aloadN X263.here hx rfl (hb hby d_prog_6_method_1_code_10) rfl rfl ?_
    show Steps p.tables e below (T263.setTop (mkF m 11 #[.val (.ref x), .val (.ref sn), .val (.ref sd), .val (.int (0 : Int32))] [(.ref sd), (.ref x)])) _
    refine st269 _ ?_
    show Steps p.tables e below (T269.setTop (mkF m 14 #[.val (.ref x), .val (.ref sn), .val (.ref sd), .val (.int (0 : Int32))] [])) _
    refine XS.aloadN X269.here hx rfl (hb hby d_prog_6_method_1_code_14) rfl rfl ?_
    show Steps p.tables e below (T269.setTop (mkF m 15 #[.val (.ref x), .val (.ref sn), .val (.ref sd), .val (.int (0 : Int32))] [(.ref x)])) _
    refine XS.iloadN X269.here hx rfl (hb hby d_prog_6_method_1_code_15) rfl ?_
    show Steps p.tables e below (T269.setTop (mkF m 16 #[.val (.ref x), .val (.ref sn), .val (.ref sd), .val (.int (0 : Int32))] [(.int (0 : Int32)), (.ref x)])) _
    refine st275 _ ?_
    show Steps p.tables e below (T275.setTop (mkF m 19 #[.val (.ref x), .val (.ref sn), .val (.ref sd), .val (.int (0 : Int32))] [])) _
    exact X275.returnOut hx Bd.returns (hb hby d_prog_6_method_1_code_19) hr
  · show QMIRR0 Z x sn sd h0 n0 _ T275.heap _
    rw [e275]
    exact ⟨rfl, N275, K276, f277, f278, f279, f280⟩
def QOfRR0 (Z : State) (sn sd : Addr) (h0 : Heap) (n0 : Nat) (v : Option Value) (h : Heap) (L : List Loc) : Prop := ∃ x : Addr, v = some (.ref x) ∧ Fr n0 L ∧ Keep h0 h [] ∧ h0.size ≤ x ∧ Exa Z h x "com/example/nimble_container/nimblecontainer/creation/MethodNaming" ∧ Fld Z h x "com/example/nimble_container/nimblecontainer/creation/MethodNaming" "named" "Ljava/lang/String;" (.ref sn) ∧ Fld Z h x "com/example/nimble_container/nimblecontainer/creation/MethodNaming" "byDefault" "Ljava/lang/String;" (.ref sd) ∧ Fld Z h x "com/example/nimble_container/nimblecontainer/creation/MethodNaming" "inferred" "Z" (.int (0 : Int32))
theorem ef_rmOfRR0 (m : MethodId) (x0 : Addr) (x1 : Addr) : entryFrame m #[(.ref x0), (.ref x1), (.int (0 : Int32))] 3 = mkF m 0 #[.val (.ref x0), .val (.ref x1), .val (.int (0 : Int32))] [] := by first | (simp [entryFrame, mkF, argsToLocals, Value.category]; done) | rfl
set_option maxRecDepth 65536 in
set_option maxHeartbeats 40000000 in
theorem rmOfRR0 (l : Launch) (Z : State) (a0 : Array Value) (hw : ∀ d ∈ tables_1, d.before a0 Z = true) (ws : List Jvm.Cond) (sn sd : Addr) (h0 : Heap) (n0 : Nat) (O0 : Old Z n0 h0) :
    MetFree l (⟨"com/example/nimble_container/nimblecontainer/creation/MethodNaming", "of", "(Ljava/lang/String;Ljava/lang/String;Z)Lcom/example/nimble_container/nimblecontainer/creation/MethodNaming;"⟩ : MethodName) (head1 (Jvm.Cond.code (⟨"com/example/nimble_container/nimblecontainer/creation/MethodNaming", "of", "(Ljava/lang/String;Ljava/lang/String;Z)Lcom/example/nimble_container/nimblecontainer/creation/MethodNaming;"⟩ : MethodName) prog_6_method_2_code 3 (some (.object "com/example/nimble_container/nimblecontainer/creation/MethodNaming")) :: ws) ({ frames := 2, cells := 1, slots := 3, locals := 28 } : Room)) (fun aa_ U => aa_ = #[(.ref sn), (.ref sd), (.int (0 : Int32))] ∧ Z.Warmed39 U.vm ∧ U.heap = h0) (fun _ _ _ _ _ => True) (fun _ U o U' => ∃ v L, o = .returned v ∧ QOfRR0 Z sn sd h0 n0 v U'.heap L ∧ FrameEnd U o U' L ({ frames := 2, cells := 1, slots := 3, locals := 28 } : Room).cells ({ frames := 2, cells := 1, slots := 3, locals := 28 } : Room).slots) := by
  refine MetFree.of_bodySF (plainFor_of_name pn_com_example_nimble_container_nimblecontainer_creation_MethodNaming) hisR ?_
  intro p e s m args below meth c s₁ Bd hml0 hP hK
  obtain ⟨rfl, hZ, hh⟩ := hP
  have hx := Bd.exec
  have hby := Bd.bytes
  have hml : c.maxLocals = 3 := hml0
  have hown : s.vm.findClass "com/example/nimble_container/nimblecontainer/creation/MethodNaming" = some m.cls := findClass_of_methodNamed Bd.named
  have hnm := (name_of_methodNamed Bd.named Bd.method).1
  have X0 : Stand p l e ({ frames := 2, cells := 1, slots := 3, locals := 28 } : Room) s m #[(.ref sn), (.ref sd), (.int (0 : Int32))] below meth c s₁ [] 0 0 := Stand.of_body Bd
  have e0 : s₁.heap = h0 := by rw [← hh, Bd.state]; rfl
  have N0 := Fr.nil n0
  have Z0 : n0 ≤ h0.size := O0.1 ▸ O0.2.1
  have K0 : Keep h0 h0 [] := Keep.refl _ _
  have pre0 : ∀ tgt_, Steps p.tables e below (s₁.setTop (mkF m 0 #[.val (.ref sn), .val (.ref sd), .val (.int (0 : Int32))] [])) tgt_ → Steps p.tables e below (s₁.setTop (entryFrame m #[(.ref sn), (.ref sd), (.int (0 : Int32))] 3)) tgt_ := fun tgt_ k => castTop (ef_rmOfRR0 m sn sd) k
  obtain ⟨T281, h281, X281, e281, E281, A281, D281, -, st281⟩ := newO X0 hx hZ hown (hw _ (List.mem_of_getElem? (i := 38) rfl)) (hw _ (List.mem_of_getElem? (i := 39) rfl)) (hw _ (List.mem_of_getElem? (i := 36) rfl)) e0 (g := (mkF m 18 #[.val (.ref sn), .val (.ref sd), .val (.int (0 : Int32))] [])) rfl (hb hby d_prog_6_method_2_code_18) (by decide) (by decide)
  obtain ⟨b281, g281⟩ : ∃ z, z = h0.size := ⟨_, rfl⟩
  rw [← g281] at A281 D281 st281
  have geb281 : h0.size ≤ b281 := Nat.le_of_eq g281.symm
  have g_b281 : n0 ≤ b281 := Nat.le_trans Z0 geb281
  have sz_b281 : h0.size ≤ b281 := Nat.le_trans K0.1 geb281
  have O282 : Old Z n0 h281 := O0.ext E281
  have Z282 : n0 ≤ h281.size := Nat.le_trans Z0 E281.1
  have K282 : Keep h0 h281 [] := K0.ext E281
  have f283 : Fld Z h281 b281 "com/example/nimble_container/nimblecontainer/creation/MethodNaming" "named" "Ljava/lang/String;" .null := D281 (Or.inr (hw _ (List.mem_of_getElem? (i := 45) rfl))) (ty := (.object "java/lang/String")) (by decide)
  have f284 : Fld Z h281 b281 "com/example/nimble_container/nimblecontainer/creation/MethodNaming" "byDefault" "Ljava/lang/String;" .null := D281 (Or.inr (hw _ (List.mem_of_getElem? (i := 47) rfl))) (ty := (.object "java/lang/String")) (by decide)
  have f285 : Fld Z h281 b281 "com/example/nimble_container/nimblecontainer/creation/MethodNaming" "inferred" "Z" (.int (0 : Int32)) := D281 (Or.inr (hw _ (List.mem_of_getElem? (i := 49) rfl))) (ty := .boolean) (by decide)
  obtain ⟨_, _, ⟨T286, L286, k286, n286⟩, -, X286, ⟨Lc286, hQ286, l286, y286, z286⟩, st286⟩ := X281.specialBack hx (y := (⟨"com/example/nimble_container/nimblecontainer/creation/MethodNaming", "<init>", "(Ljava/lang/String;Ljava/lang/String;Z)V"⟩ : MethodName)) rfl hown (mvT hZ (hw _ (List.mem_of_getElem? (i := 40) rfl))) (mvT hZ (hw _ (List.mem_of_getElem? (i := 41) rfl))) (mvT hZ (hw _ (List.mem_of_getElem? (i := 42) rfl))) (by decide) (backOf (W := 1) (rmMIRR0 l Z a0 hw [] b281 sn sd h281 n0 O282 g_b281 A281 f283 f284 f285) hZ (hw _ (List.mem_of_getElem? (i := 42) rfl)) (hw _ (List.mem_of_getElem? (i := 36) rfl)) (by decide) (by decide)) (g := (mkF m 25 #[.val (.ref sn), .val (.ref sd), .val (.int (0 : Int32))] [(.int (0 : Int32)), (.ref sd), (.ref sn), (.ref b281), (.ref b281)])) rfl (by rw [hml]; rfl) (Steps.refl _) (a := b281) (argsL := [(.ref sn), (.ref sd), (.int (0 : Int32))]) (rest := [(.ref b281)]) (lenOf pd__Ljava_lang_String_Ljava_lang_String_Z_V rfl) rfl (by show 2 * 0 + _ ≤ _; exact Nat.le_of_eq rfl) (hb hby d_prog_6_method_2_code_25) (fun _ _ => ⟨rfl, e281, (by decide : 1 + 0 ≤ _), (by decide : 3 + 0 ≤ _)⟩)
  dsimp only [Pt.U, Pt.locs, Pt.cells, Pt.slots] at X286 l286 y286 z286 st286 hQ286
  subst l286 y286 z286
  obtain ⟨rfl, N286q, K286k, g1286, g2286, g3286, g4286⟩ := hQ286
  have N286 := Fr.app N0 N286q
  have O287 : Old Z n0 T286.heap := O282.keep K286k (allS g_b281 all0)
  have Z287 : n0 ≤ T286.heap.size := Nat.le_trans Z282 K286k.1
  have K287 : Keep h0 T286.heap [] := K282.trans K286k (allS (Or.inr sz_b281) all0)
  have f288 : Exa Z T286.heap b281 "com/example/nimble_container/nimblecontainer/creation/MethodNaming" := A281.keep K286k
  obtain ⟨fs, hr, hrun, hended, hW, hsame⟩ := X286.leave (v := some (.ref b281)) (fun h => by rw [Bd.returns] at h; cases h)
  refine ⟨_, _, pre0 _ ?_, hrun, hended, _, _, rfl, ?_, ⟨_, rfl⟩, hW, hsame.mono (by decide) (by decide)⟩
  · show Steps p.tables e below (s₁.setTop (mkF m 0 #[.val (.ref sn), .val (.ref sd), .val (.int (0 : Int32))] [])) _
    refine XS.aloadN X0.here hx rfl (hb hby d_prog_6_method_2_code_0) rfl rfl ?_
    show Steps p.tables e below (s₁.setTop (mkF m 1 #[.val (.ref sn), .val (.ref sd), .val (.int (0 : Int32))] [(.ref sn)])) _
    refine XS.ifnonnullYes X0.here hx rfl (pc0 := 1) (pc' := 18) rfl (hb hby d_prog_6_method_2_code_1) rfl (by decide) (by decide) ?_
    show Steps p.tables e below (s₁.setTop (mkF m 18 #[.val (.ref sn), .val (.ref sd), .val (.int (0 : Int32))] [])) _
    refine st281 _ ?_
    show Steps p.tables e below (T281.setTop (mkF m 21 #[.val (.ref sn), .val (.ref sd), .val (.int (0 : Int32))] [(.ref b281)])) _
    refine XS.dup X281.here hx rfl (hb hby d_prog_6_method_2_code_21) rfl rfl ?_
    show Steps p.tables e below (T281.setTop (mkF m 22 #[.val (.ref sn), .val (.ref sd), .val (.int (0 : Int32))] [(.ref b281), (.ref b281)])) _
    refine XS.aloadN X281.here hx rfl (hb hby d_prog_6_method_2_code_22) rfl rfl ?_
    show Steps p.tables e below (T281.setTop (mkF m 23 #[.val (.ref sn), .val (.ref sd), .val (.int (0 : Int32))] [(.ref sn), (.ref b281), (.ref b281)])) _
    refine XS.aloadN X281.here hx rfl (hb hby d_prog_6_method_2_code_23) rfl rfl ?_
    show Steps p.tables e below (T281.setTop (mkF m 24 #[.val (.ref sn), .val (.ref sd), .val (.int (0 : Int32))] [(.ref sd), (.ref sn), (.ref b281), (.ref b281)])) _
    refine XS.iloadN X281.here hx rfl (hb hby d_prog_6_method_2_code_24) rfl ?_
    show Steps p.tables e below (T281.setTop (mkF m 25 #[.val (.ref sn), .val (.ref sd), .val (.int (0 : Int32))] [(.int (0 : Int32)), (.ref sd), (.ref sn), (.ref b281), (.ref b281)])) _
    refine st286.trans ?_
    show Steps p.tables e below (T286.setTop (mkF m 28 #[.val (.ref sn), .val (.ref sd), .val (.int (0 : Int32))] [(.ref b281)])) _
    jvm_step X286.here [X286.here.top, hx, (hb hby d_prog_6_method_2_code_28), X286.method', Bd.returns, Value.isRef, FieldType.isReference]
    first | (intro acts; rw [hr _ acts rfl rfl rfl]) | rw [hr _ _ rfl rfl rfl]
    exact Steps.refl _
  · show QOfRR0 Z sn sd h0 n0 _ T286.heap _
    exact ⟨b281, rfl, N286, K287, sz_b281, g1286, g2286, g3286, g4286⟩
def QMIRR1 (Z : State) (x sn sd : Addr) (h0 : Heap) (n0 : Nat) (v : Option Value) (h : Heap) (L : List Loc) : Prop := v = none ∧ Fr n0 L ∧ Keep h0 h [x] ∧ Exa Z h x "com/example/nimble_container/nimblecontainer/creation/MethodNaming" ∧ Fld Z h x "com/example/nimble_container/nimblecontainer/creation/MethodNaming" "named" "Ljava/lang/String;" (.ref sn) ∧ Fld Z h x "com/example/nimble_container/nimblecontainer/creation/MethodNaming" "byDefault" "Ljava/lang/String;" (.ref sd) ∧ Fld Z h x "com/example/nimble_container/nimblecontainer/creation/MethodNaming" "inferred" "Z" (.int (1 : Int32))
theorem ef_rmMIRR1 (m : MethodId) (x0 : Addr) (x1 : Addr) (x2 : Addr) : entryFrame m #[(.ref x0), (.ref x1), (.ref x2), (.int (1 : Int32))] 4 = mkF m 0 #[.val (.ref x0), .val (.ref x1), .val (.ref x2), .val (.int (1 : Int32))] [] := by first | (simp [entryFrame, mkF, argsToLocals, Value.category]; done) | rfl
set_option maxRecDepth 65536 in
set_option maxHeartbeats 40000000 in
theorem rmMIRR1 (l : Launch) (Z : State) (a0 : Array Value) (hw : ∀ d ∈ tables_1, d.before a0 Z = true) (ws : List Jvm.Cond) (x sn sd : Addr) (h0 : Heap) (n0 : Nat) (O0 : Old Z n0 h0) (g_x : n0 ≤ x) (Ex : Exa Z h0 x "com/example/nimble_container/nimblecontainer/creation/MethodNaming") (F0 : Fld Z h0 x "com/example/nimble_container/nimblecontainer/creation/MethodNaming" "named" "Ljava/lang/String;" .null) (F1 : Fld Z h0 x "com/example/nimble_container/nimblecontainer/creation/MethodNaming" "byDefault" "Ljava/lang/String;" .null) (F2 : Fld Z h0 x "com/example/nimble_container/nimblecontainer/creation/MethodNaming" "inferred" "Z" (.int (0 : Int32))) :
    MetFree l (⟨"com/example/nimble_container/nimblecontainer/creation/MethodNaming", "<init>", "(Ljava/lang/String;Ljava/lang/String;Z)V"⟩ : MethodName) (head1 (Jvm.Cond.code (⟨"com/example/nimble_container/nimblecontainer/creation/MethodNaming", "<init>", "(Ljava/lang/String;Ljava/lang/String;Z)V"⟩ : MethodName) prog_6_method_1_code 4 none :: ws) ({ frames := 1, cells := 0, slots := 0, locals := 12 } : Room)) (fun aa_ U => aa_ = #[(.ref x), (.ref sn), (.ref sd), (.int (1 : Int32))] ∧ Z.Warmed39 U.vm ∧ U.heap = h0) (fun _ _ _ _ _ => True) (fun _ U o U' => ∃ v L, o = .returned v ∧ QMIRR1 Z x sn sd h0 n0 v U'.heap L ∧ FrameEnd U o U' L ({ frames := 1, cells := 0, slots := 0, locals := 12 } : Room).cells ({ frames := 1, cells := 0, slots := 0, locals := 12 } : Room).slots) := by
  refine MetFree.of_bodySF (plainFor_of_name pn_com_example_nimble_container_nimblecontainer_creation_MethodNaming) hisR ?_
  intro p e s m args below meth c s₁ Bd hml0 hP hK
  obtain ⟨rfl, hZ, hh⟩ := hP
  have hx := Bd.exec
  have hby := Bd.bytes
  have hml : c.maxLocals = 4 := hml0
  have hown : s.vm.findClass "com/example/nimble_container/nimblecontainer/creation/MethodNaming" = some m.cls := findClass_of_methodNamed Bd.named
  have hnm := (name_of_methodNamed Bd.named Bd.method).1
  have X0 : Stand p l e ({ frames := 1, cells := 0, slots := 0, locals := 12 } : Room) s m #[(.ref x), (.ref sn), (.ref sd), (.int (1 : Int32))] below meth c s₁ [] 0 0 := Stand.of_body Bd
  have e0 : s₁.heap = h0 := by rw [← hh, Bd.state]; rfl
  have N0 := Fr.nil n0
  have Z0 : n0 ≤ h0.size := O0.1 ▸ O0.2.1
  have K0 : Keep h0 h0 [x] := Keep.refl _ _
  have pre0 : ∀ tgt_, Steps p.tables e below (s₁.setTop (mkF m 0 #[.val (.ref x), .val (.ref sn), .val (.ref sd), .val (.int (1 : Int32))] [])) tgt_ → Steps p.tables e below (s₁.setTop (entryFrame m #[(.ref x), (.ref sn), (.ref sd), (.int (1 : Int32))] 4)) tgt_ := fun tgt_ k => castTop (ef_rmMIRR1 m x sn sd) k
  obtain ⟨T289, X289, e289, st289⟩ := initO X0 hx hZ hown (hw _ (List.mem_of_getElem? (i := 43) rfl)) (hw _ (List.mem_of_getElem? (i := 16) rfl)) (hw _ (List.mem_of_getElem? (i := 17) rfl)) e0 (g := (mkF m 1 #[.val (.ref x), .val (.ref sn), .val (.ref sd), .val (.int (1 : Int32))] [(.ref x)])) rfl (by rw [hml]; rfl) rfl (hb hby d_prog_6_method_1_code_1) (by decide) (W := 0) (by show 2 * 0 + _ ≤ _; exact Nat.le_of_eq rfl) (by decide)
  obtain ⟨T290, h290, X290, e290, W290, st290⟩ := putF X289 hx hZ hown (host := "") (Or.inl (hw _ (List.mem_of_getElem? (i := 44) rfl))) Via.refl e289 F0 Ex (Or.inr ⟨(hw _ (List.mem_of_getElem? (i := 45) rfl)), rfl, hnm⟩) (hw _ (List.mem_of_getElem? (i := 39) rfl)) (ty := (.object "java/lang/String")) (by decide) rfl rfl (g := (mkF m 6 #[.val (.ref x), .val (.ref sn), .val (.ref sd), .val (.int (1 : Int32))] [(.ref sn), (.ref x)])) rfl rfl (hb hby d_prog_6_method_1_code_6)
  have N290 := Fr.snoc X290 N0 g_x
  have O291 : Old Z n0 h290 := O0.wr W290 g_x
  have Z291 : n0 ≤ h290.size := Nat.le_trans Z0 (Keep.of_wr W290).1
  have K291 : Keep h0 h290 [x] := K0.wr W290 (Or.inl (List.mem_of_getElem? (i := 0) rfl))
  have f292 : Exa Z h290 x "com/example/nimble_container/nimblecontainer/creation/MethodNaming" := Ex.wr W290
  have f293 : Fld Z h290 x "com/example/nimble_container/nimblecontainer/creation/MethodNaming" "named" "Ljava/lang/String;" (.ref sn) := F0.same W290
  have f294 : Fld Z h290 x "com/example/nimble_container/nimblecontainer/creation/MethodNaming" "byDefault" "Ljava/lang/String;" .null := F1.other W290 (Or.inr (slot_ne (Or.inr (hw _ (List.mem_of_getElem? (i := 47) rfl))) (Or.inr (hw _ (List.mem_of_getElem? (i := 45) rfl))) (by decide) (t := (.object "java/lang/String")) (t' := (.object "java/lang/String")) (by decide) (by decide)))
  have f295 : Fld Z h290 x "com/example/nimble_container/nimblecontainer/creation/MethodNaming" "inferred" "Z" (.int (0 : Int32)) := F2.other W290 (Or.inr (slot_ne (Or.inr (hw _ (List.mem_of_getElem? (i := 49) rfl))) (Or.inr (hw _ (List.mem_of_getElem? (i := 45) rfl))) (by decide) (t := .boolean) (t' := (.object "java/lang/String")) (by decide) (by decide)))
  obtain ⟨T296, h296, X296, e296, W296, st296⟩ := putF X290 hx hZ hown (host := "") (Or.inl (hw _ (List.mem_of_getElem? (i := 46) rfl))) Via.refl e290 f294 f292 (Or.inr ⟨(hw _ (List.mem_of_getElem? (i := 47) rfl)), rfl, hnm⟩) (hw _ (List.mem_of_getElem? (i := 39) rfl)) (ty := (.object "java/lang/String")) (by decide) rfl rfl (g := (mkF m 11 #[.val (.ref x), .val (.ref sn), .val (.ref sd), .val (.int (1 : Int32))] [(.ref sd), (.ref x)])) rfl rfl (hb hby d_prog_6_method_1_code_11)
  have N296 := Fr.snoc X296 N290 g_x
  have O297 : Old Z n0 h296 := O291.wr W296 g_x
  have Z297 : n0 ≤ h296.size := Nat.le_trans Z291 (Keep.of_wr W296).1
  have K297 : Keep h0 h296 [x] := K291.wr W296 (Or.inl (List.mem_of_getElem? (i := 0) rfl))
  have f298 : Exa Z h296 x "com/example/nimble_container/nimblecontainer/creation/MethodNaming" := f292.wr W296
  have f299 : Fld Z h296 x "com/example/nimble_container/nimblecontainer/creation/MethodNaming" "named" "Ljava/lang/String;" (.ref sn) := f293.other W296 (Or.inr (slot_ne (Or.inr (hw _ (List.mem_of_getElem? (i := 45) rfl))) (Or.inr (hw _ (List.mem_of_getElem? (i := 47) rfl))) (by decide) (t := (.object "java/lang/String")) (t' := (.object "java/lang/String")) (by decide) (by decide)))
  have f300 : Fld Z h296 x "com/example/nimble_container/nimblecontainer/creation/MethodNaming" "byDefault" "Ljava/lang/String;" (.ref sd) := f294.same W296
  have f301 : Fld Z h296 x "com/example/nimble_container/nimblecontainer/creation/MethodNaming" "inferred" "Z" (.int (0 : Int32)) := f295.other W296 (Or.inr (slot_ne (Or.inr (hw _ (List.mem_of_getElem? (i := 49) rfl))) (Or.inr (hw _ (List.mem_of_getElem? (i := 47) rfl))) (by decide) (t := .boolean) (t' := (.object "java/lang/String")) (by decide) (by decide)))
  obtain ⟨T302, h302, X302, e302, W302, st302⟩ := putF X296 hx hZ hown (host := "") (Or.inl (hw _ (List.mem_of_getElem? (i := 48) rfl))) Via.refl e296 f301 f298 (Or.inr ⟨(hw _ (List.mem_of_getElem? (i := 49) rfl)), rfl, hnm⟩) (hw _ (List.mem_of_getElem? (i := 39) rfl)) (ty := .boolean) (by decide) rfl rfl (g := (mkF m 16 #[.val (.ref x), .val (.ref sn), .val (.ref sd), .val (.int (1 : Int32))] [(.int (1 : Int32)), (.ref x)])) rfl rfl (hb hby d_prog_6_method_1_code_16)
  have N302 := Fr.snoc X302 N296 g_x
  have O303 : Old Z n0 h302 := O297.wr W302 g_x
  have Z303 : n0 ≤ h302.size := Nat.le_trans Z297 (Keep.of_wr W302).1
  have K303 : Keep h0 h302 [x] := K297.wr W302 (Or.inl (List.mem_of_getElem? (i := 0) rfl))
  have f304 : Exa Z h302 x "com/example/nimble_container/nimblecontainer/creation/MethodNaming" := f298.wr W302
  have f305 : Fld Z h302 x "com/example/nimble_container/nimblecontainer/creation/MethodNaming" "named" "Ljava/lang/String;" (.ref sn) := f299.other W302 (Or.inr (slot_ne (Or.inr (hw _ (List.mem_of_getElem? (i := 45) rfl))) (Or.inr (hw _ (List.mem_of_getElem? (i := 49) rfl))) (by decide) (t := (.object "java/lang/String")) (t' := .boolean) (by decide) (by decide)))
  have f306 : Fld Z h302 x "com/example/nimble_container/nimblecontainer/creation/MethodNaming" "byDefault" "Ljava/lang/String;" (.ref sd) := f300.other W302 (Or.inr (slot_ne (Or.inr (hw _ (List.mem_of_getElem? (i := 47) rfl))) (Or.inr (hw _ (List.mem_of_getElem? (i := 49) rfl))) (by decide) (t := (.object "java/lang/String")) (t' := .boolean) (by decide) (by decide)))
  have f307 : Fld Z h302 x "com/example/nimble_container/nimblecontainer/creation/MethodNaming" "inferred" "Z" (.int (1 : Int32)) := f301.same W302
  obtain ⟨fs, hr, hrun, hended, hW, hsame⟩ := X302.leave (v := none) (fun _ => rfl)
  refine ⟨_, _, pre0 _ ?_, hrun, hended, _, _, rfl, ?_, ⟨_, rfl⟩, hW, hsame.mono (by decide) (by decide)⟩
  · show Steps p.tables e below (s₁.setTop (mkF m 0 #[.val (.ref x), .val (.ref sn), .val (.ref sd), .val (.int (1 : Int32))] [])) _
    refine XS.aloadN X0.here hx rfl (hb hby d_prog_6_method_1_code_0) rfl rfl ?_
    show Steps p.tables e below (s₁.setTop (mkF m 1 #[.val (.ref x), .val (.ref sn), .val (.ref sd), .val (.int (1 : Int32))] [(.ref x)])) _
    refine st289 _ ?_
    show Steps p.tables e below (T289.setTop (mkF m 4 #[.val (.ref x), .val (.ref sn), .val (.ref sd), .val (.int (1 : Int32))] [])) _
    refine XS.aloadN X289.here hx rfl (hb hby d_prog_6_method_1_code_4) rfl rfl ?_
    show Steps p.tables e below (T289.setTop (mkF m 5 #[.val (.ref x), .val (.ref sn), .val (.ref sd), .val (.int (1 : Int32))] [(.ref x)])) _
    refine XS.aloadN X289.here hx rfl (hb hby d_prog_6_method_1_code_5) rfl rfl ?_
    show Steps p.tables e below (T289.setTop (mkF m 6 #[.val (.ref x), .val (.ref sn), .val (.ref sd), .val (.int (1 : Int32))] [(.ref sn), (.ref x)])) _
    refine st290 _ ?_
    show Steps p.tables e below (T290.setTop (mkF m 9 #[.val (.ref x), .val (.ref sn), .val (.ref sd), .val (.int (1 : Int32))] [])) _
    refine XS.aloadN X290.here hx rfl (hb hby d_prog_6_method_1_code_9) rfl rfl ?_
    show Steps p.tables e below (T290.setTop (mkF m 10 #[.val (.ref x), .val (.ref sn), .val (.ref sd), .val (.int (1 : Int32))] [(.ref x)])) _
    refine XS.aloadN X290.here hx rfl (hb hby d_prog_6_method_1_code_10) rfl rfl ?_
    show Steps p.tables e below (T290.setTop (mkF m 11 #[.val (.ref x), .val (.ref sn), .val (.ref sd), .val (.int (1 : Int32))] [(.ref sd), (.ref x)])) _
    refine st296 _ ?_
    show Steps p.tables e below (T296.setTop (mkF m 14 #[.val (.ref x), .val (.ref sn), .val (.ref sd), .val (.int (1 : Int32))] [])) _
    refine XS.aloadN X296.here hx rfl (hb hby d_prog_6_method_1_code_14) rfl rfl ?_
    show Steps p.tables e below (T296.setTop (mkF m 15 #[.val (.ref x), .val (.ref sn), .val (.ref sd), .val (.int (1 : Int32))] [(.ref x)])) _
    refine XS.iloadN X296.here hx rfl (hb hby d_prog_6_method_1_code_15) rfl ?_
    show Steps p.tables e below (T296.setTop (mkF m 16 #[.val (.ref x), .val (.ref sn), .val (.ref sd), .val (.int (1 : Int32))] [(.int (1 : Int32)), (.ref x)])) _
    refine st302 _ ?_
    show Steps p.tables e below (T302.setTop (mkF m 19 #[.val (.ref x), .val (.ref sn), .val (.ref sd), .val (.int (1 : Int32))] [])) _
    exact X302.returnOut hx Bd.returns (hb hby d_prog_6_method_1_code_19) hr
  · show QMIRR1 Z x sn sd h0 n0 _ T302.heap _
    rw [e302]
    exact ⟨rfl, N302, K303, f304, f305, f306, f307⟩
def QOfRR1 (Z : State) (sn sd : Addr) (h0 : Heap) (n0 : Nat) (v : Option Value) (h : Heap) (L : List Loc) : Prop := ∃ x : Addr, v = some (.ref x) ∧ Fr n0 L ∧ Keep h0 h [] ∧ h0.size ≤ x ∧ Exa Z h x "com/example/nimble_container/nimblecontainer/creation/MethodNaming" ∧ Fld Z h x "com/example/nimble_container/nimblecontainer/creation/MethodNaming" "named" "Ljava/lang/String;" (.ref sn) ∧ Fld Z h x "com/example/nimble_container/nimblecontainer/creation/MethodNaming" "byDefault" "Ljava/lang/String;" (.ref sd) ∧ Fld Z h x "com/example/nimble_container/nimblecontainer/creation/MethodNaming" "inferred" "Z" (.int (1 : Int32))
theorem ef_rmOfRR1 (m : MethodId) (x0 : Addr) (x1 : Addr) : entryFrame m #[(.ref x0), (.ref x1), (.int (1 : Int32))] 3 = mkF m 0 #[.val (.ref x0), .val (.ref x1), .val (.int (1 : Int32))] [] := by first | (simp [entryFrame, mkF, argsToLocals, Value.category]; done) | rfl
set_option maxRecDepth 65536 in
set_option maxHeartbeats 40000000 in
theorem rmOfRR1 (l : Launch) (Z : State) (a0 : Array Value) (hw : ∀ d ∈ tables_1, d.before a0 Z = true) (ws : List Jvm.Cond) (sn sd : Addr) (h0 : Heap) (n0 : Nat) (O0 : Old Z n0 h0) :
    MetFree l (⟨"com/example/nimble_container/nimblecontainer/creation/MethodNaming", "of", "(Ljava/lang/String;Ljava/lang/String;Z)Lcom/example/nimble_container/nimblecontainer/creation/MethodNaming;"⟩ : MethodName) (head1 (Jvm.Cond.code (⟨"com/example/nimble_container/nimblecontainer/creation/MethodNaming", "of", "(Ljava/lang/String;Ljava/lang/String;Z)Lcom/example/nimble_container/nimblecontainer/creation/MethodNaming;"⟩ : MethodName) prog_6_method_2_code 3 (some (.object "com/example/nimble_container/nimblecontainer/creation/MethodNaming")) :: ws) ({ frames := 2, cells := 1, slots := 3, locals := 28 } : Room)) (fun aa_ U => aa_ = #[(.ref sn), (.ref sd), (.int (1 : Int32))] ∧ Z.Warmed39 U.vm ∧ U.heap = h0) (fun _ _ _ _ _ => True) (fun _ U o U' => ∃ v L, o = .returned v ∧ QOfRR1 Z sn sd h0 n0 v U'.heap L ∧ FrameEnd U o U' L ({ frames := 2, cells := 1, slots := 3, locals := 28 } : Room).cells ({ frames := 2, cells := 1, slots := 3, locals := 28 } : Room).slots) := by
  refine MetFree.of_bodySF (plainFor_of_name pn_com_example_nimble_container_nimblecontainer_creation_MethodNaming) hisR ?_
  intro p e s m args below meth c s₁ Bd hml0 hP hK
  obtain ⟨rfl, hZ, hh⟩ := hP
  have hx := Bd.exec
  have hby := Bd.bytes
  have hml : c.maxLocals = 3 := hml0
  have hown : s.vm.findClass "com/example/nimble_container/nimblecontainer/creation/MethodNaming" = some m.cls := findClass_of_methodNamed Bd.named
  have hnm := (name_of_methodNamed Bd.named Bd.method).1
  have X0 : Stand p l e ({ frames := 2, cells := 1, slots := 3, locals := 28 } : Room) s m #[(.ref sn), (.ref sd), (.int (1 : Int32))] below meth c s₁ [] 0 0 := Stand.of_body Bd
  have e0 : s₁.heap = h0 := by rw [← hh, Bd.state]; rfl
  have N0 := Fr.nil n0
  have Z0 : n0 ≤ h0.size := O0.1 ▸ O0.2.1
  have K0 : Keep h0 h0 [] := Keep.refl _ _
  have pre0 : ∀ tgt_, Steps p.tables e below (s₁.setTop (mkF m 0 #[.val (.ref sn), .val (.ref sd), .val (.int (1 : Int32))] [])) tgt_ → Steps p.tables e below (s₁.setTop (entryFrame m #[(.ref sn), (.ref sd), (.int (1 : Int32))] 3)) tgt_ := fun tgt_ k => castTop (ef_rmOfRR1 m sn sd) k
  obtain ⟨T308, h308, X308, e308, E308, A308, D308, -, st308⟩ := newO X0 hx hZ hown (hw _ (List.mem_of_getElem? (i := 38) rfl)) (hw _ (List.mem_of_getElem? (i := 39) rfl)) (hw _ (List.mem_of_getElem? (i := 36) rfl)) e0 (g := (mkF m 18 #[.val (.ref sn), .val (.ref sd), .val (.int (1 : Int32))] [])) rfl (hb hby d_prog_6_method_2_code_18) (by decide) (by decide)
  obtain ⟨b308, g308⟩ : ∃ z, z = h0.size := ⟨_, rfl⟩
  rw [← g308] at A308 D308 st308
  have geb308 : h0.size ≤ b308 := Nat.le_of_eq g308.symm
  have g_b308 : n0 ≤ b308 := Nat.le_trans Z0 geb308
  have sz_b308 : h0.size ≤ b308 := Nat.le_trans K0.1 geb308
  have O309 : Old Z n0 h308 := O0.ext E308
  have Z309 : n0 ≤ h308.size := Nat.le_trans Z0 E308.1
  have K309 : Keep h0 h308 [] := K0.ext E308
  have f310 : Fld Z h308 b308 "com/example/nimble_container/nimblecontainer/creation/MethodNaming" "named" "Ljava/lang/String;" .null := D308 (Or.inr (hw _ (List.mem_of_getElem? (i := 45) rfl))) (ty := (.object "java/lang/String")) (by decide)
  have f311 : Fld Z h308 b308 "com/example/nimble_container/nimblecontainer/creation/MethodNaming" "byDefault" "Ljava/lang/String;" .null := D308 (Or.inr (hw _ (List.mem_of_getElem? (i := 47) rfl))) (ty := (.object "java/lang/String")) (by decide)
  have f312 : Fld Z h308 b308 "com/example/nimble_container/nimblecontainer/creation/MethodNaming" "inferred" "Z" (.int (0 : Int32)) := D308 (Or.inr (hw _ (List.mem_of_getElem? (i := 49) rfl))) (ty := .boolean) (by decide)
  obtain ⟨_, _, ⟨T313, L313, k313, n313⟩, -, X313, ⟨Lc313, hQ313, l313, y313, z313⟩, st313⟩ := X308.specialBack hx (y := (⟨"com/example/nimble_container/nimblecontainer/creation/MethodNaming", "<init>", "(Ljava/lang/String;Ljava/lang/String;Z)V"⟩ : MethodName)) rfl hown (mvT hZ (hw _ (List.mem_of_getElem? (i := 40) rfl))) (mvT hZ (hw _ (List.mem_of_getElem? (i := 41) rfl))) (mvT hZ (hw _ (List.mem_of_getElem? (i := 42) rfl))) (by decide) (backOf (W := 1) (rmMIRR1 l Z a0 hw [] b308 sn sd h308 n0 O309 g_b308 A308 f310 f311 f312) hZ (hw _ (List.mem_of_getElem? (i := 42) rfl)) (hw _ (List.mem_of_getElem? (i := 36) rfl)) (by decide) (by decide)) (g := (mkF m 25 #[.val (.ref sn), .val (.ref sd), .val (.int (1 : Int32))] [(.int (1 : Int32)), (.ref sd), (.ref sn), (.ref b308), (.ref b308)])) rfl (by rw [hml]; rfl) (Steps.refl _) (a := b308) (argsL := [(.ref sn), (.ref sd), (.int (1 : Int32))]) (rest := [(.ref b308)]) (lenOf pd__Ljava_lang_String_Ljava_lang_String_Z_V rfl) rfl (by show 2 * 0 + _ ≤ _; exact Nat.le_of_eq rfl) (hb hby d_prog_6_method_2_code_25) (fun _ _ => ⟨rfl, e308, (by decide : 1 + 0 ≤ _), (by decide : 3 + 0 ≤ _)⟩)
  dsimp only [Pt.U, Pt.locs, Pt.cells, Pt.slots] at X313 l313 y313 z313 st313 hQ313
  subst l313 y313 z313
  obtain ⟨rfl, N313q, K313k, g1313, g2313, g3313, g4313⟩ := hQ313
  have N313 := Fr.app N0 N313q
  have O314 : Old Z n0 T313.heap := O309.keep K313k (allS g_b308 all0)
  have Z314 : n0 ≤ T313.heap.size := Nat.le_trans Z309 K313k.1
  have K314 : Keep h0 T313.heap [] := K309.trans K313k (allS (Or.inr sz_b308) all0)
  have f315 : Exa Z T313.heap b308 "com/example/nimble_container/nimblecontainer/creation/MethodNaming" := A308.keep K313k
  obtain ⟨fs, hr, hrun, hended, hW, hsame⟩ := X313.leave (v := some (.ref b308)) (fun h => by rw [Bd.returns] at h; cases h)
  refine ⟨_, _, pre0 _ ?_, hrun, hended, _, _, rfl, ?_, ⟨_, rfl⟩, hW, hsame.mono (by decide) (by decide)⟩
  · show Steps p.tables e below (s₁.setTop (mkF m 0 #[.val (.ref sn), .val (.ref sd), .val (.int (1 : Int32))] [])) _
    refine XS.aloadN X0.here hx rfl (hb hby d_prog_6_method_2_code_0) rfl rfl ?_
    show Steps p.tables e below (s₁.setTop (mkF m 1 #[.val (.ref sn), .val (.ref sd), .val (.int (1 : Int32))] [(.ref sn)])) _
    refine XS.ifnonnullYes X0.here hx rfl (pc0 := 1) (pc' := 18) rfl (hb hby d_prog_6_method_2_code_1) rfl (by decide) (by decide) ?_
    show Steps p.tables e below (s₁.setTop (mkF m 18 #[.val (.ref sn), .val (.ref sd), .val (.int (1 : Int32))] [])) _
    refine st308 _ ?_
    show Steps p.tables e below (T308.setTop (mkF m 21 #[.val (.ref sn), .val (.ref sd), .val (.int (1 : Int32))] [(.ref b308)])) _
    refine XS.dup X308.here hx rfl (hb hby d_prog_6_method_2_code_21) rfl rfl ?_
    show Steps p.tables e below (T308.setTop (mkF m 22 #[.val (.ref sn), .val (.ref sd), .val (.int (1 : Int32))] [(.ref b308), (.ref b308)])) _
    refine XS.aloadN X308.here hx rfl (hb hby d_prog_6_method_2_code_22) rfl rfl ?_
    show Steps p.tables e below (T308.setTop (mkF m 23 #[.val (.ref sn), .val (.ref sd), .val (.int (1 : Int32))] [(.ref sn), (.ref b308), (.ref b308)])) _
    refine XS.aloadN X308.here hx rfl (hb hby d_prog_6_method_2_code_23) rfl rfl ?_
    show Steps p.tables e below (T308.setTop (mkF m 24 #[.val (.ref sn), .val (.ref sd), .val (.int (1 : Int32))] [(.ref sd), (.ref sn), (.ref b308), (.ref b308)])) _
    refine XS.iloadN X308.here hx rfl (hb hby d_prog_6_method_2_code_24) rfl ?_
    show Steps p.tables e below (T308.setTop (mkF m 25 #[.val (.ref sn), .val (.ref sd), .val (.int (1 : Int32))] [(.int (1 : Int32)), (.ref sd), (.ref sn), (.ref b308), (.ref b308)])) _
    refine st313.trans ?_
    show Steps p.tables e below (T313.setTop (mkF m 28 #[.val (.ref sn), .val (.ref sd), .val (.int (1 : Int32))] [(.ref b308)])) _
    jvm_step X313.here [X313.here.top, hx, (hb hby d_prog_6_method_2_code_28), X313.method', Bd.returns, Value.isRef, FieldType.isReference]
    first | (intro acts; rw [hr _ acts rfl rfl rfl]) | rw [hr _ _ rfl rfl rfl]
    exact Steps.refl _
  · show QOfRR1 Z sn sd h0 n0 _ T313.heap _
    exact ⟨b308, rfl, N313, K314, sz_b308, g1313, g2313, g3313, g4313⟩
def QGNN (Z : State) (z : Addr) (h0 : Heap) (n0 : Nat) (v : Option Value) (h : Heap) (L : List Loc) : Prop := v = some .null ∧ Fr n0 L ∧ h = h0
theorem d_prog_6_method_3_code_0 : decode prog_6_method_3_code 0 = .ok (.aload_n 0, 1) := by decide +kernel
theorem d_prog_6_method_3_code_1 : decode prog_6_method_3_code 1 = .ok (.getfield 7, 3) := by decide +kernel
theorem d_prog_6_method_3_code_4 : decode prog_6_method_3_code 4 = .ok (.areturn, 1) := by decide +kernel
theorem ef_rmGNN (m : MethodId) (x0 : Addr) : entryFrame m #[(.ref x0)] 1 = mkF m 0 #[.val (.ref x0)] [] := by first | (simp [entryFrame, mkF, argsToLocals, Value.category]; done) | rfl
set_option maxRecDepth 65536 in
set_option maxHeartbeats 40000000 in
theorem rmGNN (l : Launch) (Z : State) (a0 : Array Value) (hw : ∀ d ∈ tables_1, d.before a0 Z = true) (ws : List Jvm.Cond) (x z : Addr) (h0 : Heap) (n0 : Nat) (O0 : Old Z n0 h0) (F0 : Fld Z h0 x "com/example/nimble_container/nimblecontainer/creation/MethodNaming" "named" "Ljava/lang/String;" .null) :
    MetFree l (⟨"com/example/nimble_container/nimblecontainer/creation/MethodNaming", "named", "()Ljava/lang/String;"⟩ : MethodName) (head1 (Jvm.Cond.code (⟨"com/example/nimble_container/nimblecontainer/creation/MethodNaming", "named", "()Ljava/lang/String;"⟩ : MethodName) prog_6_method_3_code 1 (some (.object "java/lang/String")) :: ws) ({ frames := 0, cells := 0, slots := 0, locals := 0 } : Room)) (fun aa_ U => aa_ = #[(.ref x)] ∧ Z.Warmed39 U.vm ∧ U.heap = h0) (fun _ _ _ _ _ => True) (fun _ U o U' => ∃ v L, o = .returned v ∧ QGNN Z z h0 n0 v U'.heap L ∧ FrameEnd U o U' L ({ frames := 0, cells := 0, slots := 0, locals := 0 } : Room).cells ({ frames := 0, cells := 0, slots := 0, locals := 0 } : Room).slots) := by
  refine MetFree.of_bodySF (plainFor_of_name pn_com_example_nimble_container_nimblecontainer_creation_MethodNaming) hisR ?_
  intro p e s m args below meth c s₁ Bd hml0 hP hK
  obtain ⟨rfl, hZ, hh⟩ := hP
  have hx := Bd.exec
  have hby := Bd.bytes
  have hml : c.maxLocals = 1 := hml0
  have hown : s.vm.findClass "com/example/nimble_container/nimblecontainer/creation/MethodNaming" = some m.cls := findClass_of_methodNamed Bd.named
  have hnm := (name_of_methodNamed Bd.named Bd.method).1
  have X0 : Stand p l e ({ frames := 0, cells := 0, slots := 0, locals := 0 } : Room) s m #[(.ref x)] below meth c s₁ [] 0 0 := Stand.of_body Bd
  have e0 : s₁.heap = h0 := by rw [← hh, Bd.state]; rfl
  have N0 := Fr.nil n0
  have Z0 : n0 ≤ h0.size := O0.1 ▸ O0.2.1
  have K0 : Keep h0 h0 [] := Keep.refl _ _
  have pre0 : ∀ tgt_, Steps p.tables e below (s₁.setTop (mkF m 0 #[.val (.ref x)] [])) tgt_ → Steps p.tables e below (s₁.setTop (entryFrame m #[(.ref x)] 1)) tgt_ := fun tgt_ k => castTop (ef_rmGNN m x) k
  obtain ⟨T316, X316, e316, st316⟩ := getF X0 hx hZ hown (host := "") (Or.inl (hw _ (List.mem_of_getElem? (i := 44) rfl))) Via.refl e0 F0 (g := (mkF m 1 #[.val (.ref x)] [(.ref x)])) rfl rfl (hb hby d_prog_6_method_3_code_1)
  obtain ⟨fs, hr, hrun, hended, hW, hsame⟩ := X316.leave (v := some .null) (fun h => by rw [Bd.returns] at h; cases h)
  refine ⟨_, _, pre0 _ ?_, hrun, hended, _, _, rfl, ?_, ⟨_, rfl⟩, hW, hsame.mono (by decide) (by decide)⟩
  · show Steps p.tables e below (s₁.setTop (mkF m 0 #[.val (.ref x)] [])) _
    refine XS.aloadN X0.here hx rfl (hb hby d_prog_6_method_3_code_0) rfl rfl ?_
    show Steps p.tables e below (s₁.setTop (mkF m 1 #[.val (.ref x)] [(.ref x)])) _
    refine st316 _ ?_
    show Steps p.tables e below (T316.setTop (mkF m 4 #[.val (.ref x)] [.null])) _
    jvm_step X316.here [X316.here.top, hx, (hb hby d_prog_6_method_3_code_4), X316.method', Bd.returns, Value.isRef, FieldType.isReference]
    first | (intro acts; rw [hr _ acts rfl rfl rfl]) | rw [hr _ _ rfl rfl rfl]
    exact Steps.refl _
  · show QGNN Z z h0 n0 _ T316.heap _
    rw [e316]
    exact ⟨rfl, N0, rfl⟩
def QGNR (Z : State) (z : Addr) (h0 : Heap) (n0 : Nat) (v : Option Value) (h : Heap) (L : List Loc) : Prop := v = some (.ref z) ∧ Fr n0 L ∧ h = h0
theorem ef_rmGNR (m : MethodId) (x0 : Addr) : entryFrame m #[(.ref x0)] 1 = mkF m 0 #[.val (.ref x0)] [] := by first | (simp [entryFrame, mkF, argsToLocals, Value.category]; done) | rfl
set_option maxRecDepth 65536 in
set_option maxHeartbeats 40000000 in
theorem rmGNR (l : Launch) (Z : State) (a0 : Array Value) (hw : ∀ d ∈ tables_1, d.before a0 Z = true) (ws : List Jvm.Cond) (x z : Addr) (h0 : Heap) (n0 : Nat) (O0 : Old Z n0 h0) (F0 : Fld Z h0 x "com/example/nimble_container/nimblecontainer/creation/MethodNaming" "named" "Ljava/lang/String;" (.ref z)) :
    MetFree l (⟨"com/example/nimble_container/nimblecontainer/creation/MethodNaming", "named", "()Ljava/lang/String;"⟩ : MethodName) (head1 (Jvm.Cond.code (⟨"com/example/nimble_container/nimblecontainer/creation/MethodNaming", "named", "()Ljava/lang/String;"⟩ : MethodName) prog_6_method_3_code 1 (some (.object "java/lang/String")) :: ws) ({ frames := 0, cells := 0, slots := 0, locals := 0 } : Room)) (fun aa_ U => aa_ = #[(.ref x)] ∧ Z.Warmed39 U.vm ∧ U.heap = h0) (fun _ _ _ _ _ => True) (fun _ U o U' => ∃ v L, o = .returned v ∧ QGNR Z z h0 n0 v U'.heap L ∧ FrameEnd U o U' L ({ frames := 0, cells := 0, slots := 0, locals := 0 } : Room).cells ({ frames := 0, cells := 0, slots := 0, locals := 0 } : Room).slots) := by
  refine MetFree.of_bodySF (plainFor_of_name pn_com_example_nimble_container_nimblecontainer_creation_MethodNaming) hisR ?_
  intro p e s m args below meth c s₁ Bd hml0 hP hK
  obtain ⟨rfl, hZ, hh⟩ := hP
  have hx := Bd.exec
  have hby := Bd.bytes
  have hml : c.maxLocals = 1 := hml0
  have hown : s.vm.findClass "com/example/nimble_container/nimblecontainer/creation/MethodNaming" = some m.cls := findClass_of_methodNamed Bd.named
  have hnm := (name_of_methodNamed Bd.named Bd.method).1
  have X0 : Stand p l e ({ frames := 0, cells := 0, slots := 0, locals := 0 } : Room) s m #[(.ref x)] below meth c s₁ [] 0 0 := Stand.of_body Bd
  have e0 : s₁.heap = h0 := by rw [← hh, Bd.state]; rfl
  have N0 := Fr.nil n0
  have Z0 : n0 ≤ h0.size := O0.1 ▸ O0.2.1
  have K0 : Keep h0 h0 [] := Keep.refl _ _
  have pre0 : ∀ tgt_, Steps p.tables e below (s₁.setTop (mkF m 0 #[.val (.ref x)] [])) tgt_ → Steps p.tables e below (s₁.setTop (entryFrame m #[(.ref x)] 1)) tgt_ := fun tgt_ k => castTop (ef_rmGNR m x) k
  obtain ⟨T317, X317, e317, st317⟩ := getF X0 hx hZ hown (host := "") (Or.inl (hw _ (List.mem_of_getElem? (i := 44) rfl))) Via.refl e0 F0 (g := (mkF m 1 #[.val (.ref x)] [(.ref x)])) rfl rfl (hb hby d_prog_6_method_3_code_1)
  obtain ⟨fs, hr, hrun, hended, hW, hsame⟩ := X317.leave (v := some (.ref z)) (fun h => by rw [Bd.returns] at h; cases h)
  refine ⟨_, _, pre0 _ ?_, hrun, hended, _, _, rfl, ?_, ⟨_, rfl⟩, hW, hsame.mono (by decide) (by decide)⟩
  · show Steps p.tables e below (s₁.setTop (mkF m 0 #[.val (.ref x)] [])) _
    refine XS.aloadN X0.here hx rfl (hb hby d_prog_6_method_3_code_0) rfl rfl ?_
    show Steps p.tables e below (s₁.setTop (mkF m 1 #[.val (.ref x)] [(.ref x)])) _
    refine st317 _ ?_
    show Steps p.tables e below (T317.setTop (mkF m 4 #[.val (.ref x)] [(.ref z)])) _
    jvm_step X317.here [X317.here.top, hx, (hb hby d_prog_6_method_3_code_4), X317.method', Bd.returns, Value.isRef, FieldType.isReference]
    first | (intro acts; rw [hr _ acts rfl rfl rfl]) | rw [hr _ _ rfl rfl rfl]
    exact Steps.refl _
  · show QGNR Z z h0 n0 _ T317.heap _
    rw [e317]
    exact ⟨rfl, N0, rfl⟩
def QGBN (Z : State) (z : Addr) (h0 : Heap) (n0 : Nat) (v : Option Value) (h : Heap) (L : List Loc) : Prop := v = some .null ∧ Fr n0 L ∧ h = h0
theorem d_prog_6_method_4_code_0 : decode prog_6_method_4_code 0 = .ok (.aload_n 0, 1) := by decide +kernel
theorem d_prog_6_method_4_code_1 : decode prog_6_method_4_code 1 = .ok (.getfield 13, 3) := by decide +kernel
theorem d_prog_6_method_4_code_4 : decode prog_6_method_4_code 4 = .ok (.areturn, 1) := by decide +kernel
theorem ef_rmGBN (m : MethodId) (x0 : Addr) : entryFrame m #[(.ref x0)] 1 = mkF m 0 #[.val (.ref x0)] [] := by first | (simp [entryFrame, mkF, argsToLocals, Value.category]; done) | rfl
set_option maxRecDepth 65536 in
set_option maxHeartbeats 40000000 in
theorem rmGBN (l : Launch) (Z : State) (a0 : Array Value) (hw : ∀ d ∈ tables_1, d.before a0 Z = true) (ws : List Jvm.Cond) (x z : Addr) (h0 : Heap) (n0 : Nat) (O0 : Old Z n0 h0) (F0 : Fld Z h0 x "com/example/nimble_container/nimblecontainer/creation/MethodNaming" "byDefault" "Ljava/lang/String;" .null) :
    MetFree l (⟨"com/example/nimble_container/nimblecontainer/creation/MethodNaming", "byDefault", "()Ljava/lang/String;"⟩ : MethodName) (head1 (Jvm.Cond.code (⟨"com/example/nimble_container/nimblecontainer/creation/MethodNaming", "byDefault", "()Ljava/lang/String;"⟩ : MethodName) prog_6_method_4_code 1 (some (.object "java/lang/String")) :: ws) ({ frames := 0, cells := 0, slots := 0, locals := 0 } : Room)) (fun aa_ U => aa_ = #[(.ref x)] ∧ Z.Warmed39 U.vm ∧ U.heap = h0) (fun _ _ _ _ _ => True) (fun _ U o U' => ∃ v L, o = .returned v ∧ QGBN Z z h0 n0 v U'.heap L ∧ FrameEnd U o U' L ({ frames := 0, cells := 0, slots := 0, locals := 0 } : Room).cells ({ frames := 0, cells := 0, slots := 0, locals := 0 } : Room).slots) := by
  refine MetFree.of_bodySF (plainFor_of_name pn_com_example_nimble_container_nimblecontainer_creation_MethodNaming) hisR ?_
  intro p e s m args below meth c s₁ Bd hml0 hP hK
  obtain ⟨rfl, hZ, hh⟩ := hP
  have hx := Bd.exec
  have hby := Bd.bytes
  have hml : c.maxLocals = 1 := hml0
  have hown : s.vm.findClass "com/example/nimble_container/nimblecontainer/creation/MethodNaming" = some m.cls := findClass_of_methodNamed Bd.named
  have hnm := (name_of_methodNamed Bd.named Bd.method).1
  have X0 : Stand p l e ({ frames := 0, cells := 0, slots := 0, locals := 0 } : Room) s m #[(.ref x)] below meth c s₁ [] 0 0 := Stand.of_body Bd
  have e0 : s₁.heap = h0 := by rw [← hh, Bd.state]; rfl
  have N0 := Fr.nil n0
  have Z0 : n0 ≤ h0.size := O0.1 ▸ O0.2.1
  have K0 : Keep h0 h0 [] := Keep.refl _ _
  have pre0 : ∀ tgt_, Steps p.tables e below (s₁.setTop (mkF m 0 #[.val (.ref x)] [])) tgt_ → Steps p.tables e below (s₁.setTop (entryFrame m #[(.ref x)] 1)) tgt_ := fun tgt_ k => castTop (ef_rmGBN m x) k
  obtain ⟨T318, X318, e318, st318⟩ := getF X0 hx hZ hown (host := "") (Or.inl (hw _ (List.mem_of_getElem? (i := 46) rfl))) Via.refl e0 F0 (g := (mkF m 1 #[.val (.ref x)] [(.ref x)])) rfl rfl (hb hby d_prog_6_method_4_code_1)
  obtain ⟨fs, hr, hrun, hended, hW, hsame⟩ := X318.leave (v := some .null) (fun h => by rw [Bd.returns] at h; cases h)
  refine ⟨_, _, pre0 _ ?_, hrun, hended, _, _, rfl, ?_, ⟨_, rfl⟩, hW, hsame.mono (by decide) (by decide)⟩
  · show Steps p.tables e below (s₁.setTop (mkF m 0 #[.val (.ref x)] [])) _
    refine XS.aloadN X0.here hx rfl (hb hby d_prog_6_method_4_code_0) rfl rfl ?_
    show Steps p.tables e below (s₁.setTop (mkF m 1 #[.val (.ref x)] [(.ref x)])) _
    refine st318 _ ?_
    show Steps p.tables e below (T318.setTop (mkF m 4 #[.val (.ref x)] [.null])) _
    jvm_step X318.here [X318.here.top, hx, (hb hby d_prog_6_method_4_code_4), X318.method', Bd.returns, Value.isRef, FieldType.isReference]
    first | (intro acts; rw [hr _ acts rfl rfl rfl]) | rw [hr _ _ rfl rfl rfl]
    exact Steps.refl _
  · show QGBN Z z h0 n0 _ T318.heap _
    rw [e318]
    exact ⟨rfl, N0, rfl⟩
def QGBR (Z : State) (z : Addr) (h0 : Heap) (n0 : Nat) (v : Option Value) (h : Heap) (L : List Loc) : Prop := v = some (.ref z) ∧ Fr n0 L ∧ h = h0
theorem ef_rmGBR (m : MethodId) (x0 : Addr) : entryFrame m #[(.ref x0)] 1 = mkF m 0 #[.val (.ref x0)] [] := by first | (simp [entryFrame, mkF, argsToLocals, Value.category]; done) | rfl
set_option maxRecDepth 65536 in
set_option maxHeartbeats 40000000 in
theorem rmGBR (l : Launch) (Z : State) (a0 : Array Value) (hw : ∀ d ∈ tables_1, d.before a0 Z = true) (ws : List Jvm.Cond) (x z : Addr) (h0 : Heap) (n0 : Nat) (O0 : Old Z n0 h0) (F0 : Fld Z h0 x "com/example/nimble_container/nimblecontainer/creation/MethodNaming" "byDefault" "Ljava/lang/String;" (.ref z)) :
    MetFree l (⟨"com/example/nimble_container/nimblecontainer/creation/MethodNaming", "byDefault", "()Ljava/lang/String;"⟩ : MethodName) (head1 (Jvm.Cond.code (⟨"com/example/nimble_container/nimblecontainer/creation/MethodNaming", "byDefault", "()Ljava/lang/String;"⟩ : MethodName) prog_6_method_4_code 1 (some (.object "java/lang/String")) :: ws) ({ frames := 0, cells := 0, slots := 0, locals := 0 } : Room)) (fun aa_ U => aa_ = #[(.ref x)] ∧ Z.Warmed39 U.vm ∧ U.heap = h0) (fun _ _ _ _ _ => True) (fun _ U o U' => ∃ v L, o = .returned v ∧ QGBR Z z h0 n0 v U'.heap L ∧ FrameEnd U o U' L ({ frames := 0, cells := 0, slots := 0, locals := 0 } : Room).cells ({ frames := 0, cells := 0, slots := 0, locals := 0 } : Room).slots) := by
  refine MetFree.of_bodySF (plainFor_of_name pn_com_example_nimble_container_nimblecontainer_creation_MethodNaming) hisR ?_
  intro p e s m args below meth c s₁ Bd hml0 hP hK
  obtain ⟨rfl, hZ, hh⟩ := hP
  have hx := Bd.exec
  have hby := Bd.bytes
  have hml : c.maxLocals = 1 := hml0
  have hown : s.vm.findClass "com/example/nimble_container/nimblecontainer/creation/MethodNaming" = some m.cls := findClass_of_methodNamed Bd.named
  have hnm := (name_of_methodNamed Bd.named Bd.method).1
  have X0 : Stand p l e ({ frames := 0, cells := 0, slots := 0, locals := 0 } : Room) s m #[(.ref x)] below meth c s₁ [] 0 0 := Stand.of_body Bd
  have e0 : s₁.heap = h0 := by rw [← hh, Bd.state]; rfl
  have N0 := Fr.nil n0
  have Z0 : n0 ≤ h0.size := O0.1 ▸ O0.2.1
  have K0 : Keep h0 h0 [] := Keep.refl _ _
  have pre0 : ∀ tgt_, Steps p.tables e below (s₁.setTop (mkF m 0 #[.val (.ref x)] [])) tgt_ → Steps p.tables e below (s₁.setTop (entryFrame m #[(.ref x)] 1)) tgt_ := fun tgt_ k => castTop (ef_rmGBR m x) k
  obtain ⟨T319, X319, e319, st319⟩ := getF X0 hx hZ hown (host := "") (Or.inl (hw _ (List.mem_of_getElem? (i := 46) rfl))) Via.refl e0 F0 (g := (mkF m 1 #[.val (.ref x)] [(.ref x)])) rfl rfl (hb hby d_prog_6_method_4_code_1)
  obtain ⟨fs, hr, hrun, hended, hW, hsame⟩ := X319.leave (v := some (.ref z)) (fun h => by rw [Bd.returns] at h; cases h)
  refine ⟨_, _, pre0 _ ?_, hrun, hended, _, _, rfl, ?_, ⟨_, rfl⟩, hW, hsame.mono (by decide) (by decide)⟩
  · show Steps p.tables e below (s₁.setTop (mkF m 0 #[.val (.ref x)] [])) _
    refine XS.aloadN X0.here hx rfl (hb hby d_prog_6_method_4_code_0) rfl rfl ?_
    show Steps p.tables e below (s₁.setTop (mkF m 1 #[.val (.ref x)] [(.ref x)])) _
    refine st319 _ ?_
    show Steps p.tables e below (T319.setTop (mkF m 4 #[.val (.ref x)] [(.ref z)])) _
    jvm_step X319.here [X319.here.top, hx, (hb hby d_prog_6_method_4_code_4), X319.method', Bd.returns, Value.isRef, FieldType.isReference]
    first | (intro acts; rw [hr _ acts rfl rfl rfl]) | rw [hr _ _ rfl rfl rfl]
    exact Steps.refl _
  · show QGBR Z z h0 n0 _ T319.heap _
    rw [e319]
    exact ⟨rfl, N0, rfl⟩
def QGI0 (Z : State)  (h0 : Heap) (n0 : Nat) (v : Option Value) (h : Heap) (L : List Loc) : Prop := v = some (.int (0 : Int32)) ∧ Fr n0 L ∧ h = h0
theorem d_prog_6_method_5_code_0 : decode prog_6_method_5_code 0 = .ok (.aload_n 0, 1) := by decide +kernel
theorem d_prog_6_method_5_code_1 : decode prog_6_method_5_code 1 = .ok (.getfield 16, 3) := by decide +kernel
theorem d_prog_6_method_5_code_4 : decode prog_6_method_5_code 4 = .ok (.ireturn, 1) := by decide +kernel
theorem ef_rmGI0 (m : MethodId) (x0 : Addr) : entryFrame m #[(.ref x0)] 1 = mkF m 0 #[.val (.ref x0)] [] := by first | (simp [entryFrame, mkF, argsToLocals, Value.category]; done) | rfl
set_option maxRecDepth 65536 in
set_option maxHeartbeats 40000000 in
theorem rmGI0 (l : Launch) (Z : State) (a0 : Array Value) (hw : ∀ d ∈ tables_1, d.before a0 Z = true) (ws : List Jvm.Cond) (x : Addr) (h0 : Heap) (n0 : Nat) (O0 : Old Z n0 h0) (F0 : Fld Z h0 x "com/example/nimble_container/nimblecontainer/creation/MethodNaming" "inferred" "Z" (.int (0 : Int32))) :
    MetFree l (⟨"com/example/nimble_container/nimblecontainer/creation/MethodNaming", "inferred", "()Z"⟩ : MethodName) (head1 (Jvm.Cond.code (⟨"com/example/nimble_container/nimblecontainer/creation/MethodNaming", "inferred", "()Z"⟩ : MethodName) prog_6_method_5_code 1 (some .boolean) :: ws) ({ frames := 0, cells := 0, slots := 0, locals := 0 } : Room)) (fun aa_ U => aa_ = #[(.ref x)] ∧ Z.Warmed39 U.vm ∧ U.heap = h0) (fun _ _ _ _ _ => True) (fun _ U o U' => ∃ v L, o = .returned v ∧ QGI0 Z h0 n0 v U'.heap L ∧ FrameEnd U o U' L ({ frames := 0, cells := 0, slots := 0, locals := 0 } : Room).cells ({ frames := 0, cells := 0, slots := 0, locals := 0 } : Room).slots) := by
  refine MetFree.of_bodySF (plainFor_of_name pn_com_example_nimble_container_nimblecontainer_creation_MethodNaming) hisR ?_
  intro p e s m args below meth c s₁ Bd hml0 hP hK
  obtain ⟨rfl, hZ, hh⟩ := hP
  have hx := Bd.exec
  have hby := Bd.bytes
  have hml : c.maxLocals = 1 := hml0
  have hown : s.vm.findClass "com/example/nimble_container/nimblecontainer/creation/MethodNaming" = some m.cls := findClass_of_methodNamed Bd.named
  have hnm := (name_of_methodNamed Bd.named Bd.method).1
  have X0 : Stand p l e ({ frames := 0, cells := 0, slots := 0, locals := 0 } : Room) s m #[(.ref x)] below meth c s₁ [] 0 0 := Stand.of_body Bd
  have e0 : s₁.heap = h0 := by rw [← hh, Bd.state]; rfl
  have N0 := Fr.nil n0
  have Z0 : n0 ≤ h0.size := O0.1 ▸ O0.2.1
  have K0 : Keep h0 h0 [] := Keep.refl _ _
  have pre0 : ∀ tgt_, Steps p.tables e below (s₁.setTop (mkF m 0 #[.val (.ref x)] [])) tgt_ → Steps p.tables e below (s₁.setTop (entryFrame m #[(.ref x)] 1)) tgt_ := fun tgt_ k => castTop (ef_rmGI0 m x) k
  obtain ⟨T320, X320, e320, st320⟩ := getF X0 hx hZ hown (host := "") (Or.inl (hw _ (List.mem_of_getElem? (i := 48) rfl))) Via.refl e0 F0 (g := (mkF m 1 #[.val (.ref x)] [(.ref x)])) rfl rfl (hb hby d_prog_6_method_5_code_1)
  obtain ⟨fs, hr, hrun, hended, hW, hsame⟩ := X320.leave (v := some (.int (0 : Int32))) (fun h => by rw [Bd.returns] at h; cases h)
  refine ⟨_, _, pre0 _ ?_, hrun, hended, _, _, rfl, ?_, ⟨_, rfl⟩, hW, hsame.mono (by decide) (by decide)⟩
  · show Steps p.tables e below (s₁.setTop (mkF m 0 #[.val (.ref x)] [])) _
    refine XS.aloadN X0.here hx rfl (hb hby d_prog_6_method_5_code_0) rfl rfl ?_
    show Steps p.tables e below (s₁.setTop (mkF m 1 #[.val (.ref x)] [(.ref x)])) _
    refine st320 _ ?_
    show Steps p.tables e below (T320.setTop (mkF m 4 #[.val (.ref x)] [(.int (0 : Int32))])) _
    exact retN X320 hx (t := .boolean) Bd.returns (by simp) (hb hby d_prog_6_method_5_code_4) hr
  · show QGI0 Z h0 n0 _ T320.heap _
    rw [e320]
    exact ⟨rfl, N0, rfl⟩
def QGI1 (Z : State)  (h0 : Heap) (n0 : Nat) (v : Option Value) (h : Heap) (L : List Loc) : Prop := v = some (.int (1 : Int32)) ∧ Fr n0 L ∧ h = h0
theorem ef_rmGI1 (m : MethodId) (x0 : Addr) : entryFrame m #[(.ref x0)] 1 = mkF m 0 #[.val (.ref x0)] [] := by first | (simp [entryFrame, mkF, argsToLocals, Value.category]; done) | rfl
set_option maxRecDepth 65536 in
set_option maxHeartbeats 40000000 in
theorem rmGI1 (l : Launch) (Z : State) (a0 : Array Value) (hw : ∀ d ∈ tables_1, d.before a0 Z = true) (ws : List Jvm.Cond) (x : Addr) (h0 : Heap) (n0 : Nat) (O0 : Old Z n0 h0) (F0 : Fld Z h0 x "com/example/nimble_container/nimblecontainer/creation/MethodNaming" "inferred" "Z" (.int (1 : Int32))) :
    MetFree l (⟨"com/example/nimble_container/nimblecontainer/creation/MethodNaming", "inferred", "()Z"⟩ : MethodName) (head1 (Jvm.Cond.code (⟨"com/example/nimble_container/nimblecontainer/creation/MethodNaming", "inferred", "()Z"⟩ : MethodName) prog_6_method_5_code 1 (some .boolean) :: ws) ({ frames := 0, cells := 0, slots := 0, locals := 0 } : Room)) (fun aa_ U => aa_ = #[(.ref x)] ∧ Z.Warmed39 U.vm ∧ U.heap = h0) (fun _ _ _ _ _ => True) (fun _ U o U' => ∃ v L, o = .returned v ∧ QGI1 Z h0 n0 v U'.heap L ∧ FrameEnd U o U' L ({ frames := 0, cells := 0, slots := 0, locals := 0 } : Room).cells ({ frames := 0, cells := 0, slots := 0, locals := 0 } : Room).slots) := by
  refine MetFree.of_bodySF (plainFor_of_name pn_com_example_nimble_container_nimblecontainer_creation_MethodNaming) hisR ?_
  intro p e s m args below meth c s₁ Bd hml0 hP hK
  obtain ⟨rfl, hZ, hh⟩ := hP
  have hx := Bd.exec
  have hby := Bd.bytes
  have hml : c.maxLocals = 1 := hml0
  have hown : s.vm.findClass "com/example/nimble_container/nimblecontainer/creation/MethodNaming" = some m.cls := findClass_of_methodNamed Bd.named
  have hnm := (name_of_methodNamed Bd.named Bd.method).1
  have X0 : Stand p l e ({ frames := 0, cells := 0, slots := 0, locals := 0 } : Room) s m #[(.ref x)] below meth c s₁ [] 0 0 := Stand.of_body Bd
  have e0 : s₁.heap = h0 := by rw [← hh, Bd.state]; rfl
  have N0 := Fr.nil n0
  have Z0 : n0 ≤ h0.size := O0.1 ▸ O0.2.1
  have K0 : Keep h0 h0 [] := Keep.refl _ _
  have pre0 : ∀ tgt_, Steps p.tables e below (s₁.setTop (mkF m 0 #[.val (.ref x)] [])) tgt_ → Steps p.tables e below (s₁.setTop (entryFrame m #[(.ref x)] 1)) tgt_ := fun tgt_ k => castTop (ef_rmGI1 m x) k
  obtain ⟨T321, X321, e321, st321⟩ := getF X0 hx hZ hown (host := "") (Or.inl (hw _ (List.mem_of_getElem? (i := 48) rfl))) Via.refl e0 F0 (g := (mkF m 1 #[.val (.ref x)] [(.ref x)])) rfl rfl (hb hby d_prog_6_method_5_code_1)
  obtain ⟨fs, hr, hrun, hended, hW, hsame⟩ := X321.leave (v := some (.int (1 : Int32))) (fun h => by rw [Bd.returns] at h; cases h)
  refine ⟨_, _, pre0 _ ?_, hrun, hended, _, _, rfl, ?_, ⟨_, rfl⟩, hW, hsame.mono (by decide) (by decide)⟩
  · show Steps p.tables e below (s₁.setTop (mkF m 0 #[.val (.ref x)] [])) _
    refine XS.aloadN X0.here hx rfl (hb hby d_prog_6_method_5_code_0) rfl rfl ?_
    show Steps p.tables e below (s₁.setTop (mkF m 1 #[.val (.ref x)] [(.ref x)])) _
    refine st321 _ ?_
    show Steps p.tables e below (T321.setTop (mkF m 4 #[.val (.ref x)] [(.int (1 : Int32))])) _
    exact retN X321 hx (t := .boolean) Bd.returns (by simp) (hb hby d_prog_6_method_5_code_4) hr
  · show QGI1 Z h0 n0 _ T321.heap _
    rw [e321]
    exact ⟨rfl, N0, rfl⟩
def Qlaw (Z : State)  (h0 : Heap) (n0 : Nat) (v : Option Value) (h : Heap) (L : List Loc) : Prop := v = some (.int 1) ∧ Fr n0 L
theorem pd__III_Ljava_lang_String_ : parseMethodDescriptor "(III)Ljava/lang/String;" = some ⟨[.int, .int, .int], some (.object "java/lang/String")⟩ := by decide +kernel
theorem pd__Ljava_lang_String_Ljava_lang_String_Z_Lcom_example_nimble_container_nimblecontainer_creation_MethodNaming_ : parseMethodDescriptor "(Ljava/lang/String;Ljava/lang/String;Z)Lcom/example/nimble_container/nimblecontainer/creation/MethodNaming;" = some ⟨[(.object "java/lang/String"), (.object "java/lang/String"), .boolean], some (.object "com/example/nimble_container/nimblecontainer/creation/MethodNaming")⟩ := by decide +kernel
theorem pd___Ljava_lang_String_ : parseMethodDescriptor "()Ljava/lang/String;" = some ⟨[], some (.object "java/lang/String")⟩ := by decide +kernel
theorem pd___Z : parseMethodDescriptor "()Z" = some ⟨[], some .boolean⟩ := by decide +kernel
theorem ef_rmLawNN0 (m : MethodId) (x0 : Int32) (x1 : Int32) (x2 : Int32) (x3 : Int32) (x4 : Int32) (x5 : Int32) : entryFrame m #[(.int x0), (.int x1), (.int x2), (.int x3), (.int x4), (.int x5)] maxLocals = mkF m 0 #[.val (.int x0), .val (.int x1), .val (.int x2), .val (.int x3), .val (.int x4), .val (.int x5), .unset, .unset, .unset, .unset, .unset] [] := by first | (simp [entryFrame, mkF, argsToLocals, Value.category, maxLocals]; done) | rfl
set_option maxRecDepth 65536 in
set_option maxHeartbeats 40000000 in
theorem rmLawNN0 (l : Launch) (Z : State) (a0 : Array Value) (hw : ∀ d ∈ tables_1, d.before a0 Z = true) (ws : List Jvm.Cond) (p1 p2 p3 p4 p5 p6 GC : Int32) (nn : Addr) (h0 : Heap) (n0 : Nat) (O0 : Old Z n0 h0) (hEL : EW Z a0 [("java/lang/String", 7)]) (wS : ∀ a ∈ Bundle.stringAtoms, a.before a0 Z = true) (OC2 : Sta Z Z.heap "java/lang/String" "COMPACT_STRINGS" "Z" (.int GC)) (OCz : ¬ (GC = (0 : Int32))) (SN : Sta Z Z.heap "com/example/nimble_container/nimblecontainer/creation/MethodNaming" "NONE" "Lcom/example/nimble_container/nimblecontainer/creation/MethodNaming;" (.ref nn)) (EN : Exa Z Z.heap nn "com/example/nimble_container/nimblecontainer/creation/MethodNaming") (N0f : Fld Z Z.heap nn "com/example/nimble_container/nimblecontainer/creation/MethodNaming" "named" "Ljava/lang/String;" .null) (N1f : Fld Z Z.heap nn "com/example/nimble_container/nimblecontainer/creation/MethodNaming" "byDefault" "Ljava/lang/String;" .null) (N2f : Fld Z Z.heap nn "com/example/nimble_container/nimblecontainer/creation/MethodNaming" "inferred" "Z" (.int (0 : Int32))) (qn : (p1 &&& (3 : Int32)) = (0 : Int32)) (qd : (p2 &&& (3 : Int32)) = (0 : Int32)) (qf : (p3 &&& (1 : Int32)) = (0 : Int32)) :
    MetFree l x (head1 (Jvm.Cond.code x code maxLocals ret :: ws) room_1) (fun aa_ U => aa_ = #[(.int p1), (.int p2), (.int p3), (.int p4), (.int p5), (.int p6)] ∧ Z.Warmed39 U.vm ∧ U.heap = h0 ∧ CHv Z [("java/lang/String", 7)] U.vm h0) (fun _ _ _ _ _ => True) (fun _ U o U' => ∃ v L, o = .returned v ∧ Qlaw Z h0 n0 v U'.heap L ∧ CHr Z [("java/lang/String", 7)] U.vm U.heap U'.vm U'.heap ∧ ReturnedEndW U o U' L room_1.cells room_1.slots) := by
  refine MetFree.of_bodySF (plainFor_of_name pn_com_example_nimble_container_nimblecontainer_creation_MethodNamingOfPinLaw) hisR ?_
  intro p e s m args below meth c s₁ Bd hml0 hP hK
  obtain ⟨rfl, hZ, hh, hC0⟩ := hP
  have hx := Bd.exec
  have hby := Bd.bytes
  have hml : c.maxLocals = 11 := hml0
  have hown : s.vm.findClass "com/example/nimble_container/nimblecontainer/creation/MethodNamingOfPinLaw" = some m.cls := findClass_of_methodNamed Bd.named
  have hnm := (name_of_methodNamed Bd.named Bd.method).1
  have X0 : Stand p l e room_1 (s.setVm s.vm) m #[(.int p1), (.int p2), (.int p3), (.int p4), (.int p5), (.int p6)] below meth c s₁ [] 0 0 := Stand.of_body Bd
  have e0 : s₁.heap = h0 := by rw [← hh, Bd.state]; rfl
  have N0 := Fr.nil n0
  have Z0 : n0 ≤ h0.size := O0.1 ▸ O0.2.1
  have K0 : Keep h0 h0 [] := Keep.refl _ _
  have hS0 : s.Since s.vm h0.size := (State.WarmedH.refl s).since _
  have hk0 : h0.size ≤ h0.size := Nat.le_refl _
  have HC0 : CHr Z [("java/lang/String", 7)] s.vm h0 s.vm h0 := CHr.refl hC0
  have pre0 : ∀ tgt_, Steps p.tables e below (s₁.setTop (mkF m 0 #[.val (.int p1), .val (.int p2), .val (.int p3), .val (.int p4), .val (.int p5), .val (.int p6), .unset, .unset, .unset, .unset, .unset] [])) tgt_ → Steps p.tables e below (s₁.setTop (entryFrame m #[(.int p1), (.int p2), (.int p3), (.int p4), (.int p5), (.int p6)] maxLocals)) tgt_ := fun tgt_ k => castTop (ef_rmLawNN0 m p1 p2 p3 p4 p5 p6) k
  obtain ⟨_, _, ⟨T322, L322, k322, n322⟩, -, X322, hS322, hg322, ⟨Lc322, hQ322, l322, y322, z322, HR322⟩, st322⟩ := Jvm.RoadKit.callSS X0 hx (y := (⟨"com/example/nimble_container/nimblecontainer/creation/MethodNamingOfPinLaw", "draw", "(III)Ljava/lang/String;"⟩ : MethodName)) hown (mvT hZ (hw _ (List.mem_of_getElem? (i := 0) rfl))) (mvT hZ (hw _ (List.mem_of_getElem? (i := 1) rfl))) (mvT hZ (hw _ (List.mem_of_getElem? (i := 2) rfl))) (mvT hZ (hw _ (List.mem_of_getElem? (i := 3) rfl))) (by decide) (backOfSH (s := s) (W := 0) (rmD0 l Z a0 hw [] p1 p4 p5 GC h0 n0 O0 hEL wS OC2 OCz qn) hZ (hw _ (List.mem_of_getElem? (i := 3) rfl)) (hw _ (List.mem_of_getElem? (i := 2) rfl)) (by decide) (by decide) hEL HC0.1) (g := (mkF m 4 #[.val (.int p1), .val (.int p2), .val (.int p3), .val (.int p4), .val (.int p5), .val (.int p6), .unset, .unset, .unset, .unset, .unset] [(.int p5), (.int p4), (.int p1)])) rfl (by rw [hml]; rfl) (argsL := [(.int p1), (.int p4), (.int p5)]) (rest := []) (lenOf pd__III_Ljava_lang_String_ rfl) rfl (by show 2 * 0 + _ ≤ _; exact Nat.le_of_eq rfl) (hb hby at_4) (fun _ _ => ⟨rfl, e0, (by decide : 0 + 4 ≤ _), (by decide : 0 + 8 ≤ _)⟩)
  dsimp only [Pt.U, Pt.locs, Pt.cells, Pt.slots] at X322 l322 y322 z322 st322 hQ322 hS322 hg322 HR322
  subst l322 y322 z322
  obtain ⟨rfl, N322q, K322k⟩ := hQ322
  have N322 := Fr.app N0 N322q
  obtain ⟨X322r, hS322r, hZ322, hown322⟩ := rebS hS0 (by rw [e0]; exact hk0) X322 hS322 hg322 hZ hown
  have O323 : Old Z n0 T322.heap := O0.keep K322k all0
  have Z323 : n0 ≤ T322.heap.size := Nat.le_trans Z0 K322k.1
  have K323 : Keep h0 T322.heap [] := K0.trans K322k all0
  have HC323 : CHr Z [("java/lang/String", 7)] s.vm h0 T322.vm T322.heap := HC0.trans HR322
  obtain ⟨_, _, ⟨T324, L324, k324, n324⟩, -, X324, hS324, hg324, ⟨Lc324, hQ324, l324, y324, z324, HR324⟩, st324⟩ := Jvm.RoadKit.callSS X322r hx (y := (⟨"com/example/nimble_container/nimblecontainer/creation/MethodNamingOfPinLaw", "draw", "(III)Ljava/lang/String;"⟩ : MethodName)) hown322 (mvT hZ322 (hw _ (List.mem_of_getElem? (i := 0) rfl))) (mvT hZ322 (hw _ (List.mem_of_getElem? (i := 1) rfl))) (mvT hZ322 (hw _ (List.mem_of_getElem? (i := 2) rfl))) (mvT hZ322 (hw _ (List.mem_of_getElem? (i := 3) rfl))) (by decide) (backOfSH (s := s) (W := 0) (rmD0 l Z a0 hw [] p2 p6 p5 GC T322.heap n0 O323 hEL wS OC2 OCz qd) hZ322 (hw _ (List.mem_of_getElem? (i := 3) rfl)) (hw _ (List.mem_of_getElem? (i := 2) rfl)) (by decide) (by decide) hEL HC323.1) (g := (mkF m 14 #[.val (.int p1), .val (.int p2), .val (.int p3), .val (.int p4), .val (.int p5), .val (.int p6), .val .null, .unset, .unset, .unset, .unset] [(.int p5), (.int p6), (.int p2)])) rfl (by rw [hml]; rfl) (argsL := [(.int p2), (.int p6), (.int p5)]) (rest := []) (lenOf pd__III_Ljava_lang_String_ rfl) rfl (by show 2 * 0 + _ ≤ _; exact Nat.le_of_eq rfl) (hb hby at_14) (fun _ _ => ⟨rfl, rfl, (by decide : 4 + 4 ≤ _), (by decide : 8 + 8 ≤ _)⟩)
  dsimp only [Pt.U, Pt.locs, Pt.cells, Pt.slots] at X324 l324 y324 z324 st324 hQ324 hS324 hg324 HR324
  subst l324 y324 z324
  obtain ⟨rfl, N324q, K324k⟩ := hQ324
  have N324 := Fr.app N322 N324q
  obtain ⟨X324r, hS324r, hZ324, hown324⟩ := rebS hS322r (Nat.le_refl _) X324 hS324 hg324 hZ322 hown322
  have O325 : Old Z n0 T324.heap := O323.keep K324k all0
  have Z325 : n0 ≤ T324.heap.size := Nat.le_trans Z323 K324k.1
  have K325 : Keep h0 T324.heap [] := K323.trans K324k all0
  have HC325 : CHr Z [("java/lang/String", 7)] s.vm h0 T324.vm T324.heap := HC323.trans HR324
  obtain ⟨_, _, ⟨T326, L326, k326, n326⟩, -, X326, ⟨Lc326, hQ326, l326, y326, z326⟩, st326⟩ := Jvm.LawKit.callS X324r hx (y := (⟨"com/example/nimble_container/nimblecontainer/creation/MethodNaming", "of", "(Ljava/lang/String;Ljava/lang/String;Z)Lcom/example/nimble_container/nimblecontainer/creation/MethodNaming;"⟩ : MethodName)) hown324 (mvT hZ324 (hw _ (List.mem_of_getElem? (i := 34) rfl))) (mvT hZ324 (hw _ (List.mem_of_getElem? (i := 35) rfl))) (mvT hZ324 (hw _ (List.mem_of_getElem? (i := 36) rfl))) (mvT hZ324 (hw _ (List.mem_of_getElem? (i := 37) rfl))) (by decide) (backOf (W := 0) (rmOfNone l Z a0 hw [] nn T324.heap n0 O325 SN) hZ324 (hw _ (List.mem_of_getElem? (i := 37) rfl)) (hw _ (List.mem_of_getElem? (i := 36) rfl)) (by decide) (by decide)) (g := (mkF m 38 #[.val (.int p1), .val (.int p2), .val (.int p3), .val (.int p4), .val (.int p5), .val (.int p6), .val .null, .val .null, .val (.int (0 : Int32)), .unset, .unset] [(.int (0 : Int32)), .null, .null])) rfl (by rw [hml]; rfl) (argsL := [.null, .null, (.int (0 : Int32))]) (rest := []) (lenOf pd__Ljava_lang_String_Ljava_lang_String_Z_Lcom_example_nimble_container_nimblecontainer_creation_MethodNaming_ rfl) rfl (by show 2 * 0 + _ ≤ _; exact Nat.le_of_eq rfl) (hb hby at_38) (fun _ _ => ⟨rfl, rfl, (by decide : 8 + 0 ≤ _), (by decide : 16 + 0 ≤ _)⟩)
  dsimp only [Pt.U, Pt.locs, Pt.cells, Pt.slots] at X326 l326 y326 z326 st326 hQ326
  subst l326 y326 z326
  obtain ⟨rfl, N326q, e326⟩ := hQ326
  have N326 := Fr.app N324 N326q
  obtain ⟨T327, X327, e327, st327⟩ := getS2 X326 hx hZ324 hown324 (host := "") (Or.inl (hw _ (List.mem_of_getElem? (i := 50) rfl))) Via.refl e326 (SN.ext O325.2) (g := (mkF m 79 #[.val (.int p1), .val (.int p2), .val (.int p3), .val (.int p4), .val (.int p5), .val (.int p6), .val .null, .val .null, .val (.int (0 : Int32)), .val (.ref nn), .val (.int (1 : Int32))] [(.ref nn)])) rfl (hb hby at_79)
  obtain ⟨cq328, kq328, qa328, qb328, qc328⟩ := isOf hZ324 e327 (EN.ext O325.2)
  obtain ⟨_, _, ⟨T328, L328, k328, n328⟩, -, X328, ⟨Lc328, hQ328, l328, y328, z328⟩, st328⟩ := X327.virtualBack hx (y := (⟨"com/example/nimble_container/nimblecontainer/creation/MethodNaming", "named", "()Ljava/lang/String;"⟩ : MethodName)) (z := (⟨"com/example/nimble_container/nimblecontainer/creation/MethodNaming", "named", "()Ljava/lang/String;"⟩ : MethodName)) hown324 (mvT hZ324 (hw _ (List.mem_of_getElem? (i := 52) rfl))) (mvT hZ324 (hw _ (List.mem_of_getElem? (i := 53) rfl))) (notFace_of_selects (args := #[]) (mvT hZ324 (hw _ (List.mem_of_getElem? (i := 55) rfl)))) (mvT hZ324 (hw _ (List.mem_of_getElem? (i := 55) rfl))) (mvT hZ324 (hw _ (List.mem_of_getElem? (i := 54) rfl))) (by decide) (backOf (W := 0) (rmGNN l Z a0 hw [] nn nn T324.heap n0 O325 (N0f.ext O325.2)) hZ324 (hw _ (List.mem_of_getElem? (i := 56) rfl)) (hw _ (List.mem_of_getElem? (i := 36) rfl)) (by decide) (by decide)) qa328 qc328 (g := (mkF m 87 #[.val (.int p1), .val (.int p2), .val (.int p3), .val (.int p4), .val (.int p5), .val (.int p6), .val .null, .val .null, .val (.int (0 : Int32)), .val (.ref nn), .val (.int (1 : Int32))] [(.ref nn)])) rfl (by rw [hml]; rfl) (Steps.refl _) (argsL := []) (rest := []) (lenOf pd___Ljava_lang_String_ rfl) rfl (by show 2 * 0 + _ ≤ _; exact Nat.le_of_eq rfl) (hb hby at_87) (fun _ _ => ⟨rfl, e327, (by decide : 8 + 0 ≤ _), (by decide : 16 + 0 ≤ _)⟩)
  dsimp only [Pt.U, Pt.locs, Pt.cells, Pt.slots] at X328 l328 y328 z328 st328 hQ328
  subst l328 y328 z328
  obtain ⟨rfl, N328q, e328⟩ := hQ328
  have N328 := Fr.app N326 N328q
  obtain ⟨cq329, kq329, qa329, qb329, qc329⟩ := isOf hZ324 e328 (EN.ext O325.2)
  obtain ⟨_, _, ⟨T329, L329, k329, n329⟩, -, X329, ⟨Lc329, hQ329, l329, y329, z329⟩, st329⟩ := X328.virtualBack hx (y := (⟨"com/example/nimble_container/nimblecontainer/creation/MethodNaming", "byDefault", "()Ljava/lang/String;"⟩ : MethodName)) (z := (⟨"com/example/nimble_container/nimblecontainer/creation/MethodNaming", "byDefault", "()Ljava/lang/String;"⟩ : MethodName)) hown324 (mvT hZ324 (hw _ (List.mem_of_getElem? (i := 57) rfl))) (mvT hZ324 (hw _ (List.mem_of_getElem? (i := 58) rfl))) (notFace_of_selects (args := #[]) (mvT hZ324 (hw _ (List.mem_of_getElem? (i := 60) rfl)))) (mvT hZ324 (hw _ (List.mem_of_getElem? (i := 60) rfl))) (mvT hZ324 (hw _ (List.mem_of_getElem? (i := 59) rfl))) (by decide) (backOf (W := 0) (rmGBN l Z a0 hw [] nn nn T324.heap n0 O325 (N1f.ext O325.2)) hZ324 (hw _ (List.mem_of_getElem? (i := 61) rfl)) (hw _ (List.mem_of_getElem? (i := 36) rfl)) (by decide) (by decide)) qa329 qc329 (g := (mkF m 95 #[.val (.int p1), .val (.int p2), .val (.int p3), .val (.int p4), .val (.int p5), .val (.int p6), .val .null, .val .null, .val (.int (0 : Int32)), .val (.ref nn), .val (.int (1 : Int32))] [(.ref nn)])) rfl (by rw [hml]; rfl) (Steps.refl _) (argsL := []) (rest := []) (lenOf pd___Ljava_lang_String_ rfl) rfl (by show 2 * 0 + _ ≤ _; exact Nat.le_of_eq rfl) (hb hby at_95) (fun _ _ => ⟨rfl, e328, (by decide : 8 + 0 ≤ _), (by decide : 16 + 0 ≤ _)⟩)
  dsimp only [Pt.U, Pt.locs, Pt.cells, Pt.slots] at X329 l329 y329 z329 st329 hQ329
  subst l329 y329 z329
  obtain ⟨rfl, N329q, e329⟩ := hQ329
  have N329 := Fr.app N328 N329q
  obtain ⟨cq330, kq330, qa330, qb330, qc330⟩ := isOf hZ324 e329 (EN.ext O325.2)
  obtain ⟨_, _, ⟨T330, L330, k330, n330⟩, -, X330, ⟨Lc330, hQ330, l330, y330, z330⟩, st330⟩ := X329.virtualBack hx (y := (⟨"com/example/nimble_container/nimblecontainer/creation/MethodNaming", "inferred", "()Z"⟩ : MethodName)) (z := (⟨"com/example/nimble_container/nimblecontainer/creation/MethodNaming", "inferred", "()Z"⟩ : MethodName)) hown324 (mvT hZ324 (hw _ (List.mem_of_getElem? (i := 62) rfl))) (mvT hZ324 (hw _ (List.mem_of_getElem? (i := 63) rfl))) (notFace_of_selects (args := #[]) (mvT hZ324 (hw _ (List.mem_of_getElem? (i := 65) rfl)))) (mvT hZ324 (hw _ (List.mem_of_getElem? (i := 65) rfl))) (mvT hZ324 (hw _ (List.mem_of_getElem? (i := 64) rfl))) (by decide) (backOf (W := 0) (rmGI0 l Z a0 hw [] nn T324.heap n0 O325 (N2f.ext O325.2)) hZ324 (hw _ (List.mem_of_getElem? (i := 66) rfl)) (hw _ (List.mem_of_getElem? (i := 36) rfl)) (by decide) (by decide)) qa330 qc330 (g := (mkF m 103 #[.val (.int p1), .val (.int p2), .val (.int p3), .val (.int p4), .val (.int p5), .val (.int p6), .val .null, .val .null, .val (.int (0 : Int32)), .val (.ref nn), .val (.int (1 : Int32))] [(.ref nn)])) rfl (by rw [hml]; rfl) (Steps.refl _) (argsL := []) (rest := []) (lenOf pd___Z rfl) rfl (by show 2 * 0 + _ ≤ _; exact Nat.le_of_eq rfl) (hb hby at_103) (fun _ _ => ⟨rfl, e329, (by decide : 8 + 0 ≤ _), (by decide : 16 + 0 ≤ _)⟩)
  dsimp only [Pt.U, Pt.locs, Pt.cells, Pt.slots] at X330 l330 y330 z330 st330 hQ330
  subst l330 y330 z330
  obtain ⟨rfl, N330q, e330⟩ := hQ330
  have N330 := Fr.app N329 N330q
  obtain ⟨fs, hr, hrun, hended, hEnd⟩ := X330.leaveW (s := s) hS324r (by rw [e330]; exact (Nat.le_refl _)) (v := some (.int (1 : Int32))) (fun h => by rw [Bd.returns] at h; cases h)
  refine ⟨_, _, pre0 _ ?_, hrun, hended, _, _, rfl, ?_, ?_, hEnd.1, hEnd.2.1, hEnd.2.2.1, hEnd.2.2.2.mono (by decide) (by decide)⟩
  · show Steps p.tables e below (s₁.setTop (mkF m 0 #[.val (.int p1), .val (.int p2), .val (.int p3), .val (.int p4), .val (.int p5), .val (.int p6), .unset, .unset, .unset, .unset, .unset] [])) _
    refine XS.iloadN X0.here hx rfl (hb hby at_0) rfl ?_
    show Steps p.tables e below (s₁.setTop (mkF m 1 #[.val (.int p1), .val (.int p2), .val (.int p3), .val (.int p4), .val (.int p5), .val (.int p6), .unset, .unset, .unset, .unset, .unset] [(.int p1)])) _
    refine XS.iloadN X0.here hx rfl (hb hby at_1) rfl ?_
    show Steps p.tables e below (s₁.setTop (mkF m 2 #[.val (.int p1), .val (.int p2), .val (.int p3), .val (.int p4), .val (.int p5), .val (.int p6), .unset, .unset, .unset, .unset, .unset] [(.int p4), (.int p1)])) _
    refine XS.iload X0.here hx rfl (hb hby at_2) rfl ?_
    show Steps p.tables e below (s₁.setTop (mkF m 4 #[.val (.int p1), .val (.int p2), .val (.int p3), .val (.int p4), .val (.int p5), .val (.int p6), .unset, .unset, .unset, .unset, .unset] [(.int p5), (.int p4), (.int p1)])) _
    refine st322.trans ?_
    show Steps p.tables e below (T322.setTop (mkF m 7 #[.val (.int p1), .val (.int p2), .val (.int p3), .val (.int p4), .val (.int p5), .val (.int p6), .unset, .unset, .unset, .unset, .unset] [.null])) _
    refine XS.astore X322r.here hx rfl (hb hby at_7) rfl rfl (l' := #[.val (.int p1), .val (.int p2), .val (.int p3), .val (.int p4), .val (.int p5), .val (.int p6), .val .null, .unset, .unset, .unset, .unset]) rfl ?_
    show Steps p.tables e below (T322.setTop (mkF m 9 #[.val (.int p1), .val (.int p2), .val (.int p3), .val (.int p4), .val (.int p5), .val (.int p6), .val .null, .unset, .unset, .unset, .unset] [])) _
    refine XS.iloadN X322r.here hx rfl (hb hby at_9) rfl ?_
    show Steps p.tables e below (T322.setTop (mkF m 10 #[.val (.int p1), .val (.int p2), .val (.int p3), .val (.int p4), .val (.int p5), .val (.int p6), .val .null, .unset, .unset, .unset, .unset] [(.int p2)])) _
    refine XS.iload X322r.here hx rfl (hb hby at_10) rfl ?_
    show Steps p.tables e below (T322.setTop (mkF m 12 #[.val (.int p1), .val (.int p2), .val (.int p3), .val (.int p4), .val (.int p5), .val (.int p6), .val .null, .unset, .unset, .unset, .unset] [(.int p6), (.int p2)])) _
    refine XS.iload X322r.here hx rfl (hb hby at_12) rfl ?_
    show Steps p.tables e below (T322.setTop (mkF m 14 #[.val (.int p1), .val (.int p2), .val (.int p3), .val (.int p4), .val (.int p5), .val (.int p6), .val .null, .unset, .unset, .unset, .unset] [(.int p5), (.int p6), (.int p2)])) _
    refine st324.trans ?_
    show Steps p.tables e below (T324.setTop (mkF m 17 #[.val (.int p1), .val (.int p2), .val (.int p3), .val (.int p4), .val (.int p5), .val (.int p6), .val .null, .unset, .unset, .unset, .unset] [.null])) _
    refine XS.astore X324r.here hx rfl (hb hby at_17) rfl rfl (l' := #[.val (.int p1), .val (.int p2), .val (.int p3), .val (.int p4), .val (.int p5), .val (.int p6), .val .null, .val .null, .unset, .unset, .unset]) rfl ?_
    show Steps p.tables e below (T324.setTop (mkF m 19 #[.val (.int p1), .val (.int p2), .val (.int p3), .val (.int p4), .val (.int p5), .val (.int p6), .val .null, .val .null, .unset, .unset, .unset] [])) _
    refine XS.iloadN X324r.here hx rfl (hb hby at_19) rfl ?_
    show Steps p.tables e below (T324.setTop (mkF m 20 #[.val (.int p1), .val (.int p2), .val (.int p3), .val (.int p4), .val (.int p5), .val (.int p6), .val .null, .val .null, .unset, .unset, .unset] [(.int p3)])) _
    refine XS.iconst X324r.here hx rfl (hb hby at_20) ?_
    show Steps p.tables e below (T324.setTop (mkF m 21 #[.val (.int p1), .val (.int p2), .val (.int p3), .val (.int p4), .val (.int p5), .val (.int p6), .val .null, .val .null, .unset, .unset, .unset] [(.int (1 : Int32)), (.int p3)])) _
    refine XS.iand X324r.here hx rfl (hb hby at_21) rfl ?_
    show Steps p.tables e below (T324.setTop (mkF m 22 #[.val (.int p1), .val (.int p2), .val (.int p3), .val (.int p4), .val (.int p5), .val (.int p6), .val .null, .val .null, .unset, .unset, .unset] [(.int (p3 &&& (1 : Int32)))])) _
    refine XS.ifYes X324r.here hx rfl (pc0 := 22) (pc' := 29) rfl (hb hby at_22) rfl ((if0 _ _).trans (teq (qf : (p3 &&& (1 : Int32)) = (0 : Int32))).1) (by decide) (by decide) ?_
    show Steps p.tables e below (T324.setTop (mkF m 29 #[.val (.int p1), .val (.int p2), .val (.int p3), .val (.int p4), .val (.int p5), .val (.int p6), .val .null, .val .null, .unset, .unset, .unset] [])) _
    refine XS.iconst X324r.here hx rfl (hb hby at_29) ?_
    show Steps p.tables e below (T324.setTop (mkF m 30 #[.val (.int p1), .val (.int p2), .val (.int p3), .val (.int p4), .val (.int p5), .val (.int p6), .val .null, .val .null, .unset, .unset, .unset] [(.int (0 : Int32))])) _
    refine XS.istore X324r.here hx rfl (hb hby at_30) rfl (l' := #[.val (.int p1), .val (.int p2), .val (.int p3), .val (.int p4), .val (.int p5), .val (.int p6), .val .null, .val .null, .val (.int (0 : Int32)), .unset, .unset]) rfl ?_
    show Steps p.tables e below (T324.setTop (mkF m 32 #[.val (.int p1), .val (.int p2), .val (.int p3), .val (.int p4), .val (.int p5), .val (.int p6), .val .null, .val .null, .val (.int (0 : Int32)), .unset, .unset] [])) _
    refine XS.aload X324r.here hx rfl (hb hby at_32) rfl rfl ?_
    show Steps p.tables e below (T324.setTop (mkF m 34 #[.val (.int p1), .val (.int p2), .val (.int p3), .val (.int p4), .val (.int p5), .val (.int p6), .val .null, .val .null, .val (.int (0 : Int32)), .unset, .unset] [.null])) _
    refine XS.aload X324r.here hx rfl (hb hby at_34) rfl rfl ?_
    show Steps p.tables e below (T324.setTop (mkF m 36 #[.val (.int p1), .val (.int p2), .val (.int p3), .val (.int p4), .val (.int p5), .val (.int p6), .val .null, .val .null, .val (.int (0 : Int32)), .unset, .unset] [.null, .null])) _
    refine XS.iload X324r.here hx rfl (hb hby at_36) rfl ?_
    show Steps p.tables e below (T324.setTop (mkF m 38 #[.val (.int p1), .val (.int p2), .val (.int p3), .val (.int p4), .val (.int p5), .val (.int p6), .val .null, .val .null, .val (.int (0 : Int32)), .unset, .unset] [(.int (0 : Int32)), .null, .null])) _
    refine st326 _ ?_
    show Steps p.tables e below (T326.setTop (mkF m 41 #[.val (.int p1), .val (.int p2), .val (.int p3), .val (.int p4), .val (.int p5), .val (.int p6), .val .null, .val .null, .val (.int (0 : Int32)), .unset, .unset] [(.ref nn)])) _
    refine XS.astore X326.here hx rfl (hb hby at_41) rfl rfl (l' := #[.val (.int p1), .val (.int p2), .val (.int p3), .val (.int p4), .val (.int p5), .val (.int p6), .val .null, .val .null, .val (.int (0 : Int32)), .val (.ref nn), .unset]) rfl ?_
    show Steps p.tables e below (T326.setTop (mkF m 43 #[.val (.int p1), .val (.int p2), .val (.int p3), .val (.int p4), .val (.int p5), .val (.int p6), .val .null, .val .null, .val (.int (0 : Int32)), .val (.ref nn), .unset] [])) _
    refine XS.aload X326.here hx rfl (hb hby at_43) rfl rfl ?_
    show Steps p.tables e below (T326.setTop (mkF m 45 #[.val (.int p1), .val (.int p2), .val (.int p3), .val (.int p4), .val (.int p5), .val (.int p6), .val .null, .val .null, .val (.int (0 : Int32)), .val (.ref nn), .unset] [(.ref nn)])) _
    refine XS.ifnonnullYes X326.here hx rfl (pc0 := 45) (pc' := 50) rfl (hb hby at_45) rfl (by decide) (by decide) ?_
    show Steps p.tables e below (T326.setTop (mkF m 50 #[.val (.int p1), .val (.int p2), .val (.int p3), .val (.int p4), .val (.int p5), .val (.int p6), .val .null, .val .null, .val (.int (0 : Int32)), .val (.ref nn), .unset] [])) _
    refine XS.aload X326.here hx rfl (hb hby at_50) rfl rfl ?_
    show Steps p.tables e below (T326.setTop (mkF m 52 #[.val (.int p1), .val (.int p2), .val (.int p3), .val (.int p4), .val (.int p5), .val (.int p6), .val .null, .val .null, .val (.int (0 : Int32)), .val (.ref nn), .unset] [.null])) _
    refine XS.ifnonnullNo X326.here hx rfl (hb hby at_52) rfl ?_
    show Steps p.tables e below (T326.setTop (mkF m 55 #[.val (.int p1), .val (.int p2), .val (.int p3), .val (.int p4), .val (.int p5), .val (.int p6), .val .null, .val .null, .val (.int (0 : Int32)), .val (.ref nn), .unset] [])) _
    refine XS.aload X326.here hx rfl (hb hby at_55) rfl rfl ?_
    show Steps p.tables e below (T326.setTop (mkF m 57 #[.val (.int p1), .val (.int p2), .val (.int p3), .val (.int p4), .val (.int p5), .val (.int p6), .val .null, .val .null, .val (.int (0 : Int32)), .val (.ref nn), .unset] [.null])) _
    refine XS.ifnonnullNo X326.here hx rfl (hb hby at_57) rfl ?_
    show Steps p.tables e below (T326.setTop (mkF m 60 #[.val (.int p1), .val (.int p2), .val (.int p3), .val (.int p4), .val (.int p5), .val (.int p6), .val .null, .val .null, .val (.int (0 : Int32)), .val (.ref nn), .unset] [])) _
    refine XS.iload X326.here hx rfl (hb hby at_60) rfl ?_
    show Steps p.tables e below (T326.setTop (mkF m 62 #[.val (.int p1), .val (.int p2), .val (.int p3), .val (.int p4), .val (.int p5), .val (.int p6), .val .null, .val .null, .val (.int (0 : Int32)), .val (.ref nn), .unset] [(.int (0 : Int32))])) _
    refine XS.ifNo X326.here hx rfl (hb hby at_62) rfl ((if0 _ _).trans (teq (rfl : (0 : Int32) = (0 : Int32))).2) ?_
    show Steps p.tables e below (T326.setTop (mkF m 65 #[.val (.int p1), .val (.int p2), .val (.int p3), .val (.int p4), .val (.int p5), .val (.int p6), .val .null, .val .null, .val (.int (0 : Int32)), .val (.ref nn), .unset] [])) _
    refine XS.iconst X326.here hx rfl (hb hby at_65) ?_
    show Steps p.tables e below (T326.setTop (mkF m 66 #[.val (.int p1), .val (.int p2), .val (.int p3), .val (.int p4), .val (.int p5), .val (.int p6), .val .null, .val .null, .val (.int (0 : Int32)), .val (.ref nn), .unset] [(.int (1 : Int32))])) _
    refine XS.goto X326.here hx rfl (pc0 := 66) (pc' := 70) rfl (hb hby at_66) (by decide) (by decide) ?_
    show Steps p.tables e below (T326.setTop (mkF m 70 #[.val (.int p1), .val (.int p2), .val (.int p3), .val (.int p4), .val (.int p5), .val (.int p6), .val .null, .val .null, .val (.int (0 : Int32)), .val (.ref nn), .unset] [(.int (1 : Int32))])) _
    refine XS.istore X326.here hx rfl (hb hby at_70) rfl (l' := #[.val (.int p1), .val (.int p2), .val (.int p3), .val (.int p4), .val (.int p5), .val (.int p6), .val .null, .val .null, .val (.int (0 : Int32)), .val (.ref nn), .val (.int (1 : Int32))]) rfl ?_
    show Steps p.tables e below (T326.setTop (mkF m 72 #[.val (.int p1), .val (.int p2), .val (.int p3), .val (.int p4), .val (.int p5), .val (.int p6), .val .null, .val .null, .val (.int (0 : Int32)), .val (.ref nn), .val (.int (1 : Int32))] [])) _
    refine XS.iload X326.here hx rfl (hb hby at_72) rfl ?_
    show Steps p.tables e below (T326.setTop (mkF m 74 #[.val (.int p1), .val (.int p2), .val (.int p3), .val (.int p4), .val (.int p5), .val (.int p6), .val .null, .val .null, .val (.int (0 : Int32)), .val (.ref nn), .val (.int (1 : Int32))] [(.int (1 : Int32))])) _
    refine XS.ifNo X326.here hx rfl (hb hby at_74) rfl ((if0 _ _).trans (feq (by decide : ¬ ((1 : Int32) = (0 : Int32)))).1) ?_
    show Steps p.tables e below (T326.setTop (mkF m 77 #[.val (.int p1), .val (.int p2), .val (.int p3), .val (.int p4), .val (.int p5), .val (.int p6), .val .null, .val .null, .val (.int (0 : Int32)), .val (.ref nn), .val (.int (1 : Int32))] [])) _
    refine XS.aload X326.here hx rfl (hb hby at_77) rfl rfl ?_
    show Steps p.tables e below (T326.setTop (mkF m 79 #[.val (.int p1), .val (.int p2), .val (.int p3), .val (.int p4), .val (.int p5), .val (.int p6), .val .null, .val .null, .val (.int (0 : Int32)), .val (.ref nn), .val (.int (1 : Int32))] [(.ref nn)])) _
    refine st327 _ ?_
    show Steps p.tables e below (T327.setTop (mkF m 82 #[.val (.int p1), .val (.int p2), .val (.int p3), .val (.int p4), .val (.int p5), .val (.int p6), .val .null, .val .null, .val (.int (0 : Int32)), .val (.ref nn), .val (.int (1 : Int32))] [(.ref nn), (.ref nn)])) _
    refine Jvm.RoadKit.acmp (g := (mkF m 82 #[.val (.int p1), .val (.int p2), .val (.int p3), .val (.int p4), .val (.int p5), .val (.int p6), .val .null, .val .null, .val (.int (0 : Int32)), .val (.ref nn), .val (.int (1 : Int32))] [(.ref nn), (.ref nn)])) X327 hx rfl rfl rfl (pc0 := 82) (pc' := 85) (same := true) rfl (hb hby at_82) rfl (decide_eq_true rfl) (by decide) (by decide) ?_
    show Steps p.tables e below (T327.setTop (mkF m 85 #[.val (.int p1), .val (.int p2), .val (.int p3), .val (.int p4), .val (.int p5), .val (.int p6), .val .null, .val .null, .val (.int (0 : Int32)), .val (.ref nn), .val (.int (1 : Int32))] [])) _
    refine XS.aload X327.here hx rfl (hb hby at_85) rfl rfl ?_
    show Steps p.tables e below (T327.setTop (mkF m 87 #[.val (.int p1), .val (.int p2), .val (.int p3), .val (.int p4), .val (.int p5), .val (.int p6), .val .null, .val .null, .val (.int (0 : Int32)), .val (.ref nn), .val (.int (1 : Int32))] [(.ref nn)])) _
    refine st328.trans ?_
    show Steps p.tables e below (T328.setTop (mkF m 90 #[.val (.int p1), .val (.int p2), .val (.int p3), .val (.int p4), .val (.int p5), .val (.int p6), .val .null, .val .null, .val (.int (0 : Int32)), .val (.ref nn), .val (.int (1 : Int32))] [.null])) _
    refine XS.ifnonnullNo X328.here hx rfl (hb hby at_90) rfl ?_
    show Steps p.tables e below (T328.setTop (mkF m 93 #[.val (.int p1), .val (.int p2), .val (.int p3), .val (.int p4), .val (.int p5), .val (.int p6), .val .null, .val .null, .val (.int (0 : Int32)), .val (.ref nn), .val (.int (1 : Int32))] [])) _
    refine XS.aload X328.here hx rfl (hb hby at_93) rfl rfl ?_
    show Steps p.tables e below (T328.setTop (mkF m 95 #[.val (.int p1), .val (.int p2), .val (.int p3), .val (.int p4), .val (.int p5), .val (.int p6), .val .null, .val .null, .val (.int (0 : Int32)), .val (.ref nn), .val (.int (1 : Int32))] [(.ref nn)])) _
    refine st329.trans ?_
    show Steps p.tables e below (T329.setTop (mkF m 98 #[.val (.int p1), .val (.int p2), .val (.int p3), .val (.int p4), .val (.int p5), .val (.int p6), .val .null, .val .null, .val (.int (0 : Int32)), .val (.ref nn), .val (.int (1 : Int32))] [.null])) _
    refine XS.ifnonnullNo X329.here hx rfl (hb hby at_98) rfl ?_
    show Steps p.tables e below (T329.setTop (mkF m 101 #[.val (.int p1), .val (.int p2), .val (.int p3), .val (.int p4), .val (.int p5), .val (.int p6), .val .null, .val .null, .val (.int (0 : Int32)), .val (.ref nn), .val (.int (1 : Int32))] [])) _
    refine XS.aload X329.here hx rfl (hb hby at_101) rfl rfl ?_
    show Steps p.tables e below (T329.setTop (mkF m 103 #[.val (.int p1), .val (.int p2), .val (.int p3), .val (.int p4), .val (.int p5), .val (.int p6), .val .null, .val .null, .val (.int (0 : Int32)), .val (.ref nn), .val (.int (1 : Int32))] [(.ref nn)])) _
    refine st330.trans ?_
    show Steps p.tables e below (T330.setTop (mkF m 106 #[.val (.int p1), .val (.int p2), .val (.int p3), .val (.int p4), .val (.int p5), .val (.int p6), .val .null, .val .null, .val (.int (0 : Int32)), .val (.ref nn), .val (.int (1 : Int32))] [(.int (0 : Int32))])) _
    refine XS.ifNo X330.here hx rfl (hb hby at_106) rfl ((if0 _ _).trans (teq (rfl : (0 : Int32) = (0 : Int32))).2) ?_
    show Steps p.tables e below (T330.setTop (mkF m 109 #[.val (.int p1), .val (.int p2), .val (.int p3), .val (.int p4), .val (.int p5), .val (.int p6), .val .null, .val .null, .val (.int (0 : Int32)), .val (.ref nn), .val (.int (1 : Int32))] [])) _
    refine XS.iconst X330.here hx rfl (hb hby at_109) ?_
    show Steps p.tables e below (T330.setTop (mkF m 110 #[.val (.int p1), .val (.int p2), .val (.int p3), .val (.int p4), .val (.int p5), .val (.int p6), .val .null, .val .null, .val (.int (0 : Int32)), .val (.ref nn), .val (.int (1 : Int32))] [(.int (1 : Int32))])) _
    refine XS.goto X330.here hx rfl (pc0 := 110) (pc' := 114) rfl (hb hby at_110) (by decide) (by decide) ?_
    show Steps p.tables e below (T330.setTop (mkF m 114 #[.val (.int p1), .val (.int p2), .val (.int p3), .val (.int p4), .val (.int p5), .val (.int p6), .val .null, .val .null, .val (.int (0 : Int32)), .val (.ref nn), .val (.int (1 : Int32))] [(.int (1 : Int32))])) _
    exact retN X330 hx (t := .boolean) Bd.returns (by simp) (hb hby at_114) hr
  · show Qlaw Z h0 n0 _ T330.heap _
    rw [e330]
    exact ⟨rfl, N330⟩
  · show CHr Z [("java/lang/String", 7)] s.vm s.heap T330.vm T330.heap
    rw [hh, e330]
    exact HC325.trans (CHv.at X330 hZ324 hEL HC325.1)
theorem ef_rmLawNN1 (m : MethodId) (x0 : Int32) (x1 : Int32) (x2 : Int32) (x3 : Int32) (x4 : Int32) (x5 : Int32) : entryFrame m #[(.int x0), (.int x1), (.int x2), (.int x3), (.int x4), (.int x5)] maxLocals = mkF m 0 #[.val (.int x0), .val (.int x1), .val (.int x2), .val (.int x3), .val (.int x4), .val (.int x5), .unset, .unset, .unset, .unset, .unset] [] := by first | (simp [entryFrame, mkF, argsToLocals, Value.category, maxLocals]; done) | rfl
set_option maxRecDepth 65536 in
set_option maxHeartbeats 40000000 in
theorem rmLawNN1 (l : Launch) (Z : State) (a0 : Array Value) (hw : ∀ d ∈ tables_1, d.before a0 Z = true) (ws : List Jvm.Cond) (p1 p2 p3 p4 p5 p6 GC : Int32) (nn : Addr) (h0 : Heap) (n0 : Nat) (O0 : Old Z n0 h0) (hEL : EW Z a0 [("java/lang/String", 7)]) (wS : ∀ a ∈ Bundle.stringAtoms, a.before a0 Z = true) (OC2 : Sta Z Z.heap "java/lang/String" "COMPACT_STRINGS" "Z" (.int GC)) (OCz : ¬ (GC = (0 : Int32))) (SN : Sta Z Z.heap "com/example/nimble_container/nimblecontainer/creation/MethodNaming" "NONE" "Lcom/example/nimble_container/nimblecontainer/creation/MethodNaming;" (.ref nn)) (EN : Exa Z Z.heap nn "com/example/nimble_container/nimblecontainer/creation/MethodNaming") (N0f : Fld Z Z.heap nn "com/example/nimble_container/nimblecontainer/creation/MethodNaming" "named" "Ljava/lang/String;" .null) (N1f : Fld Z Z.heap nn "com/example/nimble_container/nimblecontainer/creation/MethodNaming" "byDefault" "Ljava/lang/String;" .null) (N2f : Fld Z Z.heap nn "com/example/nimble_container/nimblecontainer/creation/MethodNaming" "inferred" "Z" (.int (0 : Int32))) (qn : (p1 &&& (3 : Int32)) = (0 : Int32)) (qd : (p2 &&& (3 : Int32)) = (0 : Int32)) (qf : ¬ ((p3 &&& (1 : Int32)) = (0 : Int32))) :
    MetFree l x (head1 (Jvm.Cond.code x code maxLocals ret :: ws) room_1) (fun aa_ U => aa_ = #[(.int p1), (.int p2), (.int p3), (.int p4), (.int p5), (.int p6)] ∧ Z.Warmed39 U.vm ∧ U.heap = h0 ∧ CHv Z [("java/lang/String", 7)] U.vm h0) (fun _ _ _ _ _ => True) (fun _ U o U' => ∃ v L, o = .returned v ∧ Qlaw Z h0 n0 v U'.heap L ∧ CHr Z [("java/lang/String", 7)] U.vm U.heap U'.vm U'.heap ∧ ReturnedEndW U o U' L room_1.cells room_1.slots) := by
  refine MetFree.of_bodySF (plainFor_of_name pn_com_example_nimble_container_nimblecontainer_creation_MethodNamingOfPinLaw) hisR ?_
  intro p e s m args below meth c s₁ Bd hml0 hP hK
  obtain ⟨rfl, hZ, hh, hC0⟩ := hP
  have hx := Bd.exec
  have hby := Bd.bytes
  have hml : c.maxLocals = 11 := hml0
  have hown : s.vm.findClass "com/example/nimble_container/nimblecontainer/creation/MethodNamingOfPinLaw" = some m.cls := findClass_of_methodNamed Bd.named
  have hnm := (name_of_methodNamed Bd.named Bd.method).1
  have X0 : Stand p l e room_1 (s.setVm s.vm) m #[(.int p1), (.int p2), (.int p3), (.int p4), (.int p5), (.int p6)] below meth c s₁ [] 0 0 := Stand.of_body Bd
  have e0 : s₁.heap = h0 := by rw [← hh, Bd.state]; rfl
  have N0 := Fr.nil n0
  have Z0 : n0 ≤ h0.size := O0.1 ▸ O0.2.1
  have K0 : Keep h0 h0 [] := Keep.refl _ _
  have hS0 : s.Since s.vm h0.size := (State.WarmedH.refl s).since _
  have hk0 : h0.size ≤ h0.size := Nat.le_refl _
  have HC0 : CHr Z [("java/lang/String", 7)] s.vm h0 s.vm h0 := CHr.refl hC0
  have pre0 : ∀ tgt_, Steps p.tables e below (s₁.setTop (mkF m 0 #[.val (.int p1), .val (.int p2), .val (.int p3), .val (.int p4), .val (.int p5), .val (.int p6), .unset, .unset, .unset, .unset, .unset] [])) tgt_ → Steps p.tables e below (s₁.setTop (entryFrame m #[(.int p1), (.int p2), (.int p3), (.int p4), (.int p5), (.int p6)] maxLocals)) tgt_ := fun tgt_ k => castTop (ef_rmLawNN1 m p1 p2 p3 p4 p5 p6) k
  obtain ⟨_, _, ⟨T331, L331, k331, n331⟩, -, X331, hS331, hg331, ⟨Lc331, hQ331, l331, y331, z331, HR331⟩, st331⟩ := Jvm.RoadKit.callSS X0 hx (y := (⟨"com/example/nimble_container/nimblecontainer/creation/MethodNamingOfPinLaw", "draw", "(III)Ljava/lang/String;"⟩ : MethodName)) hown (mvT hZ (hw _ (List.mem_of_getElem? (i := 0) rfl))) (mvT hZ (hw _ (List.mem_of_getElem? (i := 1) rfl))) (mvT hZ (hw _ (List.mem_of_getElem? (i := 2) rfl))) (mvT hZ (hw _ (List.mem_of_getElem? (i := 3) rfl))) (by decide) (backOfSH (s := s) (W := 0) (rmD0 l Z a0 hw [] p1 p4 p5 GC h0 n0 O0 hEL wS OC2 OCz qn) hZ (hw _ (List.mem_of_getElem? (i := 3) rfl)) (hw _ (List.mem_of_getElem? (i := 2) rfl)) (by decide) (by decide) hEL HC0.1) (g := (mkF m 4 #[.val (.int p1), .val (.int p2), .val (.int p3), .val (.int p4), .val (.int p5), .val (.int p6), .unset, .unset, .unset, .unset, .unset] [(.int p5), (.int p4), (.int p1)])) rfl (by rw [hml]; rfl) (argsL := [(.int p1), (.int p4), (.int p5)]) (rest := []) (lenOf pd__III_Ljava_lang_String_ rfl) rfl (by show 2 * 0 + _ ≤ _; exact Nat.le_of_eq rfl) (hb hby at_4) (fun _ _ => ⟨rfl, e0, (by decide : 0 + 4 ≤ _), (by decide : 0 + 8 ≤ _)⟩)
  dsimp only [Pt.U, Pt.locs, Pt.cells, Pt.slots] at X331 l331 y331 z331 st331 hQ331 hS331 hg331 HR331
  subst l331 y331 z331
  obtain ⟨rfl, N331q, K331k⟩ := hQ331
  have N331 := Fr.app N0 N331q
  obtain ⟨X331r, hS331r, hZ331, hown331⟩ := rebS hS0 (by rw [e0]; exact hk0) X331 hS331 hg331 hZ hown
  have O332 : Old Z n0 T331.heap := O0.keep K331k all0
  have Z332 : n0 ≤ T331.heap.size := Nat.le_trans Z0 K331k.1
  have K332 : Keep h0 T331.heap [] := K0.trans K331k all0
  have HC332 : CHr Z [("java/lang/String", 7)] s.vm h0 T331.vm T331.heap := HC0.trans HR331
  obtain ⟨_, _, ⟨T333, L333, k333, n333⟩, -, X333, hS333, hg333, ⟨Lc333, hQ333, l333, y333, z333, HR333⟩, st333⟩ := Jvm.RoadKit.callSS X331r hx (y := (⟨"com/example/nimble_container/nimblecontainer/creation/MethodNamingOfPinLaw", "draw", "(III)Ljava/lang/String;"⟩ : MethodName)) hown331 (mvT hZ331 (hw _ (List.mem_of_getElem? (i := 0) rfl))) (mvT hZ331 (hw _ (List.mem_of_getElem? (i := 1) rfl))) (mvT hZ331 (hw _ (List.mem_of_getElem? (i := 2) rfl))) (mvT hZ331 (hw _ (List.mem_of_getElem? (i := 3) rfl))) (by decide) (backOfSH (s := s) (W := 0) (rmD0 l Z a0 hw [] p2 p6 p5 GC T331.heap n0 O332 hEL wS OC2 OCz qd) hZ331 (hw _ (List.mem_of_getElem? (i := 3) rfl)) (hw _ (List.mem_of_getElem? (i := 2) rfl)) (by decide) (by decide) hEL HC332.1) (g := (mkF m 14 #[.val (.int p1), .val (.int p2), .val (.int p3), .val (.int p4), .val (.int p5), .val (.int p6), .val .null, .unset, .unset, .unset, .unset] [(.int p5), (.int p6), (.int p2)])) rfl (by rw [hml]; rfl) (argsL := [(.int p2), (.int p6), (.int p5)]) (rest := []) (lenOf pd__III_Ljava_lang_String_ rfl) rfl (by show 2 * 0 + _ ≤ _; exact Nat.le_of_eq rfl) (hb hby at_14) (fun _ _ => ⟨rfl, rfl, (by decide : 4 + 4 ≤ _), (by decide : 8 + 8 ≤ _)⟩)
  dsimp only [Pt.U, Pt.locs, Pt.cells, Pt.slots] at X333 l333 y333 z333 st333 hQ333 hS333 hg333 HR333
  subst l333 y333 z333
  obtain ⟨rfl, N333q, K333k⟩ := hQ333
  have N333 := Fr.app N331 N333q
  obtain ⟨X333r, hS333r, hZ333, hown333⟩ := rebS hS331r (Nat.le_refl _) X333 hS333 hg333 hZ331 hown331
  have O334 : Old Z n0 T333.heap := O332.keep K333k all0
  have Z334 : n0 ≤ T333.heap.size := Nat.le_trans Z332 K333k.1
  have K334 : Keep h0 T333.heap [] := K332.trans K333k all0
  have HC334 : CHr Z [("java/lang/String", 7)] s.vm h0 T333.vm T333.heap := HC332.trans HR333
  obtain ⟨_, _, ⟨T335, L335, k335, n335⟩, -, X335, ⟨Lc335, hQ335, l335, y335, z335⟩, st335⟩ := Jvm.LawKit.callS X333r hx (y := (⟨"com/example/nimble_container/nimblecontainer/creation/MethodNaming", "of", "(Ljava/lang/String;Ljava/lang/String;Z)Lcom/example/nimble_container/nimblecontainer/creation/MethodNaming;"⟩ : MethodName)) hown333 (mvT hZ333 (hw _ (List.mem_of_getElem? (i := 34) rfl))) (mvT hZ333 (hw _ (List.mem_of_getElem? (i := 35) rfl))) (mvT hZ333 (hw _ (List.mem_of_getElem? (i := 36) rfl))) (mvT hZ333 (hw _ (List.mem_of_getElem? (i := 37) rfl))) (by decide) (backOf (W := 0) (rmOfNN1 l Z a0 hw [] nn nn T333.heap n0 O334) hZ333 (hw _ (List.mem_of_getElem? (i := 37) rfl)) (hw _ (List.mem_of_getElem? (i := 36) rfl)) (by decide) (by decide)) (g := (mkF m 38 #[.val (.int p1), .val (.int p2), .val (.int p3), .val (.int p4), .val (.int p5), .val (.int p6), .val .null, .val .null, .val (.int (1 : Int32)), .unset, .unset] [(.int (1 : Int32)), .null, .null])) rfl (by rw [hml]; rfl) (argsL := [.null, .null, (.int (1 : Int32))]) (rest := []) (lenOf pd__Ljava_lang_String_Ljava_lang_String_Z_Lcom_example_nimble_container_nimblecontainer_creation_MethodNaming_ rfl) rfl (by show 2 * 0 + _ ≤ _; exact Nat.le_of_eq rfl) (hb hby at_38) (fun _ _ => ⟨rfl, rfl, (by decide : 8 + 1 ≤ _), (by decide : 16 + 3 ≤ _)⟩)
  dsimp only [Pt.U, Pt.locs, Pt.cells, Pt.slots] at X335 l335 y335 z335 st335 hQ335
  subst l335 y335 z335
  obtain ⟨b335, rfl, N335q, K335k, hf335, g1335, g2335, g3335, g4335⟩ := hQ335
  have N335 := Fr.app N333 N335q
  have O336 : Old Z n0 T335.heap := O334.keep K335k all0
  have Z336 : n0 ≤ T335.heap.size := Nat.le_trans Z334 K335k.1
  have K336 : Keep h0 T335.heap [] := K334.trans K335k all0
  have HC336 : CHr Z [("java/lang/String", 7)] s.vm h0 T333.vm T335.heap := HC334.trans (CHr.keep K335k sf0 HC334.1)
  have hk336 : T333.heap.size ≤ T335.heap.size := Nat.le_trans (Nat.le_refl _) K335k.1
  have g_b335 : n0 ≤ b335 := Nat.le_trans Z334 hf335
  have sz_b335 : h0.size ≤ b335 := Nat.le_trans K334.1 hf335
  obtain ⟨T337, X337, e337, st337⟩ := getS2 X335 hx hZ333 hown333 (host := "") (Or.inl (hw _ (List.mem_of_getElem? (i := 50) rfl))) Via.refl rfl (SN.ext O336.2) (g := (mkF m 117 #[.val (.int p1), .val (.int p2), .val (.int p3), .val (.int p4), .val (.int p5), .val (.int p6), .val .null, .val .null, .val (.int (1 : Int32)), .val (.ref b335), .val (.int (0 : Int32))] [(.ref b335)])) rfl (hb hby at_117)
  obtain ⟨cq338, kq338, qa338, qb338, qc338⟩ := isOf hZ333 e337 g1335
  obtain ⟨_, _, ⟨T338, L338, k338, n338⟩, -, X338, ⟨Lc338, hQ338, l338, y338, z338⟩, st338⟩ := X337.virtualBack hx (y := (⟨"com/example/nimble_container/nimblecontainer/creation/MethodNaming", "named", "()Ljava/lang/String;"⟩ : MethodName)) (z := (⟨"com/example/nimble_container/nimblecontainer/creation/MethodNaming", "named", "()Ljava/lang/String;"⟩ : MethodName)) hown333 (mvT hZ333 (hw _ (List.mem_of_getElem? (i := 52) rfl))) (mvT hZ333 (hw _ (List.mem_of_getElem? (i := 53) rfl))) (notFace_of_selects (args := #[]) (mvT hZ333 (hw _ (List.mem_of_getElem? (i := 55) rfl)))) (mvT hZ333 (hw _ (List.mem_of_getElem? (i := 55) rfl))) (mvT hZ333 (hw _ (List.mem_of_getElem? (i := 54) rfl))) (by decide) (backOf (W := 0) (rmGNN l Z a0 hw [] b335 nn T335.heap n0 O336 g2335) hZ333 (hw _ (List.mem_of_getElem? (i := 56) rfl)) (hw _ (List.mem_of_getElem? (i := 36) rfl)) (by decide) (by decide)) qa338 qc338 (g := (mkF m 125 #[.val (.int p1), .val (.int p2), .val (.int p3), .val (.int p4), .val (.int p5), .val (.int p6), .val .null, .val .null, .val (.int (1 : Int32)), .val (.ref b335), .val (.int (0 : Int32))] [(.ref b335)])) rfl (by rw [hml]; rfl) (Steps.refl _) (argsL := []) (rest := []) (lenOf pd___Ljava_lang_String_ rfl) rfl (by show 2 * 0 + _ ≤ _; exact Nat.le_of_eq rfl) (hb hby at_125) (fun _ _ => ⟨rfl, e337, (by decide : 9 + 0 ≤ _), (by decide : 19 + 0 ≤ _)⟩)
  dsimp only [Pt.U, Pt.locs, Pt.cells, Pt.slots] at X338 l338 y338 z338 st338 hQ338
  subst l338 y338 z338
  obtain ⟨rfl, N338q, e338⟩ := hQ338
  have N338 := Fr.app N335 N338q
  obtain ⟨cq339, kq339, qa339, qb339, qc339⟩ := isOf hZ333 e338 g1335
  obtain ⟨_, _, ⟨T339, L339, k339, n339⟩, -, X339, ⟨Lc339, hQ339, l339, y339, z339⟩, st339⟩ := X338.virtualBack hx (y := (⟨"com/example/nimble_container/nimblecontainer/creation/MethodNaming", "byDefault", "()Ljava/lang/String;"⟩ : MethodName)) (z := (⟨"com/example/nimble_container/nimblecontainer/creation/MethodNaming", "byDefault", "()Ljava/lang/String;"⟩ : MethodName)) hown333 (mvT hZ333 (hw _ (List.mem_of_getElem? (i := 57) rfl))) (mvT hZ333 (hw _ (List.mem_of_getElem? (i := 58) rfl))) (notFace_of_selects (args := #[]) (mvT hZ333 (hw _ (List.mem_of_getElem? (i := 60) rfl)))) (mvT hZ333 (hw _ (List.mem_of_getElem? (i := 60) rfl))) (mvT hZ333 (hw _ (List.mem_of_getElem? (i := 59) rfl))) (by decide) (backOf (W := 0) (rmGBN l Z a0 hw [] b335 nn T335.heap n0 O336 g3335) hZ333 (hw _ (List.mem_of_getElem? (i := 61) rfl)) (hw _ (List.mem_of_getElem? (i := 36) rfl)) (by decide) (by decide)) qa339 qc339 (g := (mkF m 135 #[.val (.int p1), .val (.int p2), .val (.int p3), .val (.int p4), .val (.int p5), .val (.int p6), .val .null, .val .null, .val (.int (1 : Int32)), .val (.ref b335), .val (.int (0 : Int32))] [(.ref b335)])) rfl (by rw [hml]; rfl) (Steps.refl _) (argsL := []) (rest := []) (lenOf pd___Ljava_lang_String_ rfl) rfl (by show 2 * 0 + _ ≤ _; exact Nat.le_of_eq rfl) (hb hby at_135) (fun _ _ => ⟨rfl, e338, (by decide : 9 + 0 ≤ _), (by decide : 19 + 0 ≤ _)⟩)
  dsimp only [Pt.U, Pt.locs, Pt.cells, Pt.slots] at X339 l339 y339 z339 st339 hQ339
  subst l339 y339 z339
  obtain ⟨rfl, N339q, e339⟩ := hQ339
  have N339 := Fr.app N338 N339q
  obtain ⟨cq340, kq340, qa340, qb340, qc340⟩ := isOf hZ333 e339 g1335
  obtain ⟨_, _, ⟨T340, L340, k340, n340⟩, -, X340, ⟨Lc340, hQ340, l340, y340, z340⟩, st340⟩ := X339.virtualBack hx (y := (⟨"com/example/nimble_container/nimblecontainer/creation/MethodNaming", "inferred", "()Z"⟩ : MethodName)) (z := (⟨"com/example/nimble_container/nimblecontainer/creation/MethodNaming", "inferred", "()Z"⟩ : MethodName)) hown333 (mvT hZ333 (hw _ (List.mem_of_getElem? (i := 62) rfl))) (mvT hZ333 (hw _ (List.mem_of_getElem? (i := 63) rfl))) (notFace_of_selects (args := #[]) (mvT hZ333 (hw _ (List.mem_of_getElem? (i := 65) rfl)))) (mvT hZ333 (hw _ (List.mem_of_getElem? (i := 65) rfl))) (mvT hZ333 (hw _ (List.mem_of_getElem? (i := 64) rfl))) (by decide) (backOf (W := 0) (rmGI1 l Z a0 hw [] b335 T335.heap n0 O336 g4335) hZ333 (hw _ (List.mem_of_getElem? (i := 66) rfl)) (hw _ (List.mem_of_getElem? (i := 36) rfl)) (by decide) (by decide)) qa340 qc340 (g := (mkF m 145 #[.val (.int p1), .val (.int p2), .val (.int p3), .val (.int p4), .val (.int p5), .val (.int p6), .val .null, .val .null, .val (.int (1 : Int32)), .val (.ref b335), .val (.int (0 : Int32))] [(.ref b335)])) rfl (by rw [hml]; rfl) (Steps.refl _) (argsL := []) (rest := []) (lenOf pd___Z rfl) rfl (by show 2 * 0 + _ ≤ _; exact Nat.le_of_eq rfl) (hb hby at_145) (fun _ _ => ⟨rfl, e339, (by decide : 9 + 0 ≤ _), (by decide : 19 + 0 ≤ _)⟩)
  dsimp only [Pt.U, Pt.locs, Pt.cells, Pt.slots] at X340 l340 y340 z340 st340 hQ340
  subst l340 y340 z340
  obtain ⟨rfl, N340q, e340⟩ := hQ340
  have N340 := Fr.app N339 N340q
  obtain ⟨fs, hr, hrun, hended, hEnd⟩ := X340.leaveW (s := s) hS333r (by rw [e340]; exact hk336) (v := some (.int (1 : Int32))) (fun h => by rw [Bd.returns] at h; cases h)
  refine ⟨_, _, pre0 _ ?_, hrun, hended, _, _, rfl, ?_, ?_, hEnd.1, hEnd.2.1, hEnd.2.2.1, hEnd.2.2.2.mono (by decide) (by decide)⟩
  · show Steps p.tables e below (s₁.setTop (mkF m 0 #[.val (.int p1), .val (.int p2), .val (.int p3), .val (.int p4), .val (.int p5), .val (.int p6), .unset, .unset, .unset, .unset, .unset] [])) _
    refine XS.iloadN X0.here hx rfl (hb hby at_0) rfl ?_
    show Steps p.tables e below (s₁.setTop (mkF m 1 #[.val (.int p1), .val (.int p2), .val (.int p3), .val (.int p4), .val (.int p5), .val (.int p6), .unset, .unset, .unset, .unset, .unset] [(.int p1)])) _
    refine XS.iloadN X0.here hx rfl (hb hby at_1) rfl ?_
    show Steps p.tables e below (s₁.setTop (mkF m 2 #[.val (.int p1), .val (.int p2), .val (.int p3), .val (.int p4), .val (.int p5), .val (.int p6), .unset, .unset, .unset, .unset, .unset] [(.int p4), (.int p1)])) _
    refine XS.iload X0.here hx rfl (hb hby at_2) rfl ?_
    show Steps p.tables e below (s₁.setTop (mkF m 4 #[.val (.int p1), .val (.int p2), .val (.int p3), .val (.int p4), .val (.int p5), .val (.int p6), .unset, .unset, .unset, .unset, .unset] [(.int p5), (.int p4), (.int p1)])) _
    refine st331.trans ?_
    show Steps p.tables e below (T331.setTop (mkF m 7 #[.val (.int p1), .val (.int p2), .val (.int p3), .val (.int p4), .val (.int p5), .val (.int p6), .unset, .unset, .unset, .unset, .unset] [.null])) _
    refine XS.astore X331r.here hx rfl (hb hby at_7) rfl rfl (l' := #[.val (.int p1), .val (.int p2), .val (.int p3), .val (.int p4), .val (.int p5), .val (.int p6), .val .null, .unset, .unset, .unset, .unset]) rfl ?_
    show Steps p.tables e below (T331.setTop (mkF m 9 #[.val (.int p1), .val (.int p2), .val (.int p3), .val (.int p4), .val (.int p5), .val (.int p6), .val .null, .unset, .unset, .unset, .unset] [])) _
    refine XS.iloadN X331r.here hx rfl (hb hby at_9) rfl ?_
    show Steps p.tables e below (T331.setTop (mkF m 10 #[.val (.int p1), .val (.int p2), .val (.int p3), .val (.int p4), .val (.int p5), .val (.int p6), .val .null, .unset, .unset, .unset, .unset] [(.int p2)])) _
    refine XS.iload X331r.here hx rfl (hb hby at_10) rfl ?_
    show Steps p.tables e below (T331.setTop (mkF m 12 #[.val (.int p1), .val (.int p2), .val (.int p3), .val (.int p4), .val (.int p5), .val (.int p6), .val .null, .unset, .unset, .unset, .unset] [(.int p6), (.int p2)])) _
    refine XS.iload X331r.here hx rfl (hb hby at_12) rfl ?_
    show Steps p.tables e below (T331.setTop (mkF m 14 #[.val (.int p1), .val (.int p2), .val (.int p3), .val (.int p4), .val (.int p5), .val (.int p6), .val .null, .unset, .unset, .unset, .unset] [(.int p5), (.int p6), (.int p2)])) _
    refine st333.trans ?_
    show Steps p.tables e below (T333.setTop (mkF m 17 #[.val (.int p1), .val (.int p2), .val (.int p3), .val (.int p4), .val (.int p5), .val (.int p6), .val .null, .unset, .unset, .unset, .unset] [.null])) _
    refine XS.astore X333r.here hx rfl (hb hby at_17) rfl rfl (l' := #[.val (.int p1), .val (.int p2), .val (.int p3), .val (.int p4), .val (.int p5), .val (.int p6), .val .null, .val .null, .unset, .unset, .unset]) rfl ?_
    show Steps p.tables e below (T333.setTop (mkF m 19 #[.val (.int p1), .val (.int p2), .val (.int p3), .val (.int p4), .val (.int p5), .val (.int p6), .val .null, .val .null, .unset, .unset, .unset] [])) _
    refine XS.iloadN X333r.here hx rfl (hb hby at_19) rfl ?_
    show Steps p.tables e below (T333.setTop (mkF m 20 #[.val (.int p1), .val (.int p2), .val (.int p3), .val (.int p4), .val (.int p5), .val (.int p6), .val .null, .val .null, .unset, .unset, .unset] [(.int p3)])) _
    refine XS.iconst X333r.here hx rfl (hb hby at_20) ?_
    show Steps p.tables e below (T333.setTop (mkF m 21 #[.val (.int p1), .val (.int p2), .val (.int p3), .val (.int p4), .val (.int p5), .val (.int p6), .val .null, .val .null, .unset, .unset, .unset] [(.int (1 : Int32)), (.int p3)])) _
    refine XS.iand X333r.here hx rfl (hb hby at_21) rfl ?_
    show Steps p.tables e below (T333.setTop (mkF m 22 #[.val (.int p1), .val (.int p2), .val (.int p3), .val (.int p4), .val (.int p5), .val (.int p6), .val .null, .val .null, .unset, .unset, .unset] [(.int (p3 &&& (1 : Int32)))])) _
    refine XS.ifNo X333r.here hx rfl (hb hby at_22) rfl ((if0 _ _).trans (feq (qf : ¬ ((p3 &&& (1 : Int32)) = (0 : Int32)))).1) ?_
    show Steps p.tables e below (T333.setTop (mkF m 25 #[.val (.int p1), .val (.int p2), .val (.int p3), .val (.int p4), .val (.int p5), .val (.int p6), .val .null, .val .null, .unset, .unset, .unset] [])) _
    refine XS.iconst X333r.here hx rfl (hb hby at_25) ?_
    show Steps p.tables e below (T333.setTop (mkF m 26 #[.val (.int p1), .val (.int p2), .val (.int p3), .val (.int p4), .val (.int p5), .val (.int p6), .val .null, .val .null, .unset, .unset, .unset] [(.int (1 : Int32))])) _
    refine XS.goto X333r.here hx rfl (pc0 := 26) (pc' := 30) rfl (hb hby at_26) (by decide) (by decide) ?_
    show Steps p.tables e below (T333.setTop (mkF m 30 #[.val (.int p1), .val (.int p2), .val (.int p3), .val (.int p4), .val (.int p5), .val (.int p6), .val .null, .val .null, .unset, .unset, .unset] [(.int (1 : Int32))])) _
    refine XS.istore X333r.here hx rfl (hb hby at_30) rfl (l' := #[.val (.int p1), .val (.int p2), .val (.int p3), .val (.int p4), .val (.int p5), .val (.int p6), .val .null, .val .null, .val (.int (1 : Int32)), .unset, .unset]) rfl ?_
    show Steps p.tables e below (T333.setTop (mkF m 32 #[.val (.int p1), .val (.int p2), .val (.int p3), .val (.int p4), .val (.int p5), .val (.int p6), .val .null, .val .null, .val (.int (1 : Int32)), .unset, .unset] [])) _
    refine XS.aload X333r.here hx rfl (hb hby at_32) rfl rfl ?_
    show Steps p.tables e below (T333.setTop (mkF m 34 #[.val (.int p1), .val (.int p2), .val (.int p3), .val (.int p4), .val (.int p5), .val (.int p6), .val .null, .val .null, .val (.int (1 : Int32)), .unset, .unset] [.null])) _
    refine XS.aload X333r.here hx rfl (hb hby at_34) rfl rfl ?_
    show Steps p.tables e below (T333.setTop (mkF m 36 #[.val (.int p1), .val (.int p2), .val (.int p3), .val (.int p4), .val (.int p5), .val (.int p6), .val .null, .val .null, .val (.int (1 : Int32)), .unset, .unset] [.null, .null])) _
    refine XS.iload X333r.here hx rfl (hb hby at_36) rfl ?_
    show Steps p.tables e below (T333.setTop (mkF m 38 #[.val (.int p1), .val (.int p2), .val (.int p3), .val (.int p4), .val (.int p5), .val (.int p6), .val .null, .val .null, .val (.int (1 : Int32)), .unset, .unset] [(.int (1 : Int32)), .null, .null])) _
    refine st335 _ ?_
    show Steps p.tables e below (T335.setTop (mkF m 41 #[.val (.int p1), .val (.int p2), .val (.int p3), .val (.int p4), .val (.int p5), .val (.int p6), .val .null, .val .null, .val (.int (1 : Int32)), .unset, .unset] [(.ref b335)])) _
    refine XS.astore X335.here hx rfl (hb hby at_41) rfl rfl (l' := #[.val (.int p1), .val (.int p2), .val (.int p3), .val (.int p4), .val (.int p5), .val (.int p6), .val .null, .val .null, .val (.int (1 : Int32)), .val (.ref b335), .unset]) rfl ?_
    show Steps p.tables e below (T335.setTop (mkF m 43 #[.val (.int p1), .val (.int p2), .val (.int p3), .val (.int p4), .val (.int p5), .val (.int p6), .val .null, .val .null, .val (.int (1 : Int32)), .val (.ref b335), .unset] [])) _
    refine XS.aload X335.here hx rfl (hb hby at_43) rfl rfl ?_
    show Steps p.tables e below (T335.setTop (mkF m 45 #[.val (.int p1), .val (.int p2), .val (.int p3), .val (.int p4), .val (.int p5), .val (.int p6), .val .null, .val .null, .val (.int (1 : Int32)), .val (.ref b335), .unset] [(.ref b335)])) _
    refine XS.ifnonnullYes X335.here hx rfl (pc0 := 45) (pc' := 50) rfl (hb hby at_45) rfl (by decide) (by decide) ?_
    show Steps p.tables e below (T335.setTop (mkF m 50 #[.val (.int p1), .val (.int p2), .val (.int p3), .val (.int p4), .val (.int p5), .val (.int p6), .val .null, .val .null, .val (.int (1 : Int32)), .val (.ref b335), .unset] [])) _
    refine XS.aload X335.here hx rfl (hb hby at_50) rfl rfl ?_
    show Steps p.tables e below (T335.setTop (mkF m 52 #[.val (.int p1), .val (.int p2), .val (.int p3), .val (.int p4), .val (.int p5), .val (.int p6), .val .null, .val .null, .val (.int (1 : Int32)), .val (.ref b335), .unset] [.null])) _
    refine XS.ifnonnullNo X335.here hx rfl (hb hby at_52) rfl ?_
    show Steps p.tables e below (T335.setTop (mkF m 55 #[.val (.int p1), .val (.int p2), .val (.int p3), .val (.int p4), .val (.int p5), .val (.int p6), .val .null, .val .null, .val (.int (1 : Int32)), .val (.ref b335), .unset] [])) _
    refine XS.aload X335.here hx rfl (hb hby at_55) rfl rfl ?_
    show Steps p.tables e below (T335.setTop (mkF m 57 #[.val (.int p1), .val (.int p2), .val (.int p3), .val (.int p4), .val (.int p5), .val (.int p6), .val .null, .val .null, .val (.int (1 : Int32)), .val (.ref b335), .unset] [.null])) _
    refine XS.ifnonnullNo X335.here hx rfl (hb hby at_57) rfl ?_
    show Steps p.tables e below (T335.setTop (mkF m 60 #[.val (.int p1), .val (.int p2), .val (.int p3), .val (.int p4), .val (.int p5), .val (.int p6), .val .null, .val .null, .val (.int (1 : Int32)), .val (.ref b335), .unset] [])) _
    refine XS.iload X335.here hx rfl (hb hby at_60) rfl ?_
    show Steps p.tables e below (T335.setTop (mkF m 62 #[.val (.int p1), .val (.int p2), .val (.int p3), .val (.int p4), .val (.int p5), .val (.int p6), .val .null, .val .null, .val (.int (1 : Int32)), .val (.ref b335), .unset] [(.int (1 : Int32))])) _
    refine XS.ifYes X335.here hx rfl (pc0 := 62) (pc' := 69) rfl (hb hby at_62) rfl ((if0 _ _).trans (feq (by decide : ¬ ((1 : Int32) = (0 : Int32)))).2) (by decide) (by decide) ?_
    show Steps p.tables e below (T335.setTop (mkF m 69 #[.val (.int p1), .val (.int p2), .val (.int p3), .val (.int p4), .val (.int p5), .val (.int p6), .val .null, .val .null, .val (.int (1 : Int32)), .val (.ref b335), .unset] [])) _
    refine XS.iconst X335.here hx rfl (hb hby at_69) ?_
    show Steps p.tables e below (T335.setTop (mkF m 70 #[.val (.int p1), .val (.int p2), .val (.int p3), .val (.int p4), .val (.int p5), .val (.int p6), .val .null, .val .null, .val (.int (1 : Int32)), .val (.ref b335), .unset] [(.int (0 : Int32))])) _
    refine XS.istore X335.here hx rfl (hb hby at_70) rfl (l' := #[.val (.int p1), .val (.int p2), .val (.int p3), .val (.int p4), .val (.int p5), .val (.int p6), .val .null, .val .null, .val (.int (1 : Int32)), .val (.ref b335), .val (.int (0 : Int32))]) rfl ?_
    show Steps p.tables e below (T335.setTop (mkF m 72 #[.val (.int p1), .val (.int p2), .val (.int p3), .val (.int p4), .val (.int p5), .val (.int p6), .val .null, .val .null, .val (.int (1 : Int32)), .val (.ref b335), .val (.int (0 : Int32))] [])) _
    refine XS.iload X335.here hx rfl (hb hby at_72) rfl ?_
    show Steps p.tables e below (T335.setTop (mkF m 74 #[.val (.int p1), .val (.int p2), .val (.int p3), .val (.int p4), .val (.int p5), .val (.int p6), .val .null, .val .null, .val (.int (1 : Int32)), .val (.ref b335), .val (.int (0 : Int32))] [(.int (0 : Int32))])) _
    refine XS.ifYes X335.here hx rfl (pc0 := 74) (pc' := 115) rfl (hb hby at_74) rfl ((if0 _ _).trans (teq (rfl : (0 : Int32) = (0 : Int32))).1) (by decide) (by decide) ?_
    show Steps p.tables e below (T335.setTop (mkF m 115 #[.val (.int p1), .val (.int p2), .val (.int p3), .val (.int p4), .val (.int p5), .val (.int p6), .val .null, .val .null, .val (.int (1 : Int32)), .val (.ref b335), .val (.int (0 : Int32))] [])) _
    refine XS.aload X335.here hx rfl (hb hby at_115) rfl rfl ?_
    show Steps p.tables e below (T335.setTop (mkF m 117 #[.val (.int p1), .val (.int p2), .val (.int p3), .val (.int p4), .val (.int p5), .val (.int p6), .val .null, .val .null, .val (.int (1 : Int32)), .val (.ref b335), .val (.int (0 : Int32))] [(.ref b335)])) _
    refine st337 _ ?_
    show Steps p.tables e below (T337.setTop (mkF m 120 #[.val (.int p1), .val (.int p2), .val (.int p3), .val (.int p4), .val (.int p5), .val (.int p6), .val .null, .val .null, .val (.int (1 : Int32)), .val (.ref b335), .val (.int (0 : Int32))] [(.ref nn), (.ref b335)])) _
    refine Jvm.RoadKit.acmp (g := (mkF m 120 #[.val (.int p1), .val (.int p2), .val (.int p3), .val (.int p4), .val (.int p5), .val (.int p6), .val .null, .val .null, .val (.int (1 : Int32)), .val (.ref b335), .val (.int (0 : Int32))] [(.ref nn), (.ref b335)])) X337 hx rfl rfl rfl (pc0 := 120) (pc' := 123) (same := false) rfl (hb hby at_120) rfl (decide_eq_false fun q => (Ne.symm (Old.ne O0 EN.lt g_b335)) (Value.ref.inj q)) (by decide) (by decide) ?_
    show Steps p.tables e below (T337.setTop (mkF m 123 #[.val (.int p1), .val (.int p2), .val (.int p3), .val (.int p4), .val (.int p5), .val (.int p6), .val .null, .val .null, .val (.int (1 : Int32)), .val (.ref b335), .val (.int (0 : Int32))] [])) _
    refine XS.aload X337.here hx rfl (hb hby at_123) rfl rfl ?_
    show Steps p.tables e below (T337.setTop (mkF m 125 #[.val (.int p1), .val (.int p2), .val (.int p3), .val (.int p4), .val (.int p5), .val (.int p6), .val .null, .val .null, .val (.int (1 : Int32)), .val (.ref b335), .val (.int (0 : Int32))] [(.ref b335)])) _
    refine st338.trans ?_
    show Steps p.tables e below (T338.setTop (mkF m 128 #[.val (.int p1), .val (.int p2), .val (.int p3), .val (.int p4), .val (.int p5), .val (.int p6), .val .null, .val .null, .val (.int (1 : Int32)), .val (.ref b335), .val (.int (0 : Int32))] [.null])) _
    refine XS.aload X338.here hx rfl (hb hby at_128) rfl rfl ?_
    show Steps p.tables e below (T338.setTop (mkF m 130 #[.val (.int p1), .val (.int p2), .val (.int p3), .val (.int p4), .val (.int p5), .val (.int p6), .val .null, .val .null, .val (.int (1 : Int32)), .val (.ref b335), .val (.int (0 : Int32))] [.null, .null])) _
    refine Jvm.RoadKit.acmp (g := (mkF m 130 #[.val (.int p1), .val (.int p2), .val (.int p3), .val (.int p4), .val (.int p5), .val (.int p6), .val .null, .val .null, .val (.int (1 : Int32)), .val (.ref b335), .val (.int (0 : Int32))] [.null, .null])) X338 hx rfl rfl rfl (pc0 := 130) (pc' := 133) (same := true) rfl (hb hby at_130) rfl (decide_eq_true rfl) (by decide) (by decide) ?_
    show Steps p.tables e below (T338.setTop (mkF m 133 #[.val (.int p1), .val (.int p2), .val (.int p3), .val (.int p4), .val (.int p5), .val (.int p6), .val .null, .val .null, .val (.int (1 : Int32)), .val (.ref b335), .val (.int (0 : Int32))] [])) _
    refine XS.aload X338.here hx rfl (hb hby at_133) rfl rfl ?_
    show Steps p.tables e below (T338.setTop (mkF m 135 #[.val (.int p1), .val (.int p2), .val (.int p3), .val (.int p4), .val (.int p5), .val (.int p6), .val .null, .val .null, .val (.int (1 : Int32)), .val (.ref b335), .val (.int (0 : Int32))] [(.ref b335)])) _
    refine st339.trans ?_
    show Steps p.tables e below (T339.setTop (mkF m 138 #[.val (.int p1), .val (.int p2), .val (.int p3), .val (.int p4), .val (.int p5), .val (.int p6), .val .null, .val .null, .val (.int (1 : Int32)), .val (.ref b335), .val (.int (0 : Int32))] [.null])) _
    refine XS.aload X339.here hx rfl (hb hby at_138) rfl rfl ?_
    show Steps p.tables e below (T339.setTop (mkF m 140 #[.val (.int p1), .val (.int p2), .val (.int p3), .val (.int p4), .val (.int p5), .val (.int p6), .val .null, .val .null, .val (.int (1 : Int32)), .val (.ref b335), .val (.int (0 : Int32))] [.null, .null])) _
    refine Jvm.RoadKit.acmp (g := (mkF m 140 #[.val (.int p1), .val (.int p2), .val (.int p3), .val (.int p4), .val (.int p5), .val (.int p6), .val .null, .val .null, .val (.int (1 : Int32)), .val (.ref b335), .val (.int (0 : Int32))] [.null, .null])) X339 hx rfl rfl rfl (pc0 := 140) (pc' := 143) (same := true) rfl (hb hby at_140) rfl (decide_eq_true rfl) (by decide) (by decide) ?_
    show Steps p.tables e below (T339.setTop (mkF m 143 #[.val (.int p1), .val (.int p2), .val (.int p3), .val (.int p4), .val (.int p5), .val (.int p6), .val .null, .val .null, .val (.int (1 : Int32)), .val (.ref b335), .val (.int (0 : Int32))] [])) _
    refine XS.aload X339.here hx rfl (hb hby at_143) rfl rfl ?_
    show Steps p.tables e below (T339.setTop (mkF m 145 #[.val (.int p1), .val (.int p2), .val (.int p3), .val (.int p4), .val (.int p5), .val (.int p6), .val .null, .val .null, .val (.int (1 : Int32)), .val (.ref b335), .val (.int (0 : Int32))] [(.ref b335)])) _
    refine st340.trans ?_
    show Steps p.tables e below (T340.setTop (mkF m 148 #[.val (.int p1), .val (.int p2), .val (.int p3), .val (.int p4), .val (.int p5), .val (.int p6), .val .null, .val .null, .val (.int (1 : Int32)), .val (.ref b335), .val (.int (0 : Int32))] [(.int (1 : Int32))])) _
    refine XS.iload X340.here hx rfl (hb hby at_148) rfl ?_
    show Steps p.tables e below (T340.setTop (mkF m 150 #[.val (.int p1), .val (.int p2), .val (.int p3), .val (.int p4), .val (.int p5), .val (.int p6), .val .null, .val .null, .val (.int (1 : Int32)), .val (.ref b335), .val (.int (0 : Int32))] [(.int (1 : Int32)), (.int (1 : Int32))])) _
    refine XS.icmpNo X340.here hx rfl (hb hby at_150) rfl (teq (rfl : (1 : Int32) = (1 : Int32))).2 ?_
    show Steps p.tables e below (T340.setTop (mkF m 153 #[.val (.int p1), .val (.int p2), .val (.int p3), .val (.int p4), .val (.int p5), .val (.int p6), .val .null, .val .null, .val (.int (1 : Int32)), .val (.ref b335), .val (.int (0 : Int32))] [])) _
    refine XS.iconst X340.here hx rfl (hb hby at_153) ?_
    show Steps p.tables e below (T340.setTop (mkF m 154 #[.val (.int p1), .val (.int p2), .val (.int p3), .val (.int p4), .val (.int p5), .val (.int p6), .val .null, .val .null, .val (.int (1 : Int32)), .val (.ref b335), .val (.int (0 : Int32))] [(.int (1 : Int32))])) _
    refine XS.goto X340.here hx rfl (pc0 := 154) (pc' := 158) rfl (hb hby at_154) (by decide) (by decide) ?_
    show Steps p.tables e below (T340.setTop (mkF m 158 #[.val (.int p1), .val (.int p2), .val (.int p3), .val (.int p4), .val (.int p5), .val (.int p6), .val .null, .val .null, .val (.int (1 : Int32)), .val (.ref b335), .val (.int (0 : Int32))] [(.int (1 : Int32))])) _
    exact retN X340 hx (t := .boolean) Bd.returns (by simp) (hb hby at_158) hr
  · show Qlaw Z h0 n0 _ T340.heap _
    rw [e340]
    exact ⟨rfl, N340⟩
  · show CHr Z [("java/lang/String", 7)] s.vm s.heap T340.vm T340.heap
    rw [hh, e340]
    exact HC336.trans (CHv.at X340 hZ333 hEL HC336.1)
theorem ef_rmLawNR0 (m : MethodId) (x0 : Int32) (x1 : Int32) (x2 : Int32) (x3 : Int32) (x4 : Int32) (x5 : Int32) : entryFrame m #[(.int x0), (.int x1), (.int x2), (.int x3), (.int x4), (.int x5)] maxLocals = mkF m 0 #[.val (.int x0), .val (.int x1), .val (.int x2), .val (.int x3), .val (.int x4), .val (.int x5), .unset, .unset, .unset, .unset, .unset] [] := by first | (simp [entryFrame, mkF, argsToLocals, Value.category, maxLocals]; done) | rfl
set_option maxRecDepth 65536 in
set_option maxHeartbeats 40000000 in
theorem rmLawNR0 (l : Launch) (Z : State) (a0 : Array Value) (hw : ∀ d ∈ tables_1, d.before a0 Z = true) (ws : List Jvm.Cond) (p1 p2 p3 p4 p5 p6 GC : Int32) (nn : Addr) (h0 : Heap) (n0 : Nat) (O0 : Old Z n0 h0) (hEL : EW Z a0 [("java/lang/String", 7)]) (wS : ∀ a ∈ Bundle.stringAtoms, a.before a0 Z = true) (OC2 : Sta Z Z.heap "java/lang/String" "COMPACT_STRINGS" "Z" (.int GC)) (OCz : ¬ (GC = (0 : Int32))) (SN : Sta Z Z.heap "com/example/nimble_container/nimblecontainer/creation/MethodNaming" "NONE" "Lcom/example/nimble_container/nimblecontainer/creation/MethodNaming;" (.ref nn)) (EN : Exa Z Z.heap nn "com/example/nimble_container/nimblecontainer/creation/MethodNaming") (N0f : Fld Z Z.heap nn "com/example/nimble_container/nimblecontainer/creation/MethodNaming" "named" "Ljava/lang/String;" .null) (N1f : Fld Z Z.heap nn "com/example/nimble_container/nimblecontainer/creation/MethodNaming" "byDefault" "Ljava/lang/String;" .null) (N2f : Fld Z Z.heap nn "com/example/nimble_container/nimblecontainer/creation/MethodNaming" "inferred" "Z" (.int (0 : Int32))) (qn : (p1 &&& (3 : Int32)) = (0 : Int32)) (qd : ¬ ((p2 &&& (3 : Int32)) = (0 : Int32))) (qf : (p3 &&& (1 : Int32)) = (0 : Int32)) :
    MetFree l x (head1 (Jvm.Cond.code x code maxLocals ret :: ws) room_1) (fun aa_ U => aa_ = #[(.int p1), (.int p2), (.int p3), (.int p4), (.int p5), (.int p6)] ∧ Z.Warmed39 U.vm ∧ U.heap = h0 ∧ CHv Z [("java/lang/String", 7)] U.vm h0) (fun _ _ _ _ _ => True) (fun _ U o U' => ∃ v L, o = .returned v ∧ Qlaw Z h0 n0 v U'.heap L ∧ CHr Z [("java/lang/String", 7)] U.vm U.heap U'.vm U'.heap ∧ ReturnedEndW U o U' L room_1.cells room_1.slots) := by
  refine MetFree.of_bodySF (plainFor_of_name pn_com_example_nimble_container_nimblecontainer_creation_MethodNamingOfPinLaw) hisR ?_
  intro p e s m args below meth c s₁ Bd hml0 hP hK
  obtain ⟨rfl, hZ, hh, hC0⟩ := hP
  have hx := Bd.exec
  have hby := Bd.bytes
  have hml : c.maxLocals = 11 := hml0
  have hown : s.vm.findClass "com/example/nimble_container/nimblecontainer/creation/MethodNamingOfPinLaw" = some m.cls := findClass_of_methodNamed Bd.named
  have hnm := (name_of_methodNamed Bd.named Bd.method).1
  have X0 : Stand p l e room_1 (s.setVm s.vm) m #[(.int p1), (.int p2), (.int p3), (.int p4), (.int p5), (.int p6)] below meth c s₁ [] 0 0 := Stand.of_body Bd
  have e0 : s₁.heap = h0 := by rw [← hh, Bd.state]; rfl
  have N0 := Fr.nil n0
  have Z0 : n0 ≤ h0.size := O0.1 ▸ O0.2.1
  have K0 : Keep h0 h0 [] := Keep.refl _ _
  have hS0 : s.Since s.vm h0.size := (State.WarmedH.refl s).since _
  have hk0 : h0.size ≤ h0.size := Nat.le_refl _
  have HC0 : CHr Z [("java/lang/String", 7)] s.vm h0 s.vm h0 := CHr.refl hC0
  have pre0 : ∀ tgt_, Steps p.tables e below (s₁.setTop (mkF m 0 #[.val (.int p1), .val (.int p2), .val (.int p3), .val (.int p4), .val (.int p5), .val (.int p6), .unset, .unset, .unset, .unset, .unset] [])) tgt_ → Steps p.tables e below (s₁.setTop (entryFrame m #[(.int p1), (.int p2), (.int p3), (.int p4), (.int p5), (.int p6)] maxLocals)) tgt_ := fun tgt_ k => castTop (ef_rmLawNR0 m p1 p2 p3 p4 p5 p6) k
  obtain ⟨_, _, ⟨T341, L341, k341, n341⟩, -, X341, hS341, hg341, ⟨Lc341, hQ341, l341, y341, z341, HR341⟩, st341⟩ := Jvm.RoadKit.callSS X0 hx (y := (⟨"com/example/nimble_container/nimblecontainer/creation/MethodNamingOfPinLaw", "draw", "(III)Ljava/lang/String;"⟩ : MethodName)) hown (mvT hZ (hw _ (List.mem_of_getElem? (i := 0) rfl))) (mvT hZ (hw _ (List.mem_of_getElem? (i := 1) rfl))) (mvT hZ (hw _ (List.mem_of_getElem? (i := 2) rfl))) (mvT hZ (hw _ (List.mem_of_getElem? (i := 3) rfl))) (by decide) (backOfSH (s := s) (W := 0) (rmD0 l Z a0 hw [] p1 p4 p5 GC h0 n0 O0 hEL wS OC2 OCz qn) hZ (hw _ (List.mem_of_getElem? (i := 3) rfl)) (hw _ (List.mem_of_getElem? (i := 2) rfl)) (by decide) (by decide) hEL HC0.1) (g := (mkF m 4 #[.val (.int p1), .val (.int p2), .val (.int p3), .val (.int p4), .val (.int p5), .val (.int p6), .unset, .unset, .unset, .unset, .unset] [(.int p5), (.int p4), (.int p1)])) rfl (by rw [hml]; rfl) (argsL := [(.int p1), (.int p4), (.int p5)]) (rest := []) (lenOf pd__III_Ljava_lang_String_ rfl) rfl (by show 2 * 0 + _ ≤ _; exact Nat.le_of_eq rfl) (hb hby at_4) (fun _ _ => ⟨rfl, e0, (by decide : 0 + 4 ≤ _), (by decide : 0 + 8 ≤ _)⟩)
  dsimp only [Pt.U, Pt.locs, Pt.cells, Pt.slots] at X341 l341 y341 z341 st341 hQ341 hS341 hg341 HR341
  subst l341 y341 z341
  obtain ⟨rfl, N341q, K341k⟩ := hQ341
  have N341 := Fr.app N0 N341q
  obtain ⟨X341r, hS341r, hZ341, hown341⟩ := rebS hS0 (by rw [e0]; exact hk0) X341 hS341 hg341 hZ hown
  have O342 : Old Z n0 T341.heap := O0.keep K341k all0
  have Z342 : n0 ≤ T341.heap.size := Nat.le_trans Z0 K341k.1
  have K342 : Keep h0 T341.heap [] := K0.trans K341k all0
  have HC342 : CHr Z [("java/lang/String", 7)] s.vm h0 T341.vm T341.heap := HC0.trans HR341
  obtain ⟨_, _, ⟨T343, L343, k343, n343⟩, -, X343, hS343, hg343, ⟨Lc343, hQ343, l343, y343, z343, HR343⟩, st343⟩ := Jvm.RoadKit.callSS X341r hx (y := (⟨"com/example/nimble_container/nimblecontainer/creation/MethodNamingOfPinLaw", "draw", "(III)Ljava/lang/String;"⟩ : MethodName)) hown341 (mvT hZ341 (hw _ (List.mem_of_getElem? (i := 0) rfl))) (mvT hZ341 (hw _ (List.mem_of_getElem? (i := 1) rfl))) (mvT hZ341 (hw _ (List.mem_of_getElem? (i := 2) rfl))) (mvT hZ341 (hw _ (List.mem_of_getElem? (i := 3) rfl))) (by decide) (backOfSH (s := s) (W := 0) (rmD l Z a0 hw [] p2 p6 p5 GC T341.heap n0 O342 hEL wS OC2 OCz qd) hZ341 (hw _ (List.mem_of_getElem? (i := 3) rfl)) (hw _ (List.mem_of_getElem? (i := 2) rfl)) (by decide) (by decide) hEL HC342.1) (g := (mkF m 14 #[.val (.int p1), .val (.int p2), .val (.int p3), .val (.int p4), .val (.int p5), .val (.int p6), .val .null, .unset, .unset, .unset, .unset] [(.int p5), (.int p6), (.int p2)])) rfl (by rw [hml]; rfl) (argsL := [(.int p2), (.int p6), (.int p5)]) (rest := []) (lenOf pd__III_Ljava_lang_String_ rfl) rfl (by show 2 * 0 + _ ≤ _; exact Nat.le_of_eq rfl) (hb hby at_14) (fun _ _ => ⟨rfl, rfl, (by decide : 4 + 4 ≤ _), (by decide : 8 + 8 ≤ _)⟩)
  dsimp only [Pt.U, Pt.locs, Pt.cells, Pt.slots] at X343 l343 y343 z343 st343 hQ343 hS343 hg343 HR343
  subst l343 y343 z343
  obtain ⟨b343, rfl, N343q, K343k, hf343, g1343⟩ := hQ343
  have N343 := Fr.app N341 N343q
  obtain ⟨X343r, hS343r, hZ343, hown343⟩ := rebS hS341r (Nat.le_refl _) X343 hS343 hg343 hZ341 hown341
  have O344 : Old Z n0 T343.heap := O342.keep K343k all0
  have Z344 : n0 ≤ T343.heap.size := Nat.le_trans Z342 K343k.1
  have K344 : Keep h0 T343.heap [] := K342.trans K343k all0
  have HC344 : CHr Z [("java/lang/String", 7)] s.vm h0 T343.vm T343.heap := HC342.trans HR343
  have g_b343 : n0 ≤ b343 := Nat.le_trans Z342 hf343
  have sz_b343 : h0.size ≤ b343 := Nat.le_trans K342.1 hf343
  obtain ⟨_, _, ⟨T345, L345, k345, n345⟩, -, X345, ⟨Lc345, hQ345, l345, y345, z345⟩, st345⟩ := Jvm.LawKit.callS X343r hx (y := (⟨"com/example/nimble_container/nimblecontainer/creation/MethodNaming", "of", "(Ljava/lang/String;Ljava/lang/String;Z)Lcom/example/nimble_container/nimblecontainer/creation/MethodNaming;"⟩ : MethodName)) hown343 (mvT hZ343 (hw _ (List.mem_of_getElem? (i := 34) rfl))) (mvT hZ343 (hw _ (List.mem_of_getElem? (i := 35) rfl))) (mvT hZ343 (hw _ (List.mem_of_getElem? (i := 36) rfl))) (mvT hZ343 (hw _ (List.mem_of_getElem? (i := 37) rfl))) (by decide) (backOf (W := 0) (rmOfNR0 l Z a0 hw [] nn b343 T343.heap n0 O344) hZ343 (hw _ (List.mem_of_getElem? (i := 37) rfl)) (hw _ (List.mem_of_getElem? (i := 36) rfl)) (by decide) (by decide)) (g := (mkF m 38 #[.val (.int p1), .val (.int p2), .val (.int p3), .val (.int p4), .val (.int p5), .val (.int p6), .val .null, .val (.ref b343), .val (.int (0 : Int32)), .unset, .unset] [(.int (0 : Int32)), (.ref b343), .null])) rfl (by rw [hml]; rfl) (argsL := [.null, (.ref b343), (.int (0 : Int32))]) (rest := []) (lenOf pd__Ljava_lang_String_Ljava_lang_String_Z_Lcom_example_nimble_container_nimblecontainer_creation_MethodNaming_ rfl) rfl (by show 2 * 0 + _ ≤ _; exact Nat.le_of_eq rfl) (hb hby at_38) (fun _ _ => ⟨rfl, rfl, (by decide : 8 + 1 ≤ _), (by decide : 16 + 3 ≤ _)⟩)
  dsimp only [Pt.U, Pt.locs, Pt.cells, Pt.slots] at X345 l345 y345 z345 st345 hQ345
  subst l345 y345 z345
  obtain ⟨b345, rfl, N345q, K345k, hf345, g1345, g2345, g3345, g4345⟩ := hQ345
  have N345 := Fr.app N343 N345q
  have O346 : Old Z n0 T345.heap := O344.keep K345k all0
  have Z346 : n0 ≤ T345.heap.size := Nat.le_trans Z344 K345k.1
  have K346 : Keep h0 T345.heap [] := K344.trans K345k all0
  have HC346 : CHr Z [("java/lang/String", 7)] s.vm h0 T343.vm T345.heap := HC344.trans (CHr.keep K345k sf0 HC344.1)
  have hk346 : T343.heap.size ≤ T345.heap.size := Nat.le_trans (Nat.le_refl _) K345k.1
  have f347 : Exa Z T345.heap b343 "java/lang/String" := g1343.keep K345k
  have g_b345 : n0 ≤ b345 := Nat.le_trans Z344 hf345
  have sz_b345 : h0.size ≤ b345 := Nat.le_trans K344.1 hf345
  obtain ⟨T348, X348, e348, st348⟩ := getS2 X345 hx hZ343 hown343 (host := "") (Or.inl (hw _ (List.mem_of_getElem? (i := 50) rfl))) Via.refl rfl (SN.ext O346.2) (g := (mkF m 117 #[.val (.int p1), .val (.int p2), .val (.int p3), .val (.int p4), .val (.int p5), .val (.int p6), .val .null, .val (.ref b343), .val (.int (0 : Int32)), .val (.ref b345), .val (.int (0 : Int32))] [(.ref b345)])) rfl (hb hby at_117)
  obtain ⟨cq349, kq349, qa349, qb349, qc349⟩ := isOf hZ343 e348 g1345
  obtain ⟨_, _, ⟨T349, L349, k349, n349⟩, -, X349, ⟨Lc349, hQ349, l349, y349, z349⟩, st349⟩ := X348.virtualBack hx (y := (⟨"com/example/nimble_container/nimblecontainer/creation/MethodNaming", "named", "()Ljava/lang/String;"⟩ : MethodName)) (z := (⟨"com/example/nimble_container/nimblecontainer/creation/MethodNaming", "named", "()Ljava/lang/String;"⟩ : MethodName)) hown343 (mvT hZ343 (hw _ (List.mem_of_getElem? (i := 52) rfl))) (mvT hZ343 (hw _ (List.mem_of_getElem? (i := 53) rfl))) (notFace_of_selects (args := #[]) (mvT hZ343 (hw _ (List.mem_of_getElem? (i := 55) rfl)))) (mvT hZ343 (hw _ (List.mem_of_getElem? (i := 55) rfl))) (mvT hZ343 (hw _ (List.mem_of_getElem? (i := 54) rfl))) (by decide) (backOf (W := 0) (rmGNN l Z a0 hw [] b345 nn T345.heap n0 O346 g2345) hZ343 (hw _ (List.mem_of_getElem? (i := 56) rfl)) (hw _ (List.mem_of_getElem? (i := 36) rfl)) (by decide) (by decide)) qa349 qc349 (g := (mkF m 125 #[.val (.int p1), .val (.int p2), .val (.int p3), .val (.int p4), .val (.int p5), .val (.int p6), .val .null, .val (.ref b343), .val (.int (0 : Int32)), .val (.ref b345), .val (.int (0 : Int32))] [(.ref b345)])) rfl (by rw [hml]; rfl) (Steps.refl _) (argsL := []) (rest := []) (lenOf pd___Ljava_lang_String_ rfl) rfl (by show 2 * 0 + _ ≤ _; exact Nat.le_of_eq rfl) (hb hby at_125) (fun _ _ => ⟨rfl, e348, (by decide : 9 + 0 ≤ _), (by decide : 19 + 0 ≤ _)⟩)
  dsimp only [Pt.U, Pt.locs, Pt.cells, Pt.slots] at X349 l349 y349 z349 st349 hQ349
  subst l349 y349 z349
  obtain ⟨rfl, N349q, e349⟩ := hQ349
  have N349 := Fr.app N345 N349q
  obtain ⟨cq350, kq350, qa350, qb350, qc350⟩ := isOf hZ343 e349 g1345
  obtain ⟨_, _, ⟨T350, L350, k350, n350⟩, -, X350, ⟨Lc350, hQ350, l350, y350, z350⟩, st350⟩ := X349.virtualBack hx (y := (⟨"com/example/nimble_container/nimblecontainer/creation/MethodNaming", "byDefault", "()Ljava/lang/String;"⟩ : MethodName)) (z := (⟨"com/example/nimble_container/nimblecontainer/creation/MethodNaming", "byDefault", "()Ljava/lang/String;"⟩ : MethodName)) hown343 (mvT hZ343 (hw _ (List.mem_of_getElem? (i := 57) rfl))) (mvT hZ343 (hw _ (List.mem_of_getElem? (i := 58) rfl))) (notFace_of_selects (args := #[]) (mvT hZ343 (hw _ (List.mem_of_getElem? (i := 60) rfl)))) (mvT hZ343 (hw _ (List.mem_of_getElem? (i := 60) rfl))) (mvT hZ343 (hw _ (List.mem_of_getElem? (i := 59) rfl))) (by decide) (backOf (W := 0) (rmGBR l Z a0 hw [] b345 b343 T345.heap n0 O346 g3345) hZ343 (hw _ (List.mem_of_getElem? (i := 61) rfl)) (hw _ (List.mem_of_getElem? (i := 36) rfl)) (by decide) (by decide)) qa350 qc350 (g := (mkF m 135 #[.val (.int p1), .val (.int p2), .val (.int p3), .val (.int p4), .val (.int p5), .val (.int p6), .val .null, .val (.ref b343), .val (.int (0 : Int32)), .val (.ref b345), .val (.int (0 : Int32))] [(.ref b345)])) rfl (by rw [hml]; rfl) (Steps.refl _) (argsL := []) (rest := []) (lenOf pd___Ljava_lang_String_ rfl) rfl (by show 2 * 0 + _ ≤ _; exact Nat.le_of_eq rfl) (hb hby at_135) (fun _ _ => ⟨rfl, e349, (by decide : 9 + 0 ≤ _), (by decide : 19 + 0 ≤ _)⟩)
  dsimp only [Pt.U, Pt.locs, Pt.cells, Pt.slots] at X350 l350 y350 z350 st350 hQ350
  subst l350 y350 z350
  obtain ⟨rfl, N350q, e350⟩ := hQ350
  have N350 := Fr.app N349 N350q
  obtain ⟨cq351, kq351, qa351, qb351, qc351⟩ := isOf hZ343 e350 g1345
  obtain ⟨_, _, ⟨T351, L351, k351, n351⟩, -, X351, ⟨Lc351, hQ351, l351, y351, z351⟩, st351⟩ := X350.virtualBack hx (y := (⟨"com/example/nimble_container/nimblecontainer/creation/MethodNaming", "inferred", "()Z"⟩ : MethodName)) (z := (⟨"com/example/nimble_container/nimblecontainer/creation/MethodNaming", "inferred", "()Z"⟩ : MethodName)) hown343 (mvT hZ343 (hw _ (List.mem_of_getElem? (i := 62) rfl))) (mvT hZ343 (hw _ (List.mem_of_getElem? (i := 63) rfl))) (notFace_of_selects (args := #[]) (mvT hZ343 (hw _ (List.mem_of_getElem? (i := 65) rfl)))) (mvT hZ343 (hw _ (List.mem_of_getElem? (i := 65) rfl))) (mvT hZ343 (hw _ (List.mem_of_getElem? (i := 64) rfl))) (by decide) (backOf (W := 0) (rmGI0 l Z a0 hw [] b345 T345.heap n0 O346 g4345) hZ343 (hw _ (List.mem_of_getElem? (i := 66) rfl)) (hw _ (List.mem_of_getElem? (i := 36) rfl)) (by decide) (by decide)) qa351 qc351 (g := (mkF m 145 #[.val (.int p1), .val (.int p2), .val (.int p3), .val (.int p4), .val (.int p5), .val (.int p6), .val .null, .val (.ref b343), .val (.int (0 : Int32)), .val (.ref b345), .val (.int (0 : Int32))] [(.ref b345)])) rfl (by rw [hml]; rfl) (Steps.refl _) (argsL := []) (rest := []) (lenOf pd___Z rfl) rfl (by show 2 * 0 + _ ≤ _; exact Nat.le_of_eq rfl) (hb hby at_145) (fun _ _ => ⟨rfl, e350, (by decide : 9 + 0 ≤ _), (by decide : 19 + 0 ≤ _)⟩)
  dsimp only [Pt.U, Pt.locs, Pt.cells, Pt.slots] at X351 l351 y351 z351 st351 hQ351
  subst l351 y351 z351
  obtain ⟨rfl, N351q, e351⟩ := hQ351
  have N351 := Fr.app N350 N351q
  obtain ⟨fs, hr, hrun, hended, hEnd⟩ := X351.leaveW (s := s) hS343r (by rw [e351]; exact hk346) (v := some (.int (1 : Int32))) (fun h => by rw [Bd.returns] at h; cases h)
  refine ⟨_, _, pre0 _ ?_, hrun, hended, _, _, rfl, ?_, ?_, hEnd.1, hEnd.2.1, hEnd.2.2.1, hEnd.2.2.2.mono (by decide) (by decide)⟩
  · show Steps p.tables e below (s₁.setTop (mkF m 0 #[.val (.int p1), .val (.int p2), .val (.int p3), .val (.int p4), .val (.int p5), .val (.int p6), .unset, .unset, .unset, .unset, .unset] [])) _
    refine XS.iloadN X0.here hx rfl (hb hby at_0) rfl ?_
    show Steps p.tables e below (s₁.setTop (mkF m 1 #[.val (.int p1), .val (.int p2), .val (.int p3), .val (.int p4), .val (.int p5), .val (.int p6), .unset, .unset, .unset, .unset, .unset] [(.int p1)])) _
    refine XS.iloadN X0.here hx rfl (hb hby at_1) rfl ?_
    show Steps p.tables e below (s₁.setTop (mkF m 2 #[.val (.int p1), .val (.int p2), .val (.int p3), .val (.int p4), .val (.int p5), .val (.int p6), .unset, .unset, .unset, .unset, .unset] [(.int p4), (.int p1)])) _
    refine XS.iload X0.here hx rfl (hb hby at_2) rfl ?_
    show Steps p.tables e below (s₁.setTop (mkF m 4 #[.val (.int p1), .val (.int p2), .val (.int p3), .val (.int p4), .val (.int p5), .val (.int p6), .unset, .unset, .unset, .unset, .unset] [(.int p5), (.int p4), (.int p1)])) _
    refine st341.trans ?_
    show Steps p.tables e below (T341.setTop (mkF m 7 #[.val (.int p1), .val (.int p2), .val (.int p3), .val (.int p4), .val (.int p5), .val (.int p6), .unset, .unset, .unset, .unset, .unset] [.null])) _
    refine XS.astore X341r.here hx rfl (hb hby at_7) rfl rfl (l' := #[.val (.int p1), .val (.int p2), .val (.int p3), .val (.int p4), .val (.int p5), .val (.int p6), .val .null, .unset, .unset, .unset, .unset]) rfl ?_
    show Steps p.tables e below (T341.setTop (mkF m 9 #[.val (.int p1), .val (.int p2), .val (.int p3), .val (.int p4), .val (.int p5), .val (.int p6), .val .null, .unset, .unset, .unset, .unset] [])) _
    refine XS.iloadN X341r.here hx rfl (hb hby at_9) rfl ?_
    show Steps p.tables e below (T341.setTop (mkF m 10 #[.val (.int p1), .val (.int p2), .val (.int p3), .val (.int p4), .val (.int p5), .val (.int p6), .val .null, .unset, .unset, .unset, .unset] [(.int p2)])) _
    refine XS.iload X341r.here hx rfl (hb hby at_10) rfl ?_
    show Steps p.tables e below (T341.setTop (mkF m 12 #[.val (.int p1), .val (.int p2), .val (.int p3), .val (.int p4), .val (.int p5), .val (.int p6), .val .null, .unset, .unset, .unset, .unset] [(.int p6), (.int p2)])) _
    refine XS.iload X341r.here hx rfl (hb hby at_12) rfl ?_
    show Steps p.tables e below (T341.setTop (mkF m 14 #[.val (.int p1), .val (.int p2), .val (.int p3), .val (.int p4), .val (.int p5), .val (.int p6), .val .null, .unset, .unset, .unset, .unset] [(.int p5), (.int p6), (.int p2)])) _
    refine st343.trans ?_
    show Steps p.tables e below (T343.setTop (mkF m 17 #[.val (.int p1), .val (.int p2), .val (.int p3), .val (.int p4), .val (.int p5), .val (.int p6), .val .null, .unset, .unset, .unset, .unset] [(.ref b343)])) _
    refine XS.astore X343r.here hx rfl (hb hby at_17) rfl rfl (l' := #[.val (.int p1), .val (.int p2), .val (.int p3), .val (.int p4), .val (.int p5), .val (.int p6), .val .null, .val (.ref b343), .unset, .unset, .unset]) rfl ?_
    show Steps p.tables e below (T343.setTop (mkF m 19 #[.val (.int p1), .val (.int p2), .val (.int p3), .val (.int p4), .val (.int p5), .val (.int p6), .val .null, .val (.ref b343), .unset, .unset, .unset] [])) _
    refine XS.iloadN X343r.here hx rfl (hb hby at_19) rfl ?_
    show Steps p.tables e below (T343.setTop (mkF m 20 #[.val (.int p1), .val (.int p2), .val (.int p3), .val (.int p4), .val (.int p5), .val (.int p6), .val .null, .val (.ref b343), .unset, .unset, .unset] [(.int p3)])) _
    refine XS.iconst X343r.here hx rfl (hb hby at_20) ?_
    show Steps p.tables e below (T343.setTop (mkF m 21 #[.val (.int p1), .val (.int p2), .val (.int p3), .val (.int p4), .val (.int p5), .val (.int p6), .val .null, .val (.ref b343), .unset, .unset, .unset] [(.int (1 : Int32)), (.int p3)])) _
    refine XS.iand X343r.here hx rfl (hb hby at_21) rfl ?_
    show Steps p.tables e below (T343.setTop (mkF m 22 #[.val (.int p1), .val (.int p2), .val (.int p3), .val (.int p4), .val (.int p5), .val (.int p6), .val .null, .val (.ref b343), .unset, .unset, .unset] [(.int (p3 &&& (1 : Int32)))])) _
    refine XS.ifYes X343r.here hx rfl (pc0 := 22) (pc' := 29) rfl (hb hby at_22) rfl ((if0 _ _).trans (teq (qf : (p3 &&& (1 : Int32)) = (0 : Int32))).1) (by decide) (by decide) ?_
    show Steps p.tables e below (T343.setTop (mkF m 29 #[.val (.int p1), .val (.int p2), .val (.int p3), .val (.int p4), .val (.int p5), .val (.int p6), .val .null, .val (.ref b343), .unset, .unset, .unset] [])) _
    refine XS.iconst X343r.here hx rfl (hb hby at_29) ?_
    show Steps p.tables e below (T343.setTop (mkF m 30 #[.val (.int p1), .val (.int p2), .val (.int p3), .val (.int p4), .val (.int p5), .val (.int p6), .val .null, .val (.ref b343), .unset, .unset, .unset] [(.int (0 : Int32))])) _
    refine XS.istore X343r.here hx rfl (hb hby at_30) rfl (l' := #[.val (.int p1), .val (.int p2), .val (.int p3), .val (.int p4), .val (.int p5), .val (.int p6), .val .null, .val (.ref b343), .val (.int (0 : Int32)), .unset, .unset]) rfl ?_
    show Steps p.tables e below (T343.setTop (mkF m 32 #[.val (.int p1), .val (.int p2), .val (.int p3), .val (.int p4), .val (.int p5), .val (.int p6), .val .null, .val (.ref b343), .val (.int (0 : Int32)), .unset, .unset] [])) _
    refine XS.aload X343r.here hx rfl (hb hby at_32) rfl rfl ?_
    show Steps p.tables e below (T343.setTop (mkF m 34 #[.val (.int p1), .val (.int p2), .val (.int p3), .val (.int p4), .val (.int p5), .val (.int p6), .val .null, .val (.ref b343), .val (.int (0 : Int32)), .unset, .unset] [.null])) _
    refine XS.aload X343r.here hx rfl (hb hby at_34) rfl rfl ?_
    show Steps p.tables e below (T343.setTop (mkF m 36 #[.val (.int p1), .val (.int p2), .val (.int p3), .val (.int p4), .val (.int p5), .val (.int p6), .val .null, .val (.ref b343), .val (.int (0 : Int32)), .unset, .unset] [(.ref b343), .null])) _
    refine XS.iload X343r.here hx rfl (hb hby at_36) rfl ?_
    show Steps p.tables e below (T343.setTop (mkF m 38 #[.val (.int p1), .val (.int p2), .val (.int p3), .val (.int p4), .val (.int p5), .val (.int p6), .val .null, .val (.ref b343), .val (.int (0 : Int32)), .unset, .unset] [(.int (0 : Int32)), (.ref b343), .null])) _
    refine st345 _ ?_
    show Steps p.tables e below (T345.setTop (mkF m 41 #[.val (.int p1), .val (.int p2), .val (.int p3), .val (.int p4), .val (.int p5), .val (.int p6), .val .null, .val (.ref b343), .val (.int (0 : Int32)), .unset, .unset] [(.ref b345)])) _
    refine XS.astore X345.here hx rfl (hb hby at_41) rfl rfl (l' := #[.val (.int p1), .val (.int p2), .val (.int p3), .val (.int p4), .val (.int p5), .val (.int p6), .val .null, .val (.ref b343), .val (.int (0 : Int32)), .val (.ref b345), .unset]) rfl ?_
    show Steps p.tables e below (T345.setTop (mkF m 43 #[.val (.int p1), .val (.int p2), .val (.int p3), .val (.int p4), .val (.int p5), .val (.int p6), .val .null, .val (.ref b343), .val (.int (0 : Int32)), .val (.ref b345), .unset] [])) _
    refine XS.aload X345.here hx rfl (hb hby at_43) rfl rfl ?_
    show Steps p.tables e below (T345.setTop (mkF m 45 #[.val (.int p1), .val (.int p2), .val (.int p3), .val (.int p4), .val (.int p5), .val (.int p6), .val .null, .val (.ref b343), .val (.int (0 : Int32)), .val (.ref b345), .unset] [(.ref b345)])) _
    refine XS.ifnonnullYes X345.here hx rfl (pc0 := 45) (pc' := 50) rfl (hb hby at_45) rfl (by decide) (by decide) ?_
    show Steps p.tables e below (T345.setTop (mkF m 50 #[.val (.int p1), .val (.int p2), .val (.int p3), .val (.int p4), .val (.int p5), .val (.int p6), .val .null, .val (.ref b343), .val (.int (0 : Int32)), .val (.ref b345), .unset] [])) _
    refine XS.aload X345.here hx rfl (hb hby at_50) rfl rfl ?_
    show Steps p.tables e below (T345.setTop (mkF m 52 #[.val (.int p1), .val (.int p2), .val (.int p3), .val (.int p4), .val (.int p5), .val (.int p6), .val .null, .val (.ref b343), .val (.int (0 : Int32)), .val (.ref b345), .unset] [.null])) _
    refine XS.ifnonnullNo X345.here hx rfl (hb hby at_52) rfl ?_
    show Steps p.tables e below (T345.setTop (mkF m 55 #[.val (.int p1), .val (.int p2), .val (.int p3), .val (.int p4), .val (.int p5), .val (.int p6), .val .null, .val (.ref b343), .val (.int (0 : Int32)), .val (.ref b345), .unset] [])) _
    refine XS.aload X345.here hx rfl (hb hby at_55) rfl rfl ?_
    show Steps p.tables e below (T345.setTop (mkF m 57 #[.val (.int p1), .val (.int p2), .val (.int p3), .val (.int p4), .val (.int p5), .val (.int p6), .val .null, .val (.ref b343), .val (.int (0 : Int32)), .val (.ref b345), .unset] [(.ref b343)])) _
    refine XS.ifnonnullYes X345.here hx rfl (pc0 := 57) (pc' := 69) rfl (hb hby at_57) rfl (by decide) (by decide) ?_
    show Steps p.tables e below (T345.setTop (mkF m 69 #[.val (.int p1), .val (.int p2), .val (.int p3), .val (.int p4), .val (.int p5), .val (.int p6), .val .null, .val (.ref b343), .val (.int (0 : Int32)), .val (.ref b345), .unset] [])) _
    refine XS.iconst X345.here hx rfl (hb hby at_69) ?_
    show Steps p.tables e below (T345.setTop (mkF m 70 #[.val (.int p1), .val (.int p2), .val (.int p3), .val (.int p4), .val (.int p5), .val (.int p6), .val .null, .val (.ref b343), .val (.int (0 : Int32)), .val (.ref b345), .unset] [(.int (0 : Int32))])) _
    refine XS.istore X345.here hx rfl (hb hby at_70) rfl (l' := #[.val (.int p1), .val (.int p2), .val (.int p3), .val (.int p4), .val (.int p5), .val (.int p6), .val .null, .val (.ref b343), .val (.int (0 : Int32)), .val (.ref b345), .val (.int (0 : Int32))]) rfl ?_
    show Steps p.tables e below (T345.setTop (mkF m 72 #[.val (.int p1), .val (.int p2), .val (.int p3), .val (.int p4), .val (.int p5), .val (.int p6), .val .null, .val (.ref b343), .val (.int (0 : Int32)), .val (.ref b345), .val (.int (0 : Int32))] [])) _
    refine XS.iload X345.here hx rfl (hb hby at_72) rfl ?_
    show Steps p.tables e below (T345.setTop (mkF m 74 #[.val (.int p1), .val (.int p2), .val (.int p3), .val (.int p4), .val (.int p5), .val (.int p6), .val .null, .val (.ref b343), .val (.int (0 : Int32)), .val (.ref b345), .val (.int (0 : Int32))] [(.int (0 : Int32))])) _
    refine XS.ifYes X345.here hx rfl (pc0 := 74) (pc' := 115) rfl (hb hby at_74) rfl ((if0 _ _).trans (teq (rfl : (0 : Int32) = (0 : Int32))).1) (by decide) (by decide) ?_
    show Steps p.tables e below (T345.setTop (mkF m 115 #[.val (.int p1), .val (.int p2), .val (.int p3), .val (.int p4), .val (.int p5), .val (.int p6), .val .null, .val (.ref b343), .val (.int (0 : Int32)), .val (.ref b345), .val (.int (0 : Int32))] [])) _
    refine XS.aload X345.here hx rfl (hb hby at_115) rfl rfl ?_
    show Steps p.tables e below (T345.setTop (mkF m 117 #[.val (.int p1), .val (.int p2), .val (.int p3), .val (.int p4), .val (.int p5), .val (.int p6), .val .null, .val (.ref b343), .val (.int (0 : Int32)), .val (.ref b345), .val (.int (0 : Int32))] [(.ref b345)])) _
    refine st348 _ ?_
    show Steps p.tables e below (T348.setTop (mkF m 120 #[.val (.int p1), .val (.int p2), .val (.int p3), .val (.int p4), .val (.int p5), .val (.int p6), .val .null, .val (.ref b343), .val (.int (0 : Int32)), .val (.ref b345), .val (.int (0 : Int32))] [(.ref nn), (.ref b345)])) _
    refine Jvm.RoadKit.acmp (g := (mkF m 120 #[.val (.int p1), .val (.int p2), .val (.int p3), .val (.int p4), .val (.int p5), .val (.int p6), .val .null, .val (.ref b343), .val (.int (0 : Int32)), .val (.ref b345), .val (.int (0 : Int32))] [(.ref nn), (.ref b345)])) X348 hx rfl rfl rfl (pc0 := 120) (pc' := 123) (same := false) rfl (hb hby at_120) rfl (decide_eq_false fun q => (Ne.symm (Old.ne O0 EN.lt g_b345)) (Value.ref.inj q)) (by decide) (by decide) ?_
    show Steps p.tables e below (T348.setTop (mkF m 123 #[.val (.int p1), .val (.int p2), .val (.int p3), .val (.int p4), .val (.int p5), .val (.int p6), .val .null, .val (.ref b343), .val (.int (0 : Int32)), .val (.ref b345), .val (.int (0 : Int32))] [])) _
    refine XS.aload X348.here hx rfl (hb hby at_123) rfl rfl ?_
    show Steps p.tables e below (T348.setTop (mkF m 125 #[.val (.int p1), .val (.int p2), .val (.int p3), .val (.int p4), .val (.int p5), .val (.int p6), .val .null, .val (.ref b343), .val (.int (0 : Int32)), .val (.ref b345), .val (.int (0 : Int32))] [(.ref b345)])) _
    refine st349.trans ?_
    show Steps p.tables e below (T349.setTop (mkF m 128 #[.val (.int p1), .val (.int p2), .val (.int p3), .val (.int p4), .val (.int p5), .val (.int p6), .val .null, .val (.ref b343), .val (.int (0 : Int32)), .val (.ref b345), .val (.int (0 : Int32))] [.null])) _
    refine XS.aload X349.here hx rfl (hb hby at_128) rfl rfl ?_
    show Steps p.tables e below (T349.setTop (mkF m 130 #[.val (.int p1), .val (.int p2), .val (.int p3), .val (.int p4), .val (.int p5), .val (.int p6), .val .null, .val (.ref b343), .val (.int (0 : Int32)), .val (.ref b345), .val (.int (0 : Int32))] [.null, .null])) _
    refine Jvm.RoadKit.acmp (g := (mkF m 130 #[.val (.int p1), .val (.int p2), .val (.int p3), .val (.int p4), .val (.int p5), .val (.int p6), .val .null, .val (.ref b343), .val (.int (0 : Int32)), .val (.ref b345), .val (.int (0 : Int32))] [.null, .null])) X349 hx rfl rfl rfl (pc0 := 130) (pc' := 133) (same := true) rfl (hb hby at_130) rfl (decide_eq_true rfl) (by decide) (by decide) ?_
    show Steps p.tables e below (T349.setTop (mkF m 133 #[.val (.int p1), .val (.int p2), .val (.int p3), .val (.int p4), .val (.int p5), .val (.int p6), .val .null, .val (.ref b343), .val (.int (0 : Int32)), .val (.ref b345), .val (.int (0 : Int32))] [])) _
    refine XS.aload X349.here hx rfl (hb hby at_133) rfl rfl ?_
    show Steps p.tables e below (T349.setTop (mkF m 135 #[.val (.int p1), .val (.int p2), .val (.int p3), .val (.int p4), .val (.int p5), .val (.int p6), .val .null, .val (.ref b343), .val (.int (0 : Int32)), .val (.ref b345), .val (.int (0 : Int32))] [(.ref b345)])) _
    refine st350.trans ?_
    show Steps p.tables e below (T350.setTop (mkF m 138 #[.val (.int p1), .val (.int p2), .val (.int p3), .val (.int p4), .val (.int p5), .val (.int p6), .val .null, .val (.ref b343), .val (.int (0 : Int32)), .val (.ref b345), .val (.int (0 : Int32))] [(.ref b343)])) _
    refine XS.aload X350.here hx rfl (hb hby at_138) rfl rfl ?_
    show Steps p.tables e below (T350.setTop (mkF m 140 #[.val (.int p1), .val (.int p2), .val (.int p3), .val (.int p4), .val (.int p5), .val (.int p6), .val .null, .val (.ref b343), .val (.int (0 : Int32)), .val (.ref b345), .val (.int (0 : Int32))] [(.ref b343), (.ref b343)])) _
    refine Jvm.RoadKit.acmp (g := (mkF m 140 #[.val (.int p1), .val (.int p2), .val (.int p3), .val (.int p4), .val (.int p5), .val (.int p6), .val .null, .val (.ref b343), .val (.int (0 : Int32)), .val (.ref b345), .val (.int (0 : Int32))] [(.ref b343), (.ref b343)])) X350 hx rfl rfl rfl (pc0 := 140) (pc' := 143) (same := true) rfl (hb hby at_140) rfl (decide_eq_true rfl) (by decide) (by decide) ?_
    show Steps p.tables e below (T350.setTop (mkF m 143 #[.val (.int p1), .val (.int p2), .val (.int p3), .val (.int p4), .val (.int p5), .val (.int p6), .val .null, .val (.ref b343), .val (.int (0 : Int32)), .val (.ref b345), .val (.int (0 : Int32))] [])) _
    refine XS.aload X350.here hx rfl (hb hby at_143) rfl rfl ?_
    show Steps p.tables e below (T350.setTop (mkF m 145 #[.val (.int p1), .val (.int p2), .val (.int p3), .val (.int p4), .val (.int p5), .val (.int p6), .val .null, .val (.ref b343), .val (.int (0 : Int32)), .val (.ref b345), .val (.int (0 : Int32))] [(.ref b345)])) _
    refine st351.trans ?_
    show Steps p.tables e below (T351.setTop (mkF m 148 #[.val (.int p1), .val (.int p2), .val (.int p3), .val (.int p4), .val (.int p5), .val (.int p6), .val .null, .val (.ref b343), .val (.int (0 : Int32)), .val (.ref b345), .val (.int (0 : Int32))] [(.int (0 : Int32))])) _
    refine XS.iload X351.here hx rfl (hb hby at_148) rfl ?_
    show Steps p.tables e below (T351.setTop (mkF m 150 #[.val (.int p1), .val (.int p2), .val (.int p3), .val (.int p4), .val (.int p5), .val (.int p6), .val .null, .val (.ref b343), .val (.int (0 : Int32)), .val (.ref b345), .val (.int (0 : Int32))] [(.int (0 : Int32)), (.int (0 : Int32))])) _
    refine XS.icmpNo X351.here hx rfl (hb hby at_150) rfl (teq (rfl : (0 : Int32) = (0 : Int32))).2 ?_
    show Steps p.tables e below (T351.setTop (mkF m 153 #[.val (.int p1), .val (.int p2), .val (.int p3), .val (.int p4), .val (.int p5), .val (.int p6), .val .null, .val (.ref b343), .val (.int (0 : Int32)), .val (.ref b345), .val (.int (0 : Int32))] [])) _
    refine XS.iconst X351.here hx rfl (hb hby at_153) ?_
    show Steps p.tables e below (T351.setTop (mkF m 154 #[.val (.int p1), .val (.int p2), .val (.int p3), .val (.int p4), .val (.int p5), .val (.int p6), .val .null, .val (.ref b343), .val (.int (0 : Int32)), .val (.ref b345), .val (.int (0 : Int32))] [(.int (1 : Int32))])) _
    refine XS.goto X351.here hx rfl (pc0 := 154) (pc' := 158) rfl (hb hby at_154) (by decide) (by decide) ?_
    show Steps p.tables e below (T351.setTop (mkF m 158 #[.val (.int p1), .val (.int p2), .val (.int p3), .val (.int p4), .val (.int p5), .val (.int p6), .val .null, .val (.ref b343), .val (.int (0 : Int32)), .val (.ref b345), .val (.int (0 : Int32))] [(.int (1 : Int32))])) _
    exact retN X351 hx (t := .boolean) Bd.returns (by simp) (hb hby at_158) hr
  · show Qlaw Z h0 n0 _ T351.heap _
    rw [e351]
    exact ⟨rfl, N351⟩
  · show CHr Z [("java/lang/String", 7)] s.vm s.heap T351.vm T351.heap
    rw [hh, e351]
    exact HC346.trans (CHv.at X351 hZ343 hEL HC346.1)
theorem ef_rmLawNR1 (m : MethodId) (x0 : Int32) (x1 : Int32) (x2 : Int32) (x3 : Int32) (x4 : Int32) (x5 : Int32) : entryFrame m #[(.int x0), (.int x1), (.int x2), (.int x3), (.int x4), (.int x5)] maxLocals = mkF m 0 #[.val (.int x0), .val (.int x1), .val (.int x2), .val (.int x3), .val (.int x4), .val (.int x5), .unset, .unset, .unset, .unset, .unset] [] := by first | (simp [entryFrame, mkF, argsToLocals, Value.category, maxLocals]; done) | rfl
set_option maxRecDepth 65536 in
set_option maxHeartbeats 40000000 in
theorem rmLawNR1 (l : Launch) (Z : State) (a0 : Array Value) (hw : ∀ d ∈ tables_1, d.before a0 Z = true) (ws : List Jvm.Cond) (p1 p2 p3 p4 p5 p6 GC : Int32) (nn : Addr) (h0 : Heap) (n0 : Nat) (O0 : Old Z n0 h0) (hEL : EW Z a0 [("java/lang/String", 7)]) (wS : ∀ a ∈ Bundle.stringAtoms, a.before a0 Z = true) (OC2 : Sta Z Z.heap "java/lang/String" "COMPACT_STRINGS" "Z" (.int GC)) (OCz : ¬ (GC = (0 : Int32))) (SN : Sta Z Z.heap "com/example/nimble_container/nimblecontainer/creation/MethodNaming" "NONE" "Lcom/example/nimble_container/nimblecontainer/creation/MethodNaming;" (.ref nn)) (EN : Exa Z Z.heap nn "com/example/nimble_container/nimblecontainer/creation/MethodNaming") (N0f : Fld Z Z.heap nn "com/example/nimble_container/nimblecontainer/creation/MethodNaming" "named" "Ljava/lang/String;" .null) (N1f : Fld Z Z.heap nn "com/example/nimble_container/nimblecontainer/creation/MethodNaming" "byDefault" "Ljava/lang/String;" .null) (N2f : Fld Z Z.heap nn "com/example/nimble_container/nimblecontainer/creation/MethodNaming" "inferred" "Z" (.int (0 : Int32))) (qn : (p1 &&& (3 : Int32)) = (0 : Int32)) (qd : ¬ ((p2 &&& (3 : Int32)) = (0 : Int32))) (qf : ¬ ((p3 &&& (1 : Int32)) = (0 : Int32))) :
    MetFree l x (head1 (Jvm.Cond.code x code maxLocals ret :: ws) room_1) (fun aa_ U => aa_ = #[(.int p1), (.int p2), (.int p3), (.int p4), (.int p5), (.int p6)] ∧ Z.Warmed39 U.vm ∧ U.heap = h0 ∧ CHv Z [("java/lang/String", 7)] U.vm h0) (fun _ _ _ _ _ => True) (fun _ U o U' => ∃ v L, o = .returned v ∧ Qlaw Z h0 n0 v U'.heap L ∧ CHr Z [("java/lang/String", 7)] U.vm U.heap U'.vm U'.heap ∧ ReturnedEndW U o U' L room_1.cells room_1.slots) := by
  refine MetFree.of_bodySF (plainFor_of_name pn_com_example_nimble_container_nimblecontainer_creation_MethodNamingOfPinLaw) hisR ?_
  intro p e s m args below meth c s₁ Bd hml0 hP hK
  obtain ⟨rfl, hZ, hh, hC0⟩ := hP
  have hx := Bd.exec
  have hby := Bd.bytes
  have hml : c.maxLocals = 11 := hml0
  have hown : s.vm.findClass "com/example/nimble_container/nimblecontainer/creation/MethodNamingOfPinLaw" = some m.cls := findClass_of_methodNamed Bd.named
  have hnm := (name_of_methodNamed Bd.named Bd.method).1
  have X0 : Stand p l e room_1 (s.setVm s.vm) m #[(.int p1), (.int p2), (.int p3), (.int p4), (.int p5), (.int p6)] below meth c s₁ [] 0 0 := Stand.of_body Bd
  have e0 : s₁.heap = h0 := by rw [← hh, Bd.state]; rfl
  have N0 := Fr.nil n0
  have Z0 : n0 ≤ h0.size := O0.1 ▸ O0.2.1
  have K0 : Keep h0 h0 [] := Keep.refl _ _
  have hS0 : s.Since s.vm h0.size := (State.WarmedH.refl s).since _
  have hk0 : h0.size ≤ h0.size := Nat.le_refl _
  have HC0 : CHr Z [("java/lang/String", 7)] s.vm h0 s.vm h0 := CHr.refl hC0
  have pre0 : ∀ tgt_, Steps p.tables e below (s₁.setTop (mkF m 0 #[.val (.int p1), .val (.int p2), .val (.int p3), .val (.int p4), .val (.int p5), .val (.int p6), .unset, .unset, .unset, .unset, .unset] [])) tgt_ → Steps p.tables e below (s₁.setTop (entryFrame m #[(.int p1), (.int p2), (.int p3), (.int p4), (.int p5), (.int p6)] maxLocals)) tgt_ := fun tgt_ k => castTop (ef_rmLawNR1 m p1 p2 p3 p4 p5 p6) k
  obtain ⟨_, _, ⟨T352, L352, k352, n352⟩, -, X352, hS352, hg352, ⟨Lc352, hQ352, l352, y352, z352, HR352⟩, st352⟩ := Jvm.RoadKit.callSS X0 hx (y := (⟨"com/example/nimble_container/nimblecontainer/creation/MethodNamingOfPinLaw", "draw", "(III)Ljava/lang/String;"⟩ : MethodName)) hown (mvT hZ (hw _ (List.mem_of_getElem? (i := 0) rfl))) (mvT hZ (hw _ (List.mem_of_getElem? (i := 1) rfl))) (mvT hZ (hw _ (List.mem_of_getElem? (i := 2) rfl))) (mvT hZ (hw _ (List.mem_of_getElem? (i := 3) rfl))) (by decide) (backOfSH (s := s) (W := 0) (rmD0 l Z a0 hw [] p1 p4 p5 GC h0 n0 O0 hEL wS OC2 OCz qn) hZ (hw _ (List.mem_of_getElem? (i := 3) rfl)) (hw _ (List.mem_of_getElem? (i := 2) rfl)) (by decide) (by decide) hEL HC0.1) (g := (mkF m 4 #[.val (.int p1), .val (.int p2), .val (.int p3), .val (.int p4), .val (.int p5), .val (.int p6), .unset, .unset, .unset, .unset, .unset] [(.int p5), (.int p4), (.int p1)])) rfl (by rw [hml]; rfl) (argsL := [(.int p1), (.int p4), (.int p5)]) (rest := []) (lenOf pd__III_Ljava_lang_String_ rfl) rfl (by show 2 * 0 + _ ≤ _; exact Nat.le_of_eq rfl) (hb hby at_4) (fun _ _ => ⟨rfl, e0, (by decide : 0 + 4 ≤ _), (by decide : 0 + 8 ≤ _)⟩)
  dsimp only [Pt.U, Pt.locs, Pt.cells, Pt.slots] at X352 l352 y352 z352 st352 hQ352 hS352 hg352 HR352
  subst l352 y352 z352
  obtain ⟨rfl, N352q, K352k⟩ := hQ352
  have N352 := Fr.app N0 N352q
  obtain ⟨X352r, hS352r, hZ352, hown352⟩ := rebS hS0 (by rw [e0]; exact hk0) X352 hS352 hg352 hZ hown
  have O353 : Old Z n0 T352.heap := O0.keep K352k all0
  have Z353 : n0 ≤ T352.heap.size := Nat.le_trans Z0 K352k.1
  have K353 : Keep h0 T352.heap [] := K0.trans K352k all0
  have HC353 : CHr Z [("java/lang/String", 7)] s.vm h0 T352.vm T352.heap := HC0.trans HR352
  obtain ⟨_, _, ⟨T354, L354, k354, n354⟩, -, X354, hS354, hg354, ⟨Lc354, hQ354, l354, y354, z354, HR354⟩, st354⟩ := Jvm.RoadKit.callSS X352r hx (y := (⟨"com/example/nimble_container/nimblecontainer/creation/MethodNamingOfPinLaw", "draw", "(III)Ljava/lang/String;"⟩ : MethodName)) hown352 (mvT hZ352 (hw _ (List.mem_of_getElem? (i := 0) rfl))) (mvT hZ352 (hw _ (List.mem_of_getElem? (i := 1) rfl))) (mvT hZ352 (hw _ (List.mem_of_getElem? (i := 2) rfl))) (mvT hZ352 (hw _ (List.mem_of_getElem? (i := 3) rfl))) (by decide) (backOfSH (s := s) (W := 0) (rmD l Z a0 hw [] p2 p6 p5 GC T352.heap n0 O353 hEL wS OC2 OCz qd) hZ352 (hw _ (List.mem_of_getElem? (i := 3) rfl)) (hw _ (List.mem_of_getElem? (i := 2) rfl)) (by decide) (by decide) hEL HC353.1) (g := (mkF m 14 #[.val (.int p1), .val (.int p2), .val (.int p3), .val (.int p4), .val (.int p5), .val (.int p6), .val .null, .unset, .unset, .unset, .unset] [(.int p5), (.int p6), (.int p2)])) rfl (by rw [hml]; rfl) (argsL := [(.int p2), (.int p6), (.int p5)]) (rest := []) (lenOf pd__III_Ljava_lang_String_ rfl) rfl (by show 2 * 0 + _ ≤ _; exact Nat.le_of_eq rfl) (hb hby at_14) (fun _ _ => ⟨rfl, rfl, (by decide : 4 + 4 ≤ _), (by decide : 8 + 8 ≤ _)⟩)
  dsimp only [Pt.U, Pt.locs, Pt.cells, Pt.slots] at X354 l354 y354 z354 st354 hQ354 hS354 hg354 HR354
  subst l354 y354 z354
  obtain ⟨b354, rfl, N354q, K354k, hf354, g1354⟩ := hQ354
  have N354 := Fr.app N352 N354q
  obtain ⟨X354r, hS354r, hZ354, hown354⟩ := rebS hS352r (Nat.le_refl _) X354 hS354 hg354 hZ352 hown352
  have O355 : Old Z n0 T354.heap := O353.keep K354k all0
  have Z355 : n0 ≤ T354.heap.size := Nat.le_trans Z353 K354k.1
  have K355 : Keep h0 T354.heap [] := K353.trans K354k all0
  have HC355 : CHr Z [("java/lang/String", 7)] s.vm h0 T354.vm T354.heap := HC353.trans HR354
  have g_b354 : n0 ≤ b354 := Nat.le_trans Z353 hf354
  have sz_b354 : h0.size ≤ b354 := Nat.le_trans K353.1 hf354
  obtain ⟨_, _, ⟨T356, L356, k356, n356⟩, -, X356, ⟨Lc356, hQ356, l356, y356, z356⟩, st356⟩ := Jvm.LawKit.callS X354r hx (y := (⟨"com/example/nimble_container/nimblecontainer/creation/MethodNaming", "of", "(Ljava/lang/String;Ljava/lang/String;Z)Lcom/example/nimble_container/nimblecontainer/creation/MethodNaming;"⟩ : MethodName)) hown354 (mvT hZ354 (hw _ (List.mem_of_getElem? (i := 34) rfl))) (mvT hZ354 (hw _ (List.mem_of_getElem? (i := 35) rfl))) (mvT hZ354 (hw _ (List.mem_of_getElem? (i := 36) rfl))) (mvT hZ354 (hw _ (List.mem_of_getElem? (i := 37) rfl))) (by decide) (backOf (W := 0) (rmOfNR1 l Z a0 hw [] nn b354 T354.heap n0 O355) hZ354 (hw _ (List.mem_of_getElem? (i := 37) rfl)) (hw _ (List.mem_of_getElem? (i := 36) rfl)) (by decide) (by decide)) (g := (mkF m 38 #[.val (.int p1), .val (.int p2), .val (.int p3), .val (.int p4), .val (.int p5), .val (.int p6), .val .null, .val (.ref b354), .val (.int (1 : Int32)), .unset, .unset] [(.int (1 : Int32)), (.ref b354), .null])) rfl (by rw [hml]; rfl) (argsL := [.null, (.ref b354), (.int (1 : Int32))]) (rest := []) (lenOf pd__Ljava_lang_String_Ljava_lang_String_Z_Lcom_example_nimble_container_nimblecontainer_creation_MethodNaming_ rfl) rfl (by show 2 * 0 + _ ≤ _; exact Nat.le_of_eq rfl) (hb hby at_38) (fun _ _ => ⟨rfl, rfl, (by decide : 8 + 1 ≤ _), (by decide : 16 + 3 ≤ _)⟩)
  dsimp only [Pt.U, Pt.locs, Pt.cells, Pt.slots] at X356 l356 y356 z356 st356 hQ356
  subst l356 y356 z356
  obtain ⟨b356, rfl, N356q, K356k, hf356, g1356, g2356, g3356, g4356⟩ := hQ356
  have N356 := Fr.app N354 N356q
  have O357 : Old Z n0 T356.heap := O355.keep K356k all0
  have Z357 : n0 ≤ T356.heap.size := Nat.le_trans Z355 K356k.1
  have K357 : Keep h0 T356.heap [] := K355.trans K356k all0
  have HC357 : CHr Z [("java/lang/String", 7)] s.vm h0 T354.vm T356.heap := HC355.trans (CHr.keep K356k sf0 HC355.1)
  have hk357 : T354.heap.size ≤ T356.heap.size := Nat.le_trans (Nat.le_refl _) K356k.1
  have f358 : Exa Z T356.heap b354 "java/lang/String" := g1354.keep K356k
  have g_b356 : n0 ≤ b356 := Nat.le_trans Z355 hf356
  have sz_b356 : h0.size ≤ b356 := Nat.le_trans K355.1 hf356
  obtain ⟨T359, X359, e359, st359⟩ := getS2 X356 hx hZ354 hown354 (host := "") (Or.inl (hw _ (List.mem_of_getElem? (i := 50) rfl))) Via.refl rfl (SN.ext O357.2) (g := (mkF m 117 #[.val (.int p1), .val (.int p2), .val (.int p3), .val (.int p4), .val (.int p5), .val (.int p6), .val .null, .val (.ref b354), .val (.int (1 : Int32)), .val (.ref b356), .val (.int (0 : Int32))] [(.ref b356)])) rfl (hb hby at_117)
  obtain ⟨cq360, kq360, qa360, qb360, qc360⟩ := isOf hZ354 e359 g1356
  obtain ⟨_, _, ⟨T360, L360, k360, n360⟩, -, X360, ⟨Lc360, hQ360, l360, y360, z360⟩, st360⟩ := X359.virtualBack hx (y := (⟨"com/example/nimble_container/nimblecontainer/creation/MethodNaming", "named", "()Ljava/lang/String;"⟩ : MethodName)) (z := (⟨"com/example/nimble_container/nimblecontainer/creation/MethodNaming", "named", "()Ljava/lang/String;"⟩ : MethodName)) hown354 (mvT hZ354 (hw _ (List.mem_of_getElem? (i := 52) rfl))) (mvT hZ354 (hw _ (List.mem_of_getElem? (i := 53) rfl))) (notFace_of_selects (args := #[]) (mvT hZ354 (hw _ (List.mem_of_getElem? (i := 55) rfl)))) (mvT hZ354 (hw _ (List.mem_of_getElem? (i := 55) rfl))) (mvT hZ354 (hw _ (List.mem_of_getElem? (i := 54) rfl))) (by decide) (backOf (W := 0) (rmGNN l Z a0 hw [] b356 nn T356.heap n0 O357 g2356) hZ354 (hw _ (List.mem_of_getElem? (i := 56) rfl)) (hw _ (List.mem_of_getElem? (i := 36) rfl)) (by decide) (by decide)) qa360 qc360 (g := (mkF m 125 #[.val (.int p1), .val (.int p2), .val (.int p3), .val (.int p4), .val (.int p5), .val (.int p6), .val .null, .val (.ref b354), .val (.int (1 : Int32)), .val (.ref b356), .val (.int (0 : Int32))] [(.ref b356)])) rfl (by rw [hml]; rfl) (Steps.refl _) (argsL := []) (rest := []) (lenOf pd___Ljava_lang_String_ rfl) rfl (by show 2 * 0 + _ ≤ _; exact Nat.le_of_eq rfl) (hb hby at_125) (fun _ _ => ⟨rfl, e359, (by decide : 9 + 0 ≤ _), (by decide : 19 + 0 ≤ _)⟩)
  dsimp only [Pt.U, Pt.locs, Pt.cells, Pt.slots] at X360 l360 y360 z360 st360 hQ360
  subst l360 y360 z360
  obtain ⟨rfl, N360q, e360⟩ := hQ360
  have N360 := Fr.app N356 N360q
  obtain ⟨cq361, kq361, qa361, qb361, qc361⟩ := isOf hZ354 e360 g1356
  obtain ⟨_, _, ⟨T361, L361, k361, n361⟩, -, X361, ⟨Lc361, hQ361, l361, y361, z361⟩, st361⟩ := X360.virtualBack hx (y := (⟨"com/example/nimble_container/nimblecontainer/creation/MethodNaming", "byDefault", "()Ljava/lang/String;"⟩ : MethodName)) (z := (⟨"com/example/nimble_container/nimblecontainer/creation/MethodNaming", "byDefault", "()Ljava/lang/String;"⟩ : MethodName)) hown354 (mvT hZ354 (hw _ (List.mem_of_getElem? (i := 57) rfl))) (mvT hZ354 (hw _ (List.mem_of_getElem? (i := 58) rfl))) (notFace_of_selects (args := #[]) (mvT hZ354 (hw _ (List.mem_of_getElem? (i := 60) rfl)))) (mvT hZ354 (hw _ (List.mem_of_getElem? (i := 60) rfl))) (mvT hZ354 (hw _ (List.mem_of_getElem? (i := 59) rfl))) (by decide) (backOf (W := 0) (rmGBR l Z a0 hw [] b356 b354 T356.heap n0 O357 g3356) hZ354 (hw _ (List.mem_of_getElem? (i := 61) rfl)) (hw _ (List.mem_of_getElem? (i := 36) rfl)) (by decide) (by decide)) qa361 qc361 (g := (mkF m 135 #[.val (.int p1), .val (.int p2), .val (.int p3), .val (.int p4), .val (.int p5), .val (.int p6), .val .null, .val (.ref b354), .val (.int (1 : Int32)), .val (.ref b356), .val (.int (0 : Int32))] [(.ref b356)])) rfl (by rw [hml]; rfl) (Steps.refl _) (argsL := []) (rest := []) (lenOf pd___Ljava_lang_String_ rfl) rfl (by show 2 * 0 + _ ≤ _; exact Nat.le_of_eq rfl) (hb hby at_135) (fun _ _ => ⟨rfl, e360, (by decide : 9 + 0 ≤ _), (by decide : 19 + 0 ≤ _)⟩)
  dsimp only [Pt.U, Pt.locs, Pt.cells, Pt.slots] at X361 l361 y361 z361 st361 hQ361
  subst l361 y361 z361
  obtain ⟨rfl, N361q, e361⟩ := hQ361
  have N361 := Fr.app N360 N361q
  obtain ⟨cq362, kq362, qa362, qb362, qc362⟩ := isOf hZ354 e361 g1356
  obtain ⟨_, _, ⟨T362, L362, k362, n362⟩, -, X362, ⟨Lc362, hQ362, l362, y362, z362⟩, st362⟩ := X361.virtualBack hx (y := (⟨"com/example/nimble_container/nimblecontainer/creation/MethodNaming", "inferred", "()Z"⟩ : MethodName)) (z := (⟨"com/example/nimble_container/nimblecontainer/creation/MethodNaming", "inferred", "()Z"⟩ : MethodName)) hown354 (mvT hZ354 (hw _ (List.mem_of_getElem? (i := 62) rfl))) (mvT hZ354 (hw _ (List.mem_of_getElem? (i := 63) rfl))) (notFace_of_selects (args := #[]) (mvT hZ354 (hw _ (List.mem_of_getElem? (i := 65) rfl)))) (mvT hZ354 (hw _ (List.mem_of_getElem? (i := 65) rfl))) (mvT hZ354 (hw _ (List.mem_of_getElem? (i := 64) rfl))) (by decide) (backOf (W := 0) (rmGI1 l Z a0 hw [] b356 T356.heap n0 O357 g4356) hZ354 (hw _ (List.mem_of_getElem? (i := 66) rfl)) (hw _ (List.mem_of_getElem? (i := 36) rfl)) (by decide) (by decide)) qa362 qc362 (g := (mkF m 145 #[.val (.int p1), .val (.int p2), .val (.int p3), .val (.int p4), .val (.int p5), .val (.int p6), .val .null, .val (.ref b354), .val (.int (1 : Int32)), .val (.ref b356), .val (.int (0 : Int32))] [(.ref b356)])) rfl (by rw [hml]; rfl) (Steps.refl _) (argsL := []) (rest := []) (lenOf pd___Z rfl) rfl (by show 2 * 0 + _ ≤ _; exact Nat.le_of_eq rfl) (hb hby at_145) (fun _ _ => ⟨rfl, e361, (by decide : 9 + 0 ≤ _), (by decide : 19 + 0 ≤ _)⟩)
  dsimp only [Pt.U, Pt.locs, Pt.cells, Pt.slots] at X362 l362 y362 z362 st362 hQ362
  subst l362 y362 z362
  obtain ⟨rfl, N362q, e362⟩ := hQ362
  have N362 := Fr.app N361 N362q
  obtain ⟨fs, hr, hrun, hended, hEnd⟩ := X362.leaveW (s := s) hS354r (by rw [e362]; exact hk357) (v := some (.int (1 : Int32))) (fun h => by rw [Bd.returns] at h; cases h)
  refine ⟨_, _, pre0 _ ?_, hrun, hended, _, _, rfl, ?_, ?_, hEnd.1, hEnd.2.1, hEnd.2.2.1, hEnd.2.2.2.mono (by decide) (by decide)⟩
  · show Steps p.tables e below (s₁.setTop (mkF m 0 #[.val (.int p1), .val (.int p2), .val (.int p3), .val (.int p4), .val (.int p5), .val (.int p6), .unset, .unset, .unset, .unset, .unset] [])) _
    refine XS.iloadN X0.here hx rfl (hb hby at_0) rfl ?_
    show Steps p.tables e below (s₁.setTop (mkF m 1 #[.val (.int p1), .val (.int p2), .val (.int p3), .val (.int p4), .val (.int p5), .val (.int p6), .unset, .unset, .unset, .unset, .unset] [(.int p1)])) _
    refine XS.iloadN X0.here hx rfl (hb hby at_1) rfl ?_
    show Steps p.tables e below (s₁.setTop (mkF m 2 #[.val (.int p1), .val (.int p2), .val (.int p3), .val (.int p4), .val (.int p5), .val (.int p6), .unset, .unset, .unset, .unset, .unset] [(.int p4), (.int p1)])) _
    refine XS.iload X0.here hx rfl (hb hby at_2) rfl ?_
    show Steps p.tables e below (s₁.setTop (mkF m 4 #[.val (.int p1), .val (.int p2), .val (.int p3), .val (.int p4), .val (.int p5), .val (.int p6), .unset, .unset, .unset, .unset, .unset] [(.int p5), (.int p4), (.int p1)])) _
    refine st352.trans ?_
    show Steps p.tables e below (T352.setTop (mkF m 7 #[.val (.int p1), .val (.int p2), .val (.int p3), .val (.int p4), .val (.int p5), .val (.int p6), .unset, .unset, .unset, .unset, .unset] [.null])) _
    refine XS.astore X352r.here hx rfl (hb hby at_7) rfl rfl (l' := #[.val (.int p1), .val (.int p2), .val (.int p3), .val (.int p4), .val (.int p5), .val (.int p6), .val .null, .unset, .unset, .unset, .unset]) rfl ?_
    show Steps p.tables e below (T352.setTop (mkF m 9 #[.val (.int p1), .val (.int p2), .val (.int p3), .val (.int p4), .val (.int p5), .val (.int p6), .val .null, .unset, .unset, .unset, .unset] [])) _
    refine XS.iloadN X352r.here hx rfl (hb hby at_9) rfl ?_
    show Steps p.tables e below (T352.setTop (mkF m 10 #[.val (.int p1), .val (.int p2), .val (.int p3), .val (.int p4), .val (.int p5), .val (.int p6), .val .null, .unset, .unset, .unset, .unset] [(.int p2)])) _
    refine XS.iload X352r.here hx rfl (hb hby at_10) rfl ?_
    show Steps p.tables e below (T352.setTop (mkF m 12 #[.val (.int p1), .val (.int p2), .val (.int p3), .val (.int p4), .val (.int p5), .val (.int p6), .val .null, .unset, .unset, .unset, .unset] [(.int p6), (.int p2)])) _
    refine XS.iload X352r.here hx rfl (hb hby at_12) rfl ?_
    show Steps p.tables e below (T352.setTop (mkF m 14 #[.val (.int p1), .val (.int p2), .val (.int p3), .val (.int p4), .val (.int p5), .val (.int p6), .val .null, .unset, .unset, .unset, .unset] [(.int p5), (.int p6), (.int p2)])) _
    refine st354.trans ?_
    show Steps p.tables e below (T354.setTop (mkF m 17 #[.val (.int p1), .val (.int p2), .val (.int p3), .val (.int p4), .val (.int p5), .val (.int p6), .val .null, .unset, .unset, .unset, .unset] [(.ref b354)])) _
    refine XS.astore X354r.here hx rfl (hb hby at_17) rfl rfl (l' := #[.val (.int p1), .val (.int p2), .val (.int p3), .val (.int p4), .val (.int p5), .val (.int p6), .val .null, .val (.ref b354), .unset, .unset, .unset]) rfl ?_
    show Steps p.tables e below (T354.setTop (mkF m 19 #[.val (.int p1), .val (.int p2), .val (.int p3), .val (.int p4), .val (.int p5), .val (.int p6), .val .null, .val (.ref b354), .unset, .unset, .unset] [])) _
    refine XS.iloadN X354r.here hx rfl (hb hby at_19) rfl ?_
    show Steps p.tables e below (T354.setTop (mkF m 20 #[.val (.int p1), .val (.int p2), .val (.int p3), .val (.int p4), .val (.int p5), .val (.int p6), .val .null, .val (.ref b354), .unset, .unset, .unset] [(.int p3)])) _
    refine XS.iconst X354r.here hx rfl (hb hby at_20) ?_
    show Steps p.tables e below (T354.setTop (mkF m 21 #[.val (.int p1), .val (.int p2), .val (.int p3), .val (.int p4), .val (.int p5), .val (.int p6), .val .null, .val (.ref b354), .unset, .unset, .unset] [(.int (1 : Int32)), (.int p3)])) _
    refine XS.iand X354r.here hx rfl (hb hby at_21) rfl ?_
    show Steps p.tables e below (T354.setTop (mkF m 22 #[.val (.int p1), .val (.int p2), .val (.int p3), .val (.int p4), .val (.int p5), .val (.int p6), .val .null, .val (.ref b354), .unset, .unset, .unset] [(.int (p3 &&& (1 : Int32)))])) _
    refine XS.ifNo X354r.here hx rfl (hb hby at_22) rfl ((if0 _ _).trans (feq (qf : ¬ ((p3 &&& (1 : Int32)) = (0 : Int32)))).1) ?_
    show Steps p.tables e below (T354.setTop (mkF m 25 #[.val (.int p1), .val (.int p2), .val (.int p3), .val (.int p4), .val (.int p5), .val (.int p6), .val .null, .val (.ref b354), .unset, .unset, .unset] [])) _
    refine XS.iconst X354r.here hx rfl (hb hby at_25) ?_
    show Steps p.tables e below (T354.setTop (mkF m 26 #[.val (.int p1), .val (.int p2), .val (.int p3), .val (.int p4), .val (.int p5), .val (.int p6), .val .null, .val (.ref b354), .unset, .unset, .unset] [(.int (1 : Int32))])) _
    refine XS.goto X354r.here hx rfl (pc0 := 26) (pc' := 30) rfl (hb hby at_26) (by decide) (by decide) ?_
    show Steps p.tables e below (T354.setTop (mkF m 30 #[.val (.int p1), .val (.int p2), .val (.int p3), .val (.int p4), .val (.int p5), .val (.int p6), .val .null, .val (.ref b354), .unset, .unset, .unset] [(.int (1 : Int32))])) _
    refine XS.istore X354r.here hx rfl (hb hby at_30) rfl (l' := #[.val (.int p1), .val (.int p2), .val (.int p3), .val (.int p4), .val (.int p5), .val (.int p6), .val .null, .val (.ref b354), .val (.int (1 : Int32)), .unset, .unset]) rfl ?_
    show Steps p.tables e below (T354.setTop (mkF m 32 #[.val (.int p1), .val (.int p2), .val (.int p3), .val (.int p4), .val (.int p5), .val (.int p6), .val .null, .val (.ref b354), .val (.int (1 : Int32)), .unset, .unset] [])) _
    refine XS.aload X354r.here hx rfl (hb hby at_32) rfl rfl ?_
    show Steps p.tables e below (T354.setTop (mkF m 34 #[.val (.int p1), .val (.int p2), .val (.int p3), .val (.int p4), .val (.int p5), .val (.int p6), .val .null, .val (.ref b354), .val (.int (1 : Int32)), .unset, .unset] [.null])) _
    refine XS.aload X354r.here hx rfl (hb hby at_34) rfl rfl ?_
    show Steps p.tables e below (T354.setTop (mkF m 36 #[.val (.int p1), .val (.int p2), .val (.int p3), .val (.int p4), .val (.int p5), .val (.int p6), .val .null, .val (.ref b354), .val (.int (1 : Int32)), .unset, .unset] [(.ref b354), .null])) _
    refine XS.iload X354r.here hx rfl (hb hby at_36) rfl ?_
    show Steps p.tables e below (T354.setTop (mkF m 38 #[.val (.int p1), .val (.int p2), .val (.int p3), .val (.int p4), .val (.int p5), .val (.int p6), .val .null, .val (.ref b354), .val (.int (1 : Int32)), .unset, .unset] [(.int (1 : Int32)), (.ref b354), .null])) _
    refine st356 _ ?_
    show Steps p.tables e below (T356.setTop (mkF m 41 #[.val (.int p1), .val (.int p2), .val (.int p3), .val (.int p4), .val (.int p5), .val (.int p6), .val .null, .val (.ref b354), .val (.int (1 : Int32)), .unset, .unset] [(.ref b356)])) _
    refine XS.astore X356.here hx rfl (hb hby at_41) rfl rfl (l' := #[.val (.int p1), .val (.int p2), .val (.int p3), .val (.int p4), .val (.int p5), .val (.int p6), .val .null, .val (.ref b354), .val (.int (1 : Int32)), .val (.ref b356), .unset]) rfl ?_
    show Steps p.tables e below (T356.setTop (mkF m 43 #[.val (.int p1), .val (.int p2), .val (.int p3), .val (.int p4), .val (.int p5), .val (.int p6), .val .null, .val (.ref b354), .val (.int (1 : Int32)), .val (.ref b356), .unset] [])) _
    refine XS.aload X356.here hx rfl (hb hby at_43) rfl rfl ?_
    show Steps p.tables e below (T356.setTop (mkF m 45 #[.val (.int p1), .val (.int p2), .val (.int p3), .val (.int p4), .val (.int p5), .val (.int p6), .val .null, .val (.ref b354), .val (.int (1 : Int32)), .val (.ref b356), .unset] [(.ref b356)])) _
    refine XS.ifnonnullYes X356.here hx rfl (pc0 := 45) (pc' := 50) rfl (hb hby at_45) rfl (by decide) (by decide) ?_
    show Steps p.tables e below (T356.setTop (mkF m 50 #[.val (.int p1), .val (.int p2), .val (.int p3), .val (.int p4), .val (.int p5), .val (.int p6), .val .null, .val (.ref b354), .val (.int (1 : Int32)), .val (.ref b356), .unset] [])) _
    refine XS.aload X356.here hx rfl (hb hby at_50) rfl rfl ?_
    show Steps p.tables e below (T356.setTop (mkF m 52 #[.val (.int p1), .val (.int p2), .val (.int p3), .val (.int p4), .val (.int p5), .val (.int p6), .val .null, .val (.ref b354), .val (.int (1 : Int32)), .val (.ref b356), .unset] [.null])) _
    refine XS.ifnonnullNo X356.here hx rfl (hb hby at_52) rfl ?_
    show Steps p.tables e below (T356.setTop (mkF m 55 #[.val (.int p1), .val (.int p2), .val (.int p3), .val (.int p4), .val (.int p5), .val (.int p6), .val .null, .val (.ref b354), .val (.int (1 : Int32)), .val (.ref b356), .unset] [])) _
    refine XS.aload X356.here hx rfl (hb hby at_55) rfl rfl ?_
    show Steps p.tables e below (T356.setTop (mkF m 57 #[.val (.int p1), .val (.int p2), .val (.int p3), .val (.int p4), .val (.int p5), .val (.int p6), .val .null, .val (.ref b354), .val (.int (1 : Int32)), .val (.ref b356), .unset] [(.ref b354)])) _
    refine XS.ifnonnullYes X356.here hx rfl (pc0 := 57) (pc' := 69) rfl (hb hby at_57) rfl (by decide) (by decide) ?_
    show Steps p.tables e below (T356.setTop (mkF m 69 #[.val (.int p1), .val (.int p2), .val (.int p3), .val (.int p4), .val (.int p5), .val (.int p6), .val .null, .val (.ref b354), .val (.int (1 : Int32)), .val (.ref b356), .unset] [])) _
    refine XS.iconst X356.here hx rfl (hb hby at_69) ?_
    show Steps p.tables e below (T356.setTop (mkF m 70 #[.val (.int p1), .val (.int p2), .val (.int p3), .val (.int p4), .val (.int p5), .val (.int p6), .val .null, .val (.ref b354), .val (.int (1 : Int32)), .val (.ref b356), .unset] [(.int (0 : Int32))])) _
    refine XS.istore X356.here hx rfl (hb hby at_70) rfl (l' := #[.val (.int p1), .val (.int p2), .val (.int p3), .val (.int p4), .val (.int p5), .val (.int p6), .val .null, .val (.ref b354), .val (.int (1 : Int32)), .val (.ref b356), .val (.int (0 : Int32))]) rfl ?_
    show Steps p.tables e below (T356.setTop (mkF m 72 #[.val (.int p1), .val (.int p2), .val (.int p3), .val (.int p4), .val (.int p5), .val (.int p6), .val .null, .val (.ref b354), .val (.int (1 : Int32)), .val (.ref b356), .val (.int (0 : Int32))] [])) _
    refine XS.iload X356.here hx rfl (hb hby at_72) rfl ?_
    show Steps p.tables e below (T356.setTop (mkF m 74 #[.val (.int p1), .val (.int p2), .val (.int p3), .val (.int p4), .val (.int p5), .val (.int p6), .val .null, .val (.ref b354), .val (.int (1 : Int32)), .val (.ref b356), .val (.int (0 : Int32))] [(.int (0 : Int32))])) _
    refine XS.ifYes X356.here hx rfl (pc0 := 74) (pc' := 115) rfl (hb hby at_74) rfl ((if0 _ _).trans (teq (rfl : (0 : Int32) = (0 : Int32))).1) (by decide) (by decide) ?_
    show Steps p.tables e below (T356.setTop (mkF m 115 #[.val (.int p1), .val (.int p2), .val (.int p3), .val (.int p4), .val (.int p5), .val (.int p6), .val .null, .val (.ref b354), .val (.int (1 : Int32)), .val (.ref b356), .val (.int (0 : Int32))] [])) _
    refine XS.aload X356.here hx rfl (hb hby at_115) rfl rfl ?_
    show Steps p.tables e below (T356.setTop (mkF m 117 #[.val (.int p1), .val (.int p2), .val (.int p3), .val (.int p4), .val (.int p5), .val (.int p6), .val .null, .val (.ref b354), .val (.int (1 : Int32)), .val (.ref b356), .val (.int (0 : Int32))] [(.ref b356)])) _
    refine st359 _ ?_
    show Steps p.tables e below (T359.setTop (mkF m 120 #[.val (.int p1), .val (.int p2), .val (.int p3), .val (.int p4), .val (.int p5), .val (.int p6), .val .null, .val (.ref b354), .val (.int (1 : Int32)), .val (.ref b356), .val (.int (0 : Int32))] [(.ref nn), (.ref b356)])) _
    refine Jvm.RoadKit.acmp (g := (mkF m 120 #[.val (.int p1), .val (.int p2), .val (.int p3), .val (.int p4), .val (.int p5), .val (.int p6), .val .null, .val (.ref b354), .val (.int (1 : Int32)), .val (.ref b356), .val (.int (0 : Int32))] [(.ref nn), (.ref b356)])) X359 hx rfl rfl rfl (pc0 := 120) (pc' := 123) (same := false) rfl (hb hby at_120) rfl (decide_eq_false fun q => (Ne.symm (Old.ne O0 EN.lt g_b356)) (Value.ref.inj q)) (by decide) (by decide) ?_
    show Steps p.tables e below (T359.setTop (mkF m 123 #[.val (.int p1), .val (.int p2), .val (.int p3), .val (.int p4), .val (.int p5), .val (.int p6), .val .null, .val (.ref b354), .val (.int (1 : Int32)), .val (.ref b356), .val (.int (0 : Int32))] [])) _
    refine XS.aload X359.here hx rfl (hb hby at_123) rfl rfl ?_
    show Steps p.tables e below (T359.setTop (mkF m 125 #[.val (.int p1), .val (.int p2), .val (.int p3), .val (.int p4), .val (.int p5), .val (.int p6), .val .null, .val (.ref b354), .val (.int (1 : Int32)), .val (.ref b356), .val (.int (0 : Int32))] [(.ref b356)])) _
    refine st360.trans ?_
    show Steps p.tables e below (T360.setTop (mkF m 128 #[.val (.int p1), .val (.int p2), .val (.int p3), .val (.int p4), .val (.int p5), .val (.int p6), .val .null, .val (.ref b354), .val (.int (1 : Int32)), .val (.ref b356), .val (.int (0 : Int32))] [.null])) _
    refine XS.aload X360.here hx rfl (hb hby at_128) rfl rfl ?_
    show Steps p.tables e below (T360.setTop (mkF m 130 #[.val (.int p1), .val (.int p2), .val (.int p3), .val (.int p4), .val (.int p5), .val (.int p6), .val .null, .val (.ref b354), .val (.int (1 : Int32)), .val (.ref b356), .val (.int (0 : Int32))] [.null, .null])) _
    refine Jvm.RoadKit.acmp (g := (mkF m 130 #[.val (.int p1), .val (.int p2), .val (.int p3), .val (.int p4), .val (.int p5), .val (.int p6), .val .null, .val (.ref b354), .val (.int (1 : Int32)), .val (.ref b356), .val (.int (0 : Int32))] [.null, .null])) X360 hx rfl rfl rfl (pc0 := 130) (pc' := 133) (same := true) rfl (hb hby at_130) rfl (decide_eq_true rfl) (by decide) (by decide) ?_
    show Steps p.tables e below (T360.setTop (mkF m 133 #[.val (.int p1), .val (.int p2), .val (.int p3), .val (.int p4), .val (.int p5), .val (.int p6), .val .null, .val (.ref b354), .val (.int (1 : Int32)), .val (.ref b356), .val (.int (0 : Int32))] [])) _
    refine XS.aload X360.here hx rfl (hb hby at_133) rfl rfl ?_
    show Steps p.tables e below (T360.setTop (mkF m 135 #[.val (.int p1), .val (.int p2), .val (.int p3), .val (.int p4), .val (.int p5), .val (.int p6), .val .null, .val (.ref b354), .val (.int (1 : Int32)), .val (.ref b356), .val (.int (0 : Int32))] [(.ref b356)])) _
    refine st361.trans ?_
    show Steps p.tables e below (T361.setTop (mkF m 138 #[.val (.int p1), .val (.int p2), .val (.int p3), .val (.int p4), .val (.int p5), .val (.int p6), .val .null, .val (.ref b354), .val (.int (1 : Int32)), .val (.ref b356), .val (.int (0 : Int32))] [(.ref b354)])) _
    refine XS.aload X361.here hx rfl (hb hby at_138) rfl rfl ?_
    show Steps p.tables e below (T361.setTop (mkF m 140 #[.val (.int p1), .val (.int p2), .val (.int p3), .val (.int p4), .val (.int p5), .val (.int p6), .val .null, .val (.ref b354), .val (.int (1 : Int32)), .val (.ref b356), .val (.int (0 : Int32))] [(.ref b354), (.ref b354)])) _
    refine Jvm.RoadKit.acmp (g := (mkF m 140 #[.val (.int p1), .val (.int p2), .val (.int p3), .val (.int p4), .val (.int p5), .val (.int p6), .val .null, .val (.ref b354), .val (.int (1 : Int32)), .val (.ref b356), .val (.int (0 : Int32))] [(.ref b354), (.ref b354)])) X361 hx rfl rfl rfl (pc0 := 140) (pc' := 143) (same := true) rfl (hb hby at_140) rfl (decide_eq_true rfl) (by decide) (by decide) ?_
    show Steps p.tables e below (T361.setTop (mkF m 143 #[.val (.int p1), .val (.int p2), .val (.int p3), .val (.int p4), .val (.int p5), .val (.int p6), .val .null, .val (.ref b354), .val (.int (1 : Int32)), .val (.ref b356), .val (.int (0 : Int32))] [])) _
    refine XS.aload X361.here hx rfl (hb hby at_143) rfl rfl ?_
    show Steps p.tables e below (T361.setTop (mkF m 145 #[.val (.int p1), .val (.int p2), .val (.int p3), .val (.int p4), .val (.int p5), .val (.int p6), .val .null, .val (.ref b354), .val (.int (1 : Int32)), .val (.ref b356), .val (.int (0 : Int32))] [(.ref b356)])) _
    refine st362.trans ?_
    show Steps p.tables e below (T362.setTop (mkF m 148 #[.val (.int p1), .val (.int p2), .val (.int p3), .val (.int p4), .val (.int p5), .val (.int p6), .val .null, .val (.ref b354), .val (.int (1 : Int32)), .val (.ref b356), .val (.int (0 : Int32))] [(.int (1 : Int32))])) _
    refine XS.iload X362.here hx rfl (hb hby at_148) rfl ?_
    show Steps p.tables e below (T362.setTop (mkF m 150 #[.val (.int p1), .val (.int p2), .val (.int p3), .val (.int p4), .val (.int p5), .val (.int p6), .val .null, .val (.ref b354), .val (.int (1 : Int32)), .val (.ref b356), .val (.int (0 : Int32))] [(.int (1 : Int32)), (.int (1 : Int32))])) _
    refine XS.icmpNo X362.here hx rfl (hb hby at_150) rfl (teq (rfl : (1 : Int32) = (1 : Int32))).2 ?_
    show Steps p.tables e below (T362.setTop (mkF m 153 #[.val (.int p1), .val (.int p2), .val (.int p3), .val (.int p4), .val (.int p5), .val (.int p6), .val .null, .val (.ref b354), .val (.int (1 : Int32)), .val (.ref b356), .val (.int (0 : Int32))] [])) _
    refine XS.iconst X362.here hx rfl (hb hby at_153) ?_
    show Steps p.tables e below (T362.setTop (mkF m 154 #[.val (.int p1), .val (.int p2), .val (.int p3), .val (.int p4), .val (.int p5), .val (.int p6), .val .null, .val (.ref b354), .val (.int (1 : Int32)), .val (.ref b356), .val (.int (0 : Int32))] [(.int (1 : Int32))])) _
    refine XS.goto X362.here hx rfl (pc0 := 154) (pc' := 158) rfl (hb hby at_154) (by decide) (by decide) ?_
    show Steps p.tables e below (T362.setTop (mkF m 158 #[.val (.int p1), .val (.int p2), .val (.int p3), .val (.int p4), .val (.int p5), .val (.int p6), .val .null, .val (.ref b354), .val (.int (1 : Int32)), .val (.ref b356), .val (.int (0 : Int32))] [(.int (1 : Int32))])) _
    exact retN X362 hx (t := .boolean) Bd.returns (by simp) (hb hby at_158) hr
  · show Qlaw Z h0 n0 _ T362.heap _
    rw [e362]
    exact ⟨rfl, N362⟩
  · show CHr Z [("java/lang/String", 7)] s.vm s.heap T362.vm T362.heap
    rw [hh, e362]
    exact HC357.trans (CHv.at X362 hZ354 hEL HC357.1)
theorem ef_rmLawRN0 (m : MethodId) (x0 : Int32) (x1 : Int32) (x2 : Int32) (x3 : Int32) (x4 : Int32) (x5 : Int32) : entryFrame m #[(.int x0), (.int x1), (.int x2), (.int x3), (.int x4), (.int x5)] maxLocals = mkF m 0 #[.val (.int x0), .val (.int x1), .val (.int x2), .val (.int x3), .val (.int x4), .val (.int x5), .unset, .unset, .unset, .unset, .unset] [] := by first | (simp [entryFrame, mkF, argsToLocals, Value.category, maxLocals]; done) | rfl
set_option maxRecDepth 65536 in
set_option maxHeartbeats 40000000 in
theorem rmLawRN0 (l : Launch) (Z : State) (a0 : Array Value) (hw : ∀ d ∈ tables_1, d.before a0 Z = true) (ws : List Jvm.Cond) (p1 p2 p3 p4 p5 p6 GC : Int32) (nn : Addr) (h0 : Heap) (n0 : Nat) (O0 : Old Z n0 h0) (hEL : EW Z a0 [("java/lang/String", 7)]) (wS : ∀ a ∈ Bundle.stringAtoms, a.before a0 Z = true) (OC2 : Sta Z Z.heap "java/lang/String" "COMPACT_STRINGS" "Z" (.int GC)) (OCz : ¬ (GC = (0 : Int32))) (SN : Sta Z Z.heap "com/example/nimble_container/nimblecontainer/creation/MethodNaming" "NONE" "Lcom/example/nimble_container/nimblecontainer/creation/MethodNaming;" (.ref nn)) (EN : Exa Z Z.heap nn "com/example/nimble_container/nimblecontainer/creation/MethodNaming") (N0f : Fld Z Z.heap nn "com/example/nimble_container/nimblecontainer/creation/MethodNaming" "named" "Ljava/lang/String;" .null) (N1f : Fld Z Z.heap nn "com/example/nimble_container/nimblecontainer/creation/MethodNaming" "byDefault" "Ljava/lang/String;" .null) (N2f : Fld Z Z.heap nn "com/example/nimble_container/nimblecontainer/creation/MethodNaming" "inferred" "Z" (.int (0 : Int32))) (qn : ¬ ((p1 &&& (3 : Int32)) = (0 : Int32))) (qd : (p2 &&& (3 : Int32)) = (0 : Int32)) (qf : (p3 &&& (1 : Int32)) = (0 : Int32)) :
    MetFree l x (head1 (Jvm.Cond.code x code maxLocals ret :: ws) room_1) (fun aa_ U => aa_ = #[(.int p1), (.int p2), (.int p3), (.int p4), (.int p5), (.int p6)] ∧ Z.Warmed39 U.vm ∧ U.heap = h0 ∧ CHv Z [("java/lang/String", 7)] U.vm h0) (fun _ _ _ _ _ => True) (fun _ U o U' => ∃ v L, o = .returned v ∧ Qlaw Z h0 n0 v U'.heap L ∧ CHr Z [("java/lang/String", 7)] U.vm U.heap U'.vm U'.heap ∧ ReturnedEndW U o U' L room_1.cells room_1.slots) := by
  refine MetFree.of_bodySF (plainFor_of_name pn_com_example_nimble_container_nimblecontainer_creation_MethodNamingOfPinLaw) hisR ?_
  intro p e s m args below meth c s₁ Bd hml0 hP hK
  obtain ⟨rfl, hZ, hh, hC0⟩ := hP
  have hx := Bd.exec
  have hby := Bd.bytes
  have hml : c.maxLocals = 11 := hml0
  have hown : s.vm.findClass "com/example/nimble_container/nimblecontainer/creation/MethodNamingOfPinLaw" = some m.cls := findClass_of_methodNamed Bd.named
  have hnm := (name_of_methodNamed Bd.named Bd.method).1
  have X0 : Stand p l e room_1 (s.setVm s.vm) m #[(.int p1), (.int p2), (.int p3), (.int p4), (.int p5), (.int p6)] below meth c s₁ [] 0 0 := Stand.of_body Bd
  have e0 : s₁.heap = h0 := by rw [← hh, Bd.state]; rfl
  have N0 := Fr.nil n0
  have Z0 : n0 ≤ h0.size := O0.1 ▸ O0.2.1
  have K0 : Keep h0 h0 [] := Keep.refl _ _
  have hS0 : s.Since s.vm h0.size := (State.WarmedH.refl s).since _
  have hk0 : h0.size ≤ h0.size := Nat.le_refl _
  have HC0 : CHr Z [("java/lang/String", 7)] s.vm h0 s.vm h0 := CHr.refl hC0
  have pre0 : ∀ tgt_, Steps p.tables e below (s₁.setTop (mkF m 0 #[.val (.int p1), .val (.int p2), .val (.int p3), .val (.int p4), .val (.int p5), .val (.int p6), .unset, .unset, .unset, .unset, .unset] [])) tgt_ → Steps p.tables e below (s₁.setTop (entryFrame m #[(.int p1), (.int p2), (.int p3), (.int p4), (.int p5), (.int p6)] maxLocals)) tgt_ := fun tgt_ k => castTop (ef_rmLawRN0 m p1 p2 p3 p4 p5 p6) k
  obtain ⟨_, _, ⟨T363, L363, k363, n363⟩, -, X363, hS363, hg363, ⟨Lc363, hQ363, l363, y363, z363, HR363⟩, st363⟩ := Jvm.RoadKit.callSS X0 hx (y := (⟨"com/example/nimble_container/nimblecontainer/creation/MethodNamingOfPinLaw", "draw", "(III)Ljava/lang/String;"⟩ : MethodName)) hown (mvT hZ (hw _ (List.mem_of_getElem? (i := 0) rfl))) (mvT hZ (hw _ (List.mem_of_getElem? (i := 1) rfl))) (mvT hZ (hw _ (List.mem_of_getElem? (i := 2) rfl))) (mvT hZ (hw _ (List.mem_of_getElem? (i := 3) rfl))) (by decide) (backOfSH (s := s) (W := 0) (rmD l Z a0 hw [] p1 p4 p5 GC h0 n0 O0 hEL wS OC2 OCz qn) hZ (hw _ (List.mem_of_getElem? (i := 3) rfl)) (hw _ (List.mem_of_getElem? (i := 2) rfl)) (by decide) (by decide) hEL HC0.1) (g := (mkF m 4 #[.val (.int p1), .val (.int p2), .val (.int p3), .val (.int p4), .val (.int p5), .val (.int p6), .unset, .unset, .unset, .unset, .unset] [(.int p5), (.int p4), (.int p1)])) rfl (by rw [hml]; rfl) (argsL := [(.int p1), (.int p4), (.int p5)]) (rest := []) (lenOf pd__III_Ljava_lang_String_ rfl) rfl (by show 2 * 0 + _ ≤ _; exact Nat.le_of_eq rfl) (hb hby at_4) (fun _ _ => ⟨rfl, e0, (by decide : 0 + 4 ≤ _), (by decide : 0 + 8 ≤ _)⟩)
  dsimp only [Pt.U, Pt.locs, Pt.cells, Pt.slots] at X363 l363 y363 z363 st363 hQ363 hS363 hg363 HR363
  subst l363 y363 z363
  obtain ⟨b363, rfl, N363q, K363k, hf363, g1363⟩ := hQ363
  have N363 := Fr.app N0 N363q
  obtain ⟨X363r, hS363r, hZ363, hown363⟩ := rebS hS0 (by rw [e0]; exact hk0) X363 hS363 hg363 hZ hown
  have O364 : Old Z n0 T363.heap := O0.keep K363k all0
  have Z364 : n0 ≤ T363.heap.size := Nat.le_trans Z0 K363k.1
  have K364 : Keep h0 T363.heap [] := K0.trans K363k all0
  have HC364 : CHr Z [("java/lang/String", 7)] s.vm h0 T363.vm T363.heap := HC0.trans HR363
  have g_b363 : n0 ≤ b363 := Nat.le_trans Z0 hf363
  have sz_b363 : h0.size ≤ b363 := Nat.le_trans K0.1 hf363
  obtain ⟨_, _, ⟨T365, L365, k365, n365⟩, -, X365, hS365, hg365, ⟨Lc365, hQ365, l365, y365, z365, HR365⟩, st365⟩ := Jvm.RoadKit.callSS X363r hx (y := (⟨"com/example/nimble_container/nimblecontainer/creation/MethodNamingOfPinLaw", "draw", "(III)Ljava/lang/String;"⟩ : MethodName)) hown363 (mvT hZ363 (hw _ (List.mem_of_getElem? (i := 0) rfl))) (mvT hZ363 (hw _ (List.mem_of_getElem? (i := 1) rfl))) (mvT hZ363 (hw _ (List.mem_of_getElem? (i := 2) rfl))) (mvT hZ363 (hw _ (List.mem_of_getElem? (i := 3) rfl))) (by decide) (backOfSH (s := s) (W := 0) (rmD0 l Z a0 hw [] p2 p6 p5 GC T363.heap n0 O364 hEL wS OC2 OCz qd) hZ363 (hw _ (List.mem_of_getElem? (i := 3) rfl)) (hw _ (List.mem_of_getElem? (i := 2) rfl)) (by decide) (by decide) hEL HC364.1) (g := (mkF m 14 #[.val (.int p1), .val (.int p2), .val (.int p3), .val (.int p4), .val (.int p5), .val (.int p6), .val (.ref b363), .unset, .unset, .unset, .unset] [(.int p5), (.int p6), (.int p2)])) rfl (by rw [hml]; rfl) (argsL := [(.int p2), (.int p6), (.int p5)]) (rest := []) (lenOf pd__III_Ljava_lang_String_ rfl) rfl (by show 2 * 0 + _ ≤ _; exact Nat.le_of_eq rfl) (hb hby at_14) (fun _ _ => ⟨rfl, rfl, (by decide : 4 + 4 ≤ _), (by decide : 8 + 8 ≤ _)⟩)
  dsimp only [Pt.U, Pt.locs, Pt.cells, Pt.slots] at X365 l365 y365 z365 st365 hQ365 hS365 hg365 HR365
  subst l365 y365 z365
  obtain ⟨rfl, N365q, K365k⟩ := hQ365
  have N365 := Fr.app N363 N365q
  obtain ⟨X365r, hS365r, hZ365, hown365⟩ := rebS hS363r (Nat.le_refl _) X365 hS365 hg365 hZ363 hown363
  have O366 : Old Z n0 T365.heap := O364.keep K365k all0
  have Z366 : n0 ≤ T365.heap.size := Nat.le_trans Z364 K365k.1
  have K366 : Keep h0 T365.heap [] := K364.trans K365k all0
  have HC366 : CHr Z [("java/lang/String", 7)] s.vm h0 T365.vm T365.heap := HC364.trans HR365
  have f367 : Exa Z T365.heap b363 "java/lang/String" := g1363.keep K365k
  obtain ⟨_, _, ⟨T368, L368, k368, n368⟩, -, X368, ⟨Lc368, hQ368, l368, y368, z368⟩, st368⟩ := Jvm.LawKit.callS X365r hx (y := (⟨"com/example/nimble_container/nimblecontainer/creation/MethodNaming", "of", "(Ljava/lang/String;Ljava/lang/String;Z)Lcom/example/nimble_container/nimblecontainer/creation/MethodNaming;"⟩ : MethodName)) hown365 (mvT hZ365 (hw _ (List.mem_of_getElem? (i := 34) rfl))) (mvT hZ365 (hw _ (List.mem_of_getElem? (i := 35) rfl))) (mvT hZ365 (hw _ (List.mem_of_getElem? (i := 36) rfl))) (mvT hZ365 (hw _ (List.mem_of_getElem? (i := 37) rfl))) (by decide) (backOf (W := 0) (rmOfRN0 l Z a0 hw [] b363 nn T365.heap n0 O366) hZ365 (hw _ (List.mem_of_getElem? (i := 37) rfl)) (hw _ (List.mem_of_getElem? (i := 36) rfl)) (by decide) (by decide)) (g := (mkF m 38 #[.val (.int p1), .val (.int p2), .val (.int p3), .val (.int p4), .val (.int p5), .val (.int p6), .val (.ref b363), .val .null, .val (.int (0 : Int32)), .unset, .unset] [(.int (0 : Int32)), .null, (.ref b363)])) rfl (by rw [hml]; rfl) (argsL := [(.ref b363), .null, (.int (0 : Int32))]) (rest := []) (lenOf pd__Ljava_lang_String_Ljava_lang_String_Z_Lcom_example_nimble_container_nimblecontainer_creation_MethodNaming_ rfl) rfl (by show 2 * 0 + _ ≤ _; exact Nat.le_of_eq rfl) (hb hby at_38) (fun _ _ => ⟨rfl, rfl, (by decide : 8 + 1 ≤ _), (by decide : 16 + 3 ≤ _)⟩)
  dsimp only [Pt.U, Pt.locs, Pt.cells, Pt.slots] at X368 l368 y368 z368 st368 hQ368
  subst l368 y368 z368
  obtain ⟨b368, rfl, N368q, K368k, hf368, g1368, g2368, g3368, g4368⟩ := hQ368
  have N368 := Fr.app N365 N368q
  have O369 : Old Z n0 T368.heap := O366.keep K368k all0
  have Z369 : n0 ≤ T368.heap.size := Nat.le_trans Z366 K368k.1
  have K369 : Keep h0 T368.heap [] := K366.trans K368k all0
  have HC369 : CHr Z [("java/lang/String", 7)] s.vm h0 T365.vm T368.heap := HC366.trans (CHr.keep K368k sf0 HC366.1)
  have hk369 : T365.heap.size ≤ T368.heap.size := Nat.le_trans (Nat.le_refl _) K368k.1
  have f370 : Exa Z T368.heap b363 "java/lang/String" := f367.keep K368k
  have g_b368 : n0 ≤ b368 := Nat.le_trans Z366 hf368
  have sz_b368 : h0.size ≤ b368 := Nat.le_trans K366.1 hf368
  obtain ⟨T371, X371, e371, st371⟩ := getS2 X368 hx hZ365 hown365 (host := "") (Or.inl (hw _ (List.mem_of_getElem? (i := 50) rfl))) Via.refl rfl (SN.ext O369.2) (g := (mkF m 117 #[.val (.int p1), .val (.int p2), .val (.int p3), .val (.int p4), .val (.int p5), .val (.int p6), .val (.ref b363), .val .null, .val (.int (0 : Int32)), .val (.ref b368), .val (.int (0 : Int32))] [(.ref b368)])) rfl (hb hby at_117)
  obtain ⟨cq372, kq372, qa372, qb372, qc372⟩ := isOf hZ365 e371 g1368
  obtain ⟨_, _, ⟨T372, L372, k372, n372⟩, -, X372, ⟨Lc372, hQ372, l372, y372, z372⟩, st372⟩ := X371.virtualBack hx (y := (⟨"com/example/nimble_container/nimblecontainer/creation/MethodNaming", "named", "()Ljava/lang/String;"⟩ : MethodName)) (z := (⟨"com/example/nimble_container/nimblecontainer/creation/MethodNaming", "named", "()Ljava/lang/String;"⟩ : MethodName)) hown365 (mvT hZ365 (hw _ (List.mem_of_getElem? (i := 52) rfl))) (mvT hZ365 (hw _ (List.mem_of_getElem? (i := 53) rfl))) (notFace_of_selects (args := #[]) (mvT hZ365 (hw _ (List.mem_of_getElem? (i := 55) rfl)))) (mvT hZ365 (hw _ (List.mem_of_getElem? (i := 55) rfl))) (mvT hZ365 (hw _ (List.mem_of_getElem? (i := 54) rfl))) (by decide) (backOf (W := 0) (rmGNR l Z a0 hw [] b368 b363 T368.heap n0 O369 g2368) hZ365 (hw _ (List.mem_of_getElem? (i := 56) rfl)) (hw _ (List.mem_of_getElem? (i := 36) rfl)) (by decide) (by decide)) qa372 qc372 (g := (mkF m 125 #[.val (.int p1), .val (.int p2), .val (.int p3), .val (.int p4), .val (.int p5), .val (.int p6), .val (.ref b363), .val .null, .val (.int (0 : Int32)), .val (.ref b368), .val (.int (0 : Int32))] [(.ref b368)])) rfl (by rw [hml]; rfl) (Steps.refl _) (argsL := []) (rest := []) (lenOf pd___Ljava_lang_String_ rfl) rfl (by show 2 * 0 + _ ≤ _; exact Nat.le_of_eq rfl) (hb hby at_125) (fun _ _ => ⟨rfl, e371, (by decide : 9 + 0 ≤ _), (by decide : 19 + 0 ≤ _)⟩)
  dsimp only [Pt.U, Pt.locs, Pt.cells, Pt.slots] at X372 l372 y372 z372 st372 hQ372
  subst l372 y372 z372
  obtain ⟨rfl, N372q, e372⟩ := hQ372
  have N372 := Fr.app N368 N372q
  obtain ⟨cq373, kq373, qa373, qb373, qc373⟩ := isOf hZ365 e372 g1368
  obtain ⟨_, _, ⟨T373, L373, k373, n373⟩, -, X373, ⟨Lc373, hQ373, l373, y373, z373⟩, st373⟩ := X372.virtualBack hx (y := (⟨"com/example/nimble_container/nimblecontainer/creation/MethodNaming", "byDefault", "()Ljava/lang/String;"⟩ : MethodName)) (z := (⟨"com/example/nimble_container/nimblecontainer/creation/MethodNaming", "byDefault", "()Ljava/lang/String;"⟩ : MethodName)) hown365 (mvT hZ365 (hw _ (List.mem_of_getElem? (i := 57) rfl))) (mvT hZ365 (hw _ (List.mem_of_getElem? (i := 58) rfl))) (notFace_of_selects (args := #[]) (mvT hZ365 (hw _ (List.mem_of_getElem? (i := 60) rfl)))) (mvT hZ365 (hw _ (List.mem_of_getElem? (i := 60) rfl))) (mvT hZ365 (hw _ (List.mem_of_getElem? (i := 59) rfl))) (by decide) (backOf (W := 0) (rmGBN l Z a0 hw [] b368 nn T368.heap n0 O369 g3368) hZ365 (hw _ (List.mem_of_getElem? (i := 61) rfl)) (hw _ (List.mem_of_getElem? (i := 36) rfl)) (by decide) (by decide)) qa373 qc373 (g := (mkF m 135 #[.val (.int p1), .val (.int p2), .val (.int p3), .val (.int p4), .val (.int p5), .val (.int p6), .val (.ref b363), .val .null, .val (.int (0 : Int32)), .val (.ref b368), .val (.int (0 : Int32))] [(.ref b368)])) rfl (by rw [hml]; rfl) (Steps.refl _) (argsL := []) (rest := []) (lenOf pd___Ljava_lang_String_ rfl) rfl (by show 2 * 0 + _ ≤ _; exact Nat.le_of_eq rfl) (hb hby at_135) (fun _ _ => ⟨rfl, e372, (by decide : 9 + 0 ≤ _), (by decide : 19 + 0 ≤ _)⟩)
  dsimp only [Pt.U, Pt.locs, Pt.cells, Pt.slots] at X373 l373 y373 z373 st373 hQ373
  subst l373 y373 z373
  obtain ⟨rfl, N373q, e373⟩ := hQ373
  have N373 := Fr.app N372 N373q
  obtain ⟨cq374, kq374, qa374, qb374, qc374⟩ := isOf hZ365 e373 g1368
  obtain ⟨_, _, ⟨T374, L374, k374, n374⟩, -, X374, ⟨Lc374, hQ374, l374, y374, z374⟩, st374⟩ := X373.virtualBack hx (y := (⟨"com/example/nimble_container/nimblecontainer/creation/MethodNaming", "inferred", "()Z"⟩ : MethodName)) (z := (⟨"com/example/nimble_container/nimblecontainer/creation/MethodNaming", "inferred", "()Z"⟩ : MethodName)) hown365 (mvT hZ365 (hw _ (List.mem_of_getElem? (i := 62) rfl))) (mvT hZ365 (hw _ (List.mem_of_getElem? (i := 63) rfl))) (notFace_of_selects (args := #[]) (mvT hZ365 (hw _ (List.mem_of_getElem? (i := 65) rfl)))) (mvT hZ365 (hw _ (List.mem_of_getElem? (i := 65) rfl))) (mvT hZ365 (hw _ (List.mem_of_getElem? (i := 64) rfl))) (by decide) (backOf (W := 0) (rmGI0 l Z a0 hw [] b368 T368.heap n0 O369 g4368) hZ365 (hw _ (List.mem_of_getElem? (i := 66) rfl)) (hw _ (List.mem_of_getElem? (i := 36) rfl)) (by decide) (by decide)) qa374 qc374 (g := (mkF m 145 #[.val (.int p1), .val (.int p2), .val (.int p3), .val (.int p4), .val (.int p5), .val (.int p6), .val (.ref b363), .val .null, .val (.int (0 : Int32)), .val (.ref b368), .val (.int (0 : Int32))] [(.ref b368)])) rfl (by rw [hml]; rfl) (Steps.refl _) (argsL := []) (rest := []) (lenOf pd___Z rfl) rfl (by show 2 * 0 + _ ≤ _; exact Nat.le_of_eq rfl) (hb hby at_145) (fun _ _ => ⟨rfl, e373, (by decide : 9 + 0 ≤ _), (by decide : 19 + 0 ≤ _)⟩)
  dsimp only [Pt.U, Pt.locs, Pt.cells, Pt.slots] at X374 l374 y374 z374 st374 hQ374
  subst l374 y374 z374
  obtain ⟨rfl, N374q, e374⟩ := hQ374
  have N374 := Fr.app N373 N374q
  obtain ⟨fs, hr, hrun, hended, hEnd⟩ := X374.leaveW (s := s) hS365r (by rw [e374]; exact hk369) (v := some (.int (1 : Int32))) (fun h => by rw [Bd.returns] at h; cases h)
  refine ⟨_, _, pre0 _ ?_, hrun, hended, _, _, rfl, ?_, ?_, hEnd.1, hEnd.2.1, hEnd.2.2.1, hEnd.2.2.2.mono (by decide) (by decide)⟩
  · show Steps p.tables e below (s₁.setTop (mkF m 0 #[.val (.int p1), .val (.int p2), .val (.int p3), .val (.int p4), .val (.int p5), .val (.int p6), .unset, .unset, .unset, .unset, .unset] [])) _
    refine XS.iloadN X0.here hx rfl (hb hby at_0) rfl ?_
    show Steps p.tables e below (s₁.setTop (mkF m 1 #[.val (.int p1), .val (.int p2), .val (.int p3), .val (.int p4), .val (.int p5), .val (.int p6), .unset, .unset, .unset, .unset, .unset] [(.int p1)])) _
    refine XS.iloadN X0.here hx rfl (hb hby at_1) rfl ?_
    show Steps p.tables e below (s₁.setTop (mkF m 2 #[.val (.int p1), .val (.int p2), .val (.int p3), .val (.int p4), .val (.int p5), .val (.int p6), .unset, .unset, .unset, .unset, .unset] [(.int p4), (.int p1)])) _
    refine XS.iload X0.here hx rfl (hb hby at_2) rfl ?_
    show Steps p.tables e below (s₁.setTop (mkF m 4 #[.val (.int p1), .val (.int p2), .val (.int p3), .val (.int p4), .val (.int p5), .val (.int p6), .unset, .unset, .unset, .unset, .unset] [(.int p5), (.int p4), (.int p1)])) _
    refine st363.trans ?_
    show Steps p.tables e below (T363.setTop (mkF m 7 #[.val (.int p1), .val (.int p2), .val (.int p3), .val (.int p4), .val (.int p5), .val (.int p6), .unset, .unset, .unset, .unset, .unset] [(.ref b363)])) _
    refine XS.astore X363r.here hx rfl (hb hby at_7) rfl rfl (l' := #[.val (.int p1), .val (.int p2), .val (.int p3), .val (.int p4), .val (.int p5), .val (.int p6), .val (.ref b363), .unset, .unset, .unset, .unset]) rfl ?_
    show Steps p.tables e below (T363.setTop (mkF m 9 #[.val (.int p1), .val (.int p2), .val (.int p3), .val (.int p4), .val (.int p5), .val (.int p6), .val (.ref b363), .unset, .unset, .unset, .unset] [])) _
    refine XS.iloadN X363r.here hx rfl (hb hby at_9) rfl ?_
    show Steps p.tables e below (T363.setTop (mkF m 10 #[.val (.int p1), .val (.int p2), .val (.int p3), .val (.int p4), .val (.int p5), .val (.int p6), .val (.ref b363), .unset, .unset, .unset, .unset] [(.int p2)])) _
    refine XS.iload X363r.here hx rfl (hb hby at_10) rfl ?_
    show Steps p.tables e below (T363.setTop (mkF m 12 #[.val (.int p1), .val (.int p2), .val (.int p3), .val (.int p4), .val (.int p5), .val (.int p6), .val (.ref b363), .unset, .unset, .unset, .unset] [(.int p6), (.int p2)])) _
    refine XS.iload X363r.here hx rfl (hb hby at_12) rfl ?_
    show Steps p.tables e below (T363.setTop (mkF m 14 #[.val (.int p1), .val (.int p2), .val (.int p3), .val (.int p4), .val (.int p5), .val (.int p6), .val (.ref b363), .unset, .unset, .unset, .unset] [(.int p5), (.int p6), (.int p2)])) _
    refine st365.trans ?_
    show Steps p.tables e below (T365.setTop (mkF m 17 #[.val (.int p1), .val (.int p2), .val (.int p3), .val (.int p4), .val (.int p5), .val (.int p6), .val (.ref b363), .unset, .unset, .unset, .unset] [.null])) _
    refine XS.astore X365r.here hx rfl (hb hby at_17) rfl rfl (l' := #[.val (.int p1), .val (.int p2), .val (.int p3), .val (.int p4), .val (.int p5), .val (.int p6), .val (.ref b363), .val .null, .unset, .unset, .unset]) rfl ?_
    show Steps p.tables e below (T365.setTop (mkF m 19 #[.val (.int p1), .val (.int p2), .val (.int p3), .val (.int p4), .val (.int p5), .val (.int p6), .val (.ref b363), .val .null, .unset, .unset, .unset] [])) _
    refine XS.iloadN X365r.here hx rfl (hb hby at_19) rfl ?_
    show Steps p.tables e below (T365.setTop (mkF m 20 #[.val (.int p1), .val (.int p2), .val (.int p3), .val (.int p4), .val (.int p5), .val (.int p6), .val (.ref b363), .val .null, .unset, .unset, .unset] [(.int p3)])) _
    refine XS.iconst X365r.here hx rfl (hb hby at_20) ?_
    show Steps p.tables e below (T365.setTop (mkF m 21 #[.val (.int p1), .val (.int p2), .val (.int p3), .val (.int p4), .val (.int p5), .val (.int p6), .val (.ref b363), .val .null, .unset, .unset, .unset] [(.int (1 : Int32)), (.int p3)])) _
    refine XS.iand X365r.here hx rfl (hb hby at_21) rfl ?_
    show Steps p.tables e below (T365.setTop (mkF m 22 #[.val (.int p1), .val (.int p2), .val (.int p3), .val (.int p4), .val (.int p5), .val (.int p6), .val (.ref b363), .val .null, .unset, .unset, .unset] [(.int (p3 &&& (1 : Int32)))])) _
    refine XS.ifYes X365r.here hx rfl (pc0 := 22) (pc' := 29) rfl (hb hby at_22) rfl ((if0 _ _).trans (teq (qf : (p3 &&& (1 : Int32)) = (0 : Int32))).1) (by decide) (by decide) ?_
    show Steps p.tables e below (T365.setTop (mkF m 29 #[.val (.int p1), .val (.int p2), .val (.int p3), .val (.int p4), .val (.int p5), .val (.int p6), .val (.ref b363), .val .null, .unset, .unset, .unset] [])) _
    refine XS.iconst X365r.here hx rfl (hb hby at_29) ?_
    show Steps p.tables e below (T365.setTop (mkF m 30 #[.val (.int p1), .val (.int p2), .val (.int p3), .val (.int p4), .val (.int p5), .val (.int p6), .val (.ref b363), .val .null, .unset, .unset, .unset] [(.int (0 : Int32))])) _
    refine XS.istore X365r.here hx rfl (hb hby at_30) rfl (l' := #[.val (.int p1), .val (.int p2), .val (.int p3), .val (.int p4), .val (.int p5), .val (.int p6), .val (.ref b363), .val .null, .val (.int (0 : Int32)), .unset, .unset]) rfl ?_
    show Steps p.tables e below (T365.setTop (mkF m 32 #[.val (.int p1), .val (.int p2), .val (.int p3), .val (.int p4), .val (.int p5), .val (.int p6), .val (.ref b363), .val .null, .val (.int (0 : Int32)), .unset, .unset] [])) _
    refine XS.aload X365r.here hx rfl (hb hby at_32) rfl rfl ?_
    show Steps p.tables e below (T365.setTop (mkF m 34 #[.val (.int p1), .val (.int p2), .val (.int p3), .val (.int p4), .val (.int p5), .val (.int p6), .val (.ref b363), .val .null, .val (.int (0 : Int32)), .unset, .unset] [(.ref b363)])) _
    refine XS.aload X365r.here hx rfl (hb hby at_34) rfl rfl ?_
    show Steps p.tables e below (T365.setTop (mkF m 36 #[.val (.int p1), .val (.int p2), .val (.int p3), .val (.int p4), .val (.int p5), .val (.int p6), .val (.ref b363), .val .null, .val (.int (0 : Int32)), .unset, .unset] [.null, (.ref b363)])) _
    refine XS.iload X365r.here hx rfl (hb hby at_36) rfl ?_
    show Steps p.tables e below (T365.setTop (mkF m 38 #[.val (.int p1), .val (.int p2), .val (.int p3), .val (.int p4), .val (.int p5), .val (.int p6), .val (.ref b363), .val .null, .val (.int (0 : Int32)), .unset, .unset] [(.int (0 : Int32)), .null, (.ref b363)])) _
    refine st368 _ ?_
    show Steps p.tables e below (T368.setTop (mkF m 41 #[.val (.int p1), .val (.int p2), .val (.int p3), .val (.int p4), .val (.int p5), .val (.int p6), .val (.ref b363), .val .null, .val (.int (0 : Int32)), .unset, .unset] [(.ref b368)])) _
    refine XS.astore X368.here hx rfl (hb hby at_41) rfl rfl (l' := #[.val (.int p1), .val (.int p2), .val (.int p3), .val (.int p4), .val (.int p5), .val (.int p6), .val (.ref b363), .val .null, .val (.int (0 : Int32)), .val (.ref b368), .unset]) rfl ?_
    show Steps p.tables e below (T368.setTop (mkF m 43 #[.val (.int p1), .val (.int p2), .val (.int p3), .val (.int p4), .val (.int p5), .val (.int p6), .val (.ref b363), .val .null, .val (.int (0 : Int32)), .val (.ref b368), .unset] [])) _
    refine XS.aload X368.here hx rfl (hb hby at_43) rfl rfl ?_
    show Steps p.tables e below (T368.setTop (mkF m 45 #[.val (.int p1), .val (.int p2), .val (.int p3), .val (.int p4), .val (.int p5), .val (.int p6), .val (.ref b363), .val .null, .val (.int (0 : Int32)), .val (.ref b368), .unset] [(.ref b368)])) _
    refine XS.ifnonnullYes X368.here hx rfl (pc0 := 45) (pc' := 50) rfl (hb hby at_45) rfl (by decide) (by decide) ?_
    show Steps p.tables e below (T368.setTop (mkF m 50 #[.val (.int p1), .val (.int p2), .val (.int p3), .val (.int p4), .val (.int p5), .val (.int p6), .val (.ref b363), .val .null, .val (.int (0 : Int32)), .val (.ref b368), .unset] [])) _
    refine XS.aload X368.here hx rfl (hb hby at_50) rfl rfl ?_
    show Steps p.tables e below (T368.setTop (mkF m 52 #[.val (.int p1), .val (.int p2), .val (.int p3), .val (.int p4), .val (.int p5), .val (.int p6), .val (.ref b363), .val .null, .val (.int (0 : Int32)), .val (.ref b368), .unset] [(.ref b363)])) _
    refine XS.ifnonnullYes X368.here hx rfl (pc0 := 52) (pc' := 69) rfl (hb hby at_52) rfl (by decide) (by decide) ?_
    show Steps p.tables e below (T368.setTop (mkF m 69 #[.val (.int p1), .val (.int p2), .val (.int p3), .val (.int p4), .val (.int p5), .val (.int p6), .val (.ref b363), .val .null, .val (.int (0 : Int32)), .val (.ref b368), .unset] [])) _
    refine XS.iconst X368.here hx rfl (hb hby at_69) ?_
    show Steps p.tables e below (T368.setTop (mkF m 70 #[.val (.int p1), .val (.int p2), .val (.int p3), .val (.int p4), .val (.int p5), .val (.int p6), .val (.ref b363), .val .null, .val (.int (0 : Int32)), .val (.ref b368), .unset] [(.int (0 : Int32))])) _
    refine XS.istore X368.here hx rfl (hb hby at_70) rfl (l' := #[.val (.int p1), .val (.int p2), .val (.int p3), .val (.int p4), .val (.int p5), .val (.int p6), .val (.ref b363), .val .null, .val (.int (0 : Int32)), .val (.ref b368), .val (.int (0 : Int32))]) rfl ?_
    show Steps p.tables e below (T368.setTop (mkF m 72 #[.val (.int p1), .val (.int p2), .val (.int p3), .val (.int p4), .val (.int p5), .val (.int p6), .val (.ref b363), .val .null, .val (.int (0 : Int32)), .val (.ref b368), .val (.int (0 : Int32))] [])) _
    refine XS.iload X368.here hx rfl (hb hby at_72) rfl ?_
    show Steps p.tables e below (T368.setTop (mkF m 74 #[.val (.int p1), .val (.int p2), .val (.int p3), .val (.int p4), .val (.int p5), .val (.int p6), .val (.ref b363), .val .null, .val (.int (0 : Int32)), .val (.ref b368), .val (.int (0 : Int32))] [(.int (0 : Int32))])) _
    refine XS.ifYes X368.here hx rfl (pc0 := 74) (pc' := 115) rfl (hb hby at_74) rfl ((if0 _ _).trans (teq (rfl : (0 : Int32) = (0 : Int32))).1) (by decide) (by decide) ?_
    show Steps p.tables e below (T368.setTop (mkF m 115 #[.val (.int p1), .val (.int p2), .val (.int p3), .val (.int p4), .val (.int p5), .val (.int p6), .val (.ref b363), .val .null, .val (.int (0 : Int32)), .val (.ref b368), .val (.int (0 : Int32))] [])) _
    refine XS.aload X368.here hx rfl (hb hby at_115) rfl rfl ?_
    show Steps p.tables e below (T368.setTop (mkF m 117 #[.val (.int p1), .val (.int p2), .val (.int p3), .val (.int p4), .val (.int p5), .val (.int p6), .val (.ref b363), .val .null, .val (.int (0 : Int32)), .val (.ref b368), .val (.int (0 : Int32))] [(.ref b368)])) _
    refine st371 _ ?_
    show Steps p.tables e below (T371.setTop (mkF m 120 #[.val (.int p1), .val (.int p2), .val (.int p3), .val (.int p4), .val (.int p5), .val (.int p6), .val (.ref b363), .val .null, .val (.int (0 : Int32)), .val (.ref b368), .val (.int (0 : Int32))] [(.ref nn), (.ref b368)])) _
    refine Jvm.RoadKit.acmp (g := (mkF m 120 #[.val (.int p1), .val (.int p2), .val (.int p3), .val (.int p4), .val (.int p5), .val (.int p6), .val (.ref b363), .val .null, .val (.int (0 : Int32)), .val (.ref b368), .val (.int (0 : Int32))] [(.ref nn), (.ref b368)])) X371 hx rfl rfl rfl (pc0 := 120) (pc' := 123) (same := false) rfl (hb hby at_120) rfl (decide_eq_false fun q => (Ne.symm (Old.ne O0 EN.lt g_b368)) (Value.ref.inj q)) (by decide) (by decide) ?_
    show Steps p.tables e below (T371.setTop (mkF m 123 #[.val (.int p1), .val (.int p2), .val (.int p3), .val (.int p4), .val (.int p5), .val (.int p6), .val (.ref b363), .val .null, .val (.int (0 : Int32)), .val (.ref b368), .val (.int (0 : Int32))] [])) _
    refine XS.aload X371.here hx rfl (hb hby at_123) rfl rfl ?_
    show Steps p.tables e below (T371.setTop (mkF m 125 #[.val (.int p1), .val (.int p2), .val (.int p3), .val (.int p4), .val (.int p5), .val (.int p6), .val (.ref b363), .val .null, .val (.int (0 : Int32)), .val (.ref b368), .val (.int (0 : Int32))] [(.ref b368)])) _
    refine st372.trans ?_
    show Steps p.tables e below (T372.setTop (mkF m 128 #[.val (.int p1), .val (.int p2), .val (.int p3), .val (.int p4), .val (.int p5), .val (.int p6), .val (.ref b363), .val .null, .val (.int (0 : Int32)), .val (.ref b368), .val (.int (0 : Int32))] [(.ref b363)])) _
    refine XS.aload X372.here hx rfl (hb hby at_128) rfl rfl ?_
    show Steps p.tables e below (T372.setTop (mkF m 130 #[.val (.int p1), .val (.int p2), .val (.int p3), .val (.int p4), .val (.int p5), .val (.int p6), .val (.ref b363), .val .null, .val (.int (0 : Int32)), .val (.ref b368), .val (.int (0 : Int32))] [(.ref b363), (.ref b363)])) _
    refine Jvm.RoadKit.acmp (g := (mkF m 130 #[.val (.int p1), .val (.int p2), .val (.int p3), .val (.int p4), .val (.int p5), .val (.int p6), .val (.ref b363), .val .null, .val (.int (0 : Int32)), .val (.ref b368), .val (.int (0 : Int32))] [(.ref b363), (.ref b363)])) X372 hx rfl rfl rfl (pc0 := 130) (pc' := 133) (same := true) rfl (hb hby at_130) rfl (decide_eq_true rfl) (by decide) (by decide) ?_
    show Steps p.tables e below (T372.setTop (mkF m 133 #[.val (.int p1), .val (.int p2), .val (.int p3), .val (.int p4), .val (.int p5), .val (.int p6), .val (.ref b363), .val .null, .val (.int (0 : Int32)), .val (.ref b368), .val (.int (0 : Int32))] [])) _
    refine XS.aload X372.here hx rfl (hb hby at_133) rfl rfl ?_
    show Steps p.tables e below (T372.setTop (mkF m 135 #[.val (.int p1), .val (.int p2), .val (.int p3), .val (.int p4), .val (.int p5), .val (.int p6), .val (.ref b363), .val .null, .val (.int (0 : Int32)), .val (.ref b368), .val (.int (0 : Int32))] [(.ref b368)])) _
    refine st373.trans ?_
    show Steps p.tables e below (T373.setTop (mkF m 138 #[.val (.int p1), .val (.int p2), .val (.int p3), .val (.int p4), .val (.int p5), .val (.int p6), .val (.ref b363), .val .null, .val (.int (0 : Int32)), .val (.ref b368), .val (.int (0 : Int32))] [.null])) _
    refine XS.aload X373.here hx rfl (hb hby at_138) rfl rfl ?_
    show Steps p.tables e below (T373.setTop (mkF m 140 #[.val (.int p1), .val (.int p2), .val (.int p3), .val (.int p4), .val (.int p5), .val (.int p6), .val (.ref b363), .val .null, .val (.int (0 : Int32)), .val (.ref b368), .val (.int (0 : Int32))] [.null, .null])) _
    refine Jvm.RoadKit.acmp (g := (mkF m 140 #[.val (.int p1), .val (.int p2), .val (.int p3), .val (.int p4), .val (.int p5), .val (.int p6), .val (.ref b363), .val .null, .val (.int (0 : Int32)), .val (.ref b368), .val (.int (0 : Int32))] [.null, .null])) X373 hx rfl rfl rfl (pc0 := 140) (pc' := 143) (same := true) rfl (hb hby at_140) rfl (decide_eq_true rfl) (by decide) (by decide) ?_
    show Steps p.tables e below (T373.setTop (mkF m 143 #[.val (.int p1), .val (.int p2), .val (.int p3), .val (.int p4), .val (.int p5), .val (.int p6), .val (.ref b363), .val .null, .val (.int (0 : Int32)), .val (.ref b368), .val (.int (0 : Int32))] [])) _
    refine XS.aload X373.here hx rfl (hb hby at_143) rfl rfl ?_
    show Steps p.tables e below (T373.setTop (mkF m 145 #[.val (.int p1), .val (.int p2), .val (.int p3), .val (.int p4), .val (.int p5), .val (.int p6), .val (.ref b363), .val .null, .val (.int (0 : Int32)), .val (.ref b368), .val (.int (0 : Int32))] [(.ref b368)])) _
    refine st374.trans ?_
    show Steps p.tables e below (T374.setTop (mkF m 148 #[.val (.int p1), .val (.int p2), .val (.int p3), .val (.int p4), .val (.int p5), .val (.int p6), .val (.ref b363), .val .null, .val (.int (0 : Int32)), .val (.ref b368), .val (.int (0 : Int32))] [(.int (0 : Int32))])) _
    refine XS.iload X374.here hx rfl (hb hby at_148) rfl ?_
    show Steps p.tables e below (T374.setTop (mkF m 150 #[.val (.int p1), .val (.int p2), .val (.int p3), .val (.int p4), .val (.int p5), .val (.int p6), .val (.ref b363), .val .null, .val (.int (0 : Int32)), .val (.ref b368), .val (.int (0 : Int32))] [(.int (0 : Int32)), (.int (0 : Int32))])) _
    refine XS.icmpNo X374.here hx rfl (hb hby at_150) rfl (teq (rfl : (0 : Int32) = (0 : Int32))).2 ?_
    show Steps p.tables e below (T374.setTop (mkF m 153 #[.val (.int p1), .val (.int p2), .val (.int p3), .val (.int p4), .val (.int p5), .val (.int p6), .val (.ref b363), .val .null, .val (.int (0 : Int32)), .val (.ref b368), .val (.int (0 : Int32))] [])) _
    refine XS.iconst X374.here hx rfl (hb hby at_153) ?_
    show Steps p.tables e below (T374.setTop (mkF m 154 #[.val (.int p1), .val (.int p2), .val (.int p3), .val (.int p4), .val (.int p5), .val (.int p6), .val (.ref b363), .val .null, .val (.int (0 : Int32)), .val (.ref b368), .val (.int (0 : Int32))] [(.int (1 : Int32))])) _
    refine XS.goto X374.here hx rfl (pc0 := 154) (pc' := 158) rfl (hb hby at_154) (by decide) (by decide) ?_
    show Steps p.tables e below (T374.setTop (mkF m 158 #[.val (.int p1), .val (.int p2), .val (.int p3), .val (.int p4), .val (.int p5), .val (.int p6), .val (.ref b363), .val .null, .val (.int (0 : Int32)), .val (.ref b368), .val (.int (0 : Int32))] [(.int (1 : Int32))])) _
    exact retN X374 hx (t := .boolean) Bd.returns (by simp) (hb hby at_158) hr
  · show Qlaw Z h0 n0 _ T374.heap _
    rw [e374]
    exact ⟨rfl, N374⟩
  · show CHr Z [("java/lang/String", 7)] s.vm s.heap T374.vm T374.heap
    rw [hh, e374]
    exact HC369.trans (CHv.at X374 hZ365 hEL HC369.1)
theorem ef_rmLawRN1 (m : MethodId) (x0 : Int32) (x1 : Int32) (x2 : Int32) (x3 : Int32) (x4 : Int32) (x5 : Int32) : entryFrame m #[(.int x0), (.int x1), (.int x2), (.int x3), (.int x4), (.int x5)] maxLocals = mkF m 0 #[.val (.int x0), .val (.int x1), .val (.int x2), .val (.int x3), .val (.int x4), .val (.int x5), .unset, .unset, .unset, .unset, .unset] [] := by first | (simp [entryFrame, mkF, argsToLocals, Value.category, maxLocals]; done) | rfl
set_option maxRecDepth 65536 in
set_option maxHeartbeats 40000000 in
theorem rmLawRN1 (l : Launch) (Z : State) (a0 : Array Value) (hw : ∀ d ∈ tables_1, d.before a0 Z = true) (ws : List Jvm.Cond) (p1 p2 p3 p4 p5 p6 GC : Int32) (nn : Addr) (h0 : Heap) (n0 : Nat) (O0 : Old Z n0 h0) (hEL : EW Z a0 [("java/lang/String", 7)]) (wS : ∀ a ∈ Bundle.stringAtoms, a.before a0 Z = true) (OC2 : Sta Z Z.heap "java/lang/String" "COMPACT_STRINGS" "Z" (.int GC)) (OCz : ¬ (GC = (0 : Int32))) (SN : Sta Z Z.heap "com/example/nimble_container/nimblecontainer/creation/MethodNaming" "NONE" "Lcom/example/nimble_container/nimblecontainer/creation/MethodNaming;" (.ref nn)) (EN : Exa Z Z.heap nn "com/example/nimble_container/nimblecontainer/creation/MethodNaming") (N0f : Fld Z Z.heap nn "com/example/nimble_container/nimblecontainer/creation/MethodNaming" "named" "Ljava/lang/String;" .null) (N1f : Fld Z Z.heap nn "com/example/nimble_container/nimblecontainer/creation/MethodNaming" "byDefault" "Ljava/lang/String;" .null) (N2f : Fld Z Z.heap nn "com/example/nimble_container/nimblecontainer/creation/MethodNaming" "inferred" "Z" (.int (0 : Int32))) (qn : ¬ ((p1 &&& (3 : Int32)) = (0 : Int32))) (qd : (p2 &&& (3 : Int32)) = (0 : Int32)) (qf : ¬ ((p3 &&& (1 : Int32)) = (0 : Int32))) :
    MetFree l x (head1 (Jvm.Cond.code x code maxLocals ret :: ws) room_1) (fun aa_ U => aa_ = #[(.int p1), (.int p2), (.int p3), (.int p4), (.int p5), (.int p6)] ∧ Z.Warmed39 U.vm ∧ U.heap = h0 ∧ CHv Z [("java/lang/String", 7)] U.vm h0) (fun _ _ _ _ _ => True) (fun _ U o U' => ∃ v L, o = .returned v ∧ Qlaw Z h0 n0 v U'.heap L ∧ CHr Z [("java/lang/String", 7)] U.vm U.heap U'.vm U'.heap ∧ ReturnedEndW U o U' L room_1.cells room_1.slots) := by
  refine MetFree.of_bodySF (plainFor_of_name pn_com_example_nimble_container_nimblecontainer_creation_MethodNamingOfPinLaw) hisR ?_
  intro p e s m args below meth c s₁ Bd hml0 hP hK
  obtain ⟨rfl, hZ, hh, hC0⟩ := hP
  have hx := Bd.exec
  have hby := Bd.bytes
  have hml : c.maxLocals = 11 := hml0
  have hown : s.vm.findClass "com/example/nimble_container/nimblecontainer/creation/MethodNamingOfPinLaw" = some m.cls := findClass_of_methodNamed Bd.named
  have hnm := (name_of_methodNamed Bd.named Bd.method).1
  have X0 : Stand p l e room_1 (s.setVm s.vm) m #[(.int p1), (.int p2), (.int p3), (.int p4), (.int p5), (.int p6)] below meth c s₁ [] 0 0 := Stand.of_body Bd
  have e0 : s₁.heap = h0 := by rw [← hh, Bd.state]; rfl
  have N0 := Fr.nil n0
  have Z0 : n0 ≤ h0.size := O0.1 ▸ O0.2.1
  have K0 : Keep h0 h0 [] := Keep.refl _ _
  have hS0 : s.Since s.vm h0.size := (State.WarmedH.refl s).since _
  have hk0 : h0.size ≤ h0.size := Nat.le_refl _
  have HC0 : CHr Z [("java/lang/String", 7)] s.vm h0 s.vm h0 := CHr.refl hC0
  have pre0 : ∀ tgt_, Steps p.tables e below (s₁.setTop (mkF m 0 #[.val (.int p1), .val (.int p2), .val (.int p3), .val (.int p4), .val (.int p5), .val (.int p6), .unset, .unset, .unset, .unset, .unset] [])) tgt_ → Steps p.tables e below (s₁.setTop (entryFrame m #[(.int p1), (.int p2), (.int p3), (.int p4), (.int p5), (.int p6)] maxLocals)) tgt_ := fun tgt_ k => castTop (ef_rmLawRN1 m p1 p2 p3 p4 p5 p6) k
  obtain ⟨_, _, ⟨T375, L375, k375, n375⟩, -, X375, hS375, hg375, ⟨Lc375, hQ375, l375, y375, z375, HR375⟩, st375⟩ := Jvm.RoadKit.callSS X0 hx (y := (⟨"com/example/nimble_container/nimblecontainer/creation/MethodNamingOfPinLaw", "draw", "(III)Ljava/lang/String;"⟩ : MethodName)) hown (mvT hZ (hw _ (List.mem_of_getElem? (i := 0) rfl))) (mvT hZ (hw _ (List.mem_of_getElem? (i := 1) rfl))) (mvT hZ (hw _ (List.mem_of_getElem? (i := 2) rfl))) (mvT hZ (hw _ (List.mem_of_getElem? (i := 3) rfl))) (by decide) (backOfSH (s := s) (W := 0) (rmD l Z a0 hw [] p1 p4 p5 GC h0 n0 O0 hEL wS OC2 OCz qn) hZ (hw _ (List.mem_of_getElem? (i := 3) rfl)) (hw _ (List.mem_of_getElem? (i := 2) rfl)) (by decide) (by decide) hEL HC0.1) (g := (mkF m 4 #[.val (.int p1), .val (.int p2), .val (.int p3), .val (.int p4), .val (.int p5), .val (.int p6), .unset, .unset, .unset, .unset, .unset] [(.int p5), (.int p4), (.int p1)])) rfl (by rw [hml]; rfl) (argsL := [(.int p1), (.int p4), (.int p5)]) (rest := []) (lenOf pd__III_Ljava_lang_String_ rfl) rfl (by show 2 * 0 + _ ≤ _; exact Nat.le_of_eq rfl) (hb hby at_4) (fun _ _ => ⟨rfl, e0, (by decide : 0 + 4 ≤ _), (by decide : 0 + 8 ≤ _)⟩)
  dsimp only [Pt.U, Pt.locs, Pt.cells, Pt.slots] at X375 l375 y375 z375 st375 hQ375 hS375 hg375 HR375
  subst l375 y375 z375
  obtain ⟨b375, rfl, N375q, K375k, hf375, g1375⟩ := hQ375
  have N375 := Fr.app N0 N375q
  obtain ⟨X375r, hS375r, hZ375, hown375⟩ := rebS hS0 (by rw [e0]; exact hk0) X375 hS375 hg375 hZ hown
  have O376 : Old Z n0 T375.heap := O0.keep K375k all0
  have Z376 : n0 ≤ T375.heap.size := Nat.le_trans Z0 K375k.1
  have K376 : Keep h0 T375.heap [] := K0.trans K375k all0
  have HC376 : CHr Z [("java/lang/String", 7)] s.vm h0 T375.vm T375.heap := HC0.trans HR375
  have g_b375 : n0 ≤ b375 := Nat.le_trans Z0 hf375
  have sz_b375 : h0.size ≤ b375 := Nat.le_trans K0.1 hf375
  obtain ⟨_, _, ⟨T377, L377, k377, n377⟩, -, X377, hS377, hg377, ⟨Lc377, hQ377, l377, y377, z377, HR377⟩, st377⟩ := Jvm.RoadKit.callSS X375r hx (y := (⟨"com/example/nimble_container/nimblecontainer/creation/MethodNamingOfPinLaw", "draw", "(III)Ljava/lang/String;"⟩ : MethodName)) hown375 (mvT hZ375 (hw _ (List.mem_of_getElem? (i := 0) rfl))) (mvT hZ375 (hw _ (List.mem_of_getElem? (i := 1) rfl))) (mvT hZ375 (hw _ (List.mem_of_getElem? (i := 2) rfl))) (mvT hZ375 (hw _ (List.mem_of_getElem? (i := 3) rfl))) (by decide) (backOfSH (s := s) (W := 0) (rmD0 l Z a0 hw [] p2 p6 p5 GC T375.heap n0 O376 hEL wS OC2 OCz qd) hZ375 (hw _ (List.mem_of_getElem? (i := 3) rfl)) (hw _ (List.mem_of_getElem? (i := 2) rfl)) (by decide) (by decide) hEL HC376.1) (g := (mkF m 14 #[.val (.int p1), .val (.int p2), .val (.int p3), .val (.int p4), .val (.int p5), .val (.int p6), .val (.ref b375), .unset, .unset, .unset, .unset] [(.int p5), (.int p6), (.int p2)])) rfl (by rw [hml]; rfl) (argsL := [(.int p2), (.int p6), (.int p5)]) (rest := []) (lenOf pd__III_Ljava_lang_String_ rfl) rfl (by show 2 * 0 + _ ≤ _; exact Nat.le_of_eq rfl) (hb hby at_14) (fun _ _ => ⟨rfl, rfl, (by decide : 4 + 4 ≤ _), (by decide : 8 + 8 ≤ _)⟩)
  dsimp only [Pt.U, Pt.locs, Pt.cells, Pt.slots] at X377 l377 y377 z377 st377 hQ377 hS377 hg377 HR377
  subst l377 y377 z377
  obtain ⟨rfl, N377q, K377k⟩ := hQ377
  have N377 := Fr.app N375 N377q
  obtain ⟨X377r, hS377r, hZ377, hown377⟩ := rebS hS375r (Nat.le_refl _) X377 hS377 hg377 hZ375 hown375
  have O378 : Old Z n0 T377.heap := O376.keep K377k all0
  have Z378 : n0 ≤ T377.heap.size := Nat.le_trans Z376 K377k.1
  have K378 : Keep h0 T377.heap [] := K376.trans K377k all0
  have HC378 : CHr Z [("java/lang/String", 7)] s.vm h0 T377.vm T377.heap := HC376.trans HR377
  have f379 : Exa Z T377.heap b375 "java/lang/String" := g1375.keep K377k
  obtain ⟨_, _, ⟨T380, L380, k380, n380⟩, -, X380, ⟨Lc380, hQ380, l380, y380, z380⟩, st380⟩ := Jvm.LawKit.callS X377r hx (y := (⟨"com/example/nimble_container/nimblecontainer/creation/MethodNaming", "of", "(Ljava/lang/String;Ljava/lang/String;Z)Lcom/example/nimble_container/nimblecontainer/creation/MethodNaming;"⟩ : MethodName)) hown377 (mvT hZ377 (hw _ (List.mem_of_getElem? (i := 34) rfl))) (mvT hZ377 (hw _ (List.mem_of_getElem? (i := 35) rfl))) (mvT hZ377 (hw _ (List.mem_of_getElem? (i := 36) rfl))) (mvT hZ377 (hw _ (List.mem_of_getElem? (i := 37) rfl))) (by decide) (backOf (W := 0) (rmOfRN1 l Z a0 hw [] b375 nn T377.heap n0 O378) hZ377 (hw _ (List.mem_of_getElem? (i := 37) rfl)) (hw _ (List.mem_of_getElem? (i := 36) rfl)) (by decide) (by decide)) (g := (mkF m 38 #[.val (.int p1), .val (.int p2), .val (.int p3), .val (.int p4), .val (.int p5), .val (.int p6), .val (.ref b375), .val .null, .val (.int (1 : Int32)), .unset, .unset] [(.int (1 : Int32)), .null, (.ref b375)])) rfl (by rw [hml]; rfl) (argsL := [(.ref b375), .null, (.int (1 : Int32))]) (rest := []) (lenOf pd__Ljava_lang_String_Ljava_lang_String_Z_Lcom_example_nimble_container_nimblecontainer_creation_MethodNaming_ rfl) rfl (by show 2 * 0 + _ ≤ _; exact Nat.le_of_eq rfl) (hb hby at_38) (fun _ _ => ⟨rfl, rfl, (by decide : 8 + 1 ≤ _), (by decide : 16 + 3 ≤ _)⟩)
  dsimp only [Pt.U, Pt.locs, Pt.cells, Pt.slots] at X380 l380 y380 z380 st380 hQ380
  subst l380 y380 z380
  obtain ⟨b380, rfl, N380q, K380k, hf380, g1380, g2380, g3380, g4380⟩ := hQ380
  have N380 := Fr.app N377 N380q
  have O381 : Old Z n0 T380.heap := O378.keep K380k all0
  have Z381 : n0 ≤ T380.heap.size := Nat.le_trans Z378 K380k.1
  have K381 : Keep h0 T380.heap [] := K378.trans K380k all0
  have HC381 : CHr Z [("java/lang/String", 7)] s.vm h0 T377.vm T380.heap := HC378.trans (CHr.keep K380k sf0 HC378.1)
  have hk381 : T377.heap.size ≤ T380.heap.size := Nat.le_trans (Nat.le_refl _) K380k.1
  have f382 : Exa Z T380.heap b375 "java/lang/String" := f379.keep K380k
  have g_b380 : n0 ≤ b380 := Nat.le_trans Z378 hf380
  have sz_b380 : h0.size ≤ b380 := Nat.le_trans K378.1 hf380
  obtain ⟨T383, X383, e383, st383⟩ := getS2 X380 hx hZ377 hown377 (host := "") (Or.inl (hw _ (List.mem_of_getElem? (i := 50) rfl))) Via.refl rfl (SN.ext O381.2) (g := (mkF m 117 #[.val (.int p1), .val (.int p2), .val (.int p3), .val (.int p4), .val (.int p5), .val (.int p6), .val (.ref b375), .val .null, .val (.int (1 : Int32)), .val (.ref b380), .val (.int (0 : Int32))] [(.ref b380)])) rfl (hb hby at_117)
  obtain ⟨cq384, kq384, qa384, qb384, qc384⟩ := isOf hZ377 e383 g1380
  obtain ⟨_, _, ⟨T384, L384, k384, n384⟩, -, X384, ⟨Lc384, hQ384, l384, y384, z384⟩, st384⟩ := X383.virtualBack hx (y := (⟨"com/example/nimble_container/nimblecontainer/creation/MethodNaming", "named", "()Ljava/lang/String;"⟩ : MethodName)) (z := (⟨"com/example/nimble_container/nimblecontainer/creation/MethodNaming", "named", "()Ljava/lang/String;"⟩ : MethodName)) hown377 (mvT hZ377 (hw _ (List.mem_of_getElem? (i := 52) rfl))) (mvT hZ377 (hw _ (List.mem_of_getElem? (i := 53) rfl))) (notFace_of_selects (args := #[]) (mvT hZ377 (hw _ (List.mem_of_getElem? (i := 55) rfl)))) (mvT hZ377 (hw _ (List.mem_of_getElem? (i := 55) rfl))) (mvT hZ377 (hw _ (List.mem_of_getElem? (i := 54) rfl))) (by decide) (backOf (W := 0) (rmGNR l Z a0 hw [] b380 b375 T380.heap n0 O381 g2380) hZ377 (hw _ (List.mem_of_getElem? (i := 56) rfl)) (hw _ (List.mem_of_getElem? (i := 36) rfl)) (by decide) (by decide)) qa384 qc384 (g := (mkF m 125 #[.val (.int p1), .val (.int p2), .val (.int p3), .val (.int p4), .val (.int p5), .val (.int p6), .val (.ref b375), .val .null, .val (.int (1 : Int32)), .val (.ref b380), .val (.int (0 : Int32))] [(.ref b380)])) rfl (by rw [hml]; rfl) (Steps.refl _) (argsL := []) (rest := []) (lenOf pd___Ljava_lang_String_ rfl) rfl (by show 2 * 0 + _ ≤ _; exact Nat.le_of_eq rfl) (hb hby at_125) (fun _ _ => ⟨rfl, e383, (by decide : 9 + 0 ≤ _), (by decide : 19 + 0 ≤ _)⟩)
  dsimp only [Pt.U, Pt.locs, Pt.cells, Pt.slots] at X384 l384 y384 z384 st384 hQ384
  subst l384 y384 z384
  obtain ⟨rfl, N384q, e384⟩ := hQ384
  have N384 := Fr.app N380 N384q
  obtain ⟨cq385, kq385, qa385, qb385, qc385⟩ := isOf hZ377 e384 g1380
  obtain ⟨_, _, ⟨T385, L385, k385, n385⟩, -, X385, ⟨Lc385, hQ385, l385, y385, z385⟩, st385⟩ := X384.virtualBack hx (y := (⟨"com/example/nimble_container/nimblecontainer/creation/MethodNaming", "byDefault", "()Ljava/lang/String;"⟩ : MethodName)) (z := (⟨"com/example/nimble_container/nimblecontainer/creation/MethodNaming", "byDefault", "()Ljava/lang/String;"⟩ : MethodName)) hown377 (mvT hZ377 (hw _ (List.mem_of_getElem? (i := 57) rfl))) (mvT hZ377 (hw _ (List.mem_of_getElem? (i := 58) rfl))) (notFace_of_selects (args := #[]) (mvT hZ377 (hw _ (List.mem_of_getElem? (i := 60) rfl)))) (mvT hZ377 (hw _ (List.mem_of_getElem? (i := 60) rfl))) (mvT hZ377 (hw _ (List.mem_of_getElem? (i := 59) rfl))) (by decide) (backOf (W := 0) (rmGBN l Z a0 hw [] b380 nn T380.heap n0 O381 g3380) hZ377 (hw _ (List.mem_of_getElem? (i := 61) rfl)) (hw _ (List.mem_of_getElem? (i := 36) rfl)) (by decide) (by decide)) qa385 qc385 (g := (mkF m 135 #[.val (.int p1), .val (.int p2), .val (.int p3), .val (.int p4), .val (.int p5), .val (.int p6), .val (.ref b375), .val .null, .val (.int (1 : Int32)), .val (.ref b380), .val (.int (0 : Int32))] [(.ref b380)])) rfl (by rw [hml]; rfl) (Steps.refl _) (argsL := []) (rest := []) (lenOf pd___Ljava_lang_String_ rfl) rfl (by show 2 * 0 + _ ≤ _; exact Nat.le_of_eq rfl) (hb hby at_135) (fun _ _ => ⟨rfl, e384, (by decide : 9 + 0 ≤ _), (by decide : 19 + 0 ≤ _)⟩)
  dsimp only [Pt.U, Pt.locs, Pt.cells, Pt.slots] at X385 l385 y385 z385 st385 hQ385
  subst l385 y385 z385
  obtain ⟨rfl, N385q, e385⟩ := hQ385
  have N385 := Fr.app N384 N385q
  obtain ⟨cq386, kq386, qa386, qb386, qc386⟩ := isOf hZ377 e385 g1380
  obtain ⟨_, _, ⟨T386, L386, k386, n386⟩, -, X386, ⟨Lc386, hQ386, l386, y386, z386⟩, st386⟩ := X385.virtualBack hx (y := (⟨"com/example/nimble_container/nimblecontainer/creation/MethodNaming", "inferred", "()Z"⟩ : MethodName)) (z := (⟨"com/example/nimble_container/nimblecontainer/creation/MethodNaming", "inferred", "()Z"⟩ : MethodName)) hown377 (mvT hZ377 (hw _ (List.mem_of_getElem? (i := 62) rfl))) (mvT hZ377 (hw _ (List.mem_of_getElem? (i := 63) rfl))) (notFace_of_selects (args := #[]) (mvT hZ377 (hw _ (List.mem_of_getElem? (i := 65) rfl)))) (mvT hZ377 (hw _ (List.mem_of_getElem? (i := 65) rfl))) (mvT hZ377 (hw _ (List.mem_of_getElem? (i := 64) rfl))) (by decide) (backOf (W := 0) (rmGI1 l Z a0 hw [] b380 T380.heap n0 O381 g4380) hZ377 (hw _ (List.mem_of_getElem? (i := 66) rfl)) (hw _ (List.mem_of_getElem? (i := 36) rfl)) (by decide) (by decide)) qa386 qc386 (g := (mkF m 145 #[.val (.int p1), .val (.int p2), .val (.int p3), .val (.int p4), .val (.int p5), .val (.int p6), .val (.ref b375), .val .null, .val (.int (1 : Int32)), .val (.ref b380), .val (.int (0 : Int32))] [(.ref b380)])) rfl (by rw [hml]; rfl) (Steps.refl _) (argsL := []) (rest := []) (lenOf pd___Z rfl) rfl (by show 2 * 0 + _ ≤ _; exact Nat.le_of_eq rfl) (hb hby at_145) (fun _ _ => ⟨rfl, e385, (by decide : 9 + 0 ≤ _), (by decide : 19 + 0 ≤ _)⟩)
  dsimp only [Pt.U, Pt.locs, Pt.cells, Pt.slots] at X386 l386 y386 z386 st386 hQ386
  subst l386 y386 z386
  obtain ⟨rfl, N386q, e386⟩ := hQ386
  have N386 := Fr.app N385 N386q
  obtain ⟨fs, hr, hrun, hended, hEnd⟩ := X386.leaveW (s := s) hS377r (by rw [e386]; exact hk381) (v := some (.int (1 : Int32))) (fun h => by rw [Bd.returns] at h; cases h)
  refine ⟨_, _, pre0 _ ?_, hrun, hended, _, _, rfl, ?_, ?_, hEnd.1, hEnd.2.1, hEnd.2.2.1, hEnd.2.2.2.mono (by decide) (by decide)⟩
  · show Steps p.tables e below (s₁.setTop (mkF m 0 #[.val (.int p1), .val (.int p2), .val (.int p3), .val (.int p4), .val (.int p5), .val (.int p6), .unset, .unset, .unset, .unset, .unset] [])) _
    refine XS.iloadN X0.here hx rfl (hb hby at_0) rfl ?_
    show Steps p.tables e below (s₁.setTop (mkF m 1 #[.val (.int p1), .val (.int p2), .val (.int p3), .val (.int p4), .val (.int p5), .val (.int p6), .unset, .unset, .unset, .unset, .unset] [(.int p1)])) _
    refine XS.iloadN X0.here hx rfl (hb hby at_1) rfl ?_
    show Steps p.tables e below (s₁.setTop (mkF m 2 #[.val (.int p1), .val (.int p2), .val (.int p3), .val (.int p4), .val (.int p5), .val (.int p6), .unset, .unset, .unset, .unset, .unset] [(.int p4), (.int p1)])) _
    refine XS.iload X0.here hx rfl (hb hby at_2) rfl ?_
    show Steps p.tables e below (s₁.setTop (mkF m 4 #[.val (.int p1), .val (.int p2), .val (.int p3), .val (.int p4), .val (.int p5), .val (.int p6), .unset, .unset, .unset, .unset, .unset] [(.int p5), (.int p4), (.int p1)])) _
    refine st375.trans ?_
    show Steps p.tables e below (T375.setTop (mkF m 7 #[.val (.int p1), .val (.int p2), .val (.int p3), .val (.int p4), .val (.int p5), .val (.int p6), .unset, .unset, .unset, .unset, .unset] [(.ref b375)])) _
    refine XS.astore X375r.here hx rfl (hb hby at_7) rfl rfl (l' := #[.val (.int p1), .val (.int p2), .val (.int p3), .val (.int p4), .val (.int p5), .val (.int p6), .val (.ref b375), .unset, .unset, .unset, .unset]) rfl ?_
    show Steps p.tables e below (T375.setTop (mkF m 9 #[.val (.int p1), .val (.int p2), .val (.int p3), .val (.int p4), .val (.int p5), .val (.int p6), .val (.ref b375), .unset, .unset, .unset, .unset] [])) _
    refine XS.iloadN X375r.here hx rfl (hb hby at_9) rfl ?_
    show Steps p.tables e below (T375.setTop (mkF m 10 #[.val (.int p1), .val (.int p2), .val (.int p3), .val (.int p4), .val (.int p5), .val (.int p6), .val (.ref b375), .unset, .unset, .unset, .unset] [(.int p2)])) _
    refine XS.iload X375r.here hx rfl (hb hby at_10) rfl ?_
    show Steps p.tables e below (T375.setTop (mkF m 12 #[.val (.int p1), .val (.int p2), .val (.int p3), .val (.int p4), .val (.int p5), .val (.int p6), .val (.ref b375), .unset, .unset, .unset, .unset] [(.int p6), (.int p2)])) _
    refine XS.iload X375r.here hx rfl (hb hby at_12) rfl ?_
    show Steps p.tables e below (T375.setTop (mkF m 14 #[.val (.int p1), .val (.int p2), .val (.int p3), .val (.int p4), .val (.int p5), .val (.int p6), .val (.ref b375), .unset, .unset, .unset, .unset] [(.int p5), (.int p6), (.int p2)])) _
    refine st377.trans ?_
    show Steps p.tables e below (T377.setTop (mkF m 17 #[.val (.int p1), .val (.int p2), .val (.int p3), .val (.int p4), .val (.int p5), .val (.int p6), .val (.ref b375), .unset, .unset, .unset, .unset] [.null])) _
    refine XS.astore X377r.here hx rfl (hb hby at_17) rfl rfl (l' := #[.val (.int p1), .val (.int p2), .val (.int p3), .val (.int p4), .val (.int p5), .val (.int p6), .val (.ref b375), .val .null, .unset, .unset, .unset]) rfl ?_
    show Steps p.tables e below (T377.setTop (mkF m 19 #[.val (.int p1), .val (.int p2), .val (.int p3), .val (.int p4), .val (.int p5), .val (.int p6), .val (.ref b375), .val .null, .unset, .unset, .unset] [])) _
    refine XS.iloadN X377r.here hx rfl (hb hby at_19) rfl ?_
    show Steps p.tables e below (T377.setTop (mkF m 20 #[.val (.int p1), .val (.int p2), .val (.int p3), .val (.int p4), .val (.int p5), .val (.int p6), .val (.ref b375), .val .null, .unset, .unset, .unset] [(.int p3)])) _
    refine XS.iconst X377r.here hx rfl (hb hby at_20) ?_
    show Steps p.tables e below (T377.setTop (mkF m 21 #[.val (.int p1), .val (.int p2), .val (.int p3), .val (.int p4), .val (.int p5), .val (.int p6), .val (.ref b375), .val .null, .unset, .unset, .unset] [(.int (1 : Int32)), (.int p3)])) _
    refine XS.iand X377r.here hx rfl (hb hby at_21) rfl ?_
    show Steps p.tables e below (T377.setTop (mkF m 22 #[.val (.int p1), .val (.int p2), .val (.int p3), .val (.int p4), .val (.int p5), .val (.int p6), .val (.ref b375), .val .null, .unset, .unset, .unset] [(.int (p3 &&& (1 : Int32)))])) _
    refine XS.ifNo X377r.here hx rfl (hb hby at_22) rfl ((if0 _ _).trans (feq (qf : ¬ ((p3 &&& (1 : Int32)) = (0 : Int32)))).1) ?_
    show Steps p.tables e below (T377.setTop (mkF m 25 #[.val (.int p1), .val (.int p2), .val (.int p3), .val (.int p4), .val (.int p5), .val (.int p6), .val (.ref b375), .val .null, .unset, .unset, .unset] [])) _
    refine XS.iconst X377r.here hx rfl (hb hby at_25) ?_
    show Steps p.tables e below (T377.setTop (mkF m 26 #[.val (.int p1), .val (.int p2), .val (.int p3), .val (.int p4), .val (.int p5), .val (.int p6), .val (.ref b375), .val .null, .unset, .unset, .unset] [(.int (1 : Int32))])) _
    refine XS.goto X377r.here hx rfl (pc0 := 26) (pc' := 30) rfl (hb hby at_26) (by decide) (by decide) ?_
    show Steps p.tables e below (T377.setTop (mkF m 30 #[.val (.int p1), .val (.int p2), .val (.int p3), .val (.int p4), .val (.int p5), .val (.int p6), .val (.ref b375), .val .null, .unset, .unset, .unset] [(.int (1 : Int32))])) _
    refine XS.istore X377r.here hx rfl (hb hby at_30) rfl (l' := #[.val (.int p1), .val (.int p2), .val (.int p3), .val (.int p4), .val (.int p5), .val (.int p6), .val (.ref b375), .val .null, .val (.int (1 : Int32)), .unset, .unset]) rfl ?_
    show Steps p.tables e below (T377.setTop (mkF m 32 #[.val (.int p1), .val (.int p2), .val (.int p3), .val (.int p4), .val (.int p5), .val (.int p6), .val (.ref b375), .val .null, .val (.int (1 : Int32)), .unset, .unset] [])) _
    refine XS.aload X377r.here hx rfl (hb hby at_32) rfl rfl ?_
    show Steps p.tables e below (T377.setTop (mkF m 34 #[.val (.int p1), .val (.int p2), .val (.int p3), .val (.int p4), .val (.int p5), .val (.int p6), .val (.ref b375), .val .null, .val (.int (1 : Int32)), .unset, .unset] [(.ref b375)])) _
    refine XS.aload X377r.here hx rfl (hb hby at_34) rfl rfl ?_
    show Steps p.tables e below (T377.setTop (mkF m 36 #[.val (.int p1), .val (.int p2), .val (.int p3), .val (.int p4), .val (.int p5), .val (.int p6), .val (.ref b375), .val .null, .val (.int (1 : Int32)), .unset, .unset] [.null, (.ref b375)])) _
    refine XS.iload X377r.here hx rfl (hb hby at_36) rfl ?_
    show Steps p.tables e below (T377.setTop (mkF m 38 #[.val (.int p1), .val (.int p2), .val (.int p3), .val (.int p4), .val (.int p5), .val (.int p6), .val (.ref b375), .val .null, .val (.int (1 : Int32)), .unset, .unset] [(.int (1 : Int32)), .null, (.ref b375)])) _
    refine st380 _ ?_
    show Steps p.tables e below (T380.setTop (mkF m 41 #[.val (.int p1), .val (.int p2), .val (.int p3), .val (.int p4), .val (.int p5), .val (.int p6), .val (.ref b375), .val .null, .val (.int (1 : Int32)), .unset, .unset] [(.ref b380)])) _
    refine XS.astore X380.here hx rfl (hb hby at_41) rfl rfl (l' := #[.val (.int p1), .val (.int p2), .val (.int p3), .val (.int p4), .val (.int p5), .val (.int p6), .val (.ref b375), .val .null, .val (.int (1 : Int32)), .val (.ref b380), .unset]) rfl ?_
    show Steps p.tables e below (T380.setTop (mkF m 43 #[.val (.int p1), .val (.int p2), .val (.int p3), .val (.int p4), .val (.int p5), .val (.int p6), .val (.ref b375), .val .null, .val (.int (1 : Int32)), .val (.ref b380), .unset] [])) _
    refine XS.aload X380.here hx rfl (hb hby at_43) rfl rfl ?_
    show Steps p.tables e below (T380.setTop (mkF m 45 #[.val (.int p1), .val (.int p2), .val (.int p3), .val (.int p4), .val (.int p5), .val (.int p6), .val (.ref b375), .val .null, .val (.int (1 : Int32)), .val (.ref b380), .unset] [(.ref b380)])) _
    refine XS.ifnonnullYes X380.here hx rfl (pc0 := 45) (pc' := 50) rfl (hb hby at_45) rfl (by decide) (by decide) ?_
    show Steps p.tables e below (T380.setTop (mkF m 50 #[.val (.int p1), .val (.int p2), .val (.int p3), .val (.int p4), .val (.int p5), .val (.int p6), .val (.ref b375), .val .null, .val (.int (1 : Int32)), .val (.ref b380), .unset] [])) _
    refine XS.aload X380.here hx rfl (hb hby at_50) rfl rfl ?_
    show Steps p.tables e below (T380.setTop (mkF m 52 #[.val (.int p1), .val (.int p2), .val (.int p3), .val (.int p4), .val (.int p5), .val (.int p6), .val (.ref b375), .val .null, .val (.int (1 : Int32)), .val (.ref b380), .unset] [(.ref b375)])) _
    refine XS.ifnonnullYes X380.here hx rfl (pc0 := 52) (pc' := 69) rfl (hb hby at_52) rfl (by decide) (by decide) ?_
    show Steps p.tables e below (T380.setTop (mkF m 69 #[.val (.int p1), .val (.int p2), .val (.int p3), .val (.int p4), .val (.int p5), .val (.int p6), .val (.ref b375), .val .null, .val (.int (1 : Int32)), .val (.ref b380), .unset] [])) _
    refine XS.iconst X380.here hx rfl (hb hby at_69) ?_
    show Steps p.tables e below (T380.setTop (mkF m 70 #[.val (.int p1), .val (.int p2), .val (.int p3), .val (.int p4), .val (.int p5), .val (.int p6), .val (.ref b375), .val .null, .val (.int (1 : Int32)), .val (.ref b380), .unset] [(.int (0 : Int32))])) _
    refine XS.istore X380.here hx rfl (hb hby at_70) rfl (l' := #[.val (.int p1), .val (.int p2), .val (.int p3), .val (.int p4), .val (.int p5), .val (.int p6), .val (.ref b375), .val .null, .val (.int (1 : Int32)), .val (.ref b380), .val (.int (0 : Int32))]) rfl ?_
    show Steps p.tables e below (T380.setTop (mkF m 72 #[.val (.int p1), .val (.int p2), .val (.int p3), .val (.int p4), .val (.int p5), .val (.int p6), .val (.ref b375), .val .null, .val (.int (1 : Int32)), .val (.ref b380), .val (.int (0 : Int32))] [])) _
    refine XS.iload X380.here hx rfl (hb hby at_72) rfl ?_
    show Steps p.tables e below (T380.setTop (mkF m 74 #[.val (.int p1), .val (.int p2), .val (.int p3), .val (.int p4), .val (.int p5), .val (.int p6), .val (.ref b375), .val .null, .val (.int (1 : Int32)), .val (.ref b380), .val (.int (0 : Int32))] [(.int (0 : Int32))])) _
    refine XS.ifYes X380.here hx rfl (pc0 := 74) (pc' := 115) rfl (hb hby at_74) rfl ((if0 _ _).trans (teq (rfl : (0 : Int32) = (0 : Int32))).1) (by decide) (by decide) ?_
    show Steps p.tables e below (T380.setTop (mkF m 115 #[.val (.int p1), .val (.int p2), .val (.int p3), .val (.int p4), .val (.int p5), .val (.int p6), .val (.ref b375), .val .null, .val (.int (1 : Int32)), .val (.ref b380), .val (.int (0 : Int32))] [])) _
    refine XS.aload X380.here hx rfl (hb hby at_115) rfl rfl ?_
    show Steps p.tables e below (T380.setTop (mkF m 117 #[.val (.int p1), .val (.int p2), .val (.int p3), .val (.int p4), .val (.int p5), .val (.int p6), .val (.ref b375), .val .null, .val (.int (1 : Int32)), .val (.ref b380), .val (.int (0 : Int32))] [(.ref b380)])) _
    refine st383 _ ?_
    show Steps p.tables e below (T383.setTop (mkF m 120 #[.val (.int p1), .val (.int p2), .val (.int p3), .val (.int p4), .val (.int p5), .val (.int p6), .val (.ref b375), .val .null, .val (.int (1 : Int32)), .val (.ref b380), .val (.int (0 : Int32))] [(.ref nn), (.ref b380)])) _
    refine Jvm.RoadKit.acmp (g := (mkF m 120 #[.val (.int p1), .val (.int p2), .val (.int p3), .val (.int p4), .val (.int p5), .val (.int p6), .val (.ref b375), .val .null, .val (.int (1 : Int32)), .val (.ref b380), .val (.int (0 : Int32))] [(.ref nn), (.ref b380)])) X383 hx rfl rfl rfl (pc0 := 120) (pc' := 123) (same := false) rfl (hb hby at_120) rfl (decide_eq_false fun q => (Ne.symm (Old.ne O0 EN.lt g_b380)) (Value.ref.inj q)) (by decide) (by decide) ?_
    show Steps p.tables e below (T383.setTop (mkF m 123 #[.val (.int p1), .val (.int p2), .val (.int p3), .val (.int p4), .val (.int p5), .val (.int p6), .val (.ref b375), .val .null, .val (.int (1 : Int32)), .val (.ref b380), .val (.int (0 : Int32))] [])) _
    refine XS.aload X383.here hx rfl (hb hby at_123) rfl rfl ?_
    show Steps p.tables e below (T383.setTop (mkF m 125 #[.val (.int p1), .val (.int p2), .val (.int p3), .val (.int p4), .val (.int p5), .val (.int p6), .val (.ref b375), .val .null, .val (.int (1 : Int32)), .val (.ref b380), .val (.int (0 : Int32))] [(.ref b380)])) _
    refine st384.trans ?_
    show Steps p.tables e below (T384.setTop (mkF m 128 #[.val (.int p1), .val (.int p2), .val (.int p3), .val (.int p4), .val (.int p5), .val (.int p6), .val (.ref b375), .val .null, .val (.int (1 : Int32)), .val (.ref b380), .val (.int (0 : Int32))] [(.ref b375)])) _
    refine XS.aload X384.here hx rfl (hb hby at_128) rfl rfl ?_
    show Steps p.tables e below (T384.setTop (mkF m 130 #[.val (.int p1), .val (.int p2), .val (.int p3), .val (.int p4), .val (.int p5), .val (.int p6), .val (.ref b375), .val .null, .val (.int (1 : Int32)), .val (.ref b380), .val (.int (0 : Int32))] [(.ref b375), (.ref b375)])) _
    refine Jvm.RoadKit.acmp (g := (mkF m 130 #[.val (.int p1), .val (.int p2), .val (.int p3), .val (.int p4), .val (.int p5), .val (.int p6), .val (.ref b375), .val .null, .val (.int (1 : Int32)), .val (.ref b380), .val (.int (0 : Int32))] [(.ref b375), (.ref b375)])) X384 hx rfl rfl rfl (pc0 := 130) (pc' := 133) (same := true) rfl (hb hby at_130) rfl (decide_eq_true rfl) (by decide) (by decide) ?_
    show Steps p.tables e below (T384.setTop (mkF m 133 #[.val (.int p1), .val (.int p2), .val (.int p3), .val (.int p4), .val (.int p5), .val (.int p6), .val (.ref b375), .val .null, .val (.int (1 : Int32)), .val (.ref b380), .val (.int (0 : Int32))] [])) _
    refine XS.aload X384.here hx rfl (hb hby at_133) rfl rfl ?_
    show Steps p.tables e below (T384.setTop (mkF m 135 #[.val (.int p1), .val (.int p2), .val (.int p3), .val (.int p4), .val (.int p5), .val (.int p6), .val (.ref b375), .val .null, .val (.int (1 : Int32)), .val (.ref b380), .val (.int (0 : Int32))] [(.ref b380)])) _
    refine st385.trans ?_
    show Steps p.tables e below (T385.setTop (mkF m 138 #[.val (.int p1), .val (.int p2), .val (.int p3), .val (.int p4), .val (.int p5), .val (.int p6), .val (.ref b375), .val .null, .val (.int (1 : Int32)), .val (.ref b380), .val (.int (0 : Int32))] [.null])) _
    refine XS.aload X385.here hx rfl (hb hby at_138) rfl rfl ?_
    show Steps p.tables e below (T385.setTop (mkF m 140 #[.val (.int p1), .val (.int p2), .val (.int p3), .val (.int p4), .val (.int p5), .val (.int p6), .val (.ref b375), .val .null, .val (.int (1 : Int32)), .val (.ref b380), .val (.int (0 : Int32))] [.null, .null])) _
    refine Jvm.RoadKit.acmp (g := (mkF m 140 #[.val (.int p1), .val (.int p2), .val (.int p3), .val (.int p4), .val (.int p5), .val (.int p6), .val (.ref b375), .val .null, .val (.int (1 : Int32)), .val (.ref b380), .val (.int (0 : Int32))] [.null, .null])) X385 hx rfl rfl rfl (pc0 := 140) (pc' := 143) (same := true) rfl (hb hby at_140) rfl (decide_eq_true rfl) (by decide) (by decide) ?_
    show Steps p.tables e below (T385.setTop (mkF m 143 #[.val (.int p1), .val (.int p2), .val (.int p3), .val (.int p4), .val (.int p5), .val (.int p6), .val (.ref b375), .val .null, .val (.int (1 : Int32)), .val (.ref b380), .val (.int (0 : Int32))] [])) _
    refine XS.aload X385.here hx rfl (hb hby at_143) rfl rfl ?_
    show Steps p.tables e below (T385.setTop (mkF m 145 #[.val (.int p1), .val (.int p2), .val (.int p3), .val (.int p4), .val (.int p5), .val (.int p6), .val (.ref b375), .val .null, .val (.int (1 : Int32)), .val (.ref b380), .val (.int (0 : Int32))] [(.ref b380)])) _
    refine st386.trans ?_
    show Steps p.tables e below (T386.setTop (mkF m 148 #[.val (.int p1), .val (.int p2), .val (.int p3), .val (.int p4), .val (.int p5), .val (.int p6), .val (.ref b375), .val .null, .val (.int (1 : Int32)), .val (.ref b380), .val (.int (0 : Int32))] [(.int (1 : Int32))])) _
    refine XS.iload X386.here hx rfl (hb hby at_148) rfl ?_
    show Steps p.tables e below (T386.setTop (mkF m 150 #[.val (.int p1), .val (.int p2), .val (.int p3), .val (.int p4), .val (.int p5), .val (.int p6), .val (.ref b375), .val .null, .val (.int (1 : Int32)), .val (.ref b380), .val (.int (0 : Int32))] [(.int (1 : Int32)), (.int (1 : Int32))])) _
    refine XS.icmpNo X386.here hx rfl (hb hby at_150) rfl (teq (rfl : (1 : Int32) = (1 : Int32))).2 ?_
    show Steps p.tables e below (T386.setTop (mkF m 153 #[.val (.int p1), .val (.int p2), .val (.int p3), .val (.int p4), .val (.int p5), .val (.int p6), .val (.ref b375), .val .null, .val (.int (1 : Int32)), .val (.ref b380), .val (.int (0 : Int32))] [])) _
    refine XS.iconst X386.here hx rfl (hb hby at_153) ?_
    show Steps p.tables e below (T386.setTop (mkF m 154 #[.val (.int p1), .val (.int p2), .val (.int p3), .val (.int p4), .val (.int p5), .val (.int p6), .val (.ref b375), .val .null, .val (.int (1 : Int32)), .val (.ref b380), .val (.int (0 : Int32))] [(.int (1 : Int32))])) _
    refine XS.goto X386.here hx rfl (pc0 := 154) (pc' := 158) rfl (hb hby at_154) (by decide) (by decide) ?_
    show Steps p.tables e below (T386.setTop (mkF m 158 #[.val (.int p1), .val (.int p2), .val (.int p3), .val (.int p4), .val (.int p5), .val (.int p6), .val (.ref b375), .val .null, .val (.int (1 : Int32)), .val (.ref b380), .val (.int (0 : Int32))] [(.int (1 : Int32))])) _
    exact retN X386 hx (t := .boolean) Bd.returns (by simp) (hb hby at_158) hr
  · show Qlaw Z h0 n0 _ T386.heap _
    rw [e386]
    exact ⟨rfl, N386⟩
  · show CHr Z [("java/lang/String", 7)] s.vm s.heap T386.vm T386.heap
    rw [hh, e386]
    exact HC381.trans (CHv.at X386 hZ377 hEL HC381.1)
theorem ef_rmLawRR0 (m : MethodId) (x0 : Int32) (x1 : Int32) (x2 : Int32) (x3 : Int32) (x4 : Int32) (x5 : Int32) : entryFrame m #[(.int x0), (.int x1), (.int x2), (.int x3), (.int x4), (.int x5)] maxLocals = mkF m 0 #[.val (.int x0), .val (.int x1), .val (.int x2), .val (.int x3), .val (.int x4), .val (.int x5), .unset, .unset, .unset, .unset, .unset] [] := by first | (simp [entryFrame, mkF, argsToLocals, Value.category, maxLocals]; done) | rfl
set_option maxRecDepth 65536 in
set_option maxHeartbeats 40000000 in
theorem rmLawRR0 (l : Launch) (Z : State) (a0 : Array Value) (hw : ∀ d ∈ tables_1, d.before a0 Z = true) (ws : List Jvm.Cond) (p1 p2 p3 p4 p5 p6 GC : Int32) (nn : Addr) (h0 : Heap) (n0 : Nat) (O0 : Old Z n0 h0) (hEL : EW Z a0 [("java/lang/String", 7)]) (wS : ∀ a ∈ Bundle.stringAtoms, a.before a0 Z = true) (OC2 : Sta Z Z.heap "java/lang/String" "COMPACT_STRINGS" "Z" (.int GC)) (OCz : ¬ (GC = (0 : Int32))) (SN : Sta Z Z.heap "com/example/nimble_container/nimblecontainer/creation/MethodNaming" "NONE" "Lcom/example/nimble_container/nimblecontainer/creation/MethodNaming;" (.ref nn)) (EN : Exa Z Z.heap nn "com/example/nimble_container/nimblecontainer/creation/MethodNaming") (N0f : Fld Z Z.heap nn "com/example/nimble_container/nimblecontainer/creation/MethodNaming" "named" "Ljava/lang/String;" .null) (N1f : Fld Z Z.heap nn "com/example/nimble_container/nimblecontainer/creation/MethodNaming" "byDefault" "Ljava/lang/String;" .null) (N2f : Fld Z Z.heap nn "com/example/nimble_container/nimblecontainer/creation/MethodNaming" "inferred" "Z" (.int (0 : Int32))) (qn : ¬ ((p1 &&& (3 : Int32)) = (0 : Int32))) (qd : ¬ ((p2 &&& (3 : Int32)) = (0 : Int32))) (qf : (p3 &&& (1 : Int32)) = (0 : Int32)) :
    MetFree l x (head1 (Jvm.Cond.code x code maxLocals ret :: ws) room_1) (fun aa_ U => aa_ = #[(.int p1), (.int p2), (.int p3), (.int p4), (.int p5), (.int p6)] ∧ Z.Warmed39 U.vm ∧ U.heap = h0 ∧ CHv Z [("java/lang/String", 7)] U.vm h0) (fun _ _ _ _ _ => True) (fun _ U o U' => ∃ v L, o = .returned v ∧ Qlaw Z h0 n0 v U'.heap L ∧ CHr Z [("java/lang/String", 7)] U.vm U.heap U'.vm U'.heap ∧ ReturnedEndW U o U' L room_1.cells room_1.slots) := by
  refine MetFree.of_bodySF (plainFor_of_name pn_com_example_nimble_container_nimblecontainer_creation_MethodNamingOfPinLaw) hisR ?_
  intro p e s m args below meth c s₁ Bd hml0 hP hK
  obtain ⟨rfl, hZ, hh, hC0⟩ := hP
  have hx := Bd.exec
  have hby := Bd.bytes
  have hml : c.maxLocals = 11 := hml0
  have hown : s.vm.findClass "com/example/nimble_container/nimblecontainer/creation/MethodNamingOfPinLaw" = some m.cls := findClass_of_methodNamed Bd.named
  have hnm := (name_of_methodNamed Bd.named Bd.method).1
  have X0 : Stand p l e room_1 (s.setVm s.vm) m #[(.int p1), (.int p2), (.int p3), (.int p4), (.int p5), (.int p6)] below meth c s₁ [] 0 0 := Stand.of_body Bd
  have e0 : s₁.heap = h0 := by rw [← hh, Bd.state]; rfl
  have N0 := Fr.nil n0
  have Z0 : n0 ≤ h0.size := O0.1 ▸ O0.2.1
  have K0 : Keep h0 h0 [] := Keep.refl _ _
  have hS0 : s.Since s.vm h0.size := (State.WarmedH.refl s).since _
  have hk0 : h0.size ≤ h0.size := Nat.le_refl _
  have HC0 : CHr Z [("java/lang/String", 7)] s.vm h0 s.vm h0 := CHr.refl hC0
  have pre0 : ∀ tgt_, Steps p.tables e below (s₁.setTop (mkF m 0 #[.val (.int p1), .val (.int p2), .val (.int p3), .val (.int p4), .val (.int p5), .val (.int p6), .unset, .unset, .unset, .unset, .unset] [])) tgt_ → Steps p.tables e below (s₁.setTop (entryFrame m #[(.int p1), (.int p2), (.int p3), (.int p4), (.int p5), (.int p6)] maxLocals)) tgt_ := fun tgt_ k => castTop (ef_rmLawRR0 m p1 p2 p3 p4 p5 p6) k
  obtain ⟨_, _, ⟨T387, L387, k387, n387⟩, -, X387, hS387, hg387, ⟨Lc387, hQ387, l387, y387, z387, HR387⟩, st387⟩ := Jvm.RoadKit.callSS X0 hx (y := (⟨"com/example/nimble_container/nimblecontainer/creation/MethodNamingOfPinLaw", "draw", "(III)Ljava/lang/String;"⟩ : MethodName)) hown (mvT hZ (hw _ (List.mem_of_getElem? (i := 0) rfl))) (mvT hZ (hw _ (List.mem_of_getElem? (i := 1) rfl))) (mvT hZ (hw _ (List.mem_of_getElem? (i := 2) rfl))) (mvT hZ (hw _ (List.mem_of_getElem? (i := 3) rfl))) (by decide) (backOfSH (s := s) (W := 0) (rmD l Z a0 hw [] p1 p4 p5 GC h0 n0 O0 hEL wS OC2 OCz qn) hZ (hw _ (List.mem_of_getElem? (i := 3) rfl)) (hw _ (List.mem_of_getElem? (i := 2) rfl)) (by decide) (by decide) hEL HC0.1) (g := (mkF m 4 #[.val (.int p1), .val (.int p2), .val (.int p3), .val (.int p4), .val (.int p5), .val (.int p6), .unset, .unset, .unset, .unset, .unset] [(.int p5), (.int p4), (.int p1)])) rfl (by rw [hml]; rfl) (argsL := [(.int p1), (.int p4), (.int p5)]) (rest := []) (lenOf pd__III_Ljava_lang_String_ rfl) rfl (by show 2 * 0 + _ ≤ _; exact Nat.le_of_eq rfl) (hb hby at_4) (fun _ _ => ⟨rfl, e0, (by decide : 0 + 4 ≤ _), (by decide : 0 + 8 ≤ _)⟩)
  dsimp only [Pt.U, Pt.locs, Pt.cells, Pt.slots] at X387 l387 y387 z387 st387 hQ387 hS387 hg387 HR387
  subst l387 y387 z387
  obtain ⟨b387, rfl, N387q, K387k, hf387, g1387⟩ := hQ387
  have N387 := Fr.app N0 N387q
  obtain ⟨X387r, hS387r, hZ387, hown387⟩ := rebS hS0 (by rw [e0]; exact hk0) X387 hS387 hg387 hZ hown
  have O388 : Old Z n0 T387.heap := O0.keep K387k all0
  have Z388 : n0 ≤ T387.heap.size := Nat.le_trans Z0 K387k.1
  have K388 : Keep h0 T387.heap [] := K0.trans K387k all0
  have HC388 : CHr Z [("java/lang/String", 7)] s.vm h0 T387.vm T387.heap := HC0.trans HR387
  have g_b387 : n0 ≤ b387 := Nat.le_trans Z0 hf387
  have sz_b387 : h0.size ≤ b387 := Nat.le_trans K0.1 hf387
  obtain ⟨_, _, ⟨T389, L389, k389, n389⟩, -, X389, hS389, hg389, ⟨Lc389, hQ389, l389, y389, z389, HR389⟩, st389⟩ := Jvm.RoadKit.callSS X387r hx (y := (⟨"com/example/nimble_container/nimblecontainer/creation/MethodNamingOfPinLaw", "draw", "(III)Ljava/lang/String;"⟩ : MethodName)) hown387 (mvT hZ387 (hw _ (List.mem_of_getElem? (i := 0) rfl))) (mvT hZ387 (hw _ (List.mem_of_getElem? (i := 1) rfl))) (mvT hZ387 (hw _ (List.mem_of_getElem? (i := 2) rfl))) (mvT hZ387 (hw _ (List.mem_of_getElem? (i := 3) rfl))) (by decide) (backOfSH (s := s) (W := 0) (rmD l Z a0 hw [] p2 p6 p5 GC T387.heap n0 O388 hEL wS OC2 OCz qd) hZ387 (hw _ (List.mem_of_getElem? (i := 3) rfl)) (hw _ (List.mem_of_getElem? (i := 2) rfl)) (by decide) (by decide) hEL HC388.1) (g := (mkF m 14 #[.val (.int p1), .val (.int p2), .val (.int p3), .val (.int p4), .val (.int p5), .val (.int p6), .val (.ref b387), .unset, .unset, .unset, .unset] [(.int p5), (.int p6), (.int p2)])) rfl (by rw [hml]; rfl) (argsL := [(.int p2), (.int p6), (.int p5)]) (rest := []) (lenOf pd__III_Ljava_lang_String_ rfl) rfl (by show 2 * 0 + _ ≤ _; exact Nat.le_of_eq rfl) (hb hby at_14) (fun _ _ => ⟨rfl, rfl, (by decide : 4 + 4 ≤ _), (by decide : 8 + 8 ≤ _)⟩)
  dsimp only [Pt.U, Pt.locs, Pt.cells, Pt.slots] at X389 l389 y389 z389 st389 hQ389 hS389 hg389 HR389
  subst l389 y389 z389
  obtain ⟨b389, rfl, N389q, K389k, hf389, g1389⟩ := hQ389
  have N389 := Fr.app N387 N389q
  obtain ⟨X389r, hS389r, hZ389, hown389⟩ := rebS hS387r (Nat.le_refl _) X389 hS389 hg389 hZ387 hown387
  have O390 : Old Z n0 T389.heap := O388.keep K389k all0
  have Z390 : n0 ≤ T389.heap.size := Nat.le_trans Z388 K389k.1
  have K390 : Keep h0 T389.heap [] := K388.trans K389k all0
  have HC390 : CHr Z [("java/lang/String", 7)] s.vm h0 T389.vm T389.heap := HC388.trans HR389
  have f391 : Exa Z T389.heap b387 "java/lang/String" := g1387.keep K389k
  have g_b389 : n0 ≤ b389 := Nat.le_trans Z388 hf389
  have sz_b389 : h0.size ≤ b389 := Nat.le_trans K388.1 hf389
  obtain ⟨_, _, ⟨T392, L392, k392, n392⟩, -, X392, ⟨Lc392, hQ392, l392, y392, z392⟩, st392⟩ := Jvm.LawKit.callS X389r hx (y := (⟨"com/example/nimble_container/nimblecontainer/creation/MethodNaming", "of", "(Ljava/lang/String;Ljava/lang/String;Z)Lcom/example/nimble_container/nimblecontainer/creation/MethodNaming;"⟩ : MethodName)) hown389 (mvT hZ389 (hw _ (List.mem_of_getElem? (i := 34) rfl))) (mvT hZ389 (hw _ (List.mem_of_getElem? (i := 35) rfl))) (mvT hZ389 (hw _ (List.mem_of_getElem? (i := 36) rfl))) (mvT hZ389 (hw _ (List.mem_of_getElem? (i := 37) rfl))) (by decide) (backOf (W := 0) (rmOfRR0 l Z a0 hw [] b387 b389 T389.heap n0 O390) hZ389 (hw _ (List.mem_of_getElem? (i := 37) rfl)) (hw _ (List.mem_of_getElem? (i := 36) rfl)) (by decide) (by decide)) (g := (mkF m 38 #[.val (.int p1), .val (.int p2), .val (.int p3), .val (.int p4), .val (.int p5), .val (.int p6), .val (.ref b387), .val (.ref b389), .val (.int (0 : Int32)), .unset, .unset] [(.int (0 : Int32)), (.ref b389), (.ref b387)])) rfl (by rw [hml]; rfl) (argsL := [(.ref b387), (.ref b389), (.int (0 : Int32))]) (rest := []) (lenOf pd__Ljava_lang_String_Ljava_lang_String_Z_Lcom_example_nimble_container_nimblecontainer_creation_MethodNaming_ rfl) rfl (by show 2 * 0 + _ ≤ _; exact Nat.le_of_eq rfl) (hb hby at_38) (fun _ _ => ⟨rfl, rfl, (by decide : 8 + 1 ≤ _), (by decide : 16 + 3 ≤ _)⟩)
  dsimp only [Pt.U, Pt.locs, Pt.cells, Pt.slots] at X392 l392 y392 z392 st392 hQ392
  subst l392 y392 z392
  obtain ⟨b392, rfl, N392q, K392k, hf392, g1392, g2392, g3392, g4392⟩ := hQ392
  have N392 := Fr.app N389 N392q
  have O393 : Old Z n0 T392.heap := O390.keep K392k all0
  have Z393 : n0 ≤ T392.heap.size := Nat.le_trans Z390 K392k.1
  have K393 : Keep h0 T392.heap [] := K390.trans K392k all0
  have HC393 : CHr Z [("java/lang/String", 7)] s.vm h0 T389.vm T392.heap := HC390.trans (CHr.keep K392k sf0 HC390.1)
  have hk393 : T389.heap.size ≤ T392.heap.size := Nat.le_trans (Nat.le_refl _) K392k.1
  have f394 : Exa Z T392.heap b387 "java/lang/String" := f391.keep K392k
  have f395 : Exa Z T392.heap b389 "java/lang/String" := g1389.keep K392k
  have g_b392 : n0 ≤ b392 := Nat.le_trans Z390 hf392
  have sz_b392 : h0.size ≤ b392 := Nat.le_trans K390.1 hf392
  obtain ⟨T396, X396, e396, st396⟩ := getS2 X392 hx hZ389 hown389 (host := "") (Or.inl (hw _ (List.mem_of_getElem? (i := 50) rfl))) Via.refl rfl (SN.ext O393.2) (g := (mkF m 117 #[.val (.int p1), .val (.int p2), .val (.int p3), .val (.int p4), .val (.int p5), .val (.int p6), .val (.ref b387), .val (.ref b389), .val (.int (0 : Int32)), .val (.ref b392), .val (.int (0 : Int32))] [(.ref b392)])) rfl (hb hby at_117)
  obtain ⟨cq397, kq397, qa397, qb397, qc397⟩ := isOf hZ389 e396 g1392
  obtain ⟨_, _, ⟨T397, L397, k397, n397⟩, -, X397, ⟨Lc397, hQ397, l397, y397, z397⟩, st397⟩ := X396.virtualBack hx (y := (⟨"com/example/nimble_container/nimblecontainer/creation/MethodNaming", "named", "()Ljava/lang/String;"⟩ : MethodName)) (z := (⟨"com/example/nimble_container/nimblecontainer/creation/MethodNaming", "named", "()Ljava/lang/String;"⟩ : MethodName)) hown389 (mvT hZ389 (hw _ (List.mem_of_getElem? (i := 52) rfl))) (mvT hZ389 (hw _ (List.mem_of_getElem? (i := 53) rfl))) (notFace_of_selects (args := #[]) (mvT hZ389 (hw _ (List.mem_of_getElem? (i := 55) rfl)))) (mvT hZ389 (hw _ (List.mem_of_getElem? (i := 55) rfl))) (mvT hZ389 (hw _ (List.mem_of_getElem? (i := 54) rfl))) (by decide) (backOf (W := 0) (rmGNR l Z a0 hw [] b392 b387 T392.heap n0 O393 g2392) hZ389 (hw _ (List.mem_of_getElem? (i := 56) rfl)) (hw _ (List.mem_of_getElem? (i := 36) rfl)) (by decide) (by decide)) qa397 qc397 (g := (mkF m 125 #[.val (.int p1), .val (.int p2), .val (.int p3), .val (.int p4), .val (.int p5), .val (.int p6), .val (.ref b387), .val (.ref b389), .val (.int (0 : Int32)), .val (.ref b392), .val (.int (0 : Int32))] [(.ref b392)])) rfl (by rw [hml]; rfl) (Steps.refl _) (argsL := []) (rest := []) (lenOf pd___Ljava_lang_String_ rfl) rfl (by show 2 * 0 + _ ≤ _; exact Nat.le_of_eq rfl) (hb hby at_125) (fun _ _ => ⟨rfl, e396, (by decide : 9 + 0 ≤ _), (by decide : 19 + 0 ≤ _)⟩)
  dsimp only [Pt.U, Pt.locs, Pt.cells, Pt.slots] at X397 l397 y397 z397 st397 hQ397
  subst l397 y397 z397
  obtain ⟨rfl, N397q, e397⟩ := hQ397
  have N397 := Fr.app N392 N397q
  obtain ⟨cq398, kq398, qa398, qb398, qc398⟩ := isOf hZ389 e397 g1392
  obtain ⟨_, _, ⟨T398, L398, k398, n398⟩, -, X398, ⟨Lc398, hQ398, l398, y398, z398⟩, st398⟩ := X397.virtualBack hx (y := (⟨"com/example/nimble_container/nimblecontainer/creation/MethodNaming", "byDefault", "()Ljava/lang/String;"⟩ : MethodName)) (z := (⟨"com/example/nimble_container/nimblecontainer/creation/MethodNaming", "byDefault", "()Ljava/lang/String;"⟩ : MethodName)) hown389 (mvT hZ389 (hw _ (List.mem_of_getElem? (i := 57) rfl))) (mvT hZ389 (hw _ (List.mem_of_getElem? (i := 58) rfl))) (notFace_of_selects (args := #[]) (mvT hZ389 (hw _ (List.mem_of_getElem? (i := 60) rfl)))) (mvT hZ389 (hw _ (List.mem_of_getElem? (i := 60) rfl))) (mvT hZ389 (hw _ (List.mem_of_getElem? (i := 59) rfl))) (by decide) (backOf (W := 0) (rmGBR l Z a0 hw [] b392 b389 T392.heap n0 O393 g3392) hZ389 (hw _ (List.mem_of_getElem? (i := 61) rfl)) (hw _ (List.mem_of_getElem? (i := 36) rfl)) (by decide) (by decide)) qa398 qc398 (g := (mkF m 135 #[.val (.int p1), .val (.int p2), .val (.int p3), .val (.int p4), .val (.int p5), .val (.int p6), .val (.ref b387), .val (.ref b389), .val (.int (0 : Int32)), .val (.ref b392), .val (.int (0 : Int32))] [(.ref b392)])) rfl (by rw [hml]; rfl) (Steps.refl _) (argsL := []) (rest := []) (lenOf pd___Ljava_lang_String_ rfl) rfl (by show 2 * 0 + _ ≤ _; exact Nat.le_of_eq rfl) (hb hby at_135) (fun _ _ => ⟨rfl, e397, (by decide : 9 + 0 ≤ _), (by decide : 19 + 0 ≤ _)⟩)
  dsimp only [Pt.U, Pt.locs, Pt.cells, Pt.slots] at X398 l398 y398 z398 st398 hQ398
  subst l398 y398 z398
  obtain ⟨rfl, N398q, e398⟩ := hQ398
  have N398 := Fr.app N397 N398q
  obtain ⟨cq399, kq399, qa399, qb399, qc399⟩ := isOf hZ389 e398 g1392
  obtain ⟨_, _, ⟨T399, L399, k399, n399⟩, -, X399, ⟨Lc399, hQ399, l399, y399, z399⟩, st399⟩ := X398.virtualBack hx (y := (⟨"com/example/nimble_container/nimblecontainer/creation/MethodNaming", "inferred", "()Z"⟩ : MethodName)) (z := (⟨"com/example/nimble_container/nimblecontainer/creation/MethodNaming", "inferred", "()Z"⟩ : MethodName)) hown389 (mvT hZ389 (hw _ (List.mem_of_getElem? (i := 62) rfl))) (mvT hZ389 (hw _ (List.mem_of_getElem? (i := 63) rfl))) (notFace_of_selects (args := #[]) (mvT hZ389 (hw _ (List.mem_of_getElem? (i := 65) rfl)))) (mvT hZ389 (hw _ (List.mem_of_getElem? (i := 65) rfl))) (mvT hZ389 (hw _ (List.mem_of_getElem? (i := 64) rfl))) (by decide) (backOf (W := 0) (rmGI0 l Z a0 hw [] b392 T392.heap n0 O393 g4392) hZ389 (hw _ (List.mem_of_getElem? (i := 66) rfl)) (hw _ (List.mem_of_getElem? (i := 36) rfl)) (by decide) (by decide)) qa399 qc399 (g := (mkF m 145 #[.val (.int p1), .val (.int p2), .val (.int p3), .val (.int p4), .val (.int p5), .val (.int p6), .val (.ref b387), .val (.ref b389), .val (.int (0 : Int32)), .val (.ref b392), .val (.int (0 : Int32))] [(.ref b392)])) rfl (by rw [hml]; rfl) (Steps.refl _) (argsL := []) (rest := []) (lenOf pd___Z rfl) rfl (by show 2 * 0 + _ ≤ _; exact Nat.le_of_eq rfl) (hb hby at_145) (fun _ _ => ⟨rfl, e398, (by decide : 9 + 0 ≤ _), (by decide : 19 + 0 ≤ _)⟩)
  dsimp only [Pt.U, Pt.locs, Pt.cells, Pt.slots] at X399 l399 y399 z399 st399 hQ399
  subst l399 y399 z399
  obtain ⟨rfl, N399q, e399⟩ := hQ399
  have N399 := Fr.app N398 N399q
  obtain ⟨fs, hr, hrun, hended, hEnd⟩ := X399.leaveW (s := s) hS389r (by rw [e399]; exact hk393) (v := some (.int (1 : Int32))) (fun h => by rw [Bd.returns] at h; cases h)
  refine ⟨_, _, pre0 _ ?_, hrun, hended, _, _, rfl, ?_, ?_, hEnd.1, hEnd.2.1, hEnd.2.2.1, hEnd.2.2.2.mono (by decide) (by decide)⟩
  · show Steps p.tables e below (s₁.setTop (mkF m 0 #[.val (.int p1), .val (.int p2), .val (.int p3), .val (.int p4), .val (.int p5), .val (.int p6), .unset, .unset, .unset, .unset, .unset] [])) _
    refine XS.iloadN X0.here hx rfl (hb hby at_0) rfl ?_
    show Steps p.tables e below (s₁.setTop (mkF m 1 #[.val (.int p1), .val (.int p2), .val (.int p3), .val (.int p4), .val (.int p5), .val (.int p6), .unset, .unset, .unset, .unset, .unset] [(.int p1)])) _
    refine XS.iloadN X0.here hx rfl (hb hby at_1) rfl ?_
    show Steps p.tables e below (s₁.setTop (mkF m 2 #[.val (.int p1), .val (.int p2), .val (.int p3), .val (.int p4), .val (.int p5), .val (.int p6), .unset, .unset, .unset, .unset, .unset] [(.int p4), (.int p1)])) _
    refine XS.iload X0.here hx rfl (hb hby at_2) rfl ?_
    show Steps p.tables e below (s₁.setTop (mkF m 4 #[.val (.int p1), .val (.int p2), .val (.int p3), .val (.int p4), .val (.int p5), .val (.int p6), .unset, .unset, .unset, .unset, .unset] [(.int p5), (.int p4), (.int p1)])) _
    refine st387.trans ?_
    show Steps p.tables e below (T387.setTop (mkF m 7 #[.val (.int p1), .val (.int p2), .val (.int p3), .val (.int p4), .val (.int p5), .val (.int p6), .unset, .unset, .unset, .unset, .unset] [(.ref b387)])) _
    refine XS.astore X387r.here hx rfl (hb hby at_7) rfl rfl (l' := #[.val (.int p1), .val (.int p2), .val (.int p3), .val (.int p4), .val (.int p5), .val (.int p6), .val (.ref b387), .unset, .unset, .unset, .unset]) rfl ?_
    show Steps p.tables e below (T387.setTop (mkF m 9 #[.val (.int p1), .val (.int p2), .val (.int p3), .val (.int p4), .val (.int p5), .val (.int p6), .val (.ref b387), .unset, .unset, .unset, .unset] [])) _
    refine XS.iloadN X387r.here hx rfl (hb hby at_9) rfl ?_
    show Steps p.tables e below (T387.setTop (mkF m 10 #[.val (.int p1), .val (.int p2), .val (.int p3), .val (.int p4), .val (.int p5), .val (.int p6), .val (.ref b387), .unset, .unset, .unset, .unset] [(.int p2)])) _
    refine XS.iload X387r.here hx rfl (hb hby at_10) rfl ?_
    show Steps p.tables e below (T387.setTop (mkF m 12 #[.val (.int p1), .val (.int p2), .val (.int p3), .val (.int p4), .val (.int p5), .val (.int p6), .val (.ref b387), .unset, .unset, .unset, .unset] [(.int p6), (.int p2)])) _
    refine XS.iload X387r.here hx rfl (hb hby at_12) rfl ?_
    show Steps p.tables e below (T387.setTop (mkF m 14 #[.val (.int p1), .val (.int p2), .val (.int p3), .val (.int p4), .val (.int p5), .val (.int p6), .val (.ref b387), .unset, .unset, .unset, .unset] [(.int p5), (.int p6), (.int p2)])) _
    refine st389.trans ?_
    show Steps p.tables e below (T389.setTop (mkF m 17 #[.val (.int p1), .val (.int p2), .val (.int p3), .val (.int p4), .val (.int p5), .val (.int p6), .val (.ref b387), .unset, .unset, .unset, .unset] [(.ref b389)])) _
    refine XS.astore X389r.here hx rfl (hb hby at_17) rfl rfl (l' := #[.val (.int p1), .val (.int p2), .val (.int p3), .val (.int p4), .val (.int p5), .val (.int p6), .val (.ref b387), .val (.ref b389), .unset, .unset, .unset]) rfl ?_
    show Steps p.tables e below (T389.setTop (mkF m 19 #[.val (.int p1), .val (.int p2), .val (.int p3), .val (.int p4), .val (.int p5), .val (.int p6), .val (.ref b387), .val (.ref b389), .unset, .unset, .unset] [])) _
    refine XS.iloadN X389r.here hx rfl (hb hby at_19) rfl ?_
    show Steps p.tables e below (T389.setTop (mkF m 20 #[.val (.int p1), .val (.int p2), .val (.int p3), .val (.int p4), .val (.int p5), .val (.int p6), .val (.ref b387), .val (.ref b389), .unset, .unset, .unset] [(.int p3)])) _
    refine XS.iconst X389r.here hx rfl (hb hby at_20) ?_
    show Steps p.tables e below (T389.setTop (mkF m 21 #[.val (.int p1), .val (.int p2), .val (.int p3), .val (.int p4), .val (.int p5), .val (.int p6), .val (.ref b387), .val (.ref b389), .unset, .unset, .unset] [(.int (1 : Int32)), (.int p3)])) _
    refine XS.iand X389r.here hx rfl (hb hby at_21) rfl ?_
    show Steps p.tables e below (T389.setTop (mkF m 22 #[.val (.int p1), .val (.int p2), .val (.int p3), .val (.int p4), .val (.int p5), .val (.int p6), .val (.ref b387), .val (.ref b389), .unset, .unset, .unset] [(.int (p3 &&& (1 : Int32)))])) _
    refine XS.ifYes X389r.here hx rfl (pc0 := 22) (pc' := 29) rfl (hb hby at_22) rfl ((if0 _ _).trans (teq (qf : (p3 &&& (1 : Int32)) = (0 : Int32))).1) (by decide) (by decide) ?_
    show Steps p.tables e below (T389.setTop (mkF m 29 #[.val (.int p1), .val (.int p2), .val (.int p3), .val (.int p4), .val (.int p5), .val (.int p6), .val (.ref b387), .val (.ref b389), .unset, .unset, .unset] [])) _
    refine XS.iconst X389r.here hx rfl (hb hby at_29) ?_
    show Steps p.tables e below (T389.setTop (mkF m 30 #[.val (.int p1), .val (.int p2), .val (.int p3), .val (.int p4), .val (.int p5), .val (.int p6), .val (.ref b387), .val (.ref b389), .unset, .unset, .unset] [(.int (0 : Int32))])) _
    refine XS.istore X389r.here hx rfl (hb hby at_30) rfl (l' := #[.val (.int p1), .val (.int p2), .val (.int p3), .val (.int p4), .val (.int p5), .val (.int p6), .val (.ref b387), .val (.ref b389), .val (.int (0 : Int32)), .unset, .unset]) rfl ?_
    show Steps p.tables e below (T389.setTop (mkF m 32 #[.val (.int p1), .val (.int p2), .val (.int p3), .val (.int p4), .val (.int p5), .val (.int p6), .val (.ref b387), .val (.ref b389), .val (.int (0 : Int32)), .unset, .unset] [])) _
    refine XS.aload X389r.here hx rfl (hb hby at_32) rfl rfl ?_
    show Steps p.tables e below (T389.setTop (mkF m 34 #[.val (.int p1), .val (.int p2), .val (.int p3), .val (.int p4), .val (.int p5), .val (.int p6), .val (.ref b387), .val (.ref b389), .val (.int (0 : Int32)), .unset, .unset] [(.ref b387)])) _
    refine XS.aload X389r.here hx rfl (hb hby at_34) rfl rfl ?_
    show Steps p.tables e below (T389.setTop (mkF m 36 #[.val (.int p1), .val (.int p2), .val (.int p3), .val (.int p4), .val (.int p5), .val (.int p6), .val (.ref b387), .val (.ref b389), .val (.int (0 : Int32)), .unset, .unset] [(.ref b389), (.ref b387)])) _
    refine XS.iload X389r.here hx rfl (hb hby at_36) rfl ?_
    show Steps p.tables e below (T389.setTop (mkF m 38 #[.val (.int p1), .val (.int p2), .val (.int p3), .val (.int p4), .val (.int p5), .val (.int p6), .val (.ref b387), .val (.ref b389), .val (.int (0 : Int32)), .unset, .unset] [(.int (0 : Int32)), (.ref b389), (.ref b387)])) _
    refine st392 _ ?_
    show Steps p.tables e below (T392.setTop (mkF m 41 #[.val (.int p1), .val (.int p2), .val (.int p3), .val (.int p4), .val (.int p5), .val (.int p6), .val (.ref b387), .val (.ref b389), .val (.int (0 : Int32)), .unset, .unset] [(.ref b392)])) _
    refine XS.astore X392.here hx rfl (hb hby at_41) rfl rfl (l' := #[.val (.int p1), .val (.int p2), .val (.int p3), .val (.int p4), .val (.int p5), .val (.int p6), .val (.ref b387), .val (.ref b389), .val (.int (0 : Int32)), .val (.ref b392), .unset]) rfl ?_
    show Steps p.tables e below (T392.setTop (mkF m 43 #[.val (.int p1), .val (.int p2), .val (.int p3), .val (.int p4), .val (.int p5), .val (.int p6), .val (.ref b387), .val (.ref b389), .val (.int (0 : Int32)), .val (.ref b392), .unset] [])) _
    refine XS.aload X392.here hx rfl (hb hby at_43) rfl rfl ?_
    show Steps p.tables e below (T392.setTop (mkF m 45 #[.val (.int p1), .val (.int p2), .val (.int p3), .val (.int p4), .val (.int p5), .val (.int p6), .val (.ref b387), .val (.ref b389), .val (.int (0 : Int32)), .val (.ref b392), .unset] [(.ref b392)])) _
    refine XS.ifnonnullYes X392.here hx rfl (pc0 := 45) (pc' := 50) rfl (hb hby at_45) rfl (by decide) (by decide) ?_
    show Steps p.tables e below (T392.setTop (mkF m 50 #[.val (.int p1), .val (.int p2), .val (.int p3), .val (.int p4), .val (.int p5), .val (.int p6), .val (.ref b387), .val (.ref b389), .val (.int (0 : Int32)), .val (.ref b392), .unset] [])) _
    refine XS.aload X392.here hx rfl (hb hby at_50) rfl rfl ?_
    show Steps p.tables e below (T392.setTop (mkF m 52 #[.val (.int p1), .val (.int p2), .val (.int p3), .val (.int p4), .val (.int p5), .val (.int p6), .val (.ref b387), .val (.ref b389), .val (.int (0 : Int32)), .val (.ref b392), .unset] [(.ref b387)])) _
    refine XS.ifnonnullYes X392.here hx rfl (pc0 := 52) (pc' := 69) rfl (hb hby at_52) rfl (by decide) (by decide) ?_
    show Steps p.tables e below (T392.setTop (mkF m 69 #[.val (.int p1), .val (.int p2), .val (.int p3), .val (.int p4), .val (.int p5), .val (.int p6), .val (.ref b387), .val (.ref b389), .val (.int (0 : Int32)), .val (.ref b392), .unset] [])) _
    refine XS.iconst X392.here hx rfl (hb hby at_69) ?_
    show Steps p.tables e below (T392.setTop (mkF m 70 #[.val (.int p1), .val (.int p2), .val (.int p3), .val (.int p4), .val (.int p5), .val (.int p6), .val (.ref b387), .val (.ref b389), .val (.int (0 : Int32)), .val (.ref b392), .unset] [(.int (0 : Int32))])) _
    refine XS.istore X392.here hx rfl (hb hby at_70) rfl (l' := #[.val (.int p1), .val (.int p2), .val (.int p3), .val (.int p4), .val (.int p5), .val (.int p6), .val (.ref b387), .val (.ref b389), .val (.int (0 : Int32)), .val (.ref b392), .val (.int (0 : Int32))]) rfl ?_
    show Steps p.tables e below (T392.setTop (mkF m 72 #[.val (.int p1), .val (.int p2), .val (.int p3), .val (.int p4), .val (.int p5), .val (.int p6), .val (.ref b387), .val (.ref b389), .val (.int (0 : Int32)), .val (.ref b392), .val (.int (0 : Int32))] [])) _
    refine XS.iload X392.here hx rfl (hb hby at_72) rfl ?_
    show Steps p.tables e below (T392.setTop (mkF m 74 #[.val (.int p1), .val (.int p2), .val (.int p3), .val (.int p4), .val (.int p5), .val (.int p6), .val (.ref b387), .val (.ref b389), .val (.int (0 : Int32)), .val (.ref b392), .val (.int (0 : Int32))] [(.int (0 : Int32))])) _
    refine XS.ifYes X392.here hx rfl (pc0 := 74) (pc' := 115) rfl (hb hby at_74) rfl ((if0 _ _).trans (teq (rfl : (0 : Int32) = (0 : Int32))).1) (by decide) (by decide) ?_
    show Steps p.tables e below (T392.setTop (mkF m 115 #[.val (.int p1), .val (.int p2), .val (.int p3), .val (.int p4), .val (.int p5), .val (.int p6), .val (.ref b387), .val (.ref b389), .val (.int (0 : Int32)), .val (.ref b392), .val (.int (0 : Int32))] [])) _
    refine XS.aload X392.here hx rfl (hb hby at_115) rfl rfl ?_
    show Steps p.tables e below (T392.setTop (mkF m 117 #[.val (.int p1), .val (.int p2), .val (.int p3), .val (.int p4), .val (.int p5), .val (.int p6), .val (.ref b387), .val (.ref b389), .val (.int (0 : Int32)), .val (.ref b392), .val (.int (0 : Int32))] [(.ref b392)])) _
    refine st396 _ ?_
    show Steps p.tables e below (T396.setTop (mkF m 120 #[.val (.int p1), .val (.int p2), .val (.int p3), .val (.int p4), .val (.int p5), .val (.int p6), .val (.ref b387), .val (.ref b389), .val (.int (0 : Int32)), .val (.ref b392), .val (.int (0 : Int32))] [(.ref nn), (.ref b392)])) _
    refine Jvm.RoadKit.acmp (g := (mkF m 120 #[.val (.int p1), .val (.int p2), .val (.int p3), .val (.int p4), .val (.int p5), .val (.int p6), .val (.ref b387), .val (.ref b389), .val (.int (0 : Int32)), .val (.ref b392), .val (.int (0 : Int32))] [(.ref nn), (.ref b392)])) X396 hx rfl rfl rfl (pc0 := 120) (pc' := 123) (same := false) rfl (hb hby at_120) rfl (decide_eq_false fun q => (Ne.symm (Old.ne O0 EN.lt g_b392)) (Value.ref.inj q)) (by decide) (by decide) ?_
    show Steps p.tables e below (T396.setTop (mkF m 123 #[.val (.int p1), .val (.int p2), .val (.int p3), .val (.int p4), .val (.int p5), .val (.int p6), .val (.ref b387), .val (.ref b389), .val (.int (0 : Int32)), .val (.ref b392), .val (.int (0 : Int32))] [])) _
    refine XS.aload X396.here hx rfl (hb hby at_123) rfl rfl ?_
    show Steps p.tables e below (T396.setTop (mkF m 125 #[.val (.int p1), .val (.int p2), .val (.int p3), .val (.int p4), .val (.int p5), .val (.int p6), .val (.ref b387), .val (.ref b389), .val (.int (0 : Int32)), .val (.ref b392), .val (.int (0 : Int32))] [(.ref b392)])) _
    refine st397.trans ?_
    show Steps p.tables e below (T397.setTop (mkF m 128 #[.val (.int p1), .val (.int p2), .val (.int p3), .val (.int p4), .val (.int p5), .val (.int p6), .val (.ref b387), .val (.ref b389), .val (.int (0 : Int32)), .val (.ref b392), .val (.int (0 : Int32))] [(.ref b387)])) _
    refine XS.aload X397.here hx rfl (hb hby at_128) rfl rfl ?_
    show Steps p.tables e below (T397.setTop (mkF m 130 #[.val (.int p1), .val (.int p2), .val (.int p3), .val (.int p4), .val (.int p5), .val (.int p6), .val (.ref b387), .val (.ref b389), .val (.int (0 : Int32)), .val (.ref b392), .val (.int (0 : Int32))] [(.ref b387), (.ref b387)])) _
    refine Jvm.RoadKit.acmp (g := (mkF m 130 #[.val (.int p1), .val (.int p2), .val (.int p3), .val (.int p4), .val (.int p5), .val (.int p6), .val (.ref b387), .val (.ref b389), .val (.int (0 : Int32)), .val (.ref b392), .val (.int (0 : Int32))] [(.ref b387), (.ref b387)])) X397 hx rfl rfl rfl (pc0 := 130) (pc' := 133) (same := true) rfl (hb hby at_130) rfl (decide_eq_true rfl) (by decide) (by decide) ?_
    show Steps p.tables e below (T397.setTop (mkF m 133 #[.val (.int p1), .val (.int p2), .val (.int p3), .val (.int p4), .val (.int p5), .val (.int p6), .val (.ref b387), .val (.ref b389), .val (.int (0 : Int32)), .val (.ref b392), .val (.int (0 : Int32))] [])) _
    refine XS.aload X397.here hx rfl (hb hby at_133) rfl rfl ?_
    show Steps p.tables e below (T397.setTop (mkF m 135 #[.val (.int p1), .val (.int p2), .val (.int p3), .val (.int p4), .val (.int p5), .val (.int p6), .val (.ref b387), .val (.ref b389), .val (.int (0 : Int32)), .val (.ref b392), .val (.int (0 : Int32))] [(.ref b392)])) _
    refine st398.trans ?_
    show Steps p.tables e below (T398.setTop (mkF m 138 #[.val (.int p1), .val (.int p2), .val (.int p3), .val (.int p4), .val (.int p5), .val (.int p6), .val (.ref b387), .val (.ref b389), .val (.int (0 : Int32)), .val (.ref b392), .val (.int (0 : Int32))] [(.ref b389)])) _
    refine XS.aload X398.here hx rfl (hb hby at_138) rfl rfl ?_
    show Steps p.tables e below (T398.setTop (mkF m 140 #[.val (.int p1), .val (.int p2), .val (.int p3), .val (.int p4), .val (.int p5), .val (.int p6), .val (.ref b387), .val (.ref b389), .val (.int (0 : Int32)), .val (.ref b392), .val (.int (0 : Int32))] [(.ref b389), (.ref b389)])) _
    refine Jvm.RoadKit.acmp (g := (mkF m 140 #[.val (.int p1), .val (.int p2), .val (.int p3), .val (.int p4), .val (.int p5), .val (.int p6), .val (.ref b387), .val (.ref b389), .val (.int (0 : Int32)), .val (.ref b392), .val (.int (0 : Int32))] [(.ref b389), (.ref b389)])) X398 hx rfl rfl rfl (pc0 := 140) (pc' := 143) (same := true) rfl (hb hby at_140) rfl (decide_eq_true rfl) (by decide) (by decide) ?_
    show Steps p.tables e below (T398.setTop (mkF m 143 #[.val (.int p1), .val (.int p2), .val (.int p3), .val (.int p4), .val (.int p5), .val (.int p6), .val (.ref b387), .val (.ref b389), .val (.int (0 : Int32)), .val (.ref b392), .val (.int (0 : Int32))] [])) _
    refine XS.aload X398.here hx rfl (hb hby at_143) rfl rfl ?_
    show Steps p.tables e below (T398.setTop (mkF m 145 #[.val (.int p1), .val (.int p2), .val (.int p3), .val (.int p4), .val (.int p5), .val (.int p6), .val (.ref b387), .val (.ref b389), .val (.int (0 : Int32)), .val (.ref b392), .val (.int (0 : Int32))] [(.ref b392)])) _
    refine st399.trans ?_
    show Steps p.tables e below (T399.setTop (mkF m 148 #[.val (.int p1), .val (.int p2), .val (.int p3), .val (.int p4), .val (.int p5), .val (.int p6), .val (.ref b387), .val (.ref b389), .val (.int (0 : Int32)), .val (.ref b392), .val (.int (0 : Int32))] [(.int (0 : Int32))])) _
    refine XS.iload X399.here hx rfl (hb hby at_148) rfl ?_
    show Steps p.tables e below (T399.setTop (mkF m 150 #[.val (.int p1), .val (.int p2), .val (.int p3), .val (.int p4), .val (.int p5), .val (.int p6), .val (.ref b387), .val (.ref b389), .val (.int (0 : Int32)), .val (.ref b392), .val (.int (0 : Int32))] [(.int (0 : Int32)), (.int (0 : Int32))])) _
    refine XS.icmpNo X399.here hx rfl (hb hby at_150) rfl (teq (rfl : (0 : Int32) = (0 : Int32))).2 ?_
    show Steps p.tables e below (T399.setTop (mkF m 153 #[.val (.int p1), .val (.int p2), .val (.int p3), .val (.int p4), .val (.int p5), .val (.int p6), .val (.ref b387), .val (.ref b389), .val (.int (0 : Int32)), .val (.ref b392), .val (.int (0 : Int32))] [])) _
    refine XS.iconst X399.here hx rfl (hb hby at_153) ?_
    show Steps p.tables e below (T399.setTop (mkF m 154 #[.val (.int p1), .val (.int p2), .val (.int p3), .val (.int p4), .val (.int p5), .val (.int p6), .val (.ref b387), .val (.ref b389), .val (.int (0 : Int32)), .val (.ref b392), .val (.int (0 : Int32))] [(.int (1 : Int32))])) _
    refine XS.goto X399.here hx rfl (pc0 := 154) (pc' := 158) rfl (hb hby at_154) (by decide) (by decide) ?_
    show Steps p.tables e below (T399.setTop (mkF m 158 #[.val (.int p1), .val (.int p2), .val (.int p3), .val (.int p4), .val (.int p5), .val (.int p6), .val (.ref b387), .val (.ref b389), .val (.int (0 : Int32)), .val (.ref b392), .val (.int (0 : Int32))] [(.int (1 : Int32))])) _
    exact retN X399 hx (t := .boolean) Bd.returns (by simp) (hb hby at_158) hr
  · show Qlaw Z h0 n0 _ T399.heap _
    rw [e399]
    exact ⟨rfl, N399⟩
  · show CHr Z [("java/lang/String", 7)] s.vm s.heap T399.vm T399.heap
    rw [hh, e399]
    exact HC393.trans (CHv.at X399 hZ389 hEL HC393.1)
theorem ef_rmLawRR1 (m : MethodId) (x0 : Int32) (x1 : Int32) (x2 : Int32) (x3 : Int32) (x4 : Int32) (x5 : Int32) : entryFrame m #[(.int x0), (.int x1), (.int x2), (.int x3), (.int x4), (.int x5)] maxLocals = mkF m 0 #[.val (.int x0), .val (.int x1), .val (.int x2), .val (.int x3), .val (.int x4), .val (.int x5), .unset, .unset, .unset, .unset, .unset] [] := by first | (simp [entryFrame, mkF, argsToLocals, Value.category, maxLocals]; done) | rfl
set_option maxRecDepth 65536 in
set_option maxHeartbeats 40000000 in
theorem rmLawRR1 (l : Launch) (Z : State) (a0 : Array Value) (hw : ∀ d ∈ tables_1, d.before a0 Z = true) (ws : List Jvm.Cond) (p1 p2 p3 p4 p5 p6 GC : Int32) (nn : Addr) (h0 : Heap) (n0 : Nat) (O0 : Old Z n0 h0) (hEL : EW Z a0 [("java/lang/String", 7)]) (wS : ∀ a ∈ Bundle.stringAtoms, a.before a0 Z = true) (OC2 : Sta Z Z.heap "java/lang/String" "COMPACT_STRINGS" "Z" (.int GC)) (OCz : ¬ (GC = (0 : Int32))) (SN : Sta Z Z.heap "com/example/nimble_container/nimblecontainer/creation/MethodNaming" "NONE" "Lcom/example/nimble_container/nimblecontainer/creation/MethodNaming;" (.ref nn)) (EN : Exa Z Z.heap nn "com/example/nimble_container/nimblecontainer/creation/MethodNaming") (N0f : Fld Z Z.heap nn "com/example/nimble_container/nimblecontainer/creation/MethodNaming" "named" "Ljava/lang/String;" .null) (N1f : Fld Z Z.heap nn "com/example/nimble_container/nimblecontainer/creation/MethodNaming" "byDefault" "Ljava/lang/String;" .null) (N2f : Fld Z Z.heap nn "com/example/nimble_container/nimblecontainer/creation/MethodNaming" "inferred" "Z" (.int (0 : Int32))) (qn : ¬ ((p1 &&& (3 : Int32)) = (0 : Int32))) (qd : ¬ ((p2 &&& (3 : Int32)) = (0 : Int32))) (qf : ¬ ((p3 &&& (1 : Int32)) = (0 : Int32))) :
    MetFree l x (head1 (Jvm.Cond.code x code maxLocals ret :: ws) room_1) (fun aa_ U => aa_ = #[(.int p1), (.int p2), (.int p3), (.int p4), (.int p5), (.int p6)] ∧ Z.Warmed39 U.vm ∧ U.heap = h0 ∧ CHv Z [("java/lang/String", 7)] U.vm h0) (fun _ _ _ _ _ => True) (fun _ U o U' => ∃ v L, o = .returned v ∧ Qlaw Z h0 n0 v U'.heap L ∧ CHr Z [("java/lang/String", 7)] U.vm U.heap U'.vm U'.heap ∧ ReturnedEndW U o U' L room_1.cells room_1.slots) := by
  refine MetFree.of_bodySF (plainFor_of_name pn_com_example_nimble_container_nimblecontainer_creation_MethodNamingOfPinLaw) hisR ?_
  intro p e s m args below meth c s₁ Bd hml0 hP hK
  obtain ⟨rfl, hZ, hh, hC0⟩ := hP
  have hx := Bd.exec
  have hby := Bd.bytes
  have hml : c.maxLocals = 11 := hml0
  have hown : s.vm.findClass "com/example/nimble_container/nimblecontainer/creation/MethodNamingOfPinLaw" = some m.cls := findClass_of_methodNamed Bd.named
  have hnm := (name_of_methodNamed Bd.named Bd.method).1
  have X0 : Stand p l e room_1 (s.setVm s.vm) m #[(.int p1), (.int p2), (.int p3), (.int p4), (.int p5), (.int p6)] below meth c s₁ [] 0 0 := Stand.of_body Bd
  have e0 : s₁.heap = h0 := by rw [← hh, Bd.state]; rfl
  have N0 := Fr.nil n0
  have Z0 : n0 ≤ h0.size := O0.1 ▸ O0.2.1
  have K0 : Keep h0 h0 [] := Keep.refl _ _
  have hS0 : s.Since s.vm h0.size := (State.WarmedH.refl s).since _
  have hk0 : h0.size ≤ h0.size := Nat.le_refl _
  have HC0 : CHr Z [("java/lang/String", 7)] s.vm h0 s.vm h0 := CHr.refl hC0
  have pre0 : ∀ tgt_, Steps p.tables e below (s₁.setTop (mkF m 0 #[.val (.int p1), .val (.int p2), .val (.int p3), .val (.int p4), .val (.int p5), .val (.int p6), .unset, .unset, .unset, .unset, .unset] [])) tgt_ → Steps p.tables e below (s₁.setTop (entryFrame m #[(.int p1), (.int p2), (.int p3), (.int p4), (.int p5), (.int p6)] maxLocals)) tgt_ := fun tgt_ k => castTop (ef_rmLawRR1 m p1 p2 p3 p4 p5 p6) k
  obtain ⟨_, _, ⟨T400, L400, k400, n400⟩, -, X400, hS400, hg400, ⟨Lc400, hQ400, l400, y400, z400, HR400⟩, st400⟩ := Jvm.RoadKit.callSS X0 hx (y := (⟨"com/example/nimble_container/nimblecontainer/creation/MethodNamingOfPinLaw", "draw", "(III)Ljava/lang/String;"⟩ : MethodName)) hown (mvT hZ (hw _ (List.mem_of_getElem? (i := 0) rfl))) (mvT hZ (hw _ (List.mem_of_getElem? (i := 1) rfl))) (mvT hZ (hw _ (List.mem_of_getElem? (i := 2) rfl))) (mvT hZ (hw _ (List.mem_of_getElem? (i := 3) rfl))) (by decide) (backOfSH (s := s) (W := 0) (rmD l Z a0 hw [] p1 p4 p5 GC h0 n0 O0 hEL wS OC2 OCz qn) hZ (hw _ (List.mem_of_getElem? (i := 3) rfl)) (hw _ (List.mem_of_getElem? (i := 2) rfl)) (by decide) (by decide) hEL HC0.1) (g := (mkF m 4 #[.val (.int p1), .val (.int p2), .val (.int p3), .val (.int p4), .val (.int p5), .val (.int p6), .unset, .unset, .unset, .unset, .unset] [(.int p5), (.int p4), (.int p1)])) rfl (by rw [hml]; rfl) (argsL := [(.int p1), (.int p4), (.int p5)]) (rest := []) (lenOf pd__III_Ljava_lang_String_ rfl) rfl (by show 2 * 0 + _ ≤ _; exact Nat.le_of_eq rfl) (hb hby at_4) (fun _ _ => ⟨rfl, e0, (by decide : 0 + 4 ≤ _), (by decide : 0 + 8 ≤ _)⟩)
  dsimp only [Pt.U, Pt.locs, Pt.cells, Pt.slots] at X400 l400 y400 z400 st400 hQ400 hS400 hg400 HR400
  subst l400 y400 z400
  obtain ⟨b400, rfl, N400q, K400k, hf400, g1400⟩ := hQ400
  have N400 := Fr.app N0 N400q
  obtain ⟨X400r, hS400r, hZ400, hown400⟩ := rebS hS0 (by rw [e0]; exact hk0) X400 hS400 hg400 hZ hown
  have O401 : Old Z n0 T400.heap := O0.keep K400k all0
  have Z401 : n0 ≤ T400.heap.size := Nat.le_trans Z0 K400k.1
  have K401 : Keep h0 T400.heap [] := K0.trans K400k all0
  have HC401 : CHr Z [("java/lang/String", 7)] s.vm h0 T400.vm T400.heap := HC0.trans HR400
  have g_b400 : n0 ≤ b400 := Nat.le_trans Z0 hf400
  have sz_b400 : h0.size ≤ b400 := Nat.le_trans K0.1 hf400
  obtain ⟨_, _, ⟨T402, L402, k402, n402⟩, -, X402, hS402, hg402, ⟨Lc402, hQ402, l402, y402, z402, HR402⟩, st402⟩ := Jvm.RoadKit.callSS X400r hx (y := (⟨"com/example/nimble_container/nimblecontainer/creation/MethodNamingOfPinLaw", "draw", "(III)Ljava/lang/String;"⟩ : MethodName)) hown400 (mvT hZ400 (hw _ (List.mem_of_getElem? (i := 0) rfl))) (mvT hZ400 (hw _ (List.mem_of_getElem? (i := 1) rfl))) (mvT hZ400 (hw _ (List.mem_of_getElem? (i := 2) rfl))) (mvT hZ400 (hw _ (List.mem_of_getElem? (i := 3) rfl))) (by decide) (backOfSH (s := s) (W := 0) (rmD l Z a0 hw [] p2 p6 p5 GC T400.heap n0 O401 hEL wS OC2 OCz qd) hZ400 (hw _ (List.mem_of_getElem? (i := 3) rfl)) (hw _ (List.mem_of_getElem? (i := 2) rfl)) (by decide) (by decide) hEL HC401.1) (g := (mkF m 14 #[.val (.int p1), .val (.int p2), .val (.int p3), .val (.int p4), .val (.int p5), .val (.int p6), .val (.ref b400), .unset, .unset, .unset, .unset] [(.int p5), (.int p6), (.int p2)])) rfl (by rw [hml]; rfl) (argsL := [(.int p2), (.int p6), (.int p5)]) (rest := []) (lenOf pd__III_Ljava_lang_String_ rfl) rfl (by show 2 * 0 + _ ≤ _; exact Nat.le_of_eq rfl) (hb hby at_14) (fun _ _ => ⟨rfl, rfl, (by decide : 4 + 4 ≤ _), (by decide : 8 + 8 ≤ _)⟩)
  dsimp only [Pt.U, Pt.locs, Pt.cells, Pt.slots] at X402 l402 y402 z402 st402 hQ402 hS402 hg402 HR402
  subst l402 y402 z402
  obtain ⟨b402, rfl, N402q, K402k, hf402, g1402⟩ := hQ402
  have N402 := Fr.app N400 N402q
  obtain ⟨X402r, hS402r, hZ402, hown402⟩ := rebS hS400r (Nat.le_refl _) X402 hS402 hg402 hZ400 hown400
  have O403 : Old Z n0 T402.heap := O401.keep K402k all0
  have Z403 : n0 ≤ T402.heap.size := Nat.le_trans Z401 K402k.1
  have K403 : Keep h0 T402.heap [] := K401.trans K402k all0
  have HC403 : CHr Z [("java/lang/String", 7)] s.vm h0 T402.vm T402.heap := HC401.trans HR402
  have f404 : Exa Z T402.heap b400 "java/lang/String" := g1400.keep K402k
  have g_b402 : n0 ≤ b402 := Nat.le_trans Z401 hf402
  have sz_b402 : h0.size ≤ b402 := Nat.le_trans K401.1 hf402
  obtain ⟨_, _, ⟨T405, L405, k405, n405⟩, -, X405, ⟨Lc405, hQ405, l405, y405, z405⟩, st405⟩ := Jvm.LawKit.callS X402r hx (y := (⟨"com/example/nimble_container/nimblecontainer/creation/MethodNaming", "of", "(Ljava/lang/String;Ljava/lang/String;Z)Lcom/example/nimble_container/nimblecontainer/creation/MethodNaming;"⟩ : MethodName)) hown402 (mvT hZ402 (hw _ (List.mem_of_getElem? (i := 34) rfl))) (mvT hZ402 (hw _ (List.mem_of_getElem? (i := 35) rfl))) (mvT hZ402 (hw _ (List.mem_of_getElem? (i := 36) rfl))) (mvT hZ402 (hw _ (List.mem_of_getElem? (i := 37) rfl))) (by decide) (backOf (W := 0) (rmOfRR1 l Z a0 hw [] b400 b402 T402.heap n0 O403) hZ402 (hw _ (List.mem_of_getElem? (i := 37) rfl)) (hw _ (List.mem_of_getElem? (i := 36) rfl)) (by decide) (by decide)) (g := (mkF m 38 #[.val (.int p1), .val (.int p2), .val (.int p3), .val (.int p4), .val (.int p5), .val (.int p6), .val (.ref b400), .val (.ref b402), .val (.int (1 : Int32)), .unset, .unset] [(.int (1 : Int32)), (.ref b402), (.ref b400)])) rfl (by rw [hml]; rfl) (argsL := [(.ref b400), (.ref b402), (.int (1 : Int32))]) (rest := []) (lenOf pd__Ljava_lang_String_Ljava_lang_String_Z_Lcom_example_nimble_container_nimblecontainer_creation_MethodNaming_ rfl) rfl (by show 2 * 0 + _ ≤ _; exact Nat.le_of_eq rfl) (hb hby at_38) (fun _ _ => ⟨rfl, rfl, (by decide : 8 + 1 ≤ _), (by decide : 16 + 3 ≤ _)⟩)
  dsimp only [Pt.U, Pt.locs, Pt.cells, Pt.slots] at X405 l405 y405 z405 st405 hQ405
  subst l405 y405 z405
  obtain ⟨b405, rfl, N405q, K405k, hf405, g1405, g2405, g3405, g4405⟩ := hQ405
  have N405 := Fr.app N402 N405q
  have O406 : Old Z n0 T405.heap := O403.keep K405k all0
  have Z406 : n0 ≤ T405.heap.size := Nat.le_trans Z403 K405k.1
  have K406 : Keep h0 T405.heap [] := K403.trans K405k all0
  have HC406 : CHr Z [("java/lang/String", 7)] s.vm h0 T402.vm T405.heap := HC403.trans (CHr.keep K405k sf0 HC403.1)
  have hk406 : T402.heap.size ≤ T405.heap.size := Nat.le_trans (Nat.le_refl _) K405k.1
  have f407 : Exa Z T405.heap b400 "java/lang/String" := f404.keep K405k
  have f408 : Exa Z T405.heap b402 "java/lang/String" := g1402.keep K405k
  have g_b405 : n0 ≤ b405 := Nat.le_trans Z403 hf405
  have sz_b405 : h0.size ≤ b405 := Nat.le_trans K403.1 hf405
  obtain ⟨T409, X409, e409, st409⟩ := getS2 X405 hx hZ402 hown402 (host := "") (Or.inl (hw _ (List.mem_of_getElem? (i := 50) rfl))) Via.refl rfl (SN.ext O406.2) (g := (mkF m 117 #[.val (.int p1), .val (.int p2), .val (.int p3), .val (.int p4), .val (.int p5), .val (.int p6), .val (.ref b400), .val (.ref b402), .val (.int (1 : Int32)), .val (.ref b405), .val (.int (0 : Int32))] [(.ref b405)])) rfl (hb hby at_117)
  obtain ⟨cq410, kq410, qa410, qb410, qc410⟩ := isOf hZ402 e409 g1405
  obtain ⟨_, _, ⟨T410, L410, k410, n410⟩, -, X410, ⟨Lc410, hQ410, l410, y410, z410⟩, st410⟩ := X409.virtualBack hx (y := (⟨"com/example/nimble_container/nimblecontainer/creation/MethodNaming", "named", "()Ljava/lang/String;"⟩ : MethodName)) (z := (⟨"com/example/nimble_container/nimblecontainer/creation/MethodNaming", "named", "()Ljava/lang/String;"⟩ : MethodName)) hown402 (mvT hZ402 (hw _ (List.mem_of_getElem? (i := 52) rfl))) (mvT hZ402 (hw _ (List.mem_of_getElem? (i := 53) rfl))) (notFace_of_selects (args := #[]) (mvT hZ402 (hw _ (List.mem_of_getElem? (i := 55) rfl)))) (mvT hZ402 (hw _ (List.mem_of_getElem? (i := 55) rfl))) (mvT hZ402 (hw _ (List.mem_of_getElem? (i := 54) rfl))) (by decide) (backOf (W := 0) (rmGNR l Z a0 hw [] b405 b400 T405.heap n0 O406 g2405) hZ402 (hw _ (List.mem_of_getElem? (i := 56) rfl)) (hw _ (List.mem_of_getElem? (i := 36) rfl)) (by decide) (by decide)) qa410 qc410 (g := (mkF m 125 #[.val (.int p1), .val (.int p2), .val (.int p3), .val (.int p4), .val (.int p5), .val (.int p6), .val (.ref b400), .val (.ref b402), .val (.int (1 : Int32)), .val (.ref b405), .val (.int (0 : Int32))] [(.ref b405)])) rfl (by rw [hml]; rfl) (Steps.refl _) (argsL := []) (rest := []) (lenOf pd___Ljava_lang_String_ rfl) rfl (by show 2 * 0 + _ ≤ _; exact Nat.le_of_eq rfl) (hb hby at_125) (fun _ _ => ⟨rfl, e409, (by decide : 9 + 0 ≤ _), (by decide : 19 + 0 ≤ _)⟩)
  dsimp only [Pt.U, Pt.locs, Pt.cells, Pt.slots] at X410 l410 y410 z410 st410 hQ410
  subst l410 y410 z410
  obtain ⟨rfl, N410q, e410⟩ := hQ410
  have N410 := Fr.app N405 N410q
  obtain ⟨cq411, kq411, qa411, qb411, qc411⟩ := isOf hZ402 e410 g1405
  obtain ⟨_, _, ⟨T411, L411, k411, n411⟩, -, X411, ⟨Lc411, hQ411, l411, y411, z411⟩, st411⟩ := X410.virtualBack hx (y := (⟨"com/example/nimble_container/nimblecontainer/creation/MethodNaming", "byDefault", "()Ljava/lang/String;"⟩ : MethodName)) (z := (⟨"com/example/nimble_container/nimblecontainer/creation/MethodNaming", "byDefault", "()Ljava/lang/String;"⟩ : MethodName)) hown402 (mvT hZ402 (hw _ (List.mem_of_getElem? (i := 57) rfl))) (mvT hZ402 (hw _ (List.mem_of_getElem? (i := 58) rfl))) (notFace_of_selects (args := #[]) (mvT hZ402 (hw _ (List.mem_of_getElem? (i := 60) rfl)))) (mvT hZ402 (hw _ (List.mem_of_getElem? (i := 60) rfl))) (mvT hZ402 (hw _ (List.mem_of_getElem? (i := 59) rfl))) (by decide) (backOf (W := 0) (rmGBR l Z a0 hw [] b405 b402 T405.heap n0 O406 g3405) hZ402 (hw _ (List.mem_of_getElem? (i := 61) rfl)) (hw _ (List.mem_of_getElem? (i := 36) rfl)) (by decide) (by decide)) qa411 qc411 (g := (mkF m 135 #[.val (.int p1), .val (.int p2), .val (.int p3), .val (.int p4), .val (.int p5), .val (.int p6), .val (.ref b400), .val (.ref b402), .val (.int (1 : Int32)), .val (.ref b405), .val (.int (0 : Int32))] [(.ref b405)])) rfl (by rw [hml]; rfl) (Steps.refl _) (argsL := []) (rest := []) (lenOf pd___Ljava_lang_String_ rfl) rfl (by show 2 * 0 + _ ≤ _; exact Nat.le_of_eq rfl) (hb hby at_135) (fun _ _ => ⟨rfl, e410, (by decide : 9 + 0 ≤ _), (by decide : 19 + 0 ≤ _)⟩)
  dsimp only [Pt.U, Pt.locs, Pt.cells, Pt.slots] at X411 l411 y411 z411 st411 hQ411
  subst l411 y411 z411
  obtain ⟨rfl, N411q, e411⟩ := hQ411
  have N411 := Fr.app N410 N411q
  obtain ⟨cq412, kq412, qa412, qb412, qc412⟩ := isOf hZ402 e411 g1405
  obtain ⟨_, _, ⟨T412, L412, k412, n412⟩, -, X412, ⟨Lc412, hQ412, l412, y412, z412⟩, st412⟩ := X411.virtualBack hx (y := (⟨"com/example/nimble_container/nimblecontainer/creation/MethodNaming", "inferred", "()Z"⟩ : MethodName)) (z := (⟨"com/example/nimble_container/nimblecontainer/creation/MethodNaming", "inferred", "()Z"⟩ : MethodName)) hown402 (mvT hZ402 (hw _ (List.mem_of_getElem? (i := 62) rfl))) (mvT hZ402 (hw _ (List.mem_of_getElem? (i := 63) rfl))) (notFace_of_selects (args := #[]) (mvT hZ402 (hw _ (List.mem_of_getElem? (i := 65) rfl)))) (mvT hZ402 (hw _ (List.mem_of_getElem? (i := 65) rfl))) (mvT hZ402 (hw _ (List.mem_of_getElem? (i := 64) rfl))) (by decide) (backOf (W := 0) (rmGI1 l Z a0 hw [] b405 T405.heap n0 O406 g4405) hZ402 (hw _ (List.mem_of_getElem? (i := 66) rfl)) (hw _ (List.mem_of_getElem? (i := 36) rfl)) (by decide) (by decide)) qa412 qc412 (g := (mkF m 145 #[.val (.int p1), .val (.int p2), .val (.int p3), .val (.int p4), .val (.int p5), .val (.int p6), .val (.ref b400), .val (.ref b402), .val (.int (1 : Int32)), .val (.ref b405), .val (.int (0 : Int32))] [(.ref b405)])) rfl (by rw [hml]; rfl) (Steps.refl _) (argsL := []) (rest := []) (lenOf pd___Z rfl) rfl (by show 2 * 0 + _ ≤ _; exact Nat.le_of_eq rfl) (hb hby at_145) (fun _ _ => ⟨rfl, e411, (by decide : 9 + 0 ≤ _), (by decide : 19 + 0 ≤ _)⟩)
  dsimp only [Pt.U, Pt.locs, Pt.cells, Pt.slots] at X412 l412 y412 z412 st412 hQ412
  subst l412 y412 z412
  obtain ⟨rfl, N412q, e412⟩ := hQ412
  have N412 := Fr.app N411 N412q
  obtain ⟨fs, hr, hrun, hended, hEnd⟩ := X412.leaveW (s := s) hS402r (by rw [e412]; exact hk406) (v := some (.int (1 : Int32))) (fun h => by rw [Bd.returns] at h; cases h)
  refine ⟨_, _, pre0 _ ?_, hrun, hended, _, _, rfl, ?_, ?_, hEnd.1, hEnd.2.1, hEnd.2.2.1, hEnd.2.2.2.mono (by decide) (by decide)⟩
  · show Steps p.tables e below (s₁.setTop (mkF m 0 #[.val (.int p1), .val (.int p2), .val (.int p3), .val (.int p4), .val (.int p5), .val (.int p6), .unset, .unset, .unset, .unset, .unset] [])) _
    refine XS.iloadN X0.here hx rfl (hb hby at_0) rfl ?_
    show Steps p.tables e below (s₁.setTop (mkF m 1 #[.val (.int p1), .val (.int p2), .val (.int p3), .val (.int p4), .val (.int p5), .val (.int p6), .unset, .unset, .unset, .unset, .unset] [(.int p1)])) _
    refine XS.iloadN X0.here hx rfl (hb hby at_1) rfl ?_
    show Steps p.tables e below (s₁.setTop (mkF m 2 #[.val (.int p1), .val (.int p2), .val (.int p3), .val (.int p4), .val (.int p5), .val (.int p6), .unset, .unset, .unset, .unset, .unset] [(.int p4), (.int p1)])) _
    refine XS.iload X0.here hx rfl (hb hby at_2) rfl ?_
    show Steps p.tables e below (s₁.setTop (mkF m 4 #[.val (.int p1), .val (.int p2), .val (.int p3), .val (.int p4), .val (.int p5), .val (.int p6), .unset, .unset, .unset, .unset, .unset] [(.int p5), (.int p4), (.int p1)])) _
    refine st400.trans ?_
    show Steps p.tables e below (T400.setTop (mkF m 7 #[.val (.int p1), .val (.int p2), .val (.int p3), .val (.int p4), .val (.int p5), .val (.int p6), .unset, .unset, .unset, .unset, .unset] [(.ref b400)])) _
    refine XS.astore X400r.here hx rfl (hb hby at_7) rfl rfl (l' := #[.val (.int p1), .val (.int p2), .val (.int p3), .val (.int p4), .val (.int p5), .val (.int p6), .val (.ref b400), .unset, .unset, .unset, .unset]) rfl ?_
    show Steps p.tables e below (T400.setTop (mkF m 9 #[.val (.int p1), .val (.int p2), .val (.int p3), .val (.int p4), .val (.int p5), .val (.int p6), .val (.ref b400), .unset, .unset, .unset, .unset] [])) _
    refine XS.iloadN X400r.here hx rfl (hb hby at_9) rfl ?_
    show Steps p.tables e below (T400.setTop (mkF m 10 #[.val (.int p1), .val (.int p2), .val (.int p3), .val (.int p4), .val (.int p5), .val (.int p6), .val (.ref b400), .unset, .unset, .unset, .unset] [(.int p2)])) _
    refine XS.iload X400r.here hx rfl (hb hby at_10) rfl ?_
    show Steps p.tables e below (T400.setTop (mkF m 12 #[.val (.int p1), .val (.int p2), .val (.int p3), .val (.int p4), .val (.int p5), .val (.int p6), .val (.ref b400), .unset, .unset, .unset, .unset] [(.int p6), (.int p2)])) _
    refine XS.iload X400r.here hx rfl (hb hby at_12) rfl ?_
    show Steps p.tables e below (T400.setTop (mkF m 14 #[.val (.int p1), .val (.int p2), .val (.int p3), .val (.int p4), .val (.int p5), .val (.int p6), .val (.ref b400), .unset, .unset, .unset, .unset] [(.int p5), (.int p6), (.int p2)])) _
    refine st402.trans ?_
    show Steps p.tables e below (T402.setTop (mkF m 17 #[.val (.int p1), .val (.int p2), .val (.int p3), .val (.int p4), .val (.int p5), .val (.int p6), .val (.ref b400), .unset, .unset, .unset, .unset] [(.ref b402)])) _
    refine XS.astore X402r.here hx rfl (hb hby at_17) rfl rfl (l' := #[.val (.int p1), .val (.int p2), .val (.int p3), .val (.int p4), .val (.int p5), .val (.int p6), .val (.ref b400), .val (.ref b402), .unset, .unset, .unset]) rfl ?_
    show Steps p.tables e below (T402.setTop (mkF m 19 #[.val (.int p1), .val (.int p2), .val (.int p3), .val (.int p4), .val (.int p5), .val (.int p6), .val (.ref b400), .val (.ref b402), .unset, .unset, .unset] [])) _
    refine XS.iloadN X402r.here hx rfl (hb hby at_19) rfl ?_
    show Steps p.tables e below (T402.setTop (mkF m 20 #[.val (.int p1), .val (.int p2), .val (.int p3), .val (.int p4), .val (.int p5), .val (.int p6), .val (.ref b400), .val (.ref b402), .unset, .unset, .unset] [(.int p3)])) _
    refine XS.iconst X402r.here hx rfl (hb hby at_20) ?_
    show Steps p.tables e below (T402.setTop (mkF m 21 #[.val (.int p1), .val (.int p2), .val (.int p3), .val (.int p4), .val (.int p5), .val (.int p6), .val (.ref b400), .val (.ref b402), .unset, .unset, .unset] [(.int (1 : Int32)), (.int p3)])) _
    refine XS.iand X402r.here hx rfl (hb hby at_21) rfl ?_
    show Steps p.tables e below (T402.setTop (mkF m 22 #[.val (.int p1), .val (.int p2), .val (.int p3), .val (.int p4), .val (.int p5), .val (.int p6), .val (.ref b400), .val (.ref b402), .unset, .unset, .unset] [(.int (p3 &&& (1 : Int32)))])) _
    refine XS.ifNo X402r.here hx rfl (hb hby at_22) rfl ((if0 _ _).trans (feq (qf : ¬ ((p3 &&& (1 : Int32)) = (0 : Int32)))).1) ?_
    show Steps p.tables e below (T402.setTop (mkF m 25 #[.val (.int p1), .val (.int p2), .val (.int p3), .val (.int p4), .val (.int p5), .val (.int p6), .val (.ref b400), .val (.ref b402), .unset, .unset, .unset] [])) _
    refine XS.iconst X402r.here hx rfl (hb hby at_25) ?_
    show Steps p.tables e below (T402.setTop (mkF m 26 #[.val (.int p1), .val (.int p2), .val (.int p3), .val (.int p4), .val (.int p5), .val (.int p6), .val (.ref b400), .val (.ref b402), .unset, .unset, .unset] [(.int (1 : Int32))])) _
    refine XS.goto X402r.here hx rfl (pc0 := 26) (pc' := 30) rfl (hb hby at_26) (by decide) (by decide) ?_
    show Steps p.tables e below (T402.setTop (mkF m 30 #[.val (.int p1), .val (.int p2), .val (.int p3), .val (.int p4), .val (.int p5), .val (.int p6), .val (.ref b400), .val (.ref b402), .unset, .unset, .unset] [(.int (1 : Int32))])) _
    refine XS.istore X402r.here hx rfl (hb hby at_30) rfl (l' := #[.val (.int p1), .val (.int p2), .val (.int p3), .val (.int p4), .val (.int p5), .val (.int p6), .val (.ref b400), .val (.ref b402), .val (.int (1 : Int32)), .unset, .unset]) rfl ?_
    show Steps p.tables e below (T402.setTop (mkF m 32 #[.val (.int p1), .val (.int p2), .val (.int p3), .val (.int p4), .val (.int p5), .val (.int p6), .val (.ref b400), .val (.ref b402), .val (.int (1 : Int32)), .unset, .unset] [])) _
    refine XS.aload X402r.here hx rfl (hb hby at_32) rfl rfl ?_
    show Steps p.tables e below (T402.setTop (mkF m 34 #[.val (.int p1), .val (.int p2), .val (.int p3), .val (.int p4), .val (.int p5), .val (.int p6), .val (.ref b400), .val (.ref b402), .val (.int (1 : Int32)), .unset, .unset] [(.ref b400)])) _
    refine XS.aload X402r.here hx rfl (hb hby at_34) rfl rfl ?_
    show Steps p.tables e below (T402.setTop (mkF m 36 #[.val (.int p1), .val (.int p2), .val (.int p3), .val (.int p4), .val (.int p5), .val (.int p6), .val (.ref b400), .val (.ref b402), .val (.int (1 : Int32)), .unset, .unset] [(.ref b402), (.ref b400)])) _
    refine XS.iload X402r.here hx rfl (hb hby at_36) rfl ?_
    show Steps p.tables e below (T402.setTop (mkF m 38 #[.val (.int p1), .val (.int p2), .val (.int p3), .val (.int p4), .val (.int p5), .val (.int p6), .val (.ref b400), .val (.ref b402), .val (.int (1 : Int32)), .unset, .unset] [(.int (1 : Int32)), (.ref b402), (.ref b400)])) _
    refine st405 _ ?_
    show Steps p.tables e below (T405.setTop (mkF m 41 #[.val (.int p1), .val (.int p2), .val (.int p3), .val (.int p4), .val (.int p5), .val (.int p6), .val (.ref b400), .val (.ref b402), .val (.int (1 : Int32)), .unset, .unset] [(.ref b405)])) _
    refine XS.astore X405.here hx rfl (hb hby at_41) rfl rfl (l' := #[.val (.int p1), .val (.int p2), .val (.int p3), .val (.int p4), .val (.int p5), .val (.int p6), .val (.ref b400), .val (.ref b402), .val (.int (1 : Int32)), .val (.ref b405), .unset]) rfl ?_
    show Steps p.tables e below (T405.setTop (mkF m 43 #[.val (.int p1), .val (.int p2), .val (.int p3), .val (.int p4), .val (.int p5), .val (.int p6), .val (.ref b400), .val (.ref b402), .val (.int (1 : Int32)), .val (.ref b405), .unset] [])) _
    refine XS.aload X405.here hx rfl (hb hby at_43) rfl rfl ?_
    show Steps p.tables e below (T405.setTop (mkF m 45 #[.val (.int p1), .val (.int p2), .val (.int p3), .val (.int p4), .val (.int p5), .val (.int p6), .val (.ref b400), .val (.ref b402), .val (.int (1 : Int32)), .val (.ref b405), .unset] [(.ref b405)])) _
    refine XS.ifnonnullYes X405.here hx rfl (pc0 := 45) (pc' := 50) rfl (hb hby at_45) rfl (by decide) (by decide) ?_
    show Steps p.tables e below (T405.setTop (mkF m 50 #[.val (.int p1), .val (.int p2), .val (.int p3), .val (.int p4), .val (.int p5), .val (.int p6), .val (.ref b400), .val (.ref b402), .val (.int (1 : Int32)), .val (.ref b405), .unset] [])) _
    refine XS.aload X405.here hx rfl (hb hby at_50) rfl rfl ?_
    show Steps p.tables e below (T405.setTop (mkF m 52 #[.val (.int p1), .val (.int p2), .val (.int p3), .val (.int p4), .val (.int p5), .val (.int p6), .val (.ref b400), .val (.ref b402), .val (.int (1 : Int32)), .val (.ref b405), .unset] [(.ref b400)])) _
    refine XS.ifnonnullYes X405.here hx rfl (pc0 := 52) (pc' := 69) rfl (hb hby at_52) rfl (by decide) (by decide) ?_
    show Steps p.tables e below (T405.setTop (mkF m 69 #[.val (.int p1), .val (.int p2), .val (.int p3), .val (.int p4), .val (.int p5), .val (.int p6), .val (.ref b400), .val (.ref b402), .val (.int (1 : Int32)), .val (.ref b405), .unset] [])) _
    refine XS.iconst X405.here hx rfl (hb hby at_69) ?_
    show Steps p.tables e below (T405.setTop (mkF m 70 #[.val (.int p1), .val (.int p2), .val (.int p3), .val (.int p4), .val (.int p5), .val (.int p6), .val (.ref b400), .val (.ref b402), .val (.int (1 : Int32)), .val (.ref b405), .unset] [(.int (0 : Int32))])) _
    refine XS.istore X405.here hx rfl (hb hby at_70) rfl (l' := #[.val (.int p1), .val (.int p2), .val (.int p3), .val (.int p4), .val (.int p5), .val (.int p6), .val (.ref b400), .val (.ref b402), .val (.int (1 : Int32)), .val (.ref b405), .val (.int (0 : Int32))]) rfl ?_
    show Steps p.tables e below (T405.setTop (mkF m 72 #[.val (.int p1), .val (.int p2), .val (.int p3), .val (.int p4), .val (.int p5), .val (.int p6), .val (.ref b400), .val (.ref b402), .val (.int (1 : Int32)), .val (.ref b405), .val (.int (0 : Int32))] [])) _
    refine XS.iload X405.here hx rfl (hb hby at_72) rfl ?_
    show Steps p.tables e below (T405.setTop (mkF m 74 #[.val (.int p1), .val (.int p2), .val (.int p3), .val (.int p4), .val (.int p5), .val (.int p6), .val (.ref b400), .val (.ref b402), .val (.int (1 : Int32)), .val (.ref b405), .val (.int (0 : Int32))] [(.int (0 : Int32))])) _
    refine XS.ifYes X405.here hx rfl (pc0 := 74) (pc' := 115) rfl (hb hby at_74) rfl ((if0 _ _).trans (teq (rfl : (0 : Int32) = (0 : Int32))).1) (by decide) (by decide) ?_
    show Steps p.tables e below (T405.setTop (mkF m 115 #[.val (.int p1), .val (.int p2), .val (.int p3), .val (.int p4), .val (.int p5), .val (.int p6), .val (.ref b400), .val (.ref b402), .val (.int (1 : Int32)), .val (.ref b405), .val (.int (0 : Int32))] [])) _
    refine XS.aload X405.here hx rfl (hb hby at_115) rfl rfl ?_
    show Steps p.tables e below (T405.setTop (mkF m 117 #[.val (.int p1), .val (.int p2), .val (.int p3), .val (.int p4), .val (.int p5), .val (.int p6), .val (.ref b400), .val (.ref b402), .val (.int (1 : Int32)), .val (.ref b405), .val (.int (0 : Int32))] [(.ref b405)])) _
    refine st409 _ ?_
    show Steps p.tables e below (T409.setTop (mkF m 120 #[.val (.int p1), .val (.int p2), .val (.int p3), .val (.int p4), .val (.int p5), .val (.int p6), .val (.ref b400), .val (.ref b402), .val (.int (1 : Int32)), .val (.ref b405), .val (.int (0 : Int32))] [(.ref nn), (.ref b405)])) _
    refine Jvm.RoadKit.acmp (g := (mkF m 120 #[.val (.int p1), .val (.int p2), .val (.int p3), .val (.int p4), .val (.int p5), .val (.int p6), .val (.ref b400), .val (.ref b402), .val (.int (1 : Int32)), .val (.ref b405), .val (.int (0 : Int32))] [(.ref nn), (.ref b405)])) X409 hx rfl rfl rfl (pc0 := 120) (pc' := 123) (same := false) rfl (hb hby at_120) rfl (decide_eq_false fun q => (Ne.symm (Old.ne O0 EN.lt g_b405)) (Value.ref.inj q)) (by decide) (by decide) ?_
    show Steps p.tables e below (T409.setTop (mkF m 123 #[.val (.int p1), .val (.int p2), .val (.int p3), .val (.int p4), .val (.int p5), .val (.int p6), .val (.ref b400), .val (.ref b402), .val (.int (1 : Int32)), .val (.ref b405), .val (.int (0 : Int32))] [])) _
    refine XS.aload X409.here hx rfl (hb hby at_123) rfl rfl ?_
    show Steps p.tables e below (T409.setTop (mkF m 125 #[.val (.int p1), .val (.int p2), .val (.int p3), .val (.int p4), .val (.int p5), .val (.int p6), .val (.ref b400), .val (.ref b402), .val (.int (1 : Int32)), .val (.ref b405), .val (.int (0 : Int32))] [(.ref b405)])) _
    refine st410.trans ?_
    show Steps p.tables e below (T410.setTop (mkF m 128 #[.val (.int p1), .val (.int p2), .val (.int p3), .val (.int p4), .val (.int p5), .val (.int p6), .val (.ref b400), .val (.ref b402), .val (.int (1 : Int32)), .val (.ref b405), .val (.int (0 : Int32))] [(.ref b400)])) _
    refine XS.aload X410.here hx rfl (hb hby at_128) rfl rfl ?_
    show Steps p.tables e below (T410.setTop (mkF m 130 #[.val (.int p1), .val (.int p2), .val (.int p3), .val (.int p4), .val (.int p5), .val (.int p6), .val (.ref b400), .val (.ref b402), .val (.int (1 : Int32)), .val (.ref b405), .val (.int (0 : Int32))] [(.ref b400), (.ref b400)])) _
    refine Jvm.RoadKit.acmp (g := (mkF m 130 #[.val (.int p1), .val (.int p2), .val (.int p3), .val (.int p4), .val (.int p5), .val (.int p6), .val (.ref b400), .val (.ref b402), .val (.int (1 : Int32)), .val (.ref b405), .val (.int (0 : Int32))] [(.ref b400), (.ref b400)])) X410 hx rfl rfl rfl (pc0 := 130) (pc' := 133) (same := true) rfl (hb hby at_130) rfl (decide_eq_true rfl) (by decide) (by decide) ?_
    show Steps p.tables e below (T410.setTop (mkF m 133 #[.val (.int p1), .val (.int p2), .val (.int p3), .val (.int p4), .val (.int p5), .val (.int p6), .val (.ref b400), .val (.ref b402), .val (.int (1 : Int32)), .val (.ref b405), .val (.int (0 : Int32))] [])) _
    refine XS.aload X410.here hx rfl (hb hby at_133) rfl rfl ?_
    show Steps p.tables e below (T410.setTop (mkF m 135 #[.val (.int p1), .val (.int p2), .val (.int p3), .val (.int p4), .val (.int p5), .val (.int p6), .val (.ref b400), .val (.ref b402), .val (.int (1 : Int32)), .val (.ref b405), .val (.int (0 : Int32))] [(.ref b405)])) _
    refine st411.trans ?_
    show Steps p.tables e below (T411.setTop (mkF m 138 #[.val (.int p1), .val (.int p2), .val (.int p3), .val (.int p4), .val (.int p5), .val (.int p6), .val (.ref b400), .val (.ref b402), .val (.int (1 : Int32)), .val (.ref b405), .val (.int (0 : Int32))] [(.ref b402)])) _
    refine XS.aload X411.here hx rfl (hb hby at_138) rfl rfl ?_
    show Steps p.tables e below (T411.setTop (mkF m 140 #[.val (.int p1), .val (.int p2), .val (.int p3), .val (.int p4), .val (.int p5), .val (.int p6), .val (.ref b400), .val (.ref b402), .val (.int (1 : Int32)), .val (.ref b405), .val (.int (0 : Int32))] [(.ref b402), (.ref b402)])) _
    refine Jvm.RoadKit.acmp (g := (mkF m 140 #[.val (.int p1), .val (.int p2), .val (.int p3), .val (.int p4), .val (.int p5), .val (.int p6), .val (.ref b400), .val (.ref b402), .val (.int (1 : Int32)), .val (.ref b405), .val (.int (0 : Int32))] [(.ref b402), (.ref b402)])) X411 hx rfl rfl rfl (pc0 := 140) (pc' := 143) (same := true) rfl (hb hby at_140) rfl (decide_eq_true rfl) (by decide) (by decide) ?_
    show Steps p.tables e below (T411.setTop (mkF m 143 #[.val (.int p1), .val (.int p2), .val (.int p3), .val (.int p4), .val (.int p5), .val (.int p6), .val (.ref b400), .val (.ref b402), .val (.int (1 : Int32)), .val (.ref b405), .val (.int (0 : Int32))] [])) _
    refine XS.aload X411.here hx rfl (hb hby at_143) rfl rfl ?_
    show Steps p.tables e below (T411.setTop (mkF m 145 #[.val (.int p1), .val (.int p2), .val (.int p3), .val (.int p4), .val (.int p5), .val (.int p6), .val (.ref b400), .val (.ref b402), .val (.int (1 : Int32)), .val (.ref b405), .val (.int (0 : Int32))] [(.ref b405)])) _
    refine st412.trans ?_
    show Steps p.tables e below (T412.setTop (mkF m 148 #[.val (.int p1), .val (.int p2), .val (.int p3), .val (.int p4), .val (.int p5), .val (.int p6), .val (.ref b400), .val (.ref b402), .val (.int (1 : Int32)), .val (.ref b405), .val (.int (0 : Int32))] [(.int (1 : Int32))])) _
    refine XS.iload X412.here hx rfl (hb hby at_148) rfl ?_
    show Steps p.tables e below (T412.setTop (mkF m 150 #[.val (.int p1), .val (.int p2), .val (.int p3), .val (.int p4), .val (.int p5), .val (.int p6), .val (.ref b400), .val (.ref b402), .val (.int (1 : Int32)), .val (.ref b405), .val (.int (0 : Int32))] [(.int (1 : Int32)), (.int (1 : Int32))])) _
    refine XS.icmpNo X412.here hx rfl (hb hby at_150) rfl (teq (rfl : (1 : Int32) = (1 : Int32))).2 ?_
    show Steps p.tables e below (T412.setTop (mkF m 153 #[.val (.int p1), .val (.int p2), .val (.int p3), .val (.int p4), .val (.int p5), .val (.int p6), .val (.ref b400), .val (.ref b402), .val (.int (1 : Int32)), .val (.ref b405), .val (.int (0 : Int32))] [])) _
    refine XS.iconst X412.here hx rfl (hb hby at_153) ?_
    show Steps p.tables e below (T412.setTop (mkF m 154 #[.val (.int p1), .val (.int p2), .val (.int p3), .val (.int p4), .val (.int p5), .val (.int p6), .val (.ref b400), .val (.ref b402), .val (.int (1 : Int32)), .val (.ref b405), .val (.int (0 : Int32))] [(.int (1 : Int32))])) _
    refine XS.goto X412.here hx rfl (pc0 := 154) (pc' := 158) rfl (hb hby at_154) (by decide) (by decide) ?_
    show Steps p.tables e below (T412.setTop (mkF m 158 #[.val (.int p1), .val (.int p2), .val (.int p3), .val (.int p4), .val (.int p5), .val (.int p6), .val (.ref b400), .val (.ref b402), .val (.int (1 : Int32)), .val (.ref b405), .val (.int (0 : Int32))] [(.int (1 : Int32))])) _
    exact retN X412 hx (t := .boolean) Bd.returns (by simp) (hb hby at_158) hr
  · show Qlaw Z h0 n0 _ T412.heap _
    rw [e412]
    exact ⟨rfl, N412⟩
  · show CHr Z [("java/lang/String", 7)] s.vm s.heap T412.vm T412.heap
    rw [hh, e412]
    exact HC406.trans (CHv.at X412 hZ402 hEL HC406.1)
theorem rmLaw (l : Launch) (Z : State) (a0 : Array Value) (hw : ∀ d ∈ tables_1, d.before a0 Z = true) (ws : List Jvm.Cond) (p1 p2 p3 p4 p5 p6 GC : Int32) (nn : Addr) (h0 : Heap) (n0 : Nat) (O0 : Old Z n0 h0) (hEL : EW Z a0 [("java/lang/String", 7)]) (wS : ∀ a ∈ Bundle.stringAtoms, a.before a0 Z = true) (OC2 : Sta Z Z.heap "java/lang/String" "COMPACT_STRINGS" "Z" (.int GC)) (OCz : ¬ (GC = (0 : Int32))) (SN : Sta Z Z.heap "com/example/nimble_container/nimblecontainer/creation/MethodNaming" "NONE" "Lcom/example/nimble_container/nimblecontainer/creation/MethodNaming;" (.ref nn)) (EN : Exa Z Z.heap nn "com/example/nimble_container/nimblecontainer/creation/MethodNaming") (N0f : Fld Z Z.heap nn "com/example/nimble_container/nimblecontainer/creation/MethodNaming" "named" "Ljava/lang/String;" .null) (N1f : Fld Z Z.heap nn "com/example/nimble_container/nimblecontainer/creation/MethodNaming" "byDefault" "Ljava/lang/String;" .null) (N2f : Fld Z Z.heap nn "com/example/nimble_container/nimblecontainer/creation/MethodNaming" "inferred" "Z" (.int (0 : Int32))) :
    MetFree l x (head1 (Jvm.Cond.code x code maxLocals ret :: ws) room_1) (fun a U => a = #[(.int p1), (.int p2), (.int p3), (.int p4), (.int p5), (.int p6)] ∧ Z.Warmed39 U.vm ∧ U.heap = h0 ∧ CHv Z [("java/lang/String", 7)] U.vm h0) (fun _ _ _ _ _ => True) (fun _ U o U' => ∃ v L, o = .returned v ∧ Qlaw Z h0 n0 v U'.heap L ∧ CHr Z [("java/lang/String", 7)] U.vm U.heap U'.vm U'.heap ∧ ReturnedEndW U o U' L room_1.cells room_1.slots) := by
  by_cases qn : (p1 &&& (3 : Int32)) = (0 : Int32) <;> by_cases qd : (p2 &&& (3 : Int32)) = (0 : Int32) <;> by_cases qf : (p3 &&& (1 : Int32)) = (0 : Int32)
  · exact rmLawNN0 l Z a0 hw ws p1 p2 p3 p4 p5 p6 GC nn h0 n0 O0 hEL wS OC2 OCz SN EN N0f N1f N2f qn qd qf
  · exact rmLawNN1 l Z a0 hw ws p1 p2 p3 p4 p5 p6 GC nn h0 n0 O0 hEL wS OC2 OCz SN EN N0f N1f N2f qn qd qf
  · exact rmLawNR0 l Z a0 hw ws p1 p2 p3 p4 p5 p6 GC nn h0 n0 O0 hEL wS OC2 OCz SN EN N0f N1f N2f qn qd qf
  · exact rmLawNR1 l Z a0 hw ws p1 p2 p3 p4 p5 p6 GC nn h0 n0 O0 hEL wS OC2 OCz SN EN N0f N1f N2f qn qd qf
  · exact rmLawRN0 l Z a0 hw ws p1 p2 p3 p4 p5 p6 GC nn h0 n0 O0 hEL wS OC2 OCz SN EN N0f N1f N2f qn qd qf
  · exact rmLawRN1 l Z a0 hw ws p1 p2 p3 p4 p5 p6 GC nn h0 n0 O0 hEL wS OC2 OCz SN EN N0f N1f N2f qn qd qf
  · exact rmLawRR0 l Z a0 hw ws p1 p2 p3 p4 p5 p6 GC nn h0 n0 O0 hEL wS OC2 OCz SN EN N0f N1f N2f qn qd qf
  · exact rmLawRR1 l Z a0 hw ws p1 p2 p3 p4 p5 p6 GC nn h0 n0 O0 hEL wS OC2 OCz SN EN N0f N1f N2f qn qd qf
set_option maxRecDepth 65536 in
set_option maxHeartbeats 40000000 in
theorem comes_1 {Post : Tables → Env → Array Value → State → Outcome → State → Prop} (hpost : ∀ tb e args s v u, (limb_1_1.after args s (.returned v) u = true ∧ limb_1_2.after args s (.returned v) u = true ∧ True) → ReturnedEndW s (.returned v) u (Jvm.fieldLocs frame_1_writes args s ++ Jvm.arrayLocs frame_1_arrays args s ++ Jvm.staticLocs frame_1_statics s) 24 1152 → Post tb e args s (.returned v) u) :
    ArmFor flags0 classFile x code maxLocals ret World_1 tables_1 room_1 Calls_1 rest_1 Pre_1 Post := by
  intro l hfl _ _ p e ha hc hk s m args below hf hA hF happ hP
  obtain ⟨hcalls, hrest, hpre⟩ := hP
  obtain ⟨-, -, -, hnamed, -, -, -, hat⟩ := (Spec.applies_iff hf).mp happ
  obtain ⟨hg, hn⟩ := and_e (Cond.before_iff.mp (show (Jvm.Cond.and given_1 narrow_1).before args s = true from hpre))
  obtain ⟨h1, h2⟩ := and_e hg
  obtain ⟨w0, w1, w2, w3, w4, w5, rfl⟩ : ∃ w0 w1 w2 w3 w4 w5 : Value, args = #[w0, w1, w2, w3, w4, w5] := by
    have hs : args.size = 6 := by simpa [Cond.value, given_1] using h1
    obtain ⟨L⟩ := args
    match L, hs with
    | [w0, w1, w2, w3, w4, w5], _ => exact ⟨w0, w1, w2, w3, w4, w5, rfl⟩
  have hw := fun d (hd : d ∈ tables_1) => atoms_spec (ws := Jvm.Cond.code x code maxLocals ret :: tables_1) hat d (List.mem_cons_of_mem _ hd)
  obtain ⟨hsets, hown0⟩ := atoms_of _ (rest_1_c_eq ▸ (show rest_1_c.before _ s = true from hrest))
  have hfit : Fit s := fun {y c} hc i hi => by
    obtain ⟨ha, rfl⟩ := Array.getElem?_eq_some_iff.mp hc
    have q := List.all_eq_true.mp ((Array.all_eq_true_iff_forall_mem.mp hF) _ (Array.getElem_mem ha)) i (List.mem_range.mpr hi)
    simpa [Array.getElem?_eq_getElem hi] using q
  obtain ⟨hA0, hB0⟩ := and_e h2
  obtain ⟨i0, e0⟩ := is_v hA0
  obtain rfl : w0 = (.int i0) := Option.some.inj e0
  obtain ⟨hA1, hB1⟩ := and_e hB0
  obtain ⟨i1, e1⟩ := is_v hA1
  obtain rfl : w1 = (.int i1) := Option.some.inj e1
  obtain ⟨hA2, hB2⟩ := and_e hB1
  obtain ⟨i2, e2⟩ := is_v hA2
  obtain rfl : w2 = (.int i2) := Option.some.inj e2
  obtain ⟨hA3, hB3⟩ := and_e hB2
  obtain ⟨i3, e3⟩ := is_v hA3
  obtain rfl : w3 = (.int i3) := Option.some.inj e3
  obtain ⟨hA4, hB4⟩ := and_e hB3
  obtain ⟨i4, e4⟩ := is_v hA4
  obtain rfl : w4 = (.int i4) := Option.some.inj e4
  obtain ⟨i5, e5⟩ := is_v hB4
  obtain rfl : w5 = (.int i5) := Option.some.inj e5
  obtain ⟨GC, eGC⟩ := is_v (Cond.before_iff.mp (hsets _ (List.mem_of_getElem? (i := 1) rfl)))
  have OC2 : Sta s s.heap "java/lang/String" "COMPACT_STRINGS" "Z" (.int GC) := Sta.start eGC (Or.inl (hsets _ (List.mem_of_getElem? (i := 0) rfl)))
  have OCz : ¬ (GC = (0 : Int32)) := gotF (Cond.eq_ints eGC (Term.int_eval (0))) (not_v (Cond.before_iff.mp (hsets _ (List.mem_of_getElem? (i := 2) rfl))))
  obtain ⟨nn0, nr0⟩ := and_e hn
  obtain ⟨nn1, nr1⟩ := and_e nr0
  obtain ⟨nn2, nn3⟩ := and_e nr1
  obtain ⟨nn, en⟩ := exa_v nn0
  have SN : Sta s s.heap "com/example/nimble_container/nimblecontainer/creation/MethodNaming" "NONE" "Lcom/example/nimble_container/nimblecontainer/creation/MethodNaming;" (.ref nn) := Sta.start en (Or.inr ⟨(hw _ (List.mem_of_getElem? (i := 36) rfl)), (hw _ (List.mem_of_getElem? (i := 51) rfl))⟩)
  have EN : Exa s s.heap nn "com/example/nimble_container/nimblecontainer/creation/MethodNaming" := Exa.start en nn0
  have N0f : Fld s s.heap nn "com/example/nimble_container/nimblecontainer/creation/MethodNaming" "named" "Ljava/lang/String;" .null := Fld.start ((fld_at en).symm.trans (null_v nn1))
  have N1f : Fld s s.heap nn "com/example/nimble_container/nimblecontainer/creation/MethodNaming" "byDefault" "Ljava/lang/String;" .null := Fld.start ((fld_at en).symm.trans (null_v nn2))
  have N2f : Fld s s.heap nn "com/example/nimble_container/nimblecontainer/creation/MethodNaming" "inferred" "Z" (.int (0 : Int32)) := Fld.start ((fld_at en).symm.trans (own_eqI nn3))
  have wl := (hw _ (List.mem_of_getElem? (i := 81) rfl))
  have hEL : EW s _ [("java/lang/String", 7)] := EW.cons wl (by decide) EW.nil
  have hCH : CHv s [("java/lang/String", 7)] s.vm s.heap := CHv.start hEL (fun p hp => hcalls.1 p hp) (hsets _ (List.mem_of_getElem? (i := 2) rfl)) (hw _ (List.mem_of_getElem? (i := 23) rfl)) (hw _ (List.mem_of_getElem? (i := 5) rfl))
  have wS : ∀ a ∈ Bundle.stringAtoms, a.before _ s = true := fun d hd => hw d ((by decide +kernel : ∀ d ∈ Bundle.stringAtoms, d ∈ tables_1) d hd)
  obtain ⟨n, o, h1, h2, h3, _, L, rfl, ⟨rfl, N⟩, hCHr, hq⟩ := rmLaw l s _ hw tables_1 i0 i1 i2 i3 i4 i5 GC nn s.heap s.heap.size (Old.start s) hEL wS OC2 OCz SN EN N0f N1f N2f p e ha hc hk s m _ below hf ((Spec.applies_iff_loose hf).mp happ).1 ⟨rfl, State.Warmed39.refl s, rfl, hCH⟩ trivial
  refine ⟨n, _, h1, h2, h3, hpost _ _ _ _ _ _ ⟨Cond.after_iff.mpr rfl, Cond.after_iff.mpr (eq_i res_at (Term.int_eval (1)) rfl), trivial⟩ ⟨hq.1, hq.2.1, hq.2.2.1, (hq.2.2.2.sift fun y hy => Or.inr (N y hy)).mono (by decide) (by decide)⟩⟩
theorem main_1_1 : Claimed_1_1 := comes_1 fun _ _ _ _ _ _ h hF => ⟨h.1, hF⟩
theorem main_1_2 : Claimed_1_2 := comes_1 fun _ _ _ _ _ _ h hF => ⟨h.2.1, hF⟩
end Jvm.Pilot.@@N@@
namespace Jvm.Pilot.@@N@@
open Jvm Jvm.ClassFile Sem Op Lib Jvm.Free Jvm.Stand Jvm.Pilot.@@N@@.Jvm.D
/-! MADE BY PROGRAM (witnessworld.py) out of the Statement's table words and the real class files: 20 classes; the members and pool entries that the words name. The judged class is class 1, her method 2. -/
namespace start1
open Jvm.ClassFile
def u (s : String) : CpInfo := .utf8 (stringToUtf16 s)
/-- a pool by its gaps: so many unusable entries, then the entry; so many at the end -/
def gap : Nat → List CpInfo → List CpInfo
  | 0, r => r
  | n + 1, r => .unusable :: gap n r
def poolList (es : List (Nat × CpInfo)) (last : Nat) : List CpInfo := es.foldr (fun e r => gap e.1 (e.2 :: r)) (gap last [])
def pool (es : List (Nat × CpInfo)) (last : Nat) : Array CpInfo := ⟨poolList es last⟩
def fileOf (pool : Array CpInfo) (this : Nat) (attrs : Array Attribute := #[]) (ms : Array MethodInfo := #[]) (fl : Nat := 33) (sup : Nat := 0) (ifs : Array Nat := #[]) (fds : Array FieldInfo := #[]) : ClassFile where
  minorVersion := 0
  majorVersion := 65
  constantPool := pool
  accessFlags := fl
  thisClass := this
  superClass := sup
  interfaces := ifs
  fields := fds
  methods := ms
  attributes := attrs
def plain (name : String) (sup : Option ClassId) : Class where
  name := name
  kind := .ordinary
  loader := none
  accessFlags := 33
  super := sup
  interfaces := #[]
  cf := none
  fields := #[]
  methods := #[]
  instanceTypes := #[]
  staticTypes := #[]
  resolved := #[]
  callSites := []
  init := .initialized
  statics := none
  mirror := none

def pool0 : Array CpInfo := pool [(5, u "<init>"), (0, u "()V"), (1, .class_ 10), (1, u "java/lang/Object")] 113

def k0c0 : Code := { maxStack := 0, maxLocals := 1, code := object_method_1_code, exceptionTable := #[], attributes := #[] }
def k0m0 : Method := { name := "<init>", desc := "()V", sig := { parameters := [], returnType := none }, accessFlags := 1, code := some k0c0 }
/-- java/lang/Object -/
def k0 : Class := { plain "java/lang/Object" none with
  accessFlags := 33
  interfaces := #[]
  cf := some (fileOf pool0 8 #[] #[{ accessFlags := 1, nameIndex := 5, descriptorIndex := 6, attributes := #[] }] 33 0 #[] #[])
  fields := #[]
  methods := #[k0m0]
  instanceTypes := #[]
  staticTypes := #[]
  resolved := Array.replicate 124 none
  statics := none }

def pool1 : Array CpInfo := pool [(2, .class_ 4), (1, u "java/lang/Object"), (0, u "<init>"), (0, u "()V"), (0, .class_ 8), (0, u "java/lang/String"), (0, .methodref 7 10), (0, .nameAndType 5 11), (0, u "([C)V"), (0, .methodref 7 13), (0, .nameAndType 14 15), (0, u "valueOf"), (0, u "(C)Ljava/lang/String;"), (0, .methodref 17 18), (0, .class_ 19), (0, .nameAndType 20 21), (0, u "com/example/nimble_container/nimblecontainer/creation/MethodNamingOfPinLaw"), (0, u "draw"), (0, u "(III)Ljava/lang/String;"), (0, .methodref 23 24), (0, .class_ 25), (0, .nameAndType 26 27), (0, u "com/example/nimble_container/nimblecontainer/creation/MethodNaming"), (0, u "of"), (0, u "(Ljava/lang/String;Ljava/lang/String;Z)Lcom/example/nimble_container/nimblecontainer/creation/MethodNaming;"), (0, .fieldref 23 29), (0, .nameAndType 30 31), (0, u "NONE"), (0, u "Lcom/example/nimble_container/nimblecontainer/creation/MethodNaming;"), (0, .methodref 23 33), (0, .nameAndType 34 35), (0, u "named"), (0, u "()Ljava/lang/String;"), (0, .methodref 23 37), (0, .nameAndType 38 35), (0, u "byDefault"), (0, .methodref 23 40), (0, .nameAndType 41 42), (0, u "inferred"), (0, u "()Z"), (3, u "law"), (0, u "(IIIIII)Z")] 2

def k1m0 : Method := { name := "<init>", desc := "()V", sig := { parameters := [], returnType := none }, accessFlags := 2, code := none }
def k1c1 : Code := { maxStack := 7, maxLocals := 4, code := method_2_code, exceptionTable := #[], attributes := #[] }
def k1m1 : Method := { name := "draw", desc := "(III)Ljava/lang/String;", sig := { parameters := [.int, .int, .int], returnType := some (.object "java/lang/String") }, accessFlags := 10, code := some k1c1 }
def k1c2 : Code := { maxStack := 3, maxLocals := 11, code := code, exceptionTable := #[], attributes := #[] }
def k1m2 : Method := { name := "law", desc := "(IIIIII)Z", sig := { parameters := [.int, .int, .int, .int, .int, .int], returnType := some .boolean }, accessFlags := 9, code := some k1c2 }
/-- com/example/nimble_container/nimblecontainer/creation/MethodNamingOfPinLaw -/
def k1 : Class := { plain "com/example/nimble_container/nimblecontainer/creation/MethodNamingOfPinLaw" (some 0) with
  accessFlags := 49
  interfaces := #[]
  cf := some (fileOf pool1 17 #[] #[{ accessFlags := 2, nameIndex := 5, descriptorIndex := 6, attributes := #[] }, { accessFlags := 10, nameIndex := 20, descriptorIndex := 21, attributes := #[] }, { accessFlags := 9, nameIndex := 46, descriptorIndex := 47, attributes := #[] }] 49 2 #[] #[])
  fields := #[]
  methods := #[k1m0, k1m1, k1m2]
  instanceTypes := #[]
  staticTypes := #[]
  resolved := Array.replicate 50 none
  statics := none }

def pool2 : Array CpInfo := pool [(1, .class_ 2), (0, u "java/io/Serializable"), (0, .class_ 4), (0, u "java/lang/Object")] 2

/-- java/io/Serializable -/
def k2 : Class := { plain "java/io/Serializable" (some 0) with
  accessFlags := 1537
  interfaces := #[]
  cf := some (fileOf pool2 1 #[] #[] 1537 3 #[] #[])
  fields := #[]
  methods := #[]
  instanceTypes := #[]
  staticTypes := #[]
  resolved := Array.replicate 7 none
  statics := none }

def pool3 : Array CpInfo := pool [(1, .class_ 2), (0, u "java/lang/Comparable"), (0, .class_ 4), (0, u "java/lang/Object")] 7

/-- java/lang/Comparable -/
def k3 : Class := { plain "java/lang/Comparable" (some 0) with
  accessFlags := 1537
  interfaces := #[]
  cf := some (fileOf pool3 1 #[] #[] 1537 3 #[] #[])
  fields := #[]
  methods := #[]
  instanceTypes := #[]
  staticTypes := #[]
  resolved := Array.replicate 12 none
  statics := none }

def pool4 : Array CpInfo := pool [(2, .class_ 4), (1, u "java/lang/CharSequence"), (42, .class_ 48), (0, u "java/lang/CharSequence$1CodePointIterator"), (10, .class_ 60), (0, u "java/lang/CharSequence$1CharIterator"), (5, .class_ 67), (0, u "java/lang/Object")] 63

/-- java/lang/CharSequence -/
def k4 : Class := { plain "java/lang/CharSequence" (some 0) with
  accessFlags := 1537
  interfaces := #[]
  cf := some (fileOf pool4 2 #[.nestMembers #[47, 59]] #[] 1537 66 #[] #[])
  fields := #[]
  methods := #[]
  instanceTypes := #[]
  staticTypes := #[]
  resolved := Array.replicate 131 none
  statics := none }

def pool5 : Array CpInfo := pool [(1, .class_ 2), (0, u "java/lang/constant/Constable"), (0, .class_ 4), (0, u "java/lang/Object")] 6

/-- java/lang/constant/Constable -/
def k5 : Class := { plain "java/lang/constant/Constable" (some 0) with
  accessFlags := 1537
  interfaces := #[]
  cf := some (fileOf pool5 1 #[] #[] 1537 3 #[] #[])
  fields := #[]
  methods := #[]
  instanceTypes := #[]
  staticTypes := #[]
  resolved := Array.replicate 11 none
  statics := none }

def pool6 : Array CpInfo := pool [(1, .class_ 2), (0, u "java/lang/constant/ConstantDesc"), (0, .class_ 4), (0, u "java/lang/Object")] 32

/-- java/lang/constant/ConstantDesc -/
def k6 : Class := { plain "java/lang/constant/ConstantDesc" (some 0) with
  accessFlags := 1537
  interfaces := #[]
  cf := some (fileOf pool6 1 #[] #[] 1537 3 #[] #[])
  fields := #[]
  methods := #[]
  instanceTypes := #[]
  staticTypes := #[]
  resolved := Array.replicate 37 none
  statics := none }

def pool7 : Array CpInfo := pool [(1, .methodref 2 3), (0, .class_ 4), (0, .nameAndType 5 6), (0, u "java/lang/Object"), (0, u "<init>"), (0, u "()V"), (0, .string 8), (0, u ""), (0, .fieldref 10 11), (0, .class_ 12), (0, .nameAndType 13 14), (0, u "java/lang/String"), (0, u "value"), (0, u "[B"), (0, .fieldref 10 16), (0, .nameAndType 17 18), (0, u "coder"), (0, u "B"), (2, u "hash"), (0, u "I"), (2, u "hashIsZero"), (0, u "Z"), (0, .methodref 10 28), (0, .nameAndType 5 29), (0, u "([CIILjava/lang/Void;)V"), (8, .fieldref 10 39), (0, .nameAndType 40 26), (0, u "COMPACT_STRINGS"), (1, .class_ 44), (1, u "java/lang/StringUTF16"), (0, u "compress"), (1, .methodref 42 48), (0, .nameAndType 49 50), (0, u "coderFromArrayLen"), (0, u "([BI)B"), (2, u "toBytes"), (53, .class_ 109), (1, u "java/lang/StringLatin1"), (67, .methodref 42 178), (0, .nameAndType 45 179), (0, u "([CII)[B"), (29, .methodref 10 210), (0, .nameAndType 5 211), (0, u "([BB)V"), (157, u "(C)Z"), (205, .class_ 576), (0, u "java/lang/CharSequence"), (22, u "CASE_INSENSITIVE_ORDER"), (0, u "Ljava/util/Comparator;"), (181, u "valueOf"), (0, u "(C)Ljava/lang/String;"), (226, u "([C)V"), (4, .methodref 107 1016), (0, .nameAndType 1017 369), (0, u "canEncode"), (0, .methodref 107 1019), (0, .nameAndType 53 1020), (0, u "(C)[B"), (80, u "serialPersistentFields"), (0, u "[Ljava/io/ObjectStreamField;"), (0, .class_ 1104), (0, u "java/lang/String$CaseInsensitiveComparator"), (1, .class_ 1107), (0, u "java/io/Serializable"), (0, .class_ 1109), (0, u "java/lang/Comparable"), (0, .class_ 1111), (0, u "java/lang/constant/Constable"), (0, .class_ 1113), (0, u "java/lang/constant/ConstantDesc"), (2, u "serialVersionUID"), (0, u "J"), (3, u "REPL"), (0, u "C"), (2, u "LATIN1"), (1, u "UTF16")] 323

def k7m0 : Method := { name := "<init>", desc := "()V", sig := { parameters := [], returnType := none }, accessFlags := 1, code := none }
def k7c1 : Code := { maxStack := 5, maxLocals := 2, code := jdk_42_method_3_code, exceptionTable := #[], attributes := #[] }
def k7m1 : Method := { name := "<init>", desc := "([C)V", sig := { parameters := [(.array .char)], returnType := none }, accessFlags := 1, code := some k7c1 }
def k7c2 : Code := { maxStack := 4, maxLocals := 1, code := jdk_42_method_139_code, exceptionTable := #[], attributes := #[] }
def k7m2 : Method := { name := "valueOf", desc := "(C)Ljava/lang/String;", sig := { parameters := [.char], returnType := some (.object "java/lang/String") }, accessFlags := 9, code := some k7c2 }
def k7c3 : Code := { maxStack := 4, maxLocals := 6, code := jdk_42_method_149_code, exceptionTable := #[], attributes := #[] }
def k7m3 : Method := { name := "<init>", desc := "([CIILjava/lang/Void;)V", sig := { parameters := [(.array .char), .int, .int, (.object "java/lang/Void")], returnType := none }, accessFlags := 2, code := some k7c3 }
def k7c4 : Code := { maxStack := 2, maxLocals := 3, code := jdk_42_method_151_code, exceptionTable := #[], attributes := #[] }
def k7m4 : Method := { name := "<init>", desc := "([BB)V", sig := { parameters := [(.array .byte), .byte], returnType := none }, accessFlags := 0, code := some k7c4 }
/-- java/lang/String -/
def k7 : Class := { plain "java/lang/String" (some 0) with
  accessFlags := 49
  interfaces := #[2, 3, 4, 5, 6]
  cf := some (fileOf pool7 10 #[.nestMembers #[1103]] #[{ accessFlags := 1, nameIndex := 5, descriptorIndex := 6, attributes := #[] }, { accessFlags := 1, nameIndex := 5, descriptorIndex := 1010, attributes := #[] }, { accessFlags := 9, nameIndex := 782, descriptorIndex := 783, attributes := #[] }, { accessFlags := 2, nameIndex := 5, descriptorIndex := 29, attributes := #[] }, { accessFlags := 0, nameIndex := 5, descriptorIndex := 211, attributes := #[] }] 49 2 #[1106, 1108, 575, 1110, 1112] #[{ accessFlags := 18, nameIndex := 13, descriptorIndex := 14, attributes := #[] }, { accessFlags := 18, nameIndex := 17, descriptorIndex := 18, attributes := #[] }, { accessFlags := 2, nameIndex := 21, descriptorIndex := 22, attributes := #[] }, { accessFlags := 2, nameIndex := 25, descriptorIndex := 26, attributes := #[] }, { accessFlags := 26, nameIndex := 1116, descriptorIndex := 1117, attributes := #[] }, { accessFlags := 24, nameIndex := 40, descriptorIndex := 26, attributes := #[] }, { accessFlags := 26, nameIndex := 1101, descriptorIndex := 1102, attributes := #[] }, { accessFlags := 26, nameIndex := 1121, descriptorIndex := 1122, attributes := #[] }, { accessFlags := 25, nameIndex := 599, descriptorIndex := 600, attributes := #[] }, { accessFlags := 24, nameIndex := 1125, descriptorIndex := 18, attributes := #[] }, { accessFlags := 24, nameIndex := 1127, descriptorIndex := 18, attributes := #[] }])
  fields := #[{ name := "value", type := (.array .byte), accessFlags := 18, slot := 0, constantValue := 0 }, { name := "coder", type := .byte, accessFlags := 18, slot := 1, constantValue := 0 }, { name := "hash", type := .int, accessFlags := 2, slot := 2, constantValue := 0 }, { name := "hashIsZero", type := .boolean, accessFlags := 2, slot := 3, constantValue := 0 }, { name := "serialVersionUID", type := .long, accessFlags := 26, slot := 0, constantValue := 0 }, { name := "COMPACT_STRINGS", type := .boolean, accessFlags := 24, slot := 1, constantValue := 0 }, { name := "serialPersistentFields", type := (.array (.object "java/io/ObjectStreamField")), accessFlags := 26, slot := 2, constantValue := 0 }, { name := "REPL", type := .char, accessFlags := 26, slot := 3, constantValue := 0 }, { name := "CASE_INSENSITIVE_ORDER", type := (.object "java/util/Comparator"), accessFlags := 25, slot := 4, constantValue := 0 }, { name := "LATIN1", type := .byte, accessFlags := 24, slot := 5, constantValue := 0 }, { name := "UTF16", type := .byte, accessFlags := 24, slot := 6, constantValue := 0 }]
  methods := #[k7m0, k7m1, k7m2, k7m3, k7m4]
  instanceTypes := #[(.array .byte), .byte, .int, .boolean]
  staticTypes := #[.long, .boolean, (.array (.object "java/io/ObjectStreamField")), .char, (.object "java/util/Comparator"), .byte, .byte]
  resolved := Array.replicate 1451 none
  statics := some 0 }

def pool8 : Array CpInfo := pool [(6, .class_ 8), (1, u "java/lang/Object"), (0, u "<init>"), (0, u "()V"), (1, .class_ 14), (1, u "java/lang/StringUTF16"), (31, u "$assertionsDisabled"), (0, u "Z"), (13, u "HI_BYTE_SHIFT"), (0, u "I"), (2, u "LO_BYTE_SHIFT"), (49, .methodref 12 116), (0, .nameAndType 117 118), (0, u "compress"), (0, u "([CI[BII)I"), (3, u "([CII)[B"), (138, u "coderFromArrayLen"), (0, u "([BI)B"), (106, .class_ 371), (1, u "java/lang/StringUTF16$LinesSpliterator"), (58, u "MAX_LENGTH"), (196, .class_ 628), (0, u "java/lang/StringUTF16$CodePointsSpliterator"), (0, .class_ 630), (0, u "java/lang/StringUTF16$CharsSpliterator")] 4

def k8m0 : Method := { name := "<init>", desc := "()V", sig := { parameters := [], returnType := none }, accessFlags := 0, code := none }
def k8c1 : Code := { maxStack := 2, maxLocals := 2, code := jdk_52_method_15_code, exceptionTable := #[], attributes := #[] }
def k8m1 : Method := { name := "coderFromArrayLen", desc := "([BI)B", sig := { parameters := [(.array .byte), .int], returnType := some .byte }, accessFlags := 8, code := some k8c1 }
def k8c2 : Code := { maxStack := 5, maxLocals := 6, code := jdk_52_method_16_code, exceptionTable := #[], attributes := #[] }
def k8m2 : Method := { name := "compress", desc := "([CII)[B", sig := { parameters := [(.array .char), .int, .int], returnType := some (.array .byte) }, accessFlags := 9, code := some k8c2 }
def k8c3 : Code := { maxStack := 3, maxLocals := 7, code := jdk_52_method_21_code, exceptionTable := #[], attributes := #[] }
def k8m3 : Method := { name := "compress", desc := "([CI[BII)I", sig := { parameters := [(.array .char), .int, (.array .byte), .int, .int], returnType := some .int }, accessFlags := 9, code := some k8c3 }
/-- java/lang/StringUTF16 -/
def k8 : Class := { plain "java/lang/StringUTF16" (some 0) with
  accessFlags := 48
  interfaces := #[]
  cf := some (fileOf pool8 12 #[.nestMembers #[627, 629, 369]] #[{ accessFlags := 0, nameIndex := 9, descriptorIndex := 10, attributes := #[] }, { accessFlags := 8, nameIndex := 261, descriptorIndex := 262, attributes := #[] }, { accessFlags := 9, nameIndex := 117, descriptorIndex := 122, attributes := #[] }, { accessFlags := 9, nameIndex := 117, descriptorIndex := 118, attributes := #[] }] 48 6 #[] #[{ accessFlags := 26, nameIndex := 61, descriptorIndex := 62, attributes := #[] }, { accessFlags := 26, nameIndex := 65, descriptorIndex := 62, attributes := #[] }, { accessFlags := 24, nameIndex := 430, descriptorIndex := 62, attributes := #[] }, { accessFlags := 4120, nameIndex := 46, descriptorIndex := 47, attributes := #[] }])
  fields := #[{ name := "HI_BYTE_SHIFT", type := .int, accessFlags := 26, slot := 0, constantValue := 0 }, { name := "LO_BYTE_SHIFT", type := .int, accessFlags := 26, slot := 1, constantValue := 0 }, { name := "MAX_LENGTH", type := .int, accessFlags := 24, slot := 2, constantValue := 0 }, { name := "$assertionsDisabled", type := .boolean, accessFlags := 4120, slot := 3, constantValue := 0 }]
  methods := #[k8m0, k8m1, k8m2, k8m3]
  instanceTypes := #[]
  staticTypes := #[.int, .int, .int, .boolean]
  resolved := Array.replicate 635 none
  statics := none }

def pool9 : Array CpInfo := pool [(1, .methodref 2 3), (0, .class_ 4), (0, .nameAndType 5 6), (0, u "java/lang/Object"), (0, u "<init>"), (0, u "()V"), (0, .fieldref 8 9), (0, .class_ 10), (0, .nameAndType 11 12), (0, u "com/example/nimble_container/nimblecontainer/creation/MethodNaming"), (0, u "named"), (0, u "Ljava/lang/String;"), (0, .fieldref 8 14), (0, .nameAndType 15 12), (0, u "byDefault"), (0, .fieldref 8 17), (0, .nameAndType 18 19), (0, u "inferred"), (0, u "Z"), (0, .fieldref 8 21), (0, .nameAndType 22 23), (0, u "NONE"), (0, u "Lcom/example/nimble_container/nimblecontainer/creation/MethodNaming;"), (0, .methodref 8 25), (0, .nameAndType 5 26), (0, u "(Ljava/lang/String;Ljava/lang/String;Z)V"), (2, u "of"), (0, u "(Ljava/lang/String;Ljava/lang/String;Z)Lcom/example/nimble_container/nimblecontainer/creation/MethodNaming;"), (1, u "()Ljava/lang/String;"), (0, u "()Z")] 3

def k9c0 : Code := { maxStack := 2, maxLocals := 4, code := prog_6_method_1_code, exceptionTable := #[], attributes := #[] }
def k9m0 : Method := { name := "<init>", desc := "(Ljava/lang/String;Ljava/lang/String;Z)V", sig := { parameters := [(.object "java/lang/String"), (.object "java/lang/String"), .boolean], returnType := none }, accessFlags := 2, code := some k9c0 }
def k9c1 : Code := { maxStack := 5, maxLocals := 3, code := prog_6_method_2_code, exceptionTable := #[], attributes := #[] }
def k9m1 : Method := { name := "of", desc := "(Ljava/lang/String;Ljava/lang/String;Z)Lcom/example/nimble_container/nimblecontainer/creation/MethodNaming;", sig := { parameters := [(.object "java/lang/String"), (.object "java/lang/String"), .boolean], returnType := some (.object "com/example/nimble_container/nimblecontainer/creation/MethodNaming") }, accessFlags := 9, code := some k9c1 }
def k9c2 : Code := { maxStack := 1, maxLocals := 1, code := prog_6_method_3_code, exceptionTable := #[], attributes := #[] }
def k9m2 : Method := { name := "named", desc := "()Ljava/lang/String;", sig := { parameters := [], returnType := some (.object "java/lang/String") }, accessFlags := 0, code := some k9c2 }
def k9c3 : Code := { maxStack := 1, maxLocals := 1, code := prog_6_method_4_code, exceptionTable := #[], attributes := #[] }
def k9m3 : Method := { name := "byDefault", desc := "()Ljava/lang/String;", sig := { parameters := [], returnType := some (.object "java/lang/String") }, accessFlags := 0, code := some k9c3 }
def k9c4 : Code := { maxStack := 1, maxLocals := 1, code := prog_6_method_5_code, exceptionTable := #[], attributes := #[] }
def k9m4 : Method := { name := "inferred", desc := "()Z", sig := { parameters := [], returnType := some .boolean }, accessFlags := 0, code := some k9c4 }
/-- com/example/nimble_container/nimblecontainer/creation/MethodNaming -/
def k9 : Class := { plain "com/example/nimble_container/nimblecontainer/creation/MethodNaming" (some 0) with
  accessFlags := 33
  interfaces := #[]
  cf := some (fileOf pool9 8 #[] #[{ accessFlags := 2, nameIndex := 5, descriptorIndex := 26, attributes := #[] }, { accessFlags := 9, nameIndex := 29, descriptorIndex := 30, attributes := #[] }, { accessFlags := 0, nameIndex := 11, descriptorIndex := 32, attributes := #[] }, { accessFlags := 0, nameIndex := 15, descriptorIndex := 32, attributes := #[] }, { accessFlags := 0, nameIndex := 18, descriptorIndex := 33, attributes := #[] }] 33 2 #[] #[{ accessFlags := 25, nameIndex := 22, descriptorIndex := 23, attributes := #[] }, { accessFlags := 18, nameIndex := 11, descriptorIndex := 12, attributes := #[] }, { accessFlags := 18, nameIndex := 15, descriptorIndex := 12, attributes := #[] }, { accessFlags := 18, nameIndex := 18, descriptorIndex := 19, attributes := #[] }])
  fields := #[{ name := "NONE", type := (.object "com/example/nimble_container/nimblecontainer/creation/MethodNaming"), accessFlags := 25, slot := 0, constantValue := 0 }, { name := "named", type := (.object "java/lang/String"), accessFlags := 18, slot := 0, constantValue := 0 }, { name := "byDefault", type := (.object "java/lang/String"), accessFlags := 18, slot := 1, constantValue := 0 }, { name := "inferred", type := .boolean, accessFlags := 18, slot := 2, constantValue := 0 }]
  methods := #[k9m0, k9m1, k9m2, k9m3, k9m4]
  instanceTypes := #[(.object "java/lang/String"), (.object "java/lang/String"), .boolean]
  staticTypes := #[(.object "com/example/nimble_container/nimblecontainer/creation/MethodNaming")]
  resolved := Array.replicate 37 none
  statics := some 1 }

def pool10 : Array CpInfo := pool [(4, .class_ 6), (1, u "java/lang/Object"), (0, u "<init>"), (0, u "()V"), (5, .class_ 16), (1, u "java/lang/StringLatin1"), (73, u "canEncode"), (14, u "(C)Z"), (15, u "$assertionsDisabled"), (0, u "Z"), (98, .class_ 223), (1, u "java/lang/StringLatin1$LinesSpliterator"), (156, u "toBytes"), (1, u "(C)[B"), (7, .class_ 391), (0, u "java/lang/StringLatin1$CharsSpliterator")] 3

def k10m0 : Method := { name := "<init>", desc := "()V", sig := { parameters := [], returnType := none }, accessFlags := 0, code := none }
def k10c1 : Code := { maxStack := 2, maxLocals := 1, code := jdk_43_method_3_code, exceptionTable := #[], attributes := #[] }
def k10m1 : Method := { name := "canEncode", desc := "(C)Z", sig := { parameters := [.char], returnType := some .boolean }, accessFlags := 9, code := some k10c1 }
def k10c2 : Code := { maxStack := 4, maxLocals := 1, code := jdk_43_method_46_code, exceptionTable := #[], attributes := #[] }
def k10m2 : Method := { name := "toBytes", desc := "(C)[B", sig := { parameters := [.char], returnType := some (.array .byte) }, accessFlags := 9, code := some k10c2 }
/-- java/lang/StringLatin1 -/
def k10 : Class := { plain "java/lang/StringLatin1" (some 0) with
  accessFlags := 48
  interfaces := #[]
  cf := some (fileOf pool10 14 #[.nestMembers #[390, 221]] #[{ accessFlags := 0, nameIndex := 7, descriptorIndex := 8, attributes := #[] }, { accessFlags := 9, nameIndex := 90, descriptorIndex := 105, attributes := #[] }, { accessFlags := 9, nameIndex := 380, descriptorIndex := 382, attributes := #[] }] 48 4 #[] #[{ accessFlags := 4120, nameIndex := 121, descriptorIndex := 122, attributes := #[] }])
  fields := #[{ name := "$assertionsDisabled", type := .boolean, accessFlags := 4120, slot := 0, constantValue := 0 }]
  methods := #[k10m0, k10m1, k10m2]
  instanceTypes := #[]
  staticTypes := #[.boolean]
  resolved := Array.replicate 395 none
  statics := none }

def pool11 : Array CpInfo := pool [(2, .class_ 4), (1, u "java/lang/Object"), (0, u "<init>"), (0, u "()V"), (17, .class_ 26), (1, u "jdk/internal/util/Preconditions"), (28, .class_ 56), (0, u "jdk/internal/util/Preconditions$4"), (57, .class_ 115), (0, u "jdk/internal/util/Preconditions$1"), (7, u "SIOOBE_FORMATTER"), (0, u "Ljava/util/function/BiFunction;"), (0, .class_ 126), (0, u "jdk/internal/util/Preconditions$2"), (3, u "AIOOBE_FORMATTER"), (0, .class_ 132), (0, u "jdk/internal/util/Preconditions$3"), (3, u "IOOBE_FORMATTER")] 57

def k11m0 : Method := { name := "<init>", desc := "()V", sig := { parameters := [], returnType := none }, accessFlags := 1, code := none }
/-- jdk/internal/util/Preconditions -/
def k11 : Class := { plain "jdk/internal/util/Preconditions" (some 0) with
  accessFlags := 33
  interfaces := #[]
  cf := some (fileOf pool11 24 #[.nestMembers #[55, 131, 125, 114]] #[{ accessFlags := 1, nameIndex := 5, descriptorIndex := 6, attributes := #[] }] 33 2 #[] #[{ accessFlags := 25, nameIndex := 123, descriptorIndex := 124, attributes := #[] }, { accessFlags := 25, nameIndex := 130, descriptorIndex := 124, attributes := #[] }, { accessFlags := 25, nameIndex := 136, descriptorIndex := 124, attributes := #[] }])
  fields := #[{ name := "SIOOBE_FORMATTER", type := (.object "java/util/function/BiFunction"), accessFlags := 25, slot := 0, constantValue := 0 }, { name := "AIOOBE_FORMATTER", type := (.object "java/util/function/BiFunction"), accessFlags := 25, slot := 1, constantValue := 0 }, { name := "IOOBE_FORMATTER", type := (.object "java/util/function/BiFunction"), accessFlags := 25, slot := 2, constantValue := 0 }]
  methods := #[k11m0]
  instanceTypes := #[]
  staticTypes := #[(.object "java/util/function/BiFunction"), (.object "java/util/function/BiFunction"), (.object "java/util/function/BiFunction")]
  resolved := Array.replicate 194 none
  statics := some 2 }

def pool12 : Array CpInfo := pool [(9, u "<init>"), (6, .class_ 18), (1, u "java/lang/Object"), (0, u "()V"), (1, .class_ 23), (1, u "jdk/internal/util/ArraysSupport"), (0, u "LOG2_ARRAY_LONG_INDEX_SCALE"), (0, u "I"), (2, u "U"), (0, u "Ljdk/internal/misc/Unsafe;"), (8, u "BIG_ENDIAN"), (0, u "Z"), (8, u "LOG2_BYTE_BIT_SIZE"), (4, u "LOG2_ARRAY_INT_INDEX_SCALE"), (54, u "JLA"), (0, u "Ljdk/internal/access/JavaLangAccess;"), (11, u "LOG2_ARRAY_BOOLEAN_INDEX_SCALE"), (9, u "LOG2_ARRAY_BYTE_INDEX_SCALE"), (5, u "LOG2_ARRAY_CHAR_INDEX_SCALE"), (5, u "LOG2_ARRAY_SHORT_INDEX_SCALE"), (18, u "LOG2_ARRAY_FLOAT_INDEX_SCALE"), (24, u "LOG2_ARRAY_DOUBLE_INDEX_SCALE"), (89, u "T_BOOLEAN"), (2, u "T_CHAR"), (1, u "T_FLOAT"), (1, u "T_DOUBLE"), (1, u "T_BYTE"), (1, u "T_SHORT"), (1, u "T_INT"), (1, u "T_LONG"), (1, u "SOFT_MAX_ARRAY_LENGTH")] 83

def k12m0 : Method := { name := "<init>", desc := "()V", sig := { parameters := [], returnType := none }, accessFlags := 2, code := none }
/-- jdk/internal/util/ArraysSupport -/
def k12 : Class := { plain "jdk/internal/util/ArraysSupport" (some 0) with
  accessFlags := 33
  interfaces := #[]
  cf := some (fileOf pool12 21 #[] #[{ accessFlags := 2, nameIndex := 9, descriptorIndex := 19, attributes := #[] }] 33 16 #[] #[{ accessFlags := 24, nameIndex := 28, descriptorIndex := 29, attributes := #[] }, { accessFlags := 26, nameIndex := 38, descriptorIndex := 39, attributes := #[] }, { accessFlags := 25, nameIndex := 121, descriptorIndex := 25, attributes := #[] }, { accessFlags := 25, nameIndex := 131, descriptorIndex := 25, attributes := #[] }, { accessFlags := 25, nameIndex := 137, descriptorIndex := 25, attributes := #[] }, { accessFlags := 25, nameIndex := 143, descriptorIndex := 25, attributes := #[] }, { accessFlags := 25, nameIndex := 53, descriptorIndex := 25, attributes := #[] }, { accessFlags := 25, nameIndex := 24, descriptorIndex := 25, attributes := #[] }, { accessFlags := 25, nameIndex := 162, descriptorIndex := 25, attributes := #[] }, { accessFlags := 25, nameIndex := 187, descriptorIndex := 25, attributes := #[] }, { accessFlags := 26, nameIndex := 48, descriptorIndex := 25, attributes := #[] }, { accessFlags := 25, nameIndex := 277, descriptorIndex := 25, attributes := #[] }, { accessFlags := 25, nameIndex := 280, descriptorIndex := 25, attributes := #[] }, { accessFlags := 25, nameIndex := 282, descriptorIndex := 25, attributes := #[] }, { accessFlags := 25, nameIndex := 284, descriptorIndex := 25, attributes := #[] }, { accessFlags := 25, nameIndex := 286, descriptorIndex := 25, attributes := #[] }, { accessFlags := 25, nameIndex := 288, descriptorIndex := 25, attributes := #[] }, { accessFlags := 25, nameIndex := 290, descriptorIndex := 25, attributes := #[] }, { accessFlags := 25, nameIndex := 292, descriptorIndex := 25, attributes := #[] }, { accessFlags := 26, nameIndex := 108, descriptorIndex := 109, attributes := #[] }, { accessFlags := 25, nameIndex := 294, descriptorIndex := 25, attributes := #[] }])
  fields := #[{ name := "U", type := (.object "jdk/internal/misc/Unsafe"), accessFlags := 24, slot := 0, constantValue := 0 }, { name := "BIG_ENDIAN", type := .boolean, accessFlags := 26, slot := 1, constantValue := 0 }, { name := "LOG2_ARRAY_BOOLEAN_INDEX_SCALE", type := .int, accessFlags := 25, slot := 2, constantValue := 0 }, { name := "LOG2_ARRAY_BYTE_INDEX_SCALE", type := .int, accessFlags := 25, slot := 3, constantValue := 0 }, { name := "LOG2_ARRAY_CHAR_INDEX_SCALE", type := .int, accessFlags := 25, slot := 4, constantValue := 0 }, { name := "LOG2_ARRAY_SHORT_INDEX_SCALE", type := .int, accessFlags := 25, slot := 5, constantValue := 0 }, { name := "LOG2_ARRAY_INT_INDEX_SCALE", type := .int, accessFlags := 25, slot := 6, constantValue := 0 }, { name := "LOG2_ARRAY_LONG_INDEX_SCALE", type := .int, accessFlags := 25, slot := 7, constantValue := 0 }, { name := "LOG2_ARRAY_FLOAT_INDEX_SCALE", type := .int, accessFlags := 25, slot := 8, constantValue := 0 }, { name := "LOG2_ARRAY_DOUBLE_INDEX_SCALE", type := .int, accessFlags := 25, slot := 9, constantValue := 0 }, { name := "LOG2_BYTE_BIT_SIZE", type := .int, accessFlags := 26, slot := 10, constantValue := 0 }, { name := "T_BOOLEAN", type := .int, accessFlags := 25, slot := 11, constantValue := 0 }, { name := "T_CHAR", type := .int, accessFlags := 25, slot := 12, constantValue := 0 }, { name := "T_FLOAT", type := .int, accessFlags := 25, slot := 13, constantValue := 0 }, { name := "T_DOUBLE", type := .int, accessFlags := 25, slot := 14, constantValue := 0 }, { name := "T_BYTE", type := .int, accessFlags := 25, slot := 15, constantValue := 0 }, { name := "T_SHORT", type := .int, accessFlags := 25, slot := 16, constantValue := 0 }, { name := "T_INT", type := .int, accessFlags := 25, slot := 17, constantValue := 0 }, { name := "T_LONG", type := .int, accessFlags := 25, slot := 18, constantValue := 0 }, { name := "JLA", type := (.object "jdk/internal/access/JavaLangAccess"), accessFlags := 26, slot := 19, constantValue := 0 }, { name := "SOFT_MAX_ARRAY_LENGTH", type := .int, accessFlags := 25, slot := 20, constantValue := 0 }]
  methods := #[k12m0]
  instanceTypes := #[]
  staticTypes := #[(.object "jdk/internal/misc/Unsafe"), .boolean, .int, .int, .int, .int, .int, .int, .int, .int, .int, .int, .int, .int, .int, .int, .int, .int, .int, (.object "jdk/internal/access/JavaLangAccess"), .int]
  resolved := Array.replicate 378 none
  statics := none }

def pool13 : Array CpInfo := pool [(1, u "java/lang/Cloneable"), (0, .class_ 1), (0, u "java/lang/Object"), (0, .class_ 3)] 3

/-- java/lang/Cloneable -/
def k13 : Class := { plain "java/lang/Cloneable" (some 0) with
  accessFlags := 1537
  interfaces := #[]
  cf := some (fileOf pool13 2 #[] #[] 1537 4 #[] #[])
  fields := #[]
  methods := #[]
  instanceTypes := #[]
  staticTypes := #[]
  resolved := Array.replicate 8 none
  statics := none }

/-- the primitive byte -/
def k14 : Class := { plain "byte" none with kind := .primitive 'B', accessFlags := 0x411 }
/-- [B -/
def k15 : Class := { plain "[B" (some 0) with kind := .array 14 .byte, interfaces := #[13, 2], accessFlags := 1041 }

/-- the primitive char -/
def k16 : Class := { plain "char" none with kind := .primitive 'C', accessFlags := 0x411 }
/-- [C -/
def k17 : Class := { plain "[C" (some 0) with kind := .array 16 .char, interfaces := #[13, 2], accessFlags := 1041 }

/-- the primitive int -/
def k18 : Class := { plain "int" none with kind := .primitive 'I', accessFlags := 0x411 }
/-- [I -/
def k19 : Class := { plain "[I" (some 0) with kind := .array 18 .int, interfaces := #[13, 2], accessFlags := 1041 }

def heap : Heap := #[{ cls := 7, slots := #[.long 0, .int 1, .null, .int 0, .null, .int 0, .int 0], vm := .statics 7 },
  { cls := 9, slots := #[.ref 3], vm := .statics 9 },
  { cls := 11, slots := #[.null, .null, .null], vm := .statics 11 },
  { cls := 9, slots := #[.null, .null, .int 0], vm := .none }]
def classes : Array Class := #[k0, k1, k2, k3, k4, k5, k6, k7, k8, k9, k10, k11, k12, k13, k14, k15, k16, k17, k18, k19]
def interned : List (Array UInt16 × Addr) := []
def slotsUsed : Nat := 14
def theMethod : MethodId := ⟨1, 2⟩
def args0 : Array Value := #[.int 3, .int 3, .int 3, .int 3, .int 3, .int 3]
def aboutOver (below : List Frame) : State where
  vm := { classes := classes, interned := interned.toArray }
  heap := heap
  slotsUsed := slotsUsed
  threads := #[{ frames := .invoking theMethod args0 :: below }]
def below0 : List Frame := [.native { method := ⟨0, 0⟩, args := #[] }]
def about1 : State := aboutOver below0
def p0 : Program := .bare "" "" ""
def e0 : Env := launch0.env 0 0 0
theorem w_frames : about1.frames = Frame.invoking theMethod args0 :: below0 := rfl
set_option maxRecDepth 65536 in
theorem w_args : argsFit about1.vm theMethod args0 = true := by decide +kernel
set_option maxRecDepth 65536 in
theorem w_heap : heapFits about1 = true := by decide +kernel
set_option maxRecDepth 65536 in
theorem w_runnable : about1.curStatus? = some .runnable := by decide +kernel
set_option maxRecDepth 65536 in
theorem w_alone : about1.alone = true := by decide +kernel
set_option maxRecDepth 65536 in
theorem w_named : about1.methodNamed? x = some theMethod := by decide +kernel
set_option maxRecDepth 65536 in
theorem w_hears : about1.hears theMethod below0 = true := by decide +kernel
set_option maxRecDepth 65536 in
theorem w_ripe : about1.ripe theMethod args0 below0 = true := by decide +kernel
theorem w_running : about1.status = .running := rfl
set_option maxRecDepth 65536 in
theorem w_room : about1.hasRoom e0.platform room_1 = true :=
  launch0.hasRoom_least _ room_1 (by decide +kernel) (by decide +kernel) (by decide +kernel) (by decide +kernel) (by decide +kernel) (by decide +kernel)
theorem allAtoms_all (ts : List Jvm.Cond) (a : Array Jvm.Value) (st : Jvm.State) : (allAtoms ts).before a st = ts.all (fun c => c.before a st) := by
  induction ts with
  | nil => rfl
  | cons c t ih =>
    show (Jvm.Cond.and c (allAtoms t)).before a st = _
    rw [Jvm.Cond.before_and, ih, List.all_cons]
def words1 : List Jvm.Cond := Jvm.Cond.code x code maxLocals ret :: tables_1
/-- a 'code' word, met by the world's own term for the bytes: nothing is compared byte by byte -/
theorem code_word {y : MethodName} {bytes : ByteArray} {mx : Nat} {rt : Option FieldType} {a : Array Value} {s : State} {m : MethodId} {meth : Method} {c : Code} (h1 : s.methodNamed? y = some m) (h2 : s.vm.method? m = some meth) (h3 : meth.code = some c) (h4 : c.code = bytes)
    (h5 : (c.maxLocals == mx && c.exceptionTable.isEmpty && decide (c.maxStack ≤ mostOperands) && decide (meth.sig.returnType = rt) && !meth.locks && decide (parseMethodDescriptor y.desc = some meth.sig)) = true) : (Jvm.Cond.code y bytes mx rt).before a s = true := by
  simp only [Bool.and_eq_true, beq_iff_eq, Bool.not_eq_true', decide_eq_true_eq] at h5
  obtain ⟨⟨⟨⟨⟨g1, g2⟩, g3⟩, g4⟩, g5⟩, g6⟩ := h5
  simp [Cond.before, Cond.holds, Cond.value, h1, h2, h3, h4, g1, g2, g3, g4, g5, g6]
def isCode : Jvm.Cond → Bool
  | .code _ _ _ _ => true
  | _ => false
theorem all_split {L : List Jvm.Cond} {P : Jvm.Cond → Bool} (h1 : L.all (fun c => isCode c || P c) = true) (h2 : ∀ c ∈ L.filter isCode, P c = true) : L.all P = true := by
  refine List.all_eq_true.mpr fun c hc => ?_
  have h := List.all_eq_true.mp h1 c hc
  rcases Bool.eq_false_or_eq_true (isCode c) with hi | hi
  · exact h2 c (List.mem_filter.mpr ⟨hc, hi⟩)
  · simpa [hi] using h
set_option maxRecDepth 65536 in
theorem w_c0 : (Jvm.Cond.code x code maxLocals ret).before args0 about1 = true := code_word (m := ⟨1, 2⟩) (meth := k1m2) (c := k1c2) (by decide +kernel) rfl rfl rfl (by decide +kernel)
set_option maxRecDepth 65536 in
theorem w_c1 : (Jvm.Cond.code ({ cls := "com/example/nimble_container/nimblecontainer/creation/MethodNamingOfPinLaw", name := "draw", desc := "(III)Ljava/lang/String;" } : Jvm.MethodName) method_2_code (4 : Nat) (Option.some (Jvm.ClassFile.FieldType.object "java/lang/String"))).before args0 about1 = true := code_word (m := ⟨1, 1⟩) (meth := k1m1) (c := k1c1) (by decide +kernel) rfl rfl rfl (by decide +kernel)
set_option maxRecDepth 65536 in
theorem w_c2 : (Jvm.Cond.code ({ cls := "java/lang/String", name := "<init>", desc := "([C)V" } : Jvm.MethodName) jdk_42_method_3_code (2 : Nat) (Option.none : Option Jvm.ClassFile.FieldType)).before args0 about1 = true := code_word (m := ⟨7, 1⟩) (meth := k7m1) (c := k7c1) (by decide +kernel) rfl rfl rfl (by decide +kernel)
set_option maxRecDepth 65536 in
theorem w_c3 : (Jvm.Cond.code ({ cls := "java/lang/String", name := "<init>", desc := "([CIILjava/lang/Void;)V" } : Jvm.MethodName) jdk_42_method_149_code (6 : Nat) (Option.none : Option Jvm.ClassFile.FieldType)).before args0 about1 = true := code_word (m := ⟨7, 3⟩) (meth := k7m3) (c := k7c3) (by decide +kernel) rfl rfl rfl (by decide +kernel)
set_option maxRecDepth 65536 in
theorem w_c4 : (Jvm.Cond.code ({ cls := "java/lang/Object", name := "<init>", desc := "()V" } : Jvm.MethodName) object_method_1_code (1 : Nat) (Option.none : Option Jvm.ClassFile.FieldType)).before args0 about1 = true := code_word (m := ⟨0, 0⟩) (meth := k0m0) (c := k0c0) (by decide +kernel) rfl rfl rfl (by decide +kernel)
set_option maxRecDepth 65536 in
theorem w_c5 : (Jvm.Cond.code ({ cls := "java/lang/StringUTF16", name := "compress", desc := "([CII)[B" } : Jvm.MethodName) jdk_52_method_16_code (6 : Nat) (Option.some (Jvm.ClassFile.FieldType.array Jvm.ClassFile.FieldType.byte))).before args0 about1 = true := code_word (m := ⟨8, 2⟩) (meth := k8m2) (c := k8c2) (by decide +kernel) rfl rfl rfl (by decide +kernel)
set_option maxRecDepth 65536 in
theorem w_c6 : (Jvm.Cond.code ({ cls := "java/lang/StringUTF16", name := "compress", desc := "([CI[BII)I" } : Jvm.MethodName) jdk_52_method_21_code (7 : Nat) (Option.some Jvm.ClassFile.FieldType.int)).before args0 about1 = true := code_word (m := ⟨8, 3⟩) (meth := k8m3) (c := k8c3) (by decide +kernel) rfl rfl rfl (by decide +kernel)
set_option maxRecDepth 65536 in
theorem w_c7 : (Jvm.Cond.code ({ cls := "java/lang/StringUTF16", name := "coderFromArrayLen", desc := "([BI)B" } : Jvm.MethodName) jdk_52_method_15_code (2 : Nat) (Option.some Jvm.ClassFile.FieldType.byte)).before args0 about1 = true := code_word (m := ⟨8, 1⟩) (meth := k8m1) (c := k8c1) (by decide +kernel) rfl rfl rfl (by decide +kernel)
set_option maxRecDepth 65536 in
theorem w_c8 : (Jvm.Cond.code ({ cls := "com/example/nimble_container/nimblecontainer/creation/MethodNaming", name := "of", desc := "(Ljava/lang/String;Ljava/lang/String;Z)Lcom/example/nimble_container/nimblecontainer/creation/MethodNaming;" } : Jvm.MethodName) prog_6_method_2_code (3 : Nat) (Option.some (Jvm.ClassFile.FieldType.object "com/example/nimble_container/nimblecontainer/creation/MethodNaming"))).before args0 about1 = true := code_word (m := ⟨9, 1⟩) (meth := k9m1) (c := k9c1) (by decide +kernel) rfl rfl rfl (by decide +kernel)
set_option maxRecDepth 65536 in
theorem w_c9 : (Jvm.Cond.code ({ cls := "com/example/nimble_container/nimblecontainer/creation/MethodNaming", name := "<init>", desc := "(Ljava/lang/String;Ljava/lang/String;Z)V" } : Jvm.MethodName) prog_6_method_1_code (4 : Nat) (Option.none : Option Jvm.ClassFile.FieldType)).before args0 about1 = true := code_word (m := ⟨9, 0⟩) (meth := k9m0) (c := k9c0) (by decide +kernel) rfl rfl rfl (by decide +kernel)
set_option maxRecDepth 65536 in
theorem w_c10 : (Jvm.Cond.code ({ cls := "com/example/nimble_container/nimblecontainer/creation/MethodNaming", name := "named", desc := "()Ljava/lang/String;" } : Jvm.MethodName) prog_6_method_3_code (1 : Nat) (Option.some (Jvm.ClassFile.FieldType.object "java/lang/String"))).before args0 about1 = true := code_word (m := ⟨9, 2⟩) (meth := k9m2) (c := k9c2) (by decide +kernel) rfl rfl rfl (by decide +kernel)
set_option maxRecDepth 65536 in
theorem w_c11 : (Jvm.Cond.code ({ cls := "com/example/nimble_container/nimblecontainer/creation/MethodNaming", name := "byDefault", desc := "()Ljava/lang/String;" } : Jvm.MethodName) prog_6_method_4_code (1 : Nat) (Option.some (Jvm.ClassFile.FieldType.object "java/lang/String"))).before args0 about1 = true := code_word (m := ⟨9, 3⟩) (meth := k9m3) (c := k9c3) (by decide +kernel) rfl rfl rfl (by decide +kernel)
set_option maxRecDepth 65536 in
theorem w_c12 : (Jvm.Cond.code ({ cls := "com/example/nimble_container/nimblecontainer/creation/MethodNaming", name := "inferred", desc := "()Z" } : Jvm.MethodName) prog_6_method_5_code (1 : Nat) (Option.some Jvm.ClassFile.FieldType.boolean)).before args0 about1 = true := code_word (m := ⟨9, 4⟩) (meth := k9m4) (c := k9c4) (by decide +kernel) rfl rfl rfl (by decide +kernel)
set_option maxRecDepth 65536 in
theorem w_c13 : (Jvm.Cond.code ({ cls := "java/lang/String", name := "valueOf", desc := "(C)Ljava/lang/String;" } : Jvm.MethodName) jdk_42_method_139_code (1 : Nat) (Option.some (Jvm.ClassFile.FieldType.object "java/lang/String"))).before args0 about1 = true := code_word (m := ⟨7, 2⟩) (meth := k7m2) (c := k7c2) (by decide +kernel) rfl rfl rfl (by decide +kernel)
set_option maxRecDepth 65536 in
theorem w_c14 : (Jvm.Cond.code ({ cls := "java/lang/StringLatin1", name := "canEncode", desc := "(C)Z" } : Jvm.MethodName) jdk_43_method_3_code (1 : Nat) (Option.some Jvm.ClassFile.FieldType.boolean)).before args0 about1 = true := code_word (m := ⟨10, 1⟩) (meth := k10m1) (c := k10c1) (by decide +kernel) rfl rfl rfl (by decide +kernel)
set_option maxRecDepth 65536 in
theorem w_c15 : (Jvm.Cond.code ({ cls := "java/lang/StringLatin1", name := "toBytes", desc := "(C)[B" } : Jvm.MethodName) jdk_43_method_46_code (1 : Nat) (Option.some (Jvm.ClassFile.FieldType.array Jvm.ClassFile.FieldType.byte))).before args0 about1 = true := code_word (m := ⟨10, 2⟩) (meth := k10m2) (c := k10c2) (by decide +kernel) rfl rfl rfl (by decide +kernel)
set_option maxRecDepth 65536 in
theorem w_c16 : (Jvm.Cond.code ({ cls := "java/lang/String", name := "<init>", desc := "([BB)V" } : Jvm.MethodName) jdk_42_method_151_code (3 : Nat) (Option.none : Option Jvm.ClassFile.FieldType)).before args0 about1 = true := code_word (m := ⟨7, 4⟩) (meth := k7m4) (c := k7c4) (by decide +kernel) rfl rfl rfl (by decide +kernel)
def codes1 : List Jvm.Cond := [Jvm.Cond.code x code maxLocals ret, Jvm.Cond.code ({ cls := "com/example/nimble_container/nimblecontainer/creation/MethodNamingOfPinLaw", name := "draw", desc := "(III)Ljava/lang/String;" } : Jvm.MethodName) method_2_code (4 : Nat) (Option.some (Jvm.ClassFile.FieldType.object "java/lang/String")), Jvm.Cond.code ({ cls := "java/lang/String", name := "<init>", desc := "([C)V" } : Jvm.MethodName) jdk_42_method_3_code (2 : Nat) (Option.none : Option Jvm.ClassFile.FieldType), Jvm.Cond.code ({ cls := "java/lang/String", name := "<init>", desc := "([CIILjava/lang/Void;)V" } : Jvm.MethodName) jdk_42_method_149_code (6 : Nat) (Option.none : Option Jvm.ClassFile.FieldType), Jvm.Cond.code ({ cls := "java/lang/Object", name := "<init>", desc := "()V" } : Jvm.MethodName) object_method_1_code (1 : Nat) (Option.none : Option Jvm.ClassFile.FieldType), Jvm.Cond.code ({ cls := "java/lang/StringUTF16", name := "compress", desc := "([CII)[B" } : Jvm.MethodName) jdk_52_method_16_code (6 : Nat) (Option.some (Jvm.ClassFile.FieldType.array Jvm.ClassFile.FieldType.byte)), Jvm.Cond.code ({ cls := "java/lang/StringUTF16", name := "compress", desc := "([CI[BII)I" } : Jvm.MethodName) jdk_52_method_21_code (7 : Nat) (Option.some Jvm.ClassFile.FieldType.int), Jvm.Cond.code ({ cls := "java/lang/StringUTF16", name := "coderFromArrayLen", desc := "([BI)B" } : Jvm.MethodName) jdk_52_method_15_code (2 : Nat) (Option.some Jvm.ClassFile.FieldType.byte), Jvm.Cond.code ({ cls := "com/example/nimble_container/nimblecontainer/creation/MethodNaming", name := "of", desc := "(Ljava/lang/String;Ljava/lang/String;Z)Lcom/example/nimble_container/nimblecontainer/creation/MethodNaming;" } : Jvm.MethodName) prog_6_method_2_code (3 : Nat) (Option.some (Jvm.ClassFile.FieldType.object "com/example/nimble_container/nimblecontainer/creation/MethodNaming")), Jvm.Cond.code ({ cls := "com/example/nimble_container/nimblecontainer/creation/MethodNaming", name := "<init>", desc := "(Ljava/lang/String;Ljava/lang/String;Z)V" } : Jvm.MethodName) prog_6_method_1_code (4 : Nat) (Option.none : Option Jvm.ClassFile.FieldType), Jvm.Cond.code ({ cls := "com/example/nimble_container/nimblecontainer/creation/MethodNaming", name := "named", desc := "()Ljava/lang/String;" } : Jvm.MethodName) prog_6_method_3_code (1 : Nat) (Option.some (Jvm.ClassFile.FieldType.object "java/lang/String")), Jvm.Cond.code ({ cls := "com/example/nimble_container/nimblecontainer/creation/MethodNaming", name := "byDefault", desc := "()Ljava/lang/String;" } : Jvm.MethodName) prog_6_method_4_code (1 : Nat) (Option.some (Jvm.ClassFile.FieldType.object "java/lang/String")), Jvm.Cond.code ({ cls := "com/example/nimble_container/nimblecontainer/creation/MethodNaming", name := "inferred", desc := "()Z" } : Jvm.MethodName) prog_6_method_5_code (1 : Nat) (Option.some Jvm.ClassFile.FieldType.boolean), Jvm.Cond.code ({ cls := "java/lang/String", name := "valueOf", desc := "(C)Ljava/lang/String;" } : Jvm.MethodName) jdk_42_method_139_code (1 : Nat) (Option.some (Jvm.ClassFile.FieldType.object "java/lang/String")), Jvm.Cond.code ({ cls := "java/lang/StringLatin1", name := "canEncode", desc := "(C)Z" } : Jvm.MethodName) jdk_43_method_3_code (1 : Nat) (Option.some Jvm.ClassFile.FieldType.boolean), Jvm.Cond.code ({ cls := "java/lang/StringLatin1", name := "toBytes", desc := "(C)[B" } : Jvm.MethodName) jdk_43_method_46_code (1 : Nat) (Option.some (Jvm.ClassFile.FieldType.array Jvm.ClassFile.FieldType.byte)), Jvm.Cond.code ({ cls := "java/lang/String", name := "<init>", desc := "([BB)V" } : Jvm.MethodName) jdk_42_method_151_code (3 : Nat) (Option.none : Option Jvm.ClassFile.FieldType)]
set_option maxRecDepth 65536 in
theorem codes_eq : words1.filter isCode = codes1 := rfl
theorem w_codes : ∀ c ∈ words1.filter isCode, c.before args0 about1 = true := by
  rw [codes_eq]
  intro c hc
  simp only [codes1, List.mem_cons, List.not_mem_nil, or_false] at hc
  rcases hc with rfl | rfl | rfl | rfl | rfl | rfl | rfl | rfl | rfl | rfl | rfl | rfl | rfl | rfl | rfl | rfl | rfl
  · exact w_c0
  · exact w_c1
  · exact w_c2
  · exact w_c3
  · exact w_c4
  · exact w_c5
  · exact w_c6
  · exact w_c7
  · exact w_c8
  · exact w_c9
  · exact w_c10
  · exact w_c11
  · exact w_c12
  · exact w_c13
  · exact w_c14
  · exact w_c15
  · exact w_c16
set_option maxRecDepth 65536 in
theorem w_t1 : (words1.take 24).all (fun c => isCode c || c.before args0 about1) = true := by decide +kernel
set_option maxRecDepth 65536 in
theorem w_t2 : ((words1.drop 24).take 24).all (fun c => isCode c || c.before args0 about1) = true := by decide +kernel
set_option maxRecDepth 65536 in
theorem w_t3 : (((words1.drop 24).drop 24).take 24).all (fun c => isCode c || c.before args0 about1) = true := by decide +kernel
set_option maxRecDepth 65536 in
theorem w_t4 : (((words1.drop 24).drop 24).drop 24).all (fun c => isCode c || c.before args0 about1) = true := by decide +kernel
theorem w_tables : (allAtoms (Jvm.Cond.code x code maxLocals ret :: tables_1)).before args0 about1 = true := by
  rw [allAtoms_all]
  show words1.all (fun c => c.before args0 about1) = true
  refine all_split ?_ w_codes
  rw [← List.take_append_drop 24 words1, List.all_append, w_t1, ← List.take_append_drop 24 (words1.drop 24), List.all_append, w_t2, ← List.take_append_drop 24 ((words1.drop 24).drop 24), List.all_append, w_t3, w_t4]
  rfl
set_option maxRecDepth 65536 in
theorem w_rest : rest_1_c.before args0 about1 = true := by decide +kernel
set_option maxRecDepth 65536 in
theorem w_case : (Jvm.Cond.and given_1 narrow_1).before args0 about1 = true := by decide +kernel
set_option maxRecDepth 65536 in
theorem w_consts : constsHeld consts_1 about1 := Jvm.Lit.constsHeldB_iff.mp (by decide +kernel)
theorem w_applies : (headSpec (Jvm.Cond.code x code maxLocals ret :: tables_1) room_1).applies x e0.platform about1 = true :=
  (Spec.applies_iff w_frames).mpr ⟨w_running, w_runnable, w_alone, w_named, w_hears, w_ripe, w_room, w_tables⟩
theorem atStart : AtStart classFile x code maxLocals ret World_1 tables_1 room_1 Calls_1 rest_1 Pre_1 launch0 p0 e0 about1 theMethod args0 below0 :=
  ⟨lists_1, trivial, launch0.admits_env _ _ _, launch0.least_env, fairChoices_fair.cas, fairChoices_fair.clock, w_frames, w_args, w_heap, w_applies, ⟨w_consts, trivial⟩, w_rest, w_case⟩
end start1
theorem witness_1 : WitnessClaimed_1 := ⟨start1.p0, start1.e0, start1.about1, start1.theMethod, start1.args0, start1.below0, start1.atStart⟩
end Jvm.Pilot.@@N@@
