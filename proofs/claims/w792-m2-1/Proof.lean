import JvmDerived
import JvmDerived.Pilot.@@N@@Statement
import JvmDerived.Pilot.@@N@@Code
set_option linter.unusedVariables false
set_option linter.unusedSimpArgs false
namespace Jvm.RoadKit
open Sem ClassFile Op Lib Jvm.Stand Jvm.Free Jvm.LawKit
section New
variable {p : Program} {l : Launch} {e : Env} {R : Room} {s : State} {m : MethodId} {args : Array Value} {below : List Frame} {meth : Method} {c : Code} {T : State} {locs : List Loc} {cells slots : Nat}
theorem retI (X : Stand p l e R s m args below meth c T locs cells slots) (hx : p.tables.exec = Jvm.exec) {pc : Nat} {Ls : Array Slot} {z : Int32} {rest : List Value} (hret : meth.sig.returnType = some .int) (hd : decode c.code pc = .ok (.ireturn, 1)) {fs : List Frame}
    (hl : ∀ (f : JFrame) (acts : List Action), f.method = m → f.locked = none → f.entered = [] → (doReturn e (T.setTop f) acts (some (.int z))).1 = T.setFrames fs) : Steps p.tables e below (T.setTop (mkF m pc Ls (.int z :: rest))) (T.setFrames fs) := by
  have hm' : T.vm.method? m = some meth := X.method'
  have hn : narrow .int (.int z) = .int z := rfl
  show Steps p.tables e below (T.setTop { method := m, pc := pc, locals := Ls, stack := _ :: rest, locked := none }) _
  jvm_step X.here [X.here.top, hx, hd, hm', hret, hn]
  first | (intro acts; rw [hl _ acts rfl rfl rfl]) | rw [hl _ _ rfl rfl rfl]
  exact Steps.refl _
end New
end Jvm.RoadKit
/- laws to paste: Road.backV, Road.eqW, Road.lenW, Road.chN, Road.codOf (cut by pick.py; bodies as the Statement names them) -/
namespace Jvm.Pilot.@@N@@
namespace StrChars
open Jvm Sem ClassFile Op Lib Jvm.Stand Jvm.Free.XT Jvm.Free.ALB Jvm.Free.JM Jvm.Free
open Jvm.Lib.Cold (StaticIs)
/-- a char array whose places are chars -/
def Ch (a : Addr) (A : Cell) (U : State) : Prop := Arr .char a A U ∧ Typed .char A
theorem Ch.mv {a : Addr} {A : Cell} {U U' : State} (h : Ch a A U) (hal : U.vm.Alike U'.vm) (hh : U'.heap = U.heap) : Ch a A U' := ⟨h.1.mv hal hh, h.2⟩
theorem Ch.keep {a : Addr} {A : Cell} {U U' : State} (h : Ch a A U) (hal : U.vm.Alike U'.vm) (hk : U'.heap[a]? = some A) : Ch a A U' := ⟨h.1.keep hal hk, h.2⟩
/-- what place i of a char[]'s cell holds -/
def cv (A : Cell) (i : Nat) : Int32 := match A.slots[i]? with | some (.int x) => x | _ => 0
theorem Ch.get {a : Addr} {A : Cell} {U : State} (h : Ch a A U) {i : Nat} (hi : i < A.slots.size) : A.slots[i]? = some (.int (cv A i)) := by
  have e := Array.getElem?_eq_getElem hi
  have f := h.2 i _ e
  unfold cv; rw [e]
  generalize A.slots[i] = v at f
  cases v <;> simp [fits] at f ⊢
/-- the byte that i2b leaves of a char -/
def lo8 (x : Int32) : Int32 := x.toInt8.toInt32
theorem fits_lo8 (y : Int32) : fits .byte (.int (lo8 y)) = true := by
  have h1 := y.toInt8.le_toInt
  have h2 := y.toInt8.toInt_lt
  simp only [lo8, fits, Bool.and_eq_true, decide_eq_true_eq, Int32.le_iff_toInt_le, Int8.toInt_toInt32, show (-128 : Int32).toInt = -128 from by decide, show (127 : Int32).toInt = 127 from by decide]
  omega
/-- A' is A but that each place j of lo .. hi - 1 holds f j -/
def Laid (A A' : Cell) (lo hi : Nat) (f : Nat → Value) : Prop := A'.cls = A.cls ∧ A'.vm = A.vm ∧ A'.slots.size = A.slots.size ∧ ∀ i, A'.slots[i]? = if lo ≤ i ∧ i < hi then some (f i) else A.slots[i]?
theorem Laid.zero (A : Cell) (lo : Nat) (f : Nat → Value) : Laid A A lo (lo + 0) f := ⟨rfl, rfl, rfl, fun i => by rw [if_neg (by omega)]⟩
theorem Laid.step {A Ak : Cell} {lo k : Nat} {f : Nat → Value} {v : Value} (h : Laid A Ak lo k f) (hlo : lo ≤ k) (hk : k < Ak.slots.size) (hv : v = f k) : Laid A (Ak.setSlot k v) lo (k + 1) f := by
  refine ⟨h.1, h.2.1, by simpa [Cell.setSlot] using h.2.2.1, fun i => ?_⟩
  by_cases e : k = i
  · subst e; rw [Cell.slots_setSlot_self v hk, if_pos (by omega), hv]
  · rw [Cell.slots_setSlot_ne v e, h.2.2.2 i]
    by_cases q : lo ≤ i ∧ i < k
    · rw [if_pos q, if_pos (by omega)]
    · rw [if_neg q, if_neg (by omega)]
def U16 : String := "java/lang/StringUTF16"
namespace Cmp5
def yN : MethodName := ⟨"java/lang/StringUTF16", "compress", "([CI[BII)I"⟩
abbrev yB : ByteArray := jdk_52_method_21_code
theorem d0 : decode yB 0 = .ok (.iconst 0, 1) := by decide +kernel
theorem d1 : decode yB 1 = .ok (.istore 5, 2) := by decide +kernel
theorem d3 : decode yB 3 = .ok (.iload 5, 2) := by decide +kernel
theorem d5 : decode yB 5 = .ok (.iload 4, 2) := by decide +kernel
theorem d7 : decode yB 7 = .ok (.if_icmp (.ge) 37, 3) := by decide +kernel
theorem d10 : decode yB 10 = .ok (.aload_n 0, 1) := by decide +kernel
theorem d11 : decode yB 11 = .ok (.iload_n 1, 1) := by decide +kernel
theorem d12 : decode yB 12 = .ok (.caload, 1) := by decide +kernel
theorem d13 : decode yB 13 = .ok (.istore 6, 2) := by decide +kernel
theorem d15 : decode yB 15 = .ok (.iload 6, 2) := by decide +kernel
theorem d17 : decode yB 17 = .ok (.sipush 255, 3) := by decide +kernel
theorem d20 : decode yB 20 = .ok (.if_icmp (.le) 6, 3) := by decide +kernel
theorem d26 : decode yB 26 = .ok (.aload_n 2, 1) := by decide +kernel
theorem d27 : decode yB 27 = .ok (.iload_n 3, 1) := by decide +kernel
theorem d28 : decode yB 28 = .ok (.iload 6, 2) := by decide +kernel
theorem d30 : decode yB 30 = .ok (.i2b, 1) := by decide +kernel
theorem d31 : decode yB 31 = .ok (.bastore, 1) := by decide +kernel
theorem d32 : decode yB 32 = .ok (.iinc 1 1, 3) := by decide +kernel
theorem d35 : decode yB 35 = .ok (.iinc 3 1, 3) := by decide +kernel
theorem d38 : decode yB 38 = .ok (.iinc 5 1, 3) := by decide +kernel
theorem d41 : decode yB 41 = .ok (.goto (-38), 3) := by decide +kernel
theorem d44 : decode yB 44 = .ok (.iload 4, 2) := by decide +kernel
theorem d46 : decode yB 46 = .ok (.ireturn, 1) := by decide +kernel
def site : List Cond := []
def tab : Cond := tabOf yN yB 7 (some .int) site
def P (b : Addr) (A : Cell) (d : Addr) (B : Cell) (o q len : Nat) (args : Array Value) (s : State) : Prop := args = #[.ref b, .int (Int32.ofNat o), .ref d, .int (Int32.ofNat q), .int (Int32.ofNat len)] ∧ Ch b A s ∧ Arr .byte d B s ∧ b ≠ d ∧ o + len ≤ A.slots.size ∧ q + len ≤ B.slots.size ∧ ∀ i, i < len → ¬ 255 < cv A (o + i)
def E (b : Addr) (A : Cell) (d : Addr) (B : Cell) (o q len : Nat) (r : Option Value) (s u : State) : Prop := r = some (.int (Int32.ofNat len)) ∧ ∃ B', Put d B' s u ∧ Laid B B' q (q + len) (fun j => Value.int (lo8 (cv A (o + (j - q)))))
/-- no char of the range above 255: len; the places written hold each char's low byte -/
theorem law (l : Launch) (b : Addr) (A : Cell) (d : Addr) (B : Cell) (o q len : Nat) : Law l yN 5 5 0 0 yB 7 (some .int) site (P b A d B o q len) (E b A d B o q len) (copyLocs d q len) 0 0 := by
  refine Law.of_walk (plainFor_of_name (by decide +kernel)) (by decide +kernel) (by decide +kernel) (by decide) (fun _ _ h => by rw [h.1]; rfl) (fun _ U U' hal hh h => ⟨h.1, h.2.1.mv hal hh, h.2.2.1.mv hal hh, h.2.2.2⟩) (fun r U U' V V' h1 hal h2 h => ⟨h.1, h.2.elim fun B' q => ⟨B', q.1.mv h1 h2, q.2⟩⟩) ?_
  intro p e s m args below meth c s₁ X0 hexec hbytes hml hret hlk hnm hown hh0 W hP
  obtain ⟨rfl, hA, hB, hne, l1, l2, hp⟩ := hP
  have c1 : Steps p.tables e below (s₁.setTop (entryFrame m #[.ref b, .int (Int32.ofNat o), .ref d, .int (Int32.ofNat q), .int (Int32.ofNat len)] 7)) (s₁.setTop (mkF m 0 #[.val (.ref b), .val (.int (Int32.ofNat o)), .val (.ref d), .val (.int (Int32.ofNat q)), .val (.int (Int32.ofNat len)), .unset, .unset] [])) := entry rfl
  have hA0 := hA.1.mv X0.warmed.alike hh0
  have hB0 := hB.mv X0.warmed.alike hh0
  have a31 := hA.1.2.2.2
  have c2 : Steps p.tables e below (s₁.setTop (entryFrame m #[.ref b, .int (Int32.ofNat o), .ref d, .int (Int32.ofNat q), .int (Int32.ofNat len)] 7)) (s₁.setTop (mkF m 3 #[.val (.ref b), .val (.int (Int32.ofNat o)), .val (.ref d), .val (.int (Int32.ofNat q)), .val (.int (Int32.ofNat len)), .val (.int 0), .unset] [])) := c1.trans (by
    refine iconstV X0.here hexec rfl 0 (hb hbytes d0) (by decide) ?_
    refine XS.istore X0.here hexec rfl (hb hbytes d1) rfl rfl ?_
    exact Steps.refl _)
  have loop : ∀ (r i : Nat), i + r = len → ∀ (z : Slot), (z = .unset ∨ ∃ w, z = .val w ∧ w.category = 1) → ∀ (Tl : State) (Bk : Cell), Stand p l e { frames := 0, locals := 0, cells := 0, slots := 0 } s m #[.ref b, .int (Int32.ofNat o), .ref d, .int (Int32.ofNat q), .int (Int32.ofNat len)] below meth c Tl ([] ++ copyLocs d q i) 0 0 → Put d Bk s₁ Tl → Laid B Bk q (q + i) (fun j => Value.int (lo8 (cv A (o + (j - q))))) →
      Steps p.tables e below (s₁.setTop (entryFrame m #[.ref b, .int (Int32.ofNat o), .ref d, .int (Int32.ofNat q), .int (Int32.ofNat len)] 7)) (Tl.setTop (mkF m 3 #[.val (.ref b), .val (.int (Int32.ofNat (o + i))), .val (.ref d), .val (.int (Int32.ofNat (q + i))), .val (.int (Int32.ofNat len)), .val (.int (Int32.ofNat i)), z] [])) → ∃ (T' : State) (B' : Cell) (z' : Slot), Stand p l e { frames := 0, locals := 0, cells := 0, slots := 0 } s m #[.ref b, .int (Int32.ofNat o), .ref d, .int (Int32.ofNat q), .int (Int32.ofNat len)] below meth c T' ([] ++ copyLocs d q len) 0 0 ∧ Put d B' s₁ T' ∧ Laid B B' q (q + len) (fun j => Value.int (lo8 (cv A (o + (j - q))))) ∧
      Steps p.tables e below (s₁.setTop (entryFrame m #[.ref b, .int (Int32.ofNat o), .ref d, .int (Int32.ofNat q), .int (Int32.ofNat len)] 7)) (T'.setTop (mkF m 3 #[.val (.ref b), .val (.int (Int32.ofNat (o + len))), .val (.ref d), .val (.int (Int32.ofNat (q + len))), .val (.int (Int32.ofNat len)), .val (.int (Int32.ofNat len)), z'] [])) := by
    intro r
    induction r with
    | zero =>
      intro i hi z hz Tl Bk Xl pl fl cl
      have hil : i = len := by omega
      rw [hil] at Xl fl cl
      exact ⟨Tl, Bk, z, Xl, pl, fl, cl⟩
    | succ r ih =>
      intro i hi z hz Tl Bk Xl pl fl cl
      have all := X0.warmed.alike.symm.trans Xl.warmed.alike
      have hAl := hA0.keep all (pl.other hne hA0.1)
      have hBk := hB0.like all pl.1 fl.1 fl.2.1 fl.2.2.1
      have hlt : q + i < Bk.slots.size := by rw [fl.2.2.1]; omega
      have c3 : Steps p.tables e below (s₁.setTop (entryFrame m #[.ref b, .int (Int32.ofNat o), .ref d, .int (Int32.ofNat q), .int (Int32.ofNat len)] 7)) (Tl.setTop (mkF m 12 #[.val (.ref b), .val (.int (Int32.ofNat (o + i))), .val (.ref d), .val (.int (Int32.ofNat (q + i))), .val (.int (Int32.ofNat len)), .val (.int (Int32.ofNat i)), z] [.int (Int32.ofNat (o + i)), .ref b])) := cl.trans (by
        refine XS.iload Xl.here hexec rfl (hb hbytes d3) rfl ?_
        refine XS.iload Xl.here hexec rfl (hb hbytes d5) rfl ?_
        refine XS.icmpNo Xl.here hexec rfl (hb hbytes d7) rfl (ii_ge_f (lt32 (by omega) (by omega))) ?_
        refine XS.aloadN Xl.here hexec rfl (hb hbytes d10) rfl rfl ?_
        refine XS.iloadN Xl.here hexec rfl (hb hbytes d11) rfl ?_
        exact Steps.refl _)
      have c4 : Steps p.tables e below (s₁.setTop (entryFrame m #[.ref b, .int (Int32.ofNat o), .ref d, .int (Int32.ofNat q), .int (Int32.ofNat len)] 7)) (Tl.setTop (mkF m 13 #[.val (.ref b), .val (.int (Int32.ofNat (o + i))), .val (.ref d), .val (.int (Int32.ofNat (q + i))), .val (.int (Int32.ofNat len)), .val (.int (Int32.ofNat i)), z] [.int (cv A (o + i))])) := c3.trans (by
        refine Xl.aget hexec hAl rfl (hA.get (i := o + i) (by omega)) rfl rfl (hb hbytes d12) ?_
        exact Steps.refl _)
      have c5 : Steps p.tables e below (s₁.setTop (entryFrame m #[.ref b, .int (Int32.ofNat o), .ref d, .int (Int32.ofNat q), .int (Int32.ofNat len)] 7)) (Tl.setTop (mkF m 15 #[.val (.ref b), .val (.int (Int32.ofNat (o + i))), .val (.ref d), .val (.int (Int32.ofNat (q + i))), .val (.int (Int32.ofNat len)), .val (.int (Int32.ofNat i)), .val (.int (cv A (o + i)))] [])) := c4.trans (by
        refine XS.istoreS Xl.here hexec rfl (hb hbytes d13) rfl rfl hz ?_
        exact Steps.refl _)
      have c6 : Steps p.tables e below (s₁.setTop (entryFrame m #[.ref b, .int (Int32.ofNat o), .ref d, .int (Int32.ofNat q), .int (Int32.ofNat len)] 7)) (Tl.setTop (mkF m 31 #[.val (.ref b), .val (.int (Int32.ofNat (o + i))), .val (.ref d), .val (.int (Int32.ofNat (q + i))), .val (.int (Int32.ofNat len)), .val (.int (Int32.ofNat i)), .val (.int (cv A (o + i)))] [.int (lo8 (cv A (o + i))), .int (Int32.ofNat (q + i)), .ref d])) := c5.trans (by
        refine XS.iload Xl.here hexec rfl (hb hbytes d15) rfl ?_
        refine sipushV Xl.here hexec rfl 255 (hb hbytes d17) (by decide) ?_
        refine XS.icmpYes Xl.here hexec rfl (pc0 := 20) rfl (hb hbytes d20) rfl (ii_le_t (hp i (by omega))) (by decide) rfl ?_
        refine XS.aloadN Xl.here hexec rfl (hb hbytes d26) rfl rfl ?_
        refine XS.iloadN Xl.here hexec rfl (hb hbytes d27) rfl ?_
        refine XS.iload Xl.here hexec rfl (hb hbytes d28) rfl ?_
        refine i2b Xl.here hexec rfl (hb hbytes d30) rfl ?_
        exact Steps.refl _)
      obtain ⟨T7, X7, p7, st7⟩ := Xl.aput hexec hBk rfl hlt rfl (fits_lo8 (cv A (o + i))) (g := (mkF m 31 #[.val (.ref b), .val (.int (Int32.ofNat (o + i))), .val (.ref d), .val (.int (Int32.ofNat (q + i))), .val (.int (Int32.ofNat len)), .val (.int (Int32.ofNat i)), .val (.int (cv A (o + i)))] [.int (lo8 (cv A (o + i))), .int (Int32.ofNat (q + i)), .ref d])) rfl (rest := []) rfl (hb hbytes d31)
      have c8 : Steps p.tables e below (s₁.setTop (entryFrame m #[.ref b, .int (Int32.ofNat o), .ref d, .int (Int32.ofNat q), .int (Int32.ofNat len)] 7)) (T7.setTop (mkF m 32 #[.val (.ref b), .val (.int (Int32.ofNat (o + i))), .val (.ref d), .val (.int (Int32.ofNat (q + i))), .val (.int (Int32.ofNat len)), .val (.int (Int32.ofNat i)), .val (.int (cv A (o + i)))] [])) := c6.trans (st7 _ (Steps.refl _))
      have c9 : Steps p.tables e below (s₁.setTop (entryFrame m #[.ref b, .int (Int32.ofNat o), .ref d, .int (Int32.ofNat q), .int (Int32.ofNat len)] 7)) (T7.setTop (mkF m 3 #[.val (.ref b), .val (.int (Int32.ofNat (o + i) + 1)), .val (.ref d), .val (.int (Int32.ofNat (q + i) + 1)), .val (.int (Int32.ofNat len)), .val (.int (Int32.ofNat i + 1)), .val (.int (cv A (o + i)))] [])) := c8.trans (by
        refine iincV X7.here hexec rfl 1 (hb hbytes d32) (by decide) rfl rfl ?_
        refine iincV X7.here hexec rfl 1 (hb hbytes d35) (by decide) rfl rfl ?_
        refine iincV X7.here hexec rfl 1 (hb hbytes d38) (by decide) rfl rfl ?_
        refine XS.goto X7.here hexec rfl (pc0 := 41) rfl (hb hbytes d41) (by decide) rfl ?_
        exact Steps.refl _)
      have c10 : Steps p.tables e below (s₁.setTop (entryFrame m #[.ref b, .int (Int32.ofNat o), .ref d, .int (Int32.ofNat q), .int (Int32.ofNat len)] 7)) (T7.setTop (mkF m 3 #[.val (.ref b), .val (.int (Int32.ofNat (o + (i + 1)))), .val (.ref d), .val (.int (Int32.ofNat (q + (i + 1)))), .val (.int (Int32.ofNat len)), .val (.int (Int32.ofNat (i + 1))), .val (.int (cv A (o + i)))] [])) := by
        have := c9
        rw [succ32, succ32, succ32] at this
        exact this
      exact ih (i + 1) (by omega) _ (Or.inr ⟨_, rfl, rfl⟩) T7 _ (by rw [copyLocs_step, ← List.append_assoc]; exact X7) (pl.trans p7) (fl.step (by omega) hlt (by simp)) c10
  obtain ⟨T9, B9, z9, X9, p9, f9, g9⟩ := loop len 0 (by omega) .unset (Or.inl rfl) s₁ B (by simpa [copyLocs] using X0) ⟨hB0.1, fun _ _ => rfl, rfl⟩ (Laid.zero _ _ _) c2
  have c11 : Steps p.tables e below (s₁.setTop (entryFrame m #[.ref b, .int (Int32.ofNat o), .ref d, .int (Int32.ofNat q), .int (Int32.ofNat len)] 7)) (T9.setTop (mkF m 46 #[.val (.ref b), .val (.int (Int32.ofNat (o + len))), .val (.ref d), .val (.int (Int32.ofNat (q + len))), .val (.int (Int32.ofNat len)), .val (.int (Int32.ofNat len)), z9] [.int (Int32.ofNat len)])) := g9.trans (by
    refine XS.iload X9.here hexec rfl (hb hbytes d3) rfl ?_
    refine XS.iload X9.here hexec rfl (hb hbytes d5) rfl ?_
    refine XS.icmpYes X9.here hexec rfl (pc0 := 7) rfl (hb hbytes d7) rfl (ii_ge_t (nlt32 (by omega) (Nat.le_refl _))) (by decide) rfl ?_
    refine XS.iload X9.here hexec rfl (hb hbytes d44) rfl ?_
    exact Steps.refl _)
  exact ⟨T9, some (.int (Int32.ofNat len)), _, _, _, X9, by simp, rfl, rfl, (fun h => by cases h), ⟨rfl, B9, p9.from hh0, f9⟩, fun fs hl => c11.trans (X9.ireturnOut hexec hret rfl (Or.inl rfl) (hb hbytes d46) hl)⟩
end Cmp5
namespace Cmp3
def yN : MethodName := ⟨"java/lang/StringUTF16", "compress", "([CII)[B"⟩
abbrev yB : ByteArray := jdk_52_method_16_code
theorem d0 : decode yB 0 = .ok (.iload_n 2, 1) := by decide +kernel
theorem d1 : decode yB 1 = .ok (.newarray .byte, 2) := by decide +kernel
theorem d3 : decode yB 3 = .ok (.astore_n 3, 1) := by decide +kernel
theorem d4 : decode yB 4 = .ok (.aload_n 0, 1) := by decide +kernel
theorem d5 : decode yB 5 = .ok (.iload_n 1, 1) := by decide +kernel
theorem d6 : decode yB 6 = .ok (.aload_n 3, 1) := by decide +kernel
theorem d7 : decode yB 7 = .ok (.iconst 0, 1) := by decide +kernel
theorem d8 : decode yB 8 = .ok (.iload_n 2, 1) := by decide +kernel
theorem d9 : decode yB 9 = .ok (.invokestatic 115, 3) := by decide +kernel
theorem d12 : decode yB 12 = .ok (.istore 4, 2) := by decide +kernel
theorem d14 : decode yB 14 = .ok (.iload 4, 2) := by decide +kernel
theorem d16 : decode yB 16 = .ok (.iload_n 2, 1) := by decide +kernel
theorem d17 : decode yB 17 = .ok (.if_icmp (.eq) 40, 3) := by decide +kernel
theorem d57 : decode yB 57 = .ok (.aload_n 3, 1) := by decide +kernel
theorem d58 : decode yB 58 = .ok (.areturn, 1) := by decide +kernel
def site : List Cond := [.arrayClass .byte, Cmp5.tab] ++ staticW U16 115 Cmp5.yN
def tab : Cond := tabOf yN yB 6 (some (.array .byte)) site
def P (b : Addr) (A : Cell) (o len : Nat) (args : Array Value) (s : State) : Prop := args = #[.ref b, .int (Int32.ofNat o), .int (Int32.ofNat len)] ∧ Ch b A s ∧ o + len ≤ A.slots.size ∧ len ≤ 536870912 ∧ ∀ i, i < len → ¬ 255 < cv A (o + i)
def E (b : Addr) (A : Cell) (o len : Nat) (r : Option Value) (s u : State) : Prop := NewArr .byte "[B" len (fun j => .int (lo8 (cv A (o + j)))) r s u ∧ u.heap.size = s.heap.size + 1
/-- no char of the range above 255: a new byte[] of their low bytes -/
theorem law (l : Launch) (b : Addr) (A : Cell) (o len : Nat) : Law l yN 3 3 1 18 yB 6 (some (.array .byte)) site (P b A o len) (E b A o len) [] 1 len := by
  refine Law.of_walk (plainFor_of_name (by decide +kernel)) (by decide +kernel) (by decide +kernel) (by decide) (fun _ _ h => by rw [h.1]; rfl) (fun _ U U' hal hh h => ⟨h.1, h.2.1.mv hal hh, h.2.2⟩) (fun r U U' V V' h1 hal h2 h => ⟨NewArr.mv r U U' V V' h1 hal h2 h.1, by rw [h1, h2]; exact h.2⟩) ?_
  intro p e s m args below meth c s₁ X0 hexec hbytes hml hret hlk hnm hown hh0 W hP
  obtain ⟨rfl, hA, l1, l2, hp⟩ := hP
  have a31 := hA.1.2.2.2
  have c1 : Steps p.tables e below (s₁.setTop (entryFrame m #[.ref b, .int (Int32.ofNat o), .int (Int32.ofNat len)] 6)) (s₁.setTop (mkF m 0 #[.val (.ref b), .val (.int (Int32.ofNat o)), .val (.int (Int32.ofNat len)), .unset, .unset, .unset] [])) := entry rfl
  have c2 : Steps p.tables e below (s₁.setTop (entryFrame m #[.ref b, .int (Int32.ofNat o), .int (Int32.ofNat len)] 6)) (s₁.setTop (mkF m 1 #[.val (.ref b), .val (.int (Int32.ofNat o)), .val (.int (Int32.ofNat len)), .unset, .unset, .unset] [.int (Int32.ofNat len)])) := c1.trans (by
    refine XS.iloadN X0.here hexec rfl (hb hbytes d0) rfl ?_
    exact Steps.refl _)
  obtain ⟨T3, B3, X3, ba3, bs3, bv3, bh3, bf3, st3⟩ := X0.anew hexec (atype := .byte) (wk W (.arrayClass .byte)) rfl (by show len * 1 ≤ _; omega) (by omega) (g := (mkF m 1 #[.val (.ref b), .val (.int (Int32.ofNat o)), .val (.int (Int32.ofNat len)), .unset, .unset, .unset] [.int (Int32.ofNat len)])) rfl (hb hbytes d1) (rest := []) rfl (Nat.le_refl _) (by show 0 + len ≤ len; omega)
  rw [hh0] at ba3 st3
  have kp3 : XT.Kept s T3 := (XT.Kept.of_eq hh0).push bh3
  have hA3 := hA.keep X3.warmed.alike (kp3 _ _ hA.1.1)
  have hne : b ≠ s.heap.size := hA.1.ne
  have c4 : Steps p.tables e below (s₁.setTop (entryFrame m #[.ref b, .int (Int32.ofNat o), .int (Int32.ofNat len)] 6)) (T3.setTop (mkF m 3 #[.val (.ref b), .val (.int (Int32.ofNat o)), .val (.int (Int32.ofNat len)), .unset, .unset, .unset] [.ref s.heap.size])) := c2.trans (st3 _ (Steps.refl _))
  have c5 : Steps p.tables e below (s₁.setTop (entryFrame m #[.ref b, .int (Int32.ofNat o), .int (Int32.ofNat len)] 6)) (T3.setTop (mkF m 9 #[.val (.ref b), .val (.int (Int32.ofNat o)), .val (.int (Int32.ofNat len)), .val (.ref s.heap.size), .unset, .unset] [.int (Int32.ofNat len), .int 0, .ref s.heap.size, .int (Int32.ofNat o), .ref b])) := c4.trans (by
    refine XS.astoreN X3.here hexec rfl (hb hbytes d3) rfl rfl rfl ?_
    refine XS.aloadN X3.here hexec rfl (hb hbytes d4) rfl rfl ?_
    refine XS.iloadN X3.here hexec rfl (hb hbytes d5) rfl ?_
    refine XS.aloadN X3.here hexec rfl (hb hbytes d6) rfl rfl ?_
    refine iconstV X3.here hexec rfl 0 (hb hbytes d7) (by decide) ?_
    refine XS.iloadN X3.here hexec rfl (hb hbytes d8) rfl ?_
    exact Steps.refl _)
  obtain ⟨v6, T6, X6, E6, g6⟩ := X3.callS hexec (Cmp5.law l b A s.heap.size B3 o 0 len) hown (wks W (staticW U16 115 Cmp5.yN)) (wk W Cmp5.tab) (W := 0) (Nat.le_of_ble_eq_true rfl) (Nat.le_of_ble_eq_true rfl) (Nat.le_refl _) (by show 0 + len + 0 ≤ len; omega) (g := (mkF m 9 #[.val (.ref b), .val (.int (Int32.ofNat o)), .val (.int (Int32.ofNat len)), .val (.ref s.heap.size), .unset, .unset] [.int (Int32.ofNat len), .int (Int32.ofNat 0), .ref s.heap.size, .int (Int32.ofNat o), .ref b])) rfl (by rw [hml]; rfl) c5 (argsL := [.ref b, .int (Int32.ofNat o), .ref s.heap.size, .int (Int32.ofNat 0), .int (Int32.ofNat len)]) (rest := []) rfl rfl (by show 2 * 0 + 0 ≤ _; decide) (hb hbytes d9) (⟨rfl, hA3, ba3, hne, l1, by rw [bs3]; simp, hp⟩)
  obtain ⟨rfl, B6, p6, f6⟩ := E6
  have c7 : Steps p.tables e below (s₁.setTop (entryFrame m #[.ref b, .int (Int32.ofNat o), .int (Int32.ofNat len)] 6)) (T6.setTop (mkF m 12 #[.val (.ref b), .val (.int (Int32.ofNat o)), .val (.int (Int32.ofNat len)), .val (.ref s.heap.size), .unset, .unset] [.int (Int32.ofNat len)])) := g6
  have c8 : Steps p.tables e below (s₁.setTop (entryFrame m #[.ref b, .int (Int32.ofNat o), .int (Int32.ofNat len)] 6)) (T6.setTop (mkF m 58 #[.val (.ref b), .val (.int (Int32.ofNat o)), .val (.int (Int32.ofNat len)), .val (.ref s.heap.size), .val (.int (Int32.ofNat len)), .unset] [.ref s.heap.size])) := c7.trans (by
    refine XS.istore X6.here hexec rfl (hb hbytes d12) rfl rfl ?_
    refine XS.iload X6.here hexec rfl (hb hbytes d14) rfl ?_
    refine XS.iloadN X6.here hexec rfl (hb hbytes d16) rfl ?_
    refine XS.icmpYes X6.here hexec rfl (pc0 := 17) rfl (hb hbytes d17) rfl (ii_eq_t rfl) (by decide) rfl ?_
    refine XS.aloadN X6.here hexec rfl (hb hbytes d57) rfl rfl ?_
    exact Steps.refl _)
  have X8 := X6.wide (L' := []) (cells' := 1) (slots' := len) (fun x hx hlt => by
    simp only [List.nil_append, copyLocs, List.mem_map, List.mem_range] at hx
    obtain ⟨i, -, rfl⟩ := hx
    exact absurd hlt (Nat.lt_irrefl _)) (Nat.le_refl _) (by omega)
  exact ⟨T6, some (.ref s.heap.size), _, _, _, X8, rfl, rfl, rfl, (fun h => by cases h), ⟨⟨rfl, B6, ba3.like (X3.warmed.alike.symm.trans X6.warmed.alike) p6.1 f6.1 f6.2.1 f6.2.2.1, f6.2.1.trans bv3, by rw [X6.warmed.alike.findClass, f6.1]; exact bf3, by rw [f6.2.2.1, bs3]; simp, fun j hj => by rw [f6.2.2.2 j, if_pos (by omega)]; rfl, kp3.put p6 (Nat.le_refl _)⟩, by rw [p6.2.2, bh3, hh0]; simp⟩, fun fs hl => c8.trans (X8.areturnOut hexec rfl hret rfl (hb hbytes d58) hl)⟩
end Cmp3
namespace CodL
def yN : MethodName := ⟨"java/lang/StringUTF16", "coderFromArrayLen", "([BI)B"⟩
abbrev yB : ByteArray := jdk_52_method_15_code
theorem d0 : decode yB 0 = .ok (.iload_n 1, 1) := by decide +kernel
theorem d1 : decode yB 1 = .ok (.aload_n 0, 1) := by decide +kernel
theorem d2 : decode yB 2 = .ok (.arraylength, 1) := by decide +kernel
theorem d3 : decode yB 3 = .ok (.isub, 1) := by decide +kernel
theorem d4 : decode yB 4 = .ok (.bipush 31, 2) := by decide +kernel
theorem d6 : decode yB 6 = .ok (.iushr, 1) := by decide +kernel
theorem d7 : decode yB 7 = .ok (.i2b, 1) := by decide +kernel
theorem d8 : decode yB 8 = .ok (.ireturn, 1) := by decide +kernel
def site : List Cond := []
def tab : Cond := tabOf yN yB 2 (some .byte) site
def P (d : Addr) (B : Cell) (args : Array Value) (s : State) : Prop := args = #[.ref d, .int (Int32.ofNat B.slots.size)] ∧ Arr .byte d B s
def E (r : Option Value) (s u : State) : Prop := XT.PureE (some (.int 0)) r s u
/-- an array as long as the number of chars: LATIN1 -/
theorem law (l : Launch) (d : Addr) (B : Cell) : Law l yN 2 2 0 0 yB 2 (some .byte) site (P d B) E [] 0 0 := by
  refine Law.of_walk (plainFor_of_name (by decide +kernel)) (by decide +kernel) (by decide +kernel) (by decide) (fun _ _ h => by rw [h.1]; rfl) (fun _ U U' hal hh h => ⟨h.1, h.2.mv hal hh⟩) (fun r U U' V V' h1 hal h2 h => XT.PureE.mv r U U' V V' h1 hal h2 h) ?_
  intro p e s m args below meth c s₁ X0 hexec hbytes hml hret hlk hnm hown hh0 W hP
  obtain ⟨rfl, hB⟩ := hP
  have hB0 := hB.mv X0.warmed.alike hh0
  have c1 : Steps p.tables e below (s₁.setTop (entryFrame m #[.ref d, .int (Int32.ofNat B.slots.size)] 2)) (s₁.setTop (mkF m 0 #[.val (.ref d), .val (.int (Int32.ofNat B.slots.size))] [])) := entry rfl
  have c2 : Steps p.tables e below (s₁.setTop (entryFrame m #[.ref d, .int (Int32.ofNat B.slots.size)] 2)) (s₁.setTop (mkF m 2 #[.val (.ref d), .val (.int (Int32.ofNat B.slots.size))] [.ref d, .int (Int32.ofNat B.slots.size)])) := c1.trans (by
    refine XS.iloadN X0.here hexec rfl (hb hbytes d0) rfl ?_
    refine XS.aloadN X0.here hexec rfl (hb hbytes d1) rfl rfl ?_
    exact Steps.refl _)
  have c3 : Steps p.tables e below (s₁.setTop (entryFrame m #[.ref d, .int (Int32.ofNat B.slots.size)] 2)) (s₁.setTop (mkF m 8 #[.val (.ref d), .val (.int (Int32.ofNat B.slots.size))] [.int (lo8 (ushr (Int32.ofNat B.slots.size - Int32.ofNat B.slots.size) 31))])) := c2.trans (by
    refine X0.alen hexec hB0 rfl rfl (hb hbytes d2) ?_
    refine XS.isub X0.here hexec rfl (hb hbytes d3) rfl ?_
    refine bipushV X0.here hexec rfl 31 (hb hbytes d4) (by decide) ?_
    refine iushr X0.here hexec rfl (hb hbytes d6) rfl ?_
    refine i2b X0.here hexec rfl (hb hbytes d7) rfl ?_
    exact Steps.refl _)
  have e0 : lo8 (ushr (Int32.ofNat B.slots.size - Int32.ofNat B.slots.size) 31) = 0 := by rw [Int32.sub_self]; decide
  rw [e0] at c3
  exact ⟨s₁, some (.int 0), _, _, _, X0, rfl, rfl, rfl, (fun h => by cases h), ⟨rfl, hh0⟩, fun fs hl => c3.trans (X0.ireturnOut hexec hret rfl (Or.inr (Or.inr (Or.inl rfl))) (hb hbytes d8) hl)⟩
end CodL
/-- the String at a is Latin-1 over a new byte[] (the heap's one new cell): the low bytes of the len chars of A from o on; every cell but a is kept -/
def Got (a : Addr) (D : Cell) (fV fC : Field) (A : Cell) (o len : Nat) (r : Option Value) (s u : State) : Prop := r = none ∧ ∃ D' V : Cell, Blank "java/lang/String" a D' u ∧ Same D D' [fV.slot, fC.slot] ∧ D'.slots[fV.slot]? = some (.ref s.heap.size) ∧ D'.slots[fC.slot]? = some (.int 0) ∧ Arr .byte s.heap.size V u ∧ V.vm = .none ∧ u.vm.findClass "[B" = some V.cls ∧ V.slots.size = len ∧ (∀ j, j < len → V.slots[j]? = some (.int (lo8 (cv A (o + j))))) ∧ (∀ (y : Addr) (c : Cell), y ≠ a → s.heap[y]? = some c → u.heap[y]? = some c) ∧ u.heap.size = s.heap.size + 1
theorem Got.mv {a : Addr} {D A : Cell} {fV fC : Field} {o len : Nat} : ∀ r (U U' V V' : State), U'.heap = U.heap → V.vm.Alike V'.vm → V'.heap = V.heap → Got a D fV fC A o len r U V → Got a D fV fC A o len r U' V' :=
  fun r U U' V V' h1 hal h2 ⟨e0, D', X, a1, a2, a3, a4, a5, a6, a7, a8, a9, a10, a11⟩ => ⟨e0, D', X, a1.mv hal h2, a2, by rw [h1]; exact a3, a4, by rw [h1]; exact a5.mv hal h2, a6, by rw [hal.findClass]; exact a7, a8, a9, by rw [h1, h2]; exact a10, by rw [h1, h2]; exact a11⟩
namespace New4
def yN : MethodName := ⟨"java/lang/String", "<init>", "([CIILjava/lang/Void;)V"⟩
abbrev yB : ByteArray := jdk_42_method_149_code
theorem d0 : decode yB 0 = .ok (.aload_n 0, 1) := by decide +kernel
theorem d1 : decode yB 1 = .ok (.invokespecial 1, 3) := by decide +kernel
theorem d4 : decode yB 4 = .ok (.iload_n 3, 1) := by decide +kernel
theorem d5 : decode yB 5 = .ok (.ifCond (.ne) 22, 3) := by decide +kernel
theorem d27 : decode yB 27 = .ok (.getstatic 38, 3) := by decide +kernel
theorem d30 : decode yB 30 = .ok (.ifCond (.eq) 28, 3) := by decide +kernel
theorem d33 : decode yB 33 = .ok (.aload_n 1, 1) := by decide +kernel
theorem d34 : decode yB 34 = .ok (.iload_n 2, 1) := by decide +kernel
theorem d35 : decode yB 35 = .ok (.iload_n 3, 1) := by decide +kernel
theorem d36 : decode yB 36 = .ok (.invokestatic 177, 3) := by decide +kernel
theorem d39 : decode yB 39 = .ok (.astore 5, 2) := by decide +kernel
theorem d41 : decode yB 41 = .ok (.aload_n 0, 1) := by decide +kernel
theorem d42 : decode yB 42 = .ok (.aload 5, 2) := by decide +kernel
theorem d44 : decode yB 44 = .ok (.iload_n 3, 1) := by decide +kernel
theorem d45 : decode yB 45 = .ok (.invokestatic 47, 3) := by decide +kernel
theorem d48 : decode yB 48 = .ok (.putfield 15, 3) := by decide +kernel
theorem d51 : decode yB 51 = .ok (.aload_n 0, 1) := by decide +kernel
theorem d52 : decode yB 52 = .ok (.aload 5, 2) := by decide +kernel
theorem d54 : decode yB 54 = .ok (.putfield 9, 3) := by decide +kernel
theorem d57 : decode yB 57 = .ok (.return_, 1) := by decide +kernel
def site : List Cond := [.fieldLink "java/lang/String" 38 "java/lang/String" "COMPACT_STRINGS" "Z", Cmp3.tab, CodL.tab, .laysFinal "java/lang/String" "java/lang/String" "value" "[B", .fieldLink "java/lang/String" 9 "java/lang/String" "value" "[B", .laysFinal "java/lang/String" "java/lang/String" "coder" "B", .fieldLink "java/lang/String" 15 "java/lang/String" "coder" "B"] ++ objW "java/lang/String" 1 ++ staticW "java/lang/String" 177 Cmp3.yN ++ staticW "java/lang/String" 47 CodL.yN
def tab : Cond := tabOf yN yB 6 none site
def P (a : Addr) (D : Cell) (fV fC : Field) (b : Addr) (A : Cell) (z : Int32) (o len : Nat) (args : Array Value) (s : State) : Prop := args = #[.ref a, .ref b, .int (Int32.ofNat o), .int (Int32.ofNat len), .null] ∧ Blank "java/lang/String" a D s ∧ Found "java/lang/String" "value" "[B" fV s ∧ Found "java/lang/String" "coder" "B" fC s ∧ Ch b A s ∧ StaticIs s "java/lang/String" "COMPACT_STRINGS" "Z" (.int z) ∧ ¬ z = 0 ∧ 0 < len ∧ o + len ≤ A.slots.size ∧ len ≤ 536870912 ∧ ∀ i, i < len → ¬ 255 < cv A (o + i)
def E (a : Addr) (D : Cell) (fV fC : Field) (A : Cell) (o len : Nat) (r : Option Value) (s u : State) : Prop := Got a D fV fC A o len r s u
/-- len > 0, no char of the range above 255: a Latin-1 String of their low bytes -/
theorem law (l : Launch) (a : Addr) (D : Cell) (fV fC : Field) (b : Addr) (A : Cell) (z : Int32) (o len : Nat) : Law l yN 5 4 2 35 yB 6 none site (P a D fV fC b A z o len) (E a D fV fC A o len) [⟨a, fC.slot⟩, ⟨a, fV.slot⟩] 1 len := by
  refine Law.of_walk (plainFor_of_name (by decide +kernel)) (by decide +kernel) (by decide +kernel) (by decide) (fun _ _ h => by rw [h.1]; rfl) (fun _ U U' hal hh h => ⟨h.1, h.2.1.mv hal hh, h.2.2.1.al hal, h.2.2.2.1.al hal, h.2.2.2.2.1.mv hal hh, h.2.2.2.2.2.1.there hal hh, h.2.2.2.2.2.2⟩) (fun r U U' V V' h1 hal h2 h => Got.mv r U U' V V' h1 hal h2 h) ?_
  intro p e s m args below meth c s₁ X0 hexec hbytes hml hret hlk hnm hown hh0 W hP
  obtain ⟨rfl, hB, f1, f2, hA, s1, hz, l0, l1, l2, hp⟩ := hP
  have a31 := hA.1.2.2.2
  have c1 : Steps p.tables e below (s₁.setTop (entryFrame m #[.ref a, .ref b, .int (Int32.ofNat o), .int (Int32.ofNat len), .null] 6)) (s₁.setTop (mkF m 0 #[.val (.ref a), .val (.ref b), .val (.int (Int32.ofNat o)), .val (.int (Int32.ofNat len)), .val .null, .unset] [])) := entry rfl
  have c2 : Steps p.tables e below (s₁.setTop (entryFrame m #[.ref a, .ref b, .int (Int32.ofNat o), .int (Int32.ofNat len), .null] 6)) (s₁.setTop (mkF m 1 #[.val (.ref a), .val (.ref b), .val (.int (Int32.ofNat o)), .val (.int (Int32.ofNat len)), .val .null, .unset] [.ref a])) := c1.trans (by
    refine XS.aloadN X0.here hexec rfl (hb hbytes d0) rfl rfl ?_
    exact Steps.refl _)
  obtain ⟨T3, X3, q3, st3⟩ := X0.oinit hexec hown (wks W (objW "java/lang/String" 1)) (g := (mkF m 1 #[.val (.ref a), .val (.ref b), .val (.int (Int32.ofNat o)), .val (.int (Int32.ofNat len)), .val .null, .unset] [.ref a])) rfl (by rw [hml]; rfl) (rest := []) rfl (hb hbytes d1) (W := 0) (by show 2 * 0 + 0 ≤ _; decide) (Nat.le_of_ble_eq_true rfl) (Nat.le_of_ble_eq_true rfl)
  have hh3 := q3.trans hh0
  have c4 : Steps p.tables e below (s₁.setTop (entryFrame m #[.ref a, .ref b, .int (Int32.ofNat o), .int (Int32.ofNat len), .null] 6)) (T3.setTop (mkF m 27 #[.val (.ref a), .val (.ref b), .val (.int (Int32.ofNat o)), .val (.int (Int32.ofNat len)), .val .null, .unset] [])) := (c2.trans (st3 _ (Steps.refl _))).trans (by
    refine XS.iloadN X3.here hexec rfl (hb hbytes d4) rfl ?_
    refine XS.ifYes X3.here hexec rfl (pc0 := 5) rfl (hb hbytes d5) rfl (i0_ne_t (nz32 (by omega) l0)) (by decide) rfl ?_
    exact Steps.refl _)
  obtain ⟨T5, X5, q5, st5⟩ := X3.sget hexec hown (wk W (.fieldLink "java/lang/String" 38 "java/lang/String" "COMPACT_STRINGS" "Z")) s1 (fun _ _ h => by rw [hh3]; exact h) (g := (mkF m 27 #[.val (.ref a), .val (.ref b), .val (.int (Int32.ofNat o)), .val (.int (Int32.ofNat len)), .val .null, .unset] [])) rfl (hb hbytes d27)
  have hh5 := q5.trans hh3
  have c6 : Steps p.tables e below (s₁.setTop (entryFrame m #[.ref a, .ref b, .int (Int32.ofNat o), .int (Int32.ofNat len), .null] 6)) (T5.setTop (mkF m 30 #[.val (.ref a), .val (.ref b), .val (.int (Int32.ofNat o)), .val (.int (Int32.ofNat len)), .val .null, .unset] [.int z])) := c4.trans (st5 _ (Steps.refl _))
  have c7 : Steps p.tables e below (s₁.setTop (entryFrame m #[.ref a, .ref b, .int (Int32.ofNat o), .int (Int32.ofNat len), .null] 6)) (T5.setTop (mkF m 36 #[.val (.ref a), .val (.ref b), .val (.int (Int32.ofNat o)), .val (.int (Int32.ofNat len)), .val .null, .unset] [.int (Int32.ofNat len), .int (Int32.ofNat o), .ref b])) := c6.trans (by
    refine XS.ifNo X5.here hexec rfl (hb hbytes d30) rfl (i0_eq_f hz) ?_
    refine XS.aloadN X5.here hexec rfl (hb hbytes d33) rfl rfl ?_
    refine XS.iloadN X5.here hexec rfl (hb hbytes d34) rfl ?_
    refine XS.iloadN X5.here hexec rfl (hb hbytes d35) rfl ?_
    exact Steps.refl _)
  obtain ⟨v8, T8, X8, E8, g8⟩ := X5.callS hexec (Cmp3.law l b A o len) hown (wks W (staticW "java/lang/String" 177 Cmp3.yN)) (wk W Cmp3.tab) (W := 0) (Nat.le_of_ble_eq_true rfl) (Nat.le_of_ble_eq_true rfl) (Nat.le_refl _) (by show 0 + len ≤ len; omega) (g := (mkF m 36 #[.val (.ref a), .val (.ref b), .val (.int (Int32.ofNat o)), .val (.int (Int32.ofNat len)), .val .null, .unset] [.int (Int32.ofNat len), .int (Int32.ofNat o), .ref b])) rfl (by rw [hml]; rfl) c7 (argsL := [.ref b, .int (Int32.ofNat o), .int (Int32.ofNat len)]) (rest := []) rfl rfl (by show 2 * 0 + 0 ≤ _; decide) (hb hbytes d36) (⟨rfl, hA.mv X5.warmed.alike hh5, l1, l2, hp⟩)
  obtain ⟨e8, z8⟩ := E8
  obtain ⟨rfl, N, n1, n2, n3, n4, n5, n6⟩ := NewArr.mv _ T5 s _ _ hh5.symm (Vm.Alike.refl _) rfl e8
  rw [hh5] at z8
  have hB1 := hB.keep X8.warmed.alike (n6 _ _ hB.1)
  have hne : s.heap.size ≠ a := (Nat.ne_of_lt (Array.getElem?_eq_some_iff.mp hB.1).1).symm
  have c9 : Steps p.tables e below (s₁.setTop (entryFrame m #[.ref a, .ref b, .int (Int32.ofNat o), .int (Int32.ofNat len), .null] 6)) (T8.setTop (mkF m 39 #[.val (.ref a), .val (.ref b), .val (.int (Int32.ofNat o)), .val (.int (Int32.ofNat len)), .val .null, .unset] [.ref s.heap.size])) := g8
  have c10 : Steps p.tables e below (s₁.setTop (entryFrame m #[.ref a, .ref b, .int (Int32.ofNat o), .int (Int32.ofNat len), .null] 6)) (T8.setTop (mkF m 45 #[.val (.ref a), .val (.ref b), .val (.int (Int32.ofNat o)), .val (.int (Int32.ofNat len)), .val .null, .val (.ref s.heap.size)] [.int (Int32.ofNat N.slots.size), .ref s.heap.size, .ref a])) := by
    have hc : Steps p.tables e below (s₁.setTop (entryFrame m #[.ref a, .ref b, .int (Int32.ofNat o), .int (Int32.ofNat len), .null] 6)) (T8.setTop (mkF m 45 #[.val (.ref a), .val (.ref b), .val (.int (Int32.ofNat o)), .val (.int (Int32.ofNat len)), .val .null, .val (.ref s.heap.size)] [.int (Int32.ofNat len), .ref s.heap.size, .ref a])) := c9.trans (by
      refine XS.astore X8.here hexec rfl (hb hbytes d39) rfl rfl rfl ?_
      refine XS.aloadN X8.here hexec rfl (hb hbytes d41) rfl rfl ?_
      refine XS.aload X8.here hexec rfl (hb hbytes d42) rfl rfl ?_
      refine XS.iloadN X8.here hexec rfl (hb hbytes d44) rfl ?_
      exact Steps.refl _)
    rw [n4]; exact hc
  obtain ⟨v11, T11, X11, E11, g11⟩ := X8.callS hexec (CodL.law l s.heap.size N) hown (wks W (staticW "java/lang/String" 47 CodL.yN)) (wk W CodL.tab) (W := 1) (Nat.le_of_ble_eq_true rfl) (Nat.le_of_ble_eq_true rfl) (Nat.le_refl _) (by show 0 + len + 0 ≤ len; omega) (g := (mkF m 45 #[.val (.ref a), .val (.ref b), .val (.int (Int32.ofNat o)), .val (.int (Int32.ofNat len)), .val .null, .val (.ref s.heap.size)] [.int (Int32.ofNat N.slots.size), .ref s.heap.size, .ref a])) rfl (by rw [hml]; rfl) c10 (argsL := [.ref s.heap.size, .int (Int32.ofNat N.slots.size)]) (rest := [.ref a]) rfl rfl (by show 2 * 0 + (1 + 0) ≤ _; decide) (hb hbytes d45) (⟨rfl, n1⟩)
  obtain ⟨rfl, q11⟩ := E11
  have hB11 := hB1.mv (X8.warmed.alike.symm.trans X11.warmed.alike) q11
  have c12 : Steps p.tables e below (s₁.setTop (entryFrame m #[.ref a, .ref b, .int (Int32.ofNat o), .int (Int32.ofNat len), .null] 6)) (T11.setTop (mkF m 48 #[.val (.ref a), .val (.ref b), .val (.int (Int32.ofNat o)), .val (.int (Int32.ofNat len)), .val .null, .val (.ref s.heap.size)] [.int 0, .ref a])) := g11
  obtain ⟨T13, X13, p13, bl13, sl13, st13⟩ := X11.finit hexec hown (wk W (.fieldLink "java/lang/String" 15 "java/lang/String" "coder" "B")) (Or.inr ⟨_, (wk W (.laysFinal "java/lang/String" "java/lang/String" "coder" "B"))⟩) (Or.inl ⟨rfl, hnm⟩) f2 (Or.inl rfl) hB11 (t := .byte) (by decide +kernel) rfl (g := (mkF m 48 #[.val (.ref a), .val (.ref b), .val (.int (Int32.ofNat o)), .val (.int (Int32.ofNat len)), .val .null, .val (.ref s.heap.size)] [.int 0, .ref a])) rfl (rest := []) rfl (hb hbytes d48)
  have c14 : Steps p.tables e below (s₁.setTop (entryFrame m #[.ref a, .ref b, .int (Int32.ofNat o), .int (Int32.ofNat len), .null] 6)) (T13.setTop (mkF m 54 #[.val (.ref a), .val (.ref b), .val (.int (Int32.ofNat o)), .val (.int (Int32.ofNat len)), .val .null, .val (.ref s.heap.size)] [.ref s.heap.size, .ref a])) := (c12.trans (st13 _ (Steps.refl _))).trans (by
    refine XS.aloadN X13.here hexec rfl (hb hbytes d51) rfl rfl ?_
    refine XS.aload X13.here hexec rfl (hb hbytes d52) rfl rfl ?_
    exact Steps.refl _)
  obtain ⟨T15, X15, p15, bl15, sl15, st15⟩ := X13.finit hexec hown (wk W (.fieldLink "java/lang/String" 9 "java/lang/String" "value" "[B")) (Or.inr ⟨_, (wk W (.laysFinal "java/lang/String" "java/lang/String" "value" "[B"))⟩) (Or.inl ⟨rfl, hnm⟩) f1 (Or.inl rfl) bl13 (t := (.array .byte)) (by decide +kernel) rfl (g := (mkF m 54 #[.val (.ref a), .val (.ref b), .val (.int (Int32.ofNat o)), .val (.int (Int32.ofNat len)), .val .null, .val (.ref s.heap.size)] [.ref s.heap.size, .ref a])) rfl (rest := []) rfl (hb hbytes d54)
  have c16 : Steps p.tables e below (s₁.setTop (entryFrame m #[.ref a, .ref b, .int (Int32.ofNat o), .int (Int32.ofNat len), .null] 6)) (T15.setTop (mkF m 57 #[.val (.ref a), .val (.ref b), .val (.int (Int32.ofNat o)), .val (.int (Int32.ofNat len)), .val .null, .val (.ref s.heap.size)] [])) := c14.trans (st15 _ (Steps.refl _))
  have ap := apart (Or.inr ⟨_, (wk W (.laysFinal "java/lang/String" "java/lang/String" "value" "[B"))⟩) (Or.inr ⟨_, (wk W (.laysFinal "java/lang/String" "java/lang/String" "coder" "B"))⟩) f1 f2 (t₁ := .array .byte) (t₂ := .byte) (by decide +kernel) (by decide +kernel) (by decide)
  have al := X8.warmed.alike.symm.trans X15.warmed.alike
  have n7 : T11.heap[s.heap.size]? = some N := by rw [q11]; exact n1.1
  exact ⟨T15, none, _, _, _, X15, by simp, rfl, by omega, (fun _ => rfl), ⟨rfl, _, N, bl15, ((Same.refl D _).set _ (by simp)).set _ (by simp), sl15, (Cell.slots_setSlot_ne _ ap).trans sl13, n1.keep al (p15.other hne (p13.other hne n7)), n2, by rw [al.findClass]; exact n3, n4, n5, fun y c h1 h2 => p15.other h1 (p13.other h1 (by rw [q11]; exact n6 y c h2)), by rw [p15.2.2, p13.2.2, q11]; exact z8⟩, fun fs hl => c16.trans (X15.returnOut hexec hret (hb hbytes d57) hl)⟩
end New4
namespace New1
def yN : MethodName := ⟨"java/lang/String", "<init>", "([C)V"⟩
abbrev yB : ByteArray := jdk_42_method_3_code
theorem d0 : decode yB 0 = .ok (.aload_n 0, 1) := by decide +kernel
theorem d1 : decode yB 1 = .ok (.aload_n 1, 1) := by decide +kernel
theorem d2 : decode yB 2 = .ok (.iconst 0, 1) := by decide +kernel
theorem d3 : decode yB 3 = .ok (.aload_n 1, 1) := by decide +kernel
theorem d4 : decode yB 4 = .ok (.arraylength, 1) := by decide +kernel
theorem d5 : decode yB 5 = .ok (.aconst_null, 1) := by decide +kernel
theorem d6 : decode yB 6 = .ok (.invokespecial 27, 3) := by decide +kernel
theorem d9 : decode yB 9 = .ok (.return_, 1) := by decide +kernel
def site : List Cond := [New4.tab] ++ initW "java/lang/String" 27 New4.yN
def tab : Cond := tabOf yN yB 2 none site
def P (a : Addr) (D : Cell) (fV fC : Field) (b : Addr) (A : Cell) (z : Int32) (args : Array Value) (s : State) : Prop := args = #[.ref a, .ref b] ∧ Blank "java/lang/String" a D s ∧ Found "java/lang/String" "value" "[B" fV s ∧ Found "java/lang/String" "coder" "B" fC s ∧ Ch b A s ∧ StaticIs s "java/lang/String" "COMPACT_STRINGS" "Z" (.int z) ∧ ¬ z = 0 ∧ 0 < A.slots.size ∧ A.slots.size ≤ 536870912 ∧ ∀ i, i < A.slots.size → ¬ 255 < cv A i
def E (a : Addr) (D : Cell) (fV fC : Field) (A : Cell) (r : Option Value) (s u : State) : Prop := Got a D fV fC A 0 A.slots.size r s u
/-- new String(chars), not empty, no char above 255: a Latin-1 String of their low bytes -/
theorem law (l : Launch) (a : Addr) (D : Cell) (fV fC : Field) (b : Addr) (A : Cell) (z : Int32) : Law l yN 2 1 3 52 yB 2 none site (P a D fV fC b A z) (E a D fV fC A) [⟨a, fC.slot⟩, ⟨a, fV.slot⟩] 1 A.slots.size := by
  refine Law.of_walk (plainFor_of_name (by decide +kernel)) (by decide +kernel) (by decide +kernel) (by decide) (fun _ _ h => by rw [h.1]; rfl) (fun _ U U' hal hh h => ⟨h.1, h.2.1.mv hal hh, h.2.2.1.al hal, h.2.2.2.1.al hal, h.2.2.2.2.1.mv hal hh, h.2.2.2.2.2.1.there hal hh, h.2.2.2.2.2.2⟩) (fun r U U' V V' h1 hal h2 h => Got.mv r U U' V V' h1 hal h2 h) ?_
  intro p e s m args below meth c s₁ X0 hexec hbytes hml hret hlk hnm hown hh0 W hP
  obtain ⟨rfl, hB, f1, f2, hA, s1, hz, l0, l2, hp⟩ := hP
  have c1 : Steps p.tables e below (s₁.setTop (entryFrame m #[.ref a, .ref b] 2)) (s₁.setTop (mkF m 0 #[.val (.ref a), .val (.ref b)] [])) := entry rfl
  have c2 : Steps p.tables e below (s₁.setTop (entryFrame m #[.ref a, .ref b] 2)) (s₁.setTop (mkF m 6 #[.val (.ref a), .val (.ref b)] [.null, .int (Int32.ofNat A.slots.size), .int 0, .ref b, .ref a])) := c1.trans (by
    refine XS.aloadN X0.here hexec rfl (hb hbytes d0) rfl rfl ?_
    refine XS.aloadN X0.here hexec rfl (hb hbytes d1) rfl rfl ?_
    refine iconstV X0.here hexec rfl 0 (hb hbytes d2) (by decide) ?_
    refine XS.aloadN X0.here hexec rfl (hb hbytes d3) rfl rfl ?_
    refine X0.alen hexec (hA.1.mv X0.warmed.alike hh0) rfl rfl (hb hbytes d4) ?_
    refine XS.aconstNull X0.here hexec rfl (hb hbytes d5) ?_
    exact Steps.refl _)
  obtain ⟨v3, T3, X3, E3, g3⟩ := X0.callN hexec (New4.law l a D fV fC b A z 0 A.slots.size) rfl hown (wks W (initW "java/lang/String" 27 New4.yN)) (W New4.tab (by simp only [site, List.mem_cons, List.mem_append, true_or, or_true])) (W := 0) (Nat.le_of_ble_eq_true rfl) (Nat.le_of_ble_eq_true rfl) (Nat.le_refl _) (by show 0 + A.slots.size ≤ A.slots.size; omega) (g := (mkF m 6 #[.val (.ref a), .val (.ref b)] [.null, .int (Int32.ofNat A.slots.size), .int (Int32.ofNat 0), .ref b, .ref a])) rfl (by rw [hml]; rfl) c2 (argsL := [.ref b, .int (Int32.ofNat 0), .int (Int32.ofNat A.slots.size), .null]) (rest := []) rfl rfl (by show 2 * 0 + 0 ≤ _; decide) (hb hbytes d6) (⟨rfl, hB.mv X0.warmed.alike hh0, f1.al X0.warmed.alike, f2.al X0.warmed.alike, hA.mv X0.warmed.alike hh0, s1.there X0.warmed.alike hh0, hz, l0, by omega, l2, fun i hi => by rw [Nat.zero_add]; exact hp i hi⟩)
  have e0 := Got.mv _ s₁ s _ _ hh0.symm (Vm.Alike.refl _) rfl E3
  obtain rfl := e0.1
  have c4 : Steps p.tables e below (s₁.setTop (entryFrame m #[.ref a, .ref b] 2)) (T3.setTop (mkF m 9 #[.val (.ref a), .val (.ref b)] [])) := g3
  exact ⟨T3, none, _, _, _, X3, by simp, rfl, by omega, (fun _ => rfl), e0, fun fs hl => c4.trans (X3.returnOut hexec hret (hb hbytes d9) hl)⟩
theorem pays {l : Launch} {R : Room} {p : Program} {e : Env} {below : List Frame} {s : State} {sargs : Array Value} {len W : Nat} (a : Addr) (D : Cell) (fV fC : Field) (b : Addr) (A : Cell) (z : Int32) (htab : tab.before sargs s = true) (hfr : 4 ≤ R.frames) (hlo : W + 65 ≤ R.locals) :
    Back l R p e below s sargs yN len W (fun A₁ a₁ => A₁.cells + 1 ≤ R.cells ∧ A₁.slots + A.slots.size ≤ R.slots ∧ P a D fV fC b A z a₁ A₁.U) (fun A₁ _ v₁ B₁ => E a D fV fC A v₁ A₁.U B₁.U ∧ B₁.locs = A₁.locs ++ [⟨a, fC.slot⟩, ⟨a, fV.slot⟩] ∧ B₁.cells = A₁.cells + 1 ∧ B₁.slots = A₁.slots + A.slots.size) :=
  (law l a D fV fC b A z).pays htab hfr (by omega)
end New1
/-- the byte, read back as charAt reads it, is the char -/
theorem lo8_mask {x : Int32} (h0 : ¬ x < 0) (h1 : ¬ 255 < x) : lo8 x &&& 255 = x := by
  have t : ∀ k : Fin 256, lo8 (Int32.ofNat k.val) &&& 255 = Int32.ofNat k.val := by decide +kernel
  rw [Int32.lt_iff_toInt_lt] at h0 h1
  have e0 : (0 : Int32).toInt = 0 := rfl
  have e1 : (255 : Int32).toInt = 255 := rfl
  obtain ⟨k, hk⟩ : ∃ k : Nat, x.toInt = k := ⟨x.toInt.toNat, by omega⟩
  have hx : x = Int32.ofNat k := Int32.toInt_inj.mp (by rw [hk, Int32.toInt_ofNat_small (by omega)])
  rw [hx]
  exact t ⟨k, by omega⟩
end StrChars
namespace StrChars.Road
open Jvm Sem ClassFile Op Lib Jvm.Stand Jvm.Free Jvm.Free.XT
open Jvm.Lib.Cold (StaticIs)
abbrev ST : String := "java/lang/String"
/-- every table word that New1's law asks, flat -/
abbrev words : List Jvm.Cond := [.code New1.yN New1.yB 2 none, .initialized ST, .methodLink ST 27 New4.yN, .instanceMethod New4.yN,
  .code New4.yN New4.yB 6 none, .fieldLink ST 38 ST "COMPACT_STRINGS" "Z", .laysFinal ST ST "value" "[B", .fieldLink ST 9 ST "value" "[B", .laysFinal ST ST "coder" "B", .fieldLink ST 15 ST "coder" "B",
  .methodLink ST 1 Lib.objectInit, .instanceMethod Lib.objectInit, .code Lib.objectInit ⟨#[0xb1]⟩ 1 none, .methodLink ST 177 Cmp3.yN, .static Cmp3.yN, .methodLink ST 47 CodL.yN, .static CodL.yN,
  .code Cmp3.yN Cmp3.yB 6 (some (.array .byte)), .initialized U16, .arrayClass .byte, .methodLink U16 115 Cmp5.yN, .static Cmp5.yN, .code Cmp5.yN Cmp5.yB 7 (some .int), .code CodL.yN CodL.yB 2 (some .byte)]
theorem tab_of {a : Array Value} {s : State} (h : ∀ w ∈ words, w.before a s = true) : New1.tab.before a s = true := by
  have h5 : Cmp5.tab.before a s = true := unparts (wk h (.code Cmp5.yN Cmp5.yB 7 (some .int))) (wks h (.initialized Cmp5.yN.cls :: Cmp5.site))
  have hc : CodL.tab.before a s = true := unparts (wk h (.code CodL.yN CodL.yB 2 (some .byte))) (wks h (.initialized CodL.yN.cls :: CodL.site))
  have q5 : ∀ w ∈ Cmp5.tab :: words, w.before a s = true := fun w hw => (List.mem_cons.mp hw).elim (fun e => e ▸ h5) (h w)
  have h3 : Cmp3.tab.before a s = true := unparts (wk q5 (.code Cmp3.yN Cmp3.yB 6 (some (.array .byte)))) (wks q5 (.initialized Cmp3.yN.cls :: Cmp3.site))
  have q3 : ∀ w ∈ Cmp3.tab :: CodL.tab :: words, w.before a s = true := fun w hw => (List.mem_cons.mp hw).elim (fun e => e ▸ h3) fun hw => (List.mem_cons.mp hw).elim (fun e => e ▸ hc) (h w)
  have h4 : New4.tab.before a s = true := unparts (wk q3 (.code New4.yN New4.yB 6 none)) (wks q3 (.initialized New4.yN.cls :: New4.site))
  have q4 : ∀ w ∈ New4.tab :: words, w.before a s = true := fun w hw => (List.mem_cons.mp hw).elim (fun e => e ▸ h4) (h w)
  exact unparts (wk q4 (.code New1.yN New1.yB 2 none)) (wks q4 (.initialized New1.yN.cls :: New1.site))
/-- the words ride from the start Z to the walk's own state -/
theorem moved {Z s : State} {a0 args : Array Value} (hZ : Z.Warmed39 s.vm) (hw : ∀ d ∈ words, d.before a0 Z = true) : ∀ d ∈ words, d.before args s = true := fun d hd => by
  have q := hw d hd
  have t : ∀ d ∈ words, d = .arrayClass .byte ∨ (d.onTables && d.keepsFace) = true := by decide +kernel
  rcases t d hd with rfl | t
  · exact RoadKit.mvA hZ q
  · exact RoadKit.mv hZ q t
/-- WHAT COMES BACK, over the tables of the start Z: h the heap at the call, h' behind it -/
def Q (Z : State) (x : Addr) (A : Cell) (h : Heap) (v : Option Value) (h' : Heap) (L : List Loc) : Prop := v = none ∧ (∀ y ∈ L, y.base = x) ∧ RoadKit.Keep h h' [x] ∧ h'.size = h.size + 1 ∧ RoadKit.Exa Z h' x ST ∧ RoadKit.Fld Z h' x ST "value" "[B" (.ref h.size) ∧ RoadKit.Fld Z h' x ST "coder" "B" (.int 0) ∧
  (∃ V : Cell, RoadKit.Arr Z h' h.size V .byte ∧ V.vm = .none ∧ Z.vm.findClass "[B" = some V.cls ∧ V.slots.size = A.slots.size ∧ ∀ j, j < A.slots.size → V.slots[j]? = some (.int (lo8 (cv A j)))) ∧
  ∀ (O n d : String) (w : Value), RoadKit.Fld Z h x O n d w → RoadKit.slotOf Z O n d ≠ RoadKit.slotOf Z ST "value" "[B" → RoadKit.slotOf Z O n d ≠ RoadKit.slotOf Z ST "coder" "B" → RoadKit.Fld Z h' x O n d w
/-- **new String(chars) AT A CALL, IN THE ROAD'S FORM**: for specialBack behind newO: x the fresh String, b the char[] with the cell A -/
theorem back {p : Program} {l : Launch} {e : Env} {R : Room} {s : State} {args : Array Value} {below : List Frame} {len W : Nat} {Z : State} {a0 : Array Value} {h : Heap} (hZ : Z.Warmed39 s.vm) (hw : ∀ d ∈ words, d.before a0 Z = true) {kI : Nat} (wi : (Jvm.Cond.instantiable ST kI).before a0 Z = true)
    {x b : Addr} {A : Cell} {z : Int32} {v0 c0 : Value} (E : RoadKit.Exa Z h x ST) (V : RoadKit.Fld Z h x ST "value" "[B" v0) (C : RoadKit.Fld Z h x ST "coder" "B" c0) (K : RoadKit.Arr Z h b A .char) (hty : Typed .char A) (S : RoadKit.Sta Z h ST "COMPACT_STRINGS" "Z" (.int z)) (hz : ¬ z = 0)
    (l0 : 0 < A.slots.size) (l2 : A.slots.size ≤ 536870912) (hp : ∀ i, i < A.slots.size → ¬ 255 < cv A i) (hfr : 4 ≤ R.frames) (hlo : W + 65 ≤ R.locals) :
    Back l R p e below s args New1.yN len W (fun P a => a = #[.ref x, .ref b] ∧ P.U.heap = h ∧ P.cells + 1 ≤ R.cells ∧ P.slots + A.slots.size ≤ R.slots)
      (fun P _ v B => ∃ L, Q Z x A h v B.U.heap L ∧ B.locs = P.locs ++ L ∧ B.cells = P.cells + 1 ∧ B.slots = P.slots + A.slots.size) := by
  intro m meth c P g ig mk a X hg hsize hdg hW hn hp'
  obtain ⟨rfl, rfl, r1, r2⟩ := hp'
  have al : Z.vm.Alike P.U.vm := hZ.alike.trans X.warmed.alike
  obtain ⟨D, cfV, kV, iV, fV, hD, gV, stV, knV, obV, asV, slV⟩ := id V
  obtain ⟨D', cfC, kC, iC, fC, hD', gC, stC, -, -, asC, slC⟩ := id C
  cases hD.symm.trans hD'
  obtain ⟨D2, kD, e1, e2, e3, e4, e5⟩ := id E
  cases hD.symm.trans e1
  obtain ⟨c2, k2, i1, i2, i3, -⟩ := Cond.instantiable_spec wi
  cases e2.symm.trans i1
  cases e3.symm.trans i2
  obtain ⟨kU, u1, u2⟩ := al.2.2 _ _ e3
  have hB : Blank ST x D P.U := ⟨hD, ⟨knV, fun q hq => by rw [hq] at obV; cases obV⟩, by rw [al.findClass]; exact e2, kU, u1, by rw [u2]; exact i3, by rw [u2]; exact e5 i3⟩
  have F1 : Found ST "value" "[B" fV P.U := ⟨SBG.found_only al ⟨cfV, kV, iV, gV⟩, stV⟩
  have F2 : Found ST "coder" "B" fC P.U := ⟨SBG.found_only al ⟨cfC, kC, iC, gC⟩, stC⟩
  have hA : Ch b A P.U := ⟨⟨K.1, State.isArrayOf_alike al K.2.1, K.2.2, by omega⟩, hty⟩
  have hS : StaticIs P.U ST "COMPACT_STRINGS" "Z" (.int z) := by
    obtain ⟨cfS, iS, kS, fS, st, cS, t1, t2, t3, t4, t5, t6, t7⟩ := S
    exact StaticIs.there (s := { Z with heap := P.U.heap }) ⟨cfS, iS, kS, fS, st, cS, t1, t2, t3, t4, t5, (fun q => by rw [q] at t6; cases t6), t7⟩ al rfl
  obtain ⟨v, B, X', ⟨⟨hv, E', V', q1, q2, q3, q4, q5, q6, q7, q8, q9, q10, q11⟩, hl, hc, hs⟩, st⟩ := New1.pays x D fV fC b A z (tab_of (moved hZ hw)) hfr hlo m meth c P g ig mk _ X hg hsize hdg hW hn ⟨r1, r2, rfl, hB, F1, F2, hA, hS, hz, l0, l2, hp⟩
  have al' : Z.vm.Alike B.U.vm := hZ.alike.trans X'.warmed.alike
  have hsz : E'.slots.size = D.slots.size := by
    obtain ⟨-, -, -, kB, w1, w2, w3⟩ := q1
    obtain ⟨kB', y1, y2⟩ := al'.2.2 _ _ e3
    rw [q2.2.1] at w1
    cases w1.symm.trans y1
    rw [w3, e5 i3, y2]
  refine ⟨v, B, X', ⟨_, ⟨hv, ?_, ⟨by omega, fun y cy hy hn' => q10 y cy (by simpa using hn') hy, fun y cy hy => ?_⟩, q11, ⟨E', _, q1.1, by rw [q2.2.1]; exact e2, by rw [q2.2.1]; exact e3, by rw [q2.1]; exact obV, fun _ => by rw [hsz]; exact e5 i3⟩,
    ⟨E', cfV, kV, iV, fV, q1.1, gV, stV, by rw [q2.1]; exact knV, by rw [q2.1]; exact obV, by rw [q2.2.1]; exact asV, q3⟩, ⟨E', cfC, kC, iC, fC, q1.1, gC, stC, by rw [q2.1]; exact knV, by rw [q2.1]; exact obV, by rw [q2.2.1]; exact asC, q4⟩,
    ⟨V', ⟨q5.1, State.isArrayOf_alike al'.symm q5.2.1, q5.2.2.1⟩, q6, by rw [← al'.findClass]; exact q7, q8, fun j hj => by have := q9 j hj; rwa [Nat.zero_add] at this⟩, fun O n d w F n1 n2 => ?_⟩, hl, hc, hs⟩, st⟩
  · intro y hy
    simp only [List.mem_cons, List.not_mem_nil, or_false] at hy
    rcases hy with rfl | rfl <;> rfl
  · by_cases q : y = x
    · subst q
      cases hD.symm.trans hy
      exact ⟨E', q1.1, q2.2.1, q2.1, hsz⟩
    · exact ⟨cy, q10 y cy q hy, rfl, rfl, rfl⟩
  · obtain ⟨D3, cf, k, i, f, g1, g2, g3, g4, g5, g6, g7⟩ := F
    cases hD.symm.trans g1
    simp only [RoadKit.slotOf, g2, gV, gC, Option.map_some, Option.getD_some] at n1 n2
    exact ⟨E', cf, k, i, f, q1.1, g2, g3, by rw [q2.1]; exact g4, by rw [q2.1]; exact g5, by rw [q2.2.1]; exact g6, by rw [q2.2.2 f.slot (by simp [n1, n2])]; exact g7⟩
end StrChars.Road
namespace StrChars.Road
open Jvm Sem ClassFile Op Lib Jvm.Stand Jvm.Free Jvm.Free.XT
/-- WHAT COMES BACK, the byte[] as a list of values -/
def QA (Z : State) (x : Addr) (zn : Int32) (cs : List Int32) (h : Heap) (v : Option Value) (h' : Heap) (L : List Loc) : Prop := v = none ∧ (∀ y ∈ L, y.base = x) ∧ RoadKit.Keep h h' [x] ∧ h'.size = h.size + 1 ∧ RoadKit.Exa Z h' x ST ∧ RoadKit.Fld Z h' x ST "value" "[B" (.ref h.size) ∧ RoadKit.Fld Z h' x ST "coder" "B" (.int 0) ∧
  (∃ kb, Z.vm.findClass "[B" = some kb ∧ RoadKit.Arv Z h' h.size kb .byte zn (cs.map fun c => .int (lo8 c)) (.int 0)) ∧
  ∀ (O n d : String) (w : Value), RoadKit.Fld Z h x O n d w → RoadKit.slotOf Z O n d ≠ RoadKit.slotOf Z ST "value" "[B" → RoadKit.slotOf Z O n d ≠ RoadKit.slotOf Z ST "coder" "B" → RoadKit.Fld Z h' x O n d w
/-- **new String(chars) AT A CALL, THE ARRAYS AS LISTS**: the char[] at b holds cs, not empty, no char above 255 -/
theorem backArv {p : Program} {l : Launch} {e : Env} {R : Room} {s : State} {args : Array Value} {below : List Frame} {len W : Nat} {Z : State} {a0 : Array Value} {h : Heap} (hZ : Z.Warmed39 s.vm) (hw : ∀ d ∈ words, d.before a0 Z = true) {kI : Nat} (wi : (Jvm.Cond.instantiable ST kI).before a0 Z = true)
    {x b : Addr} {k : ClassId} {zn z : Int32} {cs : List Int32} {dv v0 c0 : Value} (E : RoadKit.Exa Z h x ST) (V : RoadKit.Fld Z h x ST "value" "[B" v0) (C : RoadKit.Fld Z h x ST "coder" "B" c0) (K : RoadKit.Arv Z h b k .char zn (cs.map Value.int) dv) (S : RoadKit.Sta Z h ST "COMPACT_STRINGS" "Z" (.int z)) (hz : ¬ z = 0)
    (hlen : zn.toNatClampNeg = cs.length) (h0 : 0 < cs.length) (hbig : cs.length ≤ 536870912) (hall : ∀ c ∈ cs, ¬ 255 < c) (hfr : 4 ≤ R.frames) (hlo : W + 65 ≤ R.locals) :
    Back l R p e below s args New1.yN len W (fun P a => a = #[.ref x, .ref b] ∧ P.U.heap = h ∧ P.cells + 1 ≤ R.cells ∧ P.slots + cs.length ≤ R.slots)
      (fun P _ v B => ∃ L, QA Z x zn cs h v B.U.heap L ∧ B.locs = P.locs ++ L ∧ B.cells = P.cells + 1 ∧ B.slots = P.slots + cs.length) := by
  obtain ⟨A, K1, K2, K3, K4, K5, K6⟩ := K
  have e : A.slots.size = cs.length := K3.trans hlen
  have hat : ∀ (i : Nat) (hi : i < cs.length), A.slots[i]? = some (.int cs[i]) := fun i hi => by rw [K5 i (by omega)]; simp [List.getD_eq_getElem?_getD, hi]
  have hcv : ∀ (i : Nat) (hi : i < cs.length), cv A i = cs[i] := fun i hi => by unfold cv; rw [hat i hi]
  have hty : Typed .char A := fun i v hv => by
    have hi : i < A.slots.size := (Array.getElem?_eq_some_iff.mp hv).1
    have q := K5 i hi
    rw [hv] at q
    rw [Option.some.inj q]
    exact K6 i hi
  refine Back.mono (back hZ hw wi E V C K1 hty S hz (by omega) (by omega) (fun i hi => by rw [hcv i (by omega)]; exact hall _ (List.getElem_mem _)) hfr hlo) (fun P a hp => ⟨hp.1, hp.2.1, hp.2.2.1, by rw [e]; exact hp.2.2.2⟩) (fun P a v B hp hq => ?_)
  obtain ⟨L, ⟨q1, q2, q3, q4, q5, q6, q7, ⟨V', v1, v2, v3, v4, v5⟩, q9⟩, hl, hc, hs⟩ := hq
  refine ⟨L, ⟨q1, q2, q3, q4, q5, q6, q7, ⟨V'.cls, v3, V', v1, rfl, by rw [v4, e, hlen], K4, fun i hi => ?_, fun i hi => ?_⟩, q9⟩, hl, hc, by rw [hs, e]⟩
  · have hi' : i < cs.length := by omega
    rw [v5 i (by omega), hcv i hi']; simp [List.getD_eq_getElem?_getD, hi']
  · have hi' : i < cs.length := by omega
    simp only [List.getD_eq_getElem?_getD, List.getElem?_map, List.getElem?_eq_getElem hi', Option.map_some, Option.getD_some]
    exact fits_lo8 _
end StrChars.Road
namespace StrChars.Road
open Jvm Sem ClassFile Op Lib Jvm.Stand Jvm.Free Jvm.Free.XT
/-- WHAT COMES BACK, in the writer's own shape -/
def QV (Z : State) (x : Addr) (N : Int32) (bs : List Int32) (h : Heap) (n0 : Nat) (v : Option Value) (h' : Heap) (L : List Loc) : Prop := v = none ∧ RoadKit.Fr n0 L ∧ RoadKit.Keep h h' [x] ∧ RoadKit.Exa Z h' x ST ∧ RoadKit.Fld Z h' x ST "coder" "B" (.int 0) ∧
  ∃ (t : Addr) (kb : ClassId), n0 ≤ t ∧ h.size ≤ t ∧ ¬ t = x ∧ RoadKit.Fld Z h' x ST "value" "[B" (.ref t) ∧ RoadKit.Arv Z h' t kb .byte N (bs.map Value.int) (.int 0)
/-- **new String(chars) AT A CALL, FOR THE WRITER**: a char[] of n known ints, each 0 to 255 -/
theorem backV {p : Program} {l : Launch} {e : Env} {R : Room} {s : State} {args : Array Value} {below : List Frame} {len W : Nat} {Z : State} {a0 : Array Value} {h : Heap} (hZ : Z.Warmed39 s.vm) (hw : ∀ d ∈ words, d.before a0 Z = true) {kI : Nat} (wi : (Jvm.Cond.instantiable ST kI).before a0 Z = true)
    {x b : Addr} {kC : ClassId} {cs bs : List Int32} {d v0 c0 : Value} {z N : Int32} {n n0 : Nat} (hx0 : n0 ≤ x) (hh0 : n0 ≤ h.size) (E : RoadKit.Exa Z h x ST) (V : RoadKit.Fld Z h x ST "value" "[B" v0) (C : RoadKit.Fld Z h x ST "coder" "B" c0) (K : RoadKit.Arv Z h b kC .char N (cs.map Value.int) d) (S : RoadKit.Sta Z h ST "COMPACT_STRINGS" "Z" (.int z)) (hz : ¬ z = 0)
    (hn : cs.length = n) (hN : N = Int32.ofNat n) (l0 : 0 < n) (l2 : n ≤ 4000) (hp : ∀ c ∈ cs, ¬ c < 0 ∧ ¬ (255 : Int32) < c) (hb : bs = cs.map (fun c => c.toInt8.toInt32)) (hfr : 4 ≤ R.frames) (hlo : W + 65 ≤ R.locals) :
    Back l R p e below s args (⟨"java/lang/String", "<init>", "([C)V"⟩ : MethodName) len W (fun P a => a = #[.ref x, .ref b] ∧ P.U.heap = h ∧ P.cells + 1 ≤ R.cells ∧ P.slots + n ≤ R.slots)
      (fun P _ v B => ∃ L, QV Z x N bs h n0 v B.U.heap L ∧ B.locs = P.locs ++ L ∧ B.cells = P.cells + 1 ∧ B.slots = P.slots + n) := by
  subst hn hN hb
  refine Back.mono (backArv hZ hw wi E V C K S hz (n32 (by omega)) l0 (by omega) (fun c hc => (hp c hc).2) hfr hlo) (fun P a hp => hp) (fun P a v B hp hq => ?_)
  obtain ⟨L, ⟨q1, q2, q3, q4, q5, q6, q7, ⟨kb, v1, v2⟩, q9⟩, hl, hc, hs⟩ := hq
  exact ⟨L, ⟨q1, fun y hy => by rw [q2 y hy]; exact hx0, q3, q5, q7, h.size, kb, hh0, Nat.le_refl _, Nat.ne_of_gt E.lt, q6, by rw [List.map_map]; exact v2⟩, hl, hc, hs⟩
end StrChars.Road
namespace StrChars
open Jvm Sem ClassFile Op Lib Jvm.Stand Jvm.Free.XT Jvm.Free.ALB Jvm.Free.JM Jvm.Free
open Jvm.Lib.Cold (StaticIs)
def hi8 (x : Int32) : Int32 := lo8 (x >>> ((8 : Int32) &&& 31))
/-- what StringUTF16.getChar makes of two bytes -/
def pairCh (u v : Int32) : Int32 := (((u &&& 255) <<< ((0 : Int32) &&& 31)) ||| ((v &&& 255) <<< ((8 : Int32) &&& 31))).toUInt32.toUInt16.toUInt32.toInt32
theorem shr0 (c : Int32) : c >>> ((0 : Int32) &&& 31) = c := by
  have e : ((0 : Int32) &&& 31) = 0 := by decide
  rw [e]
  apply Int32.toBitVec_inj.mp
  rw [Int32.toBitVec_shiftRight]
  have e1 : ((0 : Int32).toBitVec.smod 32) = 0#32 := by decide
  rw [e1, BitVec.sshiftRight_eq']
  exact BitVec.sshiftRight_zero
theorem lo8_and (x : Int32) : (lo8 x &&& 255).toBitVec.toNat = x.toBitVec.toNat % 256 := by
  have h : (lo8 x).toBitVec = (x.toBitVec.signExtend 8).signExtend 32 := by rw [lo8, Int8.toBitVec_toInt32, Int32.toBitVec_toInt8]
  rw [Int32.toBitVec_and, BitVec.toNat_and, h]
  have e : ((x.toBitVec.signExtend 8).signExtend 32).toNat % 256 = x.toBitVec.toNat % 256 := by
    rw [BitVec.toNat_signExtend]
    have hlt := x.toBitVec.isLt
    simp only [BitVec.toNat_setWidth, BitVec.toNat_signExtend]
    split <;> split <;> omega
  rw [← e]
  exact Nat.and_two_pow_sub_one_eq_mod _ 8
theorem pair_says {c : Int32} (h0 : ¬ c < 0) (h1 : ¬ 65535 < c) : pairCh (lo8 c) (hi8 c) = c := by
  rw [Int32.lt_iff_toInt_lt] at h0 h1
  have e0 : (0 : Int32).toInt = 0 := rfl
  have e1 : (65535 : Int32).toInt = 65535 := rfl
  have hc : c.toInt = c.toBitVec.toNat := by
    have := c.toBitVec.isLt
    have e : c.toInt = c.toBitVec.toInt := rfl
    rw [e] at h0 h1
    rw [e]
    rw [BitVec.toInt_eq_toNat_cond] at h0 h1 ⊢
    split at h0 <;> split <;> omega
  have hn : c.toBitVec.toNat < 65536 := by omega
  have a1 := lo8_and c
  have a2 : (hi8 c &&& 255).toBitVec.toNat = c.toBitVec.toNat / 256 := by
    rw [hi8, lo8_and]
    have e : ((8 : Int32) &&& 31) = 8 := by decide
    rw [e, Int32.toBitVec_shiftRight]
    have e2 : ((8 : Int32).toBitVec.smod 32) = 8#32 := by decide
    rw [e2, BitVec.sshiftRight_eq', BitVec.toNat_sshiftRight_of_msb_false (by rw [BitVec.msb_eq_false_iff_two_mul_lt]; omega)]
    show c.toBitVec.toNat >>> 8 % 256 = _
    rw [Nat.shiftRight_eq_div_pow]
    omega
  unfold pairCh
  apply Int32.toBitVec_inj.mp
  apply BitVec.eq_of_toNat_eq
  have f0 : ((0 : Int32) &&& 31) = 0 := by decide
  have f8 : ((8 : Int32) &&& 31) = 8 := by decide
  rw [f0, f8]
  have g : (((lo8 c &&& 255) <<< (0 : Int32)) ||| ((hi8 c &&& 255) <<< (8 : Int32))).toBitVec.toNat = c.toBitVec.toNat := by
    rw [Int32.toBitVec_or, Int32.toBitVec_shiftLeft, Int32.toBitVec_shiftLeft]
    have s0 : ((0 : Int32).toBitVec.smod 32) = 0#32 := by decide
    have s8 : ((8 : Int32).toBitVec.smod 32) = 8#32 := by decide
    rw [s0, s8, BitVec.toNat_or]
    simp only [BitVec.shiftLeft_eq', BitVec.toNat_shiftLeft, a1, a2]
    show (c.toBitVec.toNat % 256) <<< 0 % 2 ^ 32 ||| (c.toBitVec.toNat / 256) <<< 8 % 2 ^ 32 = _
    rw [Nat.shiftLeft_zero, Nat.mod_eq_of_lt (show c.toBitVec.toNat % 256 < 2 ^ 32 by omega), Nat.mod_eq_of_lt (show (c.toBitVec.toNat / 256) <<< 8 < 2 ^ 32 by rw [Nat.shiftLeft_eq]; omega), Nat.or_comm, ← Nat.shiftLeft_add_eq_or_of_lt (by omega), Nat.shiftLeft_eq]
    omega
  show BitVec.toNat (((((lo8 c &&& 255) <<< (0 : Int32)) ||| ((hi8 c &&& 255) <<< (8 : Int32))).toBitVec.setWidth 16).setWidth 32) = _
  rw [BitVec.toNat_setWidth, BitVec.toNat_setWidth, g]
  omega
end StrChars
namespace StrChars
open Jvm Sem ClassFile Op Lib Jvm.Stand Jvm.Free.XT Jvm.Free.ALB Jvm.Free.JM Jvm.Free
open Jvm.Lib.Cold (StaticIs)
theorem shr1 {n : Nat} (h : 2 * n < 2 ^ 31) : Int32.ofNat (2 * n) >>> ((1 : Int32) &&& 31) = Int32.ofNat n := by
  have e : ((1 : Int32) &&& 31) = 1 := by decide
  rw [e]
  apply Int32.toBitVec_inj.mp
  rw [Int32.toBitVec_shiftRight]
  have e1 : ((1 : Int32).toBitVec.smod 32) = 1#32 := by decide
  have hm : (BitVec.ofNat 32 (2 * n)).toNat = 2 * n := by rw [BitVec.toNat_ofNat, Nat.mod_eq_of_lt (by omega)]
  rw [e1, BitVec.sshiftRight_eq']
  apply BitVec.eq_of_toNat_eq
  show ((BitVec.ofNat 32 (2 * n)).sshiftRight 1).toNat = (BitVec.ofNat 32 n).toNat
  rw [BitVec.toNat_sshiftRight_of_msb_false (by rw [BitVec.msb_eq_false_iff_two_mul_lt, hm]; omega), hm, BitVec.toNat_ofNat, Nat.shiftRight_eq_div_pow]
  omega
/-- charAt's cast of a byte read back -/
def chr8 (u : Int32) : Int32 := (u &&& 255).toUInt32.toUInt16.toUInt32.toInt32
theorem chr8_lo8 {c : Int32} (h0 : ¬ c < 0) (h1 : ¬ 255 < c) : chr8 (lo8 c) = c := by
  have t : ∀ k : Fin 256, (Int32.ofNat k.val).toUInt32.toUInt16.toUInt32.toInt32 = Int32.ofNat k.val := by decide +kernel
  unfold chr8
  rw [lo8_mask h0 h1]
  rw [Int32.lt_iff_toInt_lt] at h0 h1
  have e0 : (0 : Int32).toInt = 0 := rfl
  have e1 : (255 : Int32).toInt = 255 := rfl
  obtain ⟨k, hk⟩ : ∃ k : Nat, c.toInt = k := ⟨c.toInt.toNat, by omega⟩
  have hx : c = Int32.ofNat k := Int32.toInt_inj.mp (by rw [hk, Int32.toInt_ofNat_small (by omega)])
  rw [hx]
  exact t ⟨k, by omega⟩
theorem narrow_ch {c : Int32} (h0 : ¬ c < 0) (h1 : ¬ 65535 < c) : narrow .char (.int c) = .int c := by
  have q : narrow .char (.int (pairCh (lo8 c) (hi8 c))) = .int (pairCh (lo8 c) (hi8 c)) := narrow_c _
  rwa [pair_says h0 h1] at q
/-- the array's cell V codes the n chars f 0 .. f (n - 1) by the coder cd, as the JDK does: coder 1 just where some char is above 255 -/
def Cod (cd : Int32) (n : Nat) (f : Nat → Int32) (V : Cell) : Prop := (cd = 0 ∧ V.slots.size = n ∧ ∀ j, j < n → V.slots[j]? = some (.int (lo8 (f j))) ∧ ¬ 255 < f j) ∨ (cd = 1 ∧ V.slots.size = 2 * n ∧ (∀ j, j < n → V.slots[2 * j]? = some (.int (lo8 (f j))) ∧ V.slots[2 * j + 1]? = some (.int (hi8 (f j)))) ∧ ∃ j, j < n ∧ 255 < f j)
theorem Cod.cd {cd : Int32} {n : Nat} {f : Nat → Int32} {V : Cell} (h : Cod cd n f V) : cd = 0 ∨ cd = 1 := h.imp (fun q => q.1) fun q => q.1
theorem Cod.len {cd : Int32} {n : Nat} {f : Nat → Int32} {V : Cell} (h : Cod cd n f V) (hs : V.slots.size < 2 ^ 31) : Int32.ofNat V.slots.size >>> (cd &&& 31) = Int32.ofNat n := by
  rcases h with ⟨rfl, h, -⟩ | ⟨rfl, h, -⟩
  · rw [shr0, h]
  · rw [h, shr1 (by omega)]
/-- **x is a String of the n chars f 0 .. f (n - 1)**, Latin-1 or UTF-16; its array at t has the cell V -/
def Txt (x t : Addr) (V : Cell) (cd : Int32) (n : Nat) (f : Nat → Int32) (U : State) : Prop := Exact "java/lang/String" x U ∧ Has x "java/lang/String" "value" "[B" (.ref t) U ∧ Has x "java/lang/String" "coder" "B" (.int cd) U ∧ XT.Arr .byte t V U ∧ Cod cd n f V ∧ ∀ j, j < n → ¬ f j < 0 ∧ ¬ 65535 < f j
theorem Txt.mv {x t : Addr} {V : Cell} {cd : Int32} {n : Nat} {f : Nat → Int32} {U U' : State} (h : Txt x t V cd n f U) (hal : U.vm.Alike U'.vm) (hh : U'.heap = U.heap) : Txt x t V cd n f U' := ⟨h.1.mv hal hh, h.2.1.mv hal hh, h.2.2.1.mv hal hh, h.2.2.2.1.mv hal hh, h.2.2.2.2⟩
namespace Cdr
def yN : MethodName := ⟨"java/lang/String", "coder", "()B"⟩
abbrev yB : ByteArray := jdk_42_method_152_code
theorem d0 : decode yB 0 = .ok (.getstatic 38, 3) := by decide +kernel
theorem d3 : decode yB 3 = .ok (.ifCond (.eq) 10, 3) := by decide +kernel
theorem d6 : decode yB 6 = .ok (.aload_n 0, 1) := by decide +kernel
theorem d7 : decode yB 7 = .ok (.getfield 15, 3) := by decide +kernel
theorem d10 : decode yB 10 = .ok (.goto 4, 3) := by decide +kernel
theorem d14 : decode yB 14 = .ok (.ireturn, 1) := by decide +kernel
def site : List Cond := [.fieldLink "java/lang/String" 38 "java/lang/String" "COMPACT_STRINGS" "Z", .fieldLink "java/lang/String" 15 "java/lang/String" "coder" "B"]
def tab : Cond := tabOf yN yB 1 (some .byte) site
def P (x : Addr) (cd z : Int32) (args : Array Value) (s : State) : Prop := args = #[.ref x] ∧ Has x "java/lang/String" "coder" "B" (.int cd) s ∧ (cd = 0 ∨ cd = 1) ∧ StaticIs s "java/lang/String" "COMPACT_STRINGS" "Z" (.int z) ∧ ¬ z = 0
def E (cd : Int32) (r : Option Value) (s u : State) : Prop := XT.PureE (some (.int cd)) r s u
theorem law (l : Launch) (x : Addr) (cd z : Int32) : Law l yN 1 0 0 0 yB 1 (some .byte) site (P x cd z) (E cd) [] 0 0 := by
  refine Law.of_walk (plainFor_of_name (by decide +kernel)) (by decide +kernel) (by decide +kernel) (by decide) (fun _ _ h => by rw [h.1]; rfl) (fun _ U U' hal hh h => ⟨h.1, h.2.1.mv hal hh, h.2.2.1, h.2.2.2.1.there hal hh, h.2.2.2.2⟩) (fun r U U' V V' h1 hal h2 h => XT.PureE.mv r U U' V V' h1 hal h2 h) ?_
  intro p e s m args below meth c s₁ X0 hexec hbytes hml hret hlk hnm hown hh0 W hP
  obtain ⟨rfl, hx, hc, s1, hz⟩ := hP
  have c1 : Steps p.tables e below (s₁.setTop (entryFrame m #[.ref x] 1)) (s₁.setTop (mkF m 0 #[.val (.ref x)] [])) := entry rfl
  obtain ⟨T2, X2, q2, st2⟩ := X0.sget hexec hown (wk W (.fieldLink "java/lang/String" 38 "java/lang/String" "COMPACT_STRINGS" "Z")) s1 (fun _ _ h => by rw [hh0]; exact h) (g := (mkF m 0 #[.val (.ref x)] [])) rfl (hb hbytes d0)
  have hh2 := q2.trans hh0
  have c3 : Steps p.tables e below (s₁.setTop (entryFrame m #[.ref x] 1)) (T2.setTop (mkF m 7 #[.val (.ref x)] [.ref x])) := (c1.trans (st2 _ (Steps.refl _))).trans (by
    refine XS.ifNo X2.here hexec rfl (hb hbytes d3) rfl (i0_eq_f hz) ?_
    refine XS.aloadN X2.here hexec rfl (hb hbytes d6) rfl rfl ?_
    exact Steps.refl _)
  obtain ⟨T4, X4, q4, st4⟩ := X2.hget hexec hown (wk W (.fieldLink "java/lang/String" 15 "java/lang/String" "coder" "B")) (hx.mv X2.warmed.alike hh2) (g := (mkF m 7 #[.val (.ref x)] [.ref x])) rfl (rest := []) rfl (hb hbytes d7)
  have c5 : Steps p.tables e below (s₁.setTop (entryFrame m #[.ref x] 1)) (T4.setTop (mkF m 14 #[.val (.ref x)] [.int cd])) := (c3.trans (st4 _ (Steps.refl _))).trans (by
    refine XS.goto X4.here hexec rfl (pc0 := 10) rfl (hb hbytes d10) (by decide) rfl ?_
    exact Steps.refl _)
  exact ⟨T4, some (.int cd), _, _, _, X4, rfl, rfl, rfl, (fun h => by cases h), ⟨rfl, q4.trans hh2⟩, fun fs hl => c5.trans (X4.ireturnOut hexec hret (by rcases hc with rfl | rfl <;> rfl) (Or.inr (Or.inr (Or.inl rfl))) (hb hbytes d14) hl)⟩
end Cdr
namespace Len
def yN : MethodName := ⟨"java/lang/String", "length", "()I"⟩
abbrev yB : ByteArray := jdk_42_method_54_code
theorem d0 : decode yB 0 = .ok (.aload_n 0, 1) := by decide +kernel
theorem d1 : decode yB 1 = .ok (.getfield 9, 3) := by decide +kernel
theorem d4 : decode yB 4 = .ok (.arraylength, 1) := by decide +kernel
theorem d5 : decode yB 5 = .ok (.aload_n 0, 1) := by decide +kernel
theorem d6 : decode yB 6 = .ok (.invokevirtual 335, 3) := by decide +kernel
theorem d9 : decode yB 9 = .ok (.ishr, 1) := by decide +kernel
theorem d10 : decode yB 10 = .ok (.ireturn, 1) := by decide +kernel
def site : List Cond := [.fieldLink "java/lang/String" 9 "java/lang/String" "value" "[B", Cdr.tab] ++ virtW "java/lang/String" 335 "java/lang/String" Cdr.yN Cdr.yN
def tab : Cond := tabOf yN yB 1 (some .int) site
def P (x t : Addr) (V : Cell) (cd : Int32) (n : Nat) (f : Nat → Int32) (z : Int32) (args : Array Value) (s : State) : Prop := args = #[.ref x] ∧ Txt x t V cd n f s ∧ StaticIs s "java/lang/String" "COMPACT_STRINGS" "Z" (.int z) ∧ ¬ z = 0
def E (n : Nat) (r : Option Value) (s u : State) : Prop := XT.PureE (some (.int (Int32.ofNat n))) r s u
/-- length() of a String of n chars, in either coding -/
theorem law (l : Launch) (x t : Addr) (V : Cell) (cd : Int32) (n : Nat) (f : Nat → Int32) (z : Int32) : Law l yN 1 0 1 13 yB 1 (some .int) site (P x t V cd n f z) (E n) [] 0 0 := by
  refine Law.of_walk (plainFor_of_name (by decide +kernel)) (by decide +kernel) (by decide +kernel) (by decide) (fun _ _ h => by rw [h.1]; rfl) (fun _ U U' hal hh h => ⟨h.1, h.2.1.mv hal hh, h.2.2.1.there hal hh, h.2.2.2⟩) (fun r U U' V V' h1 hal h2 h => XT.PureE.mv r U U' V V' h1 hal h2 h) ?_
  intro p e s m args below meth c s₁ X0 hexec hbytes hml hret hlk hnm hown hh0 W hP
  obtain ⟨rfl, hx, s1, hz⟩ := hP
  have v31 := hx.2.2.2.1.2.2.2
  have c1 : Steps p.tables e below (s₁.setTop (entryFrame m #[.ref x] 1)) (s₁.setTop (mkF m 1 #[.val (.ref x)] [.ref x])) := Steps.trans (entry rfl) (by
    show Steps p.tables e below (s₁.setTop (mkF m 0 #[.val (.ref x)] [])) _
    refine XS.aloadN X0.here hexec rfl (hb hbytes d0) rfl rfl ?_
    exact Steps.refl _)
  obtain ⟨T2, X2, q2, st2⟩ := X0.hget hexec hown (wk W (.fieldLink "java/lang/String" 9 "java/lang/String" "value" "[B")) (hx.mv X0.warmed.alike hh0).2.1 (g := (mkF m 1 #[.val (.ref x)] [.ref x])) rfl (rest := []) rfl (hb hbytes d1)
  have hh2 := q2.trans hh0
  have hx2 := hx.mv X2.warmed.alike hh2
  have c3 : Steps p.tables e below (s₁.setTop (entryFrame m #[.ref x] 1)) (T2.setTop (mkF m 6 #[.val (.ref x)] [.ref x, .int (Int32.ofNat V.slots.size)])) := (c1.trans (st2 _ (Steps.refl _))).trans (by
    refine X2.alen hexec hx2.2.2.2.1 rfl rfl (hb hbytes d4) ?_
    refine XS.aloadN X2.here hexec rfl (hb hbytes d5) rfl rfl ?_
    exact Steps.refl _)
  obtain ⟨v4, T4, X4, E4, g4⟩ := X2.callV hexec (Cdr.law l x cd z) hown (wks W (virtW "java/lang/String" 335 "java/lang/String" Cdr.yN Cdr.yN)) rfl (by decide) (wk W Cdr.tab) (W := 1) (Nat.le_of_ble_eq_true rfl) (Nat.le_of_ble_eq_true rfl) (Nat.le_refl _) (Nat.le_refl _) (hx2.1.fc X2.warmed.alike) hx2.1.is (g := (mkF m 6 #[.val (.ref x)] [.ref x, .int (Int32.ofNat V.slots.size)])) rfl (by rw [hml]; rfl) c3 (argsL := []) (rest := [.int (Int32.ofNat V.slots.size)]) rfl rfl (by show 2 * 0 + (1 + 0) ≤ _; decide) (hb hbytes d6) (⟨rfl, hx2.2.2.1, hx.2.2.2.2.1.cd, s1.there X2.warmed.alike hh2, hz⟩)
  obtain ⟨rfl, q4⟩ := E4
  have c5 : Steps p.tables e below (s₁.setTop (entryFrame m #[.ref x] 1)) (T4.setTop (mkF m 10 #[.val (.ref x)] [.int (Int32.ofNat V.slots.size >>> (cd &&& 31))])) := Steps.trans g4 (by
    refine ishr X4.here hexec rfl (hb hbytes d9) rfl ?_
    exact Steps.refl _)
  rw [hx.2.2.2.2.1.len v31] at c5
  exact ⟨T4, some (.int (Int32.ofNat n)), _, _, _, X4, rfl, rfl, rfl, (fun h => by cases h), ⟨rfl, q4.trans hh2⟩, fun fs hl => c5.trans (X4.ireturnOut hexec hret rfl (Or.inl rfl) (hb hbytes d10) hl)⟩
theorem pays {l : Launch} {R : Room} {p : Program} {e : Env} {below : List Frame} {s : State} {sargs : Array Value} {len W : Nat} (x t : Addr) (V : Cell) (cd : Int32) (n : Nat) (f : Nat → Int32) (z : Int32) (htab : tab.before sargs s = true) (hfr : 2 ≤ R.frames) (hlo : W + 25 ≤ R.locals) :
    Back l R p e below s sargs yN len W (fun A₁ a₁ => A₁.cells + 0 ≤ R.cells ∧ A₁.slots + 0 ≤ R.slots ∧ P x t V cd n f z a₁ A₁.U) (fun A₁ _ v₁ B₁ => E n v₁ A₁.U B₁.U ∧ B₁.locs = A₁.locs ++ [] ∧ B₁.cells = A₁.cells + 0 ∧ B₁.slots = A₁.slots + 0) :=
  (law l x t V cd n f z).pays htab hfr (by omega)
end Len
namespace IsL
def yN : MethodName := ⟨"java/lang/String", "isLatin1", "()Z"⟩
abbrev yB : ByteArray := jdk_42_method_154_code
theorem d0 : decode yB 0 = .ok (.getstatic 38, 3) := by decide +kernel
theorem d3 : decode yB 3 = .ok (.ifCond (.eq) 14, 3) := by decide +kernel
theorem d6 : decode yB 6 = .ok (.aload_n 0, 1) := by decide +kernel
theorem d7 : decode yB 7 = .ok (.getfield 15, 3) := by decide +kernel
theorem d10 : decode yB 10 = .ok (.ifCond (.ne) 7, 3) := by decide +kernel
theorem d13 : decode yB 13 = .ok (.iconst 1, 1) := by decide +kernel
theorem d14 : decode yB 14 = .ok (.goto 4, 3) := by decide +kernel
theorem d17 : decode yB 17 = .ok (.iconst 0, 1) := by decide +kernel
theorem d18 : decode yB 18 = .ok (.ireturn, 1) := by decide +kernel
def site : List Cond := [.fieldLink "java/lang/String" 38 "java/lang/String" "COMPACT_STRINGS" "Z", .fieldLink "java/lang/String" 15 "java/lang/String" "coder" "B"]
def tab : Cond := tabOf yN yB 1 (some .boolean) site
def P (x : Addr) (cd z : Int32) (args : Array Value) (s : State) : Prop := args = #[.ref x] ∧ Has x "java/lang/String" "coder" "B" (.int cd) s ∧ (cd = 0 ∨ cd = 1) ∧ StaticIs s "java/lang/String" "COMPACT_STRINGS" "Z" (.int z) ∧ ¬ z = 0
def E (cd : Int32) (r : Option Value) (s u : State) : Prop := XT.PureE (some (.int (1 - cd))) r s u
theorem law (l : Launch) (x : Addr) (cd z : Int32) : Law l yN 1 0 0 0 yB 1 (some .boolean) site (P x cd z) (E cd) [] 0 0 := by
  refine Law.of_walk (plainFor_of_name (by decide +kernel)) (by decide +kernel) (by decide +kernel) (by decide) (fun _ _ h => by rw [h.1]; rfl) (fun _ U U' hal hh h => ⟨h.1, h.2.1.mv hal hh, h.2.2.1, h.2.2.2.1.there hal hh, h.2.2.2.2⟩) (fun r U U' V V' h1 hal h2 h => XT.PureE.mv r U U' V V' h1 hal h2 h) ?_
  intro p e s m args below meth c s₁ X0 hexec hbytes hml hret hlk hnm hown hh0 W hP
  obtain ⟨rfl, hx, hc, s1, hz⟩ := hP
  have c1 : Steps p.tables e below (s₁.setTop (entryFrame m #[.ref x] 1)) (s₁.setTop (mkF m 0 #[.val (.ref x)] [])) := entry rfl
  obtain ⟨T2, X2, q2, st2⟩ := X0.sget hexec hown (wk W (.fieldLink "java/lang/String" 38 "java/lang/String" "COMPACT_STRINGS" "Z")) s1 (fun _ _ h => by rw [hh0]; exact h) (g := (mkF m 0 #[.val (.ref x)] [])) rfl (hb hbytes d0)
  have hh2 := q2.trans hh0
  have c3 : Steps p.tables e below (s₁.setTop (entryFrame m #[.ref x] 1)) (T2.setTop (mkF m 7 #[.val (.ref x)] [.ref x])) := (c1.trans (st2 _ (Steps.refl _))).trans (by
    refine XS.ifNo X2.here hexec rfl (hb hbytes d3) rfl (i0_eq_f hz) ?_
    refine XS.aloadN X2.here hexec rfl (hb hbytes d6) rfl rfl ?_
    exact Steps.refl _)
  obtain ⟨T4, X4, q4, st4⟩ := X2.hget hexec hown (wk W (.fieldLink "java/lang/String" 15 "java/lang/String" "coder" "B")) (hx.mv X2.warmed.alike hh2) (g := (mkF m 7 #[.val (.ref x)] [.ref x])) rfl (rest := []) rfl (hb hbytes d7)
  have c5 : Steps p.tables e below (s₁.setTop (entryFrame m #[.ref x] 1)) (T4.setTop (mkF m 10 #[.val (.ref x)] [.int cd])) := c3.trans (st4 _ (Steps.refl _))
  have c6 : Steps p.tables e below (s₁.setTop (entryFrame m #[.ref x] 1)) (T4.setTop (mkF m 18 #[.val (.ref x)] [.int (1 - cd)])) := by
    rcases hc with rfl | rfl
    · exact c5.trans (by
        refine XS.ifNo X4.here hexec rfl (hb hbytes d10) rfl (i0_ne_f rfl) ?_
        refine iconstV X4.here hexec rfl 1 (hb hbytes d13) (by decide) ?_
        refine XS.goto X4.here hexec rfl (pc0 := 14) rfl (hb hbytes d14) (by decide) rfl ?_
        exact Steps.refl _)
    · exact c5.trans (by
        refine XS.ifYes X4.here hexec rfl (pc0 := 10) rfl (hb hbytes d10) rfl (i0_ne_t (by decide)) (by decide) rfl ?_
        refine iconstV X4.here hexec rfl 0 (hb hbytes d17) (by decide) ?_
        exact Steps.refl _)
  exact ⟨T4, some (.int (1 - cd)), _, _, _, X4, rfl, rfl, rfl, (fun h => by cases h), ⟨rfl, q4.trans hh2⟩, fun fs hl => c6.trans (X4.ireturnOut hexec hret (by rcases hc with rfl | rfl <;> rfl) (Or.inr (Or.inl rfl)) (hb hbytes d18) hl)⟩
end IsL
namespace LChA
def yN : MethodName := ⟨"java/lang/StringLatin1", "charAt", "([BI)C"⟩
abbrev yB : ByteArray := jdk_43_method_2_code
theorem d0 : decode yB 0 = .ok (.iload_n 1, 1) := by decide +kernel
theorem d1 : decode yB 1 = .ok (.aload_n 0, 1) := by decide +kernel
theorem d2 : decode yB 2 = .ok (.arraylength, 1) := by decide +kernel
theorem d3 : decode yB 3 = .ok (.invokestatic 9, 3) := by decide +kernel
theorem d6 : decode yB 6 = .ok (.aload_n 0, 1) := by decide +kernel
theorem d7 : decode yB 7 = .ok (.iload_n 1, 1) := by decide +kernel
theorem d8 : decode yB 8 = .ok (.baload, 1) := by decide +kernel
theorem d9 : decode yB 9 = .ok (.sipush 255, 3) := by decide +kernel
theorem d12 : decode yB 12 = .ok (.iand, 1) := by decide +kernel
theorem d13 : decode yB 13 = .ok (.i2c, 1) := by decide +kernel
theorem d14 : decode yB 14 = .ok (.ireturn, 1) := by decide +kernel
def site : List Cond := [JO.Str_checkIndex.tab] ++ staticW "java/lang/StringLatin1" 9 JO.Str_checkIndex.yN
def tab : Cond := tabOf yN yB 2 (some .char) site
def P (t : Addr) (V : Cell) (i : Nat) (u : Int32) (fm : Value) (args : Array Value) (s : State) : Prop := args = #[.ref t, .int (Int32.ofNat i)] ∧ XT.Arr .byte t V s ∧ V.slots[i]? = some (.int u) ∧ (StaticIs s "jdk/internal/util/Preconditions" "SIOOBE_FORMATTER" "Ljava/util/function/BiFunction;" fm ∧ fm.isRef = true)
def E (u : Int32) (r : Option Value) (s w : State) : Prop := XT.PureE (some (.int (chr8 u))) r s w
theorem law (l : Launch) (t : Addr) (V : Cell) (i : Nat) (u : Int32) (fm : Value) : Law l yN 2 2 2 27 yB 2 (some .char) site (P t V i u fm) (E u) [] 0 0 := by
  refine Law.of_walk (plainFor_of_name (by decide +kernel)) (by decide +kernel) (by decide +kernel) (by decide) (fun _ _ h => by rw [h.1]; rfl) (fun _ U U' hal hh h => ⟨h.1, h.2.1.mv hal hh, h.2.2.1, h.2.2.2.1.there hal hh, h.2.2.2.2⟩) (fun r U U' V V' h1 hal h2 h => XT.PureE.mv r U U' V V' h1 hal h2 h) ?_
  intro p e s m args below meth c s₁ X0 hexec hbytes hml hret hlk hnm hown hh0 W hP
  obtain ⟨rfl, hV, hu, s1, rf⟩ := hP
  have v31 := hV.2.2.2
  have hi : i < V.slots.size := (Array.getElem?_eq_some_iff.mp hu).1
  have c1 : Steps p.tables e below (s₁.setTop (entryFrame m #[.ref t, .int (Int32.ofNat i)] 2)) (s₁.setTop (mkF m 0 #[.val (.ref t), .val (.int (Int32.ofNat i))] [])) := entry rfl
  have c2 : Steps p.tables e below (s₁.setTop (entryFrame m #[.ref t, .int (Int32.ofNat i)] 2)) (s₁.setTop (mkF m 3 #[.val (.ref t), .val (.int (Int32.ofNat i))] [.int (Int32.ofNat V.slots.size), .int (Int32.ofNat i)])) := c1.trans (by
    refine XS.iloadN X0.here hexec rfl (hb hbytes d0) rfl ?_
    refine XS.aloadN X0.here hexec rfl (hb hbytes d1) rfl rfl ?_
    refine X0.alen hexec (hV.mv X0.warmed.alike hh0) rfl rfl (hb hbytes d2) ?_
    exact Steps.refl _)
  obtain ⟨v3, T3, X3, E3, g3⟩ := X0.callS hexec (JO.Str_checkIndex.law l (Int32.ofNat i) (Int32.ofNat V.slots.size) fm) hown (wks W (staticW "java/lang/StringLatin1" 9 JO.Str_checkIndex.yN)) (wk W JO.Str_checkIndex.tab) (W := 0) (Nat.le_of_ble_eq_true rfl) (Nat.le_of_ble_eq_true rfl) (Nat.le_refl _) (Nat.le_refl _) (g := (mkF m 3 #[.val (.ref t), .val (.int (Int32.ofNat i))] [.int (Int32.ofNat V.slots.size), .int (Int32.ofNat i)])) rfl (by rw [hml]; rfl) c2 (argsL := [.int (Int32.ofNat i), .int (Int32.ofNat V.slots.size)]) (rest := []) rfl rfl (by show 2 * 0 + 0 ≤ _; decide) (hb hbytes d3) (⟨rfl, rf, s1.there X0.warmed.alike hh0, Int32.ofNat_not_neg (by omega), lt32 v31 hi⟩)
  obtain ⟨rfl, q3⟩ := E3
  have hh3 := q3.trans hh0
  have c4 : Steps p.tables e below (s₁.setTop (entryFrame m #[.ref t, .int (Int32.ofNat i)] 2)) (T3.setTop (mkF m 14 #[.val (.ref t), .val (.int (Int32.ofNat i))] [.int (chr8 u)])) := Steps.trans g3 (by
    refine XS.aloadN X3.here hexec rfl (hb hbytes d6) rfl rfl ?_
    refine XS.iloadN X3.here hexec rfl (hb hbytes d7) rfl ?_
    refine X3.aget hexec (hV.mv X3.warmed.alike hh3) rfl hu rfl rfl (hb hbytes d8) ?_
    refine sipushV X3.here hexec rfl 255 (hb hbytes d9) (by decide) ?_
    refine XS.iand X3.here hexec rfl (hb hbytes d12) rfl ?_
    refine i2c X3.here hexec rfl (hb hbytes d13) rfl ?_
    exact Steps.refl _)
  exact ⟨T3, some (.int (chr8 u)), _, _, _, X3, rfl, rfl, rfl, (fun h => by cases h), ⟨rfl, hh3⟩, fun fs hl => c4.trans (X3.ireturnOut hexec hret (narrow_c _) (Or.inr (Or.inr (Or.inr (Or.inl rfl)))) (hb hbytes d14) hl)⟩
end LChA
end StrChars
namespace StrChars.Road
open Jvm Sem ClassFile Op Lib Jvm.Stand Jvm.Free Jvm.Free.XT
open Jvm.Lib.Cold (StaticIs)
theorem consq {a : Array Value} {s : State} {c : Jvm.Cond} {L : List Jvm.Cond} (h0 : c.before a s = true) (h : ∀ w ∈ L, w.before a s = true) : ∀ w ∈ c :: L, w.before a s = true := fun w hw => (List.mem_cons.mp hw).elim (fun e => e ▸ h0) (h w)
/-- the words of String.length(), either coding -/
abbrev wordsLen : List Jvm.Cond := [.code Len.yN Len.yB 1 (some .int), .initialized ST, .fieldLink ST 9 ST "value" "[B", .fieldLink ST 38 ST "COMPACT_STRINGS" "Z", .fieldLink ST 15 ST "coder" "B", .code Cdr.yN Cdr.yB 1 (some .byte), .methodLink ST 335 Cdr.yN, .declares Cdr.yN, .selects ST Cdr.yN Cdr.yN, .instanceMethod Cdr.yN]
theorem tabLen_of {a : Array Value} {s : State} (h : ∀ w ∈ wordsLen, w.before a s = true) : Len.tab.before a s = true := by
  have hc : Cdr.tab.before a s = true := unparts (wk h (.code Cdr.yN Cdr.yB 1 (some .byte))) (wks h (.initialized Cdr.yN.cls :: Cdr.site))
  have q := consq hc h
  exact unparts (wk q (.code Len.yN Len.yB 1 (some .int))) (wks q (.initialized Len.yN.cls :: Len.site))
theorem movedLen {Z s : State} {a0 args : Array Value} (hZ : Z.Warmed39 s.vm) (hw : ∀ d ∈ wordsLen, d.before a0 Z = true) : ∀ d ∈ wordsLen, d.before args s = true := fun d hd => by
  have q := hw d hd
  have t : ∀ d ∈ wordsLen, d = .arrayClass .byte ∨ (d.onTables && d.keepsFace) = true := by decide +kernel
  rcases t d hd with rfl | t
  · exact RoadKit.mvA hZ q
  · exact RoadKit.mv hZ q t
/-- the bytes of the chars cs, low before high -/
def wideBytes : List Int32 → List Value
  | [] => []
  | c :: cs => .int (lo8 c) :: .int (hi8 c) :: wideBytes cs
theorem wide_lo (d : Value) : ∀ (cs : List Int32) (j : Nat), j < cs.length → (wideBytes cs).getD (2 * j) d = .int (lo8 (cs.getD j 0))
  | [], j, h => absurd h (Nat.not_lt_zero j)
  | c :: cs, 0, _ => rfl
  | c :: cs, j + 1, h => by
    have q := wide_lo d cs j (by simpa using h)
    rw [show 2 * (j + 1) = 2 * j + 1 + 1 from by omega]
    simpa [wideBytes] using q
theorem wide_hi (d : Value) : ∀ (cs : List Int32) (j : Nat), j < cs.length → (wideBytes cs).getD (2 * j + 1) d = .int (hi8 (cs.getD j 0))
  | [], j, h => absurd h (Nat.not_lt_zero j)
  | c :: cs, 0, _ => rfl
  | c :: cs, j + 1, h => by
    have q := wide_hi d cs j (by simpa using h)
    rw [show 2 * (j + 1) + 1 = 2 * j + 1 + 1 + 1 from by omega]
    simpa [wideBytes] using q
theorem low_at (d : Value) (cs : List Int32) (j : Nat) (h : j < cs.length) : (cs.map fun c => Value.int (lo8 c)).getD j d = .int (lo8 (cs.getD j 0)) := by
  simp [List.getD_eq_getElem?_getD, h]
/-- an array of N2 bytes vs codes the chars cs by the coder cd -/
def CodA (cs : List Int32) (cd N2 : Int32) (vs : List Value) : Prop := (cd = 0 ∧ N2 = Int32.ofNat cs.length ∧ vs = (cs.map fun c => Value.int (lo8 c)) ∧ ∀ c ∈ cs, ¬ 255 < c) ∨ (cd = 1 ∧ N2 = Int32.ofNat (2 * cs.length) ∧ vs = wideBytes cs ∧ ∃ c ∈ cs, 255 < c)
theorem CodA.cod {cs : List Int32} {cd N2 : Int32} {vs : List Value} {V : Cell} (h : CodA cs cd N2 vs) (hn : 2 * cs.length < 2 ^ 31) (hs : V.slots.size = N2.toNatClampNeg) (hv : RoadKit.Has V vs (.int 0)) : Cod cd cs.length (fun j => cs.getD j 0) V := by
  rcases h with ⟨rfl, rfl, rfl, h⟩ | ⟨rfl, rfl, rfl, c, hc, hw⟩
  · rw [n32 (by omega)] at hs
    exact Or.inl ⟨rfl, hs, fun j hj => ⟨by rw [hv j (by omega), low_at _ _ _ hj], by
      have e : cs.getD j 0 = cs[j] := by simp [List.getD_eq_getElem?_getD, hj]
      show ¬ 255 < cs.getD j 0
      rw [e]; exact h _ (List.getElem_mem _)⟩⟩
  · rw [n32 (by omega)] at hs
    obtain ⟨j, hj, rfl⟩ := List.getElem_of_mem hc
    exact Or.inr ⟨rfl, hs, fun j hj => ⟨by rw [hv _ (by omega), wide_lo _ _ _ hj], by rw [hv _ (by omega), wide_hi _ _ _ hj]⟩, j, hj, by
      have e : cs.getD j 0 = cs[j] := by simp [List.getD_eq_getElem?_getD, hj]
      show 255 < cs.getD j 0
      rw [e]; exact hw⟩
/-- an object of exactly java/lang/String, its two fields found: as the laws ask it -/
theorem strObj {Z U : State} {a0 : Array Value} {kI : Nat} (wi : (Jvm.Cond.instantiable ST kI).before a0 Z = true) (al : Z.vm.Alike U.vm) {x : Addr} {v0 c0 : Value} (E : RoadKit.Exa Z U.heap x ST) (V : RoadKit.Fld Z U.heap x ST "value" "[B" v0) (C : RoadKit.Fld Z U.heap x ST "coder" "B" c0) :
    ∃ (D : Cell) (fV fC : Field), Blank ST x D U ∧ Found ST "value" "[B" fV U ∧ Found ST "coder" "B" fC U ∧ D.slots[fV.slot]? = some v0 ∧ D.slots[fC.slot]? = some c0 ∧ RoadKit.slotOf Z ST "value" "[B" = fV.slot ∧ RoadKit.slotOf Z ST "coder" "B" = fC.slot := by
  obtain ⟨D, cfV, kV, iV, fV, hD, gV, stV, knV, obV, asV, slV⟩ := V
  obtain ⟨D', cfC, kC, iC, fC, hD', gC, stC, -, -, asC, slC⟩ := C
  cases hD.symm.trans hD'
  obtain ⟨D2, kD, e1, e2, e3, e4, e5⟩ := E
  cases hD.symm.trans e1
  obtain ⟨c2, k2, i1, i2, i3, -⟩ := Cond.instantiable_spec wi
  cases e2.symm.trans i1
  cases e3.symm.trans i2
  obtain ⟨kU, u1, u2⟩ := al.2.2 _ _ e3
  exact ⟨D, fV, fC, ⟨hD, ⟨knV, fun q hq => by rw [hq] at obV; cases obV⟩, by rw [al.findClass]; exact e2, kU, u1, by rw [u2]; exact i3, by rw [u2]; exact e5 i3⟩, ⟨SBG.found_only al ⟨cfV, kV, iV, gV⟩, stV⟩, ⟨SBG.found_only al ⟨cfC, kC, iC, gC⟩, stC⟩, slV, slC, by simp [RoadKit.slotOf, gV], by simp [RoadKit.slotOf, gC]⟩
theorem sta_is {Z U : State} (al : Z.vm.Alike U.vm) {C n d : String} {v : Value} (S : RoadKit.Sta Z U.heap C n d v) : StaticIs U C n d v := by
  obtain ⟨cfS, iS, kS, fS, st, cS, t1, t2, t3, t4, t5, t6, t7⟩ := S
  exact StaticIs.there (s := { Z with heap := U.heap }) ⟨cfS, iS, kS, fS, st, cS, t1, t2, t3, t4, t5, (fun q => by rw [q] at t6; cases t6), t7⟩ al rfl
/-- **length() OF SUCH A STRING** -/
theorem lenW {p : Program} {l : Launch} {e : Env} {R : Room} {s : State} {args : Array Value} {below : List Frame} {len W : Nat} {Z : State} {a0 : Array Value} {h : Heap} (hZ : Z.Warmed39 s.vm) (hw : ∀ d ∈ wordsLen, d.before a0 Z = true) {kI : Nat} (wi : (Jvm.Cond.instantiable ST kI).before a0 Z = true)
    {x t : Addr} {kb : ClassId} {cs : List Int32} {cd N2 z : Int32} {vs : List Value} (E : RoadKit.Exa Z h x ST) (V : RoadKit.Fld Z h x ST "value" "[B" (.ref t)) (C : RoadKit.Fld Z h x ST "coder" "B" (.int cd)) (K : RoadKit.Arv Z h t kb .byte N2 vs (.int 0)) (hc : CodA cs cd N2 vs) (hb : ∀ c ∈ cs, ¬ c < 0 ∧ ¬ (65535 : Int32) < c)
    (S : RoadKit.Sta Z h ST "COMPACT_STRINGS" "Z" (.int z)) (hz : ¬ z = 0) (l2 : cs.length ≤ 4000) (hfr : 2 ≤ R.frames) (hlo : W + 25 ≤ R.locals) :
    Back l R p e below s args (⟨"java/lang/String", "length", "()I"⟩ : MethodName) len W (fun P a => a = #[.ref x] ∧ P.U.heap = h ∧ P.cells + 0 ≤ R.cells ∧ P.slots + 0 ≤ R.slots)
      (fun P _ v B => ∃ L, (v = some (.int (Int32.ofNat cs.length)) ∧ L = [] ∧ B.U.heap = h) ∧ B.locs = P.locs ++ L ∧ B.cells = P.cells + 0 ∧ B.slots = P.slots + 0) := by
  obtain ⟨A, K1, K2, K3, K4, K5, K6⟩ := K
  have hcod := hc.cod (by omega) K3 K5
  intro m meth c P g ig mk a X hg hsize hdg hW hn hp'
  obtain ⟨rfl, rfl, r1, r2⟩ := hp'
  have al : Z.vm.Alike P.U.vm := hZ.alike.trans X.warmed.alike
  obtain ⟨D, fV, fC, hB, F1, F2, g1, g2, -, -⟩ := strObj wi al E V C
  have hx : Txt x t A cd cs.length (fun j => cs.getD j 0) P.U := ⟨⟨_, hB.2.2.1, D, hB.1, rfl, by cases q : D.vm <;> first | rfl | exact absurd q (hB.2.1.2 _)⟩, Has.of hB F1 g1, Has.of hB F2 g2, ⟨K1.1, State.isArrayOf_alike al K1.2.1, K1.2.2, by rcases hcod with ⟨-, q, -⟩ | ⟨-, q, -⟩ <;> omega⟩, hcod, fun j hj => by
    have e : cs.getD j 0 = cs[j] := by simp [List.getD_eq_getElem?_getD, hj]
    show ¬ cs.getD j 0 < 0 ∧ ¬ 65535 < cs.getD j 0
    rw [e]; exact hb _ (List.getElem_mem _)⟩
  obtain ⟨v, B, X', ⟨⟨hv, hh⟩, hl, hk, hs⟩, st⟩ := Len.pays x t A cd cs.length (fun j => cs.getD j 0) z (tabLen_of (movedLen hZ hw)) hfr hlo m meth c P g ig mk _ X hg hsize hdg hW hn ⟨r1, r2, rfl, hx, sta_is al S, hz⟩
  exact ⟨v, B, X', ⟨[], ⟨hv, rfl, hh⟩, hl, hk, hs⟩, st⟩
end StrChars.Road
namespace StrChars
open Jvm Sem ClassFile Op Lib Jvm.Stand Jvm.Free.XT Jvm.Free.ALB Jvm.Free.JM Jvm.Free
open Jvm.Lib.Cold (StaticIs)
/-- what place i of a byte[]'s cell holds -/
def yv (A : Cell) (i : Nat) : Int32 := match A.slots[i]? with | some (.int x) => x | _ => 0
theorem yv_get {a : Addr} {A : Cell} {U : State} (h : XT.Arr .byte a A U) (ht : Typed .byte A) {i : Nat} (hi : i < A.slots.size) : A.slots[i]? = some (.int (yv A i)) := by
  have e := Array.getElem?_eq_getElem hi
  have f := ht i _ e
  unfold yv; rw [e]
  generalize A.slots[i] = v at f
  cases v <;> simp [fits] at f ⊢
/-- the two arrays are equal, place for place -/
def EqC (A B : Cell) : Prop := A.slots.size = B.slots.size ∧ ∀ i, i < A.slots.size → yv A i = yv B i
/-- a boolean that says whether p -/
def Says01 (q : Prop) (r : Option Value) (s u : State) : Prop := ∃ v : Int32, r = some (.int v) ∧ u.heap = s.heap ∧ ((v = 1 ∧ q) ∨ (v = 0 ∧ ¬ q))
theorem Says01.mv {q : Prop} : ∀ r (U U' V V' : State), U'.heap = U.heap → V.vm.Alike V'.vm → V'.heap = V.heap → Says01 q r U V → Says01 q r U' V' :=
  fun r U U' V V' h1 _ h2 ⟨v, a, b, c⟩ => ⟨v, a, by rw [h1, h2]; exact b, c⟩
namespace LEq
def yN : MethodName := ⟨"java/lang/StringLatin1", "equals", "([B[B)Z"⟩
abbrev yB : ByteArray := jdk_43_method_13_code
theorem d0 : decode yB 0 = .ok (.aload_n 0, 1) := by decide +kernel
theorem d1 : decode yB 1 = .ok (.arraylength, 1) := by decide +kernel
theorem d2 : decode yB 2 = .ok (.aload_n 1, 1) := by decide +kernel
theorem d3 : decode yB 3 = .ok (.arraylength, 1) := by decide +kernel
theorem d4 : decode yB 4 = .ok (.if_icmp (.ne) 30, 3) := by decide +kernel
theorem d7 : decode yB 7 = .ok (.iconst 0, 1) := by decide +kernel
theorem d8 : decode yB 8 = .ok (.istore_n 2, 1) := by decide +kernel
theorem d9 : decode yB 9 = .ok (.iload_n 2, 1) := by decide +kernel
theorem d10 : decode yB 10 = .ok (.aload_n 0, 1) := by decide +kernel
theorem d11 : decode yB 11 = .ok (.arraylength, 1) := by decide +kernel
theorem d12 : decode yB 12 = .ok (.if_icmp (.ge) 20, 3) := by decide +kernel
theorem d15 : decode yB 15 = .ok (.aload_n 0, 1) := by decide +kernel
theorem d16 : decode yB 16 = .ok (.iload_n 2, 1) := by decide +kernel
theorem d17 : decode yB 17 = .ok (.baload, 1) := by decide +kernel
theorem d18 : decode yB 18 = .ok (.aload_n 1, 1) := by decide +kernel
theorem d19 : decode yB 19 = .ok (.iload_n 2, 1) := by decide +kernel
theorem d20 : decode yB 20 = .ok (.baload, 1) := by decide +kernel
theorem d21 : decode yB 21 = .ok (.if_icmp (.eq) 5, 3) := by decide +kernel
theorem d24 : decode yB 24 = .ok (.iconst 0, 1) := by decide +kernel
theorem d25 : decode yB 25 = .ok (.ireturn, 1) := by decide +kernel
theorem d26 : decode yB 26 = .ok (.iinc 2 1, 3) := by decide +kernel
theorem d29 : decode yB 29 = .ok (.goto (-20), 3) := by decide +kernel
theorem d32 : decode yB 32 = .ok (.iconst 1, 1) := by decide +kernel
theorem d33 : decode yB 33 = .ok (.ireturn, 1) := by decide +kernel
theorem d34 : decode yB 34 = .ok (.iconst 0, 1) := by decide +kernel
theorem d35 : decode yB 35 = .ok (.ireturn, 1) := by decide +kernel
def site : List Cond := []
def tab : Cond := tabOf yN yB 3 (some .boolean) site
def P (a : Addr) (A : Cell) (b : Addr) (B : Cell) (args : Array Value) (s : State) : Prop := args = #[.ref a, .ref b] ∧ XT.Arr .byte a A s ∧ Typed .byte A ∧ XT.Arr .byte b B s ∧ Typed .byte B
/-- whether two byte[] are equal, place for place -/
theorem law (l : Launch) (a : Addr) (A : Cell) (b : Addr) (B : Cell) : Law l yN 2 2 0 0 yB 3 (some .boolean) site (P a A b B) (Says01 (EqC A B)) [] 0 0 := by
  refine Law.of_walk (plainFor_of_name (by decide +kernel)) (by decide +kernel) (by decide +kernel) (by decide) (fun _ _ h => by rw [h.1]; rfl) (fun _ U U' hal hh h => ⟨h.1, h.2.1.mv hal hh, h.2.2.1, h.2.2.2.1.mv hal hh, h.2.2.2.2⟩) (fun r U U' V V' h1 hal h2 h => Says01.mv r U U' V V' h1 hal h2 h) ?_
  intro p e s m args below meth c s₁ X0 hexec hbytes hml hret hlk hnm hown hh0 W hP
  obtain ⟨rfl, hA, tA, hB, tB⟩ := hP
  have a31 := hA.2.2.2
  have b31 := hB.2.2.2
  have hA0 := hA.mv X0.warmed.alike hh0
  have hB0 := hB.mv X0.warmed.alike hh0
  have c1 : Steps p.tables e below (s₁.setTop (entryFrame m #[.ref a, .ref b] 3)) (s₁.setTop (mkF m 0 #[.val (.ref a), .val (.ref b), .unset] [])) := entry rfl
  have c2 : Steps p.tables e below (s₁.setTop (entryFrame m #[.ref a, .ref b] 3)) (s₁.setTop (mkF m 4 #[.val (.ref a), .val (.ref b), .unset] [.int (Int32.ofNat B.slots.size), .int (Int32.ofNat A.slots.size)])) := c1.trans (by
    refine XS.aloadN X0.here hexec rfl (hb hbytes d0) rfl rfl ?_
    refine X0.alen hexec hA0 rfl rfl (hb hbytes d1) ?_
    refine XS.aloadN X0.here hexec rfl (hb hbytes d2) rfl rfl ?_
    refine X0.alen hexec hB0 rfl rfl (hb hbytes d3) ?_
    exact Steps.refl _)
  by_cases hs : A.slots.size = B.slots.size
  · have c3 : Steps p.tables e below (s₁.setTop (entryFrame m #[.ref a, .ref b] 3)) (s₁.setTop (mkF m 9 #[.val (.ref a), .val (.ref b), .val (.int 0)] [])) := c2.trans (by
      refine XS.icmpNo X0.here hexec rfl (hb hbytes d4) rfl (ii_ne_f (by rw [hs])) ?_
      refine iconstV X0.here hexec rfl 0 (hb hbytes d7) (by decide) ?_
      refine XS.istoreN X0.here hexec rfl (hb hbytes d8) rfl rfl ?_
      exact Steps.refl _)
    have loop : ∀ (r i : Nat), i + r = A.slots.size → (∀ j, j < i → yv A j = yv B j) → Steps p.tables e below (s₁.setTop (entryFrame m #[.ref a, .ref b] 3)) (s₁.setTop (mkF m 9 #[.val (.ref a), .val (.ref b), .val (.int (Int32.ofNat i))] [])) → ∃ (pc : Nat) (Ls : Array Slot) (v : Int32), (pc = 25 ∨ pc = 33) ∧ ((v = 1 ∧ EqC A B) ∨ (v = 0 ∧ ¬ EqC A B)) ∧ Steps p.tables e below (s₁.setTop (entryFrame m #[.ref a, .ref b] 3)) (s₁.setTop (mkF m pc Ls [.int v])) := by
      intro r
      induction r with
      | zero =>
        intro i hi he cl
        exact ⟨33, _, 1, Or.inr rfl, Or.inl ⟨rfl, hs, fun j hj => he j (by omega)⟩, cl.trans (by
          refine XS.iloadN X0.here hexec rfl (hb hbytes d9) rfl ?_
          refine XS.aloadN X0.here hexec rfl (hb hbytes d10) rfl rfl ?_
          refine X0.alen hexec hA0 rfl rfl (hb hbytes d11) ?_
          refine XS.icmpYes X0.here hexec rfl (pc0 := 12) rfl (hb hbytes d12) rfl (ii_ge_t (nlt32 (by omega) (by omega))) (by decide) rfl ?_
          refine iconstV X0.here hexec rfl 1 (hb hbytes d32) (by decide) ?_
          exact Steps.refl _)⟩
      | succ r ih =>
        intro i hi he cl
        have c4 : Steps p.tables e below (s₁.setTop (entryFrame m #[.ref a, .ref b] 3)) (s₁.setTop (mkF m 21 #[.val (.ref a), .val (.ref b), .val (.int (Int32.ofNat i))] [.int (yv B i), .int (yv A i)])) := cl.trans (by
          refine XS.iloadN X0.here hexec rfl (hb hbytes d9) rfl ?_
          refine XS.aloadN X0.here hexec rfl (hb hbytes d10) rfl rfl ?_
          refine X0.alen hexec hA0 rfl rfl (hb hbytes d11) ?_
          refine XS.icmpNo X0.here hexec rfl (hb hbytes d12) rfl (ii_ge_f (lt32 (by omega) (by omega))) ?_
          refine XS.aloadN X0.here hexec rfl (hb hbytes d15) rfl rfl ?_
          refine XS.iloadN X0.here hexec rfl (hb hbytes d16) rfl ?_
          refine X0.aget hexec hA0 rfl (yv_get hA tA (i := i) (by omega)) rfl rfl (hb hbytes d17) ?_
          refine XS.aloadN X0.here hexec rfl (hb hbytes d18) rfl rfl ?_
          refine XS.iloadN X0.here hexec rfl (hb hbytes d19) rfl ?_
          refine X0.aget hexec hB0 rfl (yv_get hB tB (i := i) (by omega)) rfl rfl (hb hbytes d20) ?_
          exact Steps.refl _)
        by_cases hv : yv A i = yv B i
        · have c5 : Steps p.tables e below (s₁.setTop (entryFrame m #[.ref a, .ref b] 3)) (s₁.setTop (mkF m 9 #[.val (.ref a), .val (.ref b), .val (.int (Int32.ofNat i + 1))] [])) := c4.trans (by
            refine XS.icmpYes X0.here hexec rfl (pc0 := 21) rfl (hb hbytes d21) rfl (ii_eq_t hv) (by decide) rfl ?_
            refine iincV X0.here hexec rfl 1 (hb hbytes d26) (by decide) rfl rfl ?_
            refine XS.goto X0.here hexec rfl (pc0 := 29) rfl (hb hbytes d29) (by decide) rfl ?_
            exact Steps.refl _)
          rw [succ32] at c5
          exact ih (i + 1) (by omega) (fun j hj => by
            by_cases e : j = i
            · rw [e]; exact hv
            · exact he j (by omega)) c5
        · exact ⟨25, _, 0, Or.inl rfl, Or.inr ⟨rfl, fun q => hv (q.2 i (by omega))⟩, c4.trans (by
            refine XS.icmpNo X0.here hexec rfl (hb hbytes d21) rfl (ii_eq_f hv) ?_
            refine iconstV X0.here hexec rfl 0 (hb hbytes d24) (by decide) ?_
            exact Steps.refl _)⟩
    obtain ⟨pc, Ls, v, hpc, hv, cz⟩ := loop A.slots.size 0 (by omega) (fun j hj => absurd hj (Nat.not_lt_zero j)) c3
    have nv : narrow .boolean (.int v) = .int v := by rcases hv with ⟨rfl, -⟩ | ⟨rfl, -⟩ <;> rfl
    rcases hpc with rfl | rfl
    · exact ⟨s₁, some (.int v), _, _, _, X0, rfl, rfl, rfl, (fun h => by cases h), ⟨v, rfl, hh0, hv⟩, fun fs hl => cz.trans (X0.ireturnOut hexec hret nv (Or.inr (Or.inl rfl)) (hb hbytes d25) hl)⟩
    · exact ⟨s₁, some (.int v), _, _, _, X0, rfl, rfl, rfl, (fun h => by cases h), ⟨v, rfl, hh0, hv⟩, fun fs hl => cz.trans (X0.ireturnOut hexec hret nv (Or.inr (Or.inl rfl)) (hb hbytes d33) hl)⟩
  · have c3 : Steps p.tables e below (s₁.setTop (entryFrame m #[.ref a, .ref b] 3)) (s₁.setTop (mkF m 35 #[.val (.ref a), .val (.ref b), .unset] [.int 0])) := c2.trans (by
      refine XS.icmpYes X0.here hexec rfl (pc0 := 4) rfl (hb hbytes d4) rfl (ii_ne_t (ne32 a31 b31 hs)) (by decide) rfl ?_
      refine iconstV X0.here hexec rfl 0 (hb hbytes d34) (by decide) ?_
      exact Steps.refl _)
    exact ⟨s₁, some (.int 0), _, _, _, X0, rfl, rfl, rfl, (fun h => by cases h), ⟨0, rfl, hh0, Or.inr ⟨rfl, fun q => hs q.1⟩⟩, fun fs hl => c3.trans (X0.ireturnOut hexec hret rfl (Or.inr (Or.inl rfl)) (hb hbytes d35) hl)⟩
end LEq
theorem Cod.ty {cd : Int32} {n : Nat} {f : Nat → Int32} {V : Cell} (h : Cod cd n f V) : Typed .byte V := fun i v hv => by
  have hi : i < V.slots.size := (Array.getElem?_eq_some_iff.mp hv).1
  rcases h with ⟨-, k1, k2⟩ | ⟨-, k1, k2, -⟩
  · rw [(k2 i (by omega)).1] at hv; cases hv; exact fits_lo8 _
  · rcases Nat.mod_two_eq_zero_or_one i with e | e
    · obtain ⟨j, rfl⟩ : ∃ j, i = 2 * j := ⟨i / 2, by omega⟩
      rw [(k2 j (by omega)).1] at hv; cases hv; exact fits_lo8 _
    · obtain ⟨j, rfl⟩ : ∃ j, i = 2 * j + 1 := ⟨i / 2, by omega⟩
      rw [(k2 j (by omega)).2] at hv; cases hv; exact fits_lo8 _
/-- the same text -/
def SameT (n : Nat) (f : Nat → Int32) (k : Nat) (g : Nat → Int32) : Prop := n = k ∧ ∀ j, j < n → f j = g j
theorem lo8_inj {x y : Int32} (h0 : ¬ x < 0) (h1 : ¬ 255 < x) (k0 : ¬ y < 0) (k1 : ¬ 255 < y) (h : lo8 x = lo8 y) : x = y := by
  rw [← lo8_mask h0 h1, ← lo8_mask k0 k1, h]
/-- arrays coded by one coder are equal just where the texts are -/
theorem Cod.eqv {cd : Int32} {n k : Nat} {f g : Nat → Int32} {V V' : Cell} (h : Cod cd n f V) (h' : Cod cd k g V') (hf : ∀ j, j < n → ¬ f j < 0 ∧ ¬ 65535 < f j) (hg : ∀ j, j < k → ¬ g j < 0 ∧ ¬ 65535 < g j) : EqC V V' ↔ SameT n f k g := by
  have yvv : ∀ {W : Cell} {i : Nat} {x : Int32}, W.slots[i]? = some (.int x) → yv W i = x := fun q => by unfold yv; rw [q]
  rcases h with ⟨rfl, k1, k2⟩ | ⟨rfl, k1, k2, -⟩
  · rcases h' with ⟨-, m1, m2⟩ | ⟨e, -⟩
    · constructor
      · rintro ⟨e1, e2⟩
        refine ⟨by omega, fun j hj => ?_⟩
        have q := e2 j (by omega)
        rw [yvv (k2 j hj).1, yvv (m2 j (by omega)).1] at q
        exact lo8_inj (hf j hj).1 (k2 j hj).2 (hg j (by omega)).1 (m2 j (by omega)).2 q
      · rintro ⟨rfl, e2⟩
        refine ⟨by omega, fun j hj => ?_⟩
        rw [yvv (k2 j (by omega)).1, yvv (m2 j (by omega)).1, e2 j (by omega)]
    · exact absurd e (by decide)
  · rcases h' with ⟨e, -⟩ | ⟨-, m1, m2, -⟩
    · exact absurd e (by decide)
    · constructor
      · rintro ⟨e1, e2⟩
        refine ⟨by omega, fun j hj => ?_⟩
        have q1 := e2 (2 * j) (by omega)
        have q2 := e2 (2 * j + 1) (by omega)
        rw [yvv (k2 j hj).1, yvv (m2 j (by omega)).1] at q1
        rw [yvv (k2 j hj).2, yvv (m2 j (by omega)).2] at q2
        rw [← pair_says (hf j hj).1 (hf j hj).2, ← pair_says (hg j (by omega)).1 (hg j (by omega)).2, q1, q2]
      · rintro ⟨rfl, e2⟩
        refine ⟨by omega, fun i hi => ?_⟩
        rcases Nat.mod_two_eq_zero_or_one i with e | e
        · obtain ⟨j, rfl⟩ : ∃ j, i = 2 * j := ⟨i / 2, by omega⟩
          rw [yvv (k2 j (by omega)).1, yvv (m2 j (by omega)).1, e2 j (by omega)]
        · obtain ⟨j, rfl⟩ : ∃ j, i = 2 * j + 1 := ⟨i / 2, by omega⟩
          rw [yvv (k2 j (by omega)).2, yvv (m2 j (by omega)).2, e2 j (by omega)]
/-- two codings differ: so do the texts -/
theorem Cod.dif {cd cd' : Int32} {n k : Nat} {f g : Nat → Int32} {V V' : Cell} (h : Cod cd n f V) (h' : Cod cd' k g V') (hne : ¬ cd = cd') : ¬ SameT n f k g := by
  rintro ⟨rfl, e⟩
  rcases h with ⟨rfl, -, k2⟩ | ⟨rfl, -, -, j, hj, hw⟩
  · rcases h' with ⟨rfl, -⟩ | ⟨-, -, -, j, hj, hw⟩
    · exact hne rfl
    · exact (k2 j hj).2 (by rw [e j hj]; exact hw)
  · rcases h' with ⟨-, -, m2⟩ | ⟨rfl, -⟩
    · exact (m2 j hj).2 (by rw [← e j hj]; exact hw)
    · exact hne rfl
/-- an object of exactly C is an instance of C -/
theorem cinst {p : Program} {l : Launch} {e : Env} {R : Room} {s : State} {m : MethodId} {args : Array Value} {below : List Frame} {meth : Method} {c : Code} {T : State} {locs : List Loc} {cells slots : Nat} (X : Stand p l e R s m args below meth c T locs cells slots) (hexec : p.tables.exec = Jvm.exec) {own C : String} {index : Nat} (hown : s.vm.findClass own = some m.cls) (hlink : (Cond.classLink own index C).before args s = true) {a : Addr} (hE : Exact C a T)
    {g : JFrame} (hg : g.method = m) {rest : List Value} (hstack : g.stack = .ref a :: rest) (hdg : decode c.code g.pc = .ok (.instanceof index, 3)) :
    ∃ T', Stand p l e R s m args below meth c T' locs cells slots ∧ T'.heap = T.heap ∧ ∀ target, Steps p.tables e below (T'.setTop { g with pc := g.pc + 3, stack := .int 1 :: rest }) target → Steps p.tables e below (T.setTop g) target := by
  obtain ⟨cB, h1, D, h2, h3, h4⟩ := hE
  have h1' : s.vm.findClass C = some cB := by rw [← X.warmed.alike.findClass]; exact h1
  obtain ⟨vm', X', st⟩ := X.instanceofYes hexec hown hlink h2 h4 h1' (by rw [h3]; exact Jvm.Free.SB.assignable_self _ _) hg hstack hdg
  exact ⟨_, X', rfl, st⟩
theorem cself {p : Program} {l : Launch} {e : Env} {R : Room} {s : State} {m : MethodId} {args : Array Value} {below : List Frame} {meth : Method} {c : Code} {T : State} {locs : List Loc} {cells slots : Nat} (X : Stand p l e R s m args below meth c T locs cells slots) (hexec : p.tables.exec = Jvm.exec) {own C : String} {index : Nat} (hown : s.vm.findClass own = some m.cls) (hlink : (Cond.classLink own index C).before args s = true) {a : Addr} (hE : Exact C a T)
    {g : JFrame} (hg : g.method = m) {rest : List Value} (hstack : g.stack = .ref a :: rest) (hdg : decode c.code g.pc = .ok (.checkcast index, 3)) :
    ∃ T', Stand p l e R s m args below meth c T' locs cells slots ∧ T'.heap = T.heap ∧ ∀ target, Steps p.tables e below (T'.setTop { g with pc := g.pc + 3, stack := .ref a :: rest }) target → Steps p.tables e below (T.setTop g) target := by
  obtain ⟨cB, h1, D, h2, h3, h4⟩ := hE
  have h1' : s.vm.findClass C = some cB := by rw [← X.warmed.alike.findClass]; exact h1
  obtain ⟨vm', X', st⟩ := X.checkcastYes hexec hown hlink h2 h4 h1' (by rw [h3]; exact Jvm.Free.SB.assignable_self _ _) hg hstack hdg
  exact ⟨_, X', rfl, fun t h => st t (by rw [← hstack] at h; exact h)⟩
namespace SEq
def yN : MethodName := ⟨"java/lang/String", "equals", "(Ljava/lang/Object;)Z"⟩
abbrev yB : ByteArray := jdk_42_method_66_code
theorem d0 : decode yB 0 = .ok (.aload_n 0, 1) := by decide +kernel
theorem d1 : decode yB 1 = .ok (.aload_n 1, 1) := by decide +kernel
theorem d2 : decode yB 2 = .ok (.if_acmp (.ne) 5, 3) := by decide +kernel
theorem d5 : decode yB 5 = .ok (.iconst 1, 1) := by decide +kernel
theorem d6 : decode yB 6 = .ok (.ireturn, 1) := by decide +kernel
theorem d7 : decode yB 7 = .ok (.aload_n 1, 1) := by decide +kernel
theorem d8 : decode yB 8 = .ok (.instanceof 10, 3) := by decide +kernel
theorem d11 : decode yB 11 = .ok (.ifCond (.eq) 43, 3) := by decide +kernel
theorem d14 : decode yB 14 = .ok (.aload_n 1, 1) := by decide +kernel
theorem d15 : decode yB 15 = .ok (.checkcast 10, 3) := by decide +kernel
theorem d18 : decode yB 18 = .ok (.astore_n 2, 1) := by decide +kernel
theorem d19 : decode yB 19 = .ok (.getstatic 38, 3) := by decide +kernel
theorem d22 : decode yB 22 = .ok (.ifCond (.eq) 14, 3) := by decide +kernel
theorem d25 : decode yB 25 = .ok (.aload_n 0, 1) := by decide +kernel
theorem d26 : decode yB 26 = .ok (.getfield 15, 3) := by decide +kernel
theorem d29 : decode yB 29 = .ok (.aload_n 2, 1) := by decide +kernel
theorem d30 : decode yB 30 = .ok (.getfield 15, 3) := by decide +kernel
theorem d33 : decode yB 33 = .ok (.if_icmp (.ne) 21, 3) := by decide +kernel
theorem d36 : decode yB 36 = .ok (.aload_n 0, 1) := by decide +kernel
theorem d37 : decode yB 37 = .ok (.getfield 9, 3) := by decide +kernel
theorem d40 : decode yB 40 = .ok (.aload_n 2, 1) := by decide +kernel
theorem d41 : decode yB 41 = .ok (.getfield 9, 3) := by decide +kernel
theorem d44 : decode yB 44 = .ok (.invokestatic 541, 3) := by decide +kernel
theorem d47 : decode yB 47 = .ok (.ifCond (.eq) 7, 3) := by decide +kernel
theorem d50 : decode yB 50 = .ok (.iconst 1, 1) := by decide +kernel
theorem d51 : decode yB 51 = .ok (.goto 4, 3) := by decide +kernel
theorem d54 : decode yB 54 = .ok (.iconst 0, 1) := by decide +kernel
theorem d55 : decode yB 55 = .ok (.ireturn, 1) := by decide +kernel
def site : List Cond := [.classLink "java/lang/String" 10 "java/lang/String", .fieldLink "java/lang/String" 38 "java/lang/String" "COMPACT_STRINGS" "Z", .fieldLink "java/lang/String" 15 "java/lang/String" "coder" "B", .fieldLink "java/lang/String" 9 "java/lang/String" "value" "[B", LEq.tab] ++ staticW "java/lang/String" 541 LEq.yN
def tab : Cond := tabOf yN yB 3 (some .boolean) site
def P (x t : Addr) (V : Cell) (cd : Int32) (n : Nat) (f : Nat → Int32) (y t' : Addr) (V' : Cell) (cd' : Int32) (k : Nat) (g : Nat → Int32) (z : Int32) (args : Array Value) (s : State) : Prop := args = #[.ref x, .ref y] ∧ Txt x t V cd n f s ∧ Txt y t' V' cd' k g s ∧ StaticIs s "java/lang/String" "COMPACT_STRINGS" "Z" (.int z) ∧ ¬ z = 0
/-- equals(Object) of two Strings: whether the texts are the same -/
theorem law (l : Launch) (x t : Addr) (V : Cell) (cd : Int32) (n : Nat) (f : Nat → Int32) (y t' : Addr) (V' : Cell) (cd' : Int32) (k : Nat) (g : Nat → Int32) (z : Int32) : Law l yN 2 1 1 14 yB 3 (some .boolean) site (P x t V cd n f y t' V' cd' k g z) (Says01 (SameT n f k g)) [] 0 0 := by
  refine Law.of_walk (plainFor_of_name (by decide +kernel)) (by decide +kernel) (by decide +kernel) (by decide) (fun _ _ h => by rw [h.1]; rfl) (fun _ U U' hal hh h => ⟨h.1, h.2.1.mv hal hh, h.2.2.1.mv hal hh, h.2.2.2.1.there hal hh, h.2.2.2.2⟩) (fun r U U' V V' h1 hal h2 h => Says01.mv r U U' V V' h1 hal h2 h) ?_
  intro p e s m args below meth c s₁ X0 hexec hbytes hml hret hlk hnm hown hh0 W hP
  obtain ⟨rfl, hx, hy, s1, hz⟩ := hP
  have c1 : Steps p.tables e below (s₁.setTop (entryFrame m #[.ref x, .ref y] 3)) (s₁.setTop (mkF m 2 #[.val (.ref x), .val (.ref y), .unset] [.ref y, .ref x])) := Steps.trans (entry rfl) (by
    show Steps p.tables e below (s₁.setTop (mkF m 0 #[.val (.ref x), .val (.ref y), .unset] [])) _
    refine XS.aloadN X0.here hexec rfl (hb hbytes d0) rfl rfl ?_
    refine XS.aloadN X0.here hexec rfl (hb hbytes d1) rfl rfl ?_
    exact Steps.refl _)
  by_cases hxy : x = y
  · have c2 : Steps p.tables e below (s₁.setTop (entryFrame m #[.ref x, .ref y] 3)) (s₁.setTop (mkF m 6 #[.val (.ref x), .val (.ref y), .unset] [.int 1])) := c1.trans (by
      refine acmpNo X0.here hexec rfl (hb hbytes d2) rfl rfl rfl (by simp [acmp, hxy]) ?_
      refine iconstV X0.here hexec rfl 1 (hb hbytes d5) (by decide) ?_
      exact Steps.refl _)
    subst hxy
    have ec : cd = cd' := by
      obtain ⟨D, fd, a1, a2, a3⟩ := hx.2.2.1
      obtain ⟨D', fd', b1, b2, b3⟩ := hy.2.2.1
      cases a1.symm.trans b1
      obtain ⟨q1, q2, q3, q4⟩ := a2.1
      obtain ⟨r1, r2, r3, r4⟩ := b2.1
      cases q4.symm.trans r4
      cases a3.symm.trans b3; rfl
    have et : t = t' := by
      obtain ⟨D, fd, a1, a2, a3⟩ := hx.2.1
      obtain ⟨D', fd', b1, b2, b3⟩ := hy.2.1
      cases a1.symm.trans b1
      obtain ⟨q1, q2, q3, q4⟩ := a2.1
      obtain ⟨r1, r2, r3, r4⟩ := b2.1
      cases q4.symm.trans r4
      cases a3.symm.trans b3; rfl
    subst ec et
    have ev : V = V' := by cases hx.2.2.2.1.1.symm.trans hy.2.2.2.1.1; rfl
    subst ev
    have hs : SameT n f k g := (Cod.eqv hx.2.2.2.2.1 hy.2.2.2.2.1 hx.2.2.2.2.2 hy.2.2.2.2.2).mp ⟨rfl, fun _ _ => rfl⟩
    exact ⟨s₁, some (.int 1), _, _, _, X0, rfl, rfl, rfl, (fun h => by cases h), ⟨1, rfl, hh0, Or.inl ⟨rfl, hs⟩⟩, fun fs hl => c2.trans (X0.ireturnOut hexec hret rfl (Or.inr (Or.inl rfl)) (hb hbytes d6) hl)⟩
  · have c2 : Steps p.tables e below (s₁.setTop (entryFrame m #[.ref x, .ref y] 3)) (s₁.setTop (mkF m 8 #[.val (.ref x), .val (.ref y), .unset] [.ref y])) := c1.trans (by
      refine acmpYes X0.here hexec rfl (pc0 := 2) rfl (hb hbytes d2) rfl rfl rfl (by simp [acmp, hxy]) (by decide) rfl ?_
      refine XS.aloadN X0.here hexec rfl (hb hbytes d7) rfl rfl ?_
      exact Steps.refl _)
    obtain ⟨T3, X3, q3, st3⟩ := cinst X0 hexec hown (wk W (.classLink "java/lang/String" 10 "java/lang/String")) (hy.mv X0.warmed.alike hh0).1 (g := (mkF m 8 #[.val (.ref x), .val (.ref y), .unset] [.ref y])) rfl (rest := []) rfl (hb hbytes d8)
    have hh3 := q3.trans hh0
    have c4 : Steps p.tables e below (s₁.setTop (entryFrame m #[.ref x, .ref y] 3)) (T3.setTop (mkF m 15 #[.val (.ref x), .val (.ref y), .unset] [.ref y])) := (c2.trans (st3 _ (Steps.refl _))).trans (by
      refine XS.ifNo X3.here hexec rfl (hb hbytes d11) rfl (i0_eq_f (by decide)) ?_
      refine XS.aloadN X3.here hexec rfl (hb hbytes d14) rfl rfl ?_
      exact Steps.refl _)
    obtain ⟨T5, X5, q5, st5⟩ := cself X3 hexec hown (wk W (.classLink "java/lang/String" 10 "java/lang/String")) (hy.mv X3.warmed.alike hh3).1 (g := (mkF m 15 #[.val (.ref x), .val (.ref y), .unset] [.ref y])) rfl (rest := []) rfl (hb hbytes d15)
    have hh5 := q5.trans hh3
    have c6 : Steps p.tables e below (s₁.setTop (entryFrame m #[.ref x, .ref y] 3)) (T5.setTop (mkF m 19 #[.val (.ref x), .val (.ref y), .val (.ref y)] [])) := (c4.trans (st5 _ (Steps.refl _))).trans (by
      refine XS.astoreN X5.here hexec rfl (hb hbytes d18) rfl rfl rfl ?_
      exact Steps.refl _)
    obtain ⟨T7, X7, q7, st7⟩ := X5.sget hexec hown (wk W (.fieldLink "java/lang/String" 38 "java/lang/String" "COMPACT_STRINGS" "Z")) s1 (fun _ _ h => by rw [hh5]; exact h) (g := (mkF m 19 #[.val (.ref x), .val (.ref y), .val (.ref y)] [])) rfl (hb hbytes d19)
    have hh7 := q7.trans hh5
    have c8 : Steps p.tables e below (s₁.setTop (entryFrame m #[.ref x, .ref y] 3)) (T7.setTop (mkF m 26 #[.val (.ref x), .val (.ref y), .val (.ref y)] [.ref x])) := (c6.trans (st7 _ (Steps.refl _))).trans (by
      refine XS.ifNo X7.here hexec rfl (hb hbytes d22) rfl (i0_eq_f hz) ?_
      refine XS.aloadN X7.here hexec rfl (hb hbytes d25) rfl rfl ?_
      exact Steps.refl _)
    obtain ⟨T9, X9, q9, st9⟩ := X7.hget hexec hown (wk W (.fieldLink "java/lang/String" 15 "java/lang/String" "coder" "B")) (hx.mv X7.warmed.alike hh7).2.2.1 (g := (mkF m 26 #[.val (.ref x), .val (.ref y), .val (.ref y)] [.ref x])) rfl (rest := []) rfl (hb hbytes d26)
    have hh9 := q9.trans hh7
    have c10 : Steps p.tables e below (s₁.setTop (entryFrame m #[.ref x, .ref y] 3)) (T9.setTop (mkF m 30 #[.val (.ref x), .val (.ref y), .val (.ref y)] [.ref y, .int cd])) := (c8.trans (st9 _ (Steps.refl _))).trans (by
      refine XS.aloadN X9.here hexec rfl (hb hbytes d29) rfl rfl ?_
      exact Steps.refl _)
    obtain ⟨T11, X11, q11, st11⟩ := X9.hget hexec hown (wk W (.fieldLink "java/lang/String" 15 "java/lang/String" "coder" "B")) (hy.mv X9.warmed.alike hh9).2.2.1 (g := (mkF m 30 #[.val (.ref x), .val (.ref y), .val (.ref y)] [.ref y, .int cd])) rfl (rest := [.int cd]) rfl (hb hbytes d30)
    have hh11 := q11.trans hh9
    have c12 : Steps p.tables e below (s₁.setTop (entryFrame m #[.ref x, .ref y] 3)) (T11.setTop (mkF m 33 #[.val (.ref x), .val (.ref y), .val (.ref y)] [.int cd', .int cd])) := c10.trans (st11 _ (Steps.refl _))
    by_cases hcd : cd = cd'
    · subst hcd
      have c13 : Steps p.tables e below (s₁.setTop (entryFrame m #[.ref x, .ref y] 3)) (T11.setTop (mkF m 37 #[.val (.ref x), .val (.ref y), .val (.ref y)] [.ref x])) := c12.trans (by
        refine XS.icmpNo X11.here hexec rfl (hb hbytes d33) rfl (ii_ne_f rfl) ?_
        refine XS.aloadN X11.here hexec rfl (hb hbytes d36) rfl rfl ?_
        exact Steps.refl _)
      obtain ⟨T14, X14, q14, st14⟩ := X11.hget hexec hown (wk W (.fieldLink "java/lang/String" 9 "java/lang/String" "value" "[B")) (hx.mv X11.warmed.alike hh11).2.1 (g := (mkF m 37 #[.val (.ref x), .val (.ref y), .val (.ref y)] [.ref x])) rfl (rest := []) rfl (hb hbytes d37)
      have hh14 := q14.trans hh11
      have c15 : Steps p.tables e below (s₁.setTop (entryFrame m #[.ref x, .ref y] 3)) (T14.setTop (mkF m 41 #[.val (.ref x), .val (.ref y), .val (.ref y)] [.ref y, .ref t])) := (c13.trans (st14 _ (Steps.refl _))).trans (by
        refine XS.aloadN X14.here hexec rfl (hb hbytes d40) rfl rfl ?_
        exact Steps.refl _)
      obtain ⟨T16, X16, q16, st16⟩ := X14.hget hexec hown (wk W (.fieldLink "java/lang/String" 9 "java/lang/String" "value" "[B")) (hy.mv X14.warmed.alike hh14).2.1 (g := (mkF m 41 #[.val (.ref x), .val (.ref y), .val (.ref y)] [.ref y, .ref t])) rfl (rest := [.ref t]) rfl (hb hbytes d41)
      have hh16 := q16.trans hh14
      have c17 : Steps p.tables e below (s₁.setTop (entryFrame m #[.ref x, .ref y] 3)) (T16.setTop (mkF m 44 #[.val (.ref x), .val (.ref y), .val (.ref y)] [.ref t', .ref t])) := c15.trans (st16 _ (Steps.refl _))
      obtain ⟨v18, T18, X18, E18, g18⟩ := X16.callS hexec (LEq.law l t V t' V') hown (wks W (staticW "java/lang/String" 541 LEq.yN)) (wk W LEq.tab) (W := 0) (Nat.le_of_ble_eq_true rfl) (Nat.le_of_ble_eq_true rfl) (Nat.le_refl _) (Nat.le_refl _) (g := (mkF m 44 #[.val (.ref x), .val (.ref y), .val (.ref y)] [.ref t', .ref t])) rfl (by rw [hml]; rfl) c17 (argsL := [.ref t, .ref t']) (rest := []) rfl rfl (by show 2 * 0 + 0 ≤ _; decide) (hb hbytes d44) (⟨rfl, hx.2.2.2.1.mv X16.warmed.alike hh16, hx.2.2.2.2.1.ty, hy.2.2.2.1.mv X16.warmed.alike hh16, hy.2.2.2.2.1.ty⟩)
      obtain ⟨v, rfl, q18, hv⟩ := E18
      have iff := Cod.eqv hx.2.2.2.2.1 hy.2.2.2.2.1 hx.2.2.2.2.2 hy.2.2.2.2.2
      rcases hv with ⟨rfl, he⟩ | ⟨rfl, he⟩
      · have c19 : Steps p.tables e below (s₁.setTop (entryFrame m #[.ref x, .ref y] 3)) (T18.setTop (mkF m 55 #[.val (.ref x), .val (.ref y), .val (.ref y)] [.int 1])) := Steps.trans g18 (by
          refine XS.ifNo X18.here hexec rfl (hb hbytes d47) rfl (i0_eq_f (by decide)) ?_
          refine iconstV X18.here hexec rfl 1 (hb hbytes d50) (by decide) ?_
          refine XS.goto X18.here hexec rfl (pc0 := 51) rfl (hb hbytes d51) (by decide) rfl ?_
          exact Steps.refl _)
        exact ⟨T18, some (.int 1), _, _, _, X18, rfl, rfl, rfl, (fun h => by cases h), ⟨1, rfl, q18.trans hh16, Or.inl ⟨rfl, iff.mp he⟩⟩, fun fs hl => c19.trans (X18.ireturnOut hexec hret rfl (Or.inr (Or.inl rfl)) (hb hbytes d55) hl)⟩
      · have c19 : Steps p.tables e below (s₁.setTop (entryFrame m #[.ref x, .ref y] 3)) (T18.setTop (mkF m 55 #[.val (.ref x), .val (.ref y), .val (.ref y)] [.int 0])) := Steps.trans g18 (by
          refine XS.ifYes X18.here hexec rfl (pc0 := 47) rfl (hb hbytes d47) rfl (i0_eq_t rfl) (by decide) rfl ?_
          refine iconstV X18.here hexec rfl 0 (hb hbytes d54) (by decide) ?_
          exact Steps.refl _)
        exact ⟨T18, some (.int 0), _, _, _, X18, rfl, rfl, rfl, (fun h => by cases h), ⟨0, rfl, q18.trans hh16, Or.inr ⟨rfl, fun q => he (iff.mpr q)⟩⟩, fun fs hl => c19.trans (X18.ireturnOut hexec hret rfl (Or.inr (Or.inl rfl)) (hb hbytes d55) hl)⟩
    · have c13 : Steps p.tables e below (s₁.setTop (entryFrame m #[.ref x, .ref y] 3)) (T11.setTop (mkF m 55 #[.val (.ref x), .val (.ref y), .val (.ref y)] [.int 0])) := c12.trans (by
        refine XS.icmpYes X11.here hexec rfl (pc0 := 33) rfl (hb hbytes d33) rfl (ii_ne_t hcd) (by decide) rfl ?_
        refine iconstV X11.here hexec rfl 0 (hb hbytes d54) (by decide) ?_
        exact Steps.refl _)
      exact ⟨T11, some (.int 0), _, _, _, X11, rfl, rfl, rfl, (fun h => by cases h), ⟨0, rfl, hh11, Or.inr ⟨rfl, Cod.dif hx.2.2.2.2.1 hy.2.2.2.2.1 hcd⟩⟩, fun fs hl => c13.trans (X11.ireturnOut hexec hret rfl (Or.inr (Or.inl rfl)) (hb hbytes d55) hl)⟩
theorem pays {l : Launch} {R : Room} {p : Program} {e : Env} {below : List Frame} {s : State} {sargs : Array Value} {len W : Nat} (x t : Addr) (V : Cell) (cd : Int32) (n : Nat) (f : Nat → Int32) (y t' : Addr) (V' : Cell) (cd' : Int32) (k : Nat) (g : Nat → Int32) (z : Int32) (htab : tab.before sargs s = true) (hfr : 2 ≤ R.frames) (hlo : W + 28 ≤ R.locals) :
    Back l R p e below s sargs yN len W (fun A₁ a₁ => A₁.cells + 0 ≤ R.cells ∧ A₁.slots + 0 ≤ R.slots ∧ P x t V cd n f y t' V' cd' k g z a₁ A₁.U) (fun A₁ _ v₁ B₁ => Says01 (SameT n f k g) v₁ A₁.U B₁.U ∧ B₁.locs = A₁.locs ++ [] ∧ B₁.cells = A₁.cells + 0 ∧ B₁.slots = A₁.slots + 0) :=
  (law l x t V cd n f y t' V' cd' k g z).pays htab hfr (by omega)
end SEq
end StrChars
namespace StrChars.Road
open Jvm Sem ClassFile Op Lib Jvm.Stand Jvm.Free Jvm.Free.XT
open Jvm.Lib.Cold (StaticIs)
/-- the words of String.equals(Object) -/
abbrev wordsEq : List Jvm.Cond := [.code SEq.yN SEq.yB 3 (some .boolean), .initialized ST, .classLink ST 10 ST, .fieldLink ST 38 ST "COMPACT_STRINGS" "Z", .fieldLink ST 15 ST "coder" "B", .fieldLink ST 9 ST "value" "[B", .methodLink ST 541 LEq.yN, .static LEq.yN, .code LEq.yN LEq.yB 3 (some .boolean), .initialized "java/lang/StringLatin1"]
theorem tabEq_of {a : Array Value} {s : State} (h : ∀ w ∈ wordsEq, w.before a s = true) : SEq.tab.before a s = true := by
  have hl : LEq.tab.before a s = true := unparts (wk h (.code LEq.yN LEq.yB 3 (some .boolean))) (wks h (.initialized LEq.yN.cls :: LEq.site))
  have q := consq hl h
  exact unparts (wk q (.code SEq.yN SEq.yB 3 (some .boolean))) (wks q (.initialized SEq.yN.cls :: SEq.site))
theorem movedEq {Z s : State} {a0 args : Array Value} (hZ : Z.Warmed39 s.vm) (hw : ∀ d ∈ wordsEq, d.before a0 Z = true) : ∀ d ∈ wordsEq, d.before args s = true := fun d hd => by
  have t : ∀ d ∈ wordsEq, (d.onTables && d.keepsFace) = true := by decide +kernel
  exact RoadKit.mv hZ (hw d hd) (t d hd)
/-- the road's facts of a String, as the laws ask it -/
theorem txt_of {Z U : State} {a0 : Array Value} {kI : Nat} (wi : (Jvm.Cond.instantiable ST kI).before a0 Z = true) (al : Z.vm.Alike U.vm) {x t : Addr} {kb : ClassId} {cs : List Int32} {cd N2 : Int32} {vs : List Value} (E : RoadKit.Exa Z U.heap x ST) (V : RoadKit.Fld Z U.heap x ST "value" "[B" (.ref t)) (C : RoadKit.Fld Z U.heap x ST "coder" "B" (.int cd)) (K : RoadKit.Arv Z U.heap t kb .byte N2 vs (.int 0)) (hc : CodA cs cd N2 vs) (hb : ∀ c ∈ cs, ¬ c < 0 ∧ ¬ (65535 : Int32) < c) (l2 : cs.length ≤ 4000) :
    ∃ A, Txt x t A cd cs.length (fun j => cs.getD j 0) U := by
  obtain ⟨A, K1, K2, K3, K4, K5, K6⟩ := K
  have hcod := hc.cod (by omega) K3 K5
  obtain ⟨D, fV, fC, hB, F1, F2, g1, g2, -, -⟩ := strObj wi al E V C
  exact ⟨A, ⟨_, hB.2.2.1, D, hB.1, rfl, by cases q : D.vm <;> first | rfl | exact absurd q (hB.2.1.2 _)⟩, Has.of hB F1 g1, Has.of hB F2 g2, ⟨K1.1, State.isArrayOf_alike al K1.2.1, K1.2.2, by rcases hcod with ⟨-, q, -⟩ | ⟨-, q, -⟩ <;> omega⟩, hcod, fun j hj => by
    have e : cs.getD j 0 = cs[j] := by simp [List.getD_eq_getElem?_getD, hj]
    show ¬ cs.getD j 0 < 0 ∧ ¬ 65535 < cs.getD j 0
    rw [e]; exact hb _ (List.getElem_mem _)⟩
theorem same_list (cs ds : List Int32) : SameT cs.length (fun j => cs.getD j 0) ds.length (fun j => ds.getD j 0) ↔ cs = ds := by
  constructor
  · rintro ⟨e, q⟩
    refine List.ext_getElem e fun j h1 h2 => ?_
    have := q j h1
    simpa [List.getD_eq_getElem?_getD, h1, h2] using this
  · rintro rfl
    exact ⟨rfl, fun _ _ => rfl⟩
/-- **equals(Object) OF TWO SUCH STRINGS**: 1 just where the chars are the same -/
theorem eqW {p : Program} {l : Launch} {e : Env} {R : Room} {s : State} {args : Array Value} {below : List Frame} {len W : Nat} {Z : State} {a0 : Array Value} {h : Heap} (hZ : Z.Warmed39 s.vm) (hw : ∀ d ∈ wordsEq, d.before a0 Z = true) {kI : Nat} (wi : (Jvm.Cond.instantiable ST kI).before a0 Z = true)
    {x t : Addr} {kb : ClassId} {cs : List Int32} {cd N2 : Int32} {vs : List Value} (E : RoadKit.Exa Z h x ST) (V : RoadKit.Fld Z h x ST "value" "[B" (.ref t)) (C : RoadKit.Fld Z h x ST "coder" "B" (.int cd)) (K : RoadKit.Arv Z h t kb .byte N2 vs (.int 0)) (hc : CodA cs cd N2 vs) (hb : ∀ c ∈ cs, ¬ c < 0 ∧ ¬ (65535 : Int32) < c) (l2 : cs.length ≤ 4000)
    {y t' : Addr} {kb' : ClassId} {ds : List Int32} {cd' N2' : Int32} {vs' : List Value} (E' : RoadKit.Exa Z h y ST) (V' : RoadKit.Fld Z h y ST "value" "[B" (.ref t')) (C' : RoadKit.Fld Z h y ST "coder" "B" (.int cd')) (K' : RoadKit.Arv Z h t' kb' .byte N2' vs' (.int 0)) (hc' : CodA ds cd' N2' vs') (hb' : ∀ c ∈ ds, ¬ c < 0 ∧ ¬ (65535 : Int32) < c) (l2' : ds.length ≤ 4000)
    {z : Int32} (S : RoadKit.Sta Z h ST "COMPACT_STRINGS" "Z" (.int z)) (hz : ¬ z = 0) (hfr : 2 ≤ R.frames) (hlo : W + 28 ≤ R.locals) :
    Back l R p e below s args (⟨"java/lang/String", "equals", "(Ljava/lang/Object;)Z"⟩ : MethodName) len W (fun P a => a = #[.ref x, .ref y] ∧ P.U.heap = h ∧ P.cells + 0 ≤ R.cells ∧ P.slots + 0 ≤ R.slots)
      (fun P _ v B => ∃ L, (((v = some (.int 1) ∧ cs = ds) ∨ (v = some (.int 0) ∧ ¬ cs = ds)) ∧ L = [] ∧ B.U.heap = h) ∧ B.locs = P.locs ++ L ∧ B.cells = P.cells + 0 ∧ B.slots = P.slots + 0) := by
  intro m meth c P g ig mk a X hg hsize hdg hW hn hp'
  obtain ⟨rfl, rfl, r1, r2⟩ := hp'
  have al : Z.vm.Alike P.U.vm := hZ.alike.trans X.warmed.alike
  obtain ⟨A, hx⟩ := txt_of wi al E V C K hc hb l2
  obtain ⟨A', hy⟩ := txt_of wi al E' V' C' K' hc' hb' l2'
  obtain ⟨v, B, X', ⟨⟨w, hv, hh, hq⟩, hl, hk, hs⟩, st⟩ := SEq.pays x t A cd cs.length (fun j => cs.getD j 0) y t' A' cd' ds.length (fun j => ds.getD j 0) z (tabEq_of (movedEq hZ hw)) hfr hlo m meth c P g ig mk _ X hg hsize hdg hW hn ⟨r1, r2, rfl, hx, hy, sta_is al S, hz⟩
  refine ⟨v, B, X', ⟨[], ⟨?_, rfl, hh⟩, hl, hk, hs⟩, st⟩
  rcases hq with ⟨rfl, q⟩ | ⟨rfl, q⟩
  · exact Or.inl ⟨hv, (same_list cs ds).mp q⟩
  · exact Or.inr ⟨hv, fun e => q ((same_list cs ds).mpr e)⟩
end StrChars.Road
namespace StrChars
open Jvm Sem ClassFile Op Lib Jvm.Stand Jvm.Free.XT Jvm.Free.ALB Jvm.Free.JM Jvm.Free
open Jvm.Lib.Cold (StaticIs)
namespace ChN
def yN : MethodName := ⟨"java/lang/String", "charAt", "(I)C"⟩
abbrev yB : ByteArray := jdk_42_method_56_code
theorem d0 : decode yB 0 = .ok (.aload_n 0, 1) := by decide +kernel
theorem d1 : decode yB 1 = .ok (.invokevirtual 492, 3) := by decide +kernel
theorem d4 : decode yB 4 = .ok (.ifCond (.eq) 12, 3) := by decide +kernel
theorem d7 : decode yB 7 = .ok (.aload_n 0, 1) := by decide +kernel
theorem d8 : decode yB 8 = .ok (.getfield 9, 3) := by decide +kernel
theorem d11 : decode yB 11 = .ok (.iload_n 1, 1) := by decide +kernel
theorem d12 : decode yB 12 = .ok (.invokestatic 495, 3) := by decide +kernel
theorem d15 : decode yB 15 = .ok (.ireturn, 1) := by decide +kernel
def site : List Cond := [.fieldLink "java/lang/String" 9 "java/lang/String" "value" "[B", IsL.tab, LChA.tab] ++ virtW "java/lang/String" 492 "java/lang/String" IsL.yN IsL.yN ++ staticW "java/lang/String" 495 LChA.yN
def tab : Cond := tabOf yN yB 2 (some .char) site
def P (x t : Addr) (V : Cell) (n : Nat) (f : Nat → Int32) (z : Int32) (fm : Value) (i : Nat) (args : Array Value) (s : State) : Prop := args = #[.ref x, .int (Int32.ofNat i)] ∧ Txt x t V 0 n f s ∧ i < n ∧ StaticIs s "java/lang/String" "COMPACT_STRINGS" "Z" (.int z) ∧ ¬ z = 0 ∧ StaticIs s "jdk/internal/util/Preconditions" "SIOOBE_FORMATTER" "Ljava/util/function/BiFunction;" fm ∧ fm.isRef = true
def E (f : Nat → Int32) (i : Nat) (r : Option Value) (s u : State) : Prop := XT.PureE (some (.int (f i))) r s u
/-- charAt(i) of a Latin-1 String of n chars, i < n: f i -/
theorem law (l : Launch) (x t : Addr) (V : Cell) (n : Nat) (f : Nat → Int32) (z : Int32) (fm : Value) (i : Nat) : Law l yN 2 1 3 40 yB 2 (some .char) site (P x t V n f z fm i) (E f i) [] 0 0 := by
  refine Law.of_walk (plainFor_of_name (by decide +kernel)) (by decide +kernel) (by decide +kernel) (by decide) (fun _ _ h => by rw [h.1]; rfl) (fun _ U U' hal hh h => ⟨h.1, h.2.1.mv hal hh, h.2.2.1, h.2.2.2.1.there hal hh, h.2.2.2.2.1, h.2.2.2.2.2.1.there hal hh, h.2.2.2.2.2.2⟩) (fun r U U' V V' h1 hal h2 h => XT.PureE.mv r U U' V V' h1 hal h2 h) ?_
  intro p e s m args below meth c s₁ X0 hexec hbytes hml hret hlk hnm hown hh0 W hP
  obtain ⟨rfl, hx, hi, s1, hz, s3, rf⟩ := hP
  have v31 := hx.2.2.2.1.2.2.2
  have hr := hx.2.2.2.2.2 i hi
  have hx0 := hx.mv X0.warmed.alike hh0
  have c1 : Steps p.tables e below (s₁.setTop (entryFrame m #[.ref x, .int (Int32.ofNat i)] 2)) (s₁.setTop (mkF m 1 #[.val (.ref x), .val (.int (Int32.ofNat i))] [.ref x])) := Steps.trans (entry rfl) (by
    show Steps p.tables e below (s₁.setTop (mkF m 0 #[.val (.ref x), .val (.int (Int32.ofNat i))] [])) _
    refine XS.aloadN X0.here hexec rfl (hb hbytes d0) rfl rfl ?_
    exact Steps.refl _)
  obtain ⟨v2, T2, X2, E2, g2⟩ := X0.callV hexec (IsL.law l x 0 z) hown (wks W (virtW "java/lang/String" 492 "java/lang/String" IsL.yN IsL.yN)) rfl (by decide) (wk W IsL.tab) (W := 0) (Nat.le_of_ble_eq_true rfl) (Nat.le_of_ble_eq_true rfl) (Nat.le_refl _) (Nat.le_refl _) (hx0.1.fc X0.warmed.alike) hx0.1.is (g := (mkF m 1 #[.val (.ref x), .val (.int (Int32.ofNat i))] [.ref x])) rfl (by rw [hml]; rfl) c1 (argsL := []) (rest := []) rfl rfl (by show 2 * 0 + 0 ≤ _; decide) (hb hbytes d1) (⟨rfl, hx0.2.2.1, hx.2.2.2.2.1.cd, s1.there X0.warmed.alike hh0, hz⟩)
  obtain ⟨rfl, q2⟩ := E2
  have hh2 := q2.trans hh0
  have hx2 := hx.mv X2.warmed.alike hh2
  obtain ⟨-, k1, k2⟩ | ⟨k0, -⟩ := hx.2.2.2.2.1
  · have c3 : Steps p.tables e below (s₁.setTop (entryFrame m #[.ref x, .int (Int32.ofNat i)] 2)) (T2.setTop (mkF m 8 #[.val (.ref x), .val (.int (Int32.ofNat i))] [.ref x])) := Steps.trans g2 (by
      refine XS.ifNo X2.here hexec rfl (hb hbytes d4) rfl (i0_eq_f (by decide)) ?_
      refine XS.aloadN X2.here hexec rfl (hb hbytes d7) rfl rfl ?_
      exact Steps.refl _)
    obtain ⟨T4, X4, q4, st4⟩ := X2.hget hexec hown (wk W (.fieldLink "java/lang/String" 9 "java/lang/String" "value" "[B")) hx2.2.1 (g := (mkF m 8 #[.val (.ref x), .val (.int (Int32.ofNat i))] [.ref x])) rfl (rest := []) rfl (hb hbytes d8)
    have hh4 := q4.trans hh2
    have c5 : Steps p.tables e below (s₁.setTop (entryFrame m #[.ref x, .int (Int32.ofNat i)] 2)) (T4.setTop (mkF m 12 #[.val (.ref x), .val (.int (Int32.ofNat i))] [.int (Int32.ofNat i), .ref t])) := (c3.trans (st4 _ (Steps.refl _))).trans (by
      refine XS.iloadN X4.here hexec rfl (hb hbytes d11) rfl ?_
      exact Steps.refl _)
    obtain ⟨v6, T6, X6, E6, g6⟩ := X4.callS hexec (LChA.law l t V i (lo8 (f i)) fm) hown (wks W (staticW "java/lang/String" 495 LChA.yN)) (wk W LChA.tab) (W := 0) (Nat.le_of_ble_eq_true rfl) (Nat.le_of_ble_eq_true rfl) (Nat.le_refl _) (Nat.le_refl _) (g := (mkF m 12 #[.val (.ref x), .val (.int (Int32.ofNat i))] [.int (Int32.ofNat i), .ref t])) rfl (by rw [hml]; rfl) c5 (argsL := [.ref t, .int (Int32.ofNat i)]) (rest := []) rfl rfl (by show 2 * 0 + 0 ≤ _; decide) (hb hbytes d12) (⟨rfl, hx.2.2.2.1.mv X4.warmed.alike hh4, (k2 i hi).1, s3.there X4.warmed.alike hh4, rf⟩)
    obtain ⟨rfl, q6⟩ := E6
    rw [chr8_lo8 hr.1 (k2 i hi).2] at g6
    exact ⟨T6, some (.int (f i)), _, _, _, X6, rfl, rfl, rfl, (fun h => by cases h), ⟨rfl, q6.trans hh4⟩, fun fs hl => Steps.trans g6 (X6.ireturnOut hexec hret (narrow_ch hr.1 hr.2) (Or.inr (Or.inr (Or.inr (Or.inl rfl)))) (hb hbytes d15) hl)⟩
  · exact absurd k0 (by decide)
theorem pays {l : Launch} {R : Room} {p : Program} {e : Env} {below : List Frame} {s : State} {sargs : Array Value} {len W : Nat} (x t : Addr) (V : Cell) (n : Nat) (f : Nat → Int32) (z : Int32) (fm : Value) (i : Nat) (htab : tab.before sargs s = true) (hfr : 4 ≤ R.frames) (hlo : W + 53 ≤ R.locals) :
    Back l R p e below s sargs yN len W (fun A₁ a₁ => A₁.cells + 0 ≤ R.cells ∧ A₁.slots + 0 ≤ R.slots ∧ P x t V n f z fm i a₁ A₁.U) (fun A₁ _ v₁ B₁ => E f i v₁ A₁.U B₁.U ∧ B₁.locs = A₁.locs ++ [] ∧ B₁.cells = A₁.cells + 0 ∧ B₁.slots = A₁.slots + 0) :=
  (law l x t V n f z fm i).pays htab hfr (by omega)
end ChN
end StrChars
namespace StrChars.Road
open Jvm Sem ClassFile Op Lib Jvm.Stand Jvm.Free Jvm.Free.XT
open Jvm.Lib.Cold (StaticIs)
/-- the words of String.charAt(int), the Latin-1 road alone -/
abbrev wordsChN : List Jvm.Cond := [.code ChN.yN ChN.yB 2 (some .char), .initialized ST, .fieldLink ST 9 ST "value" "[B", .fieldLink ST 38 ST "COMPACT_STRINGS" "Z", .fieldLink ST 15 ST "coder" "B", .code IsL.yN IsL.yB 1 (some .boolean), .methodLink ST 492 IsL.yN, .declares IsL.yN, .selects ST IsL.yN IsL.yN, .instanceMethod IsL.yN,
  .methodLink ST 495 LChA.yN, .static LChA.yN, .code LChA.yN LChA.yB 2 (some .char), .initialized "java/lang/StringLatin1", .methodLink "java/lang/StringLatin1" 9 JO.Str_checkIndex.yN, .static JO.Str_checkIndex.yN, .code JO.Str_checkIndex.yN JO.Str_checkIndex.yB 2 none,
  .fieldLink ST 1053 "jdk/internal/util/Preconditions" "SIOOBE_FORMATTER" "Ljava/util/function/BiFunction;", .methodLink ST 1059 JC.PreCheck.yN, .static JC.PreCheck.yN, .code JC.PreCheck.yN JC.PreCheck.yB 3 (some .int), .initialized "jdk/internal/util/Preconditions"]
theorem tabChN_of {a : Array Value} {s : State} (h : ∀ w ∈ wordsChN, w.before a s = true) : ChN.tab.before a s = true := by
  have hp : JC.PreCheck.tab.before a s = true := unparts (wk h (.code JC.PreCheck.yN JC.PreCheck.yB 3 (some .int))) (wks h (.initialized JC.PreCheck.yN.cls :: JC.PreCheck.site))
  have qk := consq hp h
  have hk : JO.Str_checkIndex.tab.before a s = true := unparts (wk qk (.code JO.Str_checkIndex.yN JO.Str_checkIndex.yB 2 none)) (wks qk (.initialized JO.Str_checkIndex.yN.cls :: JO.Str_checkIndex.site))
  have ql := consq hk h
  have hl : LChA.tab.before a s = true := unparts (wk ql (.code LChA.yN LChA.yB 2 (some .char))) (wks ql (.initialized LChA.yN.cls :: LChA.site))
  have hi : IsL.tab.before a s = true := unparts (wk h (.code IsL.yN IsL.yB 1 (some .boolean))) (wks h (.initialized IsL.yN.cls :: IsL.site))
  have q := consq hi (consq hl h)
  exact unparts (wk q (.code ChN.yN ChN.yB 2 (some .char))) (wks q (.initialized ChN.yN.cls :: ChN.site))
theorem movedChN {Z s : State} {a0 args : Array Value} (hZ : Z.Warmed39 s.vm) (hw : ∀ d ∈ wordsChN, d.before a0 Z = true) : ∀ d ∈ wordsChN, d.before args s = true := fun d hd => by
  have t : ∀ d ∈ wordsChN, (d.onTables && d.keepsFace) = true := by decide +kernel
  exact RoadKit.mv hZ (hw d hd) (t d hd)
/-- **charAt(i) OF A LATIN-1 STRING**, i < n: the char -/
theorem chN {p : Program} {l : Launch} {e : Env} {R : Room} {s : State} {args : Array Value} {below : List Frame} {len W : Nat} {Z : State} {a0 : Array Value} {h : Heap} (hZ : Z.Warmed39 s.vm) (hw : ∀ d ∈ wordsChN, d.before a0 Z = true) {kI : Nat} (wi : (Jvm.Cond.instantiable ST kI).before a0 Z = true)
    {x t : Addr} {kb : ClassId} {cs : List Int32} {N2 z : Int32} {vs : List Value} {fm : Value} {i : Nat} {j : Int32} (E : RoadKit.Exa Z h x ST) (V : RoadKit.Fld Z h x ST "value" "[B" (.ref t)) (C : RoadKit.Fld Z h x ST "coder" "B" (.int 0)) (K : RoadKit.Arv Z h t kb .byte N2 vs (.int 0)) (hc : CodA cs 0 N2 vs) (hb : ∀ c ∈ cs, ¬ c < 0 ∧ ¬ (65535 : Int32) < c)
    (S : RoadKit.Sta Z h ST "COMPACT_STRINGS" "Z" (.int z)) (hz : ¬ z = 0) (F : RoadKit.Sta Z h "jdk/internal/util/Preconditions" "SIOOBE_FORMATTER" "Ljava/util/function/BiFunction;" fm) (rf : fm.isRef = true) (l2 : cs.length ≤ 4000) (hi : i < cs.length) (hj : j = Int32.ofNat i) (hfr : 4 ≤ R.frames) (hlo : W + 53 ≤ R.locals) :
    Back l R p e below s args (⟨"java/lang/String", "charAt", "(I)C"⟩ : MethodName) len W (fun P a => a = #[.ref x, .int j] ∧ P.U.heap = h ∧ P.cells + 0 ≤ R.cells ∧ P.slots + 0 ≤ R.slots)
      (fun P _ v B => ∃ L, (v = some (.int (cs.getD i 0)) ∧ L = [] ∧ B.U.heap = h) ∧ B.locs = P.locs ++ L ∧ B.cells = P.cells + 0 ∧ B.slots = P.slots + 0) := by
  subst hj
  intro m meth c P g ig mk a X hg hsize hdg hW hn hp'
  obtain ⟨rfl, rfl, r1, r2⟩ := hp'
  have al : Z.vm.Alike P.U.vm := hZ.alike.trans X.warmed.alike
  obtain ⟨A, hx⟩ := txt_of wi al E V C K hc hb l2
  obtain ⟨v, B, X', ⟨⟨hv, hh⟩, hl, hk, hs⟩, st⟩ := ChN.pays x t A cs.length (fun j => cs.getD j 0) z fm i (tabChN_of (movedChN hZ hw)) hfr hlo m meth c P g ig mk _ X hg hsize hdg hW hn ⟨r1, r2, rfl, hx, hi, sta_is al S, hz, sta_is al F, rf⟩
  exact ⟨v, B, X', ⟨[], ⟨hv, rfl, hh⟩, hl, hk, hs⟩, st⟩
/-- what backV says of its String, as the contracts of this text ask it: cs's low bytes, coder 0 -/
theorem codOf {cs : List Int32} {n : Nat} (hn : cs.length = n) (hb : ∀ c ∈ cs, ¬ 255 < c) : CodA cs 0 (Int32.ofNat n) ((cs.map lo8).map Value.int) := Or.inl ⟨rfl, by rw [hn], by simp [List.map_map, Function.comp_def], hb⟩
end StrChars.Road
end Jvm.Pilot.@@N@@
namespace Jvm.Pilot.@@N@@
open Jvm Jvm.ClassFile Sem Op Lib Jvm.Free Jvm.Stand Jvm.LawKit Jvm.RoadKit Bundle Jvm.Pilot.@@N@@.Jvm.D
theorem own_eqI {args : Array Value} {s : State} {t : Term} {n : Int32} (h : (Jvm.Cond.eq t (.int n)).value args s none s [] = some true) : t.eval args s none [] s = some (.int n) := Cond.eq_int (Cond.before_iff.mpr h) rfl
theorem own_eqR {args : Array Value} {s : State} {t u : Term} {o : Addr} (h : (Jvm.Cond.eq t u).value args s none s [] = some true) (hu : u.eval args s none [] s = some (.ref o)) : t.eval args s none [] s = some (.ref o) := by
  obtain ⟨x, y, hx, hy, k1, k2⟩ := cmp_v (Or.inl h)
  cases hy.symm.trans hu
  have e := gotT (eq_R hx hu k2.2 rfl) h
  rw [e] at hx; exact hx
theorem own_arv {args : Array Value} {s : State} {t : Term} {a : Addr} {ty : FieldType} {n : Int32} {vs : List Value} {dv : Value} (hf : Fit s) (ev : t.eval args s none [] s = some (.ref a)) (ho : (Jvm.Cond.arrayOf t ty).value args s none s [] = some true)
    (hlen : (Term.length t).eval args s none [] s = some (.int n)) (hn : ¬ n < 0) (hl : n.toNatClampNeg = vs.length) (H : ∀ c : Cell, s.heap[a]? = some c → HasL c 0 vs) : ∃ k, Arv s s.heap a k ty n vs dv := by
  obtain ⟨c, A⟩ := Arr.start ev ho
  have ha : s.arrayAt? a = some c := IntBox.arrayAt_of A.1 A.2.1 A.2.2
  have h31 : c.slots.size < 2 ^ 31 := SBG.length_lt ev ha hlen
  have e := (len_f ev ha h31).symm.trans hlen
  exact ⟨_, Arv.start hf A h31 (Value.int.inj (Option.some.inj e)) hn hl (H c A.1)⟩
theorem own_fits : ∀ (t : FieldType) (v : Value), v.isRef = true → t.isReference = true → fits t v = true := fun t v hv ht => by
  cases t <;> first | (cases ht; done) | (cases v <;> simp [fits, Value.isRef] at hv ⊢)
theorem up (cs : List Int32) (h : ∀ c ∈ cs, ¬ c < 0 ∧ ¬ (255 : Int32) < c) : ∀ c ∈ cs, ¬ c < 0 ∧ ¬ (65535 : Int32) < c := fun c hc => ⟨(h c hc).1, fun q => (h c hc).2 (by rw [Int32.lt_iff_toInt_lt] at q ⊢; have e1 : (65535 : Int32).toInt = 65535 := rfl; have e2 : (255 : Int32).toInt = 255 := rfl; omega)⟩
def own_al (c : Int32) : Prop := (¬ c < (97 : Int32) ∧ ¬ (122 : Int32) < c) ∨ (¬ c < (48 : Int32) ∧ ¬ (57 : Int32) < c)
theorem own_al_toInt {c : Int32} : own_al c ↔ (97 ≤ c.toInt ∧ c.toInt ≤ 122) ∨ (48 ≤ c.toInt ∧ c.toInt ≤ 57) := by
  have e1 : (97 : Int32).toInt = 97 := rfl
  have e2 : (122 : Int32).toInt = 122 := rfl
  have e3 : (48 : Int32).toInt = 48 := rfl
  have e4 : (57 : Int32).toInt = 57 := rfl
  unfold own_al
  simp only [Int32.lt_iff_toInt_lt, e1, e2, e3, e4, Int.not_lt]
theorem own_nar (c : Int32) (h0 : 0 ≤ c.toInt) (h1 : c.toInt ≤ 65535) : nar .char c = c := by
  have e : nar .char c = c.toUInt32.toUInt16.toUInt32.toInt32 := rfl
  rw [e]
  apply Int32.toInt_inj.mp
  have := c_i2c c
  omega
theorem own_al_nar {c : Int32} (h : own_al c) : nar .char c = c := by
  rw [own_al_toInt] at h
  exact own_nar c (by omega) (by omega)
theorem own_al_255 {c : Int32} (h : own_al c) : ¬ c < 0 ∧ ¬ (255 : Int32) < c := by
  rw [own_al_toInt] at h
  have e0 : (0 : Int32).toInt = 0 := rfl
  have e1 : (255 : Int32).toInt = 255 := rfl
  constructor
  · rw [Int32.lt_iff_toInt_lt]; omega
  · rw [Int32.lt_iff_toInt_lt]; omega
theorem own_al_45 {c : Int32} (h : own_al c) : ¬ c = (45 : Int32) := by
  rintro rfl
  rw [own_al_toInt] at h
  have e1 : (45 : Int32).toInt = 45 := rfl
  omega
theorem own_alnum (x : Int32) : 0 ≤ ((x &&& (2147483647 : Int32)) % (36 : Int32)).toInt ∧ ((x &&& (2147483647 : Int32)) % (36 : Int32)).toInt ≤ 35 := by
  have h1 := c_and x 2147483647 (by decide)
  have h2 := (c_irem (x &&& 2147483647) 36 36 rfl).1 h1.1
  rw [h2]; omega
theorem own_alA (x : Int32) (h : (x &&& (2147483647 : Int32)) % (36 : Int32) < (26 : Int32)) : own_al (nar .char ((((97 : Int32) + ((x &&& (2147483647 : Int32)) % (36 : Int32))).toUInt32.toUInt16.toUInt32.toInt32))) := by
  have k := own_alnum x
  generalize (x &&& (2147483647 : Int32)) % (36 : Int32) = y at h k ⊢
  rw [Int32.lt_iff_toInt_lt] at h
  have e1 : (26 : Int32).toInt = 26 := rfl
  have e2 : (97 : Int32).toInt = 97 := rfl
  have a1 := c_iadd 97 y
  have b1 := rng32 (97 + y)
  have a2 := c_i2c (97 + y)
  have v : ((97 + y).toUInt32.toUInt16.toUInt32.toInt32).toInt = 97 + y.toInt := by omega
  rw [own_nar _ (by omega) (by omega), own_al_toInt]
  omega
theorem own_alB (x : Int32) (h : ¬ ((x &&& (2147483647 : Int32)) % (36 : Int32) < (26 : Int32))) : own_al (nar .char ((((48 : Int32) + (((x &&& (2147483647 : Int32)) % (36 : Int32)) - (26 : Int32))).toUInt32.toUInt16.toUInt32.toInt32))) := by
  have k := own_alnum x
  generalize (x &&& (2147483647 : Int32)) % (36 : Int32) = y at h k ⊢
  rw [Int32.lt_iff_toInt_lt] at h
  have e1 : (26 : Int32).toInt = 26 := rfl
  have e2 : (48 : Int32).toInt = 48 := rfl
  have a0 := c_isub y 26
  have b0 := rng32 (y - 26)
  have a1 := c_iadd 48 (y - 26)
  have b1 := rng32 (48 + (y - 26))
  have a2 := c_i2c (48 + (y - 26))
  have v : ((48 + (y - 26)).toUInt32.toUInt16.toUInt32.toInt32).toInt = 48 + (y.toInt - 26) := by omega
  rw [own_nar _ (by omega) (by omega), own_al_toInt]
  omega
theorem own_ofNat {i : Nat} (h : i < 4001) : (Int32.ofNat i).toInt = (i : Int) := Int32.toInt_ofNat_small (Nat.lt_trans h (by decide))
theorem own_lt {i n : Nat} (h : i < n) (hn : n < 4001) : Int32.ofNat i < Int32.ofNat n := by rw [Int32.lt_iff_toInt_lt, own_ofNat (Nat.lt_trans h hn), own_ofNat hn]; omega
theorem own_nlt {i n : Nat} (h : n ≤ i) (hi : i < 4001) : ¬ (Int32.ofNat i < Int32.ofNat n) := by rw [Int32.lt_iff_toInt_lt, own_ofNat hi, own_ofNat (Nat.lt_of_le_of_lt h hi)]; omega
theorem own_succ {i : Nat} (h : i < 4000) : Int32.ofNat i + (1 : Int32) = Int32.ofNat (i + 1) := by
  apply Int32.toInt_inj.mp
  have a := c_iadd (Int32.ofNat i) 1
  have b := rng32 (Int32.ofNat i + 1)
  rw [own_ofNat (Nat.succ_lt_succ h)]
  rw [own_ofNat (Nat.lt_succ_of_lt h)] at a
  have e : (1 : Int32).toInt = 1 := rfl
  omega
theorem own_pred {i : Nat} (h0 : 0 < i) (h : i < 4001) : Int32.ofNat i - (1 : Int32) = Int32.ofNat (i - 1) := by
  apply Int32.toInt_inj.mp
  have a := c_isub (Int32.ofNat i) 1
  have b := rng32 (Int32.ofNat i - 1)
  rw [own_ofNat (Nat.lt_of_le_of_lt (Nat.sub_le i 1) h)]
  rw [own_ofNat h] at a
  have e : (1 : Int32).toInt = 1 := rfl
  omega
theorem own_inj {i n : Nat} (h : Int32.ofNat i = Int32.ofNat n) (hi : i < 4001) (hn : n < 4001) : i = n := by
  have := congrArg Int32.toInt h
  rw [own_ofNat hi, own_ofNat hn] at this
  omega
def own_ok (cs : List Int32) : Prop := ∀ i, i < cs.length → own_al (cs.getD i 0) ∨ (cs.getD i 0 = (45 : Int32) ∧ 0 < i ∧ i + 1 < cs.length ∧ ¬ cs.getD (i - 1) 0 = (45 : Int32))
def QAl (Z : State)  (h0 : Heap) (n0 : Nat) (v : Option Value) (h : Heap) (L : List Loc) : Prop := ∃ c : Int32, v = some (.int c) ∧ Fr n0 L ∧ h = h0 ∧ own_al c
theorem d_method_2_code_0 : decode method_2_code 0 = .ok (.iload_n 0, 1) := by decide +kernel
theorem d_method_2_code_1 : decode method_2_code 1 = .ok (.ldc 7, 2) := by decide +kernel
theorem d_method_2_code_3 : decode method_2_code 3 = .ok (.iand, 1) := by decide +kernel
theorem d_method_2_code_4 : decode method_2_code 4 = .ok (.bipush 36, 2) := by decide +kernel
theorem d_method_2_code_6 : decode method_2_code 6 = .ok (.irem, 1) := by decide +kernel
theorem d_method_2_code_7 : decode method_2_code 7 = .ok (.istore_n 1, 1) := by decide +kernel
theorem d_method_2_code_8 : decode method_2_code 8 = .ok (.iload_n 1, 1) := by decide +kernel
theorem d_method_2_code_9 : decode method_2_code 9 = .ok (.bipush 26, 2) := by decide +kernel
theorem d_method_2_code_11 : decode method_2_code 11 = .ok (.if_icmp .ge 9, 3) := by decide +kernel
theorem d_method_2_code_14 : decode method_2_code 14 = .ok (.bipush 97, 2) := by decide +kernel
theorem d_method_2_code_16 : decode method_2_code 16 = .ok (.iload_n 1, 1) := by decide +kernel
theorem d_method_2_code_17 : decode method_2_code 17 = .ok (.iadd, 1) := by decide +kernel
theorem d_method_2_code_18 : decode method_2_code 18 = .ok (.i2c, 1) := by decide +kernel
theorem d_method_2_code_19 : decode method_2_code 19 = .ok (.ireturn, 1) := by decide +kernel
theorem pn_com_example_nimble_queue_nimblequeue_core_QueueNameOfPinLaw : plainName "com/example/nimble_queue/nimblequeue/core/QueueNameOfPinLaw" = true := by first | (simp [plainName, overriddenIn]; done) | decide +kernel
theorem ef_rmAlA (m : MethodId) (x0 : Int32) : entryFrame m #[(.int x0)] 2 = mkF m 0 #[.val (.int x0), .unset] [] := by first | (simp [entryFrame, mkF, argsToLocals, Value.category]; done) | rfl
set_option maxRecDepth 65536 in
set_option maxHeartbeats 40000000 in
theorem rmAlA (l : Launch) (Z : State) (a0 : Array Value) (hw : ∀ d ∈ tables_1, d.before a0 Z = true) (ws : List Jvm.Cond) (p1 : Int32) (h0 : Heap) (n0 : Nat) (O0 : Old Z n0 h0) (hq : ((p1 &&& (2147483647 : Int32)) % (36 : Int32)) < (26 : Int32)) :
    MetFree l (⟨"com/example/nimble_queue/nimblequeue/core/QueueNameOfPinLaw", "alnum", "(I)C"⟩ : MethodName) (head1 (Jvm.Cond.code (⟨"com/example/nimble_queue/nimblequeue/core/QueueNameOfPinLaw", "alnum", "(I)C"⟩ : MethodName) method_2_code 2 (some .char) :: ws) ({ frames := 0, cells := 0, slots := 0, locals := 0 } : Room)) (fun aa_ U => aa_ = #[(.int p1)] ∧ Z.Warmed39 U.vm ∧ U.heap = h0) (fun _ _ _ _ _ => True) (fun _ U o U' => ∃ v L, o = .returned v ∧ QAl Z h0 n0 v U'.heap L ∧ FrameEnd U o U' L ({ frames := 0, cells := 0, slots := 0, locals := 0 } : Room).cells ({ frames := 0, cells := 0, slots := 0, locals := 0 } : Room).slots) := by
  refine MetFree.of_bodySF (plainFor_of_name pn_com_example_nimble_queue_nimblequeue_core_QueueNameOfPinLaw) hisR ?_
  intro p e s m args below meth c s₁ Bd hml0 hP hK
  obtain ⟨rfl, hZ, hh⟩ := hP
  have hx := Bd.exec
  have hby := Bd.bytes
  have hml : c.maxLocals = 2 := hml0
  have hown : s.vm.findClass "com/example/nimble_queue/nimblequeue/core/QueueNameOfPinLaw" = some m.cls := findClass_of_methodNamed Bd.named
  have hnm := (name_of_methodNamed Bd.named Bd.method).1
  have X0 : Stand p l e ({ frames := 0, cells := 0, slots := 0, locals := 0 } : Room) s m #[(.int p1)] below meth c s₁ [] 0 0 := Stand.of_body Bd
  have e0 : s₁.heap = h0 := by rw [← hh, Bd.state]; rfl
  have N0 := Fr.nil n0
  have Z0 : n0 ≤ h0.size := O0.1 ▸ O0.2.1
  have K0 : Keep h0 h0 [] := Keep.refl _ _
  have pre0 : ∀ tgt_, Steps p.tables e below (s₁.setTop (mkF m 0 #[.val (.int p1), .unset] [])) tgt_ → Steps p.tables e below (s₁.setTop (entryFrame m #[(.int p1)] 2)) tgt_ := fun tgt_ k => castTop (ef_rmAlA m p1) k
  obtain ⟨fs, hr, hrun, hended, hW, hsame⟩ := X0.leave (v := some (.int (nar .char (((97 : Int32) + ((p1 &&& (2147483647 : Int32)) % (36 : Int32))).toUInt32.toUInt16.toUInt32.toInt32)))) (fun h => by rw [Bd.returns] at h; cases h)
  refine ⟨_, _, pre0 _ ?_, hrun, hended, _, _, rfl, ?_, ⟨_, rfl⟩, hW, hsame.mono (by decide) (by decide)⟩
  · show Steps p.tables e below (s₁.setTop (mkF m 0 #[.val (.int p1), .unset] [])) _
    refine XS.iloadN X0.here hx rfl (hb hby d_method_2_code_0) rfl ?_
    show Steps p.tables e below (s₁.setTop (mkF m 1 #[.val (.int p1), .unset] [(.int p1)])) _
    refine X0.ldcInt hx hown (mvT hZ (hw _ (List.mem_of_getElem? (i := 4) rfl))) (g := (mkF m 1 #[.val (.int p1), .unset] [(.int p1)])) rfl (hb hby d_method_2_code_1) _ ?_
    show Steps p.tables e below (s₁.setTop (mkF m 3 #[.val (.int p1), .unset] [(.int (2147483647 : Int32)), (.int p1)])) _
    refine XS.iand X0.here hx rfl (hb hby d_method_2_code_3) rfl ?_
    show Steps p.tables e below (s₁.setTop (mkF m 4 #[.val (.int p1), .unset] [(.int (p1 &&& (2147483647 : Int32)))])) _
    refine XS.bipush X0.here hx rfl (hb hby d_method_2_code_4) ?_
    show Steps p.tables e below (s₁.setTop (mkF m 6 #[.val (.int p1), .unset] [(.int (36 : Int32)), (.int (p1 &&& (2147483647 : Int32)))])) _
    refine Jvm.RoadKit.iremM (g := (mkF m 6 #[.val (.int p1), .unset] [(.int (36 : Int32)), (.int (p1 &&& (2147483647 : Int32)))])) X0 hx rfl (hb hby d_method_2_code_6) rfl (by decide) ?_
    show Steps p.tables e below (s₁.setTop (mkF m 7 #[.val (.int p1), .unset] [(.int ((p1 &&& (2147483647 : Int32)) % (36 : Int32)))])) _
    refine XS.istoreN X0.here hx rfl (hb hby d_method_2_code_7) rfl (l' := #[.val (.int p1), .val (.int ((p1 &&& (2147483647 : Int32)) % (36 : Int32)))]) rfl ?_
    show Steps p.tables e below (s₁.setTop (mkF m 8 #[.val (.int p1), .val (.int ((p1 &&& (2147483647 : Int32)) % (36 : Int32)))] [])) _
    refine XS.iloadN X0.here hx rfl (hb hby d_method_2_code_8) rfl ?_
    show Steps p.tables e below (s₁.setTop (mkF m 9 #[.val (.int p1), .val (.int ((p1 &&& (2147483647 : Int32)) % (36 : Int32)))] [(.int ((p1 &&& (2147483647 : Int32)) % (36 : Int32)))])) _
    refine XS.bipush X0.here hx rfl (hb hby d_method_2_code_9) ?_
    show Steps p.tables e below (s₁.setTop (mkF m 11 #[.val (.int p1), .val (.int ((p1 &&& (2147483647 : Int32)) % (36 : Int32)))] [(.int (26 : Int32)), (.int ((p1 &&& (2147483647 : Int32)) % (36 : Int32)))])) _
    refine XS.icmpNo X0.here hx rfl (hb hby d_method_2_code_11) rfl (tlt (hq : ((p1 &&& (2147483647 : Int32)) % (36 : Int32)) < (26 : Int32))).2.1 ?_
    show Steps p.tables e below (s₁.setTop (mkF m 14 #[.val (.int p1), .val (.int ((p1 &&& (2147483647 : Int32)) % (36 : Int32)))] [])) _
    refine XS.bipush X0.here hx rfl (hb hby d_method_2_code_14) ?_
    show Steps p.tables e below (s₁.setTop (mkF m 16 #[.val (.int p1), .val (.int ((p1 &&& (2147483647 : Int32)) % (36 : Int32)))] [(.int (97 : Int32))])) _
    refine XS.iloadN X0.here hx rfl (hb hby d_method_2_code_16) rfl ?_
    show Steps p.tables e below (s₁.setTop (mkF m 17 #[.val (.int p1), .val (.int ((p1 &&& (2147483647 : Int32)) % (36 : Int32)))] [(.int ((p1 &&& (2147483647 : Int32)) % (36 : Int32))), (.int (97 : Int32))])) _
    refine XS.iadd X0.here hx rfl (hb hby d_method_2_code_17) rfl ?_
    show Steps p.tables e below (s₁.setTop (mkF m 18 #[.val (.int p1), .val (.int ((p1 &&& (2147483647 : Int32)) % (36 : Int32)))] [(.int ((97 : Int32) + ((p1 &&& (2147483647 : Int32)) % (36 : Int32))))])) _
    refine XS.i2c X0.here hx rfl (hb hby d_method_2_code_18) rfl ?_
    show Steps p.tables e below (s₁.setTop (mkF m 19 #[.val (.int p1), .val (.int ((p1 &&& (2147483647 : Int32)) % (36 : Int32)))] [(.int (((97 : Int32) + ((p1 &&& (2147483647 : Int32)) % (36 : Int32))).toUInt32.toUInt16.toUInt32.toInt32))])) _
    exact retN X0 hx (t := .char) Bd.returns (by simp) (hb hby d_method_2_code_19) hr
  · show QAl Z h0 n0 _ s₁.heap _
    rw [e0]
    exact ⟨_, rfl, N0, rfl, own_alA p1 hq⟩
theorem d_method_2_code_20 : decode method_2_code 20 = .ok (.bipush 48, 2) := by decide +kernel
theorem d_method_2_code_22 : decode method_2_code 22 = .ok (.iload_n 1, 1) := by decide +kernel
theorem d_method_2_code_23 : decode method_2_code 23 = .ok (.bipush 26, 2) := by decide +kernel
theorem d_method_2_code_25 : decode method_2_code 25 = .ok (.isub, 1) := by decide +kernel
theorem d_method_2_code_26 : decode method_2_code 26 = .ok (.iadd, 1) := by decide +kernel
theorem d_method_2_code_27 : decode method_2_code 27 = .ok (.i2c, 1) := by decide +kernel
theorem d_method_2_code_28 : decode method_2_code 28 = .ok (.ireturn, 1) := by decide +kernel
theorem ef_rmAlB (m : MethodId) (x0 : Int32) : entryFrame m #[(.int x0)] 2 = mkF m 0 #[.val (.int x0), .unset] [] := by first | (simp [entryFrame, mkF, argsToLocals, Value.category]; done) | rfl
set_option maxRecDepth 65536 in
set_option maxHeartbeats 40000000 in
theorem rmAlB (l : Launch) (Z : State) (a0 : Array Value) (hw : ∀ d ∈ tables_1, d.before a0 Z = true) (ws : List Jvm.Cond) (p1 : Int32) (h0 : Heap) (n0 : Nat) (O0 : Old Z n0 h0) (hq : ¬ (((p1 &&& (2147483647 : Int32)) % (36 : Int32)) < (26 : Int32))) :
    MetFree l (⟨"com/example/nimble_queue/nimblequeue/core/QueueNameOfPinLaw", "alnum", "(I)C"⟩ : MethodName) (head1 (Jvm.Cond.code (⟨"com/example/nimble_queue/nimblequeue/core/QueueNameOfPinLaw", "alnum", "(I)C"⟩ : MethodName) method_2_code 2 (some .char) :: ws) ({ frames := 0, cells := 0, slots := 0, locals := 0 } : Room)) (fun aa_ U => aa_ = #[(.int p1)] ∧ Z.Warmed39 U.vm ∧ U.heap = h0) (fun _ _ _ _ _ => True) (fun _ U o U' => ∃ v L, o = .returned v ∧ QAl Z h0 n0 v U'.heap L ∧ FrameEnd U o U' L ({ frames := 0, cells := 0, slots := 0, locals := 0 } : Room).cells ({ frames := 0, cells := 0, slots := 0, locals := 0 } : Room).slots) := by
  refine MetFree.of_bodySF (plainFor_of_name pn_com_example_nimble_queue_nimblequeue_core_QueueNameOfPinLaw) hisR ?_
  intro p e s m args below meth c s₁ Bd hml0 hP hK
  obtain ⟨rfl, hZ, hh⟩ := hP
  have hx := Bd.exec
  have hby := Bd.bytes
  have hml : c.maxLocals = 2 := hml0
  have hown : s.vm.findClass "com/example/nimble_queue/nimblequeue/core/QueueNameOfPinLaw" = some m.cls := findClass_of_methodNamed Bd.named
  have hnm := (name_of_methodNamed Bd.named Bd.method).1
  have X0 : Stand p l e ({ frames := 0, cells := 0, slots := 0, locals := 0 } : Room) s m #[(.int p1)] below meth c s₁ [] 0 0 := Stand.of_body Bd
  have e0 : s₁.heap = h0 := by rw [← hh, Bd.state]; rfl
  have N0 := Fr.nil n0
  have Z0 : n0 ≤ h0.size := O0.1 ▸ O0.2.1
  have K0 : Keep h0 h0 [] := Keep.refl _ _
  have pre0 : ∀ tgt_, Steps p.tables e below (s₁.setTop (mkF m 0 #[.val (.int p1), .unset] [])) tgt_ → Steps p.tables e below (s₁.setTop (entryFrame m #[(.int p1)] 2)) tgt_ := fun tgt_ k => castTop (ef_rmAlB m p1) k
  obtain ⟨fs, hr, hrun, hended, hW, hsame⟩ := X0.leave (v := some (.int (nar .char (((48 : Int32) + (((p1 &&& (2147483647 : Int32)) % (36 : Int32)) - (26 : Int32))).toUInt32.toUInt16.toUInt32.toInt32)))) (fun h => by rw [Bd.returns] at h; cases h)
  refine ⟨_, _, pre0 _ ?_, hrun, hended, _, _, rfl, ?_, ⟨_, rfl⟩, hW, hsame.mono (by decide) (by decide)⟩
  · show Steps p.tables e below (s₁.setTop (mkF m 0 #[.val (.int p1), .unset] [])) _
    refine XS.iloadN X0.here hx rfl (hb hby d_method_2_code_0) rfl ?_
    show Steps p.tables e below (s₁.setTop (mkF m 1 #[.val (.int p1), .unset] [(.int p1)])) _
    refine X0.ldcInt hx hown (mvT hZ (hw _ (List.mem_of_getElem? (i := 4) rfl))) (g := (mkF m 1 #[.val (.int p1), .unset] [(.int p1)])) rfl (hb hby d_method_2_code_1) _ ?_
    show Steps p.tables e below (s₁.setTop (mkF m 3 #[.val (.int p1), .unset] [(.int (2147483647 : Int32)), (.int p1)])) _
    refine XS.iand X0.here hx rfl (hb hby d_method_2_code_3) rfl ?_
    show Steps p.tables e below (s₁.setTop (mkF m 4 #[.val (.int p1), .unset] [(.int (p1 &&& (2147483647 : Int32)))])) _
    refine XS.bipush X0.here hx rfl (hb hby d_method_2_code_4) ?_
    show Steps p.tables e below (s₁.setTop (mkF m 6 #[.val (.int p1), .unset] [(.int (36 : Int32)), (.int (p1 &&& (2147483647 : Int32)))])) _
    refine Jvm.RoadKit.iremM (g := (mkF m 6 #[.val (.int p1), .unset] [(.int (36 : Int32)), (.int (p1 &&& (2147483647 : Int32)))])) X0 hx rfl (hb hby d_method_2_code_6) rfl (by decide) ?_
    show Steps p.tables e below (s₁.setTop (mkF m 7 #[.val (.int p1), .unset] [(.int ((p1 &&& (2147483647 : Int32)) % (36 : Int32)))])) _
    refine XS.istoreN X0.here hx rfl (hb hby d_method_2_code_7) rfl (l' := #[.val (.int p1), .val (.int ((p1 &&& (2147483647 : Int32)) % (36 : Int32)))]) rfl ?_
    show Steps p.tables e below (s₁.setTop (mkF m 8 #[.val (.int p1), .val (.int ((p1 &&& (2147483647 : Int32)) % (36 : Int32)))] [])) _
    refine XS.iloadN X0.here hx rfl (hb hby d_method_2_code_8) rfl ?_
    show Steps p.tables e below (s₁.setTop (mkF m 9 #[.val (.int p1), .val (.int ((p1 &&& (2147483647 : Int32)) % (36 : Int32)))] [(.int ((p1 &&& (2147483647 : Int32)) % (36 : Int32)))])) _
    refine XS.bipush X0.here hx rfl (hb hby d_method_2_code_9) ?_
    show Steps p.tables e below (s₁.setTop (mkF m 11 #[.val (.int p1), .val (.int ((p1 &&& (2147483647 : Int32)) % (36 : Int32)))] [(.int (26 : Int32)), (.int ((p1 &&& (2147483647 : Int32)) % (36 : Int32)))])) _
    refine XS.icmpYes X0.here hx rfl (pc0 := 11) (pc' := 20) rfl (hb hby d_method_2_code_11) rfl (flt (hq : ¬ (((p1 &&& (2147483647 : Int32)) % (36 : Int32)) < (26 : Int32)))).2.1 (by decide) (by decide) ?_
    show Steps p.tables e below (s₁.setTop (mkF m 20 #[.val (.int p1), .val (.int ((p1 &&& (2147483647 : Int32)) % (36 : Int32)))] [])) _
    refine XS.bipush X0.here hx rfl (hb hby d_method_2_code_20) ?_
    show Steps p.tables e below (s₁.setTop (mkF m 22 #[.val (.int p1), .val (.int ((p1 &&& (2147483647 : Int32)) % (36 : Int32)))] [(.int (48 : Int32))])) _
    refine XS.iloadN X0.here hx rfl (hb hby d_method_2_code_22) rfl ?_
    show Steps p.tables e below (s₁.setTop (mkF m 23 #[.val (.int p1), .val (.int ((p1 &&& (2147483647 : Int32)) % (36 : Int32)))] [(.int ((p1 &&& (2147483647 : Int32)) % (36 : Int32))), (.int (48 : Int32))])) _
    refine XS.bipush X0.here hx rfl (hb hby d_method_2_code_23) ?_
    show Steps p.tables e below (s₁.setTop (mkF m 25 #[.val (.int p1), .val (.int ((p1 &&& (2147483647 : Int32)) % (36 : Int32)))] [(.int (26 : Int32)), (.int ((p1 &&& (2147483647 : Int32)) % (36 : Int32))), (.int (48 : Int32))])) _
    refine XS.isub X0.here hx rfl (hb hby d_method_2_code_25) rfl ?_
    show Steps p.tables e below (s₁.setTop (mkF m 26 #[.val (.int p1), .val (.int ((p1 &&& (2147483647 : Int32)) % (36 : Int32)))] [(.int (((p1 &&& (2147483647 : Int32)) % (36 : Int32)) - (26 : Int32))), (.int (48 : Int32))])) _
    refine XS.iadd X0.here hx rfl (hb hby d_method_2_code_26) rfl ?_
    show Steps p.tables e below (s₁.setTop (mkF m 27 #[.val (.int p1), .val (.int ((p1 &&& (2147483647 : Int32)) % (36 : Int32)))] [(.int ((48 : Int32) + (((p1 &&& (2147483647 : Int32)) % (36 : Int32)) - (26 : Int32))))])) _
    refine XS.i2c X0.here hx rfl (hb hby d_method_2_code_27) rfl ?_
    show Steps p.tables e below (s₁.setTop (mkF m 28 #[.val (.int p1), .val (.int ((p1 &&& (2147483647 : Int32)) % (36 : Int32)))] [(.int (((48 : Int32) + (((p1 &&& (2147483647 : Int32)) % (36 : Int32)) - (26 : Int32))).toUInt32.toUInt16.toUInt32.toInt32))])) _
    exact retN X0 hx (t := .char) Bd.returns (by simp) (hb hby d_method_2_code_28) hr
  · show QAl Z h0 n0 _ s₁.heap _
    rw [e0]
    exact ⟨_, rfl, N0, rfl, own_alB p1 hq⟩
theorem rmAl (l : Launch) (Z : State) (a0 : Array Value) (hw : ∀ d ∈ tables_1, d.before a0 Z = true) (ws : List Jvm.Cond) (p1 : Int32) (h0 : Heap) (n0 : Nat) (O0 : Old Z n0 h0) :
    MetFree l (⟨"com/example/nimble_queue/nimblequeue/core/QueueNameOfPinLaw", "alnum", "(I)C"⟩ : MethodName) (head1 (Jvm.Cond.code (⟨"com/example/nimble_queue/nimblequeue/core/QueueNameOfPinLaw", "alnum", "(I)C"⟩ : MethodName) method_2_code 2 (some .char) :: ws) ({ frames := 0, cells := 0, slots := 0, locals := 0 } : Room)) (fun a U => a = #[(.int p1)] ∧ Z.Warmed39 U.vm ∧ U.heap = h0) (fun _ _ _ _ _ => True) (fun _ U o U' => ∃ v L, o = .returned v ∧ QAl Z h0 n0 v U'.heap L ∧ FrameEnd U o U' L ({ frames := 0, cells := 0, slots := 0, locals := 0 } : Room).cells ({ frames := 0, cells := 0, slots := 0, locals := 0 } : Room).slots) := by
  by_cases hq : ((p1 &&& (2147483647 : Int32)) % (36 : Int32)) < (26 : Int32)
  · exact rmAlA l Z a0 hw ws p1 h0 n0 O0 hq
  · exact rmAlB l Z a0 hw ws p1 h0 n0 O0 hq
def QIL (Z : State)  (h0 : Heap) (n0 : Nat) (v : Option Value) (h : Heap) (L : List Loc) : Prop := v = some (.int 1) ∧ L = [] ∧ h = h0
theorem d_prog_14_method_3_code_0 : decode prog_14_method_3_code 0 = .ok (.iload_n 0, 1) := by decide +kernel
theorem d_prog_14_method_3_code_1 : decode prog_14_method_3_code 1 = .ok (.bipush 97, 2) := by decide +kernel
theorem d_prog_14_method_3_code_3 : decode prog_14_method_3_code 3 = .ok (.if_icmp .lt 9, 3) := by decide +kernel
theorem d_prog_14_method_3_code_6 : decode prog_14_method_3_code 6 = .ok (.iload_n 0, 1) := by decide +kernel
theorem d_prog_14_method_3_code_7 : decode prog_14_method_3_code 7 = .ok (.bipush 122, 2) := by decide +kernel
theorem d_prog_14_method_3_code_9 : decode prog_14_method_3_code 9 = .ok (.if_icmp .le 15, 3) := by decide +kernel
theorem d_prog_14_method_3_code_24 : decode prog_14_method_3_code 24 = .ok (.iconst 1, 1) := by decide +kernel
theorem d_prog_14_method_3_code_25 : decode prog_14_method_3_code 25 = .ok (.goto 4, 3) := by decide +kernel
theorem d_prog_14_method_3_code_29 : decode prog_14_method_3_code 29 = .ok (.ireturn, 1) := by decide +kernel
theorem pn_com_example_nimble_queue_nimblequeue_core_QueueName : plainName "com/example/nimble_queue/nimblequeue/core/QueueName" = true := by first | (simp [plainName, overriddenIn]; done) | decide +kernel
theorem ef_rmILa (m : MethodId) (x0 : Int32) : entryFrame m #[(.int x0)] 1 = mkF m 0 #[.val (.int x0)] [] := by first | (simp [entryFrame, mkF, argsToLocals, Value.category]; done) | rfl
set_option maxRecDepth 65536 in
set_option maxHeartbeats 40000000 in
theorem rmILa (l : Launch) (Z : State) (a0 : Array Value) (hw : ∀ d ∈ tables_1, d.before a0 Z = true) (ws : List Jvm.Cond) (p1 : Int32) (h0 : Heap) (n0 : Nat) (O0 : Old Z n0 h0) (q1 : ¬ (p1 < (97 : Int32))) (q2 : ¬ ((122 : Int32) < p1)) :
    MetFree l (⟨"com/example/nimble_queue/nimblequeue/core/QueueName", "isLowerCaseLetterOrDigit", "(C)Z"⟩ : MethodName) (head1 (Jvm.Cond.code (⟨"com/example/nimble_queue/nimblequeue/core/QueueName", "isLowerCaseLetterOrDigit", "(C)Z"⟩ : MethodName) prog_14_method_3_code 1 (some .boolean) :: ws) ({ frames := 0, cells := 0, slots := 0, locals := 0 } : Room)) (fun aa_ U => aa_ = #[(.int p1)] ∧ Z.Warmed39 U.vm ∧ U.heap = h0) (fun _ _ _ _ _ => True) (fun _ U o U' => ∃ v L, o = .returned v ∧ QIL Z h0 n0 v U'.heap L ∧ FrameEnd U o U' L ({ frames := 0, cells := 0, slots := 0, locals := 0 } : Room).cells ({ frames := 0, cells := 0, slots := 0, locals := 0 } : Room).slots) := by
  refine MetFree.of_bodySF (plainFor_of_name pn_com_example_nimble_queue_nimblequeue_core_QueueName) hisR ?_
  intro p e s m args below meth c s₁ Bd hml0 hP hK
  obtain ⟨rfl, hZ, hh⟩ := hP
  have hx := Bd.exec
  have hby := Bd.bytes
  have hml : c.maxLocals = 1 := hml0
  have hown : s.vm.findClass "com/example/nimble_queue/nimblequeue/core/QueueName" = some m.cls := findClass_of_methodNamed Bd.named
  have hnm := (name_of_methodNamed Bd.named Bd.method).1
  have X0 : Stand p l e ({ frames := 0, cells := 0, slots := 0, locals := 0 } : Room) s m #[(.int p1)] below meth c s₁ [] 0 0 := Stand.of_body Bd
  have e0 : s₁.heap = h0 := by rw [← hh, Bd.state]; rfl
  have N0 := Fr.nil n0
  have Z0 : n0 ≤ h0.size := O0.1 ▸ O0.2.1
  have K0 : Keep h0 h0 [] := Keep.refl _ _
  have pre0 : ∀ tgt_, Steps p.tables e below (s₁.setTop (mkF m 0 #[.val (.int p1)] [])) tgt_ → Steps p.tables e below (s₁.setTop (entryFrame m #[(.int p1)] 1)) tgt_ := fun tgt_ k => castTop (ef_rmILa m p1) k
  obtain ⟨fs, hr, hrun, hended, hW, hsame⟩ := X0.leave (v := some (.int (1 : Int32))) (fun h => by rw [Bd.returns] at h; cases h)
  refine ⟨_, _, pre0 _ ?_, hrun, hended, _, _, rfl, ?_, ⟨_, rfl⟩, hW, hsame.mono (by decide) (by decide)⟩
  · show Steps p.tables e below (s₁.setTop (mkF m 0 #[.val (.int p1)] [])) _
    refine XS.iloadN X0.here hx rfl (hb hby d_prog_14_method_3_code_0) rfl ?_
    show Steps p.tables e below (s₁.setTop (mkF m 1 #[.val (.int p1)] [(.int p1)])) _
    refine XS.bipush X0.here hx rfl (hb hby d_prog_14_method_3_code_1) ?_
    show Steps p.tables e below (s₁.setTop (mkF m 3 #[.val (.int p1)] [(.int (97 : Int32)), (.int p1)])) _
    refine XS.icmpNo X0.here hx rfl (hb hby d_prog_14_method_3_code_3) rfl (flt (q1 : ¬ (p1 < (97 : Int32)))).1 ?_
    show Steps p.tables e below (s₁.setTop (mkF m 6 #[.val (.int p1)] [])) _
    refine XS.iloadN X0.here hx rfl (hb hby d_prog_14_method_3_code_6) rfl ?_
    show Steps p.tables e below (s₁.setTop (mkF m 7 #[.val (.int p1)] [(.int p1)])) _
    refine XS.bipush X0.here hx rfl (hb hby d_prog_14_method_3_code_7) ?_
    show Steps p.tables e below (s₁.setTop (mkF m 9 #[.val (.int p1)] [(.int (122 : Int32)), (.int p1)])) _
    refine XS.icmpYes X0.here hx rfl (pc0 := 9) (pc' := 24) rfl (hb hby d_prog_14_method_3_code_9) rfl (flt (q2 : ¬ ((122 : Int32) < p1))).2.2.2 (by decide) (by decide) ?_
    show Steps p.tables e below (s₁.setTop (mkF m 24 #[.val (.int p1)] [])) _
    refine XS.iconst X0.here hx rfl (hb hby d_prog_14_method_3_code_24) ?_
    show Steps p.tables e below (s₁.setTop (mkF m 25 #[.val (.int p1)] [(.int (1 : Int32))])) _
    refine XS.goto X0.here hx rfl (pc0 := 25) (pc' := 29) rfl (hb hby d_prog_14_method_3_code_25) (by decide) (by decide) ?_
    show Steps p.tables e below (s₁.setTop (mkF m 29 #[.val (.int p1)] [(.int (1 : Int32))])) _
    exact retN X0 hx (t := .boolean) Bd.returns (by simp) (hb hby d_prog_14_method_3_code_29) hr
  · show QIL Z h0 n0 _ s₁.heap _
    rw [e0]
    exact ⟨rfl, rfl, rfl⟩
theorem d_prog_14_method_3_code_12 : decode prog_14_method_3_code 12 = .ok (.iload_n 0, 1) := by decide +kernel
theorem d_prog_14_method_3_code_13 : decode prog_14_method_3_code 13 = .ok (.bipush 48, 2) := by decide +kernel
theorem d_prog_14_method_3_code_15 : decode prog_14_method_3_code 15 = .ok (.if_icmp .lt 13, 3) := by decide +kernel
theorem d_prog_14_method_3_code_18 : decode prog_14_method_3_code 18 = .ok (.iload_n 0, 1) := by decide +kernel
theorem d_prog_14_method_3_code_19 : decode prog_14_method_3_code 19 = .ok (.bipush 57, 2) := by decide +kernel
theorem d_prog_14_method_3_code_21 : decode prog_14_method_3_code 21 = .ok (.if_icmp .gt 7, 3) := by decide +kernel
theorem ef_rmILb (m : MethodId) (x0 : Int32) : entryFrame m #[(.int x0)] 1 = mkF m 0 #[.val (.int x0)] [] := by first | (simp [entryFrame, mkF, argsToLocals, Value.category]; done) | rfl
set_option maxRecDepth 65536 in
set_option maxHeartbeats 40000000 in
theorem rmILb (l : Launch) (Z : State) (a0 : Array Value) (hw : ∀ d ∈ tables_1, d.before a0 Z = true) (ws : List Jvm.Cond) (p1 : Int32) (h0 : Heap) (n0 : Nat) (O0 : Old Z n0 h0) (q0 : p1 < (97 : Int32)) (q1 : ¬ (p1 < (48 : Int32))) (q2 : ¬ ((57 : Int32) < p1)) :
    MetFree l (⟨"com/example/nimble_queue/nimblequeue/core/QueueName", "isLowerCaseLetterOrDigit", "(C)Z"⟩ : MethodName) (head1 (Jvm.Cond.code (⟨"com/example/nimble_queue/nimblequeue/core/QueueName", "isLowerCaseLetterOrDigit", "(C)Z"⟩ : MethodName) prog_14_method_3_code 1 (some .boolean) :: ws) ({ frames := 0, cells := 0, slots := 0, locals := 0 } : Room)) (fun aa_ U => aa_ = #[(.int p1)] ∧ Z.Warmed39 U.vm ∧ U.heap = h0) (fun _ _ _ _ _ => True) (fun _ U o U' => ∃ v L, o = .returned v ∧ QIL Z h0 n0 v U'.heap L ∧ FrameEnd U o U' L ({ frames := 0, cells := 0, slots := 0, locals := 0 } : Room).cells ({ frames := 0, cells := 0, slots := 0, locals := 0 } : Room).slots) := by
  refine MetFree.of_bodySF (plainFor_of_name pn_com_example_nimble_queue_nimblequeue_core_QueueName) hisR ?_
  intro p e s m args below meth c s₁ Bd hml0 hP hK
  obtain ⟨rfl, hZ, hh⟩ := hP
  have hx := Bd.exec
  have hby := Bd.bytes
  have hml : c.maxLocals = 1 := hml0
  have hown : s.vm.findClass "com/example/nimble_queue/nimblequeue/core/QueueName" = some m.cls := findClass_of_methodNamed Bd.named
  have hnm := (name_of_methodNamed Bd.named Bd.method).1
  have X0 : Stand p l e ({ frames := 0, cells := 0, slots := 0, locals := 0 } : Room) s m #[(.int p1)] below meth c s₁ [] 0 0 := Stand.of_body Bd
  have e0 : s₁.heap = h0 := by rw [← hh, Bd.state]; rfl
  have N0 := Fr.nil n0
  have Z0 : n0 ≤ h0.size := O0.1 ▸ O0.2.1
  have K0 : Keep h0 h0 [] := Keep.refl _ _
  have pre0 : ∀ tgt_, Steps p.tables e below (s₁.setTop (mkF m 0 #[.val (.int p1)] [])) tgt_ → Steps p.tables e below (s₁.setTop (entryFrame m #[(.int p1)] 1)) tgt_ := fun tgt_ k => castTop (ef_rmILb m p1) k
  obtain ⟨fs, hr, hrun, hended, hW, hsame⟩ := X0.leave (v := some (.int (1 : Int32))) (fun h => by rw [Bd.returns] at h; cases h)
  refine ⟨_, _, pre0 _ ?_, hrun, hended, _, _, rfl, ?_, ⟨_, rfl⟩, hW, hsame.mono (by decide) (by decide)⟩
  · show Steps p.tables e below (s₁.setTop (mkF m 0 #[.val (.int p1)] [])) _
    refine XS.iloadN X0.here hx rfl (hb hby d_prog_14_method_3_code_0) rfl ?_
    show Steps p.tables e below (s₁.setTop (mkF m 1 #[.val (.int p1)] [(.int p1)])) _
    refine XS.bipush X0.here hx rfl (hb hby d_prog_14_method_3_code_1) ?_
    show Steps p.tables e below (s₁.setTop (mkF m 3 #[.val (.int p1)] [(.int (97 : Int32)), (.int p1)])) _
    refine XS.icmpYes X0.here hx rfl (pc0 := 3) (pc' := 12) rfl (hb hby d_prog_14_method_3_code_3) rfl (tlt (q0 : p1 < (97 : Int32))).1 (by decide) (by decide) ?_
    show Steps p.tables e below (s₁.setTop (mkF m 12 #[.val (.int p1)] [])) _
    refine XS.iloadN X0.here hx rfl (hb hby d_prog_14_method_3_code_12) rfl ?_
    show Steps p.tables e below (s₁.setTop (mkF m 13 #[.val (.int p1)] [(.int p1)])) _
    refine XS.bipush X0.here hx rfl (hb hby d_prog_14_method_3_code_13) ?_
    show Steps p.tables e below (s₁.setTop (mkF m 15 #[.val (.int p1)] [(.int (48 : Int32)), (.int p1)])) _
    refine XS.icmpNo X0.here hx rfl (hb hby d_prog_14_method_3_code_15) rfl (flt (q1 : ¬ (p1 < (48 : Int32)))).1 ?_
    show Steps p.tables e below (s₁.setTop (mkF m 18 #[.val (.int p1)] [])) _
    refine XS.iloadN X0.here hx rfl (hb hby d_prog_14_method_3_code_18) rfl ?_
    show Steps p.tables e below (s₁.setTop (mkF m 19 #[.val (.int p1)] [(.int p1)])) _
    refine XS.bipush X0.here hx rfl (hb hby d_prog_14_method_3_code_19) ?_
    show Steps p.tables e below (s₁.setTop (mkF m 21 #[.val (.int p1)] [(.int (57 : Int32)), (.int p1)])) _
    refine XS.icmpNo X0.here hx rfl (hb hby d_prog_14_method_3_code_21) rfl (flt (q2 : ¬ ((57 : Int32) < p1))).2.2.1 ?_
    show Steps p.tables e below (s₁.setTop (mkF m 24 #[.val (.int p1)] [])) _
    refine XS.iconst X0.here hx rfl (hb hby d_prog_14_method_3_code_24) ?_
    show Steps p.tables e below (s₁.setTop (mkF m 25 #[.val (.int p1)] [(.int (1 : Int32))])) _
    refine XS.goto X0.here hx rfl (pc0 := 25) (pc' := 29) rfl (hb hby d_prog_14_method_3_code_25) (by decide) (by decide) ?_
    show Steps p.tables e below (s₁.setTop (mkF m 29 #[.val (.int p1)] [(.int (1 : Int32))])) _
    exact retN X0 hx (t := .boolean) Bd.returns (by simp) (hb hby d_prog_14_method_3_code_29) hr
  · show QIL Z h0 n0 _ s₁.heap _
    rw [e0]
    exact ⟨rfl, rfl, rfl⟩
theorem rmIL (l : Launch) (Z : State) (a0 : Array Value) (hw : ∀ d ∈ tables_1, d.before a0 Z = true) (ws : List Jvm.Cond) (p1 : Int32) (h0 : Heap) (n0 : Nat) (O0 : Old Z n0 h0) (hal : own_al p1) :
    MetFree l (⟨"com/example/nimble_queue/nimblequeue/core/QueueName", "isLowerCaseLetterOrDigit", "(C)Z"⟩ : MethodName) (head1 (Jvm.Cond.code (⟨"com/example/nimble_queue/nimblequeue/core/QueueName", "isLowerCaseLetterOrDigit", "(C)Z"⟩ : MethodName) prog_14_method_3_code 1 (some .boolean) :: ws) ({ frames := 0, cells := 0, slots := 0, locals := 0 } : Room)) (fun a U => a = #[(.int p1)] ∧ Z.Warmed39 U.vm ∧ U.heap = h0) (fun _ _ _ _ _ => True) (fun _ U o U' => ∃ v L, o = .returned v ∧ QIL Z h0 n0 v U'.heap L ∧ FrameEnd U o U' L ({ frames := 0, cells := 0, slots := 0, locals := 0 } : Room).cells ({ frames := 0, cells := 0, slots := 0, locals := 0 } : Room).slots) := by
  by_cases hq : p1 < (97 : Int32)
  · rcases hal with hal | hal
    · exact absurd hq hal.1
    · exact rmILb l Z a0 hw ws p1 h0 n0 O0 hq hal.1 hal.2
  · rcases hal with hal | hal
    · exact rmILa l Z a0 hw ws p1 h0 n0 O0 hal.1 hal.2
    · exfalso
      have h1 := hal.2
      rw [Int32.lt_iff_toInt_lt] at h1 hq
      have e1 : (97 : Int32).toInt = 97 := rfl
      have e2 : (57 : Int32).toInt = 57 := rfl
      omega
def QRN (Z : State) (x : Addr) (h0 : Heap) (n0 : Nat) (v : Option Value) (h : Heap) (L : List Loc) : Prop := v = some (.ref x) ∧ Fr n0 L ∧ h = h0
theorem d_jdk_31_method_11_code_0 : decode jdk_31_method_11_code 0 = .ok (.aload_n 0, 1) := by decide +kernel
theorem d_jdk_31_method_11_code_1 : decode jdk_31_method_11_code 1 = .ok (.ifnonnull 12, 3) := by decide +kernel
theorem d_jdk_31_method_11_code_13 : decode jdk_31_method_11_code 13 = .ok (.aload_n 0, 1) := by decide +kernel
theorem d_jdk_31_method_11_code_14 : decode jdk_31_method_11_code 14 = .ok (.areturn, 1) := by decide +kernel
theorem pn_java_util_Objects : plainName "java/util/Objects" = true := by first | (simp [plainName, overriddenIn]; done) | decide +kernel
theorem ef_rmRN (m : MethodId) (x0 : Addr) (x1 : Addr) : entryFrame m #[(.ref x0), (.ref x1)] 2 = mkF m 0 #[.val (.ref x0), .val (.ref x1)] [] := by first | (simp [entryFrame, mkF, argsToLocals, Value.category]; done) | rfl
set_option maxRecDepth 65536 in
set_option maxHeartbeats 40000000 in
theorem rmRN (l : Launch) (Z : State) (a0 : Array Value) (hw : ∀ d ∈ tables_1, d.before a0 Z = true) (ws : List Jvm.Cond) (x y : Addr) (h0 : Heap) (n0 : Nat) (O0 : Old Z n0 h0) :
    MetFree l (⟨"java/util/Objects", "requireNonNull", "(Ljava/lang/Object;Ljava/lang/String;)Ljava/lang/Object;"⟩ : MethodName) (head1 (Jvm.Cond.code (⟨"java/util/Objects", "requireNonNull", "(Ljava/lang/Object;Ljava/lang/String;)Ljava/lang/Object;"⟩ : MethodName) jdk_31_method_11_code 2 (some (.object "java/lang/Object")) :: ws) ({ frames := 0, cells := 0, slots := 0, locals := 0 } : Room)) (fun aa_ U => aa_ = #[(.ref x), (.ref y)] ∧ Z.Warmed39 U.vm ∧ U.heap = h0) (fun _ _ _ _ _ => True) (fun _ U o U' => ∃ v L, o = .returned v ∧ QRN Z x h0 n0 v U'.heap L ∧ FrameEnd U o U' L ({ frames := 0, cells := 0, slots := 0, locals := 0 } : Room).cells ({ frames := 0, cells := 0, slots := 0, locals := 0 } : Room).slots) := by
  refine MetFree.of_bodySF (plainFor_of_name pn_java_util_Objects) hisR ?_
  intro p e s m args below meth c s₁ Bd hml0 hP hK
  obtain ⟨rfl, hZ, hh⟩ := hP
  have hx := Bd.exec
  have hby := Bd.bytes
  have hml : c.maxLocals = 2 := hml0
  have hown : s.vm.findClass "java/util/Objects" = some m.cls := findClass_of_methodNamed Bd.named
  have hnm := (name_of_methodNamed Bd.named Bd.method).1
  have X0 : Stand p l e ({ frames := 0, cells := 0, slots := 0, locals := 0 } : Room) s m #[(.ref x), (.ref y)] below meth c s₁ [] 0 0 := Stand.of_body Bd
  have e0 : s₁.heap = h0 := by rw [← hh, Bd.state]; rfl
  have N0 := Fr.nil n0
  have Z0 : n0 ≤ h0.size := O0.1 ▸ O0.2.1
  have K0 : Keep h0 h0 [] := Keep.refl _ _
  have pre0 : ∀ tgt_, Steps p.tables e below (s₁.setTop (mkF m 0 #[.val (.ref x), .val (.ref y)] [])) tgt_ → Steps p.tables e below (s₁.setTop (entryFrame m #[(.ref x), (.ref y)] 2)) tgt_ := fun tgt_ k => castTop (ef_rmRN m x y) k
  obtain ⟨fs, hr, hrun, hended, hW, hsame⟩ := X0.leave (v := some (.ref x)) (fun h => by rw [Bd.returns] at h; cases h)
  refine ⟨_, _, pre0 _ ?_, hrun, hended, _, _, rfl, ?_, ⟨_, rfl⟩, hW, hsame.mono (by decide) (by decide)⟩
  · show Steps p.tables e below (s₁.setTop (mkF m 0 #[.val (.ref x), .val (.ref y)] [])) _
    refine XS.aloadN X0.here hx rfl (hb hby d_jdk_31_method_11_code_0) rfl rfl ?_
    show Steps p.tables e below (s₁.setTop (mkF m 1 #[.val (.ref x), .val (.ref y)] [(.ref x)])) _
    refine XS.ifnonnullYes X0.here hx rfl (pc0 := 1) (pc' := 13) rfl (hb hby d_jdk_31_method_11_code_1) rfl (by decide) (by decide) ?_
    show Steps p.tables e below (s₁.setTop (mkF m 13 #[.val (.ref x), .val (.ref y)] [])) _
    refine XS.aloadN X0.here hx rfl (hb hby d_jdk_31_method_11_code_13) rfl rfl ?_
    show Steps p.tables e below (s₁.setTop (mkF m 14 #[.val (.ref x), .val (.ref y)] [(.ref x)])) _
    jvm_step X0.here [X0.here.top, hx, (hb hby d_jdk_31_method_11_code_14), X0.method', Bd.returns, Value.isRef, FieldType.isReference]
    first | (intro acts; rw [hr _ acts rfl rfl rfl]) | rw [hr _ _ rfl rfl rfl]
    exact Steps.refl _
  · show QRN Z x h0 n0 _ s₁.heap _
    rw [e0]
    exact ⟨rfl, N0, rfl⟩
def QQI (Z : State) (x t : Addr) (h0 : Heap) (n0 : Nat) (v : Option Value) (h : Heap) (L : List Loc) : Prop := v = none ∧ Fr n0 L ∧ Keep h0 h [x] ∧ Exa Z h x "com/example/nimble_queue/nimblequeue/core/QueueName" ∧ Fld Z h x "com/example/nimble_queue/nimblequeue/core/QueueName" "name" "Ljava/lang/String;" (.ref t)
theorem d_prog_14_method_1_code_0 : decode prog_14_method_1_code 0 = .ok (.aload_n 0, 1) := by decide +kernel
theorem d_prog_14_method_1_code_1 : decode prog_14_method_1_code 1 = .ok (.invokespecial 1, 3) := by decide +kernel
theorem d_prog_14_method_1_code_4 : decode prog_14_method_1_code 4 = .ok (.aload_n 0, 1) := by decide +kernel
theorem d_prog_14_method_1_code_5 : decode prog_14_method_1_code 5 = .ok (.aload_n 1, 1) := by decide +kernel
theorem d_prog_14_method_1_code_6 : decode prog_14_method_1_code 6 = .ok (.putfield 7, 3) := by decide +kernel
theorem d_prog_14_method_1_code_9 : decode prog_14_method_1_code 9 = .ok (.return_, 1) := by decide +kernel
theorem ef_rmQI (m : MethodId) (x0 : Addr) (x1 : Addr) : entryFrame m #[(.ref x0), (.ref x1)] 2 = mkF m 0 #[.val (.ref x0), .val (.ref x1)] [] := by first | (simp [entryFrame, mkF, argsToLocals, Value.category]; done) | rfl
set_option maxRecDepth 65536 in
set_option maxHeartbeats 40000000 in
theorem rmQI (l : Launch) (Z : State) (a0 : Array Value) (hw : ∀ d ∈ tables_1, d.before a0 Z = true) (ws : List Jvm.Cond) (x t : Addr) (h0 : Heap) (n0 : Nat) (O0 : Old Z n0 h0) (g_x : n0 ≤ x) (Ex : Exa Z h0 x "com/example/nimble_queue/nimblequeue/core/QueueName") (F0 : Fld Z h0 x "com/example/nimble_queue/nimblequeue/core/QueueName" "name" "Ljava/lang/String;" .null) :
    MetFree l (⟨"com/example/nimble_queue/nimblequeue/core/QueueName", "<init>", "(Ljava/lang/String;)V"⟩ : MethodName) (head1 (Jvm.Cond.code (⟨"com/example/nimble_queue/nimblequeue/core/QueueName", "<init>", "(Ljava/lang/String;)V"⟩ : MethodName) prog_14_method_1_code 2 none :: ws) ({ frames := 1, cells := 0, slots := 0, locals := 12 } : Room)) (fun aa_ U => aa_ = #[(.ref x), (.ref t)] ∧ Z.Warmed39 U.vm ∧ U.heap = h0) (fun _ _ _ _ _ => True) (fun _ U o U' => ∃ v L, o = .returned v ∧ QQI Z x t h0 n0 v U'.heap L ∧ FrameEnd U o U' L ({ frames := 1, cells := 0, slots := 0, locals := 12 } : Room).cells ({ frames := 1, cells := 0, slots := 0, locals := 12 } : Room).slots) := by
  refine MetFree.of_bodySF (plainFor_of_name pn_com_example_nimble_queue_nimblequeue_core_QueueName) hisR ?_
  intro p e s m args below meth c s₁ Bd hml0 hP hK
  obtain ⟨rfl, hZ, hh⟩ := hP
  have hx := Bd.exec
  have hby := Bd.bytes
  have hml : c.maxLocals = 2 := hml0
  have hown : s.vm.findClass "com/example/nimble_queue/nimblequeue/core/QueueName" = some m.cls := findClass_of_methodNamed Bd.named
  have hnm := (name_of_methodNamed Bd.named Bd.method).1
  have X0 : Stand p l e ({ frames := 1, cells := 0, slots := 0, locals := 12 } : Room) s m #[(.ref x), (.ref t)] below meth c s₁ [] 0 0 := Stand.of_body Bd
  have e0 : s₁.heap = h0 := by rw [← hh, Bd.state]; rfl
  have N0 := Fr.nil n0
  have Z0 : n0 ≤ h0.size := O0.1 ▸ O0.2.1
  have K0 : Keep h0 h0 [x] := Keep.refl _ _
  have pre0 : ∀ tgt_, Steps p.tables e below (s₁.setTop (mkF m 0 #[.val (.ref x), .val (.ref t)] [])) tgt_ → Steps p.tables e below (s₁.setTop (entryFrame m #[(.ref x), (.ref t)] 2)) tgt_ := fun tgt_ k => castTop (ef_rmQI m x t) k
  obtain ⟨T1, X1, e1, st1⟩ := initO X0 hx hZ hown (hw _ (List.mem_of_getElem? (i := 86) rfl)) (hw _ (List.mem_of_getElem? (i := 17) rfl)) (hw _ (List.mem_of_getElem? (i := 18) rfl)) e0 (g := (mkF m 1 #[.val (.ref x), .val (.ref t)] [(.ref x)])) rfl (by rw [hml]; rfl) rfl (hb hby d_prog_14_method_1_code_1) (by decide) (W := 0) (by show 2 * 0 + _ ≤ _; exact Nat.le_of_eq rfl) (by decide)
  obtain ⟨T2, h2, X2, e2, W2, st2⟩ := putF X1 hx hZ hown (host := "") (Or.inl (hw _ (List.mem_of_getElem? (i := 87) rfl))) Via.refl e1 F0 Ex (Or.inr ⟨(hw _ (List.mem_of_getElem? (i := 88) rfl)), rfl, hnm⟩) (hw _ (List.mem_of_getElem? (i := 82) rfl)) (ty := (.object "java/lang/String")) (by decide) rfl rfl (g := (mkF m 6 #[.val (.ref x), .val (.ref t)] [(.ref t), (.ref x)])) rfl rfl (hb hby d_prog_14_method_1_code_6)
  have N2 := Fr.snoc X2 N0 g_x
  have O3 : Old Z n0 h2 := O0.wr W2 g_x
  have Z3 : n0 ≤ h2.size := Nat.le_trans Z0 (Keep.of_wr W2).1
  have K3 : Keep h0 h2 [x] := K0.wr W2 (Or.inl (List.mem_of_getElem? (i := 0) rfl))
  have f4 : Exa Z h2 x "com/example/nimble_queue/nimblequeue/core/QueueName" := Ex.wr W2
  have f5 : Fld Z h2 x "com/example/nimble_queue/nimblequeue/core/QueueName" "name" "Ljava/lang/String;" (.ref t) := F0.same W2
  obtain ⟨fs, hr, hrun, hended, hW, hsame⟩ := X2.leave (v := none) (fun _ => rfl)
  refine ⟨_, _, pre0 _ ?_, hrun, hended, _, _, rfl, ?_, ⟨_, rfl⟩, hW, hsame.mono (by decide) (by decide)⟩
  · show Steps p.tables e below (s₁.setTop (mkF m 0 #[.val (.ref x), .val (.ref t)] [])) _
    refine XS.aloadN X0.here hx rfl (hb hby d_prog_14_method_1_code_0) rfl rfl ?_
    show Steps p.tables e below (s₁.setTop (mkF m 1 #[.val (.ref x), .val (.ref t)] [(.ref x)])) _
    refine st1 _ ?_
    show Steps p.tables e below (T1.setTop (mkF m 4 #[.val (.ref x), .val (.ref t)] [])) _
    refine XS.aloadN X1.here hx rfl (hb hby d_prog_14_method_1_code_4) rfl rfl ?_
    show Steps p.tables e below (T1.setTop (mkF m 5 #[.val (.ref x), .val (.ref t)] [(.ref x)])) _
    refine XS.aloadN X1.here hx rfl (hb hby d_prog_14_method_1_code_5) rfl rfl ?_
    show Steps p.tables e below (T1.setTop (mkF m 6 #[.val (.ref x), .val (.ref t)] [(.ref t), (.ref x)])) _
    refine st2 _ ?_
    show Steps p.tables e below (T2.setTop (mkF m 9 #[.val (.ref x), .val (.ref t)] [])) _
    exact X2.returnOut hx Bd.returns (hb hby d_prog_14_method_1_code_9) hr
  · show QQI Z x t h0 n0 _ T2.heap _
    rw [e2]
    exact ⟨rfl, N2, K3, f4, f5⟩
theorem own_os {v0 v1 v2 : Value} {s3 : Slot} {v : Int32} (h : One s3) : storeLocals #[.val v0, .val v1, .val v2, s3] 3 (.int v) = some #[.val v0, .val v1, .val v2, .val (.int v)] := by
  rcases h with rfl | ⟨w, rfl, hw⟩
  · rfl
  · cases w <;> first | rfl | (simp [Value.category] at hw)
theorem d_prog_14_method_2_code_35 : decode prog_14_method_2_code 35 = .ok (.iload_n 2, 1) := by decide +kernel
theorem d_prog_14_method_2_code_36 : decode prog_14_method_2_code 36 = .ok (.iload_n 1, 1) := by decide +kernel
theorem d_prog_14_method_2_code_37 : decode prog_14_method_2_code 37 = .ok (.if_icmp .ge 81, 3) := by decide +kernel
theorem d_prog_14_method_2_code_40 : decode prog_14_method_2_code 40 = .ok (.aload_n 0, 1) := by decide +kernel
theorem d_prog_14_method_2_code_41 : decode prog_14_method_2_code 41 = .ok (.iload_n 2, 1) := by decide +kernel
theorem d_prog_14_method_2_code_42 : decode prog_14_method_2_code 42 = .ok (.invokevirtual 34, 3) := by decide +kernel
theorem pd__I_C : parseMethodDescriptor "(I)C" = some ⟨[.int], some .char⟩ := by decide +kernel
theorem d_prog_14_method_2_code_45 : decode prog_14_method_2_code 45 = .ok (.istore_n 3, 1) := by decide +kernel
theorem d_prog_14_method_2_code_46 : decode prog_14_method_2_code 46 = .ok (.iload_n 3, 1) := by decide +kernel
theorem d_prog_14_method_2_code_47 : decode prog_14_method_2_code 47 = .ok (.bipush 45, 2) := by decide +kernel
theorem d_prog_14_method_2_code_49 : decode prog_14_method_2_code 49 = .ok (.if_icmp .ne 46, 3) := by decide +kernel
theorem d_prog_14_method_2_code_95 : decode prog_14_method_2_code 95 = .ok (.iload_n 3, 1) := by decide +kernel
theorem d_prog_14_method_2_code_96 : decode prog_14_method_2_code 96 = .ok (.invokestatic 42, 3) := by decide +kernel
theorem pd__C_Z : parseMethodDescriptor "(C)Z" = some ⟨[.char], some .boolean⟩ := by decide +kernel
theorem d_prog_14_method_2_code_99 : decode prog_14_method_2_code 99 = .ok (.ifCond .ne 13, 3) := by decide +kernel
theorem d_prog_14_method_2_code_112 : decode prog_14_method_2_code 112 = .ok (.iinc 2 1, 3) := by decide +kernel
theorem d_prog_14_method_2_code_115 : decode prog_14_method_2_code 115 = .ok (.goto (-80), 3) := by decide +kernel
set_option maxRecDepth 65536 in
set_option maxHeartbeats 40000000 in
theorem tnA {p : Program} {l : Launch} {e : Env} {s : State} {m : MethodId} {args : Array Value} {below : List Frame} {meth : Method} {c : Code} {T0 : State} {locs : List Loc} {Z : State} {a0 : Array Value} {h0 : Heap} {n0 : Nat} (t tb : Addr) (kb : ClassId) (cs : List Int32) (N2 GC : Int32) (vs : List Value) (fm : Value) (i : Nat) (s3 : Slot)
    (X0 : Stand p l e ({ frames := 5, cells := 3, slots := 21, locals := 80 } : Room) s m args below meth c T0 locs 2 20) (hx : p.tables.exec = Jvm.exec) (hZ : Z.Warmed39 s.vm) (hw : ∀ d ∈ tables_1, d.before a0 Z = true) (hby : c.code = prog_14_method_2_code) (hml : c.maxLocals = 4) (hown : s.vm.findClass "com/example/nimble_queue/nimblequeue/core/QueueName" = some m.cls) (e0 : T0.heap = h0) (N0 : Fr n0 locs) (O0 : Old Z n0 h0) (Et : Exa Z h0 t "java/lang/String") (Ct : Fld Z h0 t "java/lang/String" "coder" "B" (.int 0)) (Vt : Fld Z h0 t "java/lang/String" "value" "[B" (.ref tb)) (At : Arv Z h0 tb kb .byte N2 vs (.int 0)) (hcd : StrChars.Road.CodA cs 0 N2 vs) (hbd : ∀ c ∈ cs, ¬ c < 0 ∧ ¬ (65535 : Int32) < c) (hl3 : 3 ≤ cs.length) (hl63 : cs.length ≤ 63) (OC2 : Sta Z Z.heap "java/lang/String" "COMPACT_STRINGS" "Z" (.int GC)) (OCz : ¬ (GC = (0 : Int32))) (OF4 : Sta Z Z.heap "jdk/internal/util/Preconditions" "SIOOBE_FORMATTER" "Ljava/util/function/BiFunction;" fm) (OFr : fm.isRef = true) (hi : i < cs.length) (ho : One s3) (hal : own_al (cs.getD (i) 0)) :
    ∃ (T' : State) (locs' : List Loc), Stand p l e ({ frames := 5, cells := 3, slots := 21, locals := 80 } : Room) s m args below meth c T' locs' 2 20 ∧ Fr n0 locs' ∧ T'.heap = h0 ∧ ∀ target, Steps p.tables e below (T'.setTop (mkF m 35 #[.val (.ref t), .val (.int (Int32.ofNat cs.length)), .val (.int (Int32.ofNat (i + 1))), .val (.int (cs.getD (i) 0))] [])) target → Steps p.tables e below (T0.setTop (mkF m 35 #[.val (.ref t), .val (.int (Int32.ofNat cs.length)), .val (.int (Int32.ofNat i)), s3] [])) target := by
  have Z0 : n0 ≤ h0.size := O0.1 ▸ O0.2.1
  have K0 : Keep h0 h0 [] := Keep.refl _ _
  · have hch : ∀ d ∈ StrChars.Road.wordsChN, d.before a0 Z = true := fun d hd => hw d ((by decide +kernel : ∀ d ∈ StrChars.Road.wordsChN, d ∈ tables_1) d hd)
    obtain ⟨cq6, kq6, qa6, qb6, qc6⟩ := isOf hZ e0 Et
    obtain ⟨_, _, ⟨T6, L6, k6, n6⟩, -, X6, ⟨Lc6, hQ6, l6, y6, z6⟩, st6⟩ := X0.virtualBack hx (y := (⟨"java/lang/String", "charAt", "(I)C"⟩ : MethodName)) (z := (⟨"java/lang/String", "charAt", "(I)C"⟩ : MethodName)) hown (mvT hZ (hw _ (List.mem_of_getElem? (i := 56) rfl))) (mvT hZ (hw _ (List.mem_of_getElem? (i := 57) rfl))) (notFace_of_selects (args := #[]) (mvT hZ (hw _ (List.mem_of_getElem? (i := 59) rfl)))) (mvT hZ (hw _ (List.mem_of_getElem? (i := 59) rfl))) (mvT hZ (hw _ (List.mem_of_getElem? (i := 58) rfl))) (by decide) (StrChars.Road.chN (W := 0) hZ hch (kI := 4) (hw _ (List.mem_of_getElem? (i := 7) rfl)) Et Vt Ct At hcd hbd (OC2.ext O0.2) OCz (OF4.ext O0.2) OFr (Nat.le_trans hl63 (by decide)) (i := i) hi (j := (Int32.ofNat i)) rfl (by decide) (by decide)) qa6 qc6 (g := (mkF m 42 #[.val (.ref t), .val (.int (Int32.ofNat cs.length)), .val (.int (Int32.ofNat i)), s3] [(.int (Int32.ofNat i)), (.ref t)])) rfl (by rw [hml]; rfl) (Steps.refl _) (argsL := [(.int (Int32.ofNat i))]) (rest := []) (lenOf pd__I_C rfl) rfl (by show 2 * 0 + _ ≤ _; exact Nat.le_of_eq rfl) (hb hby d_prog_14_method_2_code_42) (fun _ _ => ⟨rfl, e0, (by decide : 2 + 0 ≤ _), (by decide : 20 + 0 ≤ _)⟩)
    dsimp only [Pt.U, Pt.locs, Pt.cells, Pt.slots] at X6 l6 y6 z6 st6 hQ6
    subst l6 y6 z6
    obtain ⟨rfl, rfl, e6⟩ := hQ6
    have N6q : Fr n0 ([] : List Loc) := Fr.nil n0
    have N6 := Fr.app N0 N6q
    obtain ⟨_, _, ⟨T7, L7, k7, n7⟩, -, X7, ⟨Lc7, hQ7, l7, y7, z7⟩, st7⟩ := Jvm.LawKit.callS X6 hx (y := (⟨"com/example/nimble_queue/nimblequeue/core/QueueName", "isLowerCaseLetterOrDigit", "(C)Z"⟩ : MethodName)) hown (mvT hZ (hw _ (List.mem_of_getElem? (i := 78) rfl))) (mvT hZ (hw _ (List.mem_of_getElem? (i := 79) rfl))) (mvT hZ (hw _ (List.mem_of_getElem? (i := 37) rfl))) (mvT hZ (hw _ (List.mem_of_getElem? (i := 80) rfl))) (by decide) (backOf (W := 0) (rmIL l Z a0 hw [] (cs.getD (i) 0) h0 n0 O0 hal) hZ (hw _ (List.mem_of_getElem? (i := 80) rfl)) (hw _ (List.mem_of_getElem? (i := 37) rfl)) (by decide) (by decide)) (g := (mkF m 96 #[.val (.ref t), .val (.int (Int32.ofNat cs.length)), .val (.int (Int32.ofNat i)), .val (.int (cs.getD (i) 0))] [(.int (cs.getD (i) 0))])) rfl (by rw [hml]; rfl) (argsL := [(.int (cs.getD (i) 0))]) (rest := []) (lenOf pd__C_Z rfl) rfl (by show 2 * 0 + _ ≤ _; exact Nat.le_of_eq rfl) (hb hby d_prog_14_method_2_code_96) (fun _ _ => ⟨rfl, e6, (by decide : 2 + 0 ≤ _), (by decide : 20 + 0 ≤ _)⟩)
    dsimp only [Pt.U, Pt.locs, Pt.cells, Pt.slots] at X7 l7 y7 z7 st7 hQ7
    subst l7 y7 z7
    obtain ⟨rfl, rfl, e7⟩ := hQ7
    have N7q : Fr n0 ([] : List Loc) := Fr.nil n0
    have N7 := Fr.app N6 N7q
    refine ⟨T7, _, X7, N7, e7, fun target kt => ?_⟩
    show Steps p.tables e below (T0.setTop (mkF m 35 #[.val (.ref t), .val (.int (Int32.ofNat cs.length)), .val (.int (Int32.ofNat i)), s3] [])) _
    refine XS.iloadN X0.here hx rfl (hb hby d_prog_14_method_2_code_35) rfl ?_
    show Steps p.tables e below (T0.setTop (mkF m 36 #[.val (.ref t), .val (.int (Int32.ofNat cs.length)), .val (.int (Int32.ofNat i)), s3] [(.int (Int32.ofNat i))])) _
    refine XS.iloadN X0.here hx rfl (hb hby d_prog_14_method_2_code_36) rfl ?_
    show Steps p.tables e below (T0.setTop (mkF m 37 #[.val (.ref t), .val (.int (Int32.ofNat cs.length)), .val (.int (Int32.ofNat i)), s3] [(.int (Int32.ofNat cs.length)), (.int (Int32.ofNat i))])) _
    refine XS.icmpNo X0.here hx rfl (hb hby d_prog_14_method_2_code_37) rfl (tlt ((own_lt hi (Nat.lt_of_le_of_lt hl63 (by decide))) : (Int32.ofNat i) < (Int32.ofNat cs.length))).2.1 ?_
    show Steps p.tables e below (T0.setTop (mkF m 40 #[.val (.ref t), .val (.int (Int32.ofNat cs.length)), .val (.int (Int32.ofNat i)), s3] [])) _
    refine XS.aloadN X0.here hx rfl (hb hby d_prog_14_method_2_code_40) rfl rfl ?_
    show Steps p.tables e below (T0.setTop (mkF m 41 #[.val (.ref t), .val (.int (Int32.ofNat cs.length)), .val (.int (Int32.ofNat i)), s3] [(.ref t)])) _
    refine XS.iloadN X0.here hx rfl (hb hby d_prog_14_method_2_code_41) rfl ?_
    show Steps p.tables e below (T0.setTop (mkF m 42 #[.val (.ref t), .val (.int (Int32.ofNat cs.length)), .val (.int (Int32.ofNat i)), s3] [(.int (Int32.ofNat i)), (.ref t)])) _
    refine st6.trans ?_
    show Steps p.tables e below (T6.setTop (mkF m 45 #[.val (.ref t), .val (.int (Int32.ofNat cs.length)), .val (.int (Int32.ofNat i)), s3] [(.int (cs.getD (i) 0))])) _
    refine XS.istoreN X6.here hx rfl (hb hby d_prog_14_method_2_code_45) rfl (l' := #[.val (.ref t), .val (.int (Int32.ofNat cs.length)), .val (.int (Int32.ofNat i)), .val (.int (cs.getD (i) 0))]) (own_os ho) ?_
    show Steps p.tables e below (T6.setTop (mkF m 46 #[.val (.ref t), .val (.int (Int32.ofNat cs.length)), .val (.int (Int32.ofNat i)), .val (.int (cs.getD (i) 0))] [])) _
    refine XS.iloadN X6.here hx rfl (hb hby d_prog_14_method_2_code_46) rfl ?_
    show Steps p.tables e below (T6.setTop (mkF m 47 #[.val (.ref t), .val (.int (Int32.ofNat cs.length)), .val (.int (Int32.ofNat i)), .val (.int (cs.getD (i) 0))] [(.int (cs.getD (i) 0))])) _
    refine XS.bipush X6.here hx rfl (hb hby d_prog_14_method_2_code_47) ?_
    show Steps p.tables e below (T6.setTop (mkF m 49 #[.val (.ref t), .val (.int (Int32.ofNat cs.length)), .val (.int (Int32.ofNat i)), .val (.int (cs.getD (i) 0))] [(.int (45 : Int32)), (.int (cs.getD (i) 0))])) _
    refine XS.icmpYes X6.here hx rfl (pc0 := 49) (pc' := 95) rfl (hb hby d_prog_14_method_2_code_49) rfl (feq ((own_al_45 hal) : ¬ ((cs.getD (i) 0) = (45 : Int32)))).2 (by decide) (by decide) ?_
    show Steps p.tables e below (T6.setTop (mkF m 95 #[.val (.ref t), .val (.int (Int32.ofNat cs.length)), .val (.int (Int32.ofNat i)), .val (.int (cs.getD (i) 0))] [])) _
    refine XS.iloadN X6.here hx rfl (hb hby d_prog_14_method_2_code_95) rfl ?_
    show Steps p.tables e below (T6.setTop (mkF m 96 #[.val (.ref t), .val (.int (Int32.ofNat cs.length)), .val (.int (Int32.ofNat i)), .val (.int (cs.getD (i) 0))] [(.int (cs.getD (i) 0))])) _
    refine st7 _ ?_
    show Steps p.tables e below (T7.setTop (mkF m 99 #[.val (.ref t), .val (.int (Int32.ofNat cs.length)), .val (.int (Int32.ofNat i)), .val (.int (cs.getD (i) 0))] [(.int (1 : Int32))])) _
    refine XS.ifYes X7.here hx rfl (pc0 := 99) (pc' := 112) rfl (hb hby d_prog_14_method_2_code_99) rfl ((if0 _ _).trans (feq (by decide : ¬ ((1 : Int32) = (0 : Int32)))).2) (by decide) (by decide) ?_
    show Steps p.tables e below (T7.setTop (mkF m 112 #[.val (.ref t), .val (.int (Int32.ofNat cs.length)), .val (.int (Int32.ofNat i)), .val (.int (cs.getD (i) 0))] [])) _
    refine XS.iinc X7.here hx rfl (hb hby d_prog_14_method_2_code_112) rfl (l' := #[.val (.ref t), .val (.int (Int32.ofNat cs.length)), .val (.int ((Int32.ofNat i) + (1 : Int32))), .val (.int (cs.getD (i) 0))]) rfl ?_
    show Steps p.tables e below (T7.setTop (mkF m 115 #[.val (.ref t), .val (.int (Int32.ofNat cs.length)), .val (.int ((Int32.ofNat i) + (1 : Int32))), .val (.int (cs.getD (i) 0))] [])) _
    refine XS.goto X7.here hx rfl (pc0 := 115) (pc' := 35) rfl (hb hby d_prog_14_method_2_code_115) (by decide) (by decide) ?_
    show Steps p.tables e below (T7.setTop (mkF m 35 #[.val (.ref t), .val (.int (Int32.ofNat cs.length)), .val (.int ((Int32.ofNat i) + (1 : Int32))), .val (.int (cs.getD (i) 0))] [])) _
    rw [own_succ (Nat.lt_of_lt_of_le hi (Nat.le_trans hl63 (by decide)))]
    exact kt
theorem d_prog_14_method_2_code_52 : decode prog_14_method_2_code 52 = .ok (.iload_n 2, 1) := by decide +kernel
theorem d_prog_14_method_2_code_53 : decode prog_14_method_2_code 53 = .ok (.ifCond .eq 10, 3) := by decide +kernel
theorem d_prog_14_method_2_code_56 : decode prog_14_method_2_code 56 = .ok (.iload_n 2, 1) := by decide +kernel
theorem d_prog_14_method_2_code_57 : decode prog_14_method_2_code 57 = .ok (.iload_n 1, 1) := by decide +kernel
theorem d_prog_14_method_2_code_58 : decode prog_14_method_2_code 58 = .ok (.iconst 1, 1) := by decide +kernel
theorem d_prog_14_method_2_code_59 : decode prog_14_method_2_code 59 = .ok (.isub, 1) := by decide +kernel
theorem d_prog_14_method_2_code_60 : decode prog_14_method_2_code 60 = .ok (.if_icmp .ne 13, 3) := by decide +kernel
theorem d_prog_14_method_2_code_73 : decode prog_14_method_2_code 73 = .ok (.aload_n 0, 1) := by decide +kernel
theorem d_prog_14_method_2_code_74 : decode prog_14_method_2_code 74 = .ok (.iload_n 2, 1) := by decide +kernel
theorem d_prog_14_method_2_code_75 : decode prog_14_method_2_code 75 = .ok (.iconst 1, 1) := by decide +kernel
theorem d_prog_14_method_2_code_76 : decode prog_14_method_2_code 76 = .ok (.isub, 1) := by decide +kernel
theorem d_prog_14_method_2_code_77 : decode prog_14_method_2_code 77 = .ok (.invokevirtual 34, 3) := by decide +kernel
theorem d_prog_14_method_2_code_80 : decode prog_14_method_2_code 80 = .ok (.bipush 45, 2) := by decide +kernel
theorem d_prog_14_method_2_code_82 : decode prog_14_method_2_code 82 = .ok (.if_icmp .ne 30, 3) := by decide +kernel
set_option maxRecDepth 65536 in
set_option maxHeartbeats 40000000 in
theorem tnH {p : Program} {l : Launch} {e : Env} {s : State} {m : MethodId} {args : Array Value} {below : List Frame} {meth : Method} {c : Code} {T0 : State} {locs : List Loc} {Z : State} {a0 : Array Value} {h0 : Heap} {n0 : Nat} (t tb : Addr) (kb : ClassId) (cs : List Int32) (N2 GC : Int32) (vs : List Value) (fm : Value) (i : Nat) (s3 : Slot)
    (X0 : Stand p l e ({ frames := 5, cells := 3, slots := 21, locals := 80 } : Room) s m args below meth c T0 locs 2 20) (hx : p.tables.exec = Jvm.exec) (hZ : Z.Warmed39 s.vm) (hw : ∀ d ∈ tables_1, d.before a0 Z = true) (hby : c.code = prog_14_method_2_code) (hml : c.maxLocals = 4) (hown : s.vm.findClass "com/example/nimble_queue/nimblequeue/core/QueueName" = some m.cls) (e0 : T0.heap = h0) (N0 : Fr n0 locs) (O0 : Old Z n0 h0) (Et : Exa Z h0 t "java/lang/String") (Ct : Fld Z h0 t "java/lang/String" "coder" "B" (.int 0)) (Vt : Fld Z h0 t "java/lang/String" "value" "[B" (.ref tb)) (At : Arv Z h0 tb kb .byte N2 vs (.int 0)) (hcd : StrChars.Road.CodA cs 0 N2 vs) (hbd : ∀ c ∈ cs, ¬ c < 0 ∧ ¬ (65535 : Int32) < c) (hl3 : 3 ≤ cs.length) (hl63 : cs.length ≤ 63) (OC2 : Sta Z Z.heap "java/lang/String" "COMPACT_STRINGS" "Z" (.int GC)) (OCz : ¬ (GC = (0 : Int32))) (OF4 : Sta Z Z.heap "jdk/internal/util/Preconditions" "SIOOBE_FORMATTER" "Ljava/util/function/BiFunction;" fm) (OFr : fm.isRef = true) (hi : i < cs.length) (ho : One s3) (hh : cs.getD (i) 0 = (45 : Int32)) (hi0 : 0 < i) (hi1 : i + 1 < cs.length) (hp : ¬ cs.getD (i - 1) 0 = (45 : Int32)) :
    ∃ (T' : State) (locs' : List Loc), Stand p l e ({ frames := 5, cells := 3, slots := 21, locals := 80 } : Room) s m args below meth c T' locs' 2 20 ∧ Fr n0 locs' ∧ T'.heap = h0 ∧ ∀ target, Steps p.tables e below (T'.setTop (mkF m 35 #[.val (.ref t), .val (.int (Int32.ofNat cs.length)), .val (.int (Int32.ofNat (i + 1))), .val (.int (cs.getD (i) 0))] [])) target → Steps p.tables e below (T0.setTop (mkF m 35 #[.val (.ref t), .val (.int (Int32.ofNat cs.length)), .val (.int (Int32.ofNat i)), s3] [])) target := by
  have Z0 : n0 ≤ h0.size := O0.1 ▸ O0.2.1
  have K0 : Keep h0 h0 [] := Keep.refl _ _
  · have hch : ∀ d ∈ StrChars.Road.wordsChN, d.before a0 Z = true := fun d hd => hw d ((by decide +kernel : ∀ d ∈ StrChars.Road.wordsChN, d ∈ tables_1) d hd)
    obtain ⟨cq8, kq8, qa8, qb8, qc8⟩ := isOf hZ e0 Et
    obtain ⟨_, _, ⟨T8, L8, k8, n8⟩, -, X8, ⟨Lc8, hQ8, l8, y8, z8⟩, st8⟩ := X0.virtualBack hx (y := (⟨"java/lang/String", "charAt", "(I)C"⟩ : MethodName)) (z := (⟨"java/lang/String", "charAt", "(I)C"⟩ : MethodName)) hown (mvT hZ (hw _ (List.mem_of_getElem? (i := 56) rfl))) (mvT hZ (hw _ (List.mem_of_getElem? (i := 57) rfl))) (notFace_of_selects (args := #[]) (mvT hZ (hw _ (List.mem_of_getElem? (i := 59) rfl)))) (mvT hZ (hw _ (List.mem_of_getElem? (i := 59) rfl))) (mvT hZ (hw _ (List.mem_of_getElem? (i := 58) rfl))) (by decide) (StrChars.Road.chN (W := 0) hZ hch (kI := 4) (hw _ (List.mem_of_getElem? (i := 7) rfl)) Et Vt Ct At hcd hbd (OC2.ext O0.2) OCz (OF4.ext O0.2) OFr (Nat.le_trans hl63 (by decide)) (i := i) hi (j := (Int32.ofNat i)) rfl (by decide) (by decide)) qa8 qc8 (g := (mkF m 42 #[.val (.ref t), .val (.int (Int32.ofNat cs.length)), .val (.int (Int32.ofNat i)), s3] [(.int (Int32.ofNat i)), (.ref t)])) rfl (by rw [hml]; rfl) (Steps.refl _) (argsL := [(.int (Int32.ofNat i))]) (rest := []) (lenOf pd__I_C rfl) rfl (by show 2 * 0 + _ ≤ _; exact Nat.le_of_eq rfl) (hb hby d_prog_14_method_2_code_42) (fun _ _ => ⟨rfl, e0, (by decide : 2 + 0 ≤ _), (by decide : 20 + 0 ≤ _)⟩)
    dsimp only [Pt.U, Pt.locs, Pt.cells, Pt.slots] at X8 l8 y8 z8 st8 hQ8
    subst l8 y8 z8
    obtain ⟨rfl, rfl, e8⟩ := hQ8
    have N8q : Fr n0 ([] : List Loc) := Fr.nil n0
    have N8 := Fr.app N0 N8q
    obtain ⟨cq9, kq9, qa9, qb9, qc9⟩ := isOf hZ e8 Et
    obtain ⟨_, _, ⟨T9, L9, k9, n9⟩, -, X9, ⟨Lc9, hQ9, l9, y9, z9⟩, st9⟩ := X8.virtualBack hx (y := (⟨"java/lang/String", "charAt", "(I)C"⟩ : MethodName)) (z := (⟨"java/lang/String", "charAt", "(I)C"⟩ : MethodName)) hown (mvT hZ (hw _ (List.mem_of_getElem? (i := 56) rfl))) (mvT hZ (hw _ (List.mem_of_getElem? (i := 57) rfl))) (notFace_of_selects (args := #[]) (mvT hZ (hw _ (List.mem_of_getElem? (i := 59) rfl)))) (mvT hZ (hw _ (List.mem_of_getElem? (i := 59) rfl))) (mvT hZ (hw _ (List.mem_of_getElem? (i := 58) rfl))) (by decide) (StrChars.Road.chN (W := 0) hZ hch (kI := 4) (hw _ (List.mem_of_getElem? (i := 7) rfl)) Et Vt Ct At hcd hbd (OC2.ext O0.2) OCz (OF4.ext O0.2) OFr (Nat.le_trans hl63 (by decide)) (i := i - 1) (Nat.lt_of_le_of_lt (Nat.sub_le i 1) hi) (j := ((Int32.ofNat i) - (1 : Int32))) (own_pred hi0 (Nat.lt_trans hi (Nat.lt_of_le_of_lt hl63 (by decide)))) (by decide) (by decide)) qa9 qc9 (g := (mkF m 77 #[.val (.ref t), .val (.int (Int32.ofNat cs.length)), .val (.int (Int32.ofNat i)), .val (.int (cs.getD (i) 0))] [(.int ((Int32.ofNat i) - (1 : Int32))), (.ref t)])) rfl (by rw [hml]; rfl) (Steps.refl _) (argsL := [(.int ((Int32.ofNat i) - (1 : Int32)))]) (rest := []) (lenOf pd__I_C rfl) rfl (by show 2 * 0 + _ ≤ _; exact Nat.le_of_eq rfl) (hb hby d_prog_14_method_2_code_77) (fun _ _ => ⟨rfl, e8, (by decide : 2 + 0 ≤ _), (by decide : 20 + 0 ≤ _)⟩)
    dsimp only [Pt.U, Pt.locs, Pt.cells, Pt.slots] at X9 l9 y9 z9 st9 hQ9
    subst l9 y9 z9
    obtain ⟨rfl, rfl, e9⟩ := hQ9
    have N9q : Fr n0 ([] : List Loc) := Fr.nil n0
    have N9 := Fr.app N8 N9q
    refine ⟨T9, _, X9, N9, e9, fun target kt => ?_⟩
    show Steps p.tables e below (T0.setTop (mkF m 35 #[.val (.ref t), .val (.int (Int32.ofNat cs.length)), .val (.int (Int32.ofNat i)), s3] [])) _
    refine XS.iloadN X0.here hx rfl (hb hby d_prog_14_method_2_code_35) rfl ?_
    show Steps p.tables e below (T0.setTop (mkF m 36 #[.val (.ref t), .val (.int (Int32.ofNat cs.length)), .val (.int (Int32.ofNat i)), s3] [(.int (Int32.ofNat i))])) _
    refine XS.iloadN X0.here hx rfl (hb hby d_prog_14_method_2_code_36) rfl ?_
    show Steps p.tables e below (T0.setTop (mkF m 37 #[.val (.ref t), .val (.int (Int32.ofNat cs.length)), .val (.int (Int32.ofNat i)), s3] [(.int (Int32.ofNat cs.length)), (.int (Int32.ofNat i))])) _
    refine XS.icmpNo X0.here hx rfl (hb hby d_prog_14_method_2_code_37) rfl (tlt ((own_lt hi (Nat.lt_of_le_of_lt hl63 (by decide))) : (Int32.ofNat i) < (Int32.ofNat cs.length))).2.1 ?_
    show Steps p.tables e below (T0.setTop (mkF m 40 #[.val (.ref t), .val (.int (Int32.ofNat cs.length)), .val (.int (Int32.ofNat i)), s3] [])) _
    refine XS.aloadN X0.here hx rfl (hb hby d_prog_14_method_2_code_40) rfl rfl ?_
    show Steps p.tables e below (T0.setTop (mkF m 41 #[.val (.ref t), .val (.int (Int32.ofNat cs.length)), .val (.int (Int32.ofNat i)), s3] [(.ref t)])) _
    refine XS.iloadN X0.here hx rfl (hb hby d_prog_14_method_2_code_41) rfl ?_
    show Steps p.tables e below (T0.setTop (mkF m 42 #[.val (.ref t), .val (.int (Int32.ofNat cs.length)), .val (.int (Int32.ofNat i)), s3] [(.int (Int32.ofNat i)), (.ref t)])) _
    refine st8.trans ?_
    show Steps p.tables e below (T8.setTop (mkF m 45 #[.val (.ref t), .val (.int (Int32.ofNat cs.length)), .val (.int (Int32.ofNat i)), s3] [(.int (cs.getD (i) 0))])) _
    refine XS.istoreN X8.here hx rfl (hb hby d_prog_14_method_2_code_45) rfl (l' := #[.val (.ref t), .val (.int (Int32.ofNat cs.length)), .val (.int (Int32.ofNat i)), .val (.int (cs.getD (i) 0))]) (own_os ho) ?_
    show Steps p.tables e below (T8.setTop (mkF m 46 #[.val (.ref t), .val (.int (Int32.ofNat cs.length)), .val (.int (Int32.ofNat i)), .val (.int (cs.getD (i) 0))] [])) _
    refine XS.iloadN X8.here hx rfl (hb hby d_prog_14_method_2_code_46) rfl ?_
    show Steps p.tables e below (T8.setTop (mkF m 47 #[.val (.ref t), .val (.int (Int32.ofNat cs.length)), .val (.int (Int32.ofNat i)), .val (.int (cs.getD (i) 0))] [(.int (cs.getD (i) 0))])) _
    refine XS.bipush X8.here hx rfl (hb hby d_prog_14_method_2_code_47) ?_
    show Steps p.tables e below (T8.setTop (mkF m 49 #[.val (.ref t), .val (.int (Int32.ofNat cs.length)), .val (.int (Int32.ofNat i)), .val (.int (cs.getD (i) 0))] [(.int (45 : Int32)), (.int (cs.getD (i) 0))])) _
    refine XS.icmpNo X8.here hx rfl (hb hby d_prog_14_method_2_code_49) rfl (teq (hh : (cs.getD (i) 0) = (45 : Int32))).2 ?_
    show Steps p.tables e below (T8.setTop (mkF m 52 #[.val (.ref t), .val (.int (Int32.ofNat cs.length)), .val (.int (Int32.ofNat i)), .val (.int (cs.getD (i) 0))] [])) _
    refine XS.iloadN X8.here hx rfl (hb hby d_prog_14_method_2_code_52) rfl ?_
    show Steps p.tables e below (T8.setTop (mkF m 53 #[.val (.ref t), .val (.int (Int32.ofNat cs.length)), .val (.int (Int32.ofNat i)), .val (.int (cs.getD (i) 0))] [(.int (Int32.ofNat i))])) _
    refine XS.ifNo X8.here hx rfl (hb hby d_prog_14_method_2_code_53) rfl ((if0 _ _).trans (feq ((fun q => absurd (own_inj (n := 0) q (Nat.lt_trans hi (Nat.lt_of_le_of_lt hl63 (by decide))) (by decide)) (Nat.ne_of_gt hi0)) : ¬ ((Int32.ofNat i) = (0 : Int32)))).1) ?_
    show Steps p.tables e below (T8.setTop (mkF m 56 #[.val (.ref t), .val (.int (Int32.ofNat cs.length)), .val (.int (Int32.ofNat i)), .val (.int (cs.getD (i) 0))] [])) _
    refine XS.iloadN X8.here hx rfl (hb hby d_prog_14_method_2_code_56) rfl ?_
    show Steps p.tables e below (T8.setTop (mkF m 57 #[.val (.ref t), .val (.int (Int32.ofNat cs.length)), .val (.int (Int32.ofNat i)), .val (.int (cs.getD (i) 0))] [(.int (Int32.ofNat i))])) _
    refine XS.iloadN X8.here hx rfl (hb hby d_prog_14_method_2_code_57) rfl ?_
    show Steps p.tables e below (T8.setTop (mkF m 58 #[.val (.ref t), .val (.int (Int32.ofNat cs.length)), .val (.int (Int32.ofNat i)), .val (.int (cs.getD (i) 0))] [(.int (Int32.ofNat cs.length)), (.int (Int32.ofNat i))])) _
    refine XS.iconst X8.here hx rfl (hb hby d_prog_14_method_2_code_58) ?_
    show Steps p.tables e below (T8.setTop (mkF m 59 #[.val (.ref t), .val (.int (Int32.ofNat cs.length)), .val (.int (Int32.ofNat i)), .val (.int (cs.getD (i) 0))] [(.int (1 : Int32)), (.int (Int32.ofNat cs.length)), (.int (Int32.ofNat i))])) _
    refine XS.isub X8.here hx rfl (hb hby d_prog_14_method_2_code_59) rfl ?_
    show Steps p.tables e below (T8.setTop (mkF m 60 #[.val (.ref t), .val (.int (Int32.ofNat cs.length)), .val (.int (Int32.ofNat i)), .val (.int (cs.getD (i) 0))] [(.int ((Int32.ofNat cs.length) - (1 : Int32))), (.int (Int32.ofNat i))])) _
    refine XS.icmpYes X8.here hx rfl (pc0 := 60) (pc' := 73) rfl (hb hby d_prog_14_method_2_code_60) rfl (feq ((fun q => absurd (own_inj (q.trans (own_pred (Nat.lt_of_lt_of_le (by decide) hl3) (Nat.lt_of_le_of_lt hl63 (by decide)))) (Nat.lt_trans hi (Nat.lt_of_le_of_lt hl63 (by decide))) (Nat.lt_of_le_of_lt (Nat.sub_le _ 1) (Nat.lt_of_le_of_lt hl63 (by decide)))) (by omega)) : ¬ ((Int32.ofNat i) = ((Int32.ofNat cs.length) - (1 : Int32))))).2 (by decide) (by decide) ?_
    show Steps p.tables e below (T8.setTop (mkF m 73 #[.val (.ref t), .val (.int (Int32.ofNat cs.length)), .val (.int (Int32.ofNat i)), .val (.int (cs.getD (i) 0))] [])) _
    refine XS.aloadN X8.here hx rfl (hb hby d_prog_14_method_2_code_73) rfl rfl ?_
    show Steps p.tables e below (T8.setTop (mkF m 74 #[.val (.ref t), .val (.int (Int32.ofNat cs.length)), .val (.int (Int32.ofNat i)), .val (.int (cs.getD (i) 0))] [(.ref t)])) _
    refine XS.iloadN X8.here hx rfl (hb hby d_prog_14_method_2_code_74) rfl ?_
    show Steps p.tables e below (T8.setTop (mkF m 75 #[.val (.ref t), .val (.int (Int32.ofNat cs.length)), .val (.int (Int32.ofNat i)), .val (.int (cs.getD (i) 0))] [(.int (Int32.ofNat i)), (.ref t)])) _
    refine XS.iconst X8.here hx rfl (hb hby d_prog_14_method_2_code_75) ?_
    show Steps p.tables e below (T8.setTop (mkF m 76 #[.val (.ref t), .val (.int (Int32.ofNat cs.length)), .val (.int (Int32.ofNat i)), .val (.int (cs.getD (i) 0))] [(.int (1 : Int32)), (.int (Int32.ofNat i)), (.ref t)])) _
    refine XS.isub X8.here hx rfl (hb hby d_prog_14_method_2_code_76) rfl ?_
    show Steps p.tables e below (T8.setTop (mkF m 77 #[.val (.ref t), .val (.int (Int32.ofNat cs.length)), .val (.int (Int32.ofNat i)), .val (.int (cs.getD (i) 0))] [(.int ((Int32.ofNat i) - (1 : Int32))), (.ref t)])) _
    refine st9.trans ?_
    show Steps p.tables e below (T9.setTop (mkF m 80 #[.val (.ref t), .val (.int (Int32.ofNat cs.length)), .val (.int (Int32.ofNat i)), .val (.int (cs.getD (i) 0))] [(.int (cs.getD (i - 1) 0))])) _
    refine XS.bipush X9.here hx rfl (hb hby d_prog_14_method_2_code_80) ?_
    show Steps p.tables e below (T9.setTop (mkF m 82 #[.val (.ref t), .val (.int (Int32.ofNat cs.length)), .val (.int (Int32.ofNat i)), .val (.int (cs.getD (i) 0))] [(.int (45 : Int32)), (.int (cs.getD (i - 1) 0))])) _
    refine XS.icmpYes X9.here hx rfl (pc0 := 82) (pc' := 112) rfl (hb hby d_prog_14_method_2_code_82) rfl (feq (hp : ¬ ((cs.getD (i - 1) 0) = (45 : Int32)))).2 (by decide) (by decide) ?_
    show Steps p.tables e below (T9.setTop (mkF m 112 #[.val (.ref t), .val (.int (Int32.ofNat cs.length)), .val (.int (Int32.ofNat i)), .val (.int (cs.getD (i) 0))] [])) _
    refine XS.iinc X9.here hx rfl (hb hby d_prog_14_method_2_code_112) rfl (l' := #[.val (.ref t), .val (.int (Int32.ofNat cs.length)), .val (.int ((Int32.ofNat i) + (1 : Int32))), .val (.int (cs.getD (i) 0))]) rfl ?_
    show Steps p.tables e below (T9.setTop (mkF m 115 #[.val (.ref t), .val (.int (Int32.ofNat cs.length)), .val (.int ((Int32.ofNat i) + (1 : Int32))), .val (.int (cs.getD (i) 0))] [])) _
    refine XS.goto X9.here hx rfl (pc0 := 115) (pc' := 35) rfl (hb hby d_prog_14_method_2_code_115) (by decide) (by decide) ?_
    show Steps p.tables e below (T9.setTop (mkF m 35 #[.val (.ref t), .val (.int (Int32.ofNat cs.length)), .val (.int ((Int32.ofNat i) + (1 : Int32))), .val (.int (cs.getD (i) 0))] [])) _
    rw [own_succ (Nat.lt_of_lt_of_le hi (Nat.le_trans hl63 (by decide)))]
    exact kt
set_option maxRecDepth 65536 in
set_option maxHeartbeats 40000000 in
theorem tnE {p : Program} {l : Launch} {e : Env} {s : State} {m : MethodId} {args : Array Value} {below : List Frame} {meth : Method} {c : Code} {T0 : State} {locs : List Loc} {Z : State} {a0 : Array Value} {h0 : Heap} {n0 : Nat} (t tb : Addr) (kb : ClassId) (cs : List Int32) (N2 GC : Int32) (vs : List Value) (fm : Value) (s3 : Slot)
    (X0 : Stand p l e ({ frames := 5, cells := 3, slots := 21, locals := 80 } : Room) s m args below meth c T0 locs 2 20) (hx : p.tables.exec = Jvm.exec) (hZ : Z.Warmed39 s.vm) (hw : ∀ d ∈ tables_1, d.before a0 Z = true) (hby : c.code = prog_14_method_2_code) (hml : c.maxLocals = 4) (hown : s.vm.findClass "com/example/nimble_queue/nimblequeue/core/QueueName" = some m.cls) (e0 : T0.heap = h0) (N0 : Fr n0 locs) (O0 : Old Z n0 h0) (Et : Exa Z h0 t "java/lang/String") (Ct : Fld Z h0 t "java/lang/String" "coder" "B" (.int 0)) (Vt : Fld Z h0 t "java/lang/String" "value" "[B" (.ref tb)) (At : Arv Z h0 tb kb .byte N2 vs (.int 0)) (hcd : StrChars.Road.CodA cs 0 N2 vs) (hbd : ∀ c ∈ cs, ¬ c < 0 ∧ ¬ (65535 : Int32) < c) (hl3 : 3 ≤ cs.length) (hl63 : cs.length ≤ 63) (OC2 : Sta Z Z.heap "java/lang/String" "COMPACT_STRINGS" "Z" (.int GC)) (OCz : ¬ (GC = (0 : Int32))) (OF4 : Sta Z Z.heap "jdk/internal/util/Preconditions" "SIOOBE_FORMATTER" "Ljava/util/function/BiFunction;" fm) (OFr : fm.isRef = true) :
    ∃ (T' : State) (locs' : List Loc), Stand p l e ({ frames := 5, cells := 3, slots := 21, locals := 80 } : Room) s m args below meth c T' locs' 2 20 ∧ Fr n0 locs' ∧ T'.heap = h0 ∧ ∀ target, Steps p.tables e below (T'.setTop (mkF m 118 #[.val (.ref t), .val (.int (Int32.ofNat cs.length)), .val (.int (Int32.ofNat cs.length)), s3] [])) target → Steps p.tables e below (T0.setTop (mkF m 35 #[.val (.ref t), .val (.int (Int32.ofNat cs.length)), .val (.int (Int32.ofNat cs.length)), s3] [])) target := by
  have Z0 : n0 ≤ h0.size := O0.1 ▸ O0.2.1
  have K0 : Keep h0 h0 [] := Keep.refl _ _
  · refine ⟨T0, _, X0, N0, e0, fun target kt => ?_⟩
    show Steps p.tables e below (T0.setTop (mkF m 35 #[.val (.ref t), .val (.int (Int32.ofNat cs.length)), .val (.int (Int32.ofNat cs.length)), s3] [])) _
    refine XS.iloadN X0.here hx rfl (hb hby d_prog_14_method_2_code_35) rfl ?_
    show Steps p.tables e below (T0.setTop (mkF m 36 #[.val (.ref t), .val (.int (Int32.ofNat cs.length)), .val (.int (Int32.ofNat cs.length)), s3] [(.int (Int32.ofNat cs.length))])) _
    refine XS.iloadN X0.here hx rfl (hb hby d_prog_14_method_2_code_36) rfl ?_
    show Steps p.tables e below (T0.setTop (mkF m 37 #[.val (.ref t), .val (.int (Int32.ofNat cs.length)), .val (.int (Int32.ofNat cs.length)), s3] [(.int (Int32.ofNat cs.length)), (.int (Int32.ofNat cs.length))])) _
    refine XS.icmpYes X0.here hx rfl (pc0 := 37) (pc' := 118) rfl (hb hby d_prog_14_method_2_code_37) rfl (flt ((own_nlt (Nat.le_refl _) (Nat.lt_of_le_of_lt hl63 (by decide))) : ¬ ((Int32.ofNat cs.length) < (Int32.ofNat cs.length)))).2.1 (by decide) (by decide) ?_
    exact kt
set_option maxRecDepth 65536 in
set_option maxHeartbeats 40000000 in
theorem loopQ {p : Program} {l : Launch} {e : Env} {s : State} {m : MethodId} {args : Array Value} {below : List Frame} {meth : Method} {c : Code} {Z : State} {a0 : Array Value} {h0 : Heap} {n0 : Nat} (t tb : Addr) (kb : ClassId) (cs : List Int32) (N2 GC : Int32) (vs : List Value) (fm : Value) (hx : p.tables.exec = Jvm.exec) (hZ : Z.Warmed39 s.vm) (hw : ∀ d ∈ tables_1, d.before a0 Z = true) (hby : c.code = prog_14_method_2_code) (hml : c.maxLocals = 4) (hown : s.vm.findClass "com/example/nimble_queue/nimblequeue/core/QueueName" = some m.cls) (O0 : Old Z n0 h0) (Et : Exa Z h0 t "java/lang/String") (Ct : Fld Z h0 t "java/lang/String" "coder" "B" (.int 0)) (Vt : Fld Z h0 t "java/lang/String" "value" "[B" (.ref tb)) (At : Arv Z h0 tb kb .byte N2 vs (.int 0)) (hcd : StrChars.Road.CodA cs 0 N2 vs) (hbd : ∀ c ∈ cs, ¬ c < 0 ∧ ¬ (65535 : Int32) < c) (hl3 : 3 ≤ cs.length) (hl63 : cs.length ≤ 63) (OC2 : Sta Z Z.heap "java/lang/String" "COMPACT_STRINGS" "Z" (.int GC)) (OCz : ¬ (GC = (0 : Int32))) (OF4 : Sta Z Z.heap "jdk/internal/util/Preconditions" "SIOOBE_FORMATTER" "Ljava/util/function/BiFunction;" fm) (OFr : fm.isRef = true) (hok : own_ok cs) :
    ∀ (k i : Nat) (T0 : State) (locs : List Loc) (s3 : Slot), i + k = cs.length → One s3 → Stand p l e ({ frames := 5, cells := 3, slots := 21, locals := 80 } : Room) s m args below meth c T0 locs 2 20 → Fr n0 locs → T0.heap = h0 → ∃ (s3' : Slot) (T' : State) (locs' : List Loc), Stand p l e ({ frames := 5, cells := 3, slots := 21, locals := 80 } : Room) s m args below meth c T' locs' 2 20 ∧ Fr n0 locs' ∧ T'.heap = h0 ∧ ∀ target, Steps p.tables e below (T'.setTop (mkF m 118 #[.val (.ref t), .val (.int (Int32.ofNat cs.length)), .val (.int (Int32.ofNat cs.length)), s3'] [])) target → Steps p.tables e below (T0.setTop (mkF m 35 #[.val (.ref t), .val (.int (Int32.ofNat cs.length)), .val (.int (Int32.ofNat i)), s3] [])) target := by
  intro k
  induction k with
  | zero =>
    intro i T0 locs s3 hik ho X0 N0 e0
    have hi : i = cs.length := hik
    subst hi
    obtain ⟨T1, l1, X1, N1, e1, st1⟩ := tnE t tb kb cs N2 GC vs fm s3 X0 hx hZ hw hby hml hown e0 N0 O0 Et Ct Vt At hcd hbd hl3 hl63 OC2 OCz OF4 OFr
    exact ⟨s3, T1, l1, X1, N1, e1, st1⟩
  | succ k ih =>
    intro i T0 locs s3 hik ho X0 N0 e0
    have hi : i < cs.length := by omega
    rcases hok i hi with hal | ⟨hh, hi0, hi1, hp⟩
    · obtain ⟨T1, l1, X1, N1, e1, st1⟩ := tnA t tb kb cs N2 GC vs fm i s3 X0 hx hZ hw hby hml hown e0 N0 O0 Et Ct Vt At hcd hbd hl3 hl63 OC2 OCz OF4 OFr hi ho hal
      obtain ⟨s3', T2, l2, X2, N2, e2, st2⟩ := ih (i + 1) T1 l1 (.val (.int (cs.getD (i) 0))) (by omega) (One.val rfl) X1 N1 e1
      exact ⟨s3', T2, l2, X2, N2, e2, fun target kt => st1 target (st2 target kt)⟩
    · obtain ⟨T1, l1, X1, N1, e1, st1⟩ := tnH t tb kb cs N2 GC vs fm i s3 X0 hx hZ hw hby hml hown e0 N0 O0 Et Ct Vt At hcd hbd hl3 hl63 OC2 OCz OF4 OFr hi ho hh hi0 hi1 hp
      obtain ⟨s3', T2, l2, X2, N2, e2, st2⟩ := ih (i + 1) T1 l1 (.val (.int (cs.getD (i) 0))) (by omega) (One.val rfl) X1 N1 e1
      exact ⟨s3', T2, l2, X2, N2, e2, fun target kt => st1 target (st2 target kt)⟩
def QOf (Z : State) (t : Addr) (h0 : Heap) (n0 : Nat) (v : Option Value) (h : Heap) (L : List Loc) : Prop := ∃ x : Addr, v = some (.ref x) ∧ Fr n0 L ∧ Keep h0 h [] ∧ h0.size ≤ x ∧ Exa Z h x "com/example/nimble_queue/nimblequeue/core/QueueName" ∧ Fld Z h x "com/example/nimble_queue/nimblequeue/core/QueueName" "name" "Ljava/lang/String;" (.ref t)
theorem d_prog_14_method_2_code_0 : decode prog_14_method_2_code 0 = .ok (.aload_n 0, 1) := by decide +kernel
theorem d_prog_14_method_2_code_1 : decode prog_14_method_2_code 1 = .ok (.ldc 13, 2) := by decide +kernel
theorem d_prog_14_method_2_code_3 : decode prog_14_method_2_code 3 = .ok (.invokestatic 15, 3) := by decide +kernel
theorem pd__Ljava_lang_Object_Ljava_lang_String__Ljava_lang_Object_ : parseMethodDescriptor "(Ljava/lang/Object;Ljava/lang/String;)Ljava/lang/Object;" = some ⟨[(.object "java/lang/Object"), (.object "java/lang/String")], some (.object "java/lang/Object")⟩ := by decide +kernel
theorem d_prog_14_method_2_code_6 : decode prog_14_method_2_code 6 = .ok (.pop, 1) := by decide +kernel
theorem d_prog_14_method_2_code_7 : decode prog_14_method_2_code 7 = .ok (.aload_n 0, 1) := by decide +kernel
theorem d_prog_14_method_2_code_8 : decode prog_14_method_2_code 8 = .ok (.invokevirtual 21, 3) := by decide +kernel
theorem pd___I : parseMethodDescriptor "()I" = some ⟨[], some .int⟩ := by decide +kernel
theorem d_prog_14_method_2_code_11 : decode prog_14_method_2_code 11 = .ok (.istore_n 1, 1) := by decide +kernel
theorem d_prog_14_method_2_code_12 : decode prog_14_method_2_code 12 = .ok (.iload_n 1, 1) := by decide +kernel
theorem d_prog_14_method_2_code_13 : decode prog_14_method_2_code 13 = .ok (.iconst 3, 1) := by decide +kernel
theorem d_prog_14_method_2_code_14 : decode prog_14_method_2_code 14 = .ok (.if_icmp .lt 9, 3) := by decide +kernel
theorem d_prog_14_method_2_code_17 : decode prog_14_method_2_code 17 = .ok (.iload_n 1, 1) := by decide +kernel
theorem d_prog_14_method_2_code_18 : decode prog_14_method_2_code 18 = .ok (.bipush 63, 2) := by decide +kernel
theorem d_prog_14_method_2_code_20 : decode prog_14_method_2_code 20 = .ok (.if_icmp .le 13, 3) := by decide +kernel
theorem d_prog_14_method_2_code_33 : decode prog_14_method_2_code 33 = .ok (.iconst 0, 1) := by decide +kernel
theorem d_prog_14_method_2_code_34 : decode prog_14_method_2_code 34 = .ok (.istore_n 2, 1) := by decide +kernel
theorem d_prog_14_method_2_code_118 : decode prog_14_method_2_code 118 = .ok (.new 8, 3) := by decide +kernel
theorem d_prog_14_method_2_code_121 : decode prog_14_method_2_code 121 = .ok (.dup, 1) := by decide +kernel
theorem d_prog_14_method_2_code_122 : decode prog_14_method_2_code 122 = .ok (.aload_n 0, 1) := by decide +kernel
theorem d_prog_14_method_2_code_123 : decode prog_14_method_2_code 123 = .ok (.invokespecial 48, 3) := by decide +kernel
theorem pd__Ljava_lang_String__V : parseMethodDescriptor "(Ljava/lang/String;)V" = some ⟨[(.object "java/lang/String")], none⟩ := by decide +kernel
theorem d_prog_14_method_2_code_126 : decode prog_14_method_2_code 126 = .ok (.areturn, 1) := by decide +kernel
theorem ef_rmOf (m : MethodId) (x0 : Addr) : entryFrame m #[(.ref x0)] 4 = mkF m 0 #[.val (.ref x0), .unset, .unset, .unset] [] := by first | (simp [entryFrame, mkF, argsToLocals, Value.category]; done) | rfl
set_option maxRecDepth 65536 in
set_option maxHeartbeats 40000000 in
theorem rmOf (l : Launch) (Z : State) (a0 : Array Value) (hw : ∀ d ∈ tables_1, d.before a0 Z = true) (ws : List Jvm.Cond) (t tb : Addr) (kb : ClassId) (cs : List Int32) (N2 GC : Int32) (vs : List Value) (fm : Value) (h0 : Heap) (n0 : Nat) (O0 : Old Z n0 h0) (wS : ∀ a ∈ Bundle.stringAtoms, a.before a0 Z = true) (Et : Exa Z h0 t "java/lang/String") (Ct : Fld Z h0 t "java/lang/String" "coder" "B" (.int 0)) (Vt : Fld Z h0 t "java/lang/String" "value" "[B" (.ref tb)) (At : Arv Z h0 tb kb .byte N2 vs (.int 0)) (hcd : StrChars.Road.CodA cs 0 N2 vs) (hbd : ∀ c ∈ cs, ¬ c < 0 ∧ ¬ (65535 : Int32) < c) (hl3 : 3 ≤ cs.length) (hl63 : cs.length ≤ 63) (OC2 : Sta Z Z.heap "java/lang/String" "COMPACT_STRINGS" "Z" (.int GC)) (OCz : ¬ (GC = (0 : Int32))) (OF4 : Sta Z Z.heap "jdk/internal/util/Preconditions" "SIOOBE_FORMATTER" "Ljava/util/function/BiFunction;" fm) (OFr : fm.isRef = true) (hok : own_ok cs) :
    MetFree l (⟨"com/example/nimble_queue/nimblequeue/core/QueueName", "of", "(Ljava/lang/String;)Lcom/example/nimble_queue/nimblequeue/core/QueueName;"⟩ : MethodName) (head1 (Jvm.Cond.code (⟨"com/example/nimble_queue/nimblequeue/core/QueueName", "of", "(Ljava/lang/String;)Lcom/example/nimble_queue/nimblequeue/core/QueueName;"⟩ : MethodName) prog_14_method_2_code 4 (some (.object "com/example/nimble_queue/nimblequeue/core/QueueName")) :: ws) ({ frames := 5, cells := 3, slots := 21, locals := 80 } : Room)) (fun aa_ U => aa_ = #[(.ref t)] ∧ Z.Warmed39 U.vm ∧ U.heap = h0) (fun _ _ _ _ _ => True) (fun _ U o U' => ∃ v L, o = .returned v ∧ QOf Z t h0 n0 v U'.heap L ∧ ReturnedEndW U o U' L ({ frames := 5, cells := 3, slots := 21, locals := 80 } : Room).cells ({ frames := 5, cells := 3, slots := 21, locals := 80 } : Room).slots) := by
  refine MetFree.of_bodySF (plainFor_of_name pn_com_example_nimble_queue_nimblequeue_core_QueueName) hisR ?_
  intro p e s m args below meth c s₁ Bd hml0 hP hK
  obtain ⟨rfl, hZ, hh⟩ := hP
  have hx := Bd.exec
  have hby := Bd.bytes
  have hml : c.maxLocals = 4 := hml0
  have hown : s.vm.findClass "com/example/nimble_queue/nimblequeue/core/QueueName" = some m.cls := findClass_of_methodNamed Bd.named
  have hnm := (name_of_methodNamed Bd.named Bd.method).1
  have X0 : Stand p l e ({ frames := 5, cells := 3, slots := 21, locals := 80 } : Room) (s.setVm s.vm) m #[(.ref t)] below meth c s₁ [] 0 0 := Stand.of_body Bd
  have e0 : s₁.heap = h0 := by rw [← hh, Bd.state]; rfl
  have N0 := Fr.nil n0
  have Z0 : n0 ≤ h0.size := O0.1 ▸ O0.2.1
  have K0 : Keep h0 h0 [] := Keep.refl _ _
  have hS0 : s.Since s.vm h0.size := (State.WarmedH.refl s).since _
  have hk0 : h0.size ≤ h0.size := Nat.le_refl _
  have pre0 : ∀ tgt_, Steps p.tables e below (s₁.setTop (mkF m 0 #[.val (.ref t), .unset, .unset, .unset] [])) tgt_ → Steps p.tables e below (s₁.setTop (entryFrame m #[(.ref t)] 4)) tgt_ := fun tgt_ k => castTop (ef_rmOf m t) k
  obtain ⟨a10, T10, h10, kk10, X10, e10, E10, hS10, hk10, hZ10, hown10, st10⟩ := ldcS (s := s) X0 hx hZ hown (hw _ (List.mem_of_getElem? (i := 39) rfl)) wS e0 hS0 hk0 (g := (mkF m 1 #[.val (.ref t), .unset, .unset, .unset] [(.ref t)])) rfl (hb hby d_prog_14_method_2_code_1) (n := 16) (by decide) (by decide) (by decide) (by decide)
  have O11 : Old Z n0 h10 := O0.ext E10
  have Z11 : n0 ≤ h10.size := Nat.le_trans Z0 E10.1
  have K11 : Keep h0 h10 [] := K0.ext E10
  have f12 : Exa Z h10 t "java/lang/String" := Et.ext E10
  have f13 : Fld Z h10 t "java/lang/String" "coder" "B" (.int 0) := Ct.ext E10
  have f14 : Fld Z h10 t "java/lang/String" "value" "[B" (.ref tb) := Vt.ext E10
  have f15 : Arv Z h10 tb kb .byte N2 vs (.int 0) := At.ext E10
  obtain ⟨_, _, ⟨T16, L16, k16, n16⟩, -, X16, ⟨Lc16, hQ16, l16, y16, z16⟩, st16⟩ := Jvm.LawKit.callS X10 hx (y := (⟨"java/util/Objects", "requireNonNull", "(Ljava/lang/Object;Ljava/lang/String;)Ljava/lang/Object;"⟩ : MethodName)) hown10 (mvT hZ10 (hw _ (List.mem_of_getElem? (i := 42) rfl))) (mvT hZ10 (hw _ (List.mem_of_getElem? (i := 43) rfl))) (mvT hZ10 (hw _ (List.mem_of_getElem? (i := 44) rfl))) (mvT hZ10 (hw _ (List.mem_of_getElem? (i := 45) rfl))) (by decide) (backOf (W := 0) (rmRN l Z a0 hw [] t a10 h10 n0 O11) hZ10 (hw _ (List.mem_of_getElem? (i := 45) rfl)) (hw _ (List.mem_of_getElem? (i := 44) rfl)) (by decide) (by decide)) (g := (mkF m 3 #[.val (.ref t), .unset, .unset, .unset] [(.ref a10), (.ref t)])) rfl (by rw [hml]; rfl) (argsL := [(.ref t), (.ref a10)]) (rest := []) (lenOf pd__Ljava_lang_Object_Ljava_lang_String__Ljava_lang_Object_ rfl) rfl (by show 2 * 0 + _ ≤ _; exact Nat.le_of_eq rfl) (hb hby d_prog_14_method_2_code_3) (fun _ _ => ⟨rfl, e10, (by decide : 2 + 0 ≤ _), (by decide : 20 + 0 ≤ _)⟩)
  dsimp only [Pt.U, Pt.locs, Pt.cells, Pt.slots] at X16 l16 y16 z16 st16 hQ16
  subst l16 y16 z16
  obtain ⟨rfl, N16q, e16⟩ := hQ16
  have N16 := Fr.app N0 N16q
  have hln : ∀ d ∈ StrChars.Road.wordsLen, d.before a0 Z = true := fun d hd => hw d ((by decide +kernel : ∀ d ∈ StrChars.Road.wordsLen, d ∈ tables_1) d hd)
  obtain ⟨cq17, kq17, qa17, qb17, qc17⟩ := isOf hZ10 e16 f12
  obtain ⟨_, _, ⟨T17, L17, k17, n17⟩, -, X17, ⟨Lc17, hQ17, l17, y17, z17⟩, st17⟩ := X16.virtualBack hx (y := (⟨"java/lang/String", "length", "()I"⟩ : MethodName)) (z := (⟨"java/lang/String", "length", "()I"⟩ : MethodName)) hown10 (mvT hZ10 (hw _ (List.mem_of_getElem? (i := 46) rfl))) (mvT hZ10 (hw _ (List.mem_of_getElem? (i := 47) rfl))) (notFace_of_selects (args := #[]) (mvT hZ10 (hw _ (List.mem_of_getElem? (i := 49) rfl)))) (mvT hZ10 (hw _ (List.mem_of_getElem? (i := 49) rfl))) (mvT hZ10 (hw _ (List.mem_of_getElem? (i := 48) rfl))) (by decide) (StrChars.Road.lenW (W := 0) hZ10 hln (kI := 4) (hw _ (List.mem_of_getElem? (i := 7) rfl)) f12 f14 f13 f15 hcd hbd (OC2.ext O11.2) OCz (Nat.le_trans hl63 (by decide)) (by decide) (by decide)) qa17 qc17 (g := (mkF m 8 #[.val (.ref t), .unset, .unset, .unset] [(.ref t)])) rfl (by rw [hml]; rfl) (Steps.refl _) (argsL := []) (rest := []) (lenOf pd___I rfl) rfl (by show 2 * 0 + _ ≤ _; exact Nat.le_of_eq rfl) (hb hby d_prog_14_method_2_code_8) (fun _ _ => ⟨rfl, e16, (by decide : 2 + 0 ≤ _), (by decide : 20 + 0 ≤ _)⟩)
  dsimp only [Pt.U, Pt.locs, Pt.cells, Pt.slots] at X17 l17 y17 z17 st17 hQ17
  subst l17 y17 z17
  obtain ⟨rfl, rfl, e17⟩ := hQ17
  have N17q : Fr n0 ([] : List Loc) := Fr.nil n0
  have N17 := Fr.app N16 N17q
  obtain ⟨s318, T18, l18, X18, N18, e18, st18⟩ := loopQ t tb kb cs N2 GC vs fm hx hZ10 hw hby hml hown10 O11 f12 f13 f14 f15 hcd hbd hl3 hl63 OC2 OCz OF4 OFr hok cs.length 0 T17 _ .unset (Nat.zero_add _) One.u X17 N17 e17
  obtain ⟨T19, h19, X19, e19, E19, A19, D19, -, st19⟩ := newO X18 hx hZ10 hown10 (hw _ (List.mem_of_getElem? (i := 81) rfl)) (hw _ (List.mem_of_getElem? (i := 82) rfl)) (hw _ (List.mem_of_getElem? (i := 37) rfl)) e18 (g := (mkF m 118 #[.val (.ref t), .val (.int (Int32.ofNat cs.length)), .val (.int (Int32.ofNat cs.length)), s318] [])) rfl (hb hby d_prog_14_method_2_code_118) (by decide) (by decide)
  obtain ⟨b19, g19⟩ : ∃ z, z = h10.size := ⟨_, rfl⟩
  rw [← g19] at A19 D19 st19
  have geb19 : h10.size ≤ b19 := Nat.le_of_eq g19.symm
  have g_b19 : n0 ≤ b19 := Nat.le_trans Z11 geb19
  have sz_b19 : h0.size ≤ b19 := Nat.le_trans K11.1 geb19
  have O20 : Old Z n0 h19 := O11.ext E19
  have Z20 : n0 ≤ h19.size := Nat.le_trans Z11 E19.1
  have K20 : Keep h0 h19 [] := K11.ext E19
  have hk20 : kk10 ≤ h19.size := Nat.le_trans hk10 E19.1
  have f21 : Exa Z h19 t "java/lang/String" := f12.ext E19
  have f22 : Fld Z h19 t "java/lang/String" "coder" "B" (.int 0) := f13.ext E19
  have f23 : Fld Z h19 t "java/lang/String" "value" "[B" (.ref tb) := f14.ext E19
  have f24 : Arv Z h19 tb kb .byte N2 vs (.int 0) := f15.ext E19
  have f25 : Fld Z h19 b19 "com/example/nimble_queue/nimblequeue/core/QueueName" "name" "Ljava/lang/String;" .null := D19 (Or.inr (hw _ (List.mem_of_getElem? (i := 88) rfl))) (ty := (.object "java/lang/String")) (by decide)
  obtain ⟨_, _, ⟨T26, L26, k26, n26⟩, -, X26, ⟨Lc26, hQ26, l26, y26, z26⟩, st26⟩ := X19.specialBack hx (y := (⟨"com/example/nimble_queue/nimblequeue/core/QueueName", "<init>", "(Ljava/lang/String;)V"⟩ : MethodName)) rfl hown10 (mvT hZ10 (hw _ (List.mem_of_getElem? (i := 83) rfl))) (mvT hZ10 (hw _ (List.mem_of_getElem? (i := 84) rfl))) (mvT hZ10 (hw _ (List.mem_of_getElem? (i := 85) rfl))) (by decide) (backOf (W := 1) (rmQI l Z a0 hw [] b19 t h19 n0 O20 g_b19 A19 f25) hZ10 (hw _ (List.mem_of_getElem? (i := 85) rfl)) (hw _ (List.mem_of_getElem? (i := 37) rfl)) (by decide) (by decide)) (g := (mkF m 123 #[.val (.ref t), .val (.int (Int32.ofNat cs.length)), .val (.int (Int32.ofNat cs.length)), s318] [(.ref t), (.ref b19), (.ref b19)])) rfl (by rw [hml]; rfl) (Steps.refl _) (a := b19) (argsL := [(.ref t)]) (rest := [(.ref b19)]) (lenOf pd__Ljava_lang_String__V rfl) rfl (by show 2 * 0 + _ ≤ _; exact Nat.le_of_eq rfl) (hb hby d_prog_14_method_2_code_123) (fun _ _ => ⟨rfl, e19, (by decide : 3 + 0 ≤ _), (by decide : 21 + 0 ≤ _)⟩)
  dsimp only [Pt.U, Pt.locs, Pt.cells, Pt.slots] at X26 l26 y26 z26 st26 hQ26
  subst l26 y26 z26
  obtain ⟨rfl, N26q, K26k, g126, g226⟩ := hQ26
  have N26 := Fr.app N18 N26q
  have O27 : Old Z n0 T26.heap := O20.keep K26k (allS g_b19 all0)
  have Z27 : n0 ≤ T26.heap.size := Nat.le_trans Z20 K26k.1
  have K27 : Keep h0 T26.heap [] := K20.trans K26k (allS (Or.inr sz_b19) all0)
  have hk27 : kk10 ≤ T26.heap.size := Nat.le_trans hk20 K26k.1
  have f28 : Exa Z T26.heap t "java/lang/String" := f21.keep K26k
  have f29 : Fld Z T26.heap t "java/lang/String" "coder" "B" (.int 0) := f22.keep K26k (ninS (Nat.ne_of_lt (Nat.lt_of_lt_of_le f12.lt geb19)) nin0)
  have f30 : Fld Z T26.heap t "java/lang/String" "value" "[B" (.ref tb) := f23.keep K26k (ninS (Nat.ne_of_lt (Nat.lt_of_lt_of_le f12.lt geb19)) nin0)
  have f31 : Arv Z T26.heap tb kb .byte N2 vs (.int 0) := f24.keep K26k (ninS (Nat.ne_of_lt (Nat.lt_of_lt_of_le f15.lt geb19)) nin0)
  have f32 : Exa Z T26.heap b19 "com/example/nimble_queue/nimblequeue/core/QueueName" := A19.keep K26k
  obtain ⟨fs, hr, hrun, hended, hEnd⟩ := X26.leaveW (s := s) hS10 hk27 (v := some (.ref b19)) (fun h => by rw [Bd.returns] at h; cases h)
  refine ⟨_, _, pre0 _ ?_, hrun, hended, _, _, rfl, ?_, hEnd.1, hEnd.2.1, hEnd.2.2.1, hEnd.2.2.2.mono (by decide) (by decide)⟩
  · show Steps p.tables e below (s₁.setTop (mkF m 0 #[.val (.ref t), .unset, .unset, .unset] [])) _
    refine XS.aloadN X0.here hx rfl (hb hby d_prog_14_method_2_code_0) rfl rfl ?_
    show Steps p.tables e below (s₁.setTop (mkF m 1 #[.val (.ref t), .unset, .unset, .unset] [(.ref t)])) _
    refine st10 _ ?_
    show Steps p.tables e below (T10.setTop (mkF m 3 #[.val (.ref t), .unset, .unset, .unset] [(.ref a10), (.ref t)])) _
    refine st16 _ ?_
    show Steps p.tables e below (T16.setTop (mkF m 6 #[.val (.ref t), .unset, .unset, .unset] [(.ref t)])) _
    refine XS.pop X16.here hx rfl (hb hby d_prog_14_method_2_code_6) rfl rfl ?_
    show Steps p.tables e below (T16.setTop (mkF m 7 #[.val (.ref t), .unset, .unset, .unset] [])) _
    refine XS.aloadN X16.here hx rfl (hb hby d_prog_14_method_2_code_7) rfl rfl ?_
    show Steps p.tables e below (T16.setTop (mkF m 8 #[.val (.ref t), .unset, .unset, .unset] [(.ref t)])) _
    refine st17.trans ?_
    show Steps p.tables e below (T17.setTop (mkF m 11 #[.val (.ref t), .unset, .unset, .unset] [(.int (Int32.ofNat cs.length))])) _
    refine XS.istoreN X17.here hx rfl (hb hby d_prog_14_method_2_code_11) rfl (l' := #[.val (.ref t), .val (.int (Int32.ofNat cs.length)), .unset, .unset]) rfl ?_
    show Steps p.tables e below (T17.setTop (mkF m 12 #[.val (.ref t), .val (.int (Int32.ofNat cs.length)), .unset, .unset] [])) _
    refine XS.iloadN X17.here hx rfl (hb hby d_prog_14_method_2_code_12) rfl ?_
    show Steps p.tables e below (T17.setTop (mkF m 13 #[.val (.ref t), .val (.int (Int32.ofNat cs.length)), .unset, .unset] [(.int (Int32.ofNat cs.length))])) _
    refine XS.iconst X17.here hx rfl (hb hby d_prog_14_method_2_code_13) ?_
    show Steps p.tables e below (T17.setTop (mkF m 14 #[.val (.ref t), .val (.int (Int32.ofNat cs.length)), .unset, .unset] [(.int (3 : Int32)), (.int (Int32.ofNat cs.length))])) _
    refine XS.icmpNo X17.here hx rfl (hb hby d_prog_14_method_2_code_14) rfl (flt ((own_nlt (n := 3) hl3 (Nat.lt_of_le_of_lt hl63 (by decide))) : ¬ ((Int32.ofNat cs.length) < (3 : Int32)))).1 ?_
    show Steps p.tables e below (T17.setTop (mkF m 17 #[.val (.ref t), .val (.int (Int32.ofNat cs.length)), .unset, .unset] [])) _
    refine XS.iloadN X17.here hx rfl (hb hby d_prog_14_method_2_code_17) rfl ?_
    show Steps p.tables e below (T17.setTop (mkF m 18 #[.val (.ref t), .val (.int (Int32.ofNat cs.length)), .unset, .unset] [(.int (Int32.ofNat cs.length))])) _
    refine XS.bipush X17.here hx rfl (hb hby d_prog_14_method_2_code_18) ?_
    show Steps p.tables e below (T17.setTop (mkF m 20 #[.val (.ref t), .val (.int (Int32.ofNat cs.length)), .unset, .unset] [(.int (63 : Int32)), (.int (Int32.ofNat cs.length))])) _
    refine XS.icmpYes X17.here hx rfl (pc0 := 20) (pc' := 33) rfl (hb hby d_prog_14_method_2_code_20) rfl (flt ((own_nlt (i := 63) hl63 (by decide)) : ¬ ((63 : Int32) < (Int32.ofNat cs.length)))).2.2.2 (by decide) (by decide) ?_
    show Steps p.tables e below (T17.setTop (mkF m 33 #[.val (.ref t), .val (.int (Int32.ofNat cs.length)), .unset, .unset] [])) _
    refine XS.iconst X17.here hx rfl (hb hby d_prog_14_method_2_code_33) ?_
    show Steps p.tables e below (T17.setTop (mkF m 34 #[.val (.ref t), .val (.int (Int32.ofNat cs.length)), .unset, .unset] [(.int (0 : Int32))])) _
    refine XS.istoreN X17.here hx rfl (hb hby d_prog_14_method_2_code_34) rfl (l' := #[.val (.ref t), .val (.int (Int32.ofNat cs.length)), .val (.int (0 : Int32)), .unset]) rfl ?_
    show Steps p.tables e below (T17.setTop (mkF m 35 #[.val (.ref t), .val (.int (Int32.ofNat cs.length)), .val (.int (0 : Int32)), .unset] [])) _
    refine st18 _ ?_
    show Steps p.tables e below (T18.setTop (mkF m 118 #[.val (.ref t), .val (.int (Int32.ofNat cs.length)), .val (.int (Int32.ofNat cs.length)), s318] [])) _
    refine st19 _ ?_
    show Steps p.tables e below (T19.setTop (mkF m 121 #[.val (.ref t), .val (.int (Int32.ofNat cs.length)), .val (.int (Int32.ofNat cs.length)), s318] [(.ref b19)])) _
    refine XS.dup X19.here hx rfl (hb hby d_prog_14_method_2_code_121) rfl rfl ?_
    show Steps p.tables e below (T19.setTop (mkF m 122 #[.val (.ref t), .val (.int (Int32.ofNat cs.length)), .val (.int (Int32.ofNat cs.length)), s318] [(.ref b19), (.ref b19)])) _
    refine XS.aloadN X19.here hx rfl (hb hby d_prog_14_method_2_code_122) rfl rfl ?_
    show Steps p.tables e below (T19.setTop (mkF m 123 #[.val (.ref t), .val (.int (Int32.ofNat cs.length)), .val (.int (Int32.ofNat cs.length)), s318] [(.ref t), (.ref b19), (.ref b19)])) _
    refine st26.trans ?_
    show Steps p.tables e below (T26.setTop (mkF m 126 #[.val (.ref t), .val (.int (Int32.ofNat cs.length)), .val (.int (Int32.ofNat cs.length)), s318] [(.ref b19)])) _
    jvm_step X26.here [X26.here.top, hx, (hb hby d_prog_14_method_2_code_126), X26.method', Bd.returns, Value.isRef, FieldType.isReference]
    first | (intro acts; rw [hr _ acts rfl rfl rfl]) | rw [hr _ _ rfl rfl rfl]
    exact Steps.refl _
  · show QOf Z t h0 n0 _ T26.heap _
    exact ⟨b19, rfl, N26, K27, sz_b19, g126, g226⟩
def QTS (Z : State) (t : Addr) (h0 : Heap) (n0 : Nat) (v : Option Value) (h : Heap) (L : List Loc) : Prop := v = some (.ref t) ∧ Fr n0 L ∧ h = h0
theorem d_prog_14_method_6_code_0 : decode prog_14_method_6_code 0 = .ok (.aload_n 0, 1) := by decide +kernel
theorem d_prog_14_method_6_code_1 : decode prog_14_method_6_code 1 = .ok (.getfield 7, 3) := by decide +kernel
theorem d_prog_14_method_6_code_4 : decode prog_14_method_6_code 4 = .ok (.areturn, 1) := by decide +kernel
theorem ef_rmTS (m : MethodId) (x0 : Addr) : entryFrame m #[(.ref x0)] 1 = mkF m 0 #[.val (.ref x0)] [] := by first | (simp [entryFrame, mkF, argsToLocals, Value.category]; done) | rfl
set_option maxRecDepth 65536 in
set_option maxHeartbeats 40000000 in
theorem rmTS (l : Launch) (Z : State) (a0 : Array Value) (hw : ∀ d ∈ tables_1, d.before a0 Z = true) (ws : List Jvm.Cond) (x t : Addr) (h0 : Heap) (n0 : Nat) (O0 : Old Z n0 h0) (F0 : Fld Z h0 x "com/example/nimble_queue/nimblequeue/core/QueueName" "name" "Ljava/lang/String;" (.ref t)) :
    MetFree l (⟨"com/example/nimble_queue/nimblequeue/core/QueueName", "toString", "()Ljava/lang/String;"⟩ : MethodName) (head1 (Jvm.Cond.code (⟨"com/example/nimble_queue/nimblequeue/core/QueueName", "toString", "()Ljava/lang/String;"⟩ : MethodName) prog_14_method_6_code 1 (some (.object "java/lang/String")) :: ws) ({ frames := 0, cells := 0, slots := 0, locals := 0 } : Room)) (fun aa_ U => aa_ = #[(.ref x)] ∧ Z.Warmed39 U.vm ∧ U.heap = h0) (fun _ _ _ _ _ => True) (fun _ U o U' => ∃ v L, o = .returned v ∧ QTS Z t h0 n0 v U'.heap L ∧ FrameEnd U o U' L ({ frames := 0, cells := 0, slots := 0, locals := 0 } : Room).cells ({ frames := 0, cells := 0, slots := 0, locals := 0 } : Room).slots) := by
  refine MetFree.of_bodySF (plainFor_of_name pn_com_example_nimble_queue_nimblequeue_core_QueueName) hisR ?_
  intro p e s m args below meth c s₁ Bd hml0 hP hK
  obtain ⟨rfl, hZ, hh⟩ := hP
  have hx := Bd.exec
  have hby := Bd.bytes
  have hml : c.maxLocals = 1 := hml0
  have hown : s.vm.findClass "com/example/nimble_queue/nimblequeue/core/QueueName" = some m.cls := findClass_of_methodNamed Bd.named
  have hnm := (name_of_methodNamed Bd.named Bd.method).1
  have X0 : Stand p l e ({ frames := 0, cells := 0, slots := 0, locals := 0 } : Room) s m #[(.ref x)] below meth c s₁ [] 0 0 := Stand.of_body Bd
  have e0 : s₁.heap = h0 := by rw [← hh, Bd.state]; rfl
  have N0 := Fr.nil n0
  have Z0 : n0 ≤ h0.size := O0.1 ▸ O0.2.1
  have K0 : Keep h0 h0 [] := Keep.refl _ _
  have pre0 : ∀ tgt_, Steps p.tables e below (s₁.setTop (mkF m 0 #[.val (.ref x)] [])) tgt_ → Steps p.tables e below (s₁.setTop (entryFrame m #[(.ref x)] 1)) tgt_ := fun tgt_ k => castTop (ef_rmTS m x) k
  obtain ⟨T33, X33, e33, st33⟩ := getF X0 hx hZ hown (host := "") (Or.inl (hw _ (List.mem_of_getElem? (i := 87) rfl))) Via.refl e0 F0 (g := (mkF m 1 #[.val (.ref x)] [(.ref x)])) rfl rfl (hb hby d_prog_14_method_6_code_1)
  obtain ⟨fs, hr, hrun, hended, hW, hsame⟩ := X33.leave (v := some (.ref t)) (fun h => by rw [Bd.returns] at h; cases h)
  refine ⟨_, _, pre0 _ ?_, hrun, hended, _, _, rfl, ?_, ⟨_, rfl⟩, hW, hsame.mono (by decide) (by decide)⟩
  · show Steps p.tables e below (s₁.setTop (mkF m 0 #[.val (.ref x)] [])) _
    refine XS.aloadN X0.here hx rfl (hb hby d_prog_14_method_6_code_0) rfl rfl ?_
    show Steps p.tables e below (s₁.setTop (mkF m 1 #[.val (.ref x)] [(.ref x)])) _
    refine st33 _ ?_
    show Steps p.tables e below (T33.setTop (mkF m 4 #[.val (.ref x)] [(.ref t)])) _
    jvm_step X33.here [X33.here.top, hx, (hb hby d_prog_14_method_6_code_4), X33.method', Bd.returns, Value.isRef, FieldType.isReference]
    first | (intro acts; rw [hr _ acts rfl rfl rfl]) | rw [hr _ _ rfl rfl rfl]
    exact Steps.refl _
  · show QTS Z t h0 n0 _ T33.heap _
    rw [e33]
    exact ⟨rfl, N0, rfl⟩
def QQE (Z : State)  (h0 : Heap) (n0 : Nat) (v : Option Value) (h : Heap) (L : List Loc) : Prop := v = some (.int 1) ∧ Fr n0 L ∧ h = h0
theorem d_prog_14_method_4_code_0 : decode prog_14_method_4_code 0 = .ok (.aload_n 1, 1) := by decide +kernel
theorem d_prog_14_method_4_code_1 : decode prog_14_method_4_code 1 = .ok (.instanceof 8, 3) := by decide +kernel
theorem d_prog_14_method_4_code_4 : decode prog_14_method_4_code 4 = .ok (.ifCond .eq 26, 3) := by decide +kernel
theorem d_prog_14_method_4_code_7 : decode prog_14_method_4_code 7 = .ok (.aload_n 1, 1) := by decide +kernel
theorem d_prog_14_method_4_code_8 : decode prog_14_method_4_code 8 = .ok (.checkcast 8, 3) := by decide +kernel
theorem d_prog_14_method_4_code_11 : decode prog_14_method_4_code 11 = .ok (.astore_n 2, 1) := by decide +kernel
theorem d_prog_14_method_4_code_12 : decode prog_14_method_4_code 12 = .ok (.aload_n 0, 1) := by decide +kernel
theorem d_prog_14_method_4_code_13 : decode prog_14_method_4_code 13 = .ok (.getfield 7, 3) := by decide +kernel
theorem d_prog_14_method_4_code_16 : decode prog_14_method_4_code 16 = .ok (.aload_n 2, 1) := by decide +kernel
theorem d_prog_14_method_4_code_17 : decode prog_14_method_4_code 17 = .ok (.getfield 7, 3) := by decide +kernel
theorem d_prog_14_method_4_code_20 : decode prog_14_method_4_code 20 = .ok (.invokevirtual 49, 3) := by decide +kernel
theorem pd__Ljava_lang_Object__Z : parseMethodDescriptor "(Ljava/lang/Object;)Z" = some ⟨[(.object "java/lang/Object")], some .boolean⟩ := by decide +kernel
theorem d_prog_14_method_4_code_23 : decode prog_14_method_4_code 23 = .ok (.ifCond .eq 7, 3) := by decide +kernel
theorem d_prog_14_method_4_code_26 : decode prog_14_method_4_code 26 = .ok (.iconst 1, 1) := by decide +kernel
theorem d_prog_14_method_4_code_27 : decode prog_14_method_4_code 27 = .ok (.goto 4, 3) := by decide +kernel
theorem d_prog_14_method_4_code_31 : decode prog_14_method_4_code 31 = .ok (.ireturn, 1) := by decide +kernel
theorem ef_rmQE (m : MethodId) (x0 : Addr) (x1 : Addr) : entryFrame m #[(.ref x0), (.ref x1)] 3 = mkF m 0 #[.val (.ref x0), .val (.ref x1), .unset] [] := by first | (simp [entryFrame, mkF, argsToLocals, Value.category]; done) | rfl
set_option maxRecDepth 65536 in
set_option maxHeartbeats 40000000 in
theorem rmQE (l : Launch) (Z : State) (a0 : Array Value) (hw : ∀ d ∈ tables_1, d.before a0 Z = true) (ws : List Jvm.Cond) (x y t tb u ub : Addr) (kt ku : ClassId) (cs : List Int32) (N2 GC : Int32) (vs : List Value) (h0 : Heap) (n0 : Nat) (O0 : Old Z n0 h0) (Ex : Exa Z h0 x "com/example/nimble_queue/nimblequeue/core/QueueName") (Ey : Exa Z h0 y "com/example/nimble_queue/nimblequeue/core/QueueName") (Fx : Fld Z h0 x "com/example/nimble_queue/nimblequeue/core/QueueName" "name" "Ljava/lang/String;" (.ref t)) (Fy : Fld Z h0 y "com/example/nimble_queue/nimblequeue/core/QueueName" "name" "Ljava/lang/String;" (.ref u)) (Et : Exa Z h0 t "java/lang/String") (Ct : Fld Z h0 t "java/lang/String" "coder" "B" (.int 0)) (Vt : Fld Z h0 t "java/lang/String" "value" "[B" (.ref tb)) (At : Arv Z h0 tb kt .byte N2 vs (.int 0)) (Eu : Exa Z h0 u "java/lang/String") (Cu : Fld Z h0 u "java/lang/String" "coder" "B" (.int 0)) (Vu : Fld Z h0 u "java/lang/String" "value" "[B" (.ref ub)) (Au : Arv Z h0 ub ku .byte N2 vs (.int 0)) (hcd : StrChars.Road.CodA cs 0 N2 vs) (hbd : ∀ c ∈ cs, ¬ c < 0 ∧ ¬ (65535 : Int32) < c) (hl63 : cs.length ≤ 63) (OC2 : Sta Z Z.heap "java/lang/String" "COMPACT_STRINGS" "Z" (.int GC)) (OCz : ¬ (GC = (0 : Int32))) :
    MetFree l (⟨"com/example/nimble_queue/nimblequeue/core/QueueName", "equals", "(Ljava/lang/Object;)Z"⟩ : MethodName) (head1 (Jvm.Cond.code (⟨"com/example/nimble_queue/nimblequeue/core/QueueName", "equals", "(Ljava/lang/Object;)Z"⟩ : MethodName) prog_14_method_4_code 3 (some .boolean) :: ws) ({ frames := 2, cells := 0, slots := 0, locals := 28 } : Room)) (fun aa_ U => aa_ = #[(.ref x), (.ref y)] ∧ Z.Warmed39 U.vm ∧ U.heap = h0) (fun _ _ _ _ _ => True) (fun _ U o U' => ∃ v L, o = .returned v ∧ QQE Z h0 n0 v U'.heap L ∧ FrameEnd U o U' L ({ frames := 2, cells := 0, slots := 0, locals := 28 } : Room).cells ({ frames := 2, cells := 0, slots := 0, locals := 28 } : Room).slots) := by
  refine MetFree.of_bodySF (plainFor_of_name pn_com_example_nimble_queue_nimblequeue_core_QueueName) hisR ?_
  intro p e s m args below meth c s₁ Bd hml0 hP hK
  obtain ⟨rfl, hZ, hh⟩ := hP
  have hx := Bd.exec
  have hby := Bd.bytes
  have hml : c.maxLocals = 3 := hml0
  have hown : s.vm.findClass "com/example/nimble_queue/nimblequeue/core/QueueName" = some m.cls := findClass_of_methodNamed Bd.named
  have hnm := (name_of_methodNamed Bd.named Bd.method).1
  have X0 : Stand p l e ({ frames := 2, cells := 0, slots := 0, locals := 28 } : Room) s m #[(.ref x), (.ref y)] below meth c s₁ [] 0 0 := Stand.of_body Bd
  have e0 : s₁.heap = h0 := by rw [← hh, Bd.state]; rfl
  have N0 := Fr.nil n0
  have Z0 : n0 ≤ h0.size := O0.1 ▸ O0.2.1
  have K0 : Keep h0 h0 [] := Keep.refl _ _
  have pre0 : ∀ tgt_, Steps p.tables e below (s₁.setTop (mkF m 0 #[.val (.ref x), .val (.ref y), .unset] [])) tgt_ → Steps p.tables e below (s₁.setTop (entryFrame m #[(.ref x), (.ref y)] 3)) tgt_ := fun tgt_ k => castTop (ef_rmQE m x y) k
  obtain ⟨T34, X34, e34, st34⟩ := instY X0 hx hZ hown (hw _ (List.mem_of_getElem? (i := 81) rfl)) e0 (Ins.self Ey) (g := (mkF m 1 #[.val (.ref x), .val (.ref y), .unset] [(.ref y)])) rfl rfl (hb hby d_prog_14_method_4_code_1)
  obtain ⟨T35, X35, e35, st35⟩ := castY X34 hx hZ hown (hw _ (List.mem_of_getElem? (i := 81) rfl)) e34 (Ins.self Ey) (g := (mkF m 8 #[.val (.ref x), .val (.ref y), .unset] [(.ref y)])) rfl rfl (hb hby d_prog_14_method_4_code_8)
  obtain ⟨T36, X36, e36, st36⟩ := getF X35 hx hZ hown (host := "") (Or.inl (hw _ (List.mem_of_getElem? (i := 87) rfl))) Via.refl e35 Fx (g := (mkF m 13 #[.val (.ref x), .val (.ref y), .val (.ref y)] [(.ref x)])) rfl rfl (hb hby d_prog_14_method_4_code_13)
  obtain ⟨T37, X37, e37, st37⟩ := getF X36 hx hZ hown (host := "") (Or.inl (hw _ (List.mem_of_getElem? (i := 87) rfl))) Via.refl e36 Fy (g := (mkF m 17 #[.val (.ref x), .val (.ref y), .val (.ref y)] [(.ref y), (.ref t)])) rfl rfl (hb hby d_prog_14_method_4_code_17)
  have heq : ∀ d ∈ StrChars.Road.wordsEq, d.before a0 Z = true := fun d hd => hw d ((by decide +kernel : ∀ d ∈ StrChars.Road.wordsEq, d ∈ tables_1) d hd)
  obtain ⟨cq38, kq38, qa38, qb38, qc38⟩ := isOf hZ e37 Et
  obtain ⟨_, _, ⟨T38, L38, k38, n38⟩, -, X38, ⟨Lc38, hQ38, l38, y38, z38⟩, st38⟩ := X37.virtualBack hx (y := (⟨"java/lang/String", "equals", "(Ljava/lang/Object;)Z"⟩ : MethodName)) (z := (⟨"java/lang/String", "equals", "(Ljava/lang/Object;)Z"⟩ : MethodName)) hown (mvT hZ (hw _ (List.mem_of_getElem? (i := 105) rfl))) (mvT hZ (hw _ (List.mem_of_getElem? (i := 95) rfl))) (notFace_of_selects (args := #[]) (mvT hZ (hw _ (List.mem_of_getElem? (i := 97) rfl)))) (mvT hZ (hw _ (List.mem_of_getElem? (i := 97) rfl))) (mvT hZ (hw _ (List.mem_of_getElem? (i := 96) rfl))) (by decide) (StrChars.Road.eqW (W := 0) hZ heq (kI := 4) (hw _ (List.mem_of_getElem? (i := 7) rfl)) Et Vt Ct At hcd hbd (Nat.le_trans hl63 (by decide)) Eu Vu Cu Au hcd hbd (Nat.le_trans hl63 (by decide)) (OC2.ext O0.2) OCz (by decide) (by decide)) qa38 qc38 (g := (mkF m 20 #[.val (.ref x), .val (.ref y), .val (.ref y)] [(.ref u), (.ref t)])) rfl (by rw [hml]; rfl) (Steps.refl _) (argsL := [(.ref u)]) (rest := []) (lenOf pd__Ljava_lang_Object__Z rfl) rfl (by show 2 * 0 + _ ≤ _; exact Nat.le_of_eq rfl) (hb hby d_prog_14_method_4_code_20) (fun _ _ => ⟨rfl, e37, (by decide : 0 + 0 ≤ _), (by decide : 0 + 0 ≤ _)⟩)
  dsimp only [Pt.U, Pt.locs, Pt.cells, Pt.slots] at X38 l38 y38 z38 st38 hQ38
  subst l38 y38 z38
  obtain ⟨hd38, rfl, e38⟩ := hQ38
  obtain ⟨rfl, -⟩ := hd38.resolve_right (fun q => q.2 rfl)
  have N38q : Fr n0 ([] : List Loc) := Fr.nil n0
  have N38 := Fr.app N0 N38q
  obtain ⟨fs, hr, hrun, hended, hW, hsame⟩ := X38.leave (v := some (.int (1 : Int32))) (fun h => by rw [Bd.returns] at h; cases h)
  refine ⟨_, _, pre0 _ ?_, hrun, hended, _, _, rfl, ?_, ⟨_, rfl⟩, hW, hsame.mono (by decide) (by decide)⟩
  · show Steps p.tables e below (s₁.setTop (mkF m 0 #[.val (.ref x), .val (.ref y), .unset] [])) _
    refine XS.aloadN X0.here hx rfl (hb hby d_prog_14_method_4_code_0) rfl rfl ?_
    show Steps p.tables e below (s₁.setTop (mkF m 1 #[.val (.ref x), .val (.ref y), .unset] [(.ref y)])) _
    refine st34 _ ?_
    show Steps p.tables e below (T34.setTop (mkF m 4 #[.val (.ref x), .val (.ref y), .unset] [(.int (1 : Int32))])) _
    refine XS.ifNo X34.here hx rfl (hb hby d_prog_14_method_4_code_4) rfl ((if0 _ _).trans (feq (by decide : ¬ ((1 : Int32) = (0 : Int32)))).1) ?_
    show Steps p.tables e below (T34.setTop (mkF m 7 #[.val (.ref x), .val (.ref y), .unset] [])) _
    refine XS.aloadN X34.here hx rfl (hb hby d_prog_14_method_4_code_7) rfl rfl ?_
    show Steps p.tables e below (T34.setTop (mkF m 8 #[.val (.ref x), .val (.ref y), .unset] [(.ref y)])) _
    refine st35 _ ?_
    show Steps p.tables e below (T35.setTop (mkF m 11 #[.val (.ref x), .val (.ref y), .unset] [(.ref y)])) _
    refine XS.astoreN X35.here hx rfl (hb hby d_prog_14_method_4_code_11) rfl rfl (l' := #[.val (.ref x), .val (.ref y), .val (.ref y)]) rfl ?_
    show Steps p.tables e below (T35.setTop (mkF m 12 #[.val (.ref x), .val (.ref y), .val (.ref y)] [])) _
    refine XS.aloadN X35.here hx rfl (hb hby d_prog_14_method_4_code_12) rfl rfl ?_
    show Steps p.tables e below (T35.setTop (mkF m 13 #[.val (.ref x), .val (.ref y), .val (.ref y)] [(.ref x)])) _
    refine st36 _ ?_
    show Steps p.tables e below (T36.setTop (mkF m 16 #[.val (.ref x), .val (.ref y), .val (.ref y)] [(.ref t)])) _
    refine XS.aloadN X36.here hx rfl (hb hby d_prog_14_method_4_code_16) rfl rfl ?_
    show Steps p.tables e below (T36.setTop (mkF m 17 #[.val (.ref x), .val (.ref y), .val (.ref y)] [(.ref y), (.ref t)])) _
    refine st37 _ ?_
    show Steps p.tables e below (T37.setTop (mkF m 20 #[.val (.ref x), .val (.ref y), .val (.ref y)] [(.ref u), (.ref t)])) _
    refine st38.trans ?_
    show Steps p.tables e below (T38.setTop (mkF m 23 #[.val (.ref x), .val (.ref y), .val (.ref y)] [(.int (1 : Int32))])) _
    refine XS.ifNo X38.here hx rfl (hb hby d_prog_14_method_4_code_23) rfl ((if0 _ _).trans (feq (by decide : ¬ ((1 : Int32) = (0 : Int32)))).1) ?_
    show Steps p.tables e below (T38.setTop (mkF m 26 #[.val (.ref x), .val (.ref y), .val (.ref y)] [])) _
    refine XS.iconst X38.here hx rfl (hb hby d_prog_14_method_4_code_26) ?_
    show Steps p.tables e below (T38.setTop (mkF m 27 #[.val (.ref x), .val (.ref y), .val (.ref y)] [(.int (1 : Int32))])) _
    refine XS.goto X38.here hx rfl (pc0 := 27) (pc' := 31) rfl (hb hby d_prog_14_method_4_code_27) (by decide) (by decide) ?_
    show Steps p.tables e below (T38.setTop (mkF m 31 #[.val (.ref x), .val (.ref y), .val (.ref y)] [(.int (1 : Int32))])) _
    exact retN X38 hx (t := .boolean) Bd.returns (by simp) (hb hby d_prog_14_method_4_code_31) hr
  · show QQE Z h0 n0 _ T38.heap _
    rw [e38]
    exact ⟨rfl, N38, rfl⟩
theorem own_n (p6 : Int32) : ((3 : Int32) + ((p6 &&& (255 : Int32)) % (3 : Int32))) = 3 ∨ ((3 : Int32) + ((p6 &&& (255 : Int32)) % (3 : Int32))) = 4 ∨ ((3 : Int32) + ((p6 &&& (255 : Int32)) % (3 : Int32))) = 5 := by
  have h1 := c_and p6 255 (by decide)
  have h2 := (c_irem (p6 &&& 255) 3 3 rfl).1 h1.1
  generalize (p6 &&& (255 : Int32)) % (3 : Int32) = y at h2 ⊢
  have h3 : 0 ≤ y.toInt ∧ y.toInt < 3 := by omega
  have a := c_iadd 3 y
  have b := rng32 (3 + y)
  have e3 : (3 : Int32).toInt = 3 := rfl
  have v : (3 + y).toInt = 3 + y.toInt := by omega
  have q : y.toInt = 0 ∨ y.toInt = 1 ∨ y.toInt = 2 := by omega
  rcases q with q | q | q
  · left; apply Int32.toInt_inj.mp; rw [v, q]; rfl
  · right; left; apply Int32.toInt_inj.mp; rw [v, q]; rfl
  · right; right; apply Int32.toInt_inj.mp; rw [v, q]; rfl
set_option maxRecDepth 65536 in
set_option maxHeartbeats 40000000 in
theorem sgA {p : Program} {l : Launch} {e : Env} {s : State} {m : MethodId} {args : Array Value} {below : List Frame} {meth : Method} {c : Code} {T0 : State} {locs : List Loc} {Z : State} {a0 : Array Value} {h0 : Heap} {n0 : Nat} (p1 p2 p3 p4 p5 p6 : Int32)
    (X0 : Stand p l e room_1 s m args below meth c T0 locs 0 0) (hx : p.tables.exec = Jvm.exec) (hZ : Z.Warmed39 s.vm) (hw : ∀ d ∈ tables_1, d.before a0 Z = true) (hby : c.code = code) (hml : c.maxLocals = 22) (hown : s.vm.findClass "com/example/nimble_queue/nimblequeue/core/QueueNameOfPinLaw" = some m.cls) (e0 : T0.heap = h0) (N0 : Fr n0 locs) (O0 : Old Z n0 h0) :
    ∃ (n h1 : Int32) (T' : State) (locs' : List Loc), ((n = 3 ∨ n = 4 ∨ n = 5) ∧ (h1 = 0 ∨ h1 = 1)) ∧ Stand p l e room_1 s m args below meth c T' locs' 0 0 ∧ Fr n0 locs' ∧ T'.heap = h0 ∧ ∀ target, Steps p.tables e below (T'.setTop (mkF m 29 #[.val (.int p1), .val (.int p2), .val (.int p3), .val (.int p4), .val (.int p5), .val (.int p6), .val (.int n), .val (.int h1), .unset, .unset, .unset, .unset, .unset, .unset, .unset, .unset, .unset, .unset, .unset, .unset, .unset, .unset] [])) target → Steps p.tables e below (T0.setTop (mkF m 0 #[.val (.int p1), .val (.int p2), .val (.int p3), .val (.int p4), .val (.int p5), .val (.int p6), .unset, .unset, .unset, .unset, .unset, .unset, .unset, .unset, .unset, .unset, .unset, .unset, .unset, .unset, .unset, .unset] [])) target := by
  have Z0 : n0 ≤ h0.size := O0.1 ▸ O0.2.1
  have K0 : Keep h0 h0 [] := Keep.refl _ _
  by_cases hq : (((p6.toUInt32 >>> ((8 : Int32) &&& 31).toUInt32).toInt32) &&& (1 : Int32)) = (0 : Int32)
  · refine ⟨((3 : Int32) + ((p6 &&& (255 : Int32)) % (3 : Int32))), (0 : Int32), T0, _, ⟨own_n p6, Or.inl rfl⟩, X0, N0, e0, fun target kt => ?_⟩
    show Steps p.tables e below (T0.setTop (mkF m 0 #[.val (.int p1), .val (.int p2), .val (.int p3), .val (.int p4), .val (.int p5), .val (.int p6), .unset, .unset, .unset, .unset, .unset, .unset, .unset, .unset, .unset, .unset, .unset, .unset, .unset, .unset, .unset, .unset] [])) _
    refine XS.iconst X0.here hx rfl (hb hby at_0) ?_
    show Steps p.tables e below (T0.setTop (mkF m 1 #[.val (.int p1), .val (.int p2), .val (.int p3), .val (.int p4), .val (.int p5), .val (.int p6), .unset, .unset, .unset, .unset, .unset, .unset, .unset, .unset, .unset, .unset, .unset, .unset, .unset, .unset, .unset, .unset] [(.int (3 : Int32))])) _
    refine XS.iload X0.here hx rfl (hb hby at_1) rfl ?_
    show Steps p.tables e below (T0.setTop (mkF m 3 #[.val (.int p1), .val (.int p2), .val (.int p3), .val (.int p4), .val (.int p5), .val (.int p6), .unset, .unset, .unset, .unset, .unset, .unset, .unset, .unset, .unset, .unset, .unset, .unset, .unset, .unset, .unset, .unset] [(.int p6), (.int (3 : Int32))])) _
    refine XS.sipush X0.here hx rfl (hb hby at_3) ?_
    show Steps p.tables e below (T0.setTop (mkF m 6 #[.val (.int p1), .val (.int p2), .val (.int p3), .val (.int p4), .val (.int p5), .val (.int p6), .unset, .unset, .unset, .unset, .unset, .unset, .unset, .unset, .unset, .unset, .unset, .unset, .unset, .unset, .unset, .unset] [(.int (255 : Int32)), (.int p6), (.int (3 : Int32))])) _
    refine XS.iand X0.here hx rfl (hb hby at_6) rfl ?_
    show Steps p.tables e below (T0.setTop (mkF m 7 #[.val (.int p1), .val (.int p2), .val (.int p3), .val (.int p4), .val (.int p5), .val (.int p6), .unset, .unset, .unset, .unset, .unset, .unset, .unset, .unset, .unset, .unset, .unset, .unset, .unset, .unset, .unset, .unset] [(.int (p6 &&& (255 : Int32))), (.int (3 : Int32))])) _
    refine XS.iconst X0.here hx rfl (hb hby at_7) ?_
    show Steps p.tables e below (T0.setTop (mkF m 8 #[.val (.int p1), .val (.int p2), .val (.int p3), .val (.int p4), .val (.int p5), .val (.int p6), .unset, .unset, .unset, .unset, .unset, .unset, .unset, .unset, .unset, .unset, .unset, .unset, .unset, .unset, .unset, .unset] [(.int (3 : Int32)), (.int (p6 &&& (255 : Int32))), (.int (3 : Int32))])) _
    refine Jvm.RoadKit.iremM (g := (mkF m 8 #[.val (.int p1), .val (.int p2), .val (.int p3), .val (.int p4), .val (.int p5), .val (.int p6), .unset, .unset, .unset, .unset, .unset, .unset, .unset, .unset, .unset, .unset, .unset, .unset, .unset, .unset, .unset, .unset] [(.int (3 : Int32)), (.int (p6 &&& (255 : Int32))), (.int (3 : Int32))])) X0 hx rfl (hb hby at_8) rfl (by decide) ?_
    show Steps p.tables e below (T0.setTop (mkF m 9 #[.val (.int p1), .val (.int p2), .val (.int p3), .val (.int p4), .val (.int p5), .val (.int p6), .unset, .unset, .unset, .unset, .unset, .unset, .unset, .unset, .unset, .unset, .unset, .unset, .unset, .unset, .unset, .unset] [(.int ((p6 &&& (255 : Int32)) % (3 : Int32))), (.int (3 : Int32))])) _
    refine XS.iadd X0.here hx rfl (hb hby at_9) rfl ?_
    show Steps p.tables e below (T0.setTop (mkF m 10 #[.val (.int p1), .val (.int p2), .val (.int p3), .val (.int p4), .val (.int p5), .val (.int p6), .unset, .unset, .unset, .unset, .unset, .unset, .unset, .unset, .unset, .unset, .unset, .unset, .unset, .unset, .unset, .unset] [(.int ((3 : Int32) + ((p6 &&& (255 : Int32)) % (3 : Int32))))])) _
    refine XS.istore X0.here hx rfl (hb hby at_10) rfl (l' := #[.val (.int p1), .val (.int p2), .val (.int p3), .val (.int p4), .val (.int p5), .val (.int p6), .val (.int ((3 : Int32) + ((p6 &&& (255 : Int32)) % (3 : Int32)))), .unset, .unset, .unset, .unset, .unset, .unset, .unset, .unset, .unset, .unset, .unset, .unset, .unset, .unset, .unset]) rfl ?_
    show Steps p.tables e below (T0.setTop (mkF m 12 #[.val (.int p1), .val (.int p2), .val (.int p3), .val (.int p4), .val (.int p5), .val (.int p6), .val (.int ((3 : Int32) + ((p6 &&& (255 : Int32)) % (3 : Int32)))), .unset, .unset, .unset, .unset, .unset, .unset, .unset, .unset, .unset, .unset, .unset, .unset, .unset, .unset, .unset] [])) _
    refine XS.iload X0.here hx rfl (hb hby at_12) rfl ?_
    show Steps p.tables e below (T0.setTop (mkF m 14 #[.val (.int p1), .val (.int p2), .val (.int p3), .val (.int p4), .val (.int p5), .val (.int p6), .val (.int ((3 : Int32) + ((p6 &&& (255 : Int32)) % (3 : Int32)))), .unset, .unset, .unset, .unset, .unset, .unset, .unset, .unset, .unset, .unset, .unset, .unset, .unset, .unset, .unset] [(.int p6)])) _
    refine XS.bipush X0.here hx rfl (hb hby at_14) ?_
    show Steps p.tables e below (T0.setTop (mkF m 16 #[.val (.int p1), .val (.int p2), .val (.int p3), .val (.int p4), .val (.int p5), .val (.int p6), .val (.int ((3 : Int32) + ((p6 &&& (255 : Int32)) % (3 : Int32)))), .unset, .unset, .unset, .unset, .unset, .unset, .unset, .unset, .unset, .unset, .unset, .unset, .unset, .unset, .unset] [(.int (8 : Int32)), (.int p6)])) _
    refine XS.iushr X0.here hx rfl (hb hby at_16) rfl ?_
    show Steps p.tables e below (T0.setTop (mkF m 17 #[.val (.int p1), .val (.int p2), .val (.int p3), .val (.int p4), .val (.int p5), .val (.int p6), .val (.int ((3 : Int32) + ((p6 &&& (255 : Int32)) % (3 : Int32)))), .unset, .unset, .unset, .unset, .unset, .unset, .unset, .unset, .unset, .unset, .unset, .unset, .unset, .unset, .unset] [(.int ((p6.toUInt32 >>> ((8 : Int32) &&& 31).toUInt32).toInt32))])) _
    refine XS.iconst X0.here hx rfl (hb hby at_17) ?_
    show Steps p.tables e below (T0.setTop (mkF m 18 #[.val (.int p1), .val (.int p2), .val (.int p3), .val (.int p4), .val (.int p5), .val (.int p6), .val (.int ((3 : Int32) + ((p6 &&& (255 : Int32)) % (3 : Int32)))), .unset, .unset, .unset, .unset, .unset, .unset, .unset, .unset, .unset, .unset, .unset, .unset, .unset, .unset, .unset] [(.int (1 : Int32)), (.int ((p6.toUInt32 >>> ((8 : Int32) &&& 31).toUInt32).toInt32))])) _
    refine XS.iand X0.here hx rfl (hb hby at_18) rfl ?_
    show Steps p.tables e below (T0.setTop (mkF m 19 #[.val (.int p1), .val (.int p2), .val (.int p3), .val (.int p4), .val (.int p5), .val (.int p6), .val (.int ((3 : Int32) + ((p6 &&& (255 : Int32)) % (3 : Int32)))), .unset, .unset, .unset, .unset, .unset, .unset, .unset, .unset, .unset, .unset, .unset, .unset, .unset, .unset, .unset] [(.int (((p6.toUInt32 >>> ((8 : Int32) &&& 31).toUInt32).toInt32) &&& (1 : Int32)))])) _
    refine XS.ifYes X0.here hx rfl (pc0 := 19) (pc' := 26) rfl (hb hby at_19) rfl ((if0 _ _).trans (teq (hq : (((p6.toUInt32 >>> ((8 : Int32) &&& 31).toUInt32).toInt32) &&& (1 : Int32)) = (0 : Int32))).1) (by decide) (by decide) ?_
    show Steps p.tables e below (T0.setTop (mkF m 26 #[.val (.int p1), .val (.int p2), .val (.int p3), .val (.int p4), .val (.int p5), .val (.int p6), .val (.int ((3 : Int32) + ((p6 &&& (255 : Int32)) % (3 : Int32)))), .unset, .unset, .unset, .unset, .unset, .unset, .unset, .unset, .unset, .unset, .unset, .unset, .unset, .unset, .unset] [])) _
    refine XS.iconst X0.here hx rfl (hb hby at_26) ?_
    show Steps p.tables e below (T0.setTop (mkF m 27 #[.val (.int p1), .val (.int p2), .val (.int p3), .val (.int p4), .val (.int p5), .val (.int p6), .val (.int ((3 : Int32) + ((p6 &&& (255 : Int32)) % (3 : Int32)))), .unset, .unset, .unset, .unset, .unset, .unset, .unset, .unset, .unset, .unset, .unset, .unset, .unset, .unset, .unset] [(.int (0 : Int32))])) _
    refine XS.istore X0.here hx rfl (hb hby at_27) rfl (l' := #[.val (.int p1), .val (.int p2), .val (.int p3), .val (.int p4), .val (.int p5), .val (.int p6), .val (.int ((3 : Int32) + ((p6 &&& (255 : Int32)) % (3 : Int32)))), .val (.int (0 : Int32)), .unset, .unset, .unset, .unset, .unset, .unset, .unset, .unset, .unset, .unset, .unset, .unset, .unset, .unset]) rfl ?_
    exact kt
  · refine ⟨((3 : Int32) + ((p6 &&& (255 : Int32)) % (3 : Int32))), (1 : Int32), T0, _, ⟨own_n p6, Or.inr rfl⟩, X0, N0, e0, fun target kt => ?_⟩
    show Steps p.tables e below (T0.setTop (mkF m 0 #[.val (.int p1), .val (.int p2), .val (.int p3), .val (.int p4), .val (.int p5), .val (.int p6), .unset, .unset, .unset, .unset, .unset, .unset, .unset, .unset, .unset, .unset, .unset, .unset, .unset, .unset, .unset, .unset] [])) _
    refine XS.iconst X0.here hx rfl (hb hby at_0) ?_
    show Steps p.tables e below (T0.setTop (mkF m 1 #[.val (.int p1), .val (.int p2), .val (.int p3), .val (.int p4), .val (.int p5), .val (.int p6), .unset, .unset, .unset, .unset, .unset, .unset, .unset, .unset, .unset, .unset, .unset, .unset, .unset, .unset, .unset, .unset] [(.int (3 : Int32))])) _
    refine XS.iload X0.here hx rfl (hb hby at_1) rfl ?_
    show Steps p.tables e below (T0.setTop (mkF m 3 #[.val (.int p1), .val (.int p2), .val (.int p3), .val (.int p4), .val (.int p5), .val (.int p6), .unset, .unset, .unset, .unset, .unset, .unset, .unset, .unset, .unset, .unset, .unset, .unset, .unset, .unset, .unset, .unset] [(.int p6), (.int (3 : Int32))])) _
    refine XS.sipush X0.here hx rfl (hb hby at_3) ?_
    show Steps p.tables e below (T0.setTop (mkF m 6 #[.val (.int p1), .val (.int p2), .val (.int p3), .val (.int p4), .val (.int p5), .val (.int p6), .unset, .unset, .unset, .unset, .unset, .unset, .unset, .unset, .unset, .unset, .unset, .unset, .unset, .unset, .unset, .unset] [(.int (255 : Int32)), (.int p6), (.int (3 : Int32))])) _
    refine XS.iand X0.here hx rfl (hb hby at_6) rfl ?_
    show Steps p.tables e below (T0.setTop (mkF m 7 #[.val (.int p1), .val (.int p2), .val (.int p3), .val (.int p4), .val (.int p5), .val (.int p6), .unset, .unset, .unset, .unset, .unset, .unset, .unset, .unset, .unset, .unset, .unset, .unset, .unset, .unset, .unset, .unset] [(.int (p6 &&& (255 : Int32))), (.int (3 : Int32))])) _
    refine XS.iconst X0.here hx rfl (hb hby at_7) ?_
    show Steps p.tables e below (T0.setTop (mkF m 8 #[.val (.int p1), .val (.int p2), .val (.int p3), .val (.int p4), .val (.int p5), .val (.int p6), .unset, .unset, .unset, .unset, .unset, .unset, .unset, .unset, .unset, .unset, .unset, .unset, .unset, .unset, .unset, .unset] [(.int (3 : Int32)), (.int (p6 &&& (255 : Int32))), (.int (3 : Int32))])) _
    refine Jvm.RoadKit.iremM (g := (mkF m 8 #[.val (.int p1), .val (.int p2), .val (.int p3), .val (.int p4), .val (.int p5), .val (.int p6), .unset, .unset, .unset, .unset, .unset, .unset, .unset, .unset, .unset, .unset, .unset, .unset, .unset, .unset, .unset, .unset] [(.int (3 : Int32)), (.int (p6 &&& (255 : Int32))), (.int (3 : Int32))])) X0 hx rfl (hb hby at_8) rfl (by decide) ?_
    show Steps p.tables e below (T0.setTop (mkF m 9 #[.val (.int p1), .val (.int p2), .val (.int p3), .val (.int p4), .val (.int p5), .val (.int p6), .unset, .unset, .unset, .unset, .unset, .unset, .unset, .unset, .unset, .unset, .unset, .unset, .unset, .unset, .unset, .unset] [(.int ((p6 &&& (255 : Int32)) % (3 : Int32))), (.int (3 : Int32))])) _
    refine XS.iadd X0.here hx rfl (hb hby at_9) rfl ?_
    show Steps p.tables e below (T0.setTop (mkF m 10 #[.val (.int p1), .val (.int p2), .val (.int p3), .val (.int p4), .val (.int p5), .val (.int p6), .unset, .unset, .unset, .unset, .unset, .unset, .unset, .unset, .unset, .unset, .unset, .unset, .unset, .unset, .unset, .unset] [(.int ((3 : Int32) + ((p6 &&& (255 : Int32)) % (3 : Int32))))])) _
    refine XS.istore X0.here hx rfl (hb hby at_10) rfl (l' := #[.val (.int p1), .val (.int p2), .val (.int p3), .val (.int p4), .val (.int p5), .val (.int p6), .val (.int ((3 : Int32) + ((p6 &&& (255 : Int32)) % (3 : Int32)))), .unset, .unset, .unset, .unset, .unset, .unset, .unset, .unset, .unset, .unset, .unset, .unset, .unset, .unset, .unset]) rfl ?_
    show Steps p.tables e below (T0.setTop (mkF m 12 #[.val (.int p1), .val (.int p2), .val (.int p3), .val (.int p4), .val (.int p5), .val (.int p6), .val (.int ((3 : Int32) + ((p6 &&& (255 : Int32)) % (3 : Int32)))), .unset, .unset, .unset, .unset, .unset, .unset, .unset, .unset, .unset, .unset, .unset, .unset, .unset, .unset, .unset] [])) _
    refine XS.iload X0.here hx rfl (hb hby at_12) rfl ?_
    show Steps p.tables e below (T0.setTop (mkF m 14 #[.val (.int p1), .val (.int p2), .val (.int p3), .val (.int p4), .val (.int p5), .val (.int p6), .val (.int ((3 : Int32) + ((p6 &&& (255 : Int32)) % (3 : Int32)))), .unset, .unset, .unset, .unset, .unset, .unset, .unset, .unset, .unset, .unset, .unset, .unset, .unset, .unset, .unset] [(.int p6)])) _
    refine XS.bipush X0.here hx rfl (hb hby at_14) ?_
    show Steps p.tables e below (T0.setTop (mkF m 16 #[.val (.int p1), .val (.int p2), .val (.int p3), .val (.int p4), .val (.int p5), .val (.int p6), .val (.int ((3 : Int32) + ((p6 &&& (255 : Int32)) % (3 : Int32)))), .unset, .unset, .unset, .unset, .unset, .unset, .unset, .unset, .unset, .unset, .unset, .unset, .unset, .unset, .unset] [(.int (8 : Int32)), (.int p6)])) _
    refine XS.iushr X0.here hx rfl (hb hby at_16) rfl ?_
    show Steps p.tables e below (T0.setTop (mkF m 17 #[.val (.int p1), .val (.int p2), .val (.int p3), .val (.int p4), .val (.int p5), .val (.int p6), .val (.int ((3 : Int32) + ((p6 &&& (255 : Int32)) % (3 : Int32)))), .unset, .unset, .unset, .unset, .unset, .unset, .unset, .unset, .unset, .unset, .unset, .unset, .unset, .unset, .unset] [(.int ((p6.toUInt32 >>> ((8 : Int32) &&& 31).toUInt32).toInt32))])) _
    refine XS.iconst X0.here hx rfl (hb hby at_17) ?_
    show Steps p.tables e below (T0.setTop (mkF m 18 #[.val (.int p1), .val (.int p2), .val (.int p3), .val (.int p4), .val (.int p5), .val (.int p6), .val (.int ((3 : Int32) + ((p6 &&& (255 : Int32)) % (3 : Int32)))), .unset, .unset, .unset, .unset, .unset, .unset, .unset, .unset, .unset, .unset, .unset, .unset, .unset, .unset, .unset] [(.int (1 : Int32)), (.int ((p6.toUInt32 >>> ((8 : Int32) &&& 31).toUInt32).toInt32))])) _
    refine XS.iand X0.here hx rfl (hb hby at_18) rfl ?_
    show Steps p.tables e below (T0.setTop (mkF m 19 #[.val (.int p1), .val (.int p2), .val (.int p3), .val (.int p4), .val (.int p5), .val (.int p6), .val (.int ((3 : Int32) + ((p6 &&& (255 : Int32)) % (3 : Int32)))), .unset, .unset, .unset, .unset, .unset, .unset, .unset, .unset, .unset, .unset, .unset, .unset, .unset, .unset, .unset] [(.int (((p6.toUInt32 >>> ((8 : Int32) &&& 31).toUInt32).toInt32) &&& (1 : Int32)))])) _
    refine XS.ifNo X0.here hx rfl (hb hby at_19) rfl ((if0 _ _).trans (feq (hq : ¬ ((((p6.toUInt32 >>> ((8 : Int32) &&& 31).toUInt32).toInt32) &&& (1 : Int32)) = (0 : Int32)))).1) ?_
    show Steps p.tables e below (T0.setTop (mkF m 22 #[.val (.int p1), .val (.int p2), .val (.int p3), .val (.int p4), .val (.int p5), .val (.int p6), .val (.int ((3 : Int32) + ((p6 &&& (255 : Int32)) % (3 : Int32)))), .unset, .unset, .unset, .unset, .unset, .unset, .unset, .unset, .unset, .unset, .unset, .unset, .unset, .unset, .unset] [])) _
    refine XS.iconst X0.here hx rfl (hb hby at_22) ?_
    show Steps p.tables e below (T0.setTop (mkF m 23 #[.val (.int p1), .val (.int p2), .val (.int p3), .val (.int p4), .val (.int p5), .val (.int p6), .val (.int ((3 : Int32) + ((p6 &&& (255 : Int32)) % (3 : Int32)))), .unset, .unset, .unset, .unset, .unset, .unset, .unset, .unset, .unset, .unset, .unset, .unset, .unset, .unset, .unset] [(.int (1 : Int32))])) _
    refine XS.goto X0.here hx rfl (pc0 := 23) (pc' := 27) rfl (hb hby at_23) (by decide) (by decide) ?_
    show Steps p.tables e below (T0.setTop (mkF m 27 #[.val (.int p1), .val (.int p2), .val (.int p3), .val (.int p4), .val (.int p5), .val (.int p6), .val (.int ((3 : Int32) + ((p6 &&& (255 : Int32)) % (3 : Int32)))), .unset, .unset, .unset, .unset, .unset, .unset, .unset, .unset, .unset, .unset, .unset, .unset, .unset, .unset, .unset] [(.int (1 : Int32))])) _
    refine XS.istore X0.here hx rfl (hb hby at_27) rfl (l' := #[.val (.int p1), .val (.int p2), .val (.int p3), .val (.int p4), .val (.int p5), .val (.int p6), .val (.int ((3 : Int32) + ((p6 &&& (255 : Int32)) % (3 : Int32)))), .val (.int (1 : Int32)), .unset, .unset, .unset, .unset, .unset, .unset, .unset, .unset, .unset, .unset, .unset, .unset, .unset, .unset]) rfl ?_
    exact kt
set_option maxRecDepth 65536 in
set_option maxHeartbeats 40000000 in
theorem sgB {p : Program} {l : Launch} {e : Env} {s : State} {m : MethodId} {args : Array Value} {below : List Frame} {meth : Method} {c : Code} {T0 : State} {locs : List Loc} {Z : State} {a0 : Array Value} {h0 : Heap} {n0 : Nat} (p1 p2 p3 p4 p5 p6 : Int32) (n h1 : Int32)
    (X0 : Stand p l e room_1 s m args below meth c T0 locs 0 0) (hx : p.tables.exec = Jvm.exec) (hZ : Z.Warmed39 s.vm) (hw : ∀ d ∈ tables_1, d.before a0 Z = true) (hby : c.code = code) (hml : c.maxLocals = 22) (hown : s.vm.findClass "com/example/nimble_queue/nimblequeue/core/QueueNameOfPinLaw" = some m.cls) (e0 : T0.heap = h0) (N0 : Fr n0 locs) (O0 : Old Z n0 h0) (hh1 : h1 = 0 ∨ h1 = 1) :
    ∃ (h2 : Int32) (T' : State) (locs' : List Loc), (h2 = 0 ∨ (h2 = 1 ∧ h1 = 0 ∧ ¬ (n < (4 : Int32)))) ∧ Stand p l e room_1 s m args below meth c T' locs' 0 0 ∧ Fr n0 locs' ∧ T'.heap = h0 ∧ ∀ target, Steps p.tables e below (T'.setTop (mkF m 57 #[.val (.int p1), .val (.int p2), .val (.int p3), .val (.int p4), .val (.int p5), .val (.int p6), .val (.int n), .val (.int h1), .val (.int h2), .unset, .unset, .unset, .unset, .unset, .unset, .unset, .unset, .unset, .unset, .unset, .unset, .unset] [])) target → Steps p.tables e below (T0.setTop (mkF m 29 #[.val (.int p1), .val (.int p2), .val (.int p3), .val (.int p4), .val (.int p5), .val (.int p6), .val (.int n), .val (.int h1), .unset, .unset, .unset, .unset, .unset, .unset, .unset, .unset, .unset, .unset, .unset, .unset, .unset, .unset] [])) target := by
  have Z0 : n0 ≤ h0.size := O0.1 ▸ O0.2.1
  have K0 : Keep h0 h0 [] := Keep.refl _ _
  by_cases q4 : n < (4 : Int32)
  · refine ⟨(0 : Int32), T0, _, Or.inl rfl, X0, N0, e0, fun target kt => ?_⟩
    show Steps p.tables e below (T0.setTop (mkF m 29 #[.val (.int p1), .val (.int p2), .val (.int p3), .val (.int p4), .val (.int p5), .val (.int p6), .val (.int n), .val (.int h1), .unset, .unset, .unset, .unset, .unset, .unset, .unset, .unset, .unset, .unset, .unset, .unset, .unset, .unset] [])) _
    refine XS.iload X0.here hx rfl (hb hby at_29) rfl ?_
    show Steps p.tables e below (T0.setTop (mkF m 31 #[.val (.int p1), .val (.int p2), .val (.int p3), .val (.int p4), .val (.int p5), .val (.int p6), .val (.int n), .val (.int h1), .unset, .unset, .unset, .unset, .unset, .unset, .unset, .unset, .unset, .unset, .unset, .unset, .unset, .unset] [(.int n)])) _
    refine XS.iconst X0.here hx rfl (hb hby at_31) ?_
    show Steps p.tables e below (T0.setTop (mkF m 32 #[.val (.int p1), .val (.int p2), .val (.int p3), .val (.int p4), .val (.int p5), .val (.int p6), .val (.int n), .val (.int h1), .unset, .unset, .unset, .unset, .unset, .unset, .unset, .unset, .unset, .unset, .unset, .unset, .unset, .unset] [(.int (4 : Int32)), (.int n)])) _
    refine XS.icmpYes X0.here hx rfl (pc0 := 32) (pc' := 54) rfl (hb hby at_32) rfl (tlt (q4 : n < (4 : Int32))).1 (by decide) (by decide) ?_
    show Steps p.tables e below (T0.setTop (mkF m 54 #[.val (.int p1), .val (.int p2), .val (.int p3), .val (.int p4), .val (.int p5), .val (.int p6), .val (.int n), .val (.int h1), .unset, .unset, .unset, .unset, .unset, .unset, .unset, .unset, .unset, .unset, .unset, .unset, .unset, .unset] [])) _
    refine XS.iconst X0.here hx rfl (hb hby at_54) ?_
    show Steps p.tables e below (T0.setTop (mkF m 55 #[.val (.int p1), .val (.int p2), .val (.int p3), .val (.int p4), .val (.int p5), .val (.int p6), .val (.int n), .val (.int h1), .unset, .unset, .unset, .unset, .unset, .unset, .unset, .unset, .unset, .unset, .unset, .unset, .unset, .unset] [(.int (0 : Int32))])) _
    refine XS.istore X0.here hx rfl (hb hby at_55) rfl (l' := #[.val (.int p1), .val (.int p2), .val (.int p3), .val (.int p4), .val (.int p5), .val (.int p6), .val (.int n), .val (.int h1), .val (.int (0 : Int32)), .unset, .unset, .unset, .unset, .unset, .unset, .unset, .unset, .unset, .unset, .unset, .unset, .unset]) rfl ?_
    exact kt
  by_cases hq : (((p6.toUInt32 >>> ((9 : Int32) &&& 31).toUInt32).toInt32) &&& (1 : Int32)) = (0 : Int32)
  · refine ⟨(0 : Int32), T0, _, Or.inl rfl, X0, N0, e0, fun target kt => ?_⟩
    show Steps p.tables e below (T0.setTop (mkF m 29 #[.val (.int p1), .val (.int p2), .val (.int p3), .val (.int p4), .val (.int p5), .val (.int p6), .val (.int n), .val (.int h1), .unset, .unset, .unset, .unset, .unset, .unset, .unset, .unset, .unset, .unset, .unset, .unset, .unset, .unset] [])) _
    refine XS.iload X0.here hx rfl (hb hby at_29) rfl ?_
    show Steps p.tables e below (T0.setTop (mkF m 31 #[.val (.int p1), .val (.int p2), .val (.int p3), .val (.int p4), .val (.int p5), .val (.int p6), .val (.int n), .val (.int h1), .unset, .unset, .unset, .unset, .unset, .unset, .unset, .unset, .unset, .unset, .unset, .unset, .unset, .unset] [(.int n)])) _
    refine XS.iconst X0.here hx rfl (hb hby at_31) ?_
    show Steps p.tables e below (T0.setTop (mkF m 32 #[.val (.int p1), .val (.int p2), .val (.int p3), .val (.int p4), .val (.int p5), .val (.int p6), .val (.int n), .val (.int h1), .unset, .unset, .unset, .unset, .unset, .unset, .unset, .unset, .unset, .unset, .unset, .unset, .unset, .unset] [(.int (4 : Int32)), (.int n)])) _
    refine XS.icmpNo X0.here hx rfl (hb hby at_32) rfl (flt (q4 : ¬ (n < (4 : Int32)))).1 ?_
    show Steps p.tables e below (T0.setTop (mkF m 35 #[.val (.int p1), .val (.int p2), .val (.int p3), .val (.int p4), .val (.int p5), .val (.int p6), .val (.int n), .val (.int h1), .unset, .unset, .unset, .unset, .unset, .unset, .unset, .unset, .unset, .unset, .unset, .unset, .unset, .unset] [])) _
    refine XS.iload X0.here hx rfl (hb hby at_35) rfl ?_
    show Steps p.tables e below (T0.setTop (mkF m 37 #[.val (.int p1), .val (.int p2), .val (.int p3), .val (.int p4), .val (.int p5), .val (.int p6), .val (.int n), .val (.int h1), .unset, .unset, .unset, .unset, .unset, .unset, .unset, .unset, .unset, .unset, .unset, .unset, .unset, .unset] [(.int p6)])) _
    refine XS.bipush X0.here hx rfl (hb hby at_37) ?_
    show Steps p.tables e below (T0.setTop (mkF m 39 #[.val (.int p1), .val (.int p2), .val (.int p3), .val (.int p4), .val (.int p5), .val (.int p6), .val (.int n), .val (.int h1), .unset, .unset, .unset, .unset, .unset, .unset, .unset, .unset, .unset, .unset, .unset, .unset, .unset, .unset] [(.int (9 : Int32)), (.int p6)])) _
    refine XS.iushr X0.here hx rfl (hb hby at_39) rfl ?_
    show Steps p.tables e below (T0.setTop (mkF m 40 #[.val (.int p1), .val (.int p2), .val (.int p3), .val (.int p4), .val (.int p5), .val (.int p6), .val (.int n), .val (.int h1), .unset, .unset, .unset, .unset, .unset, .unset, .unset, .unset, .unset, .unset, .unset, .unset, .unset, .unset] [(.int ((p6.toUInt32 >>> ((9 : Int32) &&& 31).toUInt32).toInt32))])) _
    refine XS.iconst X0.here hx rfl (hb hby at_40) ?_
    show Steps p.tables e below (T0.setTop (mkF m 41 #[.val (.int p1), .val (.int p2), .val (.int p3), .val (.int p4), .val (.int p5), .val (.int p6), .val (.int n), .val (.int h1), .unset, .unset, .unset, .unset, .unset, .unset, .unset, .unset, .unset, .unset, .unset, .unset, .unset, .unset] [(.int (1 : Int32)), (.int ((p6.toUInt32 >>> ((9 : Int32) &&& 31).toUInt32).toInt32))])) _
    refine XS.iand X0.here hx rfl (hb hby at_41) rfl ?_
    show Steps p.tables e below (T0.setTop (mkF m 42 #[.val (.int p1), .val (.int p2), .val (.int p3), .val (.int p4), .val (.int p5), .val (.int p6), .val (.int n), .val (.int h1), .unset, .unset, .unset, .unset, .unset, .unset, .unset, .unset, .unset, .unset, .unset, .unset, .unset, .unset] [(.int (((p6.toUInt32 >>> ((9 : Int32) &&& 31).toUInt32).toInt32) &&& (1 : Int32)))])) _
    refine XS.ifYes X0.here hx rfl (pc0 := 42) (pc' := 54) rfl (hb hby at_42) rfl ((if0 _ _).trans (teq (hq : (((p6.toUInt32 >>> ((9 : Int32) &&& 31).toUInt32).toInt32) &&& (1 : Int32)) = (0 : Int32))).1) (by decide) (by decide) ?_
    show Steps p.tables e below (T0.setTop (mkF m 54 #[.val (.int p1), .val (.int p2), .val (.int p3), .val (.int p4), .val (.int p5), .val (.int p6), .val (.int n), .val (.int h1), .unset, .unset, .unset, .unset, .unset, .unset, .unset, .unset, .unset, .unset, .unset, .unset, .unset, .unset] [])) _
    refine XS.iconst X0.here hx rfl (hb hby at_54) ?_
    show Steps p.tables e below (T0.setTop (mkF m 55 #[.val (.int p1), .val (.int p2), .val (.int p3), .val (.int p4), .val (.int p5), .val (.int p6), .val (.int n), .val (.int h1), .unset, .unset, .unset, .unset, .unset, .unset, .unset, .unset, .unset, .unset, .unset, .unset, .unset, .unset] [(.int (0 : Int32))])) _
    refine XS.istore X0.here hx rfl (hb hby at_55) rfl (l' := #[.val (.int p1), .val (.int p2), .val (.int p3), .val (.int p4), .val (.int p5), .val (.int p6), .val (.int n), .val (.int h1), .val (.int (0 : Int32)), .unset, .unset, .unset, .unset, .unset, .unset, .unset, .unset, .unset, .unset, .unset, .unset, .unset]) rfl ?_
    exact kt
  by_cases hz : h1 = (0 : Int32)
  · refine ⟨(1 : Int32), T0, _, Or.inr ⟨rfl, hz, q4⟩, X0, N0, e0, fun target kt => ?_⟩
    show Steps p.tables e below (T0.setTop (mkF m 29 #[.val (.int p1), .val (.int p2), .val (.int p3), .val (.int p4), .val (.int p5), .val (.int p6), .val (.int n), .val (.int h1), .unset, .unset, .unset, .unset, .unset, .unset, .unset, .unset, .unset, .unset, .unset, .unset, .unset, .unset] [])) _
    refine XS.iload X0.here hx rfl (hb hby at_29) rfl ?_
    show Steps p.tables e below (T0.setTop (mkF m 31 #[.val (.int p1), .val (.int p2), .val (.int p3), .val (.int p4), .val (.int p5), .val (.int p6), .val (.int n), .val (.int h1), .unset, .unset, .unset, .unset, .unset, .unset, .unset, .unset, .unset, .unset, .unset, .unset, .unset, .unset] [(.int n)])) _
    refine XS.iconst X0.here hx rfl (hb hby at_31) ?_
    show Steps p.tables e below (T0.setTop (mkF m 32 #[.val (.int p1), .val (.int p2), .val (.int p3), .val (.int p4), .val (.int p5), .val (.int p6), .val (.int n), .val (.int h1), .unset, .unset, .unset, .unset, .unset, .unset, .unset, .unset, .unset, .unset, .unset, .unset, .unset, .unset] [(.int (4 : Int32)), (.int n)])) _
    refine XS.icmpNo X0.here hx rfl (hb hby at_32) rfl (flt (q4 : ¬ (n < (4 : Int32)))).1 ?_
    show Steps p.tables e below (T0.setTop (mkF m 35 #[.val (.int p1), .val (.int p2), .val (.int p3), .val (.int p4), .val (.int p5), .val (.int p6), .val (.int n), .val (.int h1), .unset, .unset, .unset, .unset, .unset, .unset, .unset, .unset, .unset, .unset, .unset, .unset, .unset, .unset] [])) _
    refine XS.iload X0.here hx rfl (hb hby at_35) rfl ?_
    show Steps p.tables e below (T0.setTop (mkF m 37 #[.val (.int p1), .val (.int p2), .val (.int p3), .val (.int p4), .val (.int p5), .val (.int p6), .val (.int n), .val (.int h1), .unset, .unset, .unset, .unset, .unset, .unset, .unset, .unset, .unset, .unset, .unset, .unset, .unset, .unset] [(.int p6)])) _
    refine XS.bipush X0.here hx rfl (hb hby at_37) ?_
    show Steps p.tables e below (T0.setTop (mkF m 39 #[.val (.int p1), .val (.int p2), .val (.int p3), .val (.int p4), .val (.int p5), .val (.int p6), .val (.int n), .val (.int h1), .unset, .unset, .unset, .unset, .unset, .unset, .unset, .unset, .unset, .unset, .unset, .unset, .unset, .unset] [(.int (9 : Int32)), (.int p6)])) _
    refine XS.iushr X0.here hx rfl (hb hby at_39) rfl ?_
    show Steps p.tables e below (T0.setTop (mkF m 40 #[.val (.int p1), .val (.int p2), .val (.int p3), .val (.int p4), .val (.int p5), .val (.int p6), .val (.int n), .val (.int h1), .unset, .unset, .unset, .unset, .unset, .unset, .unset, .unset, .unset, .unset, .unset, .unset, .unset, .unset] [(.int ((p6.toUInt32 >>> ((9 : Int32) &&& 31).toUInt32).toInt32))])) _
    refine XS.iconst X0.here hx rfl (hb hby at_40) ?_
    show Steps p.tables e below (T0.setTop (mkF m 41 #[.val (.int p1), .val (.int p2), .val (.int p3), .val (.int p4), .val (.int p5), .val (.int p6), .val (.int n), .val (.int h1), .unset, .unset, .unset, .unset, .unset, .unset, .unset, .unset, .unset, .unset, .unset, .unset, .unset, .unset] [(.int (1 : Int32)), (.int ((p6.toUInt32 >>> ((9 : Int32) &&& 31).toUInt32).toInt32))])) _
    refine XS.iand X0.here hx rfl (hb hby at_41) rfl ?_
    show Steps p.tables e below (T0.setTop (mkF m 42 #[.val (.int p1), .val (.int p2), .val (.int p3), .val (.int p4), .val (.int p5), .val (.int p6), .val (.int n), .val (.int h1), .unset, .unset, .unset, .unset, .unset, .unset, .unset, .unset, .unset, .unset, .unset, .unset, .unset, .unset] [(.int (((p6.toUInt32 >>> ((9 : Int32) &&& 31).toUInt32).toInt32) &&& (1 : Int32)))])) _
    refine XS.ifNo X0.here hx rfl (hb hby at_42) rfl ((if0 _ _).trans (feq (hq : ¬ ((((p6.toUInt32 >>> ((9 : Int32) &&& 31).toUInt32).toInt32) &&& (1 : Int32)) = (0 : Int32)))).1) ?_
    show Steps p.tables e below (T0.setTop (mkF m 45 #[.val (.int p1), .val (.int p2), .val (.int p3), .val (.int p4), .val (.int p5), .val (.int p6), .val (.int n), .val (.int h1), .unset, .unset, .unset, .unset, .unset, .unset, .unset, .unset, .unset, .unset, .unset, .unset, .unset, .unset] [])) _
    refine XS.iload X0.here hx rfl (hb hby at_45) rfl ?_
    show Steps p.tables e below (T0.setTop (mkF m 47 #[.val (.int p1), .val (.int p2), .val (.int p3), .val (.int p4), .val (.int p5), .val (.int p6), .val (.int n), .val (.int h1), .unset, .unset, .unset, .unset, .unset, .unset, .unset, .unset, .unset, .unset, .unset, .unset, .unset, .unset] [(.int h1)])) _
    refine XS.ifNo X0.here hx rfl (hb hby at_47) rfl ((if0 _ _).trans (teq (hz : h1 = (0 : Int32))).2) ?_
    show Steps p.tables e below (T0.setTop (mkF m 50 #[.val (.int p1), .val (.int p2), .val (.int p3), .val (.int p4), .val (.int p5), .val (.int p6), .val (.int n), .val (.int h1), .unset, .unset, .unset, .unset, .unset, .unset, .unset, .unset, .unset, .unset, .unset, .unset, .unset, .unset] [])) _
    refine XS.iconst X0.here hx rfl (hb hby at_50) ?_
    show Steps p.tables e below (T0.setTop (mkF m 51 #[.val (.int p1), .val (.int p2), .val (.int p3), .val (.int p4), .val (.int p5), .val (.int p6), .val (.int n), .val (.int h1), .unset, .unset, .unset, .unset, .unset, .unset, .unset, .unset, .unset, .unset, .unset, .unset, .unset, .unset] [(.int (1 : Int32))])) _
    refine XS.goto X0.here hx rfl (pc0 := 51) (pc' := 55) rfl (hb hby at_51) (by decide) (by decide) ?_
    show Steps p.tables e below (T0.setTop (mkF m 55 #[.val (.int p1), .val (.int p2), .val (.int p3), .val (.int p4), .val (.int p5), .val (.int p6), .val (.int n), .val (.int h1), .unset, .unset, .unset, .unset, .unset, .unset, .unset, .unset, .unset, .unset, .unset, .unset, .unset, .unset] [(.int (1 : Int32))])) _
    refine XS.istore X0.here hx rfl (hb hby at_55) rfl (l' := #[.val (.int p1), .val (.int p2), .val (.int p3), .val (.int p4), .val (.int p5), .val (.int p6), .val (.int n), .val (.int h1), .val (.int (1 : Int32)), .unset, .unset, .unset, .unset, .unset, .unset, .unset, .unset, .unset, .unset, .unset, .unset, .unset]) rfl ?_
    exact kt
  · refine ⟨(0 : Int32), T0, _, Or.inl rfl, X0, N0, e0, fun target kt => ?_⟩
    show Steps p.tables e below (T0.setTop (mkF m 29 #[.val (.int p1), .val (.int p2), .val (.int p3), .val (.int p4), .val (.int p5), .val (.int p6), .val (.int n), .val (.int h1), .unset, .unset, .unset, .unset, .unset, .unset, .unset, .unset, .unset, .unset, .unset, .unset, .unset, .unset] [])) _
    refine XS.iload X0.here hx rfl (hb hby at_29) rfl ?_
    show Steps p.tables e below (T0.setTop (mkF m 31 #[.val (.int p1), .val (.int p2), .val (.int p3), .val (.int p4), .val (.int p5), .val (.int p6), .val (.int n), .val (.int h1), .unset, .unset, .unset, .unset, .unset, .unset, .unset, .unset, .unset, .unset, .unset, .unset, .unset, .unset] [(.int n)])) _
    refine XS.iconst X0.here hx rfl (hb hby at_31) ?_
    show Steps p.tables e below (T0.setTop (mkF m 32 #[.val (.int p1), .val (.int p2), .val (.int p3), .val (.int p4), .val (.int p5), .val (.int p6), .val (.int n), .val (.int h1), .unset, .unset, .unset, .unset, .unset, .unset, .unset, .unset, .unset, .unset, .unset, .unset, .unset, .unset] [(.int (4 : Int32)), (.int n)])) _
    refine XS.icmpNo X0.here hx rfl (hb hby at_32) rfl (flt (q4 : ¬ (n < (4 : Int32)))).1 ?_
    show Steps p.tables e below (T0.setTop (mkF m 35 #[.val (.int p1), .val (.int p2), .val (.int p3), .val (.int p4), .val (.int p5), .val (.int p6), .val (.int n), .val (.int h1), .unset, .unset, .unset, .unset, .unset, .unset, .unset, .unset, .unset, .unset, .unset, .unset, .unset, .unset] [])) _
    refine XS.iload X0.here hx rfl (hb hby at_35) rfl ?_
    show Steps p.tables e below (T0.setTop (mkF m 37 #[.val (.int p1), .val (.int p2), .val (.int p3), .val (.int p4), .val (.int p5), .val (.int p6), .val (.int n), .val (.int h1), .unset, .unset, .unset, .unset, .unset, .unset, .unset, .unset, .unset, .unset, .unset, .unset, .unset, .unset] [(.int p6)])) _
    refine XS.bipush X0.here hx rfl (hb hby at_37) ?_
    show Steps p.tables e below (T0.setTop (mkF m 39 #[.val (.int p1), .val (.int p2), .val (.int p3), .val (.int p4), .val (.int p5), .val (.int p6), .val (.int n), .val (.int h1), .unset, .unset, .unset, .unset, .unset, .unset, .unset, .unset, .unset, .unset, .unset, .unset, .unset, .unset] [(.int (9 : Int32)), (.int p6)])) _
    refine XS.iushr X0.here hx rfl (hb hby at_39) rfl ?_
    show Steps p.tables e below (T0.setTop (mkF m 40 #[.val (.int p1), .val (.int p2), .val (.int p3), .val (.int p4), .val (.int p5), .val (.int p6), .val (.int n), .val (.int h1), .unset, .unset, .unset, .unset, .unset, .unset, .unset, .unset, .unset, .unset, .unset, .unset, .unset, .unset] [(.int ((p6.toUInt32 >>> ((9 : Int32) &&& 31).toUInt32).toInt32))])) _
    refine XS.iconst X0.here hx rfl (hb hby at_40) ?_
    show Steps p.tables e below (T0.setTop (mkF m 41 #[.val (.int p1), .val (.int p2), .val (.int p3), .val (.int p4), .val (.int p5), .val (.int p6), .val (.int n), .val (.int h1), .unset, .unset, .unset, .unset, .unset, .unset, .unset, .unset, .unset, .unset, .unset, .unset, .unset, .unset] [(.int (1 : Int32)), (.int ((p6.toUInt32 >>> ((9 : Int32) &&& 31).toUInt32).toInt32))])) _
    refine XS.iand X0.here hx rfl (hb hby at_41) rfl ?_
    show Steps p.tables e below (T0.setTop (mkF m 42 #[.val (.int p1), .val (.int p2), .val (.int p3), .val (.int p4), .val (.int p5), .val (.int p6), .val (.int n), .val (.int h1), .unset, .unset, .unset, .unset, .unset, .unset, .unset, .unset, .unset, .unset, .unset, .unset, .unset, .unset] [(.int (((p6.toUInt32 >>> ((9 : Int32) &&& 31).toUInt32).toInt32) &&& (1 : Int32)))])) _
    refine XS.ifNo X0.here hx rfl (hb hby at_42) rfl ((if0 _ _).trans (feq (hq : ¬ ((((p6.toUInt32 >>> ((9 : Int32) &&& 31).toUInt32).toInt32) &&& (1 : Int32)) = (0 : Int32)))).1) ?_
    show Steps p.tables e below (T0.setTop (mkF m 45 #[.val (.int p1), .val (.int p2), .val (.int p3), .val (.int p4), .val (.int p5), .val (.int p6), .val (.int n), .val (.int h1), .unset, .unset, .unset, .unset, .unset, .unset, .unset, .unset, .unset, .unset, .unset, .unset, .unset, .unset] [])) _
    refine XS.iload X0.here hx rfl (hb hby at_45) rfl ?_
    show Steps p.tables e below (T0.setTop (mkF m 47 #[.val (.int p1), .val (.int p2), .val (.int p3), .val (.int p4), .val (.int p5), .val (.int p6), .val (.int n), .val (.int h1), .unset, .unset, .unset, .unset, .unset, .unset, .unset, .unset, .unset, .unset, .unset, .unset, .unset, .unset] [(.int h1)])) _
    refine XS.ifYes X0.here hx rfl (pc0 := 47) (pc' := 54) rfl (hb hby at_47) rfl ((if0 _ _).trans (feq (hz : ¬ (h1 = (0 : Int32)))).2) (by decide) (by decide) ?_
    show Steps p.tables e below (T0.setTop (mkF m 54 #[.val (.int p1), .val (.int p2), .val (.int p3), .val (.int p4), .val (.int p5), .val (.int p6), .val (.int n), .val (.int h1), .unset, .unset, .unset, .unset, .unset, .unset, .unset, .unset, .unset, .unset, .unset, .unset, .unset, .unset] [])) _
    refine XS.iconst X0.here hx rfl (hb hby at_54) ?_
    show Steps p.tables e below (T0.setTop (mkF m 55 #[.val (.int p1), .val (.int p2), .val (.int p3), .val (.int p4), .val (.int p5), .val (.int p6), .val (.int n), .val (.int h1), .unset, .unset, .unset, .unset, .unset, .unset, .unset, .unset, .unset, .unset, .unset, .unset, .unset, .unset] [(.int (0 : Int32))])) _
    refine XS.istore X0.here hx rfl (hb hby at_55) rfl (l' := #[.val (.int p1), .val (.int p2), .val (.int p3), .val (.int p4), .val (.int p5), .val (.int p6), .val (.int n), .val (.int h1), .val (.int (0 : Int32)), .unset, .unset, .unset, .unset, .unset, .unset, .unset, .unset, .unset, .unset, .unset, .unset, .unset]) rfl ?_
    exact kt
set_option maxRecDepth 65536 in
set_option maxHeartbeats 40000000 in
theorem sgC {p : Program} {l : Launch} {e : Env} {s : State} {m : MethodId} {args : Array Value} {below : List Frame} {meth : Method} {c : Code} {T0 : State} {locs : List Loc} {Z : State} {a0 : Array Value} {h0 : Heap} {n0 : Nat} (p1 p2 p3 p4 p5 p6 : Int32) (n h1 h2 : Int32)
    (X0 : Stand p l e room_1 s m args below meth c T0 locs 0 0) (hx : p.tables.exec = Jvm.exec) (hZ : Z.Warmed39 s.vm) (hw : ∀ d ∈ tables_1, d.before a0 Z = true) (hby : c.code = code) (hml : c.maxLocals = 22) (hown : s.vm.findClass "com/example/nimble_queue/nimblequeue/core/QueueNameOfPinLaw" = some m.cls) (e0 : T0.heap = h0) (N0 : Fr n0 locs) (O0 : Old Z n0 h0) :
    ∃ (h3 : Int32) (T' : State) (locs' : List Loc), (h3 = 0 ∨ (h3 = 1 ∧ h2 = 0 ∧ ¬ (n < (5 : Int32)))) ∧ Stand p l e room_1 s m args below meth c T' locs' 0 0 ∧ Fr n0 locs' ∧ T'.heap = h0 ∧ ∀ target, Steps p.tables e below (T'.setTop (mkF m 85 #[.val (.int p1), .val (.int p2), .val (.int p3), .val (.int p4), .val (.int p5), .val (.int p6), .val (.int n), .val (.int h1), .val (.int h2), .val (.int h3), .unset, .unset, .unset, .unset, .unset, .unset, .unset, .unset, .unset, .unset, .unset, .unset] [])) target → Steps p.tables e below (T0.setTop (mkF m 57 #[.val (.int p1), .val (.int p2), .val (.int p3), .val (.int p4), .val (.int p5), .val (.int p6), .val (.int n), .val (.int h1), .val (.int h2), .unset, .unset, .unset, .unset, .unset, .unset, .unset, .unset, .unset, .unset, .unset, .unset, .unset] [])) target := by
  have Z0 : n0 ≤ h0.size := O0.1 ▸ O0.2.1
  have K0 : Keep h0 h0 [] := Keep.refl _ _
  by_cases q4 : n < (5 : Int32)
  · refine ⟨(0 : Int32), T0, _, Or.inl rfl, X0, N0, e0, fun target kt => ?_⟩
    show Steps p.tables e below (T0.setTop (mkF m 57 #[.val (.int p1), .val (.int p2), .val (.int p3), .val (.int p4), .val (.int p5), .val (.int p6), .val (.int n), .val (.int h1), .val (.int h2), .unset, .unset, .unset, .unset, .unset, .unset, .unset, .unset, .unset, .unset, .unset, .unset, .unset] [])) _
    refine XS.iload X0.here hx rfl (hb hby at_57) rfl ?_
    show Steps p.tables e below (T0.setTop (mkF m 59 #[.val (.int p1), .val (.int p2), .val (.int p3), .val (.int p4), .val (.int p5), .val (.int p6), .val (.int n), .val (.int h1), .val (.int h2), .unset, .unset, .unset, .unset, .unset, .unset, .unset, .unset, .unset, .unset, .unset, .unset, .unset] [(.int n)])) _
    refine XS.iconst X0.here hx rfl (hb hby at_59) ?_
    show Steps p.tables e below (T0.setTop (mkF m 60 #[.val (.int p1), .val (.int p2), .val (.int p3), .val (.int p4), .val (.int p5), .val (.int p6), .val (.int n), .val (.int h1), .val (.int h2), .unset, .unset, .unset, .unset, .unset, .unset, .unset, .unset, .unset, .unset, .unset, .unset, .unset] [(.int (5 : Int32)), (.int n)])) _
    refine XS.icmpYes X0.here hx rfl (pc0 := 60) (pc' := 82) rfl (hb hby at_60) rfl (tlt (q4 : n < (5 : Int32))).1 (by decide) (by decide) ?_
    show Steps p.tables e below (T0.setTop (mkF m 82 #[.val (.int p1), .val (.int p2), .val (.int p3), .val (.int p4), .val (.int p5), .val (.int p6), .val (.int n), .val (.int h1), .val (.int h2), .unset, .unset, .unset, .unset, .unset, .unset, .unset, .unset, .unset, .unset, .unset, .unset, .unset] [])) _
    refine XS.iconst X0.here hx rfl (hb hby at_82) ?_
    show Steps p.tables e below (T0.setTop (mkF m 83 #[.val (.int p1), .val (.int p2), .val (.int p3), .val (.int p4), .val (.int p5), .val (.int p6), .val (.int n), .val (.int h1), .val (.int h2), .unset, .unset, .unset, .unset, .unset, .unset, .unset, .unset, .unset, .unset, .unset, .unset, .unset] [(.int (0 : Int32))])) _
    refine XS.istore X0.here hx rfl (hb hby at_83) rfl (l' := #[.val (.int p1), .val (.int p2), .val (.int p3), .val (.int p4), .val (.int p5), .val (.int p6), .val (.int n), .val (.int h1), .val (.int h2), .val (.int (0 : Int32)), .unset, .unset, .unset, .unset, .unset, .unset, .unset, .unset, .unset, .unset, .unset, .unset]) rfl ?_
    exact kt
  by_cases hq : (((p6.toUInt32 >>> ((10 : Int32) &&& 31).toUInt32).toInt32) &&& (1 : Int32)) = (0 : Int32)
  · refine ⟨(0 : Int32), T0, _, Or.inl rfl, X0, N0, e0, fun target kt => ?_⟩
    show Steps p.tables e below (T0.setTop (mkF m 57 #[.val (.int p1), .val (.int p2), .val (.int p3), .val (.int p4), .val (.int p5), .val (.int p6), .val (.int n), .val (.int h1), .val (.int h2), .unset, .unset, .unset, .unset, .unset, .unset, .unset, .unset, .unset, .unset, .unset, .unset, .unset] [])) _
    refine XS.iload X0.here hx rfl (hb hby at_57) rfl ?_
    show Steps p.tables e below (T0.setTop (mkF m 59 #[.val (.int p1), .val (.int p2), .val (.int p3), .val (.int p4), .val (.int p5), .val (.int p6), .val (.int n), .val (.int h1), .val (.int h2), .unset, .unset, .unset, .unset, .unset, .unset, .unset, .unset, .unset, .unset, .unset, .unset, .unset] [(.int n)])) _
    refine XS.iconst X0.here hx rfl (hb hby at_59) ?_
    show Steps p.tables e below (T0.setTop (mkF m 60 #[.val (.int p1), .val (.int p2), .val (.int p3), .val (.int p4), .val (.int p5), .val (.int p6), .val (.int n), .val (.int h1), .val (.int h2), .unset, .unset, .unset, .unset, .unset, .unset, .unset, .unset, .unset, .unset, .unset, .unset, .unset] [(.int (5 : Int32)), (.int n)])) _
    refine XS.icmpNo X0.here hx rfl (hb hby at_60) rfl (flt (q4 : ¬ (n < (5 : Int32)))).1 ?_
    show Steps p.tables e below (T0.setTop (mkF m 63 #[.val (.int p1), .val (.int p2), .val (.int p3), .val (.int p4), .val (.int p5), .val (.int p6), .val (.int n), .val (.int h1), .val (.int h2), .unset, .unset, .unset, .unset, .unset, .unset, .unset, .unset, .unset, .unset, .unset, .unset, .unset] [])) _
    refine XS.iload X0.here hx rfl (hb hby at_63) rfl ?_
    show Steps p.tables e below (T0.setTop (mkF m 65 #[.val (.int p1), .val (.int p2), .val (.int p3), .val (.int p4), .val (.int p5), .val (.int p6), .val (.int n), .val (.int h1), .val (.int h2), .unset, .unset, .unset, .unset, .unset, .unset, .unset, .unset, .unset, .unset, .unset, .unset, .unset] [(.int p6)])) _
    refine XS.bipush X0.here hx rfl (hb hby at_65) ?_
    show Steps p.tables e below (T0.setTop (mkF m 67 #[.val (.int p1), .val (.int p2), .val (.int p3), .val (.int p4), .val (.int p5), .val (.int p6), .val (.int n), .val (.int h1), .val (.int h2), .unset, .unset, .unset, .unset, .unset, .unset, .unset, .unset, .unset, .unset, .unset, .unset, .unset] [(.int (10 : Int32)), (.int p6)])) _
    refine XS.iushr X0.here hx rfl (hb hby at_67) rfl ?_
    show Steps p.tables e below (T0.setTop (mkF m 68 #[.val (.int p1), .val (.int p2), .val (.int p3), .val (.int p4), .val (.int p5), .val (.int p6), .val (.int n), .val (.int h1), .val (.int h2), .unset, .unset, .unset, .unset, .unset, .unset, .unset, .unset, .unset, .unset, .unset, .unset, .unset] [(.int ((p6.toUInt32 >>> ((10 : Int32) &&& 31).toUInt32).toInt32))])) _
    refine XS.iconst X0.here hx rfl (hb hby at_68) ?_
    show Steps p.tables e below (T0.setTop (mkF m 69 #[.val (.int p1), .val (.int p2), .val (.int p3), .val (.int p4), .val (.int p5), .val (.int p6), .val (.int n), .val (.int h1), .val (.int h2), .unset, .unset, .unset, .unset, .unset, .unset, .unset, .unset, .unset, .unset, .unset, .unset, .unset] [(.int (1 : Int32)), (.int ((p6.toUInt32 >>> ((10 : Int32) &&& 31).toUInt32).toInt32))])) _
    refine XS.iand X0.here hx rfl (hb hby at_69) rfl ?_
    show Steps p.tables e below (T0.setTop (mkF m 70 #[.val (.int p1), .val (.int p2), .val (.int p3), .val (.int p4), .val (.int p5), .val (.int p6), .val (.int n), .val (.int h1), .val (.int h2), .unset, .unset, .unset, .unset, .unset, .unset, .unset, .unset, .unset, .unset, .unset, .unset, .unset] [(.int (((p6.toUInt32 >>> ((10 : Int32) &&& 31).toUInt32).toInt32) &&& (1 : Int32)))])) _
    refine XS.ifYes X0.here hx rfl (pc0 := 70) (pc' := 82) rfl (hb hby at_70) rfl ((if0 _ _).trans (teq (hq : (((p6.toUInt32 >>> ((10 : Int32) &&& 31).toUInt32).toInt32) &&& (1 : Int32)) = (0 : Int32))).1) (by decide) (by decide) ?_
    show Steps p.tables e below (T0.setTop (mkF m 82 #[.val (.int p1), .val (.int p2), .val (.int p3), .val (.int p4), .val (.int p5), .val (.int p6), .val (.int n), .val (.int h1), .val (.int h2), .unset, .unset, .unset, .unset, .unset, .unset, .unset, .unset, .unset, .unset, .unset, .unset, .unset] [])) _
    refine XS.iconst X0.here hx rfl (hb hby at_82) ?_
    show Steps p.tables e below (T0.setTop (mkF m 83 #[.val (.int p1), .val (.int p2), .val (.int p3), .val (.int p4), .val (.int p5), .val (.int p6), .val (.int n), .val (.int h1), .val (.int h2), .unset, .unset, .unset, .unset, .unset, .unset, .unset, .unset, .unset, .unset, .unset, .unset, .unset] [(.int (0 : Int32))])) _
    refine XS.istore X0.here hx rfl (hb hby at_83) rfl (l' := #[.val (.int p1), .val (.int p2), .val (.int p3), .val (.int p4), .val (.int p5), .val (.int p6), .val (.int n), .val (.int h1), .val (.int h2), .val (.int (0 : Int32)), .unset, .unset, .unset, .unset, .unset, .unset, .unset, .unset, .unset, .unset, .unset, .unset]) rfl ?_
    exact kt
  by_cases hz : h2 = (0 : Int32)
  · refine ⟨(1 : Int32), T0, _, Or.inr ⟨rfl, hz, q4⟩, X0, N0, e0, fun target kt => ?_⟩
    show Steps p.tables e below (T0.setTop (mkF m 57 #[.val (.int p1), .val (.int p2), .val (.int p3), .val (.int p4), .val (.int p5), .val (.int p6), .val (.int n), .val (.int h1), .val (.int h2), .unset, .unset, .unset, .unset, .unset, .unset, .unset, .unset, .unset, .unset, .unset, .unset, .unset] [])) _
    refine XS.iload X0.here hx rfl (hb hby at_57) rfl ?_
    show Steps p.tables e below (T0.setTop (mkF m 59 #[.val (.int p1), .val (.int p2), .val (.int p3), .val (.int p4), .val (.int p5), .val (.int p6), .val (.int n), .val (.int h1), .val (.int h2), .unset, .unset, .unset, .unset, .unset, .unset, .unset, .unset, .unset, .unset, .unset, .unset, .unset] [(.int n)])) _
    refine XS.iconst X0.here hx rfl (hb hby at_59) ?_
    show Steps p.tables e below (T0.setTop (mkF m 60 #[.val (.int p1), .val (.int p2), .val (.int p3), .val (.int p4), .val (.int p5), .val (.int p6), .val (.int n), .val (.int h1), .val (.int h2), .unset, .unset, .unset, .unset, .unset, .unset, .unset, .unset, .unset, .unset, .unset, .unset, .unset] [(.int (5 : Int32)), (.int n)])) _
    refine XS.icmpNo X0.here hx rfl (hb hby at_60) rfl (flt (q4 : ¬ (n < (5 : Int32)))).1 ?_
    show Steps p.tables e below (T0.setTop (mkF m 63 #[.val (.int p1), .val (.int p2), .val (.int p3), .val (.int p4), .val (.int p5), .val (.int p6), .val (.int n), .val (.int h1), .val (.int h2), .unset, .unset, .unset, .unset, .unset, .unset, .unset, .unset, .unset, .unset, .unset, .unset, .unset] [])) _
    refine XS.iload X0.here hx rfl (hb hby at_63) rfl ?_
    show Steps p.tables e below (T0.setTop (mkF m 65 #[.val (.int p1), .val (.int p2), .val (.int p3), .val (.int p4), .val (.int p5), .val (.int p6), .val (.int n), .val (.int h1), .val (.int h2), .unset, .unset, .unset, .unset, .unset, .unset, .unset, .unset, .unset, .unset, .unset, .unset, .unset] [(.int p6)])) _
    refine XS.bipush X0.here hx rfl (hb hby at_65) ?_
    show Steps p.tables e below (T0.setTop (mkF m 67 #[.val (.int p1), .val (.int p2), .val (.int p3), .val (.int p4), .val (.int p5), .val (.int p6), .val (.int n), .val (.int h1), .val (.int h2), .unset, .unset, .unset, .unset, .unset, .unset, .unset, .unset, .unset, .unset, .unset, .unset, .unset] [(.int (10 : Int32)), (.int p6)])) _
    refine XS.iushr X0.here hx rfl (hb hby at_67) rfl ?_
    show Steps p.tables e below (T0.setTop (mkF m 68 #[.val (.int p1), .val (.int p2), .val (.int p3), .val (.int p4), .val (.int p5), .val (.int p6), .val (.int n), .val (.int h1), .val (.int h2), .unset, .unset, .unset, .unset, .unset, .unset, .unset, .unset, .unset, .unset, .unset, .unset, .unset] [(.int ((p6.toUInt32 >>> ((10 : Int32) &&& 31).toUInt32).toInt32))])) _
    refine XS.iconst X0.here hx rfl (hb hby at_68) ?_
    show Steps p.tables e below (T0.setTop (mkF m 69 #[.val (.int p1), .val (.int p2), .val (.int p3), .val (.int p4), .val (.int p5), .val (.int p6), .val (.int n), .val (.int h1), .val (.int h2), .unset, .unset, .unset, .unset, .unset, .unset, .unset, .unset, .unset, .unset, .unset, .unset, .unset] [(.int (1 : Int32)), (.int ((p6.toUInt32 >>> ((10 : Int32) &&& 31).toUInt32).toInt32))])) _
    refine XS.iand X0.here hx rfl (hb hby at_69) rfl ?_
    show Steps p.tables e below (T0.setTop (mkF m 70 #[.val (.int p1), .val (.int p2), .val (.int p3), .val (.int p4), .val (.int p5), .val (.int p6), .val (.int n), .val (.int h1), .val (.int h2), .unset, .unset, .unset, .unset, .unset, .unset, .unset, .unset, .unset, .unset, .unset, .unset, .unset] [(.int (((p6.toUInt32 >>> ((10 : Int32) &&& 31).toUInt32).toInt32) &&& (1 : Int32)))])) _
    refine XS.ifNo X0.here hx rfl (hb hby at_70) rfl ((if0 _ _).trans (feq (hq : ¬ ((((p6.toUInt32 >>> ((10 : Int32) &&& 31).toUInt32).toInt32) &&& (1 : Int32)) = (0 : Int32)))).1) ?_
    show Steps p.tables e below (T0.setTop (mkF m 73 #[.val (.int p1), .val (.int p2), .val (.int p3), .val (.int p4), .val (.int p5), .val (.int p6), .val (.int n), .val (.int h1), .val (.int h2), .unset, .unset, .unset, .unset, .unset, .unset, .unset, .unset, .unset, .unset, .unset, .unset, .unset] [])) _
    refine XS.iload X0.here hx rfl (hb hby at_73) rfl ?_
    show Steps p.tables e below (T0.setTop (mkF m 75 #[.val (.int p1), .val (.int p2), .val (.int p3), .val (.int p4), .val (.int p5), .val (.int p6), .val (.int n), .val (.int h1), .val (.int h2), .unset, .unset, .unset, .unset, .unset, .unset, .unset, .unset, .unset, .unset, .unset, .unset, .unset] [(.int h2)])) _
    refine XS.ifNo X0.here hx rfl (hb hby at_75) rfl ((if0 _ _).trans (teq (hz : h2 = (0 : Int32))).2) ?_
    show Steps p.tables e below (T0.setTop (mkF m 78 #[.val (.int p1), .val (.int p2), .val (.int p3), .val (.int p4), .val (.int p5), .val (.int p6), .val (.int n), .val (.int h1), .val (.int h2), .unset, .unset, .unset, .unset, .unset, .unset, .unset, .unset, .unset, .unset, .unset, .unset, .unset] [])) _
    refine XS.iconst X0.here hx rfl (hb hby at_78) ?_
    show Steps p.tables e below (T0.setTop (mkF m 79 #[.val (.int p1), .val (.int p2), .val (.int p3), .val (.int p4), .val (.int p5), .val (.int p6), .val (.int n), .val (.int h1), .val (.int h2), .unset, .unset, .unset, .unset, .unset, .unset, .unset, .unset, .unset, .unset, .unset, .unset, .unset] [(.int (1 : Int32))])) _
    refine XS.goto X0.here hx rfl (pc0 := 79) (pc' := 83) rfl (hb hby at_79) (by decide) (by decide) ?_
    show Steps p.tables e below (T0.setTop (mkF m 83 #[.val (.int p1), .val (.int p2), .val (.int p3), .val (.int p4), .val (.int p5), .val (.int p6), .val (.int n), .val (.int h1), .val (.int h2), .unset, .unset, .unset, .unset, .unset, .unset, .unset, .unset, .unset, .unset, .unset, .unset, .unset] [(.int (1 : Int32))])) _
    refine XS.istore X0.here hx rfl (hb hby at_83) rfl (l' := #[.val (.int p1), .val (.int p2), .val (.int p3), .val (.int p4), .val (.int p5), .val (.int p6), .val (.int n), .val (.int h1), .val (.int h2), .val (.int (1 : Int32)), .unset, .unset, .unset, .unset, .unset, .unset, .unset, .unset, .unset, .unset, .unset, .unset]) rfl ?_
    exact kt
  · refine ⟨(0 : Int32), T0, _, Or.inl rfl, X0, N0, e0, fun target kt => ?_⟩
    show Steps p.tables e below (T0.setTop (mkF m 57 #[.val (.int p1), .val (.int p2), .val (.int p3), .val (.int p4), .val (.int p5), .val (.int p6), .val (.int n), .val (.int h1), .val (.int h2), .unset, .unset, .unset, .unset, .unset, .unset, .unset, .unset, .unset, .unset, .unset, .unset, .unset] [])) _
    refine XS.iload X0.here hx rfl (hb hby at_57) rfl ?_
    show Steps p.tables e below (T0.setTop (mkF m 59 #[.val (.int p1), .val (.int p2), .val (.int p3), .val (.int p4), .val (.int p5), .val (.int p6), .val (.int n), .val (.int h1), .val (.int h2), .unset, .unset, .unset, .unset, .unset, .unset, .unset, .unset, .unset, .unset, .unset, .unset, .unset] [(.int n)])) _
    refine XS.iconst X0.here hx rfl (hb hby at_59) ?_
    show Steps p.tables e below (T0.setTop (mkF m 60 #[.val (.int p1), .val (.int p2), .val (.int p3), .val (.int p4), .val (.int p5), .val (.int p6), .val (.int n), .val (.int h1), .val (.int h2), .unset, .unset, .unset, .unset, .unset, .unset, .unset, .unset, .unset, .unset, .unset, .unset, .unset] [(.int (5 : Int32)), (.int n)])) _
    refine XS.icmpNo X0.here hx rfl (hb hby at_60) rfl (flt (q4 : ¬ (n < (5 : Int32)))).1 ?_
    show Steps p.tables e below (T0.setTop (mkF m 63 #[.val (.int p1), .val (.int p2), .val (.int p3), .val (.int p4), .val (.int p5), .val (.int p6), .val (.int n), .val (.int h1), .val (.int h2), .unset, .unset, .unset, .unset, .unset, .unset, .unset, .unset, .unset, .unset, .unset, .unset, .unset] [])) _
    refine XS.iload X0.here hx rfl (hb hby at_63) rfl ?_
    show Steps p.tables e below (T0.setTop (mkF m 65 #[.val (.int p1), .val (.int p2), .val (.int p3), .val (.int p4), .val (.int p5), .val (.int p6), .val (.int n), .val (.int h1), .val (.int h2), .unset, .unset, .unset, .unset, .unset, .unset, .unset, .unset, .unset, .unset, .unset, .unset, .unset] [(.int p6)])) _
    refine XS.bipush X0.here hx rfl (hb hby at_65) ?_
    show Steps p.tables e below (T0.setTop (mkF m 67 #[.val (.int p1), .val (.int p2), .val (.int p3), .val (.int p4), .val (.int p5), .val (.int p6), .val (.int n), .val (.int h1), .val (.int h2), .unset, .unset, .unset, .unset, .unset, .unset, .unset, .unset, .unset, .unset, .unset, .unset, .unset] [(.int (10 : Int32)), (.int p6)])) _
    refine XS.iushr X0.here hx rfl (hb hby at_67) rfl ?_
    show Steps p.tables e below (T0.setTop (mkF m 68 #[.val (.int p1), .val (.int p2), .val (.int p3), .val (.int p4), .val (.int p5), .val (.int p6), .val (.int n), .val (.int h1), .val (.int h2), .unset, .unset, .unset, .unset, .unset, .unset, .unset, .unset, .unset, .unset, .unset, .unset, .unset] [(.int ((p6.toUInt32 >>> ((10 : Int32) &&& 31).toUInt32).toInt32))])) _
    refine XS.iconst X0.here hx rfl (hb hby at_68) ?_
    show Steps p.tables e below (T0.setTop (mkF m 69 #[.val (.int p1), .val (.int p2), .val (.int p3), .val (.int p4), .val (.int p5), .val (.int p6), .val (.int n), .val (.int h1), .val (.int h2), .unset, .unset, .unset, .unset, .unset, .unset, .unset, .unset, .unset, .unset, .unset, .unset, .unset] [(.int (1 : Int32)), (.int ((p6.toUInt32 >>> ((10 : Int32) &&& 31).toUInt32).toInt32))])) _
    refine XS.iand X0.here hx rfl (hb hby at_69) rfl ?_
    show Steps p.tables e below (T0.setTop (mkF m 70 #[.val (.int p1), .val (.int p2), .val (.int p3), .val (.int p4), .val (.int p5), .val (.int p6), .val (.int n), .val (.int h1), .val (.int h2), .unset, .unset, .unset, .unset, .unset, .unset, .unset, .unset, .unset, .unset, .unset, .unset, .unset] [(.int (((p6.toUInt32 >>> ((10 : Int32) &&& 31).toUInt32).toInt32) &&& (1 : Int32)))])) _
    refine XS.ifNo X0.here hx rfl (hb hby at_70) rfl ((if0 _ _).trans (feq (hq : ¬ ((((p6.toUInt32 >>> ((10 : Int32) &&& 31).toUInt32).toInt32) &&& (1 : Int32)) = (0 : Int32)))).1) ?_
    show Steps p.tables e below (T0.setTop (mkF m 73 #[.val (.int p1), .val (.int p2), .val (.int p3), .val (.int p4), .val (.int p5), .val (.int p6), .val (.int n), .val (.int h1), .val (.int h2), .unset, .unset, .unset, .unset, .unset, .unset, .unset, .unset, .unset, .unset, .unset, .unset, .unset] [])) _
    refine XS.iload X0.here hx rfl (hb hby at_73) rfl ?_
    show Steps p.tables e below (T0.setTop (mkF m 75 #[.val (.int p1), .val (.int p2), .val (.int p3), .val (.int p4), .val (.int p5), .val (.int p6), .val (.int n), .val (.int h1), .val (.int h2), .unset, .unset, .unset, .unset, .unset, .unset, .unset, .unset, .unset, .unset, .unset, .unset, .unset] [(.int h2)])) _
    refine XS.ifYes X0.here hx rfl (pc0 := 75) (pc' := 82) rfl (hb hby at_75) rfl ((if0 _ _).trans (feq (hz : ¬ (h2 = (0 : Int32)))).2) (by decide) (by decide) ?_
    show Steps p.tables e below (T0.setTop (mkF m 82 #[.val (.int p1), .val (.int p2), .val (.int p3), .val (.int p4), .val (.int p5), .val (.int p6), .val (.int n), .val (.int h1), .val (.int h2), .unset, .unset, .unset, .unset, .unset, .unset, .unset, .unset, .unset, .unset, .unset, .unset, .unset] [])) _
    refine XS.iconst X0.here hx rfl (hb hby at_82) ?_
    show Steps p.tables e below (T0.setTop (mkF m 83 #[.val (.int p1), .val (.int p2), .val (.int p3), .val (.int p4), .val (.int p5), .val (.int p6), .val (.int n), .val (.int h1), .val (.int h2), .unset, .unset, .unset, .unset, .unset, .unset, .unset, .unset, .unset, .unset, .unset, .unset, .unset] [(.int (0 : Int32))])) _
    refine XS.istore X0.here hx rfl (hb hby at_83) rfl (l' := #[.val (.int p1), .val (.int p2), .val (.int p3), .val (.int p4), .val (.int p5), .val (.int p6), .val (.int n), .val (.int h1), .val (.int h2), .val (.int (0 : Int32)), .unset, .unset, .unset, .unset, .unset, .unset, .unset, .unset, .unset, .unset, .unset, .unset]) rfl ?_
    exact kt
set_option maxRecDepth 65536 in
set_option maxHeartbeats 40000000 in
theorem sgD {p : Program} {l : Launch} {e : Env} {s : State} {m : MethodId} {args : Array Value} {below : List Frame} {meth : Method} {c : Code} {T0 : State} {locs : List Loc} {Z : State} {a0 : Array Value} {h0 : Heap} {n0 : Nat} (p1 p2 p3 p4 p5 p6 : Int32) (n h1 h2 h3 : Int32)
    (X0 : Stand p l e room_1 s m args below meth c T0 locs 0 0) (hx : p.tables.exec = Jvm.exec) (hZ : Z.Warmed39 s.vm) (hw : ∀ d ∈ tables_1, d.before a0 Z = true) (hby : c.code = code) (hml : c.maxLocals = 22) (hown : s.vm.findClass "com/example/nimble_queue/nimblequeue/core/QueueNameOfPinLaw" = some m.cls) (e0 : T0.heap = h0) (N0 : Fr n0 locs) (O0 : Old Z n0 h0) :
    ∃ (c0 : Int32) (T' : State) (locs' : List Loc), (own_al c0) ∧ Stand p l e room_1 s m args below meth c T' locs' 0 0 ∧ Fr n0 locs' ∧ T'.heap = h0 ∧ ∀ target, Steps p.tables e below (T'.setTop (mkF m 91 #[.val (.int p1), .val (.int p2), .val (.int p3), .val (.int p4), .val (.int p5), .val (.int p6), .val (.int n), .val (.int h1), .val (.int h2), .val (.int h3), .val (.int c0), .unset, .unset, .unset, .unset, .unset, .unset, .unset, .unset, .unset, .unset, .unset] [])) target → Steps p.tables e below (T0.setTop (mkF m 85 #[.val (.int p1), .val (.int p2), .val (.int p3), .val (.int p4), .val (.int p5), .val (.int p6), .val (.int n), .val (.int h1), .val (.int h2), .val (.int h3), .unset, .unset, .unset, .unset, .unset, .unset, .unset, .unset, .unset, .unset, .unset, .unset] [])) target := by
  have Z0 : n0 ≤ h0.size := O0.1 ▸ O0.2.1
  have K0 : Keep h0 h0 [] := Keep.refl _ _
  · obtain ⟨_, _, ⟨T39, L39, k39, n39⟩, -, X39, ⟨Lc39, hQ39, l39, y39, z39⟩, st39⟩ := Jvm.LawKit.callS X0 hx (y := (⟨"com/example/nimble_queue/nimblequeue/core/QueueNameOfPinLaw", "alnum", "(I)C"⟩ : MethodName)) hown (mvT hZ (hw _ (List.mem_of_getElem? (i := 0) rfl))) (mvT hZ (hw _ (List.mem_of_getElem? (i := 1) rfl))) (mvT hZ (hw _ (List.mem_of_getElem? (i := 2) rfl))) (mvT hZ (hw _ (List.mem_of_getElem? (i := 3) rfl))) (by decide) (backOf (W := 0) (rmAl l Z a0 hw [] p1 h0 n0 O0) hZ (hw _ (List.mem_of_getElem? (i := 3) rfl)) (hw _ (List.mem_of_getElem? (i := 2) rfl)) (by decide) (by decide)) (g := (mkF m 86 #[.val (.int p1), .val (.int p2), .val (.int p3), .val (.int p4), .val (.int p5), .val (.int p6), .val (.int n), .val (.int h1), .val (.int h2), .val (.int h3), .unset, .unset, .unset, .unset, .unset, .unset, .unset, .unset, .unset, .unset, .unset, .unset] [(.int p1)])) rfl (by rw [hml]; rfl) (argsL := [(.int p1)]) (rest := []) (lenOf pd__I_C rfl) rfl (by show 2 * 0 + _ ≤ _; exact Nat.le_of_eq rfl) (hb hby at_86) (fun _ _ => ⟨rfl, e0, (by decide : 0 + 0 ≤ _), (by decide : 0 + 0 ≤ _)⟩)
    dsimp only [Pt.U, Pt.locs, Pt.cells, Pt.slots] at X39 l39 y39 z39 st39 hQ39
    subst l39 y39 z39
    obtain ⟨c39, rfl, N39q, e39, al39⟩ := hQ39
    have N39 := Fr.app N0 N39q
    refine ⟨c39, T39, _, al39, X39, N39, e39, fun target kt => ?_⟩
    show Steps p.tables e below (T0.setTop (mkF m 85 #[.val (.int p1), .val (.int p2), .val (.int p3), .val (.int p4), .val (.int p5), .val (.int p6), .val (.int n), .val (.int h1), .val (.int h2), .val (.int h3), .unset, .unset, .unset, .unset, .unset, .unset, .unset, .unset, .unset, .unset, .unset, .unset] [])) _
    refine XS.iloadN X0.here hx rfl (hb hby at_85) rfl ?_
    show Steps p.tables e below (T0.setTop (mkF m 86 #[.val (.int p1), .val (.int p2), .val (.int p3), .val (.int p4), .val (.int p5), .val (.int p6), .val (.int n), .val (.int h1), .val (.int h2), .val (.int h3), .unset, .unset, .unset, .unset, .unset, .unset, .unset, .unset, .unset, .unset, .unset, .unset] [(.int p1)])) _
    refine st39 _ ?_
    show Steps p.tables e below (T39.setTop (mkF m 89 #[.val (.int p1), .val (.int p2), .val (.int p3), .val (.int p4), .val (.int p5), .val (.int p6), .val (.int n), .val (.int h1), .val (.int h2), .val (.int h3), .unset, .unset, .unset, .unset, .unset, .unset, .unset, .unset, .unset, .unset, .unset, .unset] [(.int c39)])) _
    refine XS.istore X39.here hx rfl (hb hby at_89) rfl (l' := #[.val (.int p1), .val (.int p2), .val (.int p3), .val (.int p4), .val (.int p5), .val (.int p6), .val (.int n), .val (.int h1), .val (.int h2), .val (.int h3), .val (.int c39), .unset, .unset, .unset, .unset, .unset, .unset, .unset, .unset, .unset, .unset, .unset]) rfl ?_
    exact kt
set_option maxRecDepth 65536 in
set_option maxHeartbeats 40000000 in
theorem sgE {p : Program} {l : Launch} {e : Env} {s : State} {m : MethodId} {args : Array Value} {below : List Frame} {meth : Method} {c : Code} {T0 : State} {locs : List Loc} {Z : State} {a0 : Array Value} {h0 : Heap} {n0 : Nat} (p1 p2 p3 p4 p5 p6 : Int32) (n h1 h2 h3 : Int32) (c0 : Int32)
    (X0 : Stand p l e room_1 s m args below meth c T0 locs 0 0) (hx : p.tables.exec = Jvm.exec) (hZ : Z.Warmed39 s.vm) (hw : ∀ d ∈ tables_1, d.before a0 Z = true) (hby : c.code = code) (hml : c.maxLocals = 22) (hown : s.vm.findClass "com/example/nimble_queue/nimblequeue/core/QueueNameOfPinLaw" = some m.cls) (e0 : T0.heap = h0) (N0 : Fr n0 locs) (O0 : Old Z n0 h0) :
    ∃ (c1 : Int32) (T' : State) (locs' : List Loc), ((h1 = 0 ∧ own_al c1) ∨ (¬ (h1 = 0) ∧ c1 = (45 : Int32))) ∧ Stand p l e room_1 s m args below meth c T' locs' 0 0 ∧ Fr n0 locs' ∧ T'.heap = h0 ∧ ∀ target, Steps p.tables e below (T'.setTop (mkF m 107 #[.val (.int p1), .val (.int p2), .val (.int p3), .val (.int p4), .val (.int p5), .val (.int p6), .val (.int n), .val (.int h1), .val (.int h2), .val (.int h3), .val (.int c0), .val (.int c1), .unset, .unset, .unset, .unset, .unset, .unset, .unset, .unset, .unset, .unset] [])) target → Steps p.tables e below (T0.setTop (mkF m 91 #[.val (.int p1), .val (.int p2), .val (.int p3), .val (.int p4), .val (.int p5), .val (.int p6), .val (.int n), .val (.int h1), .val (.int h2), .val (.int h3), .val (.int c0), .unset, .unset, .unset, .unset, .unset, .unset, .unset, .unset, .unset, .unset, .unset] [])) target := by
  have Z0 : n0 ≤ h0.size := O0.1 ▸ O0.2.1
  have K0 : Keep h0 h0 [] := Keep.refl _ _
  by_cases hz : h1 = (0 : Int32)
  · obtain ⟨_, _, ⟨T40, L40, k40, n40⟩, -, X40, ⟨Lc40, hQ40, l40, y40, z40⟩, st40⟩ := Jvm.LawKit.callS X0 hx (y := (⟨"com/example/nimble_queue/nimblequeue/core/QueueNameOfPinLaw", "alnum", "(I)C"⟩ : MethodName)) hown (mvT hZ (hw _ (List.mem_of_getElem? (i := 0) rfl))) (mvT hZ (hw _ (List.mem_of_getElem? (i := 1) rfl))) (mvT hZ (hw _ (List.mem_of_getElem? (i := 2) rfl))) (mvT hZ (hw _ (List.mem_of_getElem? (i := 3) rfl))) (by decide) (backOf (W := 0) (rmAl l Z a0 hw [] p2 h0 n0 O0) hZ (hw _ (List.mem_of_getElem? (i := 3) rfl)) (hw _ (List.mem_of_getElem? (i := 2) rfl)) (by decide) (by decide)) (g := (mkF m 102 #[.val (.int p1), .val (.int p2), .val (.int p3), .val (.int p4), .val (.int p5), .val (.int p6), .val (.int n), .val (.int h1), .val (.int h2), .val (.int h3), .val (.int c0), .unset, .unset, .unset, .unset, .unset, .unset, .unset, .unset, .unset, .unset, .unset] [(.int p2)])) rfl (by rw [hml]; rfl) (argsL := [(.int p2)]) (rest := []) (lenOf pd__I_C rfl) rfl (by show 2 * 0 + _ ≤ _; exact Nat.le_of_eq rfl) (hb hby at_102) (fun _ _ => ⟨rfl, e0, (by decide : 0 + 0 ≤ _), (by decide : 0 + 0 ≤ _)⟩)
    dsimp only [Pt.U, Pt.locs, Pt.cells, Pt.slots] at X40 l40 y40 z40 st40 hQ40
    subst l40 y40 z40
    obtain ⟨c40, rfl, N40q, e40, al40⟩ := hQ40
    have N40 := Fr.app N0 N40q
    refine ⟨c40, T40, _, Or.inl ⟨hz, al40⟩, X40, N40, e40, fun target kt => ?_⟩
    show Steps p.tables e below (T0.setTop (mkF m 91 #[.val (.int p1), .val (.int p2), .val (.int p3), .val (.int p4), .val (.int p5), .val (.int p6), .val (.int n), .val (.int h1), .val (.int h2), .val (.int h3), .val (.int c0), .unset, .unset, .unset, .unset, .unset, .unset, .unset, .unset, .unset, .unset, .unset] [])) _
    refine XS.iload X0.here hx rfl (hb hby at_91) rfl ?_
    show Steps p.tables e below (T0.setTop (mkF m 93 #[.val (.int p1), .val (.int p2), .val (.int p3), .val (.int p4), .val (.int p5), .val (.int p6), .val (.int n), .val (.int h1), .val (.int h2), .val (.int h3), .val (.int c0), .unset, .unset, .unset, .unset, .unset, .unset, .unset, .unset, .unset, .unset, .unset] [(.int h1)])) _
    refine XS.ifYes X0.here hx rfl (pc0 := 93) (pc' := 101) rfl (hb hby at_93) rfl ((if0 _ _).trans (teq (hz : h1 = (0 : Int32))).1) (by decide) (by decide) ?_
    show Steps p.tables e below (T0.setTop (mkF m 101 #[.val (.int p1), .val (.int p2), .val (.int p3), .val (.int p4), .val (.int p5), .val (.int p6), .val (.int n), .val (.int h1), .val (.int h2), .val (.int h3), .val (.int c0), .unset, .unset, .unset, .unset, .unset, .unset, .unset, .unset, .unset, .unset, .unset] [])) _
    refine XS.iloadN X0.here hx rfl (hb hby at_101) rfl ?_
    show Steps p.tables e below (T0.setTop (mkF m 102 #[.val (.int p1), .val (.int p2), .val (.int p3), .val (.int p4), .val (.int p5), .val (.int p6), .val (.int n), .val (.int h1), .val (.int h2), .val (.int h3), .val (.int c0), .unset, .unset, .unset, .unset, .unset, .unset, .unset, .unset, .unset, .unset, .unset] [(.int p2)])) _
    refine st40 _ ?_
    show Steps p.tables e below (T40.setTop (mkF m 105 #[.val (.int p1), .val (.int p2), .val (.int p3), .val (.int p4), .val (.int p5), .val (.int p6), .val (.int n), .val (.int h1), .val (.int h2), .val (.int h3), .val (.int c0), .unset, .unset, .unset, .unset, .unset, .unset, .unset, .unset, .unset, .unset, .unset] [(.int c40)])) _
    refine XS.istore X40.here hx rfl (hb hby at_105) rfl (l' := #[.val (.int p1), .val (.int p2), .val (.int p3), .val (.int p4), .val (.int p5), .val (.int p6), .val (.int n), .val (.int h1), .val (.int h2), .val (.int h3), .val (.int c0), .val (.int c40), .unset, .unset, .unset, .unset, .unset, .unset, .unset, .unset, .unset, .unset]) rfl ?_
    exact kt
  · refine ⟨(45 : Int32), T0, _, Or.inr ⟨hz, rfl⟩, X0, N0, e0, fun target kt => ?_⟩
    show Steps p.tables e below (T0.setTop (mkF m 91 #[.val (.int p1), .val (.int p2), .val (.int p3), .val (.int p4), .val (.int p5), .val (.int p6), .val (.int n), .val (.int h1), .val (.int h2), .val (.int h3), .val (.int c0), .unset, .unset, .unset, .unset, .unset, .unset, .unset, .unset, .unset, .unset, .unset] [])) _
    refine XS.iload X0.here hx rfl (hb hby at_91) rfl ?_
    show Steps p.tables e below (T0.setTop (mkF m 93 #[.val (.int p1), .val (.int p2), .val (.int p3), .val (.int p4), .val (.int p5), .val (.int p6), .val (.int n), .val (.int h1), .val (.int h2), .val (.int h3), .val (.int c0), .unset, .unset, .unset, .unset, .unset, .unset, .unset, .unset, .unset, .unset, .unset] [(.int h1)])) _
    refine XS.ifNo X0.here hx rfl (hb hby at_93) rfl ((if0 _ _).trans (feq (hz : ¬ (h1 = (0 : Int32)))).1) ?_
    show Steps p.tables e below (T0.setTop (mkF m 96 #[.val (.int p1), .val (.int p2), .val (.int p3), .val (.int p4), .val (.int p5), .val (.int p6), .val (.int n), .val (.int h1), .val (.int h2), .val (.int h3), .val (.int c0), .unset, .unset, .unset, .unset, .unset, .unset, .unset, .unset, .unset, .unset, .unset] [])) _
    refine XS.bipush X0.here hx rfl (hb hby at_96) ?_
    show Steps p.tables e below (T0.setTop (mkF m 98 #[.val (.int p1), .val (.int p2), .val (.int p3), .val (.int p4), .val (.int p5), .val (.int p6), .val (.int n), .val (.int h1), .val (.int h2), .val (.int h3), .val (.int c0), .unset, .unset, .unset, .unset, .unset, .unset, .unset, .unset, .unset, .unset, .unset] [(.int (45 : Int32))])) _
    refine XS.goto X0.here hx rfl (pc0 := 98) (pc' := 105) rfl (hb hby at_98) (by decide) (by decide) ?_
    show Steps p.tables e below (T0.setTop (mkF m 105 #[.val (.int p1), .val (.int p2), .val (.int p3), .val (.int p4), .val (.int p5), .val (.int p6), .val (.int n), .val (.int h1), .val (.int h2), .val (.int h3), .val (.int c0), .unset, .unset, .unset, .unset, .unset, .unset, .unset, .unset, .unset, .unset, .unset] [(.int (45 : Int32))])) _
    refine XS.istore X0.here hx rfl (hb hby at_105) rfl (l' := #[.val (.int p1), .val (.int p2), .val (.int p3), .val (.int p4), .val (.int p5), .val (.int p6), .val (.int n), .val (.int h1), .val (.int h2), .val (.int h3), .val (.int c0), .val (.int (45 : Int32)), .unset, .unset, .unset, .unset, .unset, .unset, .unset, .unset, .unset, .unset]) rfl ?_
    exact kt
set_option maxRecDepth 65536 in
set_option maxHeartbeats 40000000 in
theorem sgF {p : Program} {l : Launch} {e : Env} {s : State} {m : MethodId} {args : Array Value} {below : List Frame} {meth : Method} {c : Code} {T0 : State} {locs : List Loc} {Z : State} {a0 : Array Value} {h0 : Heap} {n0 : Nat} (p1 p2 p3 p4 p5 p6 : Int32) (n h1 h2 h3 : Int32) (c0 c1 : Int32)
    (X0 : Stand p l e room_1 s m args below meth c T0 locs 0 0) (hx : p.tables.exec = Jvm.exec) (hZ : Z.Warmed39 s.vm) (hw : ∀ d ∈ tables_1, d.before a0 Z = true) (hby : c.code = code) (hml : c.maxLocals = 22) (hown : s.vm.findClass "com/example/nimble_queue/nimblequeue/core/QueueNameOfPinLaw" = some m.cls) (e0 : T0.heap = h0) (N0 : Fr n0 locs) (O0 : Old Z n0 h0) :
    ∃ (c2 : Int32) (T' : State) (locs' : List Loc), ((h2 = 0 ∧ own_al c2) ∨ (¬ (h2 = 0) ∧ c2 = (45 : Int32))) ∧ Stand p l e room_1 s m args below meth c T' locs' 0 0 ∧ Fr n0 locs' ∧ T'.heap = h0 ∧ ∀ target, Steps p.tables e below (T'.setTop (mkF m 123 #[.val (.int p1), .val (.int p2), .val (.int p3), .val (.int p4), .val (.int p5), .val (.int p6), .val (.int n), .val (.int h1), .val (.int h2), .val (.int h3), .val (.int c0), .val (.int c1), .val (.int c2), .unset, .unset, .unset, .unset, .unset, .unset, .unset, .unset, .unset] [])) target → Steps p.tables e below (T0.setTop (mkF m 107 #[.val (.int p1), .val (.int p2), .val (.int p3), .val (.int p4), .val (.int p5), .val (.int p6), .val (.int n), .val (.int h1), .val (.int h2), .val (.int h3), .val (.int c0), .val (.int c1), .unset, .unset, .unset, .unset, .unset, .unset, .unset, .unset, .unset, .unset] [])) target := by
  have Z0 : n0 ≤ h0.size := O0.1 ▸ O0.2.1
  have K0 : Keep h0 h0 [] := Keep.refl _ _
  by_cases hz : h2 = (0 : Int32)
  · obtain ⟨_, _, ⟨T41, L41, k41, n41⟩, -, X41, ⟨Lc41, hQ41, l41, y41, z41⟩, st41⟩ := Jvm.LawKit.callS X0 hx (y := (⟨"com/example/nimble_queue/nimblequeue/core/QueueNameOfPinLaw", "alnum", "(I)C"⟩ : MethodName)) hown (mvT hZ (hw _ (List.mem_of_getElem? (i := 0) rfl))) (mvT hZ (hw _ (List.mem_of_getElem? (i := 1) rfl))) (mvT hZ (hw _ (List.mem_of_getElem? (i := 2) rfl))) (mvT hZ (hw _ (List.mem_of_getElem? (i := 3) rfl))) (by decide) (backOf (W := 0) (rmAl l Z a0 hw [] p3 h0 n0 O0) hZ (hw _ (List.mem_of_getElem? (i := 3) rfl)) (hw _ (List.mem_of_getElem? (i := 2) rfl)) (by decide) (by decide)) (g := (mkF m 118 #[.val (.int p1), .val (.int p2), .val (.int p3), .val (.int p4), .val (.int p5), .val (.int p6), .val (.int n), .val (.int h1), .val (.int h2), .val (.int h3), .val (.int c0), .val (.int c1), .unset, .unset, .unset, .unset, .unset, .unset, .unset, .unset, .unset, .unset] [(.int p3)])) rfl (by rw [hml]; rfl) (argsL := [(.int p3)]) (rest := []) (lenOf pd__I_C rfl) rfl (by show 2 * 0 + _ ≤ _; exact Nat.le_of_eq rfl) (hb hby at_118) (fun _ _ => ⟨rfl, e0, (by decide : 0 + 0 ≤ _), (by decide : 0 + 0 ≤ _)⟩)
    dsimp only [Pt.U, Pt.locs, Pt.cells, Pt.slots] at X41 l41 y41 z41 st41 hQ41
    subst l41 y41 z41
    obtain ⟨c41, rfl, N41q, e41, al41⟩ := hQ41
    have N41 := Fr.app N0 N41q
    refine ⟨c41, T41, _, Or.inl ⟨hz, al41⟩, X41, N41, e41, fun target kt => ?_⟩
    show Steps p.tables e below (T0.setTop (mkF m 107 #[.val (.int p1), .val (.int p2), .val (.int p3), .val (.int p4), .val (.int p5), .val (.int p6), .val (.int n), .val (.int h1), .val (.int h2), .val (.int h3), .val (.int c0), .val (.int c1), .unset, .unset, .unset, .unset, .unset, .unset, .unset, .unset, .unset, .unset] [])) _
    refine XS.iload X0.here hx rfl (hb hby at_107) rfl ?_
    show Steps p.tables e below (T0.setTop (mkF m 109 #[.val (.int p1), .val (.int p2), .val (.int p3), .val (.int p4), .val (.int p5), .val (.int p6), .val (.int n), .val (.int h1), .val (.int h2), .val (.int h3), .val (.int c0), .val (.int c1), .unset, .unset, .unset, .unset, .unset, .unset, .unset, .unset, .unset, .unset] [(.int h2)])) _
    refine XS.ifYes X0.here hx rfl (pc0 := 109) (pc' := 117) rfl (hb hby at_109) rfl ((if0 _ _).trans (teq (hz : h2 = (0 : Int32))).1) (by decide) (by decide) ?_
    show Steps p.tables e below (T0.setTop (mkF m 117 #[.val (.int p1), .val (.int p2), .val (.int p3), .val (.int p4), .val (.int p5), .val (.int p6), .val (.int n), .val (.int h1), .val (.int h2), .val (.int h3), .val (.int c0), .val (.int c1), .unset, .unset, .unset, .unset, .unset, .unset, .unset, .unset, .unset, .unset] [])) _
    refine XS.iloadN X0.here hx rfl (hb hby at_117) rfl ?_
    show Steps p.tables e below (T0.setTop (mkF m 118 #[.val (.int p1), .val (.int p2), .val (.int p3), .val (.int p4), .val (.int p5), .val (.int p6), .val (.int n), .val (.int h1), .val (.int h2), .val (.int h3), .val (.int c0), .val (.int c1), .unset, .unset, .unset, .unset, .unset, .unset, .unset, .unset, .unset, .unset] [(.int p3)])) _
    refine st41 _ ?_
    show Steps p.tables e below (T41.setTop (mkF m 121 #[.val (.int p1), .val (.int p2), .val (.int p3), .val (.int p4), .val (.int p5), .val (.int p6), .val (.int n), .val (.int h1), .val (.int h2), .val (.int h3), .val (.int c0), .val (.int c1), .unset, .unset, .unset, .unset, .unset, .unset, .unset, .unset, .unset, .unset] [(.int c41)])) _
    refine XS.istore X41.here hx rfl (hb hby at_121) rfl (l' := #[.val (.int p1), .val (.int p2), .val (.int p3), .val (.int p4), .val (.int p5), .val (.int p6), .val (.int n), .val (.int h1), .val (.int h2), .val (.int h3), .val (.int c0), .val (.int c1), .val (.int c41), .unset, .unset, .unset, .unset, .unset, .unset, .unset, .unset, .unset]) rfl ?_
    exact kt
  · refine ⟨(45 : Int32), T0, _, Or.inr ⟨hz, rfl⟩, X0, N0, e0, fun target kt => ?_⟩
    show Steps p.tables e below (T0.setTop (mkF m 107 #[.val (.int p1), .val (.int p2), .val (.int p3), .val (.int p4), .val (.int p5), .val (.int p6), .val (.int n), .val (.int h1), .val (.int h2), .val (.int h3), .val (.int c0), .val (.int c1), .unset, .unset, .unset, .unset, .unset, .unset, .unset, .unset, .unset, .unset] [])) _
    refine XS.iload X0.here hx rfl (hb hby at_107) rfl ?_
    show Steps p.tables e below (T0.setTop (mkF m 109 #[.val (.int p1), .val (.int p2), .val (.int p3), .val (.int p4), .val (.int p5), .val (.int p6), .val (.int n), .val (.int h1), .val (.int h2), .val (.int h3), .val (.int c0), .val (.int c1), .unset, .unset, .unset, .unset, .unset, .unset, .unset, .unset, .unset, .unset] [(.int h2)])) _
    refine XS.ifNo X0.here hx rfl (hb hby at_109) rfl ((if0 _ _).trans (feq (hz : ¬ (h2 = (0 : Int32)))).1) ?_
    show Steps p.tables e below (T0.setTop (mkF m 112 #[.val (.int p1), .val (.int p2), .val (.int p3), .val (.int p4), .val (.int p5), .val (.int p6), .val (.int n), .val (.int h1), .val (.int h2), .val (.int h3), .val (.int c0), .val (.int c1), .unset, .unset, .unset, .unset, .unset, .unset, .unset, .unset, .unset, .unset] [])) _
    refine XS.bipush X0.here hx rfl (hb hby at_112) ?_
    show Steps p.tables e below (T0.setTop (mkF m 114 #[.val (.int p1), .val (.int p2), .val (.int p3), .val (.int p4), .val (.int p5), .val (.int p6), .val (.int n), .val (.int h1), .val (.int h2), .val (.int h3), .val (.int c0), .val (.int c1), .unset, .unset, .unset, .unset, .unset, .unset, .unset, .unset, .unset, .unset] [(.int (45 : Int32))])) _
    refine XS.goto X0.here hx rfl (pc0 := 114) (pc' := 121) rfl (hb hby at_114) (by decide) (by decide) ?_
    show Steps p.tables e below (T0.setTop (mkF m 121 #[.val (.int p1), .val (.int p2), .val (.int p3), .val (.int p4), .val (.int p5), .val (.int p6), .val (.int n), .val (.int h1), .val (.int h2), .val (.int h3), .val (.int c0), .val (.int c1), .unset, .unset, .unset, .unset, .unset, .unset, .unset, .unset, .unset, .unset] [(.int (45 : Int32))])) _
    refine XS.istore X0.here hx rfl (hb hby at_121) rfl (l' := #[.val (.int p1), .val (.int p2), .val (.int p3), .val (.int p4), .val (.int p5), .val (.int p6), .val (.int n), .val (.int h1), .val (.int h2), .val (.int h3), .val (.int c0), .val (.int c1), .val (.int (45 : Int32)), .unset, .unset, .unset, .unset, .unset, .unset, .unset, .unset, .unset]) rfl ?_
    exact kt
set_option maxRecDepth 65536 in
set_option maxHeartbeats 40000000 in
theorem sgG {p : Program} {l : Launch} {e : Env} {s : State} {m : MethodId} {args : Array Value} {below : List Frame} {meth : Method} {c : Code} {T0 : State} {locs : List Loc} {Z : State} {a0 : Array Value} {h0 : Heap} {n0 : Nat} (p1 p2 p3 p4 p5 p6 : Int32) (n h1 h2 h3 : Int32) (c0 c1 c2 : Int32)
    (X0 : Stand p l e room_1 s m args below meth c T0 locs 0 0) (hx : p.tables.exec = Jvm.exec) (hZ : Z.Warmed39 s.vm) (hw : ∀ d ∈ tables_1, d.before a0 Z = true) (hby : c.code = code) (hml : c.maxLocals = 22) (hown : s.vm.findClass "com/example/nimble_queue/nimblequeue/core/QueueNameOfPinLaw" = some m.cls) (e0 : T0.heap = h0) (N0 : Fr n0 locs) (O0 : Old Z n0 h0) :
    ∃ (c3 : Int32) (T' : State) (locs' : List Loc), ((h3 = 0 ∧ own_al c3) ∨ (¬ (h3 = 0) ∧ c3 = (45 : Int32))) ∧ Stand p l e room_1 s m args below meth c T' locs' 0 0 ∧ Fr n0 locs' ∧ T'.heap = h0 ∧ ∀ target, Steps p.tables e below (T'.setTop (mkF m 139 #[.val (.int p1), .val (.int p2), .val (.int p3), .val (.int p4), .val (.int p5), .val (.int p6), .val (.int n), .val (.int h1), .val (.int h2), .val (.int h3), .val (.int c0), .val (.int c1), .val (.int c2), .val (.int c3), .unset, .unset, .unset, .unset, .unset, .unset, .unset, .unset] [])) target → Steps p.tables e below (T0.setTop (mkF m 123 #[.val (.int p1), .val (.int p2), .val (.int p3), .val (.int p4), .val (.int p5), .val (.int p6), .val (.int n), .val (.int h1), .val (.int h2), .val (.int h3), .val (.int c0), .val (.int c1), .val (.int c2), .unset, .unset, .unset, .unset, .unset, .unset, .unset, .unset, .unset] [])) target := by
  have Z0 : n0 ≤ h0.size := O0.1 ▸ O0.2.1
  have K0 : Keep h0 h0 [] := Keep.refl _ _
  by_cases hz : h3 = (0 : Int32)
  · obtain ⟨_, _, ⟨T42, L42, k42, n42⟩, -, X42, ⟨Lc42, hQ42, l42, y42, z42⟩, st42⟩ := Jvm.LawKit.callS X0 hx (y := (⟨"com/example/nimble_queue/nimblequeue/core/QueueNameOfPinLaw", "alnum", "(I)C"⟩ : MethodName)) hown (mvT hZ (hw _ (List.mem_of_getElem? (i := 0) rfl))) (mvT hZ (hw _ (List.mem_of_getElem? (i := 1) rfl))) (mvT hZ (hw _ (List.mem_of_getElem? (i := 2) rfl))) (mvT hZ (hw _ (List.mem_of_getElem? (i := 3) rfl))) (by decide) (backOf (W := 0) (rmAl l Z a0 hw [] p4 h0 n0 O0) hZ (hw _ (List.mem_of_getElem? (i := 3) rfl)) (hw _ (List.mem_of_getElem? (i := 2) rfl)) (by decide) (by decide)) (g := (mkF m 134 #[.val (.int p1), .val (.int p2), .val (.int p3), .val (.int p4), .val (.int p5), .val (.int p6), .val (.int n), .val (.int h1), .val (.int h2), .val (.int h3), .val (.int c0), .val (.int c1), .val (.int c2), .unset, .unset, .unset, .unset, .unset, .unset, .unset, .unset, .unset] [(.int p4)])) rfl (by rw [hml]; rfl) (argsL := [(.int p4)]) (rest := []) (lenOf pd__I_C rfl) rfl (by show 2 * 0 + _ ≤ _; exact Nat.le_of_eq rfl) (hb hby at_134) (fun _ _ => ⟨rfl, e0, (by decide : 0 + 0 ≤ _), (by decide : 0 + 0 ≤ _)⟩)
    dsimp only [Pt.U, Pt.locs, Pt.cells, Pt.slots] at X42 l42 y42 z42 st42 hQ42
    subst l42 y42 z42
    obtain ⟨c42, rfl, N42q, e42, al42⟩ := hQ42
    have N42 := Fr.app N0 N42q
    refine ⟨c42, T42, _, Or.inl ⟨hz, al42⟩, X42, N42, e42, fun target kt => ?_⟩
    show Steps p.tables e below (T0.setTop (mkF m 123 #[.val (.int p1), .val (.int p2), .val (.int p3), .val (.int p4), .val (.int p5), .val (.int p6), .val (.int n), .val (.int h1), .val (.int h2), .val (.int h3), .val (.int c0), .val (.int c1), .val (.int c2), .unset, .unset, .unset, .unset, .unset, .unset, .unset, .unset, .unset] [])) _
    refine XS.iload X0.here hx rfl (hb hby at_123) rfl ?_
    show Steps p.tables e below (T0.setTop (mkF m 125 #[.val (.int p1), .val (.int p2), .val (.int p3), .val (.int p4), .val (.int p5), .val (.int p6), .val (.int n), .val (.int h1), .val (.int h2), .val (.int h3), .val (.int c0), .val (.int c1), .val (.int c2), .unset, .unset, .unset, .unset, .unset, .unset, .unset, .unset, .unset] [(.int h3)])) _
    refine XS.ifYes X0.here hx rfl (pc0 := 125) (pc' := 133) rfl (hb hby at_125) rfl ((if0 _ _).trans (teq (hz : h3 = (0 : Int32))).1) (by decide) (by decide) ?_
    show Steps p.tables e below (T0.setTop (mkF m 133 #[.val (.int p1), .val (.int p2), .val (.int p3), .val (.int p4), .val (.int p5), .val (.int p6), .val (.int n), .val (.int h1), .val (.int h2), .val (.int h3), .val (.int c0), .val (.int c1), .val (.int c2), .unset, .unset, .unset, .unset, .unset, .unset, .unset, .unset, .unset] [])) _
    refine XS.iloadN X0.here hx rfl (hb hby at_133) rfl ?_
    show Steps p.tables e below (T0.setTop (mkF m 134 #[.val (.int p1), .val (.int p2), .val (.int p3), .val (.int p4), .val (.int p5), .val (.int p6), .val (.int n), .val (.int h1), .val (.int h2), .val (.int h3), .val (.int c0), .val (.int c1), .val (.int c2), .unset, .unset, .unset, .unset, .unset, .unset, .unset, .unset, .unset] [(.int p4)])) _
    refine st42 _ ?_
    show Steps p.tables e below (T42.setTop (mkF m 137 #[.val (.int p1), .val (.int p2), .val (.int p3), .val (.int p4), .val (.int p5), .val (.int p6), .val (.int n), .val (.int h1), .val (.int h2), .val (.int h3), .val (.int c0), .val (.int c1), .val (.int c2), .unset, .unset, .unset, .unset, .unset, .unset, .unset, .unset, .unset] [(.int c42)])) _
    refine XS.istore X42.here hx rfl (hb hby at_137) rfl (l' := #[.val (.int p1), .val (.int p2), .val (.int p3), .val (.int p4), .val (.int p5), .val (.int p6), .val (.int n), .val (.int h1), .val (.int h2), .val (.int h3), .val (.int c0), .val (.int c1), .val (.int c2), .val (.int c42), .unset, .unset, .unset, .unset, .unset, .unset, .unset, .unset]) rfl ?_
    exact kt
  · refine ⟨(45 : Int32), T0, _, Or.inr ⟨hz, rfl⟩, X0, N0, e0, fun target kt => ?_⟩
    show Steps p.tables e below (T0.setTop (mkF m 123 #[.val (.int p1), .val (.int p2), .val (.int p3), .val (.int p4), .val (.int p5), .val (.int p6), .val (.int n), .val (.int h1), .val (.int h2), .val (.int h3), .val (.int c0), .val (.int c1), .val (.int c2), .unset, .unset, .unset, .unset, .unset, .unset, .unset, .unset, .unset] [])) _
    refine XS.iload X0.here hx rfl (hb hby at_123) rfl ?_
    show Steps p.tables e below (T0.setTop (mkF m 125 #[.val (.int p1), .val (.int p2), .val (.int p3), .val (.int p4), .val (.int p5), .val (.int p6), .val (.int n), .val (.int h1), .val (.int h2), .val (.int h3), .val (.int c0), .val (.int c1), .val (.int c2), .unset, .unset, .unset, .unset, .unset, .unset, .unset, .unset, .unset] [(.int h3)])) _
    refine XS.ifNo X0.here hx rfl (hb hby at_125) rfl ((if0 _ _).trans (feq (hz : ¬ (h3 = (0 : Int32)))).1) ?_
    show Steps p.tables e below (T0.setTop (mkF m 128 #[.val (.int p1), .val (.int p2), .val (.int p3), .val (.int p4), .val (.int p5), .val (.int p6), .val (.int n), .val (.int h1), .val (.int h2), .val (.int h3), .val (.int c0), .val (.int c1), .val (.int c2), .unset, .unset, .unset, .unset, .unset, .unset, .unset, .unset, .unset] [])) _
    refine XS.bipush X0.here hx rfl (hb hby at_128) ?_
    show Steps p.tables e below (T0.setTop (mkF m 130 #[.val (.int p1), .val (.int p2), .val (.int p3), .val (.int p4), .val (.int p5), .val (.int p6), .val (.int n), .val (.int h1), .val (.int h2), .val (.int h3), .val (.int c0), .val (.int c1), .val (.int c2), .unset, .unset, .unset, .unset, .unset, .unset, .unset, .unset, .unset] [(.int (45 : Int32))])) _
    refine XS.goto X0.here hx rfl (pc0 := 130) (pc' := 137) rfl (hb hby at_130) (by decide) (by decide) ?_
    show Steps p.tables e below (T0.setTop (mkF m 137 #[.val (.int p1), .val (.int p2), .val (.int p3), .val (.int p4), .val (.int p5), .val (.int p6), .val (.int n), .val (.int h1), .val (.int h2), .val (.int h3), .val (.int c0), .val (.int c1), .val (.int c2), .unset, .unset, .unset, .unset, .unset, .unset, .unset, .unset, .unset] [(.int (45 : Int32))])) _
    refine XS.istore X0.here hx rfl (hb hby at_137) rfl (l' := #[.val (.int p1), .val (.int p2), .val (.int p3), .val (.int p4), .val (.int p5), .val (.int p6), .val (.int n), .val (.int h1), .val (.int h2), .val (.int h3), .val (.int c0), .val (.int c1), .val (.int c2), .val (.int (45 : Int32)), .unset, .unset, .unset, .unset, .unset, .unset, .unset, .unset]) rfl ?_
    exact kt
set_option maxRecDepth 65536 in
set_option maxHeartbeats 40000000 in
theorem sgH {p : Program} {l : Launch} {e : Env} {s : State} {m : MethodId} {args : Array Value} {below : List Frame} {meth : Method} {c : Code} {T0 : State} {locs : List Loc} {Z : State} {a0 : Array Value} {h0 : Heap} {n0 : Nat} (p1 p2 p3 p4 p5 p6 : Int32) (n h1 h2 h3 : Int32) (c0 c1 c2 c3 : Int32)
    (X0 : Stand p l e room_1 s m args below meth c T0 locs 0 0) (hx : p.tables.exec = Jvm.exec) (hZ : Z.Warmed39 s.vm) (hw : ∀ d ∈ tables_1, d.before a0 Z = true) (hby : c.code = code) (hml : c.maxLocals = 22) (hown : s.vm.findClass "com/example/nimble_queue/nimblequeue/core/QueueNameOfPinLaw" = some m.cls) (e0 : T0.heap = h0) (N0 : Fr n0 locs) (O0 : Old Z n0 h0) :
    ∃ (c4 : Int32) (T' : State) (locs' : List Loc), (own_al c4) ∧ Stand p l e room_1 s m args below meth c T' locs' 0 0 ∧ Fr n0 locs' ∧ T'.heap = h0 ∧ ∀ target, Steps p.tables e below (T'.setTop (mkF m 146 #[.val (.int p1), .val (.int p2), .val (.int p3), .val (.int p4), .val (.int p5), .val (.int p6), .val (.int n), .val (.int h1), .val (.int h2), .val (.int h3), .val (.int c0), .val (.int c1), .val (.int c2), .val (.int c3), .val (.int c4), .unset, .unset, .unset, .unset, .unset, .unset, .unset] [])) target → Steps p.tables e below (T0.setTop (mkF m 139 #[.val (.int p1), .val (.int p2), .val (.int p3), .val (.int p4), .val (.int p5), .val (.int p6), .val (.int n), .val (.int h1), .val (.int h2), .val (.int h3), .val (.int c0), .val (.int c1), .val (.int c2), .val (.int c3), .unset, .unset, .unset, .unset, .unset, .unset, .unset, .unset] [])) target := by
  have Z0 : n0 ≤ h0.size := O0.1 ▸ O0.2.1
  have K0 : Keep h0 h0 [] := Keep.refl _ _
  · obtain ⟨_, _, ⟨T43, L43, k43, n43⟩, -, X43, ⟨Lc43, hQ43, l43, y43, z43⟩, st43⟩ := Jvm.LawKit.callS X0 hx (y := (⟨"com/example/nimble_queue/nimblequeue/core/QueueNameOfPinLaw", "alnum", "(I)C"⟩ : MethodName)) hown (mvT hZ (hw _ (List.mem_of_getElem? (i := 0) rfl))) (mvT hZ (hw _ (List.mem_of_getElem? (i := 1) rfl))) (mvT hZ (hw _ (List.mem_of_getElem? (i := 2) rfl))) (mvT hZ (hw _ (List.mem_of_getElem? (i := 3) rfl))) (by decide) (backOf (W := 0) (rmAl l Z a0 hw [] p5 h0 n0 O0) hZ (hw _ (List.mem_of_getElem? (i := 3) rfl)) (hw _ (List.mem_of_getElem? (i := 2) rfl)) (by decide) (by decide)) (g := (mkF m 141 #[.val (.int p1), .val (.int p2), .val (.int p3), .val (.int p4), .val (.int p5), .val (.int p6), .val (.int n), .val (.int h1), .val (.int h2), .val (.int h3), .val (.int c0), .val (.int c1), .val (.int c2), .val (.int c3), .unset, .unset, .unset, .unset, .unset, .unset, .unset, .unset] [(.int p5)])) rfl (by rw [hml]; rfl) (argsL := [(.int p5)]) (rest := []) (lenOf pd__I_C rfl) rfl (by show 2 * 0 + _ ≤ _; exact Nat.le_of_eq rfl) (hb hby at_141) (fun _ _ => ⟨rfl, e0, (by decide : 0 + 0 ≤ _), (by decide : 0 + 0 ≤ _)⟩)
    dsimp only [Pt.U, Pt.locs, Pt.cells, Pt.slots] at X43 l43 y43 z43 st43 hQ43
    subst l43 y43 z43
    obtain ⟨c43, rfl, N43q, e43, al43⟩ := hQ43
    have N43 := Fr.app N0 N43q
    refine ⟨c43, T43, _, al43, X43, N43, e43, fun target kt => ?_⟩
    show Steps p.tables e below (T0.setTop (mkF m 139 #[.val (.int p1), .val (.int p2), .val (.int p3), .val (.int p4), .val (.int p5), .val (.int p6), .val (.int n), .val (.int h1), .val (.int h2), .val (.int h3), .val (.int c0), .val (.int c1), .val (.int c2), .val (.int c3), .unset, .unset, .unset, .unset, .unset, .unset, .unset, .unset] [])) _
    refine XS.iload X0.here hx rfl (hb hby at_139) rfl ?_
    show Steps p.tables e below (T0.setTop (mkF m 141 #[.val (.int p1), .val (.int p2), .val (.int p3), .val (.int p4), .val (.int p5), .val (.int p6), .val (.int n), .val (.int h1), .val (.int h2), .val (.int h3), .val (.int c0), .val (.int c1), .val (.int c2), .val (.int c3), .unset, .unset, .unset, .unset, .unset, .unset, .unset, .unset] [(.int p5)])) _
    refine st43 _ ?_
    show Steps p.tables e below (T43.setTop (mkF m 144 #[.val (.int p1), .val (.int p2), .val (.int p3), .val (.int p4), .val (.int p5), .val (.int p6), .val (.int n), .val (.int h1), .val (.int h2), .val (.int h3), .val (.int c0), .val (.int c1), .val (.int c2), .val (.int c3), .unset, .unset, .unset, .unset, .unset, .unset, .unset, .unset] [(.int c43)])) _
    refine XS.istore X43.here hx rfl (hb hby at_144) rfl (l' := #[.val (.int p1), .val (.int p2), .val (.int p3), .val (.int p4), .val (.int p5), .val (.int p6), .val (.int n), .val (.int h1), .val (.int h2), .val (.int h3), .val (.int c0), .val (.int c1), .val (.int c2), .val (.int c3), .val (.int c43), .unset, .unset, .unset, .unset, .unset, .unset, .unset]) rfl ?_
    exact kt
def own_ch (c : Int32) : Prop := own_al c ∨ c = (45 : Int32)
theorem own_ch_255 {c : Int32} (h : own_ch c) : ¬ c < 0 ∧ ¬ (255 : Int32) < c := by
  rcases h with h | rfl
  · exact own_al_255 h
  · decide
theorem own_ch_nar {c : Int32} (h : own_ch c) : nar .char c = c := by
  rcases h with h | rfl
  · exact own_al_nar h
  · rfl
theorem own_fitc {c : Int32} (h : nar .char c = c) : fits .char (.int c) = true := by rw [← h]; exact fits_nar_char _
theorem own_ok3 {c0 c1 c2 : Int32} (a0 : own_al c0) (a1 : own_ch c1) (a2 : own_al c2) : own_ok [c0, c1, c2] := by
  intro i hi
  match i, hi with
  | 0, _ => exact Or.inl a0
  | 1, _ => exact a1.imp id fun q => ⟨q, by decide, Nat.le_of_ble_eq_true rfl, own_al_45 a0⟩
  | 2, _ => exact Or.inl a2
theorem own_ok4 {c0 c1 c2 c3 : Int32} (a0 : own_al c0) (a1 : own_ch c1) (a2 : own_al c2 ∨ (c2 = 45 ∧ ¬ c1 = 45)) (a3 : own_al c3) : own_ok [c0, c1, c2, c3] := by
  intro i hi
  match i, hi with
  | 0, _ => exact Or.inl a0
  | 1, _ => exact a1.imp id fun q => ⟨q, by decide, Nat.le_of_ble_eq_true rfl, own_al_45 a0⟩
  | 2, _ => exact a2.imp id fun q => ⟨q.1, by decide, Nat.le_of_ble_eq_true rfl, q.2⟩
  | 3, _ => exact Or.inl a3
theorem own_ok5 {c0 c1 c2 c3 c4 : Int32} (a0 : own_al c0) (a1 : own_ch c1) (a2 : own_al c2 ∨ (c2 = 45 ∧ ¬ c1 = 45)) (a3 : own_al c3 ∨ (c3 = 45 ∧ ¬ c2 = 45)) (a4 : own_al c4) : own_ok [c0, c1, c2, c3, c4] := by
  intro i hi
  match i, hi with
  | 0, _ => exact Or.inl a0
  | 1, _ => exact a1.imp id fun q => ⟨q, by decide, Nat.le_of_ble_eq_true rfl, own_al_45 a0⟩
  | 2, _ => exact a2.imp id fun q => ⟨q.1, by decide, Nat.le_of_ble_eq_true rfl, q.2⟩
  | 3, _ => exact a3.imp id fun q => ⟨q.1, by decide, Nat.le_of_ble_eq_true rfl, q.2⟩
  | 4, _ => exact Or.inl a4
def Qlaw (Z : State)  (h0 : Heap) (n0 : Nat) (v : Option Value) (h : Heap) (L : List Loc) : Prop := v = some (.int 1) ∧ Fr n0 L
theorem pd___C_V : parseMethodDescriptor "([C)V" = some ⟨[(.array .char)], none⟩ := by decide +kernel
theorem pd__Ljava_lang_String__Lcom_example_nimble_queue_nimblequeue_core_QueueName_ : parseMethodDescriptor "(Ljava/lang/String;)Lcom/example/nimble_queue/nimblequeue/core/QueueName;" = some ⟨[(.object "java/lang/String")], some (.object "com/example/nimble_queue/nimblequeue/core/QueueName")⟩ := by decide +kernel
theorem pd___Ljava_lang_String_ : parseMethodDescriptor "()Ljava/lang/String;" = some ⟨[], some (.object "java/lang/String")⟩ := by decide +kernel
set_option maxRecDepth 65536 in
set_option maxHeartbeats 40000000 in
theorem rest3 {p : Program} {l : Launch} {e : Env} {s : State} {m : MethodId} {args : Array Value} {below : List Frame} {meth : Method} {c : Code} {T0 : State} {locs : List Loc} {Z : State} {a0 : Array Value} {h0 : Heap} {n0 : Nat} (p1 p2 p3 p4 p5 p6 n h1 h2 h3 c0 c1 c2 c3 c4 GC : Int32) (fm : Value)
    (X0 : Stand p l e room_1 (s.setVm s.vm) m args below meth c T0 locs 0 0) (hx : p.tables.exec = Jvm.exec) (hZ : Z.Warmed39 s.vm) (hw : ∀ d ∈ tables_1, d.before a0 Z = true) (hby : c.code = code) (hml : c.maxLocals = 22) (hown : s.vm.findClass "com/example/nimble_queue/nimblequeue/core/QueueNameOfPinLaw" = some m.cls) (hret : meth.sig.returnType = some .boolean) (hlk : meth.locks = false) (e0 : T0.heap = h0) (N0 : Fr n0 locs) (O0 : Old Z n0 h0) (wS : ∀ a ∈ Bundle.stringAtoms, a.before a0 Z = true) (OC2 : Sta Z Z.heap "java/lang/String" "COMPACT_STRINGS" "Z" (.int GC)) (OCz : ¬ (GC = (0 : Int32))) (OF4 : Sta Z Z.heap "jdk/internal/util/Preconditions" "SIOOBE_FORMATTER" "Ljava/util/function/BiFunction;" fm) (OFr : fm.isRef = true) (hna0 : nar .char c0 = c0) (hr0 : ¬ c0 < 0 ∧ ¬ (255 : Int32) < c0) (hna1 : nar .char c1 = c1) (hr1 : ¬ c1 < 0 ∧ ¬ (255 : Int32) < c1) (hna2 : nar .char c2 = c2) (hr2 : ¬ c2 < 0 ∧ ¬ (255 : Int32) < c2) (hna3 : nar .char c3 = c3) (hr3 : ¬ c3 < 0 ∧ ¬ (255 : Int32) < c3) (hna4 : nar .char c4 = c4) (hr4 : ¬ c4 < 0 ∧ ¬ (255 : Int32) < c4) (hok : own_ok [c0, c1, c2]) (hn : n = (3 : Int32)) :
    ∃ (U' : State) (L : List Loc), Steps p.tables e below (T0.setTop (mkF m 146 #[.val (.int p1), .val (.int p2), .val (.int p3), .val (.int p4), .val (.int p5), .val (.int p6), .val (.int n), .val (.int h1), .val (.int h2), .val (.int h3), .val (.int c0), .val (.int c1), .val (.int c2), .val (.int c3), .val (.int c4), .unset, .unset, .unset, .unset, .unset, .unset, .unset] [])) U' ∧ U'.status = .running ∧ Ended U' below (.returned (some (.int 1))) ∧ Fr n0 L ∧ ReturnedEndW s (.returned (some (.int 1))) U' L room_1.cells room_1.slots := by
  have Z0 : n0 ≤ h0.size := O0.1 ▸ O0.2.1
  have K0 : Keep h0 h0 [] := Keep.refl _ _
  have hS0 : s.Since s.vm h0.size := (State.WarmedH.refl s).since _
  have hk0 : h0.size ≤ h0.size := Nat.le_refl _
  have hp : ∀ c ∈ ([c0, c1, c2] : List Int32), ¬ c < 0 ∧ ¬ (255 : Int32) < c := by
    intro c hc
    simp only [List.mem_cons, List.not_mem_nil, or_false] at hc
    rcases hc with rfl | rfl | rfl
    · exact hr0
    · exact hr1
    · exact hr2
  have hcd : StrChars.Road.CodA ([c0, c1, c2] : List Int32) 0 (3 : Int32) (((([c0, c1, c2] : List Int32)).map (fun c => c.toInt8.toInt32)).map Value.int) := StrChars.Road.codOf (n := 3) rfl (fun c hc => (hp c hc).2)
  have hbd : ∀ c ∈ ([c0, c1, c2] : List Int32), ¬ c < 0 ∧ ¬ (65535 : Int32) < c := up _ hp
  obtain ⟨T44, h44, k44, X44, e44, E44, A44, st44⟩ := newP X0 hx hZ (hw _ (List.mem_of_getElem? (i := 5) rfl)) e0 (g := (mkF m 147 #[.val (.int p1), .val (.int p2), .val (.int p3), .val (.int p4), .val (.int p5), .val (.int p6), .val (.int n), .val (.int h1), .val (.int h2), .val (.int h3), .val (.int c0), .val (.int c1), .val (.int c2), .val (.int c3), .val (.int c4), .unset, .unset, .unset, .unset, .unset, .unset, .unset] [(.int (3 : Int32))])) rfl (hb hby at_147) rfl (by decide : ¬ ((3 : Int32) < (0 : Int32))) (cap := 3) (by decide : (3 : Int32).toNatClampNeg ≤ 3) (by decide) (by decide) (by decide)
  obtain ⟨b44, g44⟩ : ∃ z, z = h0.size := ⟨_, rfl⟩
  rw [← g44] at A44 st44
  have geb44 : h0.size ≤ b44 := Nat.le_of_eq g44.symm
  have g_b44 : n0 ≤ b44 := Nat.le_trans Z0 geb44
  have sz_b44 : h0.size ≤ b44 := Nat.le_trans K0.1 geb44
  have O45 : Old Z n0 h44 := O0.ext E44
  have Z45 : n0 ≤ h44.size := Nat.le_trans Z0 E44.1
  have K45 : Keep h0 h44 [] := K0.ext E44
  have hk45 : h0.size ≤ h44.size := Nat.le_trans hk0 E44.1
  have f46 : Arv Z h44 b44 k44 .char (3 : Int32) [(.int (0 : Int32)), (.int (0 : Int32)), (.int (0 : Int32))] (.int (0 : Int32)) := (Arv.new A44 (by decide : ¬ ((3 : Int32) < (0 : Int32)))).pad (pad_rep [] (.int (0 : Int32)) 3)
  obtain ⟨c47, Ar47, q47, S47, M47, Hh47, U47⟩ := id f46
  obtain ⟨T47, h47, X47, e47, W47, st47⟩ := stC X44 hx hZ e44 Ar47 (j := (0 : Int32)) (inb_of S47 ⟨(by decide : ¬ ((0 : Int32) < (0 : Int32))), (by decide : (0 : Int32) < (3 : Int32))⟩) (g := (mkF m 153 #[.val (.int p1), .val (.int p2), .val (.int p3), .val (.int p4), .val (.int p5), .val (.int p6), .val (.int n), .val (.int h1), .val (.int h2), .val (.int h3), .val (.int c0), .val (.int c1), .val (.int c2), .val (.int c3), .val (.int c4), .unset, .unset, .unset, .unset, .unset, .unset, .unset] [(.int c0), (.int (0 : Int32)), (.ref b44), (.ref b44)])) rfl rfl (hb hby at_153)
  rw [hna0] at W47
  have f48 : Arv Z h47 b44 k44 .char (3 : Int32) [(.int c0), (.int (0 : Int32)), (.int (0 : Int32))] (.int (0 : Int32)) := Arv.set Ar47 q47 S47 M47 Hh47 U47 (own_fitc hna0) W47 0 rfl (Nat.le_of_ble_eq_true rfl)
  have N47 := Fr.snoc X47 N0 g_b44
  have O49 : Old Z n0 h47 := O45.wr W47 g_b44
  have Z49 : n0 ≤ h47.size := Nat.le_trans Z45 (Keep.of_wr W47).1
  have K49 : Keep h0 h47 [] := K45.wr W47 (Or.inr sz_b44)
  have hk49 : h0.size ≤ h47.size := Nat.le_trans hk45 (Keep.of_wr W47).1
  obtain ⟨c50, Ar50, q50, S50, M50, Hh50, U50⟩ := id f48
  obtain ⟨T50, h50, X50, e50, W50, st50⟩ := stC X47 hx hZ e47 Ar50 (j := (1 : Int32)) (inb_of S50 ⟨(by decide : ¬ ((1 : Int32) < (0 : Int32))), (by decide : (1 : Int32) < (3 : Int32))⟩) (g := (mkF m 158 #[.val (.int p1), .val (.int p2), .val (.int p3), .val (.int p4), .val (.int p5), .val (.int p6), .val (.int n), .val (.int h1), .val (.int h2), .val (.int h3), .val (.int c0), .val (.int c1), .val (.int c2), .val (.int c3), .val (.int c4), .unset, .unset, .unset, .unset, .unset, .unset, .unset] [(.int c1), (.int (1 : Int32)), (.ref b44), (.ref b44)])) rfl rfl (hb hby at_158)
  rw [hna1] at W50
  have f51 : Arv Z h50 b44 k44 .char (3 : Int32) [(.int c0), (.int c1), (.int (0 : Int32))] (.int (0 : Int32)) := Arv.set Ar50 q50 S50 M50 Hh50 U50 (own_fitc hna1) W50 1 rfl (Nat.le_of_ble_eq_true rfl)
  have N50 := Fr.snoc X50 N47 g_b44
  have O52 : Old Z n0 h50 := O49.wr W50 g_b44
  have Z52 : n0 ≤ h50.size := Nat.le_trans Z49 (Keep.of_wr W50).1
  have K52 : Keep h0 h50 [] := K49.wr W50 (Or.inr sz_b44)
  have hk52 : h0.size ≤ h50.size := Nat.le_trans hk49 (Keep.of_wr W50).1
  obtain ⟨c53, Ar53, q53, S53, M53, Hh53, U53⟩ := id f51
  obtain ⟨T53, h53, X53, e53, W53, st53⟩ := stC X50 hx hZ e50 Ar53 (j := (2 : Int32)) (inb_of S53 ⟨(by decide : ¬ ((2 : Int32) < (0 : Int32))), (by decide : (2 : Int32) < (3 : Int32))⟩) (g := (mkF m 163 #[.val (.int p1), .val (.int p2), .val (.int p3), .val (.int p4), .val (.int p5), .val (.int p6), .val (.int n), .val (.int h1), .val (.int h2), .val (.int h3), .val (.int c0), .val (.int c1), .val (.int c2), .val (.int c3), .val (.int c4), .unset, .unset, .unset, .unset, .unset, .unset, .unset] [(.int c2), (.int (2 : Int32)), (.ref b44), (.ref b44)])) rfl rfl (hb hby at_163)
  rw [hna2] at W53
  have f54 : Arv Z h53 b44 k44 .char (3 : Int32) [(.int c0), (.int c1), (.int c2)] (.int (0 : Int32)) := Arv.set Ar53 q53 S53 M53 Hh53 U53 (own_fitc hna2) W53 2 rfl (Nat.le_of_ble_eq_true rfl)
  have N53 := Fr.snoc X53 N50 g_b44
  have O55 : Old Z n0 h53 := O52.wr W53 g_b44
  have Z55 : n0 ≤ h53.size := Nat.le_trans Z52 (Keep.of_wr W53).1
  have K55 : Keep h0 h53 [] := K52.wr W53 (Or.inr sz_b44)
  have hk55 : h0.size ≤ h53.size := Nat.le_trans hk52 (Keep.of_wr W53).1
  obtain ⟨T56, h56, k56, X56, e56, E56, A56, st56⟩ := newP X53 hx hZ (hw _ (List.mem_of_getElem? (i := 5) rfl)) e53 (g := (mkF m 167 #[.val (.int p1), .val (.int p2), .val (.int p3), .val (.int p4), .val (.int p5), .val (.int p6), .val (.int n), .val (.int h1), .val (.int h2), .val (.int h3), .val (.int c0), .val (.int c1), .val (.int c2), .val (.int c3), .val (.int c4), .val (.ref b44), .unset, .unset, .unset, .unset, .unset, .unset] [(.int (4 : Int32))])) rfl (hb hby at_167) rfl (by decide : ¬ ((4 : Int32) < (0 : Int32))) (cap := 4) (by decide : (4 : Int32).toNatClampNeg ≤ 4) (by decide) (by decide) (by decide)
  obtain ⟨b56, g56⟩ : ∃ z, z = h53.size := ⟨_, rfl⟩
  rw [← g56] at A56 st56
  have geb56 : h53.size ≤ b56 := Nat.le_of_eq g56.symm
  have g_b56 : n0 ≤ b56 := Nat.le_trans Z55 geb56
  have sz_b56 : h0.size ≤ b56 := Nat.le_trans K55.1 geb56
  have O57 : Old Z n0 h56 := O55.ext E56
  have Z57 : n0 ≤ h56.size := Nat.le_trans Z55 E56.1
  have K57 : Keep h0 h56 [] := K55.ext E56
  have hk57 : h0.size ≤ h56.size := Nat.le_trans hk55 E56.1
  have f58 : Arv Z h56 b44 k44 .char (3 : Int32) [(.int c0), (.int c1), (.int c2)] (.int (0 : Int32)) := f54.ext E56
  have f59 : Arv Z h56 b56 k56 .char (4 : Int32) [(.int (0 : Int32)), (.int (0 : Int32)), (.int (0 : Int32)), (.int (0 : Int32))] (.int (0 : Int32)) := (Arv.new A56 (by decide : ¬ ((4 : Int32) < (0 : Int32)))).pad (pad_rep [] (.int (0 : Int32)) 4)
  obtain ⟨c60, Ar60, q60, S60, M60, Hh60, U60⟩ := id f59
  obtain ⟨T60, h60, X60, e60, W60, st60⟩ := stC X56 hx hZ e56 Ar60 (j := (0 : Int32)) (inb_of S60 ⟨(by decide : ¬ ((0 : Int32) < (0 : Int32))), (by decide : (0 : Int32) < (4 : Int32))⟩) (g := (mkF m 173 #[.val (.int p1), .val (.int p2), .val (.int p3), .val (.int p4), .val (.int p5), .val (.int p6), .val (.int n), .val (.int h1), .val (.int h2), .val (.int h3), .val (.int c0), .val (.int c1), .val (.int c2), .val (.int c3), .val (.int c4), .val (.ref b44), .unset, .unset, .unset, .unset, .unset, .unset] [(.int c0), (.int (0 : Int32)), (.ref b56), (.ref b56)])) rfl rfl (hb hby at_173)
  rw [hna0] at W60
  have f61 : Arv Z h60 b56 k56 .char (4 : Int32) [(.int c0), (.int (0 : Int32)), (.int (0 : Int32)), (.int (0 : Int32))] (.int (0 : Int32)) := Arv.set Ar60 q60 S60 M60 Hh60 U60 (own_fitc hna0) W60 0 rfl (Nat.le_of_ble_eq_true rfl)
  have N60 := Fr.snoc X60 N53 g_b56
  have O62 : Old Z n0 h60 := O57.wr W60 g_b56
  have Z62 : n0 ≤ h60.size := Nat.le_trans Z57 (Keep.of_wr W60).1
  have K62 : Keep h0 h60 [] := K57.wr W60 (Or.inr sz_b56)
  have hk62 : h0.size ≤ h60.size := Nat.le_trans hk57 (Keep.of_wr W60).1
  have f63 : Arv Z h60 b44 k44 .char (3 : Int32) [(.int c0), (.int c1), (.int c2)] (.int (0 : Int32)) := f58.other W60 (Nat.ne_of_lt (Nat.lt_of_lt_of_le f54.lt geb56))
  obtain ⟨c64, Ar64, q64, S64, M64, Hh64, U64⟩ := id f61
  obtain ⟨T64, h64, X64, e64, W64, st64⟩ := stC X60 hx hZ e60 Ar64 (j := (1 : Int32)) (inb_of S64 ⟨(by decide : ¬ ((1 : Int32) < (0 : Int32))), (by decide : (1 : Int32) < (4 : Int32))⟩) (g := (mkF m 178 #[.val (.int p1), .val (.int p2), .val (.int p3), .val (.int p4), .val (.int p5), .val (.int p6), .val (.int n), .val (.int h1), .val (.int h2), .val (.int h3), .val (.int c0), .val (.int c1), .val (.int c2), .val (.int c3), .val (.int c4), .val (.ref b44), .unset, .unset, .unset, .unset, .unset, .unset] [(.int c1), (.int (1 : Int32)), (.ref b56), (.ref b56)])) rfl rfl (hb hby at_178)
  rw [hna1] at W64
  have f65 : Arv Z h64 b56 k56 .char (4 : Int32) [(.int c0), (.int c1), (.int (0 : Int32)), (.int (0 : Int32))] (.int (0 : Int32)) := Arv.set Ar64 q64 S64 M64 Hh64 U64 (own_fitc hna1) W64 1 rfl (Nat.le_of_ble_eq_true rfl)
  have N64 := Fr.snoc X64 N60 g_b56
  have O66 : Old Z n0 h64 := O62.wr W64 g_b56
  have Z66 : n0 ≤ h64.size := Nat.le_trans Z62 (Keep.of_wr W64).1
  have K66 : Keep h0 h64 [] := K62.wr W64 (Or.inr sz_b56)
  have hk66 : h0.size ≤ h64.size := Nat.le_trans hk62 (Keep.of_wr W64).1
  have f67 : Arv Z h64 b44 k44 .char (3 : Int32) [(.int c0), (.int c1), (.int c2)] (.int (0 : Int32)) := f63.other W64 (Nat.ne_of_lt (Nat.lt_of_lt_of_le f54.lt geb56))
  obtain ⟨c68, Ar68, q68, S68, M68, Hh68, U68⟩ := id f65
  obtain ⟨T68, h68, X68, e68, W68, st68⟩ := stC X64 hx hZ e64 Ar68 (j := (2 : Int32)) (inb_of S68 ⟨(by decide : ¬ ((2 : Int32) < (0 : Int32))), (by decide : (2 : Int32) < (4 : Int32))⟩) (g := (mkF m 183 #[.val (.int p1), .val (.int p2), .val (.int p3), .val (.int p4), .val (.int p5), .val (.int p6), .val (.int n), .val (.int h1), .val (.int h2), .val (.int h3), .val (.int c0), .val (.int c1), .val (.int c2), .val (.int c3), .val (.int c4), .val (.ref b44), .unset, .unset, .unset, .unset, .unset, .unset] [(.int c2), (.int (2 : Int32)), (.ref b56), (.ref b56)])) rfl rfl (hb hby at_183)
  rw [hna2] at W68
  have f69 : Arv Z h68 b56 k56 .char (4 : Int32) [(.int c0), (.int c1), (.int c2), (.int (0 : Int32))] (.int (0 : Int32)) := Arv.set Ar68 q68 S68 M68 Hh68 U68 (own_fitc hna2) W68 2 rfl (Nat.le_of_ble_eq_true rfl)
  have N68 := Fr.snoc X68 N64 g_b56
  have O70 : Old Z n0 h68 := O66.wr W68 g_b56
  have Z70 : n0 ≤ h68.size := Nat.le_trans Z66 (Keep.of_wr W68).1
  have K70 : Keep h0 h68 [] := K66.wr W68 (Or.inr sz_b56)
  have hk70 : h0.size ≤ h68.size := Nat.le_trans hk66 (Keep.of_wr W68).1
  have f71 : Arv Z h68 b44 k44 .char (3 : Int32) [(.int c0), (.int c1), (.int c2)] (.int (0 : Int32)) := f67.other W68 (Nat.ne_of_lt (Nat.lt_of_lt_of_le f54.lt geb56))
  obtain ⟨c72, Ar72, q72, S72, M72, Hh72, U72⟩ := id f69
  obtain ⟨T72, h72, X72, e72, W72, st72⟩ := stC X68 hx hZ e68 Ar72 (j := (3 : Int32)) (inb_of S72 ⟨(by decide : ¬ ((3 : Int32) < (0 : Int32))), (by decide : (3 : Int32) < (4 : Int32))⟩) (g := (mkF m 188 #[.val (.int p1), .val (.int p2), .val (.int p3), .val (.int p4), .val (.int p5), .val (.int p6), .val (.int n), .val (.int h1), .val (.int h2), .val (.int h3), .val (.int c0), .val (.int c1), .val (.int c2), .val (.int c3), .val (.int c4), .val (.ref b44), .unset, .unset, .unset, .unset, .unset, .unset] [(.int c3), (.int (3 : Int32)), (.ref b56), (.ref b56)])) rfl rfl (hb hby at_188)
  rw [hna3] at W72
  have f73 : Arv Z h72 b56 k56 .char (4 : Int32) [(.int c0), (.int c1), (.int c2), (.int c3)] (.int (0 : Int32)) := Arv.set Ar72 q72 S72 M72 Hh72 U72 (own_fitc hna3) W72 3 rfl (Nat.le_of_ble_eq_true rfl)
  have N72 := Fr.snoc X72 N68 g_b56
  have O74 : Old Z n0 h72 := O70.wr W72 g_b56
  have Z74 : n0 ≤ h72.size := Nat.le_trans Z70 (Keep.of_wr W72).1
  have K74 : Keep h0 h72 [] := K70.wr W72 (Or.inr sz_b56)
  have hk74 : h0.size ≤ h72.size := Nat.le_trans hk70 (Keep.of_wr W72).1
  have f75 : Arv Z h72 b44 k44 .char (3 : Int32) [(.int c0), (.int c1), (.int c2)] (.int (0 : Int32)) := f71.other W72 (Nat.ne_of_lt (Nat.lt_of_lt_of_le f54.lt geb56))
  obtain ⟨T76, h76, k76, X76, e76, E76, A76, st76⟩ := newP X72 hx hZ (hw _ (List.mem_of_getElem? (i := 5) rfl)) e72 (g := (mkF m 192 #[.val (.int p1), .val (.int p2), .val (.int p3), .val (.int p4), .val (.int p5), .val (.int p6), .val (.int n), .val (.int h1), .val (.int h2), .val (.int h3), .val (.int c0), .val (.int c1), .val (.int c2), .val (.int c3), .val (.int c4), .val (.ref b44), .val (.ref b56), .unset, .unset, .unset, .unset, .unset] [(.int (5 : Int32))])) rfl (hb hby at_192) rfl (by decide : ¬ ((5 : Int32) < (0 : Int32))) (cap := 5) (by decide : (5 : Int32).toNatClampNeg ≤ 5) (by decide) (by decide) (by decide)
  obtain ⟨b76, g76⟩ : ∃ z, z = h72.size := ⟨_, rfl⟩
  rw [← g76] at A76 st76
  have geb76 : h72.size ≤ b76 := Nat.le_of_eq g76.symm
  have g_b76 : n0 ≤ b76 := Nat.le_trans Z74 geb76
  have sz_b76 : h0.size ≤ b76 := Nat.le_trans K74.1 geb76
  have O77 : Old Z n0 h76 := O74.ext E76
  have Z77 : n0 ≤ h76.size := Nat.le_trans Z74 E76.1
  have K77 : Keep h0 h76 [] := K74.ext E76
  have hk77 : h0.size ≤ h76.size := Nat.le_trans hk74 E76.1
  have f78 : Arv Z h76 b44 k44 .char (3 : Int32) [(.int c0), (.int c1), (.int c2)] (.int (0 : Int32)) := f75.ext E76
  have f79 : Arv Z h76 b56 k56 .char (4 : Int32) [(.int c0), (.int c1), (.int c2), (.int c3)] (.int (0 : Int32)) := f73.ext E76
  have f80 : Arv Z h76 b76 k76 .char (5 : Int32) [(.int (0 : Int32)), (.int (0 : Int32)), (.int (0 : Int32)), (.int (0 : Int32)), (.int (0 : Int32))] (.int (0 : Int32)) := (Arv.new A76 (by decide : ¬ ((5 : Int32) < (0 : Int32)))).pad (pad_rep [] (.int (0 : Int32)) 5)
  obtain ⟨c81, Ar81, q81, S81, M81, Hh81, U81⟩ := id f80
  obtain ⟨T81, h81, X81, e81, W81, st81⟩ := stC X76 hx hZ e76 Ar81 (j := (0 : Int32)) (inb_of S81 ⟨(by decide : ¬ ((0 : Int32) < (0 : Int32))), (by decide : (0 : Int32) < (5 : Int32))⟩) (g := (mkF m 198 #[.val (.int p1), .val (.int p2), .val (.int p3), .val (.int p4), .val (.int p5), .val (.int p6), .val (.int n), .val (.int h1), .val (.int h2), .val (.int h3), .val (.int c0), .val (.int c1), .val (.int c2), .val (.int c3), .val (.int c4), .val (.ref b44), .val (.ref b56), .unset, .unset, .unset, .unset, .unset] [(.int c0), (.int (0 : Int32)), (.ref b76), (.ref b76)])) rfl rfl (hb hby at_198)
  rw [hna0] at W81
  have f82 : Arv Z h81 b76 k76 .char (5 : Int32) [(.int c0), (.int (0 : Int32)), (.int (0 : Int32)), (.int (0 : Int32)), (.int (0 : Int32))] (.int (0 : Int32)) := Arv.set Ar81 q81 S81 M81 Hh81 U81 (own_fitc hna0) W81 0 rfl (Nat.le_of_ble_eq_true rfl)
  have N81 := Fr.snoc X81 N72 g_b76
  have O83 : Old Z n0 h81 := O77.wr W81 g_b76
  have Z83 : n0 ≤ h81.size := Nat.le_trans Z77 (Keep.of_wr W81).1
  have K83 : Keep h0 h81 [] := K77.wr W81 (Or.inr sz_b76)
  have hk83 : h0.size ≤ h81.size := Nat.le_trans hk77 (Keep.of_wr W81).1
  have f84 : Arv Z h81 b44 k44 .char (3 : Int32) [(.int c0), (.int c1), (.int c2)] (.int (0 : Int32)) := f78.other W81 (Nat.ne_of_lt (Nat.lt_of_lt_of_le f75.lt geb76))
  have f85 : Arv Z h81 b56 k56 .char (4 : Int32) [(.int c0), (.int c1), (.int c2), (.int c3)] (.int (0 : Int32)) := f79.other W81 (Nat.ne_of_lt (Nat.lt_of_lt_of_le f73.lt geb76))
  obtain ⟨c86, Ar86, q86, S86, M86, Hh86, U86⟩ := id f82
  obtain ⟨T86, h86, X86, e86, W86, st86⟩ := stC X81 hx hZ e81 Ar86 (j := (1 : Int32)) (inb_of S86 ⟨(by decide : ¬ ((1 : Int32) < (0 : Int32))), (by decide : (1 : Int32) < (5 : Int32))⟩) (g := (mkF m 203 #[.val (.int p1), .val (.int p2), .val (.int p3), .val (.int p4), .val (.int p5), .val (.int p6), .val (.int n), .val (.int h1), .val (.int h2), .val (.int h3), .val (.int c0), .val (.int c1), .val (.int c2), .val (.int c3), .val (.int c4), .val (.ref b44), .val (.ref b56), .unset, .unset, .unset, .unset, .unset] [(.int c1), (.int (1 : Int32)), (.ref b76), (.ref b76)])) rfl rfl (hb hby at_203)
  rw [hna1] at W86
  have f87 : Arv Z h86 b76 k76 .char (5 : Int32) [(.int c0), (.int c1), (.int (0 : Int32)), (.int (0 : Int32)), (.int (0 : Int32))] (.int (0 : Int32)) := Arv.set Ar86 q86 S86 M86 Hh86 U86 (own_fitc hna1) W86 1 rfl (Nat.le_of_ble_eq_true rfl)
  have N86 := Fr.snoc X86 N81 g_b76
  have O88 : Old Z n0 h86 := O83.wr W86 g_b76
  have Z88 : n0 ≤ h86.size := Nat.le_trans Z83 (Keep.of_wr W86).1
  have K88 : Keep h0 h86 [] := K83.wr W86 (Or.inr sz_b76)
  have hk88 : h0.size ≤ h86.size := Nat.le_trans hk83 (Keep.of_wr W86).1
  have f89 : Arv Z h86 b44 k44 .char (3 : Int32) [(.int c0), (.int c1), (.int c2)] (.int (0 : Int32)) := f84.other W86 (Nat.ne_of_lt (Nat.lt_of_lt_of_le f75.lt geb76))
  have f90 : Arv Z h86 b56 k56 .char (4 : Int32) [(.int c0), (.int c1), (.int c2), (.int c3)] (.int (0 : Int32)) := f85.other W86 (Nat.ne_of_lt (Nat.lt_of_lt_of_le f73.lt geb76))
  obtain ⟨c91, Ar91, q91, S91, M91, Hh91, U91⟩ := id f87
  obtain ⟨T91, h91, X91, e91, W91, st91⟩ := stC X86 hx hZ e86 Ar91 (j := (2 : Int32)) (inb_of S91 ⟨(by decide : ¬ ((2 : Int32) < (0 : Int32))), (by decide : (2 : Int32) < (5 : Int32))⟩) (g := (mkF m 208 #[.val (.int p1), .val (.int p2), .val (.int p3), .val (.int p4), .val (.int p5), .val (.int p6), .val (.int n), .val (.int h1), .val (.int h2), .val (.int h3), .val (.int c0), .val (.int c1), .val (.int c2), .val (.int c3), .val (.int c4), .val (.ref b44), .val (.ref b56), .unset, .unset, .unset, .unset, .unset] [(.int c2), (.int (2 : Int32)), (.ref b76), (.ref b76)])) rfl rfl (hb hby at_208)
  rw [hna2] at W91
  have f92 : Arv Z h91 b76 k76 .char (5 : Int32) [(.int c0), (.int c1), (.int c2), (.int (0 : Int32)), (.int (0 : Int32))] (.int (0 : Int32)) := Arv.set Ar91 q91 S91 M91 Hh91 U91 (own_fitc hna2) W91 2 rfl (Nat.le_of_ble_eq_true rfl)
  have N91 := Fr.snoc X91 N86 g_b76
  have O93 : Old Z n0 h91 := O88.wr W91 g_b76
  have Z93 : n0 ≤ h91.size := Nat.le_trans Z88 (Keep.of_wr W91).1
  have K93 : Keep h0 h91 [] := K88.wr W91 (Or.inr sz_b76)
  have hk93 : h0.size ≤ h91.size := Nat.le_trans hk88 (Keep.of_wr W91).1
  have f94 : Arv Z h91 b44 k44 .char (3 : Int32) [(.int c0), (.int c1), (.int c2)] (.int (0 : Int32)) := f89.other W91 (Nat.ne_of_lt (Nat.lt_of_lt_of_le f75.lt geb76))
  have f95 : Arv Z h91 b56 k56 .char (4 : Int32) [(.int c0), (.int c1), (.int c2), (.int c3)] (.int (0 : Int32)) := f90.other W91 (Nat.ne_of_lt (Nat.lt_of_lt_of_le f73.lt geb76))
  obtain ⟨c96, Ar96, q96, S96, M96, Hh96, U96⟩ := id f92
  obtain ⟨T96, h96, X96, e96, W96, st96⟩ := stC X91 hx hZ e91 Ar96 (j := (3 : Int32)) (inb_of S96 ⟨(by decide : ¬ ((3 : Int32) < (0 : Int32))), (by decide : (3 : Int32) < (5 : Int32))⟩) (g := (mkF m 213 #[.val (.int p1), .val (.int p2), .val (.int p3), .val (.int p4), .val (.int p5), .val (.int p6), .val (.int n), .val (.int h1), .val (.int h2), .val (.int h3), .val (.int c0), .val (.int c1), .val (.int c2), .val (.int c3), .val (.int c4), .val (.ref b44), .val (.ref b56), .unset, .unset, .unset, .unset, .unset] [(.int c3), (.int (3 : Int32)), (.ref b76), (.ref b76)])) rfl rfl (hb hby at_213)
  rw [hna3] at W96
  have f97 : Arv Z h96 b76 k76 .char (5 : Int32) [(.int c0), (.int c1), (.int c2), (.int c3), (.int (0 : Int32))] (.int (0 : Int32)) := Arv.set Ar96 q96 S96 M96 Hh96 U96 (own_fitc hna3) W96 3 rfl (Nat.le_of_ble_eq_true rfl)
  have N96 := Fr.snoc X96 N91 g_b76
  have O98 : Old Z n0 h96 := O93.wr W96 g_b76
  have Z98 : n0 ≤ h96.size := Nat.le_trans Z93 (Keep.of_wr W96).1
  have K98 : Keep h0 h96 [] := K93.wr W96 (Or.inr sz_b76)
  have hk98 : h0.size ≤ h96.size := Nat.le_trans hk93 (Keep.of_wr W96).1
  have f99 : Arv Z h96 b44 k44 .char (3 : Int32) [(.int c0), (.int c1), (.int c2)] (.int (0 : Int32)) := f94.other W96 (Nat.ne_of_lt (Nat.lt_of_lt_of_le f75.lt geb76))
  have f100 : Arv Z h96 b56 k56 .char (4 : Int32) [(.int c0), (.int c1), (.int c2), (.int c3)] (.int (0 : Int32)) := f95.other W96 (Nat.ne_of_lt (Nat.lt_of_lt_of_le f73.lt geb76))
  obtain ⟨c101, Ar101, q101, S101, M101, Hh101, U101⟩ := id f97
  obtain ⟨T101, h101, X101, e101, W101, st101⟩ := stC X96 hx hZ e96 Ar101 (j := (4 : Int32)) (inb_of S101 ⟨(by decide : ¬ ((4 : Int32) < (0 : Int32))), (by decide : (4 : Int32) < (5 : Int32))⟩) (g := (mkF m 218 #[.val (.int p1), .val (.int p2), .val (.int p3), .val (.int p4), .val (.int p5), .val (.int p6), .val (.int n), .val (.int h1), .val (.int h2), .val (.int h3), .val (.int c0), .val (.int c1), .val (.int c2), .val (.int c3), .val (.int c4), .val (.ref b44), .val (.ref b56), .unset, .unset, .unset, .unset, .unset] [(.int c4), (.int (4 : Int32)), (.ref b76), (.ref b76)])) rfl rfl (hb hby at_218)
  rw [hna4] at W101
  have f102 : Arv Z h101 b76 k76 .char (5 : Int32) [(.int c0), (.int c1), (.int c2), (.int c3), (.int c4)] (.int (0 : Int32)) := Arv.set Ar101 q101 S101 M101 Hh101 U101 (own_fitc hna4) W101 4 rfl (Nat.le_of_ble_eq_true rfl)
  have N101 := Fr.snoc X101 N96 g_b76
  have O103 : Old Z n0 h101 := O98.wr W101 g_b76
  have Z103 : n0 ≤ h101.size := Nat.le_trans Z98 (Keep.of_wr W101).1
  have K103 : Keep h0 h101 [] := K98.wr W101 (Or.inr sz_b76)
  have hk103 : h0.size ≤ h101.size := Nat.le_trans hk98 (Keep.of_wr W101).1
  have f104 : Arv Z h101 b44 k44 .char (3 : Int32) [(.int c0), (.int c1), (.int c2)] (.int (0 : Int32)) := f99.other W101 (Nat.ne_of_lt (Nat.lt_of_lt_of_le f75.lt geb76))
  have f105 : Arv Z h101 b56 k56 .char (4 : Int32) [(.int c0), (.int c1), (.int c2), (.int c3)] (.int (0 : Int32)) := f100.other W101 (Nat.ne_of_lt (Nat.lt_of_lt_of_le f73.lt geb76))
  obtain ⟨T106, h106, X106, e106, E106, A106, D106, -, st106⟩ := newO X101 hx hZ hown (hw _ (List.mem_of_getElem? (i := 6) rfl)) (hw _ (List.mem_of_getElem? (i := 7) rfl)) (hw _ (List.mem_of_getElem? (i := 8) rfl)) e101 (g := (mkF m 227 #[.val (.int p1), .val (.int p2), .val (.int p3), .val (.int p4), .val (.int p5), .val (.int p6), .val (.int n), .val (.int h1), .val (.int h2), .val (.int h3), .val (.int c0), .val (.int c1), .val (.int c2), .val (.int c3), .val (.int c4), .val (.ref b44), .val (.ref b56), .val (.ref b76), .unset, .unset, .unset, .unset] [])) rfl (hb hby at_227) (by decide) (by decide)
  obtain ⟨b106, g106⟩ : ∃ z, z = h101.size := ⟨_, rfl⟩
  rw [← g106] at A106 D106 st106
  have geb106 : h101.size ≤ b106 := Nat.le_of_eq g106.symm
  have g_b106 : n0 ≤ b106 := Nat.le_trans Z103 geb106
  have sz_b106 : h0.size ≤ b106 := Nat.le_trans K103.1 geb106
  have O107 : Old Z n0 h106 := O103.ext E106
  have Z107 : n0 ≤ h106.size := Nat.le_trans Z103 E106.1
  have K107 : Keep h0 h106 [] := K103.ext E106
  have hk107 : h0.size ≤ h106.size := Nat.le_trans hk103 E106.1
  have f108 : Arv Z h106 b44 k44 .char (3 : Int32) [(.int c0), (.int c1), (.int c2)] (.int (0 : Int32)) := f104.ext E106
  have f109 : Arv Z h106 b56 k56 .char (4 : Int32) [(.int c0), (.int c1), (.int c2), (.int c3)] (.int (0 : Int32)) := f105.ext E106
  have f110 : Arv Z h106 b76 k76 .char (5 : Int32) [(.int c0), (.int c1), (.int c2), (.int c3), (.int c4)] (.int (0 : Int32)) := f102.ext E106
  have f111 : Fld Z h106 b106 "java/lang/String" "coder" "B" (.int (0 : Int32)) := D106 (Or.inr (hw _ (List.mem_of_getElem? (i := 32) rfl))) (ty := .byte) (by decide)
  have f112 : Fld Z h106 b106 "java/lang/String" "value" "[B" .null := D106 (Or.inr (hw _ (List.mem_of_getElem? (i := 34) rfl))) (ty := (.array .byte)) (by decide)
  have hws : ∀ d ∈ StrChars.Road.words, d.before a0 Z = true := fun d hd => hw d ((by decide +kernel : ∀ d ∈ StrChars.Road.words, d ∈ tables_1) d hd)
  have hp113 : ∀ c ∈ ([c0, c1, c2] : List Int32), ¬ c < 0 ∧ ¬ (255 : Int32) < c := by
    intro c hc
    simp only [List.mem_cons, List.not_mem_nil, or_false] at hc
    rcases hc with rfl | rfl | rfl
    · exact hr0
    · exact hr1
    · exact hr2
  obtain ⟨_, _, ⟨T114, L114, k114, n114⟩, -, X114, ⟨Lc114, hQ114, l114, y114, z114⟩, st114⟩ := X106.specialBack hx (y := (⟨"java/lang/String", "<init>", "([C)V"⟩ : MethodName)) rfl hown (mvT hZ (hw _ (List.mem_of_getElem? (i := 9) rfl))) (mvT hZ (hw _ (List.mem_of_getElem? (i := 10) rfl))) (mvT hZ (hw _ (List.mem_of_getElem? (i := 11) rfl))) (by decide) (StrChars.Road.backV (W := 1) hZ hws (kI := 4) (hw _ (List.mem_of_getElem? (i := 7) rfl)) (cs := ([c0, c1, c2] : List Int32)) (bs := (([c0, c1, c2] : List Int32)).map (fun c => c.toInt8.toInt32)) (n := 3) g_b106 Z107 A106 f112 f111 f108 (OC2.ext O107.2) OCz rfl rfl (by decide) (by decide) hp113 rfl (by decide) (by decide)) (g := (mkF m 233 #[.val (.int p1), .val (.int p2), .val (.int p3), .val (.int p4), .val (.int p5), .val (.int p6), .val (.int n), .val (.int h1), .val (.int h2), .val (.int h3), .val (.int c0), .val (.int c1), .val (.int c2), .val (.int c3), .val (.int c4), .val (.ref b44), .val (.ref b56), .val (.ref b76), .unset, .unset, .unset, .unset] [(.ref b44), (.ref b106), (.ref b106)])) rfl (by rw [hml]; rfl) (Steps.refl _) (a := b106) (argsL := [(.ref b44)]) (rest := [(.ref b106)]) (lenOf pd___C_V rfl) rfl (by show 2 * 0 + _ ≤ _; exact Nat.le_of_eq rfl) (hb hby at_233) (fun _ _ => ⟨rfl, e106, (by decide : 4 + 1 ≤ _), (by decide : 16 + 3 ≤ _)⟩)
  dsimp only [Pt.U, Pt.locs, Pt.cells, Pt.slots] at X114 l114 y114 z114 st114 hQ114
  subst l114 y114 z114
  obtain ⟨rfl, N114q, K114k, g1114, g2114, t114, kb114, u1114, u2114, u3114, g3114, g4114⟩ := hQ114
  have N114 := Fr.app N101 N114q
  have O115 : Old Z n0 T114.heap := O107.keep K114k (allS g_b106 all0)
  have Z115 : n0 ≤ T114.heap.size := Nat.le_trans Z107 K114k.1
  have K115 : Keep h0 T114.heap [] := K107.trans K114k (allS (Or.inr sz_b106) all0)
  have hk115 : h0.size ≤ T114.heap.size := Nat.le_trans hk107 K114k.1
  have f116 : Arv Z T114.heap b44 k44 .char (3 : Int32) [(.int c0), (.int c1), (.int c2)] (.int (0 : Int32)) := f108.keep K114k (ninS (Nat.ne_of_lt (Nat.lt_of_lt_of_le f104.lt geb106)) nin0)
  have f117 : Arv Z T114.heap b56 k56 .char (4 : Int32) [(.int c0), (.int c1), (.int c2), (.int c3)] (.int (0 : Int32)) := f109.keep K114k (ninS (Nat.ne_of_lt (Nat.lt_of_lt_of_le f105.lt geb106)) nin0)
  have f118 : Arv Z T114.heap b76 k76 .char (5 : Int32) [(.int c0), (.int c1), (.int c2), (.int c3), (.int c4)] (.int (0 : Int32)) := f110.keep K114k (ninS (Nat.ne_of_lt (Nat.lt_of_lt_of_le f102.lt geb106)) nin0)
  have f119 : Exa Z T114.heap b106 "java/lang/String" := A106.keep K114k
  have sz_t114 : h0.size ≤ t114 := Nat.le_trans K107.1 u2114
  obtain ⟨T120, h120, X120, e120, E120, A120, D120, -, st120⟩ := newO X114 hx hZ hown (hw _ (List.mem_of_getElem? (i := 6) rfl)) (hw _ (List.mem_of_getElem? (i := 7) rfl)) (hw _ (List.mem_of_getElem? (i := 8) rfl)) rfl (g := (mkF m 238 #[.val (.int p1), .val (.int p2), .val (.int p3), .val (.int p4), .val (.int p5), .val (.int p6), .val (.int n), .val (.int h1), .val (.int h2), .val (.int h3), .val (.int c0), .val (.int c1), .val (.int c2), .val (.int c3), .val (.int c4), .val (.ref b44), .val (.ref b56), .val (.ref b76), .val (.ref b106), .unset, .unset, .unset] [])) rfl (hb hby at_238) (by decide) (by decide)
  obtain ⟨b120, g120⟩ : ∃ z, z = T114.heap.size := ⟨_, rfl⟩
  rw [← g120] at A120 D120 st120
  have geb120 : T114.heap.size ≤ b120 := Nat.le_of_eq g120.symm
  have g_b120 : n0 ≤ b120 := Nat.le_trans Z115 geb120
  have sz_b120 : h0.size ≤ b120 := Nat.le_trans K115.1 geb120
  have O121 : Old Z n0 h120 := O115.ext E120
  have Z121 : n0 ≤ h120.size := Nat.le_trans Z115 E120.1
  have K121 : Keep h0 h120 [] := K115.ext E120
  have hk121 : h0.size ≤ h120.size := Nat.le_trans hk115 E120.1
  have f122 : Arv Z h120 b44 k44 .char (3 : Int32) [(.int c0), (.int c1), (.int c2)] (.int (0 : Int32)) := f116.ext E120
  have f123 : Arv Z h120 b56 k56 .char (4 : Int32) [(.int c0), (.int c1), (.int c2), (.int c3)] (.int (0 : Int32)) := f117.ext E120
  have f124 : Arv Z h120 b76 k76 .char (5 : Int32) [(.int c0), (.int c1), (.int c2), (.int c3), (.int c4)] (.int (0 : Int32)) := f118.ext E120
  have f125 : Exa Z h120 b106 "java/lang/String" := g1114.ext E120
  have f126 : Fld Z h120 b106 "java/lang/String" "coder" "B" (.int 0) := g2114.ext E120
  have f127 : Fld Z h120 b106 "java/lang/String" "value" "[B" (.ref t114) := g3114.ext E120
  have f128 : Arv Z h120 t114 kb114 .byte (3 : Int32) (((([c0, c1, c2] : List Int32)).map (fun c => c.toInt8.toInt32)).map Value.int) (.int 0) := g4114.ext E120
  have f129 : Fld Z h120 b120 "java/lang/String" "coder" "B" (.int (0 : Int32)) := D120 (Or.inr (hw _ (List.mem_of_getElem? (i := 32) rfl))) (ty := .byte) (by decide)
  have f130 : Fld Z h120 b120 "java/lang/String" "value" "[B" .null := D120 (Or.inr (hw _ (List.mem_of_getElem? (i := 34) rfl))) (ty := (.array .byte)) (by decide)
  have hp131 : ∀ c ∈ ([c0, c1, c2] : List Int32), ¬ c < 0 ∧ ¬ (255 : Int32) < c := by
    intro c hc
    simp only [List.mem_cons, List.not_mem_nil, or_false] at hc
    rcases hc with rfl | rfl | rfl
    · exact hr0
    · exact hr1
    · exact hr2
  obtain ⟨_, _, ⟨T132, L132, k132, n132⟩, -, X132, ⟨Lc132, hQ132, l132, y132, z132⟩, st132⟩ := X120.specialBack hx (y := (⟨"java/lang/String", "<init>", "([C)V"⟩ : MethodName)) rfl hown (mvT hZ (hw _ (List.mem_of_getElem? (i := 9) rfl))) (mvT hZ (hw _ (List.mem_of_getElem? (i := 10) rfl))) (mvT hZ (hw _ (List.mem_of_getElem? (i := 11) rfl))) (by decide) (StrChars.Road.backV (W := 1) hZ hws (kI := 4) (hw _ (List.mem_of_getElem? (i := 7) rfl)) (cs := ([c0, c1, c2] : List Int32)) (bs := (([c0, c1, c2] : List Int32)).map (fun c => c.toInt8.toInt32)) (n := 3) g_b120 Z121 A120 f130 f129 f122 (OC2.ext O121.2) OCz rfl rfl (by decide) (by decide) hp131 rfl (by decide) (by decide)) (g := (mkF m 244 #[.val (.int p1), .val (.int p2), .val (.int p3), .val (.int p4), .val (.int p5), .val (.int p6), .val (.int n), .val (.int h1), .val (.int h2), .val (.int h3), .val (.int c0), .val (.int c1), .val (.int c2), .val (.int c3), .val (.int c4), .val (.ref b44), .val (.ref b56), .val (.ref b76), .val (.ref b106), .unset, .unset, .unset] [(.ref b44), (.ref b120), (.ref b120)])) rfl (by rw [hml]; rfl) (Steps.refl _) (a := b120) (argsL := [(.ref b44)]) (rest := [(.ref b120)]) (lenOf pd___C_V rfl) rfl (by show 2 * 0 + _ ≤ _; exact Nat.le_of_eq rfl) (hb hby at_244) (fun _ _ => ⟨rfl, e120, (by decide : 6 + 1 ≤ _), (by decide : 23 + 3 ≤ _)⟩)
  dsimp only [Pt.U, Pt.locs, Pt.cells, Pt.slots] at X132 l132 y132 z132 st132 hQ132
  subst l132 y132 z132
  obtain ⟨rfl, N132q, K132k, g1132, g2132, t132, kb132, u1132, u2132, u3132, g3132, g4132⟩ := hQ132
  have N132 := Fr.app N114 N132q
  have O133 : Old Z n0 T132.heap := O121.keep K132k (allS g_b120 all0)
  have Z133 : n0 ≤ T132.heap.size := Nat.le_trans Z121 K132k.1
  have K133 : Keep h0 T132.heap [] := K121.trans K132k (allS (Or.inr sz_b120) all0)
  have hk133 : h0.size ≤ T132.heap.size := Nat.le_trans hk121 K132k.1
  have f134 : Arv Z T132.heap b44 k44 .char (3 : Int32) [(.int c0), (.int c1), (.int c2)] (.int (0 : Int32)) := f122.keep K132k (ninS (Nat.ne_of_lt (Nat.lt_of_lt_of_le f116.lt geb120)) nin0)
  have f135 : Arv Z T132.heap b56 k56 .char (4 : Int32) [(.int c0), (.int c1), (.int c2), (.int c3)] (.int (0 : Int32)) := f123.keep K132k (ninS (Nat.ne_of_lt (Nat.lt_of_lt_of_le f117.lt geb120)) nin0)
  have f136 : Arv Z T132.heap b76 k76 .char (5 : Int32) [(.int c0), (.int c1), (.int c2), (.int c3), (.int c4)] (.int (0 : Int32)) := f124.keep K132k (ninS (Nat.ne_of_lt (Nat.lt_of_lt_of_le f118.lt geb120)) nin0)
  have f137 : Exa Z T132.heap b106 "java/lang/String" := f125.keep K132k
  have f138 : Fld Z T132.heap b106 "java/lang/String" "coder" "B" (.int 0) := f126.keep K132k (ninS (Nat.ne_of_lt (Nat.lt_of_lt_of_le g1114.lt geb120)) nin0)
  have f139 : Fld Z T132.heap b106 "java/lang/String" "value" "[B" (.ref t114) := f127.keep K132k (ninS (Nat.ne_of_lt (Nat.lt_of_lt_of_le g1114.lt geb120)) nin0)
  have f140 : Arv Z T132.heap t114 kb114 .byte (3 : Int32) (((([c0, c1, c2] : List Int32)).map (fun c => c.toInt8.toInt32)).map Value.int) (.int 0) := f128.keep K132k (ninS (Nat.ne_of_lt (Nat.lt_of_lt_of_le g4114.lt geb120)) nin0)
  have f141 : Exa Z T132.heap b120 "java/lang/String" := A120.keep K132k
  have sz_t132 : h0.size ≤ t132 := Nat.le_trans K121.1 u2132
  obtain ⟨_, _, ⟨T142, L142, k142, n142⟩, -, X142, hS142, hg142, ⟨Lc142, hQ142, l142, y142, z142⟩, st142⟩ := Jvm.RoadKit.callSS X132 hx (y := (⟨"com/example/nimble_queue/nimblequeue/core/QueueName", "of", "(Ljava/lang/String;)Lcom/example/nimble_queue/nimblequeue/core/QueueName;"⟩ : MethodName)) hown (mvT hZ (hw _ (List.mem_of_getElem? (i := 35) rfl))) (mvT hZ (hw _ (List.mem_of_getElem? (i := 36) rfl))) (mvT hZ (hw _ (List.mem_of_getElem? (i := 37) rfl))) (mvT hZ (hw _ (List.mem_of_getElem? (i := 38) rfl))) (by decide) (backOfS (W := 0) (rmOf l Z a0 hw [] b106 t114 kb114 ([c0, c1, c2] : List Int32) (3 : Int32) GC (((([c0, c1, c2] : List Int32)).map (fun c => c.toInt8.toInt32)).map Value.int) fm T132.heap n0 O133 wS f137 f138 f139 f140 hcd hbd (Nat.le_of_ble_eq_true rfl) (Nat.le_of_ble_eq_true rfl) OC2 OCz OF4 OFr hok) hZ (hw _ (List.mem_of_getElem? (i := 38) rfl)) (hw _ (List.mem_of_getElem? (i := 37) rfl)) (by decide) (by decide)) (g := (mkF m 307 #[.val (.int p1), .val (.int p2), .val (.int p3), .val (.int p4), .val (.int p5), .val (.int p6), .val (.int n), .val (.int h1), .val (.int h2), .val (.int h3), .val (.int c0), .val (.int c1), .val (.int c2), .val (.int c3), .val (.int c4), .val (.ref b44), .val (.ref b56), .val (.ref b76), .val (.ref b106), .val (.ref b120), .unset, .unset] [(.ref b106)])) rfl (by rw [hml]; rfl) (argsL := [(.ref b106)]) (rest := []) (lenOf pd__Ljava_lang_String__Lcom_example_nimble_queue_nimblequeue_core_QueueName_ rfl) rfl (by show 2 * 0 + _ ≤ _; exact Nat.le_of_eq rfl) (hb hby at_307) (fun _ _ => ⟨rfl, rfl, (by decide : 7 + 3 ≤ _), (by decide : 26 + 21 ≤ _)⟩)
  dsimp only [Pt.U, Pt.locs, Pt.cells, Pt.slots] at X142 l142 y142 z142 st142 hQ142 hS142 hg142
  subst l142 y142 z142
  obtain ⟨b142, rfl, N142q, K142k, hf142, g1142, g2142⟩ := hQ142
  have N142 := Fr.app N132 N142q
  obtain ⟨X142r, hS142r, hZ142, hown142⟩ := rebS hS0 hk133 X142 hS142 hg142 hZ hown
  have O143 : Old Z n0 T142.heap := O133.keep K142k all0
  have Z143 : n0 ≤ T142.heap.size := Nat.le_trans Z133 K142k.1
  have K143 : Keep h0 T142.heap [] := K133.trans K142k all0
  have f144 : Arv Z T142.heap b44 k44 .char (3 : Int32) [(.int c0), (.int c1), (.int c2)] (.int (0 : Int32)) := f134.keep K142k nin0
  have f145 : Arv Z T142.heap b56 k56 .char (4 : Int32) [(.int c0), (.int c1), (.int c2), (.int c3)] (.int (0 : Int32)) := f135.keep K142k nin0
  have f146 : Arv Z T142.heap b76 k76 .char (5 : Int32) [(.int c0), (.int c1), (.int c2), (.int c3), (.int c4)] (.int (0 : Int32)) := f136.keep K142k nin0
  have f147 : Exa Z T142.heap b106 "java/lang/String" := f137.keep K142k
  have f148 : Fld Z T142.heap b106 "java/lang/String" "coder" "B" (.int 0) := f138.keep K142k nin0
  have f149 : Fld Z T142.heap b106 "java/lang/String" "value" "[B" (.ref t114) := f139.keep K142k nin0
  have f150 : Arv Z T142.heap t114 kb114 .byte (3 : Int32) (((([c0, c1, c2] : List Int32)).map (fun c => c.toInt8.toInt32)).map Value.int) (.int 0) := f140.keep K142k nin0
  have f151 : Exa Z T142.heap b120 "java/lang/String" := g1132.keep K142k
  have f152 : Fld Z T142.heap b120 "java/lang/String" "coder" "B" (.int 0) := g2132.keep K142k nin0
  have f153 : Fld Z T142.heap b120 "java/lang/String" "value" "[B" (.ref t132) := g3132.keep K142k nin0
  have f154 : Arv Z T142.heap t132 kb132 .byte (3 : Int32) (((([c0, c1, c2] : List Int32)).map (fun c => c.toInt8.toInt32)).map Value.int) (.int 0) := g4132.keep K142k nin0
  have g_b142 : n0 ≤ b142 := Nat.le_trans Z133 hf142
  have sz_b142 : h0.size ≤ b142 := Nat.le_trans K133.1 hf142
  obtain ⟨_, _, ⟨T155, L155, k155, n155⟩, -, X155, hS155, hg155, ⟨Lc155, hQ155, l155, y155, z155⟩, st155⟩ := Jvm.RoadKit.callSS X142r hx (y := (⟨"com/example/nimble_queue/nimblequeue/core/QueueName", "of", "(Ljava/lang/String;)Lcom/example/nimble_queue/nimblequeue/core/QueueName;"⟩ : MethodName)) hown142 (mvT hZ142 (hw _ (List.mem_of_getElem? (i := 35) rfl))) (mvT hZ142 (hw _ (List.mem_of_getElem? (i := 36) rfl))) (mvT hZ142 (hw _ (List.mem_of_getElem? (i := 37) rfl))) (mvT hZ142 (hw _ (List.mem_of_getElem? (i := 38) rfl))) (by decide) (backOfS (W := 0) (rmOf l Z a0 hw [] b120 t132 kb132 ([c0, c1, c2] : List Int32) (3 : Int32) GC (((([c0, c1, c2] : List Int32)).map (fun c => c.toInt8.toInt32)).map Value.int) fm T142.heap n0 O143 wS f151 f152 f153 f154 hcd hbd (Nat.le_of_ble_eq_true rfl) (Nat.le_of_ble_eq_true rfl) OC2 OCz OF4 OFr hok) hZ142 (hw _ (List.mem_of_getElem? (i := 38) rfl)) (hw _ (List.mem_of_getElem? (i := 37) rfl)) (by decide) (by decide)) (g := (mkF m 314 #[.val (.int p1), .val (.int p2), .val (.int p3), .val (.int p4), .val (.int p5), .val (.int p6), .val (.int n), .val (.int h1), .val (.int h2), .val (.int h3), .val (.int c0), .val (.int c1), .val (.int c2), .val (.int c3), .val (.int c4), .val (.ref b44), .val (.ref b56), .val (.ref b76), .val (.ref b106), .val (.ref b120), .val (.ref b142), .unset] [(.ref b120)])) rfl (by rw [hml]; rfl) (argsL := [(.ref b120)]) (rest := []) (lenOf pd__Ljava_lang_String__Lcom_example_nimble_queue_nimblequeue_core_QueueName_ rfl) rfl (by show 2 * 0 + _ ≤ _; exact Nat.le_of_eq rfl) (hb hby at_314) (fun _ _ => ⟨rfl, rfl, (by decide : 10 + 3 ≤ _), (by decide : 47 + 21 ≤ _)⟩)
  dsimp only [Pt.U, Pt.locs, Pt.cells, Pt.slots] at X155 l155 y155 z155 st155 hQ155 hS155 hg155
  subst l155 y155 z155
  obtain ⟨b155, rfl, N155q, K155k, hf155, g1155, g2155⟩ := hQ155
  have N155 := Fr.app N142 N155q
  obtain ⟨X155r, hS155r, hZ155, hown155⟩ := rebS hS142r (Nat.le_refl _) X155 hS155 hg155 hZ142 hown142
  have O156 : Old Z n0 T155.heap := O143.keep K155k all0
  have Z156 : n0 ≤ T155.heap.size := Nat.le_trans Z143 K155k.1
  have K156 : Keep h0 T155.heap [] := K143.trans K155k all0
  have f157 : Arv Z T155.heap b44 k44 .char (3 : Int32) [(.int c0), (.int c1), (.int c2)] (.int (0 : Int32)) := f144.keep K155k nin0
  have f158 : Arv Z T155.heap b56 k56 .char (4 : Int32) [(.int c0), (.int c1), (.int c2), (.int c3)] (.int (0 : Int32)) := f145.keep K155k nin0
  have f159 : Arv Z T155.heap b76 k76 .char (5 : Int32) [(.int c0), (.int c1), (.int c2), (.int c3), (.int c4)] (.int (0 : Int32)) := f146.keep K155k nin0
  have f160 : Exa Z T155.heap b106 "java/lang/String" := f147.keep K155k
  have f161 : Fld Z T155.heap b106 "java/lang/String" "coder" "B" (.int 0) := f148.keep K155k nin0
  have f162 : Fld Z T155.heap b106 "java/lang/String" "value" "[B" (.ref t114) := f149.keep K155k nin0
  have f163 : Arv Z T155.heap t114 kb114 .byte (3 : Int32) (((([c0, c1, c2] : List Int32)).map (fun c => c.toInt8.toInt32)).map Value.int) (.int 0) := f150.keep K155k nin0
  have f164 : Exa Z T155.heap b120 "java/lang/String" := f151.keep K155k
  have f165 : Fld Z T155.heap b120 "java/lang/String" "coder" "B" (.int 0) := f152.keep K155k nin0
  have f166 : Fld Z T155.heap b120 "java/lang/String" "value" "[B" (.ref t132) := f153.keep K155k nin0
  have f167 : Arv Z T155.heap t132 kb132 .byte (3 : Int32) (((([c0, c1, c2] : List Int32)).map (fun c => c.toInt8.toInt32)).map Value.int) (.int 0) := f154.keep K155k nin0
  have f168 : Exa Z T155.heap b142 "com/example/nimble_queue/nimblequeue/core/QueueName" := g1142.keep K155k
  have f169 : Fld Z T155.heap b142 "com/example/nimble_queue/nimblequeue/core/QueueName" "name" "Ljava/lang/String;" (.ref b106) := g2142.keep K155k nin0
  have g_b155 : n0 ≤ b155 := Nat.le_trans Z143 hf155
  have sz_b155 : h0.size ≤ b155 := Nat.le_trans K143.1 hf155
  obtain ⟨cq170, kq170, qa170, qb170, qc170⟩ := isOf hZ155 rfl f168
  obtain ⟨_, _, ⟨T170, L170, k170, n170⟩, -, X170, ⟨Lc170, hQ170, l170, y170, z170⟩, st170⟩ := X155r.virtualBack hx (y := (⟨"com/example/nimble_queue/nimblequeue/core/QueueName", "toString", "()Ljava/lang/String;"⟩ : MethodName)) (z := (⟨"com/example/nimble_queue/nimblequeue/core/QueueName", "toString", "()Ljava/lang/String;"⟩ : MethodName)) hown155 (mvT hZ155 (hw _ (List.mem_of_getElem? (i := 89) rfl))) (mvT hZ155 (hw _ (List.mem_of_getElem? (i := 90) rfl))) (notFace_of_selects (args := #[]) (mvT hZ155 (hw _ (List.mem_of_getElem? (i := 92) rfl)))) (mvT hZ155 (hw _ (List.mem_of_getElem? (i := 92) rfl))) (mvT hZ155 (hw _ (List.mem_of_getElem? (i := 91) rfl))) (by decide) (backOf (W := 0) (rmTS l Z a0 hw [] b142 b106 T155.heap n0 O156 f169) hZ155 (hw _ (List.mem_of_getElem? (i := 93) rfl)) (hw _ (List.mem_of_getElem? (i := 37) rfl)) (by decide) (by decide)) qa170 qc170 (g := (mkF m 326 #[.val (.int p1), .val (.int p2), .val (.int p3), .val (.int p4), .val (.int p5), .val (.int p6), .val (.int n), .val (.int h1), .val (.int h2), .val (.int h3), .val (.int c0), .val (.int c1), .val (.int c2), .val (.int c3), .val (.int c4), .val (.ref b44), .val (.ref b56), .val (.ref b76), .val (.ref b106), .val (.ref b120), .val (.ref b142), .val (.ref b155)] [(.ref b142)])) rfl (by rw [hml]; rfl) (Steps.refl _) (argsL := []) (rest := []) (lenOf pd___Ljava_lang_String_ rfl) rfl (by show 2 * 0 + _ ≤ _; exact Nat.le_of_eq rfl) (hb hby at_326) (fun _ _ => ⟨rfl, rfl, (by decide : 13 + 0 ≤ _), (by decide : 68 + 0 ≤ _)⟩)
  dsimp only [Pt.U, Pt.locs, Pt.cells, Pt.slots] at X170 l170 y170 z170 st170 hQ170
  subst l170 y170 z170
  obtain ⟨rfl, N170q, e170⟩ := hQ170
  have N170 := Fr.app N155 N170q
  have heq : ∀ d ∈ StrChars.Road.wordsEq, d.before a0 Z = true := fun d hd => hw d ((by decide +kernel : ∀ d ∈ StrChars.Road.wordsEq, d ∈ tables_1) d hd)
  obtain ⟨cq171, kq171, qa171, qb171, qc171⟩ := isOf hZ155 e170 f160
  obtain ⟨_, _, ⟨T171, L171, k171, n171⟩, -, X171, ⟨Lc171, hQ171, l171, y171, z171⟩, st171⟩ := X170.virtualBack hx (y := (⟨"java/lang/String", "equals", "(Ljava/lang/Object;)Z"⟩ : MethodName)) (z := (⟨"java/lang/String", "equals", "(Ljava/lang/Object;)Z"⟩ : MethodName)) hown155 (mvT hZ155 (hw _ (List.mem_of_getElem? (i := 94) rfl))) (mvT hZ155 (hw _ (List.mem_of_getElem? (i := 95) rfl))) (notFace_of_selects (args := #[]) (mvT hZ155 (hw _ (List.mem_of_getElem? (i := 97) rfl)))) (mvT hZ155 (hw _ (List.mem_of_getElem? (i := 97) rfl))) (mvT hZ155 (hw _ (List.mem_of_getElem? (i := 96) rfl))) (by decide) (StrChars.Road.eqW (W := 0) hZ155 heq (kI := 4) (hw _ (List.mem_of_getElem? (i := 7) rfl)) f160 f162 f161 f163 hcd hbd (Nat.le_trans (Nat.le_of_ble_eq_true rfl : ([c0, c1, c2] : List Int32).length ≤ 63) (by decide)) f160 f162 f161 f163 hcd hbd (Nat.le_trans (Nat.le_of_ble_eq_true rfl : ([c0, c1, c2] : List Int32).length ≤ 63) (by decide)) (OC2.ext O156.2) OCz (by decide) (by decide)) qa171 qc171 (g := (mkF m 331 #[.val (.int p1), .val (.int p2), .val (.int p3), .val (.int p4), .val (.int p5), .val (.int p6), .val (.int n), .val (.int h1), .val (.int h2), .val (.int h3), .val (.int c0), .val (.int c1), .val (.int c2), .val (.int c3), .val (.int c4), .val (.ref b44), .val (.ref b56), .val (.ref b76), .val (.ref b106), .val (.ref b120), .val (.ref b142), .val (.ref b155)] [(.ref b106), (.ref b106)])) rfl (by rw [hml]; rfl) (Steps.refl _) (argsL := [(.ref b106)]) (rest := []) (lenOf pd__Ljava_lang_Object__Z rfl) rfl (by show 2 * 0 + _ ≤ _; exact Nat.le_of_eq rfl) (hb hby at_331) (fun _ _ => ⟨rfl, e170, (by decide : 13 + 0 ≤ _), (by decide : 68 + 0 ≤ _)⟩)
  dsimp only [Pt.U, Pt.locs, Pt.cells, Pt.slots] at X171 l171 y171 z171 st171 hQ171
  subst l171 y171 z171
  obtain ⟨hd171, rfl, e171⟩ := hQ171
  obtain ⟨rfl, -⟩ := hd171.resolve_right (fun q => q.2 rfl)
  have N171q : Fr n0 ([] : List Loc) := Fr.nil n0
  have N171 := Fr.app N170 N171q
  obtain ⟨cq172, kq172, qa172, qb172, qc172⟩ := isOf hZ155 e171 f168
  obtain ⟨_, _, ⟨T172, L172, k172, n172⟩, -, X172, ⟨Lc172, hQ172, l172, y172, z172⟩, st172⟩ := X171.virtualBack hx (y := (⟨"com/example/nimble_queue/nimblequeue/core/QueueName", "equals", "(Ljava/lang/Object;)Z"⟩ : MethodName)) (z := (⟨"com/example/nimble_queue/nimblequeue/core/QueueName", "equals", "(Ljava/lang/Object;)Z"⟩ : MethodName)) hown155 (mvT hZ155 (hw _ (List.mem_of_getElem? (i := 99) rfl))) (mvT hZ155 (hw _ (List.mem_of_getElem? (i := 100) rfl))) (notFace_of_selects (args := #[]) (mvT hZ155 (hw _ (List.mem_of_getElem? (i := 102) rfl)))) (mvT hZ155 (hw _ (List.mem_of_getElem? (i := 102) rfl))) (mvT hZ155 (hw _ (List.mem_of_getElem? (i := 101) rfl))) (by decide) (backOf (W := 0) (rmQE l Z a0 hw [] b142 b155 b106 t114 b120 t132 kb114 kb132 ([c0, c1, c2] : List Int32) (3 : Int32) GC (((([c0, c1, c2] : List Int32)).map (fun c => c.toInt8.toInt32)).map Value.int) T155.heap n0 O156 f168 g1155 f169 g2155 f160 f161 f162 f163 f164 f165 f166 f167 hcd hbd (Nat.le_of_ble_eq_true rfl) OC2 OCz) hZ155 (hw _ (List.mem_of_getElem? (i := 103) rfl)) (hw _ (List.mem_of_getElem? (i := 37) rfl)) (by decide) (by decide)) qa172 qc172 (g := (mkF m 341 #[.val (.int p1), .val (.int p2), .val (.int p3), .val (.int p4), .val (.int p5), .val (.int p6), .val (.int n), .val (.int h1), .val (.int h2), .val (.int h3), .val (.int c0), .val (.int c1), .val (.int c2), .val (.int c3), .val (.int c4), .val (.ref b44), .val (.ref b56), .val (.ref b76), .val (.ref b106), .val (.ref b120), .val (.ref b142), .val (.ref b155)] [(.ref b155), (.ref b142)])) rfl (by rw [hml]; rfl) (Steps.refl _) (argsL := [(.ref b155)]) (rest := []) (lenOf pd__Ljava_lang_Object__Z rfl) rfl (by show 2 * 0 + _ ≤ _; exact Nat.le_of_eq rfl) (hb hby at_341) (fun _ _ => ⟨rfl, e171, (by decide : 13 + 0 ≤ _), (by decide : 68 + 0 ≤ _)⟩)
  dsimp only [Pt.U, Pt.locs, Pt.cells, Pt.slots] at X172 l172 y172 z172 st172 hQ172
  subst l172 y172 z172
  obtain ⟨rfl, N172q, e172⟩ := hQ172
  have N172 := Fr.app N171 N172q
  obtain ⟨fs, hr, hrun, hended, hEnd⟩ := X172.leaveW (s := s) hS155r (by rw [e172]; exact (Nat.le_refl _)) (v := some (.int 1)) (fun h => by rw [hret] at h; cases h) hlk
  refine ⟨_, _, ?_, hrun, hended, N172, hEnd.1, hEnd.2.1, hEnd.2.2.1, hEnd.2.2.2.mono (by decide) (by decide)⟩
  show Steps p.tables e below (T0.setTop (mkF m 146 #[.val (.int p1), .val (.int p2), .val (.int p3), .val (.int p4), .val (.int p5), .val (.int p6), .val (.int n), .val (.int h1), .val (.int h2), .val (.int h3), .val (.int c0), .val (.int c1), .val (.int c2), .val (.int c3), .val (.int c4), .unset, .unset, .unset, .unset, .unset, .unset, .unset] [])) _
  refine XS.iconst X0.here hx rfl (hb hby at_146) ?_
  show Steps p.tables e below (T0.setTop (mkF m 147 #[.val (.int p1), .val (.int p2), .val (.int p3), .val (.int p4), .val (.int p5), .val (.int p6), .val (.int n), .val (.int h1), .val (.int h2), .val (.int h3), .val (.int c0), .val (.int c1), .val (.int c2), .val (.int c3), .val (.int c4), .unset, .unset, .unset, .unset, .unset, .unset, .unset] [(.int (3 : Int32))])) _
  refine st44 _ ?_
  show Steps p.tables e below (T44.setTop (mkF m 149 #[.val (.int p1), .val (.int p2), .val (.int p3), .val (.int p4), .val (.int p5), .val (.int p6), .val (.int n), .val (.int h1), .val (.int h2), .val (.int h3), .val (.int c0), .val (.int c1), .val (.int c2), .val (.int c3), .val (.int c4), .unset, .unset, .unset, .unset, .unset, .unset, .unset] [(.ref b44)])) _
  refine XS.dup X44.here hx rfl (hb hby at_149) rfl rfl ?_
  show Steps p.tables e below (T44.setTop (mkF m 150 #[.val (.int p1), .val (.int p2), .val (.int p3), .val (.int p4), .val (.int p5), .val (.int p6), .val (.int n), .val (.int h1), .val (.int h2), .val (.int h3), .val (.int c0), .val (.int c1), .val (.int c2), .val (.int c3), .val (.int c4), .unset, .unset, .unset, .unset, .unset, .unset, .unset] [(.ref b44), (.ref b44)])) _
  refine XS.iconst X44.here hx rfl (hb hby at_150) ?_
  show Steps p.tables e below (T44.setTop (mkF m 151 #[.val (.int p1), .val (.int p2), .val (.int p3), .val (.int p4), .val (.int p5), .val (.int p6), .val (.int n), .val (.int h1), .val (.int h2), .val (.int h3), .val (.int c0), .val (.int c1), .val (.int c2), .val (.int c3), .val (.int c4), .unset, .unset, .unset, .unset, .unset, .unset, .unset] [(.int (0 : Int32)), (.ref b44), (.ref b44)])) _
  refine XS.iload X44.here hx rfl (hb hby at_151) rfl ?_
  show Steps p.tables e below (T44.setTop (mkF m 153 #[.val (.int p1), .val (.int p2), .val (.int p3), .val (.int p4), .val (.int p5), .val (.int p6), .val (.int n), .val (.int h1), .val (.int h2), .val (.int h3), .val (.int c0), .val (.int c1), .val (.int c2), .val (.int c3), .val (.int c4), .unset, .unset, .unset, .unset, .unset, .unset, .unset] [(.int c0), (.int (0 : Int32)), (.ref b44), (.ref b44)])) _
  refine st47 _ ?_
  show Steps p.tables e below (T47.setTop (mkF m 154 #[.val (.int p1), .val (.int p2), .val (.int p3), .val (.int p4), .val (.int p5), .val (.int p6), .val (.int n), .val (.int h1), .val (.int h2), .val (.int h3), .val (.int c0), .val (.int c1), .val (.int c2), .val (.int c3), .val (.int c4), .unset, .unset, .unset, .unset, .unset, .unset, .unset] [(.ref b44)])) _
  refine XS.dup X47.here hx rfl (hb hby at_154) rfl rfl ?_
  show Steps p.tables e below (T47.setTop (mkF m 155 #[.val (.int p1), .val (.int p2), .val (.int p3), .val (.int p4), .val (.int p5), .val (.int p6), .val (.int n), .val (.int h1), .val (.int h2), .val (.int h3), .val (.int c0), .val (.int c1), .val (.int c2), .val (.int c3), .val (.int c4), .unset, .unset, .unset, .unset, .unset, .unset, .unset] [(.ref b44), (.ref b44)])) _
  refine XS.iconst X47.here hx rfl (hb hby at_155) ?_
  show Steps p.tables e below (T47.setTop (mkF m 156 #[.val (.int p1), .val (.int p2), .val (.int p3), .val (.int p4), .val (.int p5), .val (.int p6), .val (.int n), .val (.int h1), .val (.int h2), .val (.int h3), .val (.int c0), .val (.int c1), .val (.int c2), .val (.int c3), .val (.int c4), .unset, .unset, .unset, .unset, .unset, .unset, .unset] [(.int (1 : Int32)), (.ref b44), (.ref b44)])) _
  refine XS.iload X47.here hx rfl (hb hby at_156) rfl ?_
  show Steps p.tables e below (T47.setTop (mkF m 158 #[.val (.int p1), .val (.int p2), .val (.int p3), .val (.int p4), .val (.int p5), .val (.int p6), .val (.int n), .val (.int h1), .val (.int h2), .val (.int h3), .val (.int c0), .val (.int c1), .val (.int c2), .val (.int c3), .val (.int c4), .unset, .unset, .unset, .unset, .unset, .unset, .unset] [(.int c1), (.int (1 : Int32)), (.ref b44), (.ref b44)])) _
  refine st50 _ ?_
  show Steps p.tables e below (T50.setTop (mkF m 159 #[.val (.int p1), .val (.int p2), .val (.int p3), .val (.int p4), .val (.int p5), .val (.int p6), .val (.int n), .val (.int h1), .val (.int h2), .val (.int h3), .val (.int c0), .val (.int c1), .val (.int c2), .val (.int c3), .val (.int c4), .unset, .unset, .unset, .unset, .unset, .unset, .unset] [(.ref b44)])) _
  refine XS.dup X50.here hx rfl (hb hby at_159) rfl rfl ?_
  show Steps p.tables e below (T50.setTop (mkF m 160 #[.val (.int p1), .val (.int p2), .val (.int p3), .val (.int p4), .val (.int p5), .val (.int p6), .val (.int n), .val (.int h1), .val (.int h2), .val (.int h3), .val (.int c0), .val (.int c1), .val (.int c2), .val (.int c3), .val (.int c4), .unset, .unset, .unset, .unset, .unset, .unset, .unset] [(.ref b44), (.ref b44)])) _
  refine XS.iconst X50.here hx rfl (hb hby at_160) ?_
  show Steps p.tables e below (T50.setTop (mkF m 161 #[.val (.int p1), .val (.int p2), .val (.int p3), .val (.int p4), .val (.int p5), .val (.int p6), .val (.int n), .val (.int h1), .val (.int h2), .val (.int h3), .val (.int c0), .val (.int c1), .val (.int c2), .val (.int c3), .val (.int c4), .unset, .unset, .unset, .unset, .unset, .unset, .unset] [(.int (2 : Int32)), (.ref b44), (.ref b44)])) _
  refine XS.iload X50.here hx rfl (hb hby at_161) rfl ?_
  show Steps p.tables e below (T50.setTop (mkF m 163 #[.val (.int p1), .val (.int p2), .val (.int p3), .val (.int p4), .val (.int p5), .val (.int p6), .val (.int n), .val (.int h1), .val (.int h2), .val (.int h3), .val (.int c0), .val (.int c1), .val (.int c2), .val (.int c3), .val (.int c4), .unset, .unset, .unset, .unset, .unset, .unset, .unset] [(.int c2), (.int (2 : Int32)), (.ref b44), (.ref b44)])) _
  refine st53 _ ?_
  show Steps p.tables e below (T53.setTop (mkF m 164 #[.val (.int p1), .val (.int p2), .val (.int p3), .val (.int p4), .val (.int p5), .val (.int p6), .val (.int n), .val (.int h1), .val (.int h2), .val (.int h3), .val (.int c0), .val (.int c1), .val (.int c2), .val (.int c3), .val (.int c4), .unset, .unset, .unset, .unset, .unset, .unset, .unset] [(.ref b44)])) _
  refine XS.astore X53.here hx rfl (hb hby at_164) rfl rfl (l' := #[.val (.int p1), .val (.int p2), .val (.int p3), .val (.int p4), .val (.int p5), .val (.int p6), .val (.int n), .val (.int h1), .val (.int h2), .val (.int h3), .val (.int c0), .val (.int c1), .val (.int c2), .val (.int c3), .val (.int c4), .val (.ref b44), .unset, .unset, .unset, .unset, .unset, .unset]) rfl ?_
  show Steps p.tables e below (T53.setTop (mkF m 166 #[.val (.int p1), .val (.int p2), .val (.int p3), .val (.int p4), .val (.int p5), .val (.int p6), .val (.int n), .val (.int h1), .val (.int h2), .val (.int h3), .val (.int c0), .val (.int c1), .val (.int c2), .val (.int c3), .val (.int c4), .val (.ref b44), .unset, .unset, .unset, .unset, .unset, .unset] [])) _
  refine XS.iconst X53.here hx rfl (hb hby at_166) ?_
  show Steps p.tables e below (T53.setTop (mkF m 167 #[.val (.int p1), .val (.int p2), .val (.int p3), .val (.int p4), .val (.int p5), .val (.int p6), .val (.int n), .val (.int h1), .val (.int h2), .val (.int h3), .val (.int c0), .val (.int c1), .val (.int c2), .val (.int c3), .val (.int c4), .val (.ref b44), .unset, .unset, .unset, .unset, .unset, .unset] [(.int (4 : Int32))])) _
  refine st56 _ ?_
  show Steps p.tables e below (T56.setTop (mkF m 169 #[.val (.int p1), .val (.int p2), .val (.int p3), .val (.int p4), .val (.int p5), .val (.int p6), .val (.int n), .val (.int h1), .val (.int h2), .val (.int h3), .val (.int c0), .val (.int c1), .val (.int c2), .val (.int c3), .val (.int c4), .val (.ref b44), .unset, .unset, .unset, .unset, .unset, .unset] [(.ref b56)])) _
  refine XS.dup X56.here hx rfl (hb hby at_169) rfl rfl ?_
  show Steps p.tables e below (T56.setTop (mkF m 170 #[.val (.int p1), .val (.int p2), .val (.int p3), .val (.int p4), .val (.int p5), .val (.int p6), .val (.int n), .val (.int h1), .val (.int h2), .val (.int h3), .val (.int c0), .val (.int c1), .val (.int c2), .val (.int c3), .val (.int c4), .val (.ref b44), .unset, .unset, .unset, .unset, .unset, .unset] [(.ref b56), (.ref b56)])) _
  refine XS.iconst X56.here hx rfl (hb hby at_170) ?_
  show Steps p.tables e below (T56.setTop (mkF m 171 #[.val (.int p1), .val (.int p2), .val (.int p3), .val (.int p4), .val (.int p5), .val (.int p6), .val (.int n), .val (.int h1), .val (.int h2), .val (.int h3), .val (.int c0), .val (.int c1), .val (.int c2), .val (.int c3), .val (.int c4), .val (.ref b44), .unset, .unset, .unset, .unset, .unset, .unset] [(.int (0 : Int32)), (.ref b56), (.ref b56)])) _
  refine XS.iload X56.here hx rfl (hb hby at_171) rfl ?_
  show Steps p.tables e below (T56.setTop (mkF m 173 #[.val (.int p1), .val (.int p2), .val (.int p3), .val (.int p4), .val (.int p5), .val (.int p6), .val (.int n), .val (.int h1), .val (.int h2), .val (.int h3), .val (.int c0), .val (.int c1), .val (.int c2), .val (.int c3), .val (.int c4), .val (.ref b44), .unset, .unset, .unset, .unset, .unset, .unset] [(.int c0), (.int (0 : Int32)), (.ref b56), (.ref b56)])) _
  refine st60 _ ?_
  show Steps p.tables e below (T60.setTop (mkF m 174 #[.val (.int p1), .val (.int p2), .val (.int p3), .val (.int p4), .val (.int p5), .val (.int p6), .val (.int n), .val (.int h1), .val (.int h2), .val (.int h3), .val (.int c0), .val (.int c1), .val (.int c2), .val (.int c3), .val (.int c4), .val (.ref b44), .unset, .unset, .unset, .unset, .unset, .unset] [(.ref b56)])) _
  refine XS.dup X60.here hx rfl (hb hby at_174) rfl rfl ?_
  show Steps p.tables e below (T60.setTop (mkF m 175 #[.val (.int p1), .val (.int p2), .val (.int p3), .val (.int p4), .val (.int p5), .val (.int p6), .val (.int n), .val (.int h1), .val (.int h2), .val (.int h3), .val (.int c0), .val (.int c1), .val (.int c2), .val (.int c3), .val (.int c4), .val (.ref b44), .unset, .unset, .unset, .unset, .unset, .unset] [(.ref b56), (.ref b56)])) _
  refine XS.iconst X60.here hx rfl (hb hby at_175) ?_
  show Steps p.tables e below (T60.setTop (mkF m 176 #[.val (.int p1), .val (.int p2), .val (.int p3), .val (.int p4), .val (.int p5), .val (.int p6), .val (.int n), .val (.int h1), .val (.int h2), .val (.int h3), .val (.int c0), .val (.int c1), .val (.int c2), .val (.int c3), .val (.int c4), .val (.ref b44), .unset, .unset, .unset, .unset, .unset, .unset] [(.int (1 : Int32)), (.ref b56), (.ref b56)])) _
  refine XS.iload X60.here hx rfl (hb hby at_176) rfl ?_
  show Steps p.tables e below (T60.setTop (mkF m 178 #[.val (.int p1), .val (.int p2), .val (.int p3), .val (.int p4), .val (.int p5), .val (.int p6), .val (.int n), .val (.int h1), .val (.int h2), .val (.int h3), .val (.int c0), .val (.int c1), .val (.int c2), .val (.int c3), .val (.int c4), .val (.ref b44), .unset, .unset, .unset, .unset, .unset, .unset] [(.int c1), (.int (1 : Int32)), (.ref b56), (.ref b56)])) _
  refine st64 _ ?_
  show Steps p.tables e below (T64.setTop (mkF m 179 #[.val (.int p1), .val (.int p2), .val (.int p3), .val (.int p4), .val (.int p5), .val (.int p6), .val (.int n), .val (.int h1), .val (.int h2), .val (.int h3), .val (.int c0), .val (.int c1), .val (.int c2), .val (.int c3), .val (.int c4), .val (.ref b44), .unset, .unset, .unset, .unset, .unset, .unset] [(.ref b56)])) _
  refine XS.dup X64.here hx rfl (hb hby at_179) rfl rfl ?_
  show Steps p.tables e below (T64.setTop (mkF m 180 #[.val (.int p1), .val (.int p2), .val (.int p3), .val (.int p4), .val (.int p5), .val (.int p6), .val (.int n), .val (.int h1), .val (.int h2), .val (.int h3), .val (.int c0), .val (.int c1), .val (.int c2), .val (.int c3), .val (.int c4), .val (.ref b44), .unset, .unset, .unset, .unset, .unset, .unset] [(.ref b56), (.ref b56)])) _
  refine XS.iconst X64.here hx rfl (hb hby at_180) ?_
  show Steps p.tables e below (T64.setTop (mkF m 181 #[.val (.int p1), .val (.int p2), .val (.int p3), .val (.int p4), .val (.int p5), .val (.int p6), .val (.int n), .val (.int h1), .val (.int h2), .val (.int h3), .val (.int c0), .val (.int c1), .val (.int c2), .val (.int c3), .val (.int c4), .val (.ref b44), .unset, .unset, .unset, .unset, .unset, .unset] [(.int (2 : Int32)), (.ref b56), (.ref b56)])) _
  refine XS.iload X64.here hx rfl (hb hby at_181) rfl ?_
  show Steps p.tables e below (T64.setTop (mkF m 183 #[.val (.int p1), .val (.int p2), .val (.int p3), .val (.int p4), .val (.int p5), .val (.int p6), .val (.int n), .val (.int h1), .val (.int h2), .val (.int h3), .val (.int c0), .val (.int c1), .val (.int c2), .val (.int c3), .val (.int c4), .val (.ref b44), .unset, .unset, .unset, .unset, .unset, .unset] [(.int c2), (.int (2 : Int32)), (.ref b56), (.ref b56)])) _
  refine st68 _ ?_
  show Steps p.tables e below (T68.setTop (mkF m 184 #[.val (.int p1), .val (.int p2), .val (.int p3), .val (.int p4), .val (.int p5), .val (.int p6), .val (.int n), .val (.int h1), .val (.int h2), .val (.int h3), .val (.int c0), .val (.int c1), .val (.int c2), .val (.int c3), .val (.int c4), .val (.ref b44), .unset, .unset, .unset, .unset, .unset, .unset] [(.ref b56)])) _
  refine XS.dup X68.here hx rfl (hb hby at_184) rfl rfl ?_
  show Steps p.tables e below (T68.setTop (mkF m 185 #[.val (.int p1), .val (.int p2), .val (.int p3), .val (.int p4), .val (.int p5), .val (.int p6), .val (.int n), .val (.int h1), .val (.int h2), .val (.int h3), .val (.int c0), .val (.int c1), .val (.int c2), .val (.int c3), .val (.int c4), .val (.ref b44), .unset, .unset, .unset, .unset, .unset, .unset] [(.ref b56), (.ref b56)])) _
  refine XS.iconst X68.here hx rfl (hb hby at_185) ?_
  show Steps p.tables e below (T68.setTop (mkF m 186 #[.val (.int p1), .val (.int p2), .val (.int p3), .val (.int p4), .val (.int p5), .val (.int p6), .val (.int n), .val (.int h1), .val (.int h2), .val (.int h3), .val (.int c0), .val (.int c1), .val (.int c2), .val (.int c3), .val (.int c4), .val (.ref b44), .unset, .unset, .unset, .unset, .unset, .unset] [(.int (3 : Int32)), (.ref b56), (.ref b56)])) _
  refine XS.iload X68.here hx rfl (hb hby at_186) rfl ?_
  show Steps p.tables e below (T68.setTop (mkF m 188 #[.val (.int p1), .val (.int p2), .val (.int p3), .val (.int p4), .val (.int p5), .val (.int p6), .val (.int n), .val (.int h1), .val (.int h2), .val (.int h3), .val (.int c0), .val (.int c1), .val (.int c2), .val (.int c3), .val (.int c4), .val (.ref b44), .unset, .unset, .unset, .unset, .unset, .unset] [(.int c3), (.int (3 : Int32)), (.ref b56), (.ref b56)])) _
  refine st72 _ ?_
  show Steps p.tables e below (T72.setTop (mkF m 189 #[.val (.int p1), .val (.int p2), .val (.int p3), .val (.int p4), .val (.int p5), .val (.int p6), .val (.int n), .val (.int h1), .val (.int h2), .val (.int h3), .val (.int c0), .val (.int c1), .val (.int c2), .val (.int c3), .val (.int c4), .val (.ref b44), .unset, .unset, .unset, .unset, .unset, .unset] [(.ref b56)])) _
  refine XS.astore X72.here hx rfl (hb hby at_189) rfl rfl (l' := #[.val (.int p1), .val (.int p2), .val (.int p3), .val (.int p4), .val (.int p5), .val (.int p6), .val (.int n), .val (.int h1), .val (.int h2), .val (.int h3), .val (.int c0), .val (.int c1), .val (.int c2), .val (.int c3), .val (.int c4), .val (.ref b44), .val (.ref b56), .unset, .unset, .unset, .unset, .unset]) rfl ?_
  show Steps p.tables e below (T72.setTop (mkF m 191 #[.val (.int p1), .val (.int p2), .val (.int p3), .val (.int p4), .val (.int p5), .val (.int p6), .val (.int n), .val (.int h1), .val (.int h2), .val (.int h3), .val (.int c0), .val (.int c1), .val (.int c2), .val (.int c3), .val (.int c4), .val (.ref b44), .val (.ref b56), .unset, .unset, .unset, .unset, .unset] [])) _
  refine XS.iconst X72.here hx rfl (hb hby at_191) ?_
  show Steps p.tables e below (T72.setTop (mkF m 192 #[.val (.int p1), .val (.int p2), .val (.int p3), .val (.int p4), .val (.int p5), .val (.int p6), .val (.int n), .val (.int h1), .val (.int h2), .val (.int h3), .val (.int c0), .val (.int c1), .val (.int c2), .val (.int c3), .val (.int c4), .val (.ref b44), .val (.ref b56), .unset, .unset, .unset, .unset, .unset] [(.int (5 : Int32))])) _
  refine st76 _ ?_
  show Steps p.tables e below (T76.setTop (mkF m 194 #[.val (.int p1), .val (.int p2), .val (.int p3), .val (.int p4), .val (.int p5), .val (.int p6), .val (.int n), .val (.int h1), .val (.int h2), .val (.int h3), .val (.int c0), .val (.int c1), .val (.int c2), .val (.int c3), .val (.int c4), .val (.ref b44), .val (.ref b56), .unset, .unset, .unset, .unset, .unset] [(.ref b76)])) _
  refine XS.dup X76.here hx rfl (hb hby at_194) rfl rfl ?_
  show Steps p.tables e below (T76.setTop (mkF m 195 #[.val (.int p1), .val (.int p2), .val (.int p3), .val (.int p4), .val (.int p5), .val (.int p6), .val (.int n), .val (.int h1), .val (.int h2), .val (.int h3), .val (.int c0), .val (.int c1), .val (.int c2), .val (.int c3), .val (.int c4), .val (.ref b44), .val (.ref b56), .unset, .unset, .unset, .unset, .unset] [(.ref b76), (.ref b76)])) _
  refine XS.iconst X76.here hx rfl (hb hby at_195) ?_
  show Steps p.tables e below (T76.setTop (mkF m 196 #[.val (.int p1), .val (.int p2), .val (.int p3), .val (.int p4), .val (.int p5), .val (.int p6), .val (.int n), .val (.int h1), .val (.int h2), .val (.int h3), .val (.int c0), .val (.int c1), .val (.int c2), .val (.int c3), .val (.int c4), .val (.ref b44), .val (.ref b56), .unset, .unset, .unset, .unset, .unset] [(.int (0 : Int32)), (.ref b76), (.ref b76)])) _
  refine XS.iload X76.here hx rfl (hb hby at_196) rfl ?_
  show Steps p.tables e below (T76.setTop (mkF m 198 #[.val (.int p1), .val (.int p2), .val (.int p3), .val (.int p4), .val (.int p5), .val (.int p6), .val (.int n), .val (.int h1), .val (.int h2), .val (.int h3), .val (.int c0), .val (.int c1), .val (.int c2), .val (.int c3), .val (.int c4), .val (.ref b44), .val (.ref b56), .unset, .unset, .unset, .unset, .unset] [(.int c0), (.int (0 : Int32)), (.ref b76), (.ref b76)])) _
  refine st81 _ ?_
  show Steps p.tables e below (T81.setTop (mkF m 199 #[.val (.int p1), .val (.int p2), .val (.int p3), .val (.int p4), .val (.int p5), .val (.int p6), .val (.int n), .val (.int h1), .val (.int h2), .val (.int h3), .val (.int c0), .val (.int c1), .val (.int c2), .val (.int c3), .val (.int c4), .val (.ref b44), .val (.ref b56), .unset, .unset, .unset, .unset, .unset] [(.ref b76)])) _
  refine XS.dup X81.here hx rfl (hb hby at_199) rfl rfl ?_
  show Steps p.tables e below (T81.setTop (mkF m 200 #[.val (.int p1), .val (.int p2), .val (.int p3), .val (.int p4), .val (.int p5), .val (.int p6), .val (.int n), .val (.int h1), .val (.int h2), .val (.int h3), .val (.int c0), .val (.int c1), .val (.int c2), .val (.int c3), .val (.int c4), .val (.ref b44), .val (.ref b56), .unset, .unset, .unset, .unset, .unset] [(.ref b76), (.ref b76)])) _
  refine XS.iconst X81.here hx rfl (hb hby at_200) ?_
  show Steps p.tables e below (T81.setTop (mkF m 201 #[.val (.int p1), .val (.int p2), .val (.int p3), .val (.int p4), .val (.int p5), .val (.int p6), .val (.int n), .val (.int h1), .val (.int h2), .val (.int h3), .val (.int c0), .val (.int c1), .val (.int c2), .val (.int c3), .val (.int c4), .val (.ref b44), .val (.ref b56), .unset, .unset, .unset, .unset, .unset] [(.int (1 : Int32)), (.ref b76), (.ref b76)])) _
  refine XS.iload X81.here hx rfl (hb hby at_201) rfl ?_
  show Steps p.tables e below (T81.setTop (mkF m 203 #[.val (.int p1), .val (.int p2), .val (.int p3), .val (.int p4), .val (.int p5), .val (.int p6), .val (.int n), .val (.int h1), .val (.int h2), .val (.int h3), .val (.int c0), .val (.int c1), .val (.int c2), .val (.int c3), .val (.int c4), .val (.ref b44), .val (.ref b56), .unset, .unset, .unset, .unset, .unset] [(.int c1), (.int (1 : Int32)), (.ref b76), (.ref b76)])) _
  refine st86 _ ?_
  show Steps p.tables e below (T86.setTop (mkF m 204 #[.val (.int p1), .val (.int p2), .val (.int p3), .val (.int p4), .val (.int p5), .val (.int p6), .val (.int n), .val (.int h1), .val (.int h2), .val (.int h3), .val (.int c0), .val (.int c1), .val (.int c2), .val (.int c3), .val (.int c4), .val (.ref b44), .val (.ref b56), .unset, .unset, .unset, .unset, .unset] [(.ref b76)])) _
  refine XS.dup X86.here hx rfl (hb hby at_204) rfl rfl ?_
  show Steps p.tables e below (T86.setTop (mkF m 205 #[.val (.int p1), .val (.int p2), .val (.int p3), .val (.int p4), .val (.int p5), .val (.int p6), .val (.int n), .val (.int h1), .val (.int h2), .val (.int h3), .val (.int c0), .val (.int c1), .val (.int c2), .val (.int c3), .val (.int c4), .val (.ref b44), .val (.ref b56), .unset, .unset, .unset, .unset, .unset] [(.ref b76), (.ref b76)])) _
  refine XS.iconst X86.here hx rfl (hb hby at_205) ?_
  show Steps p.tables e below (T86.setTop (mkF m 206 #[.val (.int p1), .val (.int p2), .val (.int p3), .val (.int p4), .val (.int p5), .val (.int p6), .val (.int n), .val (.int h1), .val (.int h2), .val (.int h3), .val (.int c0), .val (.int c1), .val (.int c2), .val (.int c3), .val (.int c4), .val (.ref b44), .val (.ref b56), .unset, .unset, .unset, .unset, .unset] [(.int (2 : Int32)), (.ref b76), (.ref b76)])) _
  refine XS.iload X86.here hx rfl (hb hby at_206) rfl ?_
  show Steps p.tables e below (T86.setTop (mkF m 208 #[.val (.int p1), .val (.int p2), .val (.int p3), .val (.int p4), .val (.int p5), .val (.int p6), .val (.int n), .val (.int h1), .val (.int h2), .val (.int h3), .val (.int c0), .val (.int c1), .val (.int c2), .val (.int c3), .val (.int c4), .val (.ref b44), .val (.ref b56), .unset, .unset, .unset, .unset, .unset] [(.int c2), (.int (2 : Int32)), (.ref b76), (.ref b76)])) _
  refine st91 _ ?_
  show Steps p.tables e below (T91.setTop (mkF m 209 #[.val (.int p1), .val (.int p2), .val (.int p3), .val (.int p4), .val (.int p5), .val (.int p6), .val (.int n), .val (.int h1), .val (.int h2), .val (.int h3), .val (.int c0), .val (.int c1), .val (.int c2), .val (.int c3), .val (.int c4), .val (.ref b44), .val (.ref b56), .unset, .unset, .unset, .unset, .unset] [(.ref b76)])) _
  refine XS.dup X91.here hx rfl (hb hby at_209) rfl rfl ?_
  show Steps p.tables e below (T91.setTop (mkF m 210 #[.val (.int p1), .val (.int p2), .val (.int p3), .val (.int p4), .val (.int p5), .val (.int p6), .val (.int n), .val (.int h1), .val (.int h2), .val (.int h3), .val (.int c0), .val (.int c1), .val (.int c2), .val (.int c3), .val (.int c4), .val (.ref b44), .val (.ref b56), .unset, .unset, .unset, .unset, .unset] [(.ref b76), (.ref b76)])) _
  refine XS.iconst X91.here hx rfl (hb hby at_210) ?_
  show Steps p.tables e below (T91.setTop (mkF m 211 #[.val (.int p1), .val (.int p2), .val (.int p3), .val (.int p4), .val (.int p5), .val (.int p6), .val (.int n), .val (.int h1), .val (.int h2), .val (.int h3), .val (.int c0), .val (.int c1), .val (.int c2), .val (.int c3), .val (.int c4), .val (.ref b44), .val (.ref b56), .unset, .unset, .unset, .unset, .unset] [(.int (3 : Int32)), (.ref b76), (.ref b76)])) _
  refine XS.iload X91.here hx rfl (hb hby at_211) rfl ?_
  show Steps p.tables e below (T91.setTop (mkF m 213 #[.val (.int p1), .val (.int p2), .val (.int p3), .val (.int p4), .val (.int p5), .val (.int p6), .val (.int n), .val (.int h1), .val (.int h2), .val (.int h3), .val (.int c0), .val (.int c1), .val (.int c2), .val (.int c3), .val (.int c4), .val (.ref b44), .val (.ref b56), .unset, .unset, .unset, .unset, .unset] [(.int c3), (.int (3 : Int32)), (.ref b76), (.ref b76)])) _
  refine st96 _ ?_
  show Steps p.tables e below (T96.setTop (mkF m 214 #[.val (.int p1), .val (.int p2), .val (.int p3), .val (.int p4), .val (.int p5), .val (.int p6), .val (.int n), .val (.int h1), .val (.int h2), .val (.int h3), .val (.int c0), .val (.int c1), .val (.int c2), .val (.int c3), .val (.int c4), .val (.ref b44), .val (.ref b56), .unset, .unset, .unset, .unset, .unset] [(.ref b76)])) _
  refine XS.dup X96.here hx rfl (hb hby at_214) rfl rfl ?_
  show Steps p.tables e below (T96.setTop (mkF m 215 #[.val (.int p1), .val (.int p2), .val (.int p3), .val (.int p4), .val (.int p5), .val (.int p6), .val (.int n), .val (.int h1), .val (.int h2), .val (.int h3), .val (.int c0), .val (.int c1), .val (.int c2), .val (.int c3), .val (.int c4), .val (.ref b44), .val (.ref b56), .unset, .unset, .unset, .unset, .unset] [(.ref b76), (.ref b76)])) _
  refine XS.iconst X96.here hx rfl (hb hby at_215) ?_
  show Steps p.tables e below (T96.setTop (mkF m 216 #[.val (.int p1), .val (.int p2), .val (.int p3), .val (.int p4), .val (.int p5), .val (.int p6), .val (.int n), .val (.int h1), .val (.int h2), .val (.int h3), .val (.int c0), .val (.int c1), .val (.int c2), .val (.int c3), .val (.int c4), .val (.ref b44), .val (.ref b56), .unset, .unset, .unset, .unset, .unset] [(.int (4 : Int32)), (.ref b76), (.ref b76)])) _
  refine XS.iload X96.here hx rfl (hb hby at_216) rfl ?_
  show Steps p.tables e below (T96.setTop (mkF m 218 #[.val (.int p1), .val (.int p2), .val (.int p3), .val (.int p4), .val (.int p5), .val (.int p6), .val (.int n), .val (.int h1), .val (.int h2), .val (.int h3), .val (.int c0), .val (.int c1), .val (.int c2), .val (.int c3), .val (.int c4), .val (.ref b44), .val (.ref b56), .unset, .unset, .unset, .unset, .unset] [(.int c4), (.int (4 : Int32)), (.ref b76), (.ref b76)])) _
  refine st101 _ ?_
  show Steps p.tables e below (T101.setTop (mkF m 219 #[.val (.int p1), .val (.int p2), .val (.int p3), .val (.int p4), .val (.int p5), .val (.int p6), .val (.int n), .val (.int h1), .val (.int h2), .val (.int h3), .val (.int c0), .val (.int c1), .val (.int c2), .val (.int c3), .val (.int c4), .val (.ref b44), .val (.ref b56), .unset, .unset, .unset, .unset, .unset] [(.ref b76)])) _
  refine XS.astore X101.here hx rfl (hb hby at_219) rfl rfl (l' := #[.val (.int p1), .val (.int p2), .val (.int p3), .val (.int p4), .val (.int p5), .val (.int p6), .val (.int n), .val (.int h1), .val (.int h2), .val (.int h3), .val (.int c0), .val (.int c1), .val (.int c2), .val (.int c3), .val (.int c4), .val (.ref b44), .val (.ref b56), .val (.ref b76), .unset, .unset, .unset, .unset]) rfl ?_
  show Steps p.tables e below (T101.setTop (mkF m 221 #[.val (.int p1), .val (.int p2), .val (.int p3), .val (.int p4), .val (.int p5), .val (.int p6), .val (.int n), .val (.int h1), .val (.int h2), .val (.int h3), .val (.int c0), .val (.int c1), .val (.int c2), .val (.int c3), .val (.int c4), .val (.ref b44), .val (.ref b56), .val (.ref b76), .unset, .unset, .unset, .unset] [])) _
  refine XS.iload X101.here hx rfl (hb hby at_221) rfl ?_
  show Steps p.tables e below (T101.setTop (mkF m 223 #[.val (.int p1), .val (.int p2), .val (.int p3), .val (.int p4), .val (.int p5), .val (.int p6), .val (.int n), .val (.int h1), .val (.int h2), .val (.int h3), .val (.int c0), .val (.int c1), .val (.int c2), .val (.int c3), .val (.int c4), .val (.ref b44), .val (.ref b56), .val (.ref b76), .unset, .unset, .unset, .unset] [(.int n)])) _
  refine XS.iconst X101.here hx rfl (hb hby at_223) ?_
  show Steps p.tables e below (T101.setTop (mkF m 224 #[.val (.int p1), .val (.int p2), .val (.int p3), .val (.int p4), .val (.int p5), .val (.int p6), .val (.int n), .val (.int h1), .val (.int h2), .val (.int h3), .val (.int c0), .val (.int c1), .val (.int c2), .val (.int c3), .val (.int c4), .val (.ref b44), .val (.ref b56), .val (.ref b76), .unset, .unset, .unset, .unset] [(.int (3 : Int32)), (.int n)])) _
  refine XS.icmpNo X101.here hx rfl (hb hby at_224) rfl (teq (hn : n = (3 : Int32))).2 ?_
  show Steps p.tables e below (T101.setTop (mkF m 227 #[.val (.int p1), .val (.int p2), .val (.int p3), .val (.int p4), .val (.int p5), .val (.int p6), .val (.int n), .val (.int h1), .val (.int h2), .val (.int h3), .val (.int c0), .val (.int c1), .val (.int c2), .val (.int c3), .val (.int c4), .val (.ref b44), .val (.ref b56), .val (.ref b76), .unset, .unset, .unset, .unset] [])) _
  refine st106 _ ?_
  show Steps p.tables e below (T106.setTop (mkF m 230 #[.val (.int p1), .val (.int p2), .val (.int p3), .val (.int p4), .val (.int p5), .val (.int p6), .val (.int n), .val (.int h1), .val (.int h2), .val (.int h3), .val (.int c0), .val (.int c1), .val (.int c2), .val (.int c3), .val (.int c4), .val (.ref b44), .val (.ref b56), .val (.ref b76), .unset, .unset, .unset, .unset] [(.ref b106)])) _
  refine XS.dup X106.here hx rfl (hb hby at_230) rfl rfl ?_
  show Steps p.tables e below (T106.setTop (mkF m 231 #[.val (.int p1), .val (.int p2), .val (.int p3), .val (.int p4), .val (.int p5), .val (.int p6), .val (.int n), .val (.int h1), .val (.int h2), .val (.int h3), .val (.int c0), .val (.int c1), .val (.int c2), .val (.int c3), .val (.int c4), .val (.ref b44), .val (.ref b56), .val (.ref b76), .unset, .unset, .unset, .unset] [(.ref b106), (.ref b106)])) _
  refine XS.aload X106.here hx rfl (hb hby at_231) rfl rfl ?_
  show Steps p.tables e below (T106.setTop (mkF m 233 #[.val (.int p1), .val (.int p2), .val (.int p3), .val (.int p4), .val (.int p5), .val (.int p6), .val (.int n), .val (.int h1), .val (.int h2), .val (.int h3), .val (.int c0), .val (.int c1), .val (.int c2), .val (.int c3), .val (.int c4), .val (.ref b44), .val (.ref b56), .val (.ref b76), .unset, .unset, .unset, .unset] [(.ref b44), (.ref b106), (.ref b106)])) _
  refine st114.trans ?_
  show Steps p.tables e below (T114.setTop (mkF m 236 #[.val (.int p1), .val (.int p2), .val (.int p3), .val (.int p4), .val (.int p5), .val (.int p6), .val (.int n), .val (.int h1), .val (.int h2), .val (.int h3), .val (.int c0), .val (.int c1), .val (.int c2), .val (.int c3), .val (.int c4), .val (.ref b44), .val (.ref b56), .val (.ref b76), .unset, .unset, .unset, .unset] [(.ref b106)])) _
  refine XS.astore X114.here hx rfl (hb hby at_236) rfl rfl (l' := #[.val (.int p1), .val (.int p2), .val (.int p3), .val (.int p4), .val (.int p5), .val (.int p6), .val (.int n), .val (.int h1), .val (.int h2), .val (.int h3), .val (.int c0), .val (.int c1), .val (.int c2), .val (.int c3), .val (.int c4), .val (.ref b44), .val (.ref b56), .val (.ref b76), .val (.ref b106), .unset, .unset, .unset]) rfl ?_
  show Steps p.tables e below (T114.setTop (mkF m 238 #[.val (.int p1), .val (.int p2), .val (.int p3), .val (.int p4), .val (.int p5), .val (.int p6), .val (.int n), .val (.int h1), .val (.int h2), .val (.int h3), .val (.int c0), .val (.int c1), .val (.int c2), .val (.int c3), .val (.int c4), .val (.ref b44), .val (.ref b56), .val (.ref b76), .val (.ref b106), .unset, .unset, .unset] [])) _
  refine st120 _ ?_
  show Steps p.tables e below (T120.setTop (mkF m 241 #[.val (.int p1), .val (.int p2), .val (.int p3), .val (.int p4), .val (.int p5), .val (.int p6), .val (.int n), .val (.int h1), .val (.int h2), .val (.int h3), .val (.int c0), .val (.int c1), .val (.int c2), .val (.int c3), .val (.int c4), .val (.ref b44), .val (.ref b56), .val (.ref b76), .val (.ref b106), .unset, .unset, .unset] [(.ref b120)])) _
  refine XS.dup X120.here hx rfl (hb hby at_241) rfl rfl ?_
  show Steps p.tables e below (T120.setTop (mkF m 242 #[.val (.int p1), .val (.int p2), .val (.int p3), .val (.int p4), .val (.int p5), .val (.int p6), .val (.int n), .val (.int h1), .val (.int h2), .val (.int h3), .val (.int c0), .val (.int c1), .val (.int c2), .val (.int c3), .val (.int c4), .val (.ref b44), .val (.ref b56), .val (.ref b76), .val (.ref b106), .unset, .unset, .unset] [(.ref b120), (.ref b120)])) _
  refine XS.aload X120.here hx rfl (hb hby at_242) rfl rfl ?_
  show Steps p.tables e below (T120.setTop (mkF m 244 #[.val (.int p1), .val (.int p2), .val (.int p3), .val (.int p4), .val (.int p5), .val (.int p6), .val (.int n), .val (.int h1), .val (.int h2), .val (.int h3), .val (.int c0), .val (.int c1), .val (.int c2), .val (.int c3), .val (.int c4), .val (.ref b44), .val (.ref b56), .val (.ref b76), .val (.ref b106), .unset, .unset, .unset] [(.ref b44), (.ref b120), (.ref b120)])) _
  refine st132.trans ?_
  show Steps p.tables e below (T132.setTop (mkF m 247 #[.val (.int p1), .val (.int p2), .val (.int p3), .val (.int p4), .val (.int p5), .val (.int p6), .val (.int n), .val (.int h1), .val (.int h2), .val (.int h3), .val (.int c0), .val (.int c1), .val (.int c2), .val (.int c3), .val (.int c4), .val (.ref b44), .val (.ref b56), .val (.ref b76), .val (.ref b106), .unset, .unset, .unset] [(.ref b120)])) _
  refine XS.astore X132.here hx rfl (hb hby at_247) rfl rfl (l' := #[.val (.int p1), .val (.int p2), .val (.int p3), .val (.int p4), .val (.int p5), .val (.int p6), .val (.int n), .val (.int h1), .val (.int h2), .val (.int h3), .val (.int c0), .val (.int c1), .val (.int c2), .val (.int c3), .val (.int c4), .val (.ref b44), .val (.ref b56), .val (.ref b76), .val (.ref b106), .val (.ref b120), .unset, .unset]) rfl ?_
  show Steps p.tables e below (T132.setTop (mkF m 249 #[.val (.int p1), .val (.int p2), .val (.int p3), .val (.int p4), .val (.int p5), .val (.int p6), .val (.int n), .val (.int h1), .val (.int h2), .val (.int h3), .val (.int c0), .val (.int c1), .val (.int c2), .val (.int c3), .val (.int c4), .val (.ref b44), .val (.ref b56), .val (.ref b76), .val (.ref b106), .val (.ref b120), .unset, .unset] [])) _
  refine XS.goto X132.here hx rfl (pc0 := 249) (pc' := 305) rfl (hb hby at_249) (by decide) (by decide) ?_
  show Steps p.tables e below (T132.setTop (mkF m 305 #[.val (.int p1), .val (.int p2), .val (.int p3), .val (.int p4), .val (.int p5), .val (.int p6), .val (.int n), .val (.int h1), .val (.int h2), .val (.int h3), .val (.int c0), .val (.int c1), .val (.int c2), .val (.int c3), .val (.int c4), .val (.ref b44), .val (.ref b56), .val (.ref b76), .val (.ref b106), .val (.ref b120), .unset, .unset] [])) _
  refine XS.aload X132.here hx rfl (hb hby at_305) rfl rfl ?_
  show Steps p.tables e below (T132.setTop (mkF m 307 #[.val (.int p1), .val (.int p2), .val (.int p3), .val (.int p4), .val (.int p5), .val (.int p6), .val (.int n), .val (.int h1), .val (.int h2), .val (.int h3), .val (.int c0), .val (.int c1), .val (.int c2), .val (.int c3), .val (.int c4), .val (.ref b44), .val (.ref b56), .val (.ref b76), .val (.ref b106), .val (.ref b120), .unset, .unset] [(.ref b106)])) _
  refine st142.trans ?_
  show Steps p.tables e below (T142.setTop (mkF m 310 #[.val (.int p1), .val (.int p2), .val (.int p3), .val (.int p4), .val (.int p5), .val (.int p6), .val (.int n), .val (.int h1), .val (.int h2), .val (.int h3), .val (.int c0), .val (.int c1), .val (.int c2), .val (.int c3), .val (.int c4), .val (.ref b44), .val (.ref b56), .val (.ref b76), .val (.ref b106), .val (.ref b120), .unset, .unset] [(.ref b142)])) _
  refine XS.astore X142r.here hx rfl (hb hby at_310) rfl rfl (l' := #[.val (.int p1), .val (.int p2), .val (.int p3), .val (.int p4), .val (.int p5), .val (.int p6), .val (.int n), .val (.int h1), .val (.int h2), .val (.int h3), .val (.int c0), .val (.int c1), .val (.int c2), .val (.int c3), .val (.int c4), .val (.ref b44), .val (.ref b56), .val (.ref b76), .val (.ref b106), .val (.ref b120), .val (.ref b142), .unset]) rfl ?_
  show Steps p.tables e below (T142.setTop (mkF m 312 #[.val (.int p1), .val (.int p2), .val (.int p3), .val (.int p4), .val (.int p5), .val (.int p6), .val (.int n), .val (.int h1), .val (.int h2), .val (.int h3), .val (.int c0), .val (.int c1), .val (.int c2), .val (.int c3), .val (.int c4), .val (.ref b44), .val (.ref b56), .val (.ref b76), .val (.ref b106), .val (.ref b120), .val (.ref b142), .unset] [])) _
  refine XS.aload X142r.here hx rfl (hb hby at_312) rfl rfl ?_
  show Steps p.tables e below (T142.setTop (mkF m 314 #[.val (.int p1), .val (.int p2), .val (.int p3), .val (.int p4), .val (.int p5), .val (.int p6), .val (.int n), .val (.int h1), .val (.int h2), .val (.int h3), .val (.int c0), .val (.int c1), .val (.int c2), .val (.int c3), .val (.int c4), .val (.ref b44), .val (.ref b56), .val (.ref b76), .val (.ref b106), .val (.ref b120), .val (.ref b142), .unset] [(.ref b120)])) _
  refine st155.trans ?_
  show Steps p.tables e below (T155.setTop (mkF m 317 #[.val (.int p1), .val (.int p2), .val (.int p3), .val (.int p4), .val (.int p5), .val (.int p6), .val (.int n), .val (.int h1), .val (.int h2), .val (.int h3), .val (.int c0), .val (.int c1), .val (.int c2), .val (.int c3), .val (.int c4), .val (.ref b44), .val (.ref b56), .val (.ref b76), .val (.ref b106), .val (.ref b120), .val (.ref b142), .unset] [(.ref b155)])) _
  refine XS.astore X155r.here hx rfl (hb hby at_317) rfl rfl (l' := #[.val (.int p1), .val (.int p2), .val (.int p3), .val (.int p4), .val (.int p5), .val (.int p6), .val (.int n), .val (.int h1), .val (.int h2), .val (.int h3), .val (.int c0), .val (.int c1), .val (.int c2), .val (.int c3), .val (.int c4), .val (.ref b44), .val (.ref b56), .val (.ref b76), .val (.ref b106), .val (.ref b120), .val (.ref b142), .val (.ref b155)]) rfl ?_
  show Steps p.tables e below (T155.setTop (mkF m 319 #[.val (.int p1), .val (.int p2), .val (.int p3), .val (.int p4), .val (.int p5), .val (.int p6), .val (.int n), .val (.int h1), .val (.int h2), .val (.int h3), .val (.int c0), .val (.int c1), .val (.int c2), .val (.int c3), .val (.int c4), .val (.ref b44), .val (.ref b56), .val (.ref b76), .val (.ref b106), .val (.ref b120), .val (.ref b142), .val (.ref b155)] [])) _
  refine XS.aload X155r.here hx rfl (hb hby at_319) rfl rfl ?_
  show Steps p.tables e below (T155.setTop (mkF m 321 #[.val (.int p1), .val (.int p2), .val (.int p3), .val (.int p4), .val (.int p5), .val (.int p6), .val (.int n), .val (.int h1), .val (.int h2), .val (.int h3), .val (.int c0), .val (.int c1), .val (.int c2), .val (.int c3), .val (.int c4), .val (.ref b44), .val (.ref b56), .val (.ref b76), .val (.ref b106), .val (.ref b120), .val (.ref b142), .val (.ref b155)] [(.ref b142)])) _
  refine XS.ifnullNo X155r.here hx rfl (hb hby at_321) rfl ?_
  show Steps p.tables e below (T155.setTop (mkF m 324 #[.val (.int p1), .val (.int p2), .val (.int p3), .val (.int p4), .val (.int p5), .val (.int p6), .val (.int n), .val (.int h1), .val (.int h2), .val (.int h3), .val (.int c0), .val (.int c1), .val (.int c2), .val (.int c3), .val (.int c4), .val (.ref b44), .val (.ref b56), .val (.ref b76), .val (.ref b106), .val (.ref b120), .val (.ref b142), .val (.ref b155)] [])) _
  refine XS.aload X155r.here hx rfl (hb hby at_324) rfl rfl ?_
  show Steps p.tables e below (T155.setTop (mkF m 326 #[.val (.int p1), .val (.int p2), .val (.int p3), .val (.int p4), .val (.int p5), .val (.int p6), .val (.int n), .val (.int h1), .val (.int h2), .val (.int h3), .val (.int c0), .val (.int c1), .val (.int c2), .val (.int c3), .val (.int c4), .val (.ref b44), .val (.ref b56), .val (.ref b76), .val (.ref b106), .val (.ref b120), .val (.ref b142), .val (.ref b155)] [(.ref b142)])) _
  refine st170.trans ?_
  show Steps p.tables e below (T170.setTop (mkF m 329 #[.val (.int p1), .val (.int p2), .val (.int p3), .val (.int p4), .val (.int p5), .val (.int p6), .val (.int n), .val (.int h1), .val (.int h2), .val (.int h3), .val (.int c0), .val (.int c1), .val (.int c2), .val (.int c3), .val (.int c4), .val (.ref b44), .val (.ref b56), .val (.ref b76), .val (.ref b106), .val (.ref b120), .val (.ref b142), .val (.ref b155)] [(.ref b106)])) _
  refine XS.aload X170.here hx rfl (hb hby at_329) rfl rfl ?_
  show Steps p.tables e below (T170.setTop (mkF m 331 #[.val (.int p1), .val (.int p2), .val (.int p3), .val (.int p4), .val (.int p5), .val (.int p6), .val (.int n), .val (.int h1), .val (.int h2), .val (.int h3), .val (.int c0), .val (.int c1), .val (.int c2), .val (.int c3), .val (.int c4), .val (.ref b44), .val (.ref b56), .val (.ref b76), .val (.ref b106), .val (.ref b120), .val (.ref b142), .val (.ref b155)] [(.ref b106), (.ref b106)])) _
  refine st171.trans ?_
  show Steps p.tables e below (T171.setTop (mkF m 334 #[.val (.int p1), .val (.int p2), .val (.int p3), .val (.int p4), .val (.int p5), .val (.int p6), .val (.int n), .val (.int h1), .val (.int h2), .val (.int h3), .val (.int c0), .val (.int c1), .val (.int c2), .val (.int c3), .val (.int c4), .val (.ref b44), .val (.ref b56), .val (.ref b76), .val (.ref b106), .val (.ref b120), .val (.ref b142), .val (.ref b155)] [(.int (1 : Int32))])) _
  refine XS.ifNo X171.here hx rfl (hb hby at_334) rfl ((if0 _ _).trans (feq (by decide : ¬ ((1 : Int32) = (0 : Int32)))).1) ?_
  show Steps p.tables e below (T171.setTop (mkF m 337 #[.val (.int p1), .val (.int p2), .val (.int p3), .val (.int p4), .val (.int p5), .val (.int p6), .val (.int n), .val (.int h1), .val (.int h2), .val (.int h3), .val (.int c0), .val (.int c1), .val (.int c2), .val (.int c3), .val (.int c4), .val (.ref b44), .val (.ref b56), .val (.ref b76), .val (.ref b106), .val (.ref b120), .val (.ref b142), .val (.ref b155)] [])) _
  refine XS.aload X171.here hx rfl (hb hby at_337) rfl rfl ?_
  show Steps p.tables e below (T171.setTop (mkF m 339 #[.val (.int p1), .val (.int p2), .val (.int p3), .val (.int p4), .val (.int p5), .val (.int p6), .val (.int n), .val (.int h1), .val (.int h2), .val (.int h3), .val (.int c0), .val (.int c1), .val (.int c2), .val (.int c3), .val (.int c4), .val (.ref b44), .val (.ref b56), .val (.ref b76), .val (.ref b106), .val (.ref b120), .val (.ref b142), .val (.ref b155)] [(.ref b142)])) _
  refine XS.aload X171.here hx rfl (hb hby at_339) rfl rfl ?_
  show Steps p.tables e below (T171.setTop (mkF m 341 #[.val (.int p1), .val (.int p2), .val (.int p3), .val (.int p4), .val (.int p5), .val (.int p6), .val (.int n), .val (.int h1), .val (.int h2), .val (.int h3), .val (.int c0), .val (.int c1), .val (.int c2), .val (.int c3), .val (.int c4), .val (.ref b44), .val (.ref b56), .val (.ref b76), .val (.ref b106), .val (.ref b120), .val (.ref b142), .val (.ref b155)] [(.ref b155), (.ref b142)])) _
  refine st172.trans ?_
  show Steps p.tables e below (T172.setTop (mkF m 344 #[.val (.int p1), .val (.int p2), .val (.int p3), .val (.int p4), .val (.int p5), .val (.int p6), .val (.int n), .val (.int h1), .val (.int h2), .val (.int h3), .val (.int c0), .val (.int c1), .val (.int c2), .val (.int c3), .val (.int c4), .val (.ref b44), .val (.ref b56), .val (.ref b76), .val (.ref b106), .val (.ref b120), .val (.ref b142), .val (.ref b155)] [(.int (1 : Int32))])) _
  refine XS.ifNo X172.here hx rfl (hb hby at_344) rfl ((if0 _ _).trans (feq (by decide : ¬ ((1 : Int32) = (0 : Int32)))).1) ?_
  show Steps p.tables e below (T172.setTop (mkF m 347 #[.val (.int p1), .val (.int p2), .val (.int p3), .val (.int p4), .val (.int p5), .val (.int p6), .val (.int n), .val (.int h1), .val (.int h2), .val (.int h3), .val (.int c0), .val (.int c1), .val (.int c2), .val (.int c3), .val (.int c4), .val (.ref b44), .val (.ref b56), .val (.ref b76), .val (.ref b106), .val (.ref b120), .val (.ref b142), .val (.ref b155)] [])) _
  refine XS.iconst X172.here hx rfl (hb hby at_347) ?_
  show Steps p.tables e below (T172.setTop (mkF m 348 #[.val (.int p1), .val (.int p2), .val (.int p3), .val (.int p4), .val (.int p5), .val (.int p6), .val (.int n), .val (.int h1), .val (.int h2), .val (.int h3), .val (.int c0), .val (.int c1), .val (.int c2), .val (.int c3), .val (.int c4), .val (.ref b44), .val (.ref b56), .val (.ref b76), .val (.ref b106), .val (.ref b120), .val (.ref b142), .val (.ref b155)] [(.int (1 : Int32))])) _
  refine XS.goto X172.here hx rfl (pc0 := 348) (pc' := 352) rfl (hb hby at_348) (by decide) (by decide) ?_
  show Steps p.tables e below (T172.setTop (mkF m 352 #[.val (.int p1), .val (.int p2), .val (.int p3), .val (.int p4), .val (.int p5), .val (.int p6), .val (.int n), .val (.int h1), .val (.int h2), .val (.int h3), .val (.int c0), .val (.int c1), .val (.int c2), .val (.int c3), .val (.int c4), .val (.ref b44), .val (.ref b56), .val (.ref b76), .val (.ref b106), .val (.ref b120), .val (.ref b142), .val (.ref b155)] [(.int (1 : Int32))])) _
  exact retN X172 hx (t := .boolean) hret (by simp) (hb hby at_352) hr
set_option maxRecDepth 65536 in
set_option maxHeartbeats 40000000 in
theorem rest4 {p : Program} {l : Launch} {e : Env} {s : State} {m : MethodId} {args : Array Value} {below : List Frame} {meth : Method} {c : Code} {T0 : State} {locs : List Loc} {Z : State} {a0 : Array Value} {h0 : Heap} {n0 : Nat} (p1 p2 p3 p4 p5 p6 n h1 h2 h3 c0 c1 c2 c3 c4 GC : Int32) (fm : Value)
    (X0 : Stand p l e room_1 (s.setVm s.vm) m args below meth c T0 locs 0 0) (hx : p.tables.exec = Jvm.exec) (hZ : Z.Warmed39 s.vm) (hw : ∀ d ∈ tables_1, d.before a0 Z = true) (hby : c.code = code) (hml : c.maxLocals = 22) (hown : s.vm.findClass "com/example/nimble_queue/nimblequeue/core/QueueNameOfPinLaw" = some m.cls) (hret : meth.sig.returnType = some .boolean) (hlk : meth.locks = false) (e0 : T0.heap = h0) (N0 : Fr n0 locs) (O0 : Old Z n0 h0) (wS : ∀ a ∈ Bundle.stringAtoms, a.before a0 Z = true) (OC2 : Sta Z Z.heap "java/lang/String" "COMPACT_STRINGS" "Z" (.int GC)) (OCz : ¬ (GC = (0 : Int32))) (OF4 : Sta Z Z.heap "jdk/internal/util/Preconditions" "SIOOBE_FORMATTER" "Ljava/util/function/BiFunction;" fm) (OFr : fm.isRef = true) (hna0 : nar .char c0 = c0) (hr0 : ¬ c0 < 0 ∧ ¬ (255 : Int32) < c0) (hna1 : nar .char c1 = c1) (hr1 : ¬ c1 < 0 ∧ ¬ (255 : Int32) < c1) (hna2 : nar .char c2 = c2) (hr2 : ¬ c2 < 0 ∧ ¬ (255 : Int32) < c2) (hna3 : nar .char c3 = c3) (hr3 : ¬ c3 < 0 ∧ ¬ (255 : Int32) < c3) (hna4 : nar .char c4 = c4) (hr4 : ¬ c4 < 0 ∧ ¬ (255 : Int32) < c4) (hok : own_ok [c0, c1, c2, c3]) (hn3 : ¬ (n = (3 : Int32))) (hn : n = (4 : Int32)) :
    ∃ (U' : State) (L : List Loc), Steps p.tables e below (T0.setTop (mkF m 146 #[.val (.int p1), .val (.int p2), .val (.int p3), .val (.int p4), .val (.int p5), .val (.int p6), .val (.int n), .val (.int h1), .val (.int h2), .val (.int h3), .val (.int c0), .val (.int c1), .val (.int c2), .val (.int c3), .val (.int c4), .unset, .unset, .unset, .unset, .unset, .unset, .unset] [])) U' ∧ U'.status = .running ∧ Ended U' below (.returned (some (.int 1))) ∧ Fr n0 L ∧ ReturnedEndW s (.returned (some (.int 1))) U' L room_1.cells room_1.slots := by
  have Z0 : n0 ≤ h0.size := O0.1 ▸ O0.2.1
  have K0 : Keep h0 h0 [] := Keep.refl _ _
  have hS0 : s.Since s.vm h0.size := (State.WarmedH.refl s).since _
  have hk0 : h0.size ≤ h0.size := Nat.le_refl _
  have hp : ∀ c ∈ ([c0, c1, c2, c3] : List Int32), ¬ c < 0 ∧ ¬ (255 : Int32) < c := by
    intro c hc
    simp only [List.mem_cons, List.not_mem_nil, or_false] at hc
    rcases hc with rfl | rfl | rfl | rfl
    · exact hr0
    · exact hr1
    · exact hr2
    · exact hr3
  have hcd : StrChars.Road.CodA ([c0, c1, c2, c3] : List Int32) 0 (4 : Int32) (((([c0, c1, c2, c3] : List Int32)).map (fun c => c.toInt8.toInt32)).map Value.int) := StrChars.Road.codOf (n := 4) rfl (fun c hc => (hp c hc).2)
  have hbd : ∀ c ∈ ([c0, c1, c2, c3] : List Int32), ¬ c < 0 ∧ ¬ (65535 : Int32) < c := up _ hp
  obtain ⟨T173, h173, k173, X173, e173, E173, A173, st173⟩ := newP X0 hx hZ (hw _ (List.mem_of_getElem? (i := 5) rfl)) e0 (g := (mkF m 147 #[.val (.int p1), .val (.int p2), .val (.int p3), .val (.int p4), .val (.int p5), .val (.int p6), .val (.int n), .val (.int h1), .val (.int h2), .val (.int h3), .val (.int c0), .val (.int c1), .val (.int c2), .val (.int c3), .val (.int c4), .unset, .unset, .unset, .unset, .unset, .unset, .unset] [(.int (3 : Int32))])) rfl (hb hby at_147) rfl (by decide : ¬ ((3 : Int32) < (0 : Int32))) (cap := 3) (by decide : (3 : Int32).toNatClampNeg ≤ 3) (by decide) (by decide) (by decide)
  obtain ⟨b173, g173⟩ : ∃ z, z = h0.size := ⟨_, rfl⟩
  rw [← g173] at A173 st173
  have geb173 : h0.size ≤ b173 := Nat.le_of_eq g173.symm
  have g_b173 : n0 ≤ b173 := Nat.le_trans Z0 geb173
  have sz_b173 : h0.size ≤ b173 := Nat.le_trans K0.1 geb173
  have O174 : Old Z n0 h173 := O0.ext E173
  have Z174 : n0 ≤ h173.size := Nat.le_trans Z0 E173.1
  have K174 : Keep h0 h173 [] := K0.ext E173
  have hk174 : h0.size ≤ h173.size := Nat.le_trans hk0 E173.1
  have f175 : Arv Z h173 b173 k173 .char (3 : Int32) [(.int (0 : Int32)), (.int (0 : Int32)), (.int (0 : Int32))] (.int (0 : Int32)) := (Arv.new A173 (by decide : ¬ ((3 : Int32) < (0 : Int32)))).pad (pad_rep [] (.int (0 : Int32)) 3)
  obtain ⟨c176, Ar176, q176, S176, M176, Hh176, U176⟩ := id f175
  obtain ⟨T176, h176, X176, e176, W176, st176⟩ := stC X173 hx hZ e173 Ar176 (j := (0 : Int32)) (inb_of S176 ⟨(by decide : ¬ ((0 : Int32) < (0 : Int32))), (by decide : (0 : Int32) < (3 : Int32))⟩) (g := (mkF m 153 #[.val (.int p1), .val (.int p2), .val (.int p3), .val (.int p4), .val (.int p5), .val (.int p6), .val (.int n), .val (.int h1), .val (.int h2), .val (.int h3), .val (.int c0), .val (.int c1), .val (.int c2), .val (.int c3), .val (.int c4), .unset, .unset, .unset, .unset, .unset, .unset, .unset] [(.int c0), (.int (0 : Int32)), (.ref b173), (.ref b173)])) rfl rfl (hb hby at_153)
  rw [hna0] at W176
  have f177 : Arv Z h176 b173 k173 .char (3 : Int32) [(.int c0), (.int (0 : Int32)), (.int (0 : Int32))] (.int (0 : Int32)) := Arv.set Ar176 q176 S176 M176 Hh176 U176 (own_fitc hna0) W176 0 rfl (Nat.le_of_ble_eq_true rfl)
  have N176 := Fr.snoc X176 N0 g_b173
  have O178 : Old Z n0 h176 := O174.wr W176 g_b173
  have Z178 : n0 ≤ h176.size := Nat.le_trans Z174 (Keep.of_wr W176).1
  have K178 : Keep h0 h176 [] := K174.wr W176 (Or.inr sz_b173)
  have hk178 : h0.size ≤ h176.size := Nat.le_trans hk174 (Keep.of_wr W176).1
  obtain ⟨c179, Ar179, q179, S179, M179, Hh179, U179⟩ := id f177
  obtain ⟨T179, h179, X179, e179, W179, st179⟩ := stC X176 hx hZ e176 Ar179 (j := (1 : Int32)) (inb_of S179 ⟨(by decide : ¬ ((1 : Int32) < (0 : Int32))), (by decide : (1 : Int32) < (3 : Int32))⟩) (g := (mkF m 158 #[.val (.int p1), .val (.int p2), .val (.int p3), .val (.int p4), .val (.int p5), .val (.int p6), .val (.int n), .val (.int h1), .val (.int h2), .val (.int h3), .val (.int c0), .val (.int c1), .val (.int c2), .val (.int c3), .val (.int c4), .unset, .unset, .unset, .unset, .unset, .unset, .unset] [(.int c1), (.int (1 : Int32)), (.ref b173), (.ref b173)])) rfl rfl (hb hby at_158)
  rw [hna1] at W179
  have f180 : Arv Z h179 b173 k173 .char (3 : Int32) [(.int c0), (.int c1), (.int (0 : Int32))] (.int (0 : Int32)) := Arv.set Ar179 q179 S179 M179 Hh179 U179 (own_fitc hna1) W179 1 rfl (Nat.le_of_ble_eq_true rfl)
  have N179 := Fr.snoc X179 N176 g_b173
  have O181 : Old Z n0 h179 := O178.wr W179 g_b173
  have Z181 : n0 ≤ h179.size := Nat.le_trans Z178 (Keep.of_wr W179).1
  have K181 : Keep h0 h179 [] := K178.wr W179 (Or.inr sz_b173)
  have hk181 : h0.size ≤ h179.size := Nat.le_trans hk178 (Keep.of_wr W179).1
  obtain ⟨c182, Ar182, q182, S182, M182, Hh182, U182⟩ := id f180
  obtain ⟨T182, h182, X182, e182, W182, st182⟩ := stC X179 hx hZ e179 Ar182 (j := (2 : Int32)) (inb_of S182 ⟨(by decide : ¬ ((2 : Int32) < (0 : Int32))), (by decide : (2 : Int32) < (3 : Int32))⟩) (g := (mkF m 163 #[.val (.int p1), .val (.int p2), .val (.int p3), .val (.int p4), .val (.int p5), .val (.int p6), .val (.int n), .val (.int h1), .val (.int h2), .val (.int h3), .val (.int c0), .val (.int c1), .val (.int c2), .val (.int c3), .val (.int c4), .unset, .unset, .unset, .unset, .unset, .unset, .unset] [(.int c2), (.int (2 : Int32)), (.ref b173), (.ref b173)])) rfl rfl (hb hby at_163)
  rw [hna2] at W182
  have f183 : Arv Z h182 b173 k173 .char (3 : Int32) [(.int c0), (.int c1), (.int c2)] (.int (0 : Int32)) := Arv.set Ar182 q182 S182 M182 Hh182 U182 (own_fitc hna2) W182 2 rfl (Nat.le_of_ble_eq_true rfl)
  have N182 := Fr.snoc X182 N179 g_b173
  have O184 : Old Z n0 h182 := O181.wr W182 g_b173
  have Z184 : n0 ≤ h182.size := Nat.le_trans Z181 (Keep.of_wr W182).1
  have K184 : Keep h0 h182 [] := K181.wr W182 (Or.inr sz_b173)
  have hk184 : h0.size ≤ h182.size := Nat.le_trans hk181 (Keep.of_wr W182).1
  obtain ⟨T185, h185, k185, X185, e185, E185, A185, st185⟩ := newP X182 hx hZ (hw _ (List.mem_of_getElem? (i := 5) rfl)) e182 (g := (mkF m 167 #[.val (.int p1), .val (.int p2), .val (.int p3), .val (.int p4), .val (.int p5), .val (.int p6), .val (.int n), .val (.int h1), .val (.int h2), .val (.int h3), .val (.int c0), .val (.int c1), .val (.int c2), .val (.int c3), .val (.int c4), .val (.ref b173), .unset, .unset, .unset, .unset, .unset, .unset] [(.int (4 : Int32))])) rfl (hb hby at_167) rfl (by decide : ¬ ((4 : Int32) < (0 : Int32))) (cap := 4) (by decide : (4 : Int32).toNatClampNeg ≤ 4) (by decide) (by decide) (by decide)
  obtain ⟨b185, g185⟩ : ∃ z, z = h182.size := ⟨_, rfl⟩
  rw [← g185] at A185 st185
  have geb185 : h182.size ≤ b185 := Nat.le_of_eq g185.symm
  have g_b185 : n0 ≤ b185 := Nat.le_trans Z184 geb185
  have sz_b185 : h0.size ≤ b185 := Nat.le_trans K184.1 geb185
  have O186 : Old Z n0 h185 := O184.ext E185
  have Z186 : n0 ≤ h185.size := Nat.le_trans Z184 E185.1
  have K186 : Keep h0 h185 [] := K184.ext E185
  have hk186 : h0.size ≤ h185.size := Nat.le_trans hk184 E185.1
  have f187 : Arv Z h185 b173 k173 .char (3 : Int32) [(.int c0), (.int c1), (.int c2)] (.int (0 : Int32)) := f183.ext E185
  have f188 : Arv Z h185 b185 k185 .char (4 : Int32) [(.int (0 : Int32)), (.int (0 : Int32)), (.int (0 : Int32)), (.int (0 : Int32))] (.int (0 : Int32)) := (Arv.new A185 (by decide : ¬ ((4 : Int32) < (0 : Int32)))).pad (pad_rep [] (.int (0 : Int32)) 4)
  obtain ⟨c189, Ar189, q189, S189, M189, Hh189, U189⟩ := id f188
  obtain ⟨T189, h189, X189, e189, W189, st189⟩ := stC X185 hx hZ e185 Ar189 (j := (0 : Int32)) (inb_of S189 ⟨(by decide : ¬ ((0 : Int32) < (0 : Int32))), (by decide : (0 : Int32) < (4 : Int32))⟩) (g := (mkF m 173 #[.val (.int p1), .val (.int p2), .val (.int p3), .val (.int p4), .val (.int p5), .val (.int p6), .val (.int n), .val (.int h1), .val (.int h2), .val (.int h3), .val (.int c0), .val (.int c1), .val (.int c2), .val (.int c3), .val (.int c4), .val (.ref b173), .unset, .unset, .unset, .unset, .unset, .unset] [(.int c0), (.int (0 : Int32)), (.ref b185), (.ref b185)])) rfl rfl (hb hby at_173)
  rw [hna0] at W189
  have f190 : Arv Z h189 b185 k185 .char (4 : Int32) [(.int c0), (.int (0 : Int32)), (.int (0 : Int32)), (.int (0 : Int32))] (.int (0 : Int32)) := Arv.set Ar189 q189 S189 M189 Hh189 U189 (own_fitc hna0) W189 0 rfl (Nat.le_of_ble_eq_true rfl)
  have N189 := Fr.snoc X189 N182 g_b185
  have O191 : Old Z n0 h189 := O186.wr W189 g_b185
  have Z191 : n0 ≤ h189.size := Nat.le_trans Z186 (Keep.of_wr W189).1
  have K191 : Keep h0 h189 [] := K186.wr W189 (Or.inr sz_b185)
  have hk191 : h0.size ≤ h189.size := Nat.le_trans hk186 (Keep.of_wr W189).1
  have f192 : Arv Z h189 b173 k173 .char (3 : Int32) [(.int c0), (.int c1), (.int c2)] (.int (0 : Int32)) := f187.other W189 (Nat.ne_of_lt (Nat.lt_of_lt_of_le f183.lt geb185))
  obtain ⟨c193, Ar193, q193, S193, M193, Hh193, U193⟩ := id f190
  obtain ⟨T193, h193, X193, e193, W193, st193⟩ := stC X189 hx hZ e189 Ar193 (j := (1 : Int32)) (inb_of S193 ⟨(by decide : ¬ ((1 : Int32) < (0 : Int32))), (by decide : (1 : Int32) < (4 : Int32))⟩) (g := (mkF m 178 #[.val (.int p1), .val (.int p2), .val (.int p3), .val (.int p4), .val (.int p5), .val (.int p6), .val (.int n), .val (.int h1), .val (.int h2), .val (.int h3), .val (.int c0), .val (.int c1), .val (.int c2), .val (.int c3), .val (.int c4), .val (.ref b173), .unset, .unset, .unset, .unset, .unset, .unset] [(.int c1), (.int (1 : Int32)), (.ref b185), (.ref b185)])) rfl rfl (hb hby at_178)
  rw [hna1] at W193
  have f194 : Arv Z h193 b185 k185 .char (4 : Int32) [(.int c0), (.int c1), (.int (0 : Int32)), (.int (0 : Int32))] (.int (0 : Int32)) := Arv.set Ar193 q193 S193 M193 Hh193 U193 (own_fitc hna1) W193 1 rfl (Nat.le_of_ble_eq_true rfl)
  have N193 := Fr.snoc X193 N189 g_b185
  have O195 : Old Z n0 h193 := O191.wr W193 g_b185
  have Z195 : n0 ≤ h193.size := Nat.le_trans Z191 (Keep.of_wr W193).1
  have K195 : Keep h0 h193 [] := K191.wr W193 (Or.inr sz_b185)
  have hk195 : h0.size ≤ h193.size := Nat.le_trans hk191 (Keep.of_wr W193).1
  have f196 : Arv Z h193 b173 k173 .char (3 : Int32) [(.int c0), (.int c1), (.int c2)] (.int (0 : Int32)) := f192.other W193 (Nat.ne_of_lt (Nat.lt_of_lt_of_le f183.lt geb185))
  obtain ⟨c197, Ar197, q197, S197, M197, Hh197, U197⟩ := id f194
  obtain ⟨T197, h197, X197, e197, W197, st197⟩ := stC X193 hx hZ e193 Ar197 (j := (2 : Int32)) (inb_of S197 ⟨(by decide : ¬ ((2 : Int32) < (0 : Int32))), (by decide : (2 : Int32) < (4 : Int32))⟩) (g := (mkF m 183 #[.val (.int p1), .val (.int p2), .val (.int p3), .val (.int p4), .val (.int p5), .val (.int p6), .val (.int n), .val (.int h1), .val (.int h2), .val (.int h3), .val (.int c0), .val (.int c1), .val (.int c2), .val (.int c3), .val (.int c4), .val (.ref b173), .unset, .unset, .unset, .unset, .unset, .unset] [(.int c2), (.int (2 : Int32)), (.ref b185), (.ref b185)])) rfl rfl (hb hby at_183)
  rw [hna2] at W197
  have f198 : Arv Z h197 b185 k185 .char (4 : Int32) [(.int c0), (.int c1), (.int c2), (.int (0 : Int32))] (.int (0 : Int32)) := Arv.set Ar197 q197 S197 M197 Hh197 U197 (own_fitc hna2) W197 2 rfl (Nat.le_of_ble_eq_true rfl)
  have N197 := Fr.snoc X197 N193 g_b185
  have O199 : Old Z n0 h197 := O195.wr W197 g_b185
  have Z199 : n0 ≤ h197.size := Nat.le_trans Z195 (Keep.of_wr W197).1
  have K199 : Keep h0 h197 [] := K195.wr W197 (Or.inr sz_b185)
  have hk199 : h0.size ≤ h197.size := Nat.le_trans hk195 (Keep.of_wr W197).1
  have f200 : Arv Z h197 b173 k173 .char (3 : Int32) [(.int c0), (.int c1), (.int c2)] (.int (0 : Int32)) := f196.other W197 (Nat.ne_of_lt (Nat.lt_of_lt_of_le f183.lt geb185))
  obtain ⟨c201, Ar201, q201, S201, M201, Hh201, U201⟩ := id f198
  obtain ⟨T201, h201, X201, e201, W201, st201⟩ := stC X197 hx hZ e197 Ar201 (j := (3 : Int32)) (inb_of S201 ⟨(by decide : ¬ ((3 : Int32) < (0 : Int32))), (by decide : (3 : Int32) < (4 : Int32))⟩) (g := (mkF m 188 #[.val (.int p1), .val (.int p2), .val (.int p3), .val (.int p4), .val (.int p5), .val (.int p6), .val (.int n), .val (.int h1), .val (.int h2), .val (.int h3), .val (.int c0), .val (.int c1), .val (.int c2), .val (.int c3), .val (.int c4), .val (.ref b173), .unset, .unset, .unset, .unset, .unset, .unset] [(.int c3), (.int (3 : Int32)), (.ref b185), (.ref b185)])) rfl rfl (hb hby at_188)
  rw [hna3] at W201
  have f202 : Arv Z h201 b185 k185 .char (4 : Int32) [(.int c0), (.int c1), (.int c2), (.int c3)] (.int (0 : Int32)) := Arv.set Ar201 q201 S201 M201 Hh201 U201 (own_fitc hna3) W201 3 rfl (Nat.le_of_ble_eq_true rfl)
  have N201 := Fr.snoc X201 N197 g_b185
  have O203 : Old Z n0 h201 := O199.wr W201 g_b185
  have Z203 : n0 ≤ h201.size := Nat.le_trans Z199 (Keep.of_wr W201).1
  have K203 : Keep h0 h201 [] := K199.wr W201 (Or.inr sz_b185)
  have hk203 : h0.size ≤ h201.size := Nat.le_trans hk199 (Keep.of_wr W201).1
  have f204 : Arv Z h201 b173 k173 .char (3 : Int32) [(.int c0), (.int c1), (.int c2)] (.int (0 : Int32)) := f200.other W201 (Nat.ne_of_lt (Nat.lt_of_lt_of_le f183.lt geb185))
  obtain ⟨T205, h205, k205, X205, e205, E205, A205, st205⟩ := newP X201 hx hZ (hw _ (List.mem_of_getElem? (i := 5) rfl)) e201 (g := (mkF m 192 #[.val (.int p1), .val (.int p2), .val (.int p3), .val (.int p4), .val (.int p5), .val (.int p6), .val (.int n), .val (.int h1), .val (.int h2), .val (.int h3), .val (.int c0), .val (.int c1), .val (.int c2), .val (.int c3), .val (.int c4), .val (.ref b173), .val (.ref b185), .unset, .unset, .unset, .unset, .unset] [(.int (5 : Int32))])) rfl (hb hby at_192) rfl (by decide : ¬ ((5 : Int32) < (0 : Int32))) (cap := 5) (by decide : (5 : Int32).toNatClampNeg ≤ 5) (by decide) (by decide) (by decide)
  obtain ⟨b205, g205⟩ : ∃ z, z = h201.size := ⟨_, rfl⟩
  rw [← g205] at A205 st205
  have geb205 : h201.size ≤ b205 := Nat.le_of_eq g205.symm
  have g_b205 : n0 ≤ b205 := Nat.le_trans Z203 geb205
  have sz_b205 : h0.size ≤ b205 := Nat.le_trans K203.1 geb205
  have O206 : Old Z n0 h205 := O203.ext E205
  have Z206 : n0 ≤ h205.size := Nat.le_trans Z203 E205.1
  have K206 : Keep h0 h205 [] := K203.ext E205
  have hk206 : h0.size ≤ h205.size := Nat.le_trans hk203 E205.1
  have f207 : Arv Z h205 b173 k173 .char (3 : Int32) [(.int c0), (.int c1), (.int c2)] (.int (0 : Int32)) := f204.ext E205
  have f208 : Arv Z h205 b185 k185 .char (4 : Int32) [(.int c0), (.int c1), (.int c2), (.int c3)] (.int (0 : Int32)) := f202.ext E205
  have f209 : Arv Z h205 b205 k205 .char (5 : Int32) [(.int (0 : Int32)), (.int (0 : Int32)), (.int (0 : Int32)), (.int (0 : Int32)), (.int (0 : Int32))] (.int (0 : Int32)) := (Arv.new A205 (by decide : ¬ ((5 : Int32) < (0 : Int32)))).pad (pad_rep [] (.int (0 : Int32)) 5)
  obtain ⟨c210, Ar210, q210, S210, M210, Hh210, U210⟩ := id f209
  obtain ⟨T210, h210, X210, e210, W210, st210⟩ := stC X205 hx hZ e205 Ar210 (j := (0 : Int32)) (inb_of S210 ⟨(by decide : ¬ ((0 : Int32) < (0 : Int32))), (by decide : (0 : Int32) < (5 : Int32))⟩) (g := (mkF m 198 #[.val (.int p1), .val (.int p2), .val (.int p3), .val (.int p4), .val (.int p5), .val (.int p6), .val (.int n), .val (.int h1), .val (.int h2), .val (.int h3), .val (.int c0), .val (.int c1), .val (.int c2), .val (.int c3), .val (.int c4), .val (.ref b173), .val (.ref b185), .unset, .unset, .unset, .unset, .unset] [(.int c0), (.int (0 : Int32)), (.ref b205), (.ref b205)])) rfl rfl (hb hby at_198)
  rw [hna0] at W210
  have f211 : Arv Z h210 b205 k205 .char (5 : Int32) [(.int c0), (.int (0 : Int32)), (.int (0 : Int32)), (.int (0 : Int32)), (.int (0 : Int32))] (.int (0 : Int32)) := Arv.set Ar210 q210 S210 M210 Hh210 U210 (own_fitc hna0) W210 0 rfl (Nat.le_of_ble_eq_true rfl)
  have N210 := Fr.snoc X210 N201 g_b205
  have O212 : Old Z n0 h210 := O206.wr W210 g_b205
  have Z212 : n0 ≤ h210.size := Nat.le_trans Z206 (Keep.of_wr W210).1
  have K212 : Keep h0 h210 [] := K206.wr W210 (Or.inr sz_b205)
  have hk212 : h0.size ≤ h210.size := Nat.le_trans hk206 (Keep.of_wr W210).1
  have f213 : Arv Z h210 b173 k173 .char (3 : Int32) [(.int c0), (.int c1), (.int c2)] (.int (0 : Int32)) := f207.other W210 (Nat.ne_of_lt (Nat.lt_of_lt_of_le f204.lt geb205))
  have f214 : Arv Z h210 b185 k185 .char (4 : Int32) [(.int c0), (.int c1), (.int c2), (.int c3)] (.int (0 : Int32)) := f208.other W210 (Nat.ne_of_lt (Nat.lt_of_lt_of_le f202.lt geb205))
  obtain ⟨c215, Ar215, q215, S215, M215, Hh215, U215⟩ := id f211
  obtain ⟨T215, h215, X215, e215, W215, st215⟩ := stC X210 hx hZ e210 Ar215 (j := (1 : Int32)) (inb_of S215 ⟨(by decide : ¬ ((1 : Int32) < (0 : Int32))), (by decide : (1 : Int32) < (5 : Int32))⟩) (g := (mkF m 203 #[.val (.int p1), .val (.int p2), .val (.int p3), .val (.int p4), .val (.int p5), .val (.int p6), .val (.int n), .val (.int h1), .val (.int h2), .val (.int h3), .val (.int c0), .val (.int c1), .val (.int c2), .val (.int c3), .val (.int c4), .val (.ref b173), .val (.ref b185), .unset, .unset, .unset, .unset, .unset] [(.int c1), (.int (1 : Int32)), (.ref b205), (.ref b205)])) rfl rfl (hb hby at_203)
  rw [hna1] at W215
  have f216 : Arv Z h215 b205 k205 .char (5 : Int32) [(.int c0), (.int c1), (.int (0 : Int32)), (.int (0 : Int32)), (.int (0 : Int32))] (.int (0 : Int32)) := Arv.set Ar215 q215 S215 M215 Hh215 U215 (own_fitc hna1) W215 1 rfl (Nat.le_of_ble_eq_true rfl)
  have N215 := Fr.snoc X215 N210 g_b205
  have O217 : Old Z n0 h215 := O212.wr W215 g_b205
  have Z217 : n0 ≤ h215.size := Nat.le_trans Z212 (Keep.of_wr W215).1
  have K217 : Keep h0 h215 [] := K212.wr W215 (Or.inr sz_b205)
  have hk217 : h0.size ≤ h215.size := Nat.le_trans hk212 (Keep.of_wr W215).1
  have f218 : Arv Z h215 b173 k173 .char (3 : Int32) [(.int c0), (.int c1), (.int c2)] (.int (0 : Int32)) := f213.other W215 (Nat.ne_of_lt (Nat.lt_of_lt_of_le f204.lt geb205))
  have f219 : Arv Z h215 b185 k185 .char (4 : Int32) [(.int c0), (.int c1), (.int c2), (.int c3)] (.int (0 : Int32)) := f214.other W215 (Nat.ne_of_lt (Nat.lt_of_lt_of_le f202.lt geb205))
  obtain ⟨c220, Ar220, q220, S220, M220, Hh220, U220⟩ := id f216
  obtain ⟨T220, h220, X220, e220, W220, st220⟩ := stC X215 hx hZ e215 Ar220 (j := (2 : Int32)) (inb_of S220 ⟨(by decide : ¬ ((2 : Int32) < (0 : Int32))), (by decide : (2 : Int32) < (5 : Int32))⟩) (g := (mkF m 208 #[.val (.int p1), .val (.int p2), .val (.int p3), .val (.int p4), .val (.int p5), .val (.int p6), .val (.int n), .val (.int h1), .val (.int h2), .val (.int h3), .val (.int c0), .val (.int c1), .val (.int c2), .val (.int c3), .val (.int c4), .val (.ref b173), .val (.ref b185), .unset, .unset, .unset, .unset, .unset] [(.int c2), (.int (2 : Int32)), (.ref b205), (.ref b205)])) rfl rfl (hb hby at_208)
  rw [hna2] at W220
  have f221 : Arv Z h220 b205 k205 .char (5 : Int32) [(.int c0), (.int c1), (.int c2), (.int (0 : Int32)), (.int (0 : Int32))] (.int (0 : Int32)) := Arv.set Ar220 q220 S220 M220 Hh220 U220 (own_fitc hna2) W220 2 rfl (Nat.le_of_ble_eq_true rfl)
  have N220 := Fr.snoc X220 N215 g_b205
  have O222 : Old Z n0 h220 := O217.wr W220 g_b205
  have Z222 : n0 ≤ h220.size := Nat.le_trans Z217 (Keep.of_wr W220).1
  have K222 : Keep h0 h220 [] := K217.wr W220 (Or.inr sz_b205)
  have hk222 : h0.size ≤ h220.size := Nat.le_trans hk217 (Keep.of_wr W220).1
  have f223 : Arv Z h220 b173 k173 .char (3 : Int32) [(.int c0), (.int c1), (.int c2)] (.int (0 : Int32)) := f218.other W220 (Nat.ne_of_lt (Nat.lt_of_lt_of_le f204.lt geb205))
  have f224 : Arv Z h220 b185 k185 .char (4 : Int32) [(.int c0), (.int c1), (.int c2), (.int c3)] (.int (0 : Int32)) := f219.other W220 (Nat.ne_of_lt (Nat.lt_of_lt_of_le f202.lt geb205))
  obtain ⟨c225, Ar225, q225, S225, M225, Hh225, U225⟩ := id f221
  obtain ⟨T225, h225, X225, e225, W225, st225⟩ := stC X220 hx hZ e220 Ar225 (j := (3 : Int32)) (inb_of S225 ⟨(by decide : ¬ ((3 : Int32) < (0 : Int32))), (by decide : (3 : Int32) < (5 : Int32))⟩) (g := (mkF m 213 #[.val (.int p1), .val (.int p2), .val (.int p3), .val (.int p4), .val (.int p5), .val (.int p6), .val (.int n), .val (.int h1), .val (.int h2), .val (.int h3), .val (.int c0), .val (.int c1), .val (.int c2), .val (.int c3), .val (.int c4), .val (.ref b173), .val (.ref b185), .unset, .unset, .unset, .unset, .unset] [(.int c3), (.int (3 : Int32)), (.ref b205), (.ref b205)])) rfl rfl (hb hby at_213)
  rw [hna3] at W225
  have f226 : Arv Z h225 b205 k205 .char (5 : Int32) [(.int c0), (.int c1), (.int c2), (.int c3), (.int (0 : Int32))] (.int (0 : Int32)) := Arv.set Ar225 q225 S225 M225 Hh225 U225 (own_fitc hna3) W225 3 rfl (Nat.le_of_ble_eq_true rfl)
  have N225 := Fr.snoc X225 N220 g_b205
  have O227 : Old Z n0 h225 := O222.wr W225 g_b205
  have Z227 : n0 ≤ h225.size := Nat.le_trans Z222 (Keep.of_wr W225).1
  have K227 : Keep h0 h225 [] := K222.wr W225 (Or.inr sz_b205)
  have hk227 : h0.size ≤ h225.size := Nat.le_trans hk222 (Keep.of_wr W225).1
  have f228 : Arv Z h225 b173 k173 .char (3 : Int32) [(.int c0), (.int c1), (.int c2)] (.int (0 : Int32)) := f223.other W225 (Nat.ne_of_lt (Nat.lt_of_lt_of_le f204.lt geb205))
  have f229 : Arv Z h225 b185 k185 .char (4 : Int32) [(.int c0), (.int c1), (.int c2), (.int c3)] (.int (0 : Int32)) := f224.other W225 (Nat.ne_of_lt (Nat.lt_of_lt_of_le f202.lt geb205))
  obtain ⟨c230, Ar230, q230, S230, M230, Hh230, U230⟩ := id f226
  obtain ⟨T230, h230, X230, e230, W230, st230⟩ := stC X225 hx hZ e225 Ar230 (j := (4 : Int32)) (inb_of S230 ⟨(by decide : ¬ ((4 : Int32) < (0 : Int32))), (by decide : (4 : Int32) < (5 : Int32))⟩) (g := (mkF m 218 #[.val (.int p1), .val (.int p2), .val (.int p3), .val (.int p4), .val (.int p5), .val (.int p6), .val (.int n), .val (.int h1), .val (.int h2), .val (.int h3), .val (.int c0), .val (.int c1), .val (.int c2), .val (.int c3), .val (.int c4), .val (.ref b173), .val (.ref b185), .unset, .unset, .unset, .unset, .unset] [(.int c4), (.int (4 : Int32)), (.ref b205), (.ref b205)])) rfl rfl (hb hby at_218)
  rw [hna4] at W230
  have f231 : Arv Z h230 b205 k205 .char (5 : Int32) [(.int c0), (.int c1), (.int c2), (.int c3), (.int c4)] (.int (0 : Int32)) := Arv.set Ar230 q230 S230 M230 Hh230 U230 (own_fitc hna4) W230 4 rfl (Nat.le_of_ble_eq_true rfl)
  have N230 := Fr.snoc X230 N225 g_b205
  have O232 : Old Z n0 h230 := O227.wr W230 g_b205
  have Z232 : n0 ≤ h230.size := Nat.le_trans Z227 (Keep.of_wr W230).1
  have K232 : Keep h0 h230 [] := K227.wr W230 (Or.inr sz_b205)
  have hk232 : h0.size ≤ h230.size := Nat.le_trans hk227 (Keep.of_wr W230).1
  have f233 : Arv Z h230 b173 k173 .char (3 : Int32) [(.int c0), (.int c1), (.int c2)] (.int (0 : Int32)) := f228.other W230 (Nat.ne_of_lt (Nat.lt_of_lt_of_le f204.lt geb205))
  have f234 : Arv Z h230 b185 k185 .char (4 : Int32) [(.int c0), (.int c1), (.int c2), (.int c3)] (.int (0 : Int32)) := f229.other W230 (Nat.ne_of_lt (Nat.lt_of_lt_of_le f202.lt geb205))
  obtain ⟨T235, h235, X235, e235, E235, A235, D235, -, st235⟩ := newO X230 hx hZ hown (hw _ (List.mem_of_getElem? (i := 6) rfl)) (hw _ (List.mem_of_getElem? (i := 7) rfl)) (hw _ (List.mem_of_getElem? (i := 8) rfl)) e230 (g := (mkF m 258 #[.val (.int p1), .val (.int p2), .val (.int p3), .val (.int p4), .val (.int p5), .val (.int p6), .val (.int n), .val (.int h1), .val (.int h2), .val (.int h3), .val (.int c0), .val (.int c1), .val (.int c2), .val (.int c3), .val (.int c4), .val (.ref b173), .val (.ref b185), .val (.ref b205), .unset, .unset, .unset, .unset] [])) rfl (hb hby at_258) (by decide) (by decide)
  obtain ⟨b235, g235⟩ : ∃ z, z = h230.size := ⟨_, rfl⟩
  rw [← g235] at A235 D235 st235
  have geb235 : h230.size ≤ b235 := Nat.le_of_eq g235.symm
  have g_b235 : n0 ≤ b235 := Nat.le_trans Z232 geb235
  have sz_b235 : h0.size ≤ b235 := Nat.le_trans K232.1 geb235
  have O236 : Old Z n0 h235 := O232.ext E235
  have Z236 : n0 ≤ h235.size := Nat.le_trans Z232 E235.1
  have K236 : Keep h0 h235 [] := K232.ext E235
  have hk236 : h0.size ≤ h235.size := Nat.le_trans hk232 E235.1
  have f237 : Arv Z h235 b173 k173 .char (3 : Int32) [(.int c0), (.int c1), (.int c2)] (.int (0 : Int32)) := f233.ext E235
  have f238 : Arv Z h235 b185 k185 .char (4 : Int32) [(.int c0), (.int c1), (.int c2), (.int c3)] (.int (0 : Int32)) := f234.ext E235
  have f239 : Arv Z h235 b205 k205 .char (5 : Int32) [(.int c0), (.int c1), (.int c2), (.int c3), (.int c4)] (.int (0 : Int32)) := f231.ext E235
  have f240 : Fld Z h235 b235 "java/lang/String" "coder" "B" (.int (0 : Int32)) := D235 (Or.inr (hw _ (List.mem_of_getElem? (i := 32) rfl))) (ty := .byte) (by decide)
  have f241 : Fld Z h235 b235 "java/lang/String" "value" "[B" .null := D235 (Or.inr (hw _ (List.mem_of_getElem? (i := 34) rfl))) (ty := (.array .byte)) (by decide)
  have hws : ∀ d ∈ StrChars.Road.words, d.before a0 Z = true := fun d hd => hw d ((by decide +kernel : ∀ d ∈ StrChars.Road.words, d ∈ tables_1) d hd)
  have hp242 : ∀ c ∈ ([c0, c1, c2, c3] : List Int32), ¬ c < 0 ∧ ¬ (255 : Int32) < c := by
    intro c hc
    simp only [List.mem_cons, List.not_mem_nil, or_false] at hc
    rcases hc with rfl | rfl | rfl | rfl
    · exact hr0
    · exact hr1
    · exact hr2
    · exact hr3
  obtain ⟨_, _, ⟨T243, L243, k243, n243⟩, -, X243, ⟨Lc243, hQ243, l243, y243, z243⟩, st243⟩ := X235.specialBack hx (y := (⟨"java/lang/String", "<init>", "([C)V"⟩ : MethodName)) rfl hown (mvT hZ (hw _ (List.mem_of_getElem? (i := 9) rfl))) (mvT hZ (hw _ (List.mem_of_getElem? (i := 10) rfl))) (mvT hZ (hw _ (List.mem_of_getElem? (i := 11) rfl))) (by decide) (StrChars.Road.backV (W := 1) hZ hws (kI := 4) (hw _ (List.mem_of_getElem? (i := 7) rfl)) (cs := ([c0, c1, c2, c3] : List Int32)) (bs := (([c0, c1, c2, c3] : List Int32)).map (fun c => c.toInt8.toInt32)) (n := 4) g_b235 Z236 A235 f241 f240 f238 (OC2.ext O236.2) OCz rfl rfl (by decide) (by decide) hp242 rfl (by decide) (by decide)) (g := (mkF m 264 #[.val (.int p1), .val (.int p2), .val (.int p3), .val (.int p4), .val (.int p5), .val (.int p6), .val (.int n), .val (.int h1), .val (.int h2), .val (.int h3), .val (.int c0), .val (.int c1), .val (.int c2), .val (.int c3), .val (.int c4), .val (.ref b173), .val (.ref b185), .val (.ref b205), .unset, .unset, .unset, .unset] [(.ref b185), (.ref b235), (.ref b235)])) rfl (by rw [hml]; rfl) (Steps.refl _) (a := b235) (argsL := [(.ref b185)]) (rest := [(.ref b235)]) (lenOf pd___C_V rfl) rfl (by show 2 * 0 + _ ≤ _; exact Nat.le_of_eq rfl) (hb hby at_264) (fun _ _ => ⟨rfl, e235, (by decide : 4 + 1 ≤ _), (by decide : 16 + 4 ≤ _)⟩)
  dsimp only [Pt.U, Pt.locs, Pt.cells, Pt.slots] at X243 l243 y243 z243 st243 hQ243
  subst l243 y243 z243
  obtain ⟨rfl, N243q, K243k, g1243, g2243, t243, kb243, u1243, u2243, u3243, g3243, g4243⟩ := hQ243
  have N243 := Fr.app N230 N243q
  have O244 : Old Z n0 T243.heap := O236.keep K243k (allS g_b235 all0)
  have Z244 : n0 ≤ T243.heap.size := Nat.le_trans Z236 K243k.1
  have K244 : Keep h0 T243.heap [] := K236.trans K243k (allS (Or.inr sz_b235) all0)
  have hk244 : h0.size ≤ T243.heap.size := Nat.le_trans hk236 K243k.1
  have f245 : Arv Z T243.heap b173 k173 .char (3 : Int32) [(.int c0), (.int c1), (.int c2)] (.int (0 : Int32)) := f237.keep K243k (ninS (Nat.ne_of_lt (Nat.lt_of_lt_of_le f233.lt geb235)) nin0)
  have f246 : Arv Z T243.heap b185 k185 .char (4 : Int32) [(.int c0), (.int c1), (.int c2), (.int c3)] (.int (0 : Int32)) := f238.keep K243k (ninS (Nat.ne_of_lt (Nat.lt_of_lt_of_le f234.lt geb235)) nin0)
  have f247 : Arv Z T243.heap b205 k205 .char (5 : Int32) [(.int c0), (.int c1), (.int c2), (.int c3), (.int c4)] (.int (0 : Int32)) := f239.keep K243k (ninS (Nat.ne_of_lt (Nat.lt_of_lt_of_le f231.lt geb235)) nin0)
  have f248 : Exa Z T243.heap b235 "java/lang/String" := A235.keep K243k
  have sz_t243 : h0.size ≤ t243 := Nat.le_trans K236.1 u2243
  obtain ⟨T249, h249, X249, e249, E249, A249, D249, -, st249⟩ := newO X243 hx hZ hown (hw _ (List.mem_of_getElem? (i := 6) rfl)) (hw _ (List.mem_of_getElem? (i := 7) rfl)) (hw _ (List.mem_of_getElem? (i := 8) rfl)) rfl (g := (mkF m 269 #[.val (.int p1), .val (.int p2), .val (.int p3), .val (.int p4), .val (.int p5), .val (.int p6), .val (.int n), .val (.int h1), .val (.int h2), .val (.int h3), .val (.int c0), .val (.int c1), .val (.int c2), .val (.int c3), .val (.int c4), .val (.ref b173), .val (.ref b185), .val (.ref b205), .val (.ref b235), .unset, .unset, .unset] [])) rfl (hb hby at_269) (by decide) (by decide)
  obtain ⟨b249, g249⟩ : ∃ z, z = T243.heap.size := ⟨_, rfl⟩
  rw [← g249] at A249 D249 st249
  have geb249 : T243.heap.size ≤ b249 := Nat.le_of_eq g249.symm
  have g_b249 : n0 ≤ b249 := Nat.le_trans Z244 geb249
  have sz_b249 : h0.size ≤ b249 := Nat.le_trans K244.1 geb249
  have O250 : Old Z n0 h249 := O244.ext E249
  have Z250 : n0 ≤ h249.size := Nat.le_trans Z244 E249.1
  have K250 : Keep h0 h249 [] := K244.ext E249
  have hk250 : h0.size ≤ h249.size := Nat.le_trans hk244 E249.1
  have f251 : Arv Z h249 b173 k173 .char (3 : Int32) [(.int c0), (.int c1), (.int c2)] (.int (0 : Int32)) := f245.ext E249
  have f252 : Arv Z h249 b185 k185 .char (4 : Int32) [(.int c0), (.int c1), (.int c2), (.int c3)] (.int (0 : Int32)) := f246.ext E249
  have f253 : Arv Z h249 b205 k205 .char (5 : Int32) [(.int c0), (.int c1), (.int c2), (.int c3), (.int c4)] (.int (0 : Int32)) := f247.ext E249
  have f254 : Exa Z h249 b235 "java/lang/String" := g1243.ext E249
  have f255 : Fld Z h249 b235 "java/lang/String" "coder" "B" (.int 0) := g2243.ext E249
  have f256 : Fld Z h249 b235 "java/lang/String" "value" "[B" (.ref t243) := g3243.ext E249
  have f257 : Arv Z h249 t243 kb243 .byte (4 : Int32) (((([c0, c1, c2, c3] : List Int32)).map (fun c => c.toInt8.toInt32)).map Value.int) (.int 0) := g4243.ext E249
  have f258 : Fld Z h249 b249 "java/lang/String" "coder" "B" (.int (0 : Int32)) := D249 (Or.inr (hw _ (List.mem_of_getElem? (i := 32) rfl))) (ty := .byte) (by decide)
  have f259 : Fld Z h249 b249 "java/lang/String" "value" "[B" .null := D249 (Or.inr (hw _ (List.mem_of_getElem? (i := 34) rfl))) (ty := (.array .byte)) (by decide)
  have hp260 : ∀ c ∈ ([c0, c1, c2, c3] : List Int32), ¬ c < 0 ∧ ¬ (255 : Int32) < c := by
    intro c hc
    simp only [List.mem_cons, List.not_mem_nil, or_false] at hc
    rcases hc with rfl | rfl | rfl | rfl
    · exact hr0
    · exact hr1
    · exact hr2
    · exact hr3
  obtain ⟨_, _, ⟨T261, L261, k261, n261⟩, -, X261, ⟨Lc261, hQ261, l261, y261, z261⟩, st261⟩ := X249.specialBack hx (y := (⟨"java/lang/String", "<init>", "([C)V"⟩ : MethodName)) rfl hown (mvT hZ (hw _ (List.mem_of_getElem? (i := 9) rfl))) (mvT hZ (hw _ (List.mem_of_getElem? (i := 10) rfl))) (mvT hZ (hw _ (List.mem_of_getElem? (i := 11) rfl))) (by decide) (StrChars.Road.backV (W := 1) hZ hws (kI := 4) (hw _ (List.mem_of_getElem? (i := 7) rfl)) (cs := ([c0, c1, c2, c3] : List Int32)) (bs := (([c0, c1, c2, c3] : List Int32)).map (fun c => c.toInt8.toInt32)) (n := 4) g_b249 Z250 A249 f259 f258 f252 (OC2.ext O250.2) OCz rfl rfl (by decide) (by decide) hp260 rfl (by decide) (by decide)) (g := (mkF m 275 #[.val (.int p1), .val (.int p2), .val (.int p3), .val (.int p4), .val (.int p5), .val (.int p6), .val (.int n), .val (.int h1), .val (.int h2), .val (.int h3), .val (.int c0), .val (.int c1), .val (.int c2), .val (.int c3), .val (.int c4), .val (.ref b173), .val (.ref b185), .val (.ref b205), .val (.ref b235), .unset, .unset, .unset] [(.ref b185), (.ref b249), (.ref b249)])) rfl (by rw [hml]; rfl) (Steps.refl _) (a := b249) (argsL := [(.ref b185)]) (rest := [(.ref b249)]) (lenOf pd___C_V rfl) rfl (by show 2 * 0 + _ ≤ _; exact Nat.le_of_eq rfl) (hb hby at_275) (fun _ _ => ⟨rfl, e249, (by decide : 6 + 1 ≤ _), (by decide : 24 + 4 ≤ _)⟩)
  dsimp only [Pt.U, Pt.locs, Pt.cells, Pt.slots] at X261 l261 y261 z261 st261 hQ261
  subst l261 y261 z261
  obtain ⟨rfl, N261q, K261k, g1261, g2261, t261, kb261, u1261, u2261, u3261, g3261, g4261⟩ := hQ261
  have N261 := Fr.app N243 N261q
  have O262 : Old Z n0 T261.heap := O250.keep K261k (allS g_b249 all0)
  have Z262 : n0 ≤ T261.heap.size := Nat.le_trans Z250 K261k.1
  have K262 : Keep h0 T261.heap [] := K250.trans K261k (allS (Or.inr sz_b249) all0)
  have hk262 : h0.size ≤ T261.heap.size := Nat.le_trans hk250 K261k.1
  have f263 : Arv Z T261.heap b173 k173 .char (3 : Int32) [(.int c0), (.int c1), (.int c2)] (.int (0 : Int32)) := f251.keep K261k (ninS (Nat.ne_of_lt (Nat.lt_of_lt_of_le f245.lt geb249)) nin0)
  have f264 : Arv Z T261.heap b185 k185 .char (4 : Int32) [(.int c0), (.int c1), (.int c2), (.int c3)] (.int (0 : Int32)) := f252.keep K261k (ninS (Nat.ne_of_lt (Nat.lt_of_lt_of_le f246.lt geb249)) nin0)
  have f265 : Arv Z T261.heap b205 k205 .char (5 : Int32) [(.int c0), (.int c1), (.int c2), (.int c3), (.int c4)] (.int (0 : Int32)) := f253.keep K261k (ninS (Nat.ne_of_lt (Nat.lt_of_lt_of_le f247.lt geb249)) nin0)
  have f266 : Exa Z T261.heap b235 "java/lang/String" := f254.keep K261k
  have f267 : Fld Z T261.heap b235 "java/lang/String" "coder" "B" (.int 0) := f255.keep K261k (ninS (Nat.ne_of_lt (Nat.lt_of_lt_of_le g1243.lt geb249)) nin0)
  have f268 : Fld Z T261.heap b235 "java/lang/String" "value" "[B" (.ref t243) := f256.keep K261k (ninS (Nat.ne_of_lt (Nat.lt_of_lt_of_le g1243.lt geb249)) nin0)
  have f269 : Arv Z T261.heap t243 kb243 .byte (4 : Int32) (((([c0, c1, c2, c3] : List Int32)).map (fun c => c.toInt8.toInt32)).map Value.int) (.int 0) := f257.keep K261k (ninS (Nat.ne_of_lt (Nat.lt_of_lt_of_le g4243.lt geb249)) nin0)
  have f270 : Exa Z T261.heap b249 "java/lang/String" := A249.keep K261k
  have sz_t261 : h0.size ≤ t261 := Nat.le_trans K250.1 u2261
  obtain ⟨_, _, ⟨T271, L271, k271, n271⟩, -, X271, hS271, hg271, ⟨Lc271, hQ271, l271, y271, z271⟩, st271⟩ := Jvm.RoadKit.callSS X261 hx (y := (⟨"com/example/nimble_queue/nimblequeue/core/QueueName", "of", "(Ljava/lang/String;)Lcom/example/nimble_queue/nimblequeue/core/QueueName;"⟩ : MethodName)) hown (mvT hZ (hw _ (List.mem_of_getElem? (i := 35) rfl))) (mvT hZ (hw _ (List.mem_of_getElem? (i := 36) rfl))) (mvT hZ (hw _ (List.mem_of_getElem? (i := 37) rfl))) (mvT hZ (hw _ (List.mem_of_getElem? (i := 38) rfl))) (by decide) (backOfS (W := 0) (rmOf l Z a0 hw [] b235 t243 kb243 ([c0, c1, c2, c3] : List Int32) (4 : Int32) GC (((([c0, c1, c2, c3] : List Int32)).map (fun c => c.toInt8.toInt32)).map Value.int) fm T261.heap n0 O262 wS f266 f267 f268 f269 hcd hbd (Nat.le_of_ble_eq_true rfl) (Nat.le_of_ble_eq_true rfl) OC2 OCz OF4 OFr hok) hZ (hw _ (List.mem_of_getElem? (i := 38) rfl)) (hw _ (List.mem_of_getElem? (i := 37) rfl)) (by decide) (by decide)) (g := (mkF m 307 #[.val (.int p1), .val (.int p2), .val (.int p3), .val (.int p4), .val (.int p5), .val (.int p6), .val (.int n), .val (.int h1), .val (.int h2), .val (.int h3), .val (.int c0), .val (.int c1), .val (.int c2), .val (.int c3), .val (.int c4), .val (.ref b173), .val (.ref b185), .val (.ref b205), .val (.ref b235), .val (.ref b249), .unset, .unset] [(.ref b235)])) rfl (by rw [hml]; rfl) (argsL := [(.ref b235)]) (rest := []) (lenOf pd__Ljava_lang_String__Lcom_example_nimble_queue_nimblequeue_core_QueueName_ rfl) rfl (by show 2 * 0 + _ ≤ _; exact Nat.le_of_eq rfl) (hb hby at_307) (fun _ _ => ⟨rfl, rfl, (by decide : 7 + 3 ≤ _), (by decide : 28 + 21 ≤ _)⟩)
  dsimp only [Pt.U, Pt.locs, Pt.cells, Pt.slots] at X271 l271 y271 z271 st271 hQ271 hS271 hg271
  subst l271 y271 z271
  obtain ⟨b271, rfl, N271q, K271k, hf271, g1271, g2271⟩ := hQ271
  have N271 := Fr.app N261 N271q
  obtain ⟨X271r, hS271r, hZ271, hown271⟩ := rebS hS0 hk262 X271 hS271 hg271 hZ hown
  have O272 : Old Z n0 T271.heap := O262.keep K271k all0
  have Z272 : n0 ≤ T271.heap.size := Nat.le_trans Z262 K271k.1
  have K272 : Keep h0 T271.heap [] := K262.trans K271k all0
  have f273 : Arv Z T271.heap b173 k173 .char (3 : Int32) [(.int c0), (.int c1), (.int c2)] (.int (0 : Int32)) := f263.keep K271k nin0
  have f274 : Arv Z T271.heap b185 k185 .char (4 : Int32) [(.int c0), (.int c1), (.int c2), (.int c3)] (.int (0 : Int32)) := f264.keep K271k nin0
  have f275 : Arv Z T271.heap b205 k205 .char (5 : Int32) [(.int c0), (.int c1), (.int c2), (.int c3), (.int c4)] (.int (0 : Int32)) := f265.keep K271k nin0
  have f276 : Exa Z T271.heap b235 "java/lang/String" := f266.keep K271k
  have f277 : Fld Z T271.heap b235 "java/lang/String" "coder" "B" (.int 0) := f267.keep K271k nin0
  have f278 : Fld Z T271.heap b235 "java/lang/String" "value" "[B" (.ref t243) := f268.keep K271k nin0
  have f279 : Arv Z T271.heap t243 kb243 .byte (4 : Int32) (((([c0, c1, c2, c3] : List Int32)).map (fun c => c.toInt8.toInt32)).map Value.int) (.int 0) := f269.keep K271k nin0
  have f280 : Exa Z T271.heap b249 "java/lang/String" := g1261.keep K271k
  have f281 : Fld Z T271.heap b249 "java/lang/String" "coder" "B" (.int 0) := g2261.keep K271k nin0
  have f282 : Fld Z T271.heap b249 "java/lang/String" "value" "[B" (.ref t261) := g3261.keep K271k nin0
  have f283 : Arv Z T271.heap t261 kb261 .byte (4 : Int32) (((([c0, c1, c2, c3] : List Int32)).map (fun c => c.toInt8.toInt32)).map Value.int) (.int 0) := g4261.keep K271k nin0
  have g_b271 : n0 ≤ b271 := Nat.le_trans Z262 hf271
  have sz_b271 : h0.size ≤ b271 := Nat.le_trans K262.1 hf271
  obtain ⟨_, _, ⟨T284, L284, k284, n284⟩, -, X284, hS284, hg284, ⟨Lc284, hQ284, l284, y284, z284⟩, st284⟩ := Jvm.RoadKit.callSS X271r hx (y := (⟨"com/example/nimble_queue/nimblequeue/core/QueueName", "of", "(Ljava/lang/String;)Lcom/example/nimble_queue/nimblequeue/core/QueueName;"⟩ : MethodName)) hown271 (mvT hZ271 (hw _ (List.mem_of_getElem? (i := 35) rfl))) (mvT hZ271 (hw _ (List.mem_of_getElem? (i := 36) rfl))) (mvT hZ271 (hw _ (List.mem_of_getElem? (i := 37) rfl))) (mvT hZ271 (hw _ (List.mem_of_getElem? (i := 38) rfl))) (by decide) (backOfS (W := 0) (rmOf l Z a0 hw [] b249 t261 kb261 ([c0, c1, c2, c3] : List Int32) (4 : Int32) GC (((([c0, c1, c2, c3] : List Int32)).map (fun c => c.toInt8.toInt32)).map Value.int) fm T271.heap n0 O272 wS f280 f281 f282 f283 hcd hbd (Nat.le_of_ble_eq_true rfl) (Nat.le_of_ble_eq_true rfl) OC2 OCz OF4 OFr hok) hZ271 (hw _ (List.mem_of_getElem? (i := 38) rfl)) (hw _ (List.mem_of_getElem? (i := 37) rfl)) (by decide) (by decide)) (g := (mkF m 314 #[.val (.int p1), .val (.int p2), .val (.int p3), .val (.int p4), .val (.int p5), .val (.int p6), .val (.int n), .val (.int h1), .val (.int h2), .val (.int h3), .val (.int c0), .val (.int c1), .val (.int c2), .val (.int c3), .val (.int c4), .val (.ref b173), .val (.ref b185), .val (.ref b205), .val (.ref b235), .val (.ref b249), .val (.ref b271), .unset] [(.ref b249)])) rfl (by rw [hml]; rfl) (argsL := [(.ref b249)]) (rest := []) (lenOf pd__Ljava_lang_String__Lcom_example_nimble_queue_nimblequeue_core_QueueName_ rfl) rfl (by show 2 * 0 + _ ≤ _; exact Nat.le_of_eq rfl) (hb hby at_314) (fun _ _ => ⟨rfl, rfl, (by decide : 10 + 3 ≤ _), (by decide : 49 + 21 ≤ _)⟩)
  dsimp only [Pt.U, Pt.locs, Pt.cells, Pt.slots] at X284 l284 y284 z284 st284 hQ284 hS284 hg284
  subst l284 y284 z284
  obtain ⟨b284, rfl, N284q, K284k, hf284, g1284, g2284⟩ := hQ284
  have N284 := Fr.app N271 N284q
  obtain ⟨X284r, hS284r, hZ284, hown284⟩ := rebS hS271r (Nat.le_refl _) X284 hS284 hg284 hZ271 hown271
  have O285 : Old Z n0 T284.heap := O272.keep K284k all0
  have Z285 : n0 ≤ T284.heap.size := Nat.le_trans Z272 K284k.1
  have K285 : Keep h0 T284.heap [] := K272.trans K284k all0
  have f286 : Arv Z T284.heap b173 k173 .char (3 : Int32) [(.int c0), (.int c1), (.int c2)] (.int (0 : Int32)) := f273.keep K284k nin0
  have f287 : Arv Z T284.heap b185 k185 .char (4 : Int32) [(.int c0), (.int c1), (.int c2), (.int c3)] (.int (0 : Int32)) := f274.keep K284k nin0
  have f288 : Arv Z T284.heap b205 k205 .char (5 : Int32) [(.int c0), (.int c1), (.int c2), (.int c3), (.int c4)] (.int (0 : Int32)) := f275.keep K284k nin0
  have f289 : Exa Z T284.heap b235 "java/lang/String" := f276.keep K284k
  have f290 : Fld Z T284.heap b235 "java/lang/String" "coder" "B" (.int 0) := f277.keep K284k nin0
  have f291 : Fld Z T284.heap b235 "java/lang/String" "value" "[B" (.ref t243) := f278.keep K284k nin0
  have f292 : Arv Z T284.heap t243 kb243 .byte (4 : Int32) (((([c0, c1, c2, c3] : List Int32)).map (fun c => c.toInt8.toInt32)).map Value.int) (.int 0) := f279.keep K284k nin0
  have f293 : Exa Z T284.heap b249 "java/lang/String" := f280.keep K284k
  have f294 : Fld Z T284.heap b249 "java/lang/String" "coder" "B" (.int 0) := f281.keep K284k nin0
  have f295 : Fld Z T284.heap b249 "java/lang/String" "value" "[B" (.ref t261) := f282.keep K284k nin0
  have f296 : Arv Z T284.heap t261 kb261 .byte (4 : Int32) (((([c0, c1, c2, c3] : List Int32)).map (fun c => c.toInt8.toInt32)).map Value.int) (.int 0) := f283.keep K284k nin0
  have f297 : Exa Z T284.heap b271 "com/example/nimble_queue/nimblequeue/core/QueueName" := g1271.keep K284k
  have f298 : Fld Z T284.heap b271 "com/example/nimble_queue/nimblequeue/core/QueueName" "name" "Ljava/lang/String;" (.ref b235) := g2271.keep K284k nin0
  have g_b284 : n0 ≤ b284 := Nat.le_trans Z272 hf284
  have sz_b284 : h0.size ≤ b284 := Nat.le_trans K272.1 hf284
  obtain ⟨cq299, kq299, qa299, qb299, qc299⟩ := isOf hZ284 rfl f297
  obtain ⟨_, _, ⟨T299, L299, k299, n299⟩, -, X299, ⟨Lc299, hQ299, l299, y299, z299⟩, st299⟩ := X284r.virtualBack hx (y := (⟨"com/example/nimble_queue/nimblequeue/core/QueueName", "toString", "()Ljava/lang/String;"⟩ : MethodName)) (z := (⟨"com/example/nimble_queue/nimblequeue/core/QueueName", "toString", "()Ljava/lang/String;"⟩ : MethodName)) hown284 (mvT hZ284 (hw _ (List.mem_of_getElem? (i := 89) rfl))) (mvT hZ284 (hw _ (List.mem_of_getElem? (i := 90) rfl))) (notFace_of_selects (args := #[]) (mvT hZ284 (hw _ (List.mem_of_getElem? (i := 92) rfl)))) (mvT hZ284 (hw _ (List.mem_of_getElem? (i := 92) rfl))) (mvT hZ284 (hw _ (List.mem_of_getElem? (i := 91) rfl))) (by decide) (backOf (W := 0) (rmTS l Z a0 hw [] b271 b235 T284.heap n0 O285 f298) hZ284 (hw _ (List.mem_of_getElem? (i := 93) rfl)) (hw _ (List.mem_of_getElem? (i := 37) rfl)) (by decide) (by decide)) qa299 qc299 (g := (mkF m 326 #[.val (.int p1), .val (.int p2), .val (.int p3), .val (.int p4), .val (.int p5), .val (.int p6), .val (.int n), .val (.int h1), .val (.int h2), .val (.int h3), .val (.int c0), .val (.int c1), .val (.int c2), .val (.int c3), .val (.int c4), .val (.ref b173), .val (.ref b185), .val (.ref b205), .val (.ref b235), .val (.ref b249), .val (.ref b271), .val (.ref b284)] [(.ref b271)])) rfl (by rw [hml]; rfl) (Steps.refl _) (argsL := []) (rest := []) (lenOf pd___Ljava_lang_String_ rfl) rfl (by show 2 * 0 + _ ≤ _; exact Nat.le_of_eq rfl) (hb hby at_326) (fun _ _ => ⟨rfl, rfl, (by decide : 13 + 0 ≤ _), (by decide : 70 + 0 ≤ _)⟩)
  dsimp only [Pt.U, Pt.locs, Pt.cells, Pt.slots] at X299 l299 y299 z299 st299 hQ299
  subst l299 y299 z299
  obtain ⟨rfl, N299q, e299⟩ := hQ299
  have N299 := Fr.app N284 N299q
  have heq : ∀ d ∈ StrChars.Road.wordsEq, d.before a0 Z = true := fun d hd => hw d ((by decide +kernel : ∀ d ∈ StrChars.Road.wordsEq, d ∈ tables_1) d hd)
  obtain ⟨cq300, kq300, qa300, qb300, qc300⟩ := isOf hZ284 e299 f289
  obtain ⟨_, _, ⟨T300, L300, k300, n300⟩, -, X300, ⟨Lc300, hQ300, l300, y300, z300⟩, st300⟩ := X299.virtualBack hx (y := (⟨"java/lang/String", "equals", "(Ljava/lang/Object;)Z"⟩ : MethodName)) (z := (⟨"java/lang/String", "equals", "(Ljava/lang/Object;)Z"⟩ : MethodName)) hown284 (mvT hZ284 (hw _ (List.mem_of_getElem? (i := 94) rfl))) (mvT hZ284 (hw _ (List.mem_of_getElem? (i := 95) rfl))) (notFace_of_selects (args := #[]) (mvT hZ284 (hw _ (List.mem_of_getElem? (i := 97) rfl)))) (mvT hZ284 (hw _ (List.mem_of_getElem? (i := 97) rfl))) (mvT hZ284 (hw _ (List.mem_of_getElem? (i := 96) rfl))) (by decide) (StrChars.Road.eqW (W := 0) hZ284 heq (kI := 4) (hw _ (List.mem_of_getElem? (i := 7) rfl)) f289 f291 f290 f292 hcd hbd (Nat.le_trans (Nat.le_of_ble_eq_true rfl : ([c0, c1, c2, c3] : List Int32).length ≤ 63) (by decide)) f289 f291 f290 f292 hcd hbd (Nat.le_trans (Nat.le_of_ble_eq_true rfl : ([c0, c1, c2, c3] : List Int32).length ≤ 63) (by decide)) (OC2.ext O285.2) OCz (by decide) (by decide)) qa300 qc300 (g := (mkF m 331 #[.val (.int p1), .val (.int p2), .val (.int p3), .val (.int p4), .val (.int p5), .val (.int p6), .val (.int n), .val (.int h1), .val (.int h2), .val (.int h3), .val (.int c0), .val (.int c1), .val (.int c2), .val (.int c3), .val (.int c4), .val (.ref b173), .val (.ref b185), .val (.ref b205), .val (.ref b235), .val (.ref b249), .val (.ref b271), .val (.ref b284)] [(.ref b235), (.ref b235)])) rfl (by rw [hml]; rfl) (Steps.refl _) (argsL := [(.ref b235)]) (rest := []) (lenOf pd__Ljava_lang_Object__Z rfl) rfl (by show 2 * 0 + _ ≤ _; exact Nat.le_of_eq rfl) (hb hby at_331) (fun _ _ => ⟨rfl, e299, (by decide : 13 + 0 ≤ _), (by decide : 70 + 0 ≤ _)⟩)
  dsimp only [Pt.U, Pt.locs, Pt.cells, Pt.slots] at X300 l300 y300 z300 st300 hQ300
  subst l300 y300 z300
  obtain ⟨hd300, rfl, e300⟩ := hQ300
  obtain ⟨rfl, -⟩ := hd300.resolve_right (fun q => q.2 rfl)
  have N300q : Fr n0 ([] : List Loc) := Fr.nil n0
  have N300 := Fr.app N299 N300q
  obtain ⟨cq301, kq301, qa301, qb301, qc301⟩ := isOf hZ284 e300 f297
  obtain ⟨_, _, ⟨T301, L301, k301, n301⟩, -, X301, ⟨Lc301, hQ301, l301, y301, z301⟩, st301⟩ := X300.virtualBack hx (y := (⟨"com/example/nimble_queue/nimblequeue/core/QueueName", "equals", "(Ljava/lang/Object;)Z"⟩ : MethodName)) (z := (⟨"com/example/nimble_queue/nimblequeue/core/QueueName", "equals", "(Ljava/lang/Object;)Z"⟩ : MethodName)) hown284 (mvT hZ284 (hw _ (List.mem_of_getElem? (i := 99) rfl))) (mvT hZ284 (hw _ (List.mem_of_getElem? (i := 100) rfl))) (notFace_of_selects (args := #[]) (mvT hZ284 (hw _ (List.mem_of_getElem? (i := 102) rfl)))) (mvT hZ284 (hw _ (List.mem_of_getElem? (i := 102) rfl))) (mvT hZ284 (hw _ (List.mem_of_getElem? (i := 101) rfl))) (by decide) (backOf (W := 0) (rmQE l Z a0 hw [] b271 b284 b235 t243 b249 t261 kb243 kb261 ([c0, c1, c2, c3] : List Int32) (4 : Int32) GC (((([c0, c1, c2, c3] : List Int32)).map (fun c => c.toInt8.toInt32)).map Value.int) T284.heap n0 O285 f297 g1284 f298 g2284 f289 f290 f291 f292 f293 f294 f295 f296 hcd hbd (Nat.le_of_ble_eq_true rfl) OC2 OCz) hZ284 (hw _ (List.mem_of_getElem? (i := 103) rfl)) (hw _ (List.mem_of_getElem? (i := 37) rfl)) (by decide) (by decide)) qa301 qc301 (g := (mkF m 341 #[.val (.int p1), .val (.int p2), .val (.int p3), .val (.int p4), .val (.int p5), .val (.int p6), .val (.int n), .val (.int h1), .val (.int h2), .val (.int h3), .val (.int c0), .val (.int c1), .val (.int c2), .val (.int c3), .val (.int c4), .val (.ref b173), .val (.ref b185), .val (.ref b205), .val (.ref b235), .val (.ref b249), .val (.ref b271), .val (.ref b284)] [(.ref b284), (.ref b271)])) rfl (by rw [hml]; rfl) (Steps.refl _) (argsL := [(.ref b284)]) (rest := []) (lenOf pd__Ljava_lang_Object__Z rfl) rfl (by show 2 * 0 + _ ≤ _; exact Nat.le_of_eq rfl) (hb hby at_341) (fun _ _ => ⟨rfl, e300, (by decide : 13 + 0 ≤ _), (by decide : 70 + 0 ≤ _)⟩)
  dsimp only [Pt.U, Pt.locs, Pt.cells, Pt.slots] at X301 l301 y301 z301 st301 hQ301
  subst l301 y301 z301
  obtain ⟨rfl, N301q, e301⟩ := hQ301
  have N301 := Fr.app N300 N301q
  obtain ⟨fs, hr, hrun, hended, hEnd⟩ := X301.leaveW (s := s) hS284r (by rw [e301]; exact (Nat.le_refl _)) (v := some (.int 1)) (fun h => by rw [hret] at h; cases h) hlk
  refine ⟨_, _, ?_, hrun, hended, N301, hEnd.1, hEnd.2.1, hEnd.2.2.1, hEnd.2.2.2.mono (by decide) (by decide)⟩
  show Steps p.tables e below (T0.setTop (mkF m 146 #[.val (.int p1), .val (.int p2), .val (.int p3), .val (.int p4), .val (.int p5), .val (.int p6), .val (.int n), .val (.int h1), .val (.int h2), .val (.int h3), .val (.int c0), .val (.int c1), .val (.int c2), .val (.int c3), .val (.int c4), .unset, .unset, .unset, .unset, .unset, .unset, .unset] [])) _
  refine XS.iconst X0.here hx rfl (hb hby at_146) ?_
  show Steps p.tables e below (T0.setTop (mkF m 147 #[.val (.int p1), .val (.int p2), .val (.int p3), .val (.int p4), .val (.int p5), .val (.int p6), .val (.int n), .val (.int h1), .val (.int h2), .val (.int h3), .val (.int c0), .val (.int c1), .val (.int c2), .val (.int c3), .val (.int c4), .unset, .unset, .unset, .unset, .unset, .unset, .unset] [(.int (3 : Int32))])) _
  refine st173 _ ?_
  show Steps p.tables e below (T173.setTop (mkF m 149 #[.val (.int p1), .val (.int p2), .val (.int p3), .val (.int p4), .val (.int p5), .val (.int p6), .val (.int n), .val (.int h1), .val (.int h2), .val (.int h3), .val (.int c0), .val (.int c1), .val (.int c2), .val (.int c3), .val (.int c4), .unset, .unset, .unset, .unset, .unset, .unset, .unset] [(.ref b173)])) _
  refine XS.dup X173.here hx rfl (hb hby at_149) rfl rfl ?_
  show Steps p.tables e below (T173.setTop (mkF m 150 #[.val (.int p1), .val (.int p2), .val (.int p3), .val (.int p4), .val (.int p5), .val (.int p6), .val (.int n), .val (.int h1), .val (.int h2), .val (.int h3), .val (.int c0), .val (.int c1), .val (.int c2), .val (.int c3), .val (.int c4), .unset, .unset, .unset, .unset, .unset, .unset, .unset] [(.ref b173), (.ref b173)])) _
  refine XS.iconst X173.here hx rfl (hb hby at_150) ?_
  show Steps p.tables e below (T173.setTop (mkF m 151 #[.val (.int p1), .val (.int p2), .val (.int p3), .val (.int p4), .val (.int p5), .val (.int p6), .val (.int n), .val (.int h1), .val (.int h2), .val (.int h3), .val (.int c0), .val (.int c1), .val (.int c2), .val (.int c3), .val (.int c4), .unset, .unset, .unset, .unset, .unset, .unset, .unset] [(.int (0 : Int32)), (.ref b173), (.ref b173)])) _
  refine XS.iload X173.here hx rfl (hb hby at_151) rfl ?_
  show Steps p.tables e below (T173.setTop (mkF m 153 #[.val (.int p1), .val (.int p2), .val (.int p3), .val (.int p4), .val (.int p5), .val (.int p6), .val (.int n), .val (.int h1), .val (.int h2), .val (.int h3), .val (.int c0), .val (.int c1), .val (.int c2), .val (.int c3), .val (.int c4), .unset, .unset, .unset, .unset, .unset, .unset, .unset] [(.int c0), (.int (0 : Int32)), (.ref b173), (.ref b173)])) _
  refine st176 _ ?_
  show Steps p.tables e below (T176.setTop (mkF m 154 #[.val (.int p1), .val (.int p2), .val (.int p3), .val (.int p4), .val (.int p5), .val (.int p6), .val (.int n), .val (.int h1), .val (.int h2), .val (.int h3), .val (.int c0), .val (.int c1), .val (.int c2), .val (.int c3), .val (.int c4), .unset, .unset, .unset, .unset, .unset, .unset, .unset] [(.ref b173)])) _
  refine XS.dup X176.here hx rfl (hb hby at_154) rfl rfl ?_
  show Steps p.tables e below (T176.setTop (mkF m 155 #[.val (.int p1), .val (.int p2), .val (.int p3), .val (.int p4), .val (.int p5), .val (.int p6), .val (.int n), .val (.int h1), .val (.int h2), .val (.int h3), .val (.int c0), .val (.int c1), .val (.int c2), .val (.int c3), .val (.int c4), .unset, .unset, .unset, .unset, .unset, .unset, .unset] [(.ref b173), (.ref b173)])) _
  refine XS.iconst X176.here hx rfl (hb hby at_155) ?_
  show Steps p.tables e below (T176.setTop (mkF m 156 #[.val (.int p1), .val (.int p2), .val (.int p3), .val (.int p4), .val (.int p5), .val (.int p6), .val (.int n), .val (.int h1), .val (.int h2), .val (.int h3), .val (.int c0), .val (.int c1), .val (.int c2), .val (.int c3), .val (.int c4), .unset, .unset, .unset, .unset, .unset, .unset, .unset] [(.int (1 : Int32)), (.ref b173), (.ref b173)])) _
  refine XS.iload X176.here hx rfl (hb hby at_156) rfl ?_
  show Steps p.tables e below (T176.setTop (mkF m 158 #[.val (.int p1), .val (.int p2), .val (.int p3), .val (.int p4), .val (.int p5), .val (.int p6), .val (.int n), .val (.int h1), .val (.int h2), .val (.int h3), .val (.int c0), .val (.int c1), .val (.int c2), .val (.int c3), .val (.int c4), .unset, .unset, .unset, .unset, .unset, .unset, .unset] [(.int c1), (.int (1 : Int32)), (.ref b173), (.ref b173)])) _
  refine st179 _ ?_
  show Steps p.tables e below (T179.setTop (mkF m 159 #[.val (.int p1), .val (.int p2), .val (.int p3), .val (.int p4), .val (.int p5), .val (.int p6), .val (.int n), .val (.int h1), .val (.int h2), .val (.int h3), .val (.int c0), .val (.int c1), .val (.int c2), .val (.int c3), .val (.int c4), .unset, .unset, .unset, .unset, .unset, .unset, .unset] [(.ref b173)])) _
  refine XS.dup X179.here hx rfl (hb hby at_159) rfl rfl ?_
  show Steps p.tables e below (T179.setTop (mkF m 160 #[.val (.int p1), .val (.int p2), .val (.int p3), .val (.int p4), .val (.int p5), .val (.int p6), .val (.int n), .val (.int h1), .val (.int h2), .val (.int h3), .val (.int c0), .val (.int c1), .val (.int c2), .val (.int c3), .val (.int c4), .unset, .unset, .unset, .unset, .unset, .unset, .unset] [(.ref b173), (.ref b173)])) _
  refine XS.iconst X179.here hx rfl (hb hby at_160) ?_
  show Steps p.tables e below (T179.setTop (mkF m 161 #[.val (.int p1), .val (.int p2), .val (.int p3), .val (.int p4), .val (.int p5), .val (.int p6), .val (.int n), .val (.int h1), .val (.int h2), .val (.int h3), .val (.int c0), .val (.int c1), .val (.int c2), .val (.int c3), .val (.int c4), .unset, .unset, .unset, .unset, .unset, .unset, .unset] [(.int (2 : Int32)), (.ref b173), (.ref b173)])) _
  refine XS.iload X179.here hx rfl (hb hby at_161) rfl ?_
  show Steps p.tables e below (T179.setTop (mkF m 163 #[.val (.int p1), .val (.int p2), .val (.int p3), .val (.int p4), .val (.int p5), .val (.int p6), .val (.int n), .val (.int h1), .val (.int h2), .val (.int h3), .val (.int c0), .val (.int c1), .val (.int c2), .val (.int c3), .val (.int c4), .unset, .unset, .unset, .unset, .unset, .unset, .unset] [(.int c2), (.int (2 : Int32)), (.ref b173), (.ref b173)])) _
  refine st182 _ ?_
  show Steps p.tables e below (T182.setTop (mkF m 164 #[.val (.int p1), .val (.int p2), .val (.int p3), .val (.int p4), .val (.int p5), .val (.int p6), .val (.int n), .val (.int h1), .val (.int h2), .val (.int h3), .val (.int c0), .val (.int c1), .val (.int c2), .val (.int c3), .val (.int c4), .unset, .unset, .unset, .unset, .unset, .unset, .unset] [(.ref b173)])) _
  refine XS.astore X182.here hx rfl (hb hby at_164) rfl rfl (l' := #[.val (.int p1), .val (.int p2), .val (.int p3), .val (.int p4), .val (.int p5), .val (.int p6), .val (.int n), .val (.int h1), .val (.int h2), .val (.int h3), .val (.int c0), .val (.int c1), .val (.int c2), .val (.int c3), .val (.int c4), .val (.ref b173), .unset, .unset, .unset, .unset, .unset, .unset]) rfl ?_
  show Steps p.tables e below (T182.setTop (mkF m 166 #[.val (.int p1), .val (.int p2), .val (.int p3), .val (.int p4), .val (.int p5), .val (.int p6), .val (.int n), .val (.int h1), .val (.int h2), .val (.int h3), .val (.int c0), .val (.int c1), .val (.int c2), .val (.int c3), .val (.int c4), .val (.ref b173), .unset, .unset, .unset, .unset, .unset, .unset] [])) _
  refine XS.iconst X182.here hx rfl (hb hby at_166) ?_
  show Steps p.tables e below (T182.setTop (mkF m 167 #[.val (.int p1), .val (.int p2), .val (.int p3), .val (.int p4), .val (.int p5), .val (.int p6), .val (.int n), .val (.int h1), .val (.int h2), .val (.int h3), .val (.int c0), .val (.int c1), .val (.int c2), .val (.int c3), .val (.int c4), .val (.ref b173), .unset, .unset, .unset, .unset, .unset, .unset] [(.int (4 : Int32))])) _
  refine st185 _ ?_
  show Steps p.tables e below (T185.setTop (mkF m 169 #[.val (.int p1), .val (.int p2), .val (.int p3), .val (.int p4), .val (.int p5), .val (.int p6), .val (.int n), .val (.int h1), .val (.int h2), .val (.int h3), .val (.int c0), .val (.int c1), .val (.int c2), .val (.int c3), .val (.int c4), .val (.ref b173), .unset, .unset, .unset, .unset, .unset, .unset] [(.ref b185)])) _
  refine XS.dup X185.here hx rfl (hb hby at_169) rfl rfl ?_
  show Steps p.tables e below (T185.setTop (mkF m 170 #[.val (.int p1), .val (.int p2), .val (.int p3), .val (.int p4), .val (.int p5), .val (.int p6), .val (.int n), .val (.int h1), .val (.int h2), .val (.int h3), .val (.int c0), .val (.int c1), .val (.int c2), .val (.int c3), .val (.int c4), .val (.ref b173), .unset, .unset, .unset, .unset, .unset, .unset] [(.ref b185), (.ref b185)])) _
  refine XS.iconst X185.here hx rfl (hb hby at_170) ?_
  show Steps p.tables e below (T185.setTop (mkF m 171 #[.val (.int p1), .val (.int p2), .val (.int p3), .val (.int p4), .val (.int p5), .val (.int p6), .val (.int n), .val (.int h1), .val (.int h2), .val (.int h3), .val (.int c0), .val (.int c1), .val (.int c2), .val (.int c3), .val (.int c4), .val (.ref b173), .unset, .unset, .unset, .unset, .unset, .unset] [(.int (0 : Int32)), (.ref b185), (.ref b185)])) _
  refine XS.iload X185.here hx rfl (hb hby at_171) rfl ?_
  show Steps p.tables e below (T185.setTop (mkF m 173 #[.val (.int p1), .val (.int p2), .val (.int p3), .val (.int p4), .val (.int p5), .val (.int p6), .val (.int n), .val (.int h1), .val (.int h2), .val (.int h3), .val (.int c0), .val (.int c1), .val (.int c2), .val (.int c3), .val (.int c4), .val (.ref b173), .unset, .unset, .unset, .unset, .unset, .unset] [(.int c0), (.int (0 : Int32)), (.ref b185), (.ref b185)])) _
  refine st189 _ ?_
  show Steps p.tables e below (T189.setTop (mkF m 174 #[.val (.int p1), .val (.int p2), .val (.int p3), .val (.int p4), .val (.int p5), .val (.int p6), .val (.int n), .val (.int h1), .val (.int h2), .val (.int h3), .val (.int c0), .val (.int c1), .val (.int c2), .val (.int c3), .val (.int c4), .val (.ref b173), .unset, .unset, .unset, .unset, .unset, .unset] [(.ref b185)])) _
  refine XS.dup X189.here hx rfl (hb hby at_174) rfl rfl ?_
  show Steps p.tables e below (T189.setTop (mkF m 175 #[.val (.int p1), .val (.int p2), .val (.int p3), .val (.int p4), .val (.int p5), .val (.int p6), .val (.int n), .val (.int h1), .val (.int h2), .val (.int h3), .val (.int c0), .val (.int c1), .val (.int c2), .val (.int c3), .val (.int c4), .val (.ref b173), .unset, .unset, .unset, .unset, .unset, .unset] [(.ref b185), (.ref b185)])) _
  refine XS.iconst X189.here hx rfl (hb hby at_175) ?_
  show Steps p.tables e below (T189.setTop (mkF m 176 #[.val (.int p1), .val (.int p2), .val (.int p3), .val (.int p4), .val (.int p5), .val (.int p6), .val (.int n), .val (.int h1), .val (.int h2), .val (.int h3), .val (.int c0), .val (.int c1), .val (.int c2), .val (.int c3), .val (.int c4), .val (.ref b173), .unset, .unset, .unset, .unset, .unset, .unset] [(.int (1 : Int32)), (.ref b185), (.ref b185)])) _
  refine XS.iload X189.here hx rfl (hb hby at_176) rfl ?_
  show Steps p.tables e below (T189.setTop (mkF m 178 #[.val (.int p1), .val (.int p2), .val (.int p3), .val (.int p4), .val (.int p5), .val (.int p6), .val (.int n), .val (.int h1), .val (.int h2), .val (.int h3), .val (.int c0), .val (.int c1), .val (.int c2), .val (.int c3), .val (.int c4), .val (.ref b173), .unset, .unset, .unset, .unset, .unset, .unset] [(.int c1), (.int (1 : Int32)), (.ref b185), (.ref b185)])) _
  refine st193 _ ?_
  show Steps p.tables e below (T193.setTop (mkF m 179 #[.val (.int p1), .val (.int p2), .val (.int p3), .val (.int p4), .val (.int p5), .val (.int p6), .val (.int n), .val (.int h1), .val (.int h2), .val (.int h3), .val (.int c0), .val (.int c1), .val (.int c2), .val (.int c3), .val (.int c4), .val (.ref b173), .unset, .unset, .unset, .unset, .unset, .unset] [(.ref b185)])) _
  refine XS.dup X193.here hx rfl (hb hby at_179) rfl rfl ?_
  show Steps p.tables e below (T193.setTop (mkF m 180 #[.val (.int p1), .val (.int p2), .val (.int p3), .val (.int p4), .val (.int p5), .val (.int p6), .val (.int n), .val (.int h1), .val (.int h2), .val (.int h3), .val (.int c0), .val (.int c1), .val (.int c2), .val (.int c3), .val (.int c4), .val (.ref b173), .unset, .unset, .unset, .unset, .unset, .unset] [(.ref b185), (.ref b185)])) _
  refine XS.iconst X193.here hx rfl (hb hby at_180) ?_
  show Steps p.tables e below (T193.setTop (mkF m 181 #[.val (.int p1), .val (.int p2), .val (.int p3), .val (.int p4), .val (.int p5), .val (.int p6), .val (.int n), .val (.int h1), .val (.int h2), .val (.int h3), .val (.int c0), .val (.int c1), .val (.int c2), .val (.int c3), .val (.int c4), .val (.ref b173), .unset, .unset, .unset, .unset, .unset, .unset] [(.int (2 : Int32)), (.ref b185), (.ref b185)])) _
  refine XS.iload X193.here hx rfl (hb hby at_181) rfl ?_
  show Steps p.tables e below (T193.setTop (mkF m 183 #[.val (.int p1), .val (.int p2), .val (.int p3), .val (.int p4), .val (.int p5), .val (.int p6), .val (.int n), .val (.int h1), .val (.int h2), .val (.int h3), .val (.int c0), .val (.int c1), .val (.int c2), .val (.int c3), .val (.int c4), .val (.ref b173), .unset, .unset, .unset, .unset, .unset, .unset] [(.int c2), (.int (2 : Int32)), (.ref b185), (.ref b185)])) _
  refine st197 _ ?_
  show Steps p.tables e below (T197.setTop (mkF m 184 #[.val (.int p1), .val (.int p2), .val (.int p3), .val (.int p4), .val (.int p5), .val (.int p6), .val (.int n), .val (.int h1), .val (.int h2), .val (.int h3), .val (.int c0), .val (.int c1), .val (.int c2), .val (.int c3), .val (.int c4), .val (.ref b173), .unset, .unset, .unset, .unset, .unset, .unset] [(.ref b185)])) _
  refine XS.dup X197.here hx rfl (hb hby at_184) rfl rfl ?_
  show Steps p.tables e below (T197.setTop (mkF m 185 #[.val (.int p1), .val (.int p2), .val (.int p3), .val (.int p4), .val (.int p5), .val (.int p6), .val (.int n), .val (.int h1), .val (.int h2), .val (.int h3), .val (.int c0), .val (.int c1), .val (.int c2), .val (.int c3), .val (.int c4), .val (.ref b173), .unset, .unset, .unset, .unset, .unset, .unset] [(.ref b185), (.ref b185)])) _
  refine XS.iconst X197.here hx rfl (hb hby at_185) ?_
  show Steps p.tables e below (T197.setTop (mkF m 186 #[.val (.int p1), .val (.int p2), .val (.int p3), .val (.int p4), .val (.int p5), .val (.int p6), .val (.int n), .val (.int h1), .val (.int h2), .val (.int h3), .val (.int c0), .val (.int c1), .val (.int c2), .val (.int c3), .val (.int c4), .val (.ref b173), .unset, .unset, .unset, .unset, .unset, .unset] [(.int (3 : Int32)), (.ref b185), (.ref b185)])) _
  refine XS.iload X197.here hx rfl (hb hby at_186) rfl ?_
  show Steps p.tables e below (T197.setTop (mkF m 188 #[.val (.int p1), .val (.int p2), .val (.int p3), .val (.int p4), .val (.int p5), .val (.int p6), .val (.int n), .val (.int h1), .val (.int h2), .val (.int h3), .val (.int c0), .val (.int c1), .val (.int c2), .val (.int c3), .val (.int c4), .val (.ref b173), .unset, .unset, .unset, .unset, .unset, .unset] [(.int c3), (.int (3 : Int32)), (.ref b185), (.ref b185)])) _
  refine st201 _ ?_
  show Steps p.tables e below (T201.setTop (mkF m 189 #[.val (.int p1), .val (.int p2), .val (.int p3), .val (.int p4), .val (.int p5), .val (.int p6), .val (.int n), .val (.int h1), .val (.int h2), .val (.int h3), .val (.int c0), .val (.int c1), .val (.int c2), .val (.int c3), .val (.int c4), .val (.ref b173), .unset, .unset, .unset, .unset, .unset, .unset] [(.ref b185)])) _
  refine XS.astore X201.here hx rfl (hb hby at_189) rfl rfl (l' := #[.val (.int p1), .val (.int p2), .val (.int p3), .val (.int p4), .val (.int p5), .val (.int p6), .val (.int n), .val (.int h1), .val (.int h2), .val (.int h3), .val (.int c0), .val (.int c1), .val (.int c2), .val (.int c3), .val (.int c4), .val (.ref b173), .val (.ref b185), .unset, .unset, .unset, .unset, .unset]) rfl ?_
  show Steps p.tables e below (T201.setTop (mkF m 191 #[.val (.int p1), .val (.int p2), .val (.int p3), .val (.int p4), .val (.int p5), .val (.int p6), .val (.int n), .val (.int h1), .val (.int h2), .val (.int h3), .val (.int c0), .val (.int c1), .val (.int c2), .val (.int c3), .val (.int c4), .val (.ref b173), .val (.ref b185), .unset, .unset, .unset, .unset, .unset] [])) _
  refine XS.iconst X201.here hx rfl (hb hby at_191) ?_
  show Steps p.tables e below (T201.setTop (mkF m 192 #[.val (.int p1), .val (.int p2), .val (.int p3), .val (.int p4), .val (.int p5), .val (.int p6), .val (.int n), .val (.int h1), .val (.int h2), .val (.int h3), .val (.int c0), .val (.int c1), .val (.int c2), .val (.int c3), .val (.int c4), .val (.ref b173), .val (.ref b185), .unset, .unset, .unset, .unset, .unset] [(.int (5 : Int32))])) _
  refine st205 _ ?_
  show Steps p.tables e below (T205.setTop (mkF m 194 #[.val (.int p1), .val (.int p2), .val (.int p3), .val (.int p4), .val (.int p5), .val (.int p6), .val (.int n), .val (.int h1), .val (.int h2), .val (.int h3), .val (.int c0), .val (.int c1), .val (.int c2), .val (.int c3), .val (.int c4), .val (.ref b173), .val (.ref b185), .unset, .unset, .unset, .unset, .unset] [(.ref b205)])) _
  refine XS.dup X205.here hx rfl (hb hby at_194) rfl rfl ?_
  show Steps p.tables e below (T205.setTop (mkF m 195 #[.val (.int p1), .val (.int p2), .val (.int p3), .val (.int p4), .val (.int p5), .val (.int p6), .val (.int n), .val (.int h1), .val (.int h2), .val (.int h3), .val (.int c0), .val (.int c1), .val (.int c2), .val (.int c3), .val (.int c4), .val (.ref b173), .val (.ref b185), .unset, .unset, .unset, .unset, .unset] [(.ref b205), (.ref b205)])) _
  refine XS.iconst X205.here hx rfl (hb hby at_195) ?_
  show Steps p.tables e below (T205.setTop (mkF m 196 #[.val (.int p1), .val (.int p2), .val (.int p3), .val (.int p4), .val (.int p5), .val (.int p6), .val (.int n), .val (.int h1), .val (.int h2), .val (.int h3), .val (.int c0), .val (.int c1), .val (.int c2), .val (.int c3), .val (.int c4), .val (.ref b173), .val (.ref b185), .unset, .unset, .unset, .unset, .unset] [(.int (0 : Int32)), (.ref b205), (.ref b205)])) _
  refine XS.iload X205.here hx rfl (hb hby at_196) rfl ?_
  show Steps p.tables e below (T205.setTop (mkF m 198 #[.val (.int p1), .val (.int p2), .val (.int p3), .val (.int p4), .val (.int p5), .val (.int p6), .val (.int n), .val (.int h1), .val (.int h2), .val (.int h3), .val (.int c0), .val (.int c1), .val (.int c2), .val (.int c3), .val (.int c4), .val (.ref b173), .val (.ref b185), .unset, .unset, .unset, .unset, .unset] [(.int c0), (.int (0 : Int32)), (.ref b205), (.ref b205)])) _
  refine st210 _ ?_
  show Steps p.tables e below (T210.setTop (mkF m 199 #[.val (.int p1), .val (.int p2), .val (.int p3), .val (.int p4), .val (.int p5), .val (.int p6), .val (.int n), .val (.int h1), .val (.int h2), .val (.int h3), .val (.int c0), .val (.int c1), .val (.int c2), .val (.int c3), .val (.int c4), .val (.ref b173), .val (.ref b185), .unset, .unset, .unset, .unset, .unset] [(.ref b205)])) _
  refine XS.dup X210.here hx rfl (hb hby at_199) rfl rfl ?_
  show Steps p.tables e below (T210.setTop (mkF m 200 #[.val (.int p1), .val (.int p2), .val (.int p3), .val (.int p4), .val (.int p5), .val (.int p6), .val (.int n), .val (.int h1), .val (.int h2), .val (.int h3), .val (.int c0), .val (.int c1), .val (.int c2), .val (.int c3), .val (.int c4), .val (.ref b173), .val (.ref b185), .unset, .unset, .unset, .unset, .unset] [(.ref b205), (.ref b205)])) _
  refine XS.iconst X210.here hx rfl (hb hby at_200) ?_
  show Steps p.tables e below (T210.setTop (mkF m 201 #[.val (.int p1), .val (.int p2), .val (.int p3), .val (.int p4), .val (.int p5), .val (.int p6), .val (.int n), .val (.int h1), .val (.int h2), .val (.int h3), .val (.int c0), .val (.int c1), .val (.int c2), .val (.int c3), .val (.int c4), .val (.ref b173), .val (.ref b185), .unset, .unset, .unset, .unset, .unset] [(.int (1 : Int32)), (.ref b205), (.ref b205)])) _
  refine XS.iload X210.here hx rfl (hb hby at_201) rfl ?_
  show Steps p.tables e below (T210.setTop (mkF m 203 #[.val (.int p1), .val (.int p2), .val (.int p3), .val (.int p4), .val (.int p5), .val (.int p6), .val (.int n), .val (.int h1), .val (.int h2), .val (.int h3), .val (.int c0), .val (.int c1), .val (.int c2), .val (.int c3), .val (.int c4), .val (.ref b173), .val (.ref b185), .unset, .unset, .unset, .unset, .unset] [(.int c1), (.int (1 : Int32)), (.ref b205), (.ref b205)])) _
  refine st215 _ ?_
  show Steps p.tables e below (T215.setTop (mkF m 204 #[.val (.int p1), .val (.int p2), .val (.int p3), .val (.int p4), .val (.int p5), .val (.int p6), .val (.int n), .val (.int h1), .val (.int h2), .val (.int h3), .val (.int c0), .val (.int c1), .val (.int c2), .val (.int c3), .val (.int c4), .val (.ref b173), .val (.ref b185), .unset, .unset, .unset, .unset, .unset] [(.ref b205)])) _
  refine XS.dup X215.here hx rfl (hb hby at_204) rfl rfl ?_
  show Steps p.tables e below (T215.setTop (mkF m 205 #[.val (.int p1), .val (.int p2), .val (.int p3), .val (.int p4), .val (.int p5), .val (.int p6), .val (.int n), .val (.int h1), .val (.int h2), .val (.int h3), .val (.int c0), .val (.int c1), .val (.int c2), .val (.int c3), .val (.int c4), .val (.ref b173), .val (.ref b185), .unset, .unset, .unset, .unset, .unset] [(.ref b205), (.ref b205)])) _
  refine XS.iconst X215.here hx rfl (hb hby at_205) ?_
  show Steps p.tables e below (T215.setTop (mkF m 206 #[.val (.int p1), .val (.int p2), .val (.int p3), .val (.int p4), .val (.int p5), .val (.int p6), .val (.int n), .val (.int h1), .val (.int h2), .val (.int h3), .val (.int c0), .val (.int c1), .val (.int c2), .val (.int c3), .val (.int c4), .val (.ref b173), .val (.ref b185), .unset, .unset, .unset, .unset, .unset] [(.int (2 : Int32)), (.ref b205), (.ref b205)])) _
  refine XS.iload X215.here hx rfl (hb hby at_206) rfl ?_
  show Steps p.tables e below (T215.setTop (mkF m 208 #[.val (.int p1), .val (.int p2), .val (.int p3), .val (.int p4), .val (.int p5), .val (.int p6), .val (.int n), .val (.int h1), .val (.int h2), .val (.int h3), .val (.int c0), .val (.int c1), .val (.int c2), .val (.int c3), .val (.int c4), .val (.ref b173), .val (.ref b185), .unset, .unset, .unset, .unset, .unset] [(.int c2), (.int (2 : Int32)), (.ref b205), (.ref b205)])) _
  refine st220 _ ?_
  show Steps p.tables e below (T220.setTop (mkF m 209 #[.val (.int p1), .val (.int p2), .val (.int p3), .val (.int p4), .val (.int p5), .val (.int p6), .val (.int n), .val (.int h1), .val (.int h2), .val (.int h3), .val (.int c0), .val (.int c1), .val (.int c2), .val (.int c3), .val (.int c4), .val (.ref b173), .val (.ref b185), .unset, .unset, .unset, .unset, .unset] [(.ref b205)])) _
  refine XS.dup X220.here hx rfl (hb hby at_209) rfl rfl ?_
  show Steps p.tables e below (T220.setTop (mkF m 210 #[.val (.int p1), .val (.int p2), .val (.int p3), .val (.int p4), .val (.int p5), .val (.int p6), .val (.int n), .val (.int h1), .val (.int h2), .val (.int h3), .val (.int c0), .val (.int c1), .val (.int c2), .val (.int c3), .val (.int c4), .val (.ref b173), .val (.ref b185), .unset, .unset, .unset, .unset, .unset] [(.ref b205), (.ref b205)])) _
  refine XS.iconst X220.here hx rfl (hb hby at_210) ?_
  show Steps p.tables e below (T220.setTop (mkF m 211 #[.val (.int p1), .val (.int p2), .val (.int p3), .val (.int p4), .val (.int p5), .val (.int p6), .val (.int n), .val (.int h1), .val (.int h2), .val (.int h3), .val (.int c0), .val (.int c1), .val (.int c2), .val (.int c3), .val (.int c4), .val (.ref b173), .val (.ref b185), .unset, .unset, .unset, .unset, .unset] [(.int (3 : Int32)), (.ref b205), (.ref b205)])) _
  refine XS.iload X220.here hx rfl (hb hby at_211) rfl ?_
  show Steps p.tables e below (T220.setTop (mkF m 213 #[.val (.int p1), .val (.int p2), .val (.int p3), .val (.int p4), .val (.int p5), .val (.int p6), .val (.int n), .val (.int h1), .val (.int h2), .val (.int h3), .val (.int c0), .val (.int c1), .val (.int c2), .val (.int c3), .val (.int c4), .val (.ref b173), .val (.ref b185), .unset, .unset, .unset, .unset, .unset] [(.int c3), (.int (3 : Int32)), (.ref b205), (.ref b205)])) _
  refine st225 _ ?_
  show Steps p.tables e below (T225.setTop (mkF m 214 #[.val (.int p1), .val (.int p2), .val (.int p3), .val (.int p4), .val (.int p5), .val (.int p6), .val (.int n), .val (.int h1), .val (.int h2), .val (.int h3), .val (.int c0), .val (.int c1), .val (.int c2), .val (.int c3), .val (.int c4), .val (.ref b173), .val (.ref b185), .unset, .unset, .unset, .unset, .unset] [(.ref b205)])) _
  refine XS.dup X225.here hx rfl (hb hby at_214) rfl rfl ?_
  show Steps p.tables e below (T225.setTop (mkF m 215 #[.val (.int p1), .val (.int p2), .val (.int p3), .val (.int p4), .val (.int p5), .val (.int p6), .val (.int n), .val (.int h1), .val (.int h2), .val (.int h3), .val (.int c0), .val (.int c1), .val (.int c2), .val (.int c3), .val (.int c4), .val (.ref b173), .val (.ref b185), .unset, .unset, .unset, .unset, .unset] [(.ref b205), (.ref b205)])) _
  refine XS.iconst X225.here hx rfl (hb hby at_215) ?_
  show Steps p.tables e below (T225.setTop (mkF m 216 #[.val (.int p1), .val (.int p2), .val (.int p3), .val (.int p4), .val (.int p5), .val (.int p6), .val (.int n), .val (.int h1), .val (.int h2), .val (.int h3), .val (.int c0), .val (.int c1), .val (.int c2), .val (.int c3), .val (.int c4), .val (.ref b173), .val (.ref b185), .unset, .unset, .unset, .unset, .unset] [(.int (4 : Int32)), (.ref b205), (.ref b205)])) _
  refine XS.iload X225.here hx rfl (hb hby at_216) rfl ?_
  show Steps p.tables e below (T225.setTop (mkF m 218 #[.val (.int p1), .val (.int p2), .val (.int p3), .val (.int p4), .val (.int p5), .val (.int p6), .val (.int n), .val (.int h1), .val (.int h2), .val (.int h3), .val (.int c0), .val (.int c1), .val (.int c2), .val (.int c3), .val (.int c4), .val (.ref b173), .val (.ref b185), .unset, .unset, .unset, .unset, .unset] [(.int c4), (.int (4 : Int32)), (.ref b205), (.ref b205)])) _
  refine st230 _ ?_
  show Steps p.tables e below (T230.setTop (mkF m 219 #[.val (.int p1), .val (.int p2), .val (.int p3), .val (.int p4), .val (.int p5), .val (.int p6), .val (.int n), .val (.int h1), .val (.int h2), .val (.int h3), .val (.int c0), .val (.int c1), .val (.int c2), .val (.int c3), .val (.int c4), .val (.ref b173), .val (.ref b185), .unset, .unset, .unset, .unset, .unset] [(.ref b205)])) _
  refine XS.astore X230.here hx rfl (hb hby at_219) rfl rfl (l' := #[.val (.int p1), .val (.int p2), .val (.int p3), .val (.int p4), .val (.int p5), .val (.int p6), .val (.int n), .val (.int h1), .val (.int h2), .val (.int h3), .val (.int c0), .val (.int c1), .val (.int c2), .val (.int c3), .val (.int c4), .val (.ref b173), .val (.ref b185), .val (.ref b205), .unset, .unset, .unset, .unset]) rfl ?_
  show Steps p.tables e below (T230.setTop (mkF m 221 #[.val (.int p1), .val (.int p2), .val (.int p3), .val (.int p4), .val (.int p5), .val (.int p6), .val (.int n), .val (.int h1), .val (.int h2), .val (.int h3), .val (.int c0), .val (.int c1), .val (.int c2), .val (.int c3), .val (.int c4), .val (.ref b173), .val (.ref b185), .val (.ref b205), .unset, .unset, .unset, .unset] [])) _
  refine XS.iload X230.here hx rfl (hb hby at_221) rfl ?_
  show Steps p.tables e below (T230.setTop (mkF m 223 #[.val (.int p1), .val (.int p2), .val (.int p3), .val (.int p4), .val (.int p5), .val (.int p6), .val (.int n), .val (.int h1), .val (.int h2), .val (.int h3), .val (.int c0), .val (.int c1), .val (.int c2), .val (.int c3), .val (.int c4), .val (.ref b173), .val (.ref b185), .val (.ref b205), .unset, .unset, .unset, .unset] [(.int n)])) _
  refine XS.iconst X230.here hx rfl (hb hby at_223) ?_
  show Steps p.tables e below (T230.setTop (mkF m 224 #[.val (.int p1), .val (.int p2), .val (.int p3), .val (.int p4), .val (.int p5), .val (.int p6), .val (.int n), .val (.int h1), .val (.int h2), .val (.int h3), .val (.int c0), .val (.int c1), .val (.int c2), .val (.int c3), .val (.int c4), .val (.ref b173), .val (.ref b185), .val (.ref b205), .unset, .unset, .unset, .unset] [(.int (3 : Int32)), (.int n)])) _
  refine XS.icmpYes X230.here hx rfl (pc0 := 224) (pc' := 252) rfl (hb hby at_224) rfl (feq (hn3 : ¬ (n = (3 : Int32)))).2 (by decide) (by decide) ?_
  show Steps p.tables e below (T230.setTop (mkF m 252 #[.val (.int p1), .val (.int p2), .val (.int p3), .val (.int p4), .val (.int p5), .val (.int p6), .val (.int n), .val (.int h1), .val (.int h2), .val (.int h3), .val (.int c0), .val (.int c1), .val (.int c2), .val (.int c3), .val (.int c4), .val (.ref b173), .val (.ref b185), .val (.ref b205), .unset, .unset, .unset, .unset] [])) _
  refine XS.iload X230.here hx rfl (hb hby at_252) rfl ?_
  show Steps p.tables e below (T230.setTop (mkF m 254 #[.val (.int p1), .val (.int p2), .val (.int p3), .val (.int p4), .val (.int p5), .val (.int p6), .val (.int n), .val (.int h1), .val (.int h2), .val (.int h3), .val (.int c0), .val (.int c1), .val (.int c2), .val (.int c3), .val (.int c4), .val (.ref b173), .val (.ref b185), .val (.ref b205), .unset, .unset, .unset, .unset] [(.int n)])) _
  refine XS.iconst X230.here hx rfl (hb hby at_254) ?_
  show Steps p.tables e below (T230.setTop (mkF m 255 #[.val (.int p1), .val (.int p2), .val (.int p3), .val (.int p4), .val (.int p5), .val (.int p6), .val (.int n), .val (.int h1), .val (.int h2), .val (.int h3), .val (.int c0), .val (.int c1), .val (.int c2), .val (.int c3), .val (.int c4), .val (.ref b173), .val (.ref b185), .val (.ref b205), .unset, .unset, .unset, .unset] [(.int (4 : Int32)), (.int n)])) _
  refine XS.icmpNo X230.here hx rfl (hb hby at_255) rfl (teq (hn : n = (4 : Int32))).2 ?_
  show Steps p.tables e below (T230.setTop (mkF m 258 #[.val (.int p1), .val (.int p2), .val (.int p3), .val (.int p4), .val (.int p5), .val (.int p6), .val (.int n), .val (.int h1), .val (.int h2), .val (.int h3), .val (.int c0), .val (.int c1), .val (.int c2), .val (.int c3), .val (.int c4), .val (.ref b173), .val (.ref b185), .val (.ref b205), .unset, .unset, .unset, .unset] [])) _
  refine st235 _ ?_
  show Steps p.tables e below (T235.setTop (mkF m 261 #[.val (.int p1), .val (.int p2), .val (.int p3), .val (.int p4), .val (.int p5), .val (.int p6), .val (.int n), .val (.int h1), .val (.int h2), .val (.int h3), .val (.int c0), .val (.int c1), .val (.int c2), .val (.int c3), .val (.int c4), .val (.ref b173), .val (.ref b185), .val (.ref b205), .unset, .unset, .unset, .unset] [(.ref b235)])) _
  refine XS.dup X235.here hx rfl (hb hby at_261) rfl rfl ?_
  show Steps p.tables e below (T235.setTop (mkF m 262 #[.val (.int p1), .val (.int p2), .val (.int p3), .val (.int p4), .val (.int p5), .val (.int p6), .val (.int n), .val (.int h1), .val (.int h2), .val (.int h3), .val (.int c0), .val (.int c1), .val (.int c2), .val (.int c3), .val (.int c4), .val (.ref b173), .val (.ref b185), .val (.ref b205), .unset, .unset, .unset, .unset] [(.ref b235), (.ref b235)])) _
  refine XS.aload X235.here hx rfl (hb hby at_262) rfl rfl ?_
  show Steps p.tables e below (T235.setTop (mkF m 264 #[.val (.int p1), .val (.int p2), .val (.int p3), .val (.int p4), .val (.int p5), .val (.int p6), .val (.int n), .val (.int h1), .val (.int h2), .val (.int h3), .val (.int c0), .val (.int c1), .val (.int c2), .val (.int c3), .val (.int c4), .val (.ref b173), .val (.ref b185), .val (.ref b205), .unset, .unset, .unset, .unset] [(.ref b185), (.ref b235), (.ref b235)])) _
  refine st243.trans ?_
  show Steps p.tables e below (T243.setTop (mkF m 267 #[.val (.int p1), .val (.int p2), .val (.int p3), .val (.int p4), .val (.int p5), .val (.int p6), .val (.int n), .val (.int h1), .val (.int h2), .val (.int h3), .val (.int c0), .val (.int c1), .val (.int c2), .val (.int c3), .val (.int c4), .val (.ref b173), .val (.ref b185), .val (.ref b205), .unset, .unset, .unset, .unset] [(.ref b235)])) _
  refine XS.astore X243.here hx rfl (hb hby at_267) rfl rfl (l' := #[.val (.int p1), .val (.int p2), .val (.int p3), .val (.int p4), .val (.int p5), .val (.int p6), .val (.int n), .val (.int h1), .val (.int h2), .val (.int h3), .val (.int c0), .val (.int c1), .val (.int c2), .val (.int c3), .val (.int c4), .val (.ref b173), .val (.ref b185), .val (.ref b205), .val (.ref b235), .unset, .unset, .unset]) rfl ?_
  show Steps p.tables e below (T243.setTop (mkF m 269 #[.val (.int p1), .val (.int p2), .val (.int p3), .val (.int p4), .val (.int p5), .val (.int p6), .val (.int n), .val (.int h1), .val (.int h2), .val (.int h3), .val (.int c0), .val (.int c1), .val (.int c2), .val (.int c3), .val (.int c4), .val (.ref b173), .val (.ref b185), .val (.ref b205), .val (.ref b235), .unset, .unset, .unset] [])) _
  refine st249 _ ?_
  show Steps p.tables e below (T249.setTop (mkF m 272 #[.val (.int p1), .val (.int p2), .val (.int p3), .val (.int p4), .val (.int p5), .val (.int p6), .val (.int n), .val (.int h1), .val (.int h2), .val (.int h3), .val (.int c0), .val (.int c1), .val (.int c2), .val (.int c3), .val (.int c4), .val (.ref b173), .val (.ref b185), .val (.ref b205), .val (.ref b235), .unset, .unset, .unset] [(.ref b249)])) _
  refine XS.dup X249.here hx rfl (hb hby at_272) rfl rfl ?_
  show Steps p.tables e below (T249.setTop (mkF m 273 #[.val (.int p1), .val (.int p2), .val (.int p3), .val (.int p4), .val (.int p5), .val (.int p6), .val (.int n), .val (.int h1), .val (.int h2), .val (.int h3), .val (.int c0), .val (.int c1), .val (.int c2), .val (.int c3), .val (.int c4), .val (.ref b173), .val (.ref b185), .val (.ref b205), .val (.ref b235), .unset, .unset, .unset] [(.ref b249), (.ref b249)])) _
  refine XS.aload X249.here hx rfl (hb hby at_273) rfl rfl ?_
  show Steps p.tables e below (T249.setTop (mkF m 275 #[.val (.int p1), .val (.int p2), .val (.int p3), .val (.int p4), .val (.int p5), .val (.int p6), .val (.int n), .val (.int h1), .val (.int h2), .val (.int h3), .val (.int c0), .val (.int c1), .val (.int c2), .val (.int c3), .val (.int c4), .val (.ref b173), .val (.ref b185), .val (.ref b205), .val (.ref b235), .unset, .unset, .unset] [(.ref b185), (.ref b249), (.ref b249)])) _
  refine st261.trans ?_
  show Steps p.tables e below (T261.setTop (mkF m 278 #[.val (.int p1), .val (.int p2), .val (.int p3), .val (.int p4), .val (.int p5), .val (.int p6), .val (.int n), .val (.int h1), .val (.int h2), .val (.int h3), .val (.int c0), .val (.int c1), .val (.int c2), .val (.int c3), .val (.int c4), .val (.ref b173), .val (.ref b185), .val (.ref b205), .val (.ref b235), .unset, .unset, .unset] [(.ref b249)])) _
  refine XS.astore X261.here hx rfl (hb hby at_278) rfl rfl (l' := #[.val (.int p1), .val (.int p2), .val (.int p3), .val (.int p4), .val (.int p5), .val (.int p6), .val (.int n), .val (.int h1), .val (.int h2), .val (.int h3), .val (.int c0), .val (.int c1), .val (.int c2), .val (.int c3), .val (.int c4), .val (.ref b173), .val (.ref b185), .val (.ref b205), .val (.ref b235), .val (.ref b249), .unset, .unset]) rfl ?_
  show Steps p.tables e below (T261.setTop (mkF m 280 #[.val (.int p1), .val (.int p2), .val (.int p3), .val (.int p4), .val (.int p5), .val (.int p6), .val (.int n), .val (.int h1), .val (.int h2), .val (.int h3), .val (.int c0), .val (.int c1), .val (.int c2), .val (.int c3), .val (.int c4), .val (.ref b173), .val (.ref b185), .val (.ref b205), .val (.ref b235), .val (.ref b249), .unset, .unset] [])) _
  refine XS.goto X261.here hx rfl (pc0 := 280) (pc' := 305) rfl (hb hby at_280) (by decide) (by decide) ?_
  show Steps p.tables e below (T261.setTop (mkF m 305 #[.val (.int p1), .val (.int p2), .val (.int p3), .val (.int p4), .val (.int p5), .val (.int p6), .val (.int n), .val (.int h1), .val (.int h2), .val (.int h3), .val (.int c0), .val (.int c1), .val (.int c2), .val (.int c3), .val (.int c4), .val (.ref b173), .val (.ref b185), .val (.ref b205), .val (.ref b235), .val (.ref b249), .unset, .unset] [])) _
  refine XS.aload X261.here hx rfl (hb hby at_305) rfl rfl ?_
  show Steps p.tables e below (T261.setTop (mkF m 307 #[.val (.int p1), .val (.int p2), .val (.int p3), .val (.int p4), .val (.int p5), .val (.int p6), .val (.int n), .val (.int h1), .val (.int h2), .val (.int h3), .val (.int c0), .val (.int c1), .val (.int c2), .val (.int c3), .val (.int c4), .val (.ref b173), .val (.ref b185), .val (.ref b205), .val (.ref b235), .val (.ref b249), .unset, .unset] [(.ref b235)])) _
  refine st271.trans ?_
  show Steps p.tables e below (T271.setTop (mkF m 310 #[.val (.int p1), .val (.int p2), .val (.int p3), .val (.int p4), .val (.int p5), .val (.int p6), .val (.int n), .val (.int h1), .val (.int h2), .val (.int h3), .val (.int c0), .val (.int c1), .val (.int c2), .val (.int c3), .val (.int c4), .val (.ref b173), .val (.ref b185), .val (.ref b205), .val (.ref b235), .val (.ref b249), .unset, .unset] [(.ref b271)])) _
  refine XS.astore X271r.here hx rfl (hb hby at_310) rfl rfl (l' := #[.val (.int p1), .val (.int p2), .val (.int p3), .val (.int p4), .val (.int p5), .val (.int p6), .val (.int n), .val (.int h1), .val (.int h2), .val (.int h3), .val (.int c0), .val (.int c1), .val (.int c2), .val (.int c3), .val (.int c4), .val (.ref b173), .val (.ref b185), .val (.ref b205), .val (.ref b235), .val (.ref b249), .val (.ref b271), .unset]) rfl ?_
  show Steps p.tables e below (T271.setTop (mkF m 312 #[.val (.int p1), .val (.int p2), .val (.int p3), .val (.int p4), .val (.int p5), .val (.int p6), .val (.int n), .val (.int h1), .val (.int h2), .val (.int h3), .val (.int c0), .val (.int c1), .val (.int c2), .val (.int c3), .val (.int c4), .val (.ref b173), .val (.ref b185), .val (.ref b205), .val (.ref b235), .val (.ref b249), .val (.ref b271), .unset] [])) _
  refine XS.aload X271r.here hx rfl (hb hby at_312) rfl rfl ?_
  show Steps p.tables e below (T271.setTop (mkF m 314 #[.val (.int p1), .val (.int p2), .val (.int p3), .val (.int p4), .val (.int p5), .val (.int p6), .val (.int n), .val (.int h1), .val (.int h2), .val (.int h3), .val (.int c0), .val (.int c1), .val (.int c2), .val (.int c3), .val (.int c4), .val (.ref b173), .val (.ref b185), .val (.ref b205), .val (.ref b235), .val (.ref b249), .val (.ref b271), .unset] [(.ref b249)])) _
  refine st284.trans ?_
  show Steps p.tables e below (T284.setTop (mkF m 317 #[.val (.int p1), .val (.int p2), .val (.int p3), .val (.int p4), .val (.int p5), .val (.int p6), .val (.int n), .val (.int h1), .val (.int h2), .val (.int h3), .val (.int c0), .val (.int c1), .val (.int c2), .val (.int c3), .val (.int c4), .val (.ref b173), .val (.ref b185), .val (.ref b205), .val (.ref b235), .val (.ref b249), .val (.ref b271), .unset] [(.ref b284)])) _
  refine XS.astore X284r.here hx rfl (hb hby at_317) rfl rfl (l' := #[.val (.int p1), .val (.int p2), .val (.int p3), .val (.int p4), .val (.int p5), .val (.int p6), .val (.int n), .val (.int h1), .val (.int h2), .val (.int h3), .val (.int c0), .val (.int c1), .val (.int c2), .val (.int c3), .val (.int c4), .val (.ref b173), .val (.ref b185), .val (.ref b205), .val (.ref b235), .val (.ref b249), .val (.ref b271), .val (.ref b284)]) rfl ?_
  show Steps p.tables e below (T284.setTop (mkF m 319 #[.val (.int p1), .val (.int p2), .val (.int p3), .val (.int p4), .val (.int p5), .val (.int p6), .val (.int n), .val (.int h1), .val (.int h2), .val (.int h3), .val (.int c0), .val (.int c1), .val (.int c2), .val (.int c3), .val (.int c4), .val (.ref b173), .val (.ref b185), .val (.ref b205), .val (.ref b235), .val (.ref b249), .val (.ref b271), .val (.ref b284)] [])) _
  refine XS.aload X284r.here hx rfl (hb hby at_319) rfl rfl ?_
  show Steps p.tables e below (T284.setTop (mkF m 321 #[.val (.int p1), .val (.int p2), .val (.int p3), .val (.int p4), .val (.int p5), .val (.int p6), .val (.int n), .val (.int h1), .val (.int h2), .val (.int h3), .val (.int c0), .val (.int c1), .val (.int c2), .val (.int c3), .val (.int c4), .val (.ref b173), .val (.ref b185), .val (.ref b205), .val (.ref b235), .val (.ref b249), .val (.ref b271), .val (.ref b284)] [(.ref b271)])) _
  refine XS.ifnullNo X284r.here hx rfl (hb hby at_321) rfl ?_
  show Steps p.tables e below (T284.setTop (mkF m 324 #[.val (.int p1), .val (.int p2), .val (.int p3), .val (.int p4), .val (.int p5), .val (.int p6), .val (.int n), .val (.int h1), .val (.int h2), .val (.int h3), .val (.int c0), .val (.int c1), .val (.int c2), .val (.int c3), .val (.int c4), .val (.ref b173), .val (.ref b185), .val (.ref b205), .val (.ref b235), .val (.ref b249), .val (.ref b271), .val (.ref b284)] [])) _
  refine XS.aload X284r.here hx rfl (hb hby at_324) rfl rfl ?_
  show Steps p.tables e below (T284.setTop (mkF m 326 #[.val (.int p1), .val (.int p2), .val (.int p3), .val (.int p4), .val (.int p5), .val (.int p6), .val (.int n), .val (.int h1), .val (.int h2), .val (.int h3), .val (.int c0), .val (.int c1), .val (.int c2), .val (.int c3), .val (.int c4), .val (.ref b173), .val (.ref b185), .val (.ref b205), .val (.ref b235), .val (.ref b249), .val (.ref b271), .val (.ref b284)] [(.ref b271)])) _
  refine st299.trans ?_
  show Steps p.tables e below (T299.setTop (mkF m 329 #[.val (.int p1), .val (.int p2), .val (.int p3), .val (.int p4), .val (.int p5), .val (.int p6), .val (.int n), .val (.int h1), .val (.int h2), .val (.int h3), .val (.int c0), .val (.int c1), .val (.int c2), .val (.int c3), .val (.int c4), .val (.ref b173), .val (.ref b185), .val (.ref b205), .val (.ref b235), .val (.ref b249), .val (.ref b271), .val (.ref b284)] [(.ref b235)])) _
  refine XS.aload X299.here hx rfl (hb hby at_329) rfl rfl ?_
  show Steps p.tables e below (T299.setTop (mkF m 331 #[.val (.int p1), .val (.int p2), .val (.int p3), .val (.int p4), .val (.int p5), .val (.int p6), .val (.int n), .val (.int h1), .val (.int h2), .val (.int h3), .val (.int c0), .val (.int c1), .val (.int c2), .val (.int c3), .val (.int c4), .val (.ref b173), .val (.ref b185), .val (.ref b205), .val (.ref b235), .val (.ref b249), .val (.ref b271), .val (.ref b284)] [(.ref b235), (.ref b235)])) _
  refine st300.trans ?_
  show Steps p.tables e below (T300.setTop (mkF m 334 #[.val (.int p1), .val (.int p2), .val (.int p3), .val (.int p4), .val (.int p5), .val (.int p6), .val (.int n), .val (.int h1), .val (.int h2), .val (.int h3), .val (.int c0), .val (.int c1), .val (.int c2), .val (.int c3), .val (.int c4), .val (.ref b173), .val (.ref b185), .val (.ref b205), .val (.ref b235), .val (.ref b249), .val (.ref b271), .val (.ref b284)] [(.int (1 : Int32))])) _
  refine XS.ifNo X300.here hx rfl (hb hby at_334) rfl ((if0 _ _).trans (feq (by decide : ¬ ((1 : Int32) = (0 : Int32)))).1) ?_
  show Steps p.tables e below (T300.setTop (mkF m 337 #[.val (.int p1), .val (.int p2), .val (.int p3), .val (.int p4), .val (.int p5), .val (.int p6), .val (.int n), .val (.int h1), .val (.int h2), .val (.int h3), .val (.int c0), .val (.int c1), .val (.int c2), .val (.int c3), .val (.int c4), .val (.ref b173), .val (.ref b185), .val (.ref b205), .val (.ref b235), .val (.ref b249), .val (.ref b271), .val (.ref b284)] [])) _
  refine XS.aload X300.here hx rfl (hb hby at_337) rfl rfl ?_
  show Steps p.tables e below (T300.setTop (mkF m 339 #[.val (.int p1), .val (.int p2), .val (.int p3), .val (.int p4), .val (.int p5), .val (.int p6), .val (.int n), .val (.int h1), .val (.int h2), .val (.int h3), .val (.int c0), .val (.int c1), .val (.int c2), .val (.int c3), .val (.int c4), .val (.ref b173), .val (.ref b185), .val (.ref b205), .val (.ref b235), .val (.ref b249), .val (.ref b271), .val (.ref b284)] [(.ref b271)])) _
  refine XS.aload X300.here hx rfl (hb hby at_339) rfl rfl ?_
  show Steps p.tables e below (T300.setTop (mkF m 341 #[.val (.int p1), .val (.int p2), .val (.int p3), .val (.int p4), .val (.int p5), .val (.int p6), .val (.int n), .val (.int h1), .val (.int h2), .val (.int h3), .val (.int c0), .val (.int c1), .val (.int c2), .val (.int c3), .val (.int c4), .val (.ref b173), .val (.ref b185), .val (.ref b205), .val (.ref b235), .val (.ref b249), .val (.ref b271), .val (.ref b284)] [(.ref b284), (.ref b271)])) _
  refine st301.trans ?_
  show Steps p.tables e below (T301.setTop (mkF m 344 #[.val (.int p1), .val (.int p2), .val (.int p3), .val (.int p4), .val (.int p5), .val (.int p6), .val (.int n), .val (.int h1), .val (.int h2), .val (.int h3), .val (.int c0), .val (.int c1), .val (.int c2), .val (.int c3), .val (.int c4), .val (.ref b173), .val (.ref b185), .val (.ref b205), .val (.ref b235), .val (.ref b249), .val (.ref b271), .val (.ref b284)] [(.int (1 : Int32))])) _
  refine XS.ifNo X301.here hx rfl (hb hby at_344) rfl ((if0 _ _).trans (feq (by decide : ¬ ((1 : Int32) = (0 : Int32)))).1) ?_
  show Steps p.tables e below (T301.setTop (mkF m 347 #[.val (.int p1), .val (.int p2), .val (.int p3), .val (.int p4), .val (.int p5), .val (.int p6), .val (.int n), .val (.int h1), .val (.int h2), .val (.int h3), .val (.int c0), .val (.int c1), .val (.int c2), .val (.int c3), .val (.int c4), .val (.ref b173), .val (.ref b185), .val (.ref b205), .val (.ref b235), .val (.ref b249), .val (.ref b271), .val (.ref b284)] [])) _
  refine XS.iconst X301.here hx rfl (hb hby at_347) ?_
  show Steps p.tables e below (T301.setTop (mkF m 348 #[.val (.int p1), .val (.int p2), .val (.int p3), .val (.int p4), .val (.int p5), .val (.int p6), .val (.int n), .val (.int h1), .val (.int h2), .val (.int h3), .val (.int c0), .val (.int c1), .val (.int c2), .val (.int c3), .val (.int c4), .val (.ref b173), .val (.ref b185), .val (.ref b205), .val (.ref b235), .val (.ref b249), .val (.ref b271), .val (.ref b284)] [(.int (1 : Int32))])) _
  refine XS.goto X301.here hx rfl (pc0 := 348) (pc' := 352) rfl (hb hby at_348) (by decide) (by decide) ?_
  show Steps p.tables e below (T301.setTop (mkF m 352 #[.val (.int p1), .val (.int p2), .val (.int p3), .val (.int p4), .val (.int p5), .val (.int p6), .val (.int n), .val (.int h1), .val (.int h2), .val (.int h3), .val (.int c0), .val (.int c1), .val (.int c2), .val (.int c3), .val (.int c4), .val (.ref b173), .val (.ref b185), .val (.ref b205), .val (.ref b235), .val (.ref b249), .val (.ref b271), .val (.ref b284)] [(.int (1 : Int32))])) _
  exact retN X301 hx (t := .boolean) hret (by simp) (hb hby at_352) hr
set_option maxRecDepth 65536 in
set_option maxHeartbeats 40000000 in
theorem rest5 {p : Program} {l : Launch} {e : Env} {s : State} {m : MethodId} {args : Array Value} {below : List Frame} {meth : Method} {c : Code} {T0 : State} {locs : List Loc} {Z : State} {a0 : Array Value} {h0 : Heap} {n0 : Nat} (p1 p2 p3 p4 p5 p6 n h1 h2 h3 c0 c1 c2 c3 c4 GC : Int32) (fm : Value)
    (X0 : Stand p l e room_1 (s.setVm s.vm) m args below meth c T0 locs 0 0) (hx : p.tables.exec = Jvm.exec) (hZ : Z.Warmed39 s.vm) (hw : ∀ d ∈ tables_1, d.before a0 Z = true) (hby : c.code = code) (hml : c.maxLocals = 22) (hown : s.vm.findClass "com/example/nimble_queue/nimblequeue/core/QueueNameOfPinLaw" = some m.cls) (hret : meth.sig.returnType = some .boolean) (hlk : meth.locks = false) (e0 : T0.heap = h0) (N0 : Fr n0 locs) (O0 : Old Z n0 h0) (wS : ∀ a ∈ Bundle.stringAtoms, a.before a0 Z = true) (OC2 : Sta Z Z.heap "java/lang/String" "COMPACT_STRINGS" "Z" (.int GC)) (OCz : ¬ (GC = (0 : Int32))) (OF4 : Sta Z Z.heap "jdk/internal/util/Preconditions" "SIOOBE_FORMATTER" "Ljava/util/function/BiFunction;" fm) (OFr : fm.isRef = true) (hna0 : nar .char c0 = c0) (hr0 : ¬ c0 < 0 ∧ ¬ (255 : Int32) < c0) (hna1 : nar .char c1 = c1) (hr1 : ¬ c1 < 0 ∧ ¬ (255 : Int32) < c1) (hna2 : nar .char c2 = c2) (hr2 : ¬ c2 < 0 ∧ ¬ (255 : Int32) < c2) (hna3 : nar .char c3 = c3) (hr3 : ¬ c3 < 0 ∧ ¬ (255 : Int32) < c3) (hna4 : nar .char c4 = c4) (hr4 : ¬ c4 < 0 ∧ ¬ (255 : Int32) < c4) (hok : own_ok [c0, c1, c2, c3, c4]) (hn3 : ¬ (n = (3 : Int32))) (hn4 : ¬ (n = (4 : Int32))) :
    ∃ (U' : State) (L : List Loc), Steps p.tables e below (T0.setTop (mkF m 146 #[.val (.int p1), .val (.int p2), .val (.int p3), .val (.int p4), .val (.int p5), .val (.int p6), .val (.int n), .val (.int h1), .val (.int h2), .val (.int h3), .val (.int c0), .val (.int c1), .val (.int c2), .val (.int c3), .val (.int c4), .unset, .unset, .unset, .unset, .unset, .unset, .unset] [])) U' ∧ U'.status = .running ∧ Ended U' below (.returned (some (.int 1))) ∧ Fr n0 L ∧ ReturnedEndW s (.returned (some (.int 1))) U' L room_1.cells room_1.slots := by
  have Z0 : n0 ≤ h0.size := O0.1 ▸ O0.2.1
  have K0 : Keep h0 h0 [] := Keep.refl _ _
  have hS0 : s.Since s.vm h0.size := (State.WarmedH.refl s).since _
  have hk0 : h0.size ≤ h0.size := Nat.le_refl _
  have hp : ∀ c ∈ ([c0, c1, c2, c3, c4] : List Int32), ¬ c < 0 ∧ ¬ (255 : Int32) < c := by
    intro c hc
    simp only [List.mem_cons, List.not_mem_nil, or_false] at hc
    rcases hc with rfl | rfl | rfl | rfl | rfl
    · exact hr0
    · exact hr1
    · exact hr2
    · exact hr3
    · exact hr4
  have hcd : StrChars.Road.CodA ([c0, c1, c2, c3, c4] : List Int32) 0 (5 : Int32) (((([c0, c1, c2, c3, c4] : List Int32)).map (fun c => c.toInt8.toInt32)).map Value.int) := StrChars.Road.codOf (n := 5) rfl (fun c hc => (hp c hc).2)
  have hbd : ∀ c ∈ ([c0, c1, c2, c3, c4] : List Int32), ¬ c < 0 ∧ ¬ (65535 : Int32) < c := up _ hp
  obtain ⟨T302, h302, k302, X302, e302, E302, A302, st302⟩ := newP X0 hx hZ (hw _ (List.mem_of_getElem? (i := 5) rfl)) e0 (g := (mkF m 147 #[.val (.int p1), .val (.int p2), .val (.int p3), .val (.int p4), .val (.int p5), .val (.int p6), .val (.int n), .val (.int h1), .val (.int h2), .val (.int h3), .val (.int c0), .val (.int c1), .val (.int c2), .val (.int c3), .val (.int c4), .unset, .unset, .unset, .unset, .unset, .unset, .unset] [(.int (3 : Int32))])) rfl (hb hby at_147) rfl (by decide : ¬ ((3 : Int32) < (0 : Int32))) (cap := 3) (by decide : (3 : Int32).toNatClampNeg ≤ 3) (by decide) (by decide) (by decide)
  obtain ⟨b302, g302⟩ : ∃ z, z = h0.size := ⟨_, rfl⟩
  rw [← g302] at A302 st302
  have geb302 : h0.size ≤ b302 := Nat.le_of_eq g302.symm
  have g_b302 : n0 ≤ b302 := Nat.le_trans Z0 geb302
  have sz_b302 : h0.size ≤ b302 := Nat.le_trans K0.1 geb302
  have O303 : Old Z n0 h302 := O0.ext E302
  have Z303 : n0 ≤ h302.size := Nat.le_trans Z0 E302.1
  have K303 : Keep h0 h302 [] := K0.ext E302
  have hk303 : h0.size ≤ h302.size := Nat.le_trans hk0 E302.1
  have f304 : Arv Z h302 b302 k302 .char (3 : Int32) [(.int (0 : Int32)), (.int (0 : Int32)), (.int (0 : Int32))] (.int (0 : Int32)) := (Arv.new A302 (by decide : ¬ ((3 : Int32) < (0 : Int32)))).pad (pad_rep [] (.int (0 : Int32)) 3)
  obtain ⟨c305, Ar305, q305, S305, M305, Hh305, U305⟩ := id f304
  obtain ⟨T305, h305, X305, e305, W305, st305⟩ := stC X302 hx hZ e302 Ar305 (j := (0 : Int32)) (inb_of S305 ⟨(by decide : ¬ ((0 : Int32) < (0 : Int32))), (by decide : (0 : Int32) < (3 : Int32))⟩) (g := (mkF m 153 #[.val (.int p1), .val (.int p2), .val (.int p3), .val (.int p4), .val (.int p5), .val (.int p6), .val (.int n), .val (.int h1), .val (.int h2), .val (.int h3), .val (.int c0), .val (.int c1), .val (.int c2), .val (.int c3), .val (.int c4), .unset, .unset, .unset, .unset, .unset, .unset, .unset] [(.int c0), (.int (0 : Int32)), (.ref b302), (.ref b302)])) rfl rfl (hb hby at_153)
  rw [hna0] at W305
  have f306 : Arv Z h305 b302 k302 .char (3 : Int32) [(.int c0), (.int (0 : Int32)), (.int (0 : Int32))] (.int (0 : Int32)) := Arv.set Ar305 q305 S305 M305 Hh305 U305 (own_fitc hna0) W305 0 rfl (Nat.le_of_ble_eq_true rfl)
  have N305 := Fr.snoc X305 N0 g_b302
  have O307 : Old Z n0 h305 := O303.wr W305 g_b302
  have Z307 : n0 ≤ h305.size := Nat.le_trans Z303 (Keep.of_wr W305).1
  have K307 : Keep h0 h305 [] := K303.wr W305 (Or.inr sz_b302)
  have hk307 : h0.size ≤ h305.size := Nat.le_trans hk303 (Keep.of_wr W305).1
  obtain ⟨c308, Ar308, q308, S308, M308, Hh308, U308⟩ := id f306
  obtain ⟨T308, h308, X308, e308, W308, st308⟩ := stC X305 hx hZ e305 Ar308 (j := (1 : Int32)) (inb_of S308 ⟨(by decide : ¬ ((1 : Int32) < (0 : Int32))), (by decide : (1 : Int32) < (3 : Int32))⟩) (g := (mkF m 158 #[.val (.int p1), .val (.int p2), .val (.int p3), .val (.int p4), .val (.int p5), .val (.int p6), .val (.int n), .val (.int h1), .val (.int h2), .val (.int h3), .val (.int c0), .val (.int c1), .val (.int c2), .val (.int c3), .val (.int c4), .unset, .unset, .unset, .unset, .unset, .unset, .unset] [(.int c1), (.int (1 : Int32)), (.ref b302), (.ref b302)])) rfl rfl (hb hby at_158)
  rw [hna1] at W308
  have f309 : Arv Z h308 b302 k302 .char (3 : Int32) [(.int c0), (.int c1), (.int (0 : Int32))] (.int (0 : Int32)) := Arv.set Ar308 q308 S308 M308 Hh308 U308 (own_fitc hna1) W308 1 rfl (Nat.le_of_ble_eq_true rfl)
  have N308 := Fr.snoc X308 N305 g_b302
  have O310 : Old Z n0 h308 := O307.wr W308 g_b302
  have Z310 : n0 ≤ h308.size := Nat.le_trans Z307 (Keep.of_wr W308).1
  have K310 : Keep h0 h308 [] := K307.wr W308 (Or.inr sz_b302)
  have hk310 : h0.size ≤ h308.size := Nat.le_trans hk307 (Keep.of_wr W308).1
  obtain ⟨c311, Ar311, q311, S311, M311, Hh311, U311⟩ := id f309
  obtain ⟨T311, h311, X311, e311, W311, st311⟩ := stC X308 hx hZ e308 Ar311 (j := (2 : Int32)) (inb_of S311 ⟨(by decide : ¬ ((2 : Int32) < (0 : Int32))), (by decide : (2 : Int32) < (3 : Int32))⟩) (g := (mkF m 163 #[.val (.int p1), .val (.int p2), .val (.int p3), .val (.int p4), .val (.int p5), .val (.int p6), .val (.int n), .val (.int h1), .val (.int h2), .val (.int h3), .val (.int c0), .val (.int c1), .val (.int c2), .val (.int c3), .val (.int c4), .unset, .unset, .unset, .unset, .unset, .unset, .unset] [(.int c2), (.int (2 : Int32)), (.ref b302), (.ref b302)])) rfl rfl (hb hby at_163)
  rw [hna2] at W311
  have f312 : Arv Z h311 b302 k302 .char (3 : Int32) [(.int c0), (.int c1), (.int c2)] (.int (0 : Int32)) := Arv.set Ar311 q311 S311 M311 Hh311 U311 (own_fitc hna2) W311 2 rfl (Nat.le_of_ble_eq_true rfl)
  have N311 := Fr.snoc X311 N308 g_b302
  have O313 : Old Z n0 h311 := O310.wr W311 g_b302
  have Z313 : n0 ≤ h311.size := Nat.le_trans Z310 (Keep.of_wr W311).1
  have K313 : Keep h0 h311 [] := K310.wr W311 (Or.inr sz_b302)
  have hk313 : h0.size ≤ h311.size := Nat.le_trans hk310 (Keep.of_wr W311).1
  obtain ⟨T314, h314, k314, X314, e314, E314, A314, st314⟩ := newP X311 hx hZ (hw _ (List.mem_of_getElem? (i := 5) rfl)) e311 (g := (mkF m 167 #[.val (.int p1), .val (.int p2), .val (.int p3), .val (.int p4), .val (.int p5), .val (.int p6), .val (.int n), .val (.int h1), .val (.int h2), .val (.int h3), .val (.int c0), .val (.int c1), .val (.int c2), .val (.int c3), .val (.int c4), .val (.ref b302), .unset, .unset, .unset, .unset, .unset, .unset] [(.int (4 : Int32))])) rfl (hb hby at_167) rfl (by decide : ¬ ((4 : Int32) < (0 : Int32))) (cap := 4) (by decide : (4 : Int32).toNatClampNeg ≤ 4) (by decide) (by decide) (by decide)
  obtain ⟨b314, g314⟩ : ∃ z, z = h311.size := ⟨_, rfl⟩
  rw [← g314] at A314 st314
  have geb314 : h311.size ≤ b314 := Nat.le_of_eq g314.symm
  have g_b314 : n0 ≤ b314 := Nat.le_trans Z313 geb314
  have sz_b314 : h0.size ≤ b314 := Nat.le_trans K313.1 geb314
  have O315 : Old Z n0 h314 := O313.ext E314
  have Z315 : n0 ≤ h314.size := Nat.le_trans Z313 E314.1
  have K315 : Keep h0 h314 [] := K313.ext E314
  have hk315 : h0.size ≤ h314.size := Nat.le_trans hk313 E314.1
  have f316 : Arv Z h314 b302 k302 .char (3 : Int32) [(.int c0), (.int c1), (.int c2)] (.int (0 : Int32)) := f312.ext E314
  have f317 : Arv Z h314 b314 k314 .char (4 : Int32) [(.int (0 : Int32)), (.int (0 : Int32)), (.int (0 : Int32)), (.int (0 : Int32))] (.int (0 : Int32)) := (Arv.new A314 (by decide : ¬ ((4 : Int32) < (0 : Int32)))).pad (pad_rep [] (.int (0 : Int32)) 4)
  obtain ⟨c318, Ar318, q318, S318, M318, Hh318, U318⟩ := id f317
  obtain ⟨T318, h318, X318, e318, W318, st318⟩ := stC X314 hx hZ e314 Ar318 (j := (0 : Int32)) (inb_of S318 ⟨(by decide : ¬ ((0 : Int32) < (0 : Int32))), (by decide : (0 : Int32) < (4 : Int32))⟩) (g := (mkF m 173 #[.val (.int p1), .val (.int p2), .val (.int p3), .val (.int p4), .val (.int p5), .val (.int p6), .val (.int n), .val (.int h1), .val (.int h2), .val (.int h3), .val (.int c0), .val (.int c1), .val (.int c2), .val (.int c3), .val (.int c4), .val (.ref b302), .unset, .unset, .unset, .unset, .unset, .unset] [(.int c0), (.int (0 : Int32)), (.ref b314), (.ref b314)])) rfl rfl (hb hby at_173)
  rw [hna0] at W318
  have f319 : Arv Z h318 b314 k314 .char (4 : Int32) [(.int c0), (.int (0 : Int32)), (.int (0 : Int32)), (.int (0 : Int32))] (.int (0 : Int32)) := Arv.set Ar318 q318 S318 M318 Hh318 U318 (own_fitc hna0) W318 0 rfl (Nat.le_of_ble_eq_true rfl)
  have N318 := Fr.snoc X318 N311 g_b314
  have O320 : Old Z n0 h318 := O315.wr W318 g_b314
  have Z320 : n0 ≤ h318.size := Nat.le_trans Z315 (Keep.of_wr W318).1
  have K320 : Keep h0 h318 [] := K315.wr W318 (Or.inr sz_b314)
  have hk320 : h0.size ≤ h318.size := Nat.le_trans hk315 (Keep.of_wr W318).1
  have f321 : Arv Z h318 b302 k302 .char (3 : Int32) [(.int c0), (.int c1), (.int c2)] (.int (0 : Int32)) := f316.other W318 (Nat.ne_of_lt (Nat.lt_of_lt_of_le f312.lt geb314))
  obtain ⟨c322, Ar322, q322, S322, M322, Hh322, U322⟩ := id f319
  obtain ⟨T322, h322, X322, e322, W322, st322⟩ := stC X318 hx hZ e318 Ar322 (j := (1 : Int32)) (inb_of S322 ⟨(by decide : ¬ ((1 : Int32) < (0 : Int32))), (by decide : (1 : Int32) < (4 : Int32))⟩) (g := (mkF m 178 #[.val (.int p1), .val (.int p2), .val (.int p3), .val (.int p4), .val (.int p5), .val (.int p6), .val (.int n), .val (.int h1), .val (.int h2), .val (.int h3), .val (.int c0), .val (.int c1), .val (.int c2), .val (.int c3), .val (.int c4), .val (.ref b302), .unset, .unset, .unset, .unset, .unset, .unset] [(.int c1), (.int (1 : Int32)), (.ref b314), (.ref b314)])) rfl rfl (hb hby at_178)
  rw [hna1] at W322
  have f323 : Arv Z h322 b314 k314 .char (4 : Int32) [(.int c0), (.int c1), (.int (0 : Int32)), (.int (0 : Int32))] (.int (0 : Int32)) := Arv.set Ar322 q322 S322 M322 Hh322 U322 (own_fitc hna1) W322 1 rfl (Nat.le_of_ble_eq_true rfl)
  have N322 := Fr.snoc X322 N318 g_b314
  have O324 : Old Z n0 h322 := O320.wr W322 g_b314
  have Z324 : n0 ≤ h322.size := Nat.le_trans Z320 (Keep.of_wr W322).1
  have K324 : Keep h0 h322 [] := K320.wr W322 (Or.inr sz_b314)
  have hk324 : h0.size ≤ h322.size := Nat.le_trans hk320 (Keep.of_wr W322).1
  have f325 : Arv Z h322 b302 k302 .char (3 : Int32) [(.int c0), (.int c1), (.int c2)] (.int (0 : Int32)) := f321.other W322 (Nat.ne_of_lt (Nat.lt_of_lt_of_le f312.lt geb314))
  obtain ⟨c326, Ar326, q326, S326, M326, Hh326, U326⟩ := id f323
  obtain ⟨T326, h326, X326, e326, W326, st326⟩ := stC X322 hx hZ e322 Ar326 (j := (2 : Int32)) (inb_of S326 ⟨(by decide : ¬ ((2 : Int32) < (0 : Int32))), (by decide : (2 : Int32) < (4 : Int32))⟩) (g := (mkF m 183 #[.val (.int p1), .val (.int p2), .val (.int p3), .val (.int p4), .val (.int p5), .val (.int p6), .val (.int n), .val (.int h1), .val (.int h2), .val (.int h3), .val (.int c0), .val (.int c1), .val (.int c2), .val (.int c3), .val (.int c4), .val (.ref b302), .unset, .unset, .unset, .unset, .unset, .unset] [(.int c2), (.int (2 : Int32)), (.ref b314), (.ref b314)])) rfl rfl (hb hby at_183)
  rw [hna2] at W326
  have f327 : Arv Z h326 b314 k314 .char (4 : Int32) [(.int c0), (.int c1), (.int c2), (.int (0 : Int32))] (.int (0 : Int32)) := Arv.set Ar326 q326 S326 M326 Hh326 U326 (own_fitc hna2) W326 2 rfl (Nat.le_of_ble_eq_true rfl)
  have N326 := Fr.snoc X326 N322 g_b314
  have O328 : Old Z n0 h326 := O324.wr W326 g_b314
  have Z328 : n0 ≤ h326.size := Nat.le_trans Z324 (Keep.of_wr W326).1
  have K328 : Keep h0 h326 [] := K324.wr W326 (Or.inr sz_b314)
  have hk328 : h0.size ≤ h326.size := Nat.le_trans hk324 (Keep.of_wr W326).1
  have f329 : Arv Z h326 b302 k302 .char (3 : Int32) [(.int c0), (.int c1), (.int c2)] (.int (0 : Int32)) := f325.other W326 (Nat.ne_of_lt (Nat.lt_of_lt_of_le f312.lt geb314))
  obtain ⟨c330, Ar330, q330, S330, M330, Hh330, U330⟩ := id f327
  obtain ⟨T330, h330, X330, e330, W330, st330⟩ := stC X326 hx hZ e326 Ar330 (j := (3 : Int32)) (inb_of S330 ⟨(by decide : ¬ ((3 : Int32) < (0 : Int32))), (by decide : (3 : Int32) < (4 : Int32))⟩) (g := (mkF m 188 #[.val (.int p1), .val (.int p2), .val (.int p3), .val (.int p4), .val (.int p5), .val (.int p6), .val (.int n), .val (.int h1), .val (.int h2), .val (.int h3), .val (.int c0), .val (.int c1), .val (.int c2), .val (.int c3), .val (.int c4), .val (.ref b302), .unset, .unset, .unset, .unset, .unset, .unset] [(.int c3), (.int (3 : Int32)), (.ref b314), (.ref b314)])) rfl rfl (hb hby at_188)
  rw [hna3] at W330
  have f331 : Arv Z h330 b314 k314 .char (4 : Int32) [(.int c0), (.int c1), (.int c2), (.int c3)] (.int (0 : Int32)) := Arv.set Ar330 q330 S330 M330 Hh330 U330 (own_fitc hna3) W330 3 rfl (Nat.le_of_ble_eq_true rfl)
  have N330 := Fr.snoc X330 N326 g_b314
  have O332 : Old Z n0 h330 := O328.wr W330 g_b314
  have Z332 : n0 ≤ h330.size := Nat.le_trans Z328 (Keep.of_wr W330).1
  have K332 : Keep h0 h330 [] := K328.wr W330 (Or.inr sz_b314)
  have hk332 : h0.size ≤ h330.size := Nat.le_trans hk328 (Keep.of_wr W330).1
  have f333 : Arv Z h330 b302 k302 .char (3 : Int32) [(.int c0), (.int c1), (.int c2)] (.int (0 : Int32)) := f329.other W330 (Nat.ne_of_lt (Nat.lt_of_lt_of_le f312.lt geb314))
  obtain ⟨T334, h334, k334, X334, e334, E334, A334, st334⟩ := newP X330 hx hZ (hw _ (List.mem_of_getElem? (i := 5) rfl)) e330 (g := (mkF m 192 #[.val (.int p1), .val (.int p2), .val (.int p3), .val (.int p4), .val (.int p5), .val (.int p6), .val (.int n), .val (.int h1), .val (.int h2), .val (.int h3), .val (.int c0), .val (.int c1), .val (.int c2), .val (.int c3), .val (.int c4), .val (.ref b302), .val (.ref b314), .unset, .unset, .unset, .unset, .unset] [(.int (5 : Int32))])) rfl (hb hby at_192) rfl (by decide : ¬ ((5 : Int32) < (0 : Int32))) (cap := 5) (by decide : (5 : Int32).toNatClampNeg ≤ 5) (by decide) (by decide) (by decide)
  obtain ⟨b334, g334⟩ : ∃ z, z = h330.size := ⟨_, rfl⟩
  rw [← g334] at A334 st334
  have geb334 : h330.size ≤ b334 := Nat.le_of_eq g334.symm
  have g_b334 : n0 ≤ b334 := Nat.le_trans Z332 geb334
  have sz_b334 : h0.size ≤ b334 := Nat.le_trans K332.1 geb334
  have O335 : Old Z n0 h334 := O332.ext E334
  have Z335 : n0 ≤ h334.size := Nat.le_trans Z332 E334.1
  have K335 : Keep h0 h334 [] := K332.ext E334
  have hk335 : h0.size ≤ h334.size := Nat.le_trans hk332 E334.1
  have f336 : Arv Z h334 b302 k302 .char (3 : Int32) [(.int c0), (.int c1), (.int c2)] (.int (0 : Int32)) := f333.ext E334
  have f337 : Arv Z h334 b314 k314 .char (4 : Int32) [(.int c0), (.int c1), (.int c2), (.int c3)] (.int (0 : Int32)) := f331.ext E334
  have f338 : Arv Z h334 b334 k334 .char (5 : Int32) [(.int (0 : Int32)), (.int (0 : Int32)), (.int (0 : Int32)), (.int (0 : Int32)), (.int (0 : Int32))] (.int (0 : Int32)) := (Arv.new A334 (by decide : ¬ ((5 : Int32) < (0 : Int32)))).pad (pad_rep [] (.int (0 : Int32)) 5)
  obtain ⟨c339, Ar339, q339, S339, M339, Hh339, U339⟩ := id f338
  obtain ⟨T339, h339, X339, e339, W339, st339⟩ := stC X334 hx hZ e334 Ar339 (j := (0 : Int32)) (inb_of S339 ⟨(by decide : ¬ ((0 : Int32) < (0 : Int32))), (by decide : (0 : Int32) < (5 : Int32))⟩) (g := (mkF m 198 #[.val (.int p1), .val (.int p2), .val (.int p3), .val (.int p4), .val (.int p5), .val (.int p6), .val (.int n), .val (.int h1), .val (.int h2), .val (.int h3), .val (.int c0), .val (.int c1), .val (.int c2), .val (.int c3), .val (.int c4), .val (.ref b302), .val (.ref b314), .unset, .unset, .unset, .unset, .unset] [(.int c0), (.int (0 : Int32)), (.ref b334), (.ref b334)])) rfl rfl (hb hby at_198)
  rw [hna0] at W339
  have f340 : Arv Z h339 b334 k334 .char (5 : Int32) [(.int c0), (.int (0 : Int32)), (.int (0 : Int32)), (.int (0 : Int32)), (.int (0 : Int32))] (.int (0 : Int32)) := Arv.set Ar339 q339 S339 M339 Hh339 U339 (own_fitc hna0) W339 0 rfl (Nat.le_of_ble_eq_true rfl)
  have N339 := Fr.snoc X339 N330 g_b334
  have O341 : Old Z n0 h339 := O335.wr W339 g_b334
  have Z341 : n0 ≤ h339.size := Nat.le_trans Z335 (Keep.of_wr W339).1
  have K341 : Keep h0 h339 [] := K335.wr W339 (Or.inr sz_b334)
  have hk341 : h0.size ≤ h339.size := Nat.le_trans hk335 (Keep.of_wr W339).1
  have f342 : Arv Z h339 b302 k302 .char (3 : Int32) [(.int c0), (.int c1), (.int c2)] (.int (0 : Int32)) := f336.other W339 (Nat.ne_of_lt (Nat.lt_of_lt_of_le f333.lt geb334))
  have f343 : Arv Z h339 b314 k314 .char (4 : Int32) [(.int c0), (.int c1), (.int c2), (.int c3)] (.int (0 : Int32)) := f337.other W339 (Nat.ne_of_lt (Nat.lt_of_lt_of_le f331.lt geb334))
  obtain ⟨c344, Ar344, q344, S344, M344, Hh344, U344⟩ := id f340
  obtain ⟨T344, h344, X344, e344, W344, st344⟩ := stC X339 hx hZ e339 Ar344 (j := (1 : Int32)) (inb_of S344 ⟨(by decide : ¬ ((1 : Int32) < (0 : Int32))), (by decide : (1 : Int32) < (5 : Int32))⟩) (g := (mkF m 203 #[.val (.int p1), .val (.int p2), .val (.int p3), .val (.int p4), .val (.int p5), .val (.int p6), .val (.int n), .val (.int h1), .val (.int h2), .val (.int h3), .val (.int c0), .val (.int c1), .val (.int c2), .val (.int c3), .val (.int c4), .val (.ref b302), .val (.ref b314), .unset, .unset, .unset, .unset, .unset] [(.int c1), (.int (1 : Int32)), (.ref b334), (.ref b334)])) rfl rfl (hb hby at_203)
  rw [hna1] at W344
  have f345 : Arv Z h344 b334 k334 .char (5 : Int32) [(.int c0), (.int c1), (.int (0 : Int32)), (.int (0 : Int32)), (.int (0 : Int32))] (.int (0 : Int32)) := Arv.set Ar344 q344 S344 M344 Hh344 U344 (own_fitc hna1) W344 1 rfl (Nat.le_of_ble_eq_true rfl)
  have N344 := Fr.snoc X344 N339 g_b334
  have O346 : Old Z n0 h344 := O341.wr W344 g_b334
  have Z346 : n0 ≤ h344.size := Nat.le_trans Z341 (Keep.of_wr W344).1
  have K346 : Keep h0 h344 [] := K341.wr W344 (Or.inr sz_b334)
  have hk346 : h0.size ≤ h344.size := Nat.le_trans hk341 (Keep.of_wr W344).1
  have f347 : Arv Z h344 b302 k302 .char (3 : Int32) [(.int c0), (.int c1), (.int c2)] (.int (0 : Int32)) := f342.other W344 (Nat.ne_of_lt (Nat.lt_of_lt_of_le f333.lt geb334))
  have f348 : Arv Z h344 b314 k314 .char (4 : Int32) [(.int c0), (.int c1), (.int c2), (.int c3)] (.int (0 : Int32)) := f343.other W344 (Nat.ne_of_lt (Nat.lt_of_lt_of_le f331.lt geb334))
  obtain ⟨c349, Ar349, q349, S349, M349, Hh349, U349⟩ := id f345
  obtain ⟨T349, h349, X349, e349, W349, st349⟩ := stC X344 hx hZ e344 Ar349 (j := (2 : Int32)) (inb_of S349 ⟨(by decide : ¬ ((2 : Int32) < (0 : Int32))), (by decide : (2 : Int32) < (5 : Int32))⟩) (g := (mkF m 208 #[.val (.int p1), .val (.int p2), .val (.int p3), .val (.int p4), .val (.int p5), .val (.int p6), .val (.int n), .val (.int h1), .val (.int h2), .val (.int h3), .val (.int c0), .val (.int c1), .val (.int c2), .val (.int c3), .val (.int c4), .val (.ref b302), .val (.ref b314), .unset, .unset, .unset, .unset, .unset] [(.int c2), (.int (2 : Int32)), (.ref b334), (.ref b334)])) rfl rfl (hb hby at_208)
  rw [hna2] at W349
  have f350 : Arv Z h349 b334 k334 .char (5 : Int32) [(.int c0), (.int c1), (.int c2), (.int (0 : Int32)), (.int (0 : Int32))] (.int (0 : Int32)) := Arv.set Ar349 q349 S349 M349 Hh349 U349 (own_fitc hna2) W349 2 rfl (Nat.le_of_ble_eq_true rfl)
  have N349 := Fr.snoc X349 N344 g_b334
  have O351 : Old Z n0 h349 := O346.wr W349 g_b334
  have Z351 : n0 ≤ h349.size := Nat.le_trans Z346 (Keep.of_wr W349).1
  have K351 : Keep h0 h349 [] := K346.wr W349 (Or.inr sz_b334)
  have hk351 : h0.size ≤ h349.size := Nat.le_trans hk346 (Keep.of_wr W349).1
  have f352 : Arv Z h349 b302 k302 .char (3 : Int32) [(.int c0), (.int c1), (.int c2)] (.int (0 : Int32)) := f347.other W349 (Nat.ne_of_lt (Nat.lt_of_lt_of_le f333.lt geb334))
  have f353 : Arv Z h349 b314 k314 .char (4 : Int32) [(.int c0), (.int c1), (.int c2), (.int c3)] (.int (0 : Int32)) := f348.other W349 (Nat.ne_of_lt (Nat.lt_of_lt_of_le f331.lt geb334))
  obtain ⟨c354, Ar354, q354, S354, M354, Hh354, U354⟩ := id f350
  obtain ⟨T354, h354, X354, e354, W354, st354⟩ := stC X349 hx hZ e349 Ar354 (j := (3 : Int32)) (inb_of S354 ⟨(by decide : ¬ ((3 : Int32) < (0 : Int32))), (by decide : (3 : Int32) < (5 : Int32))⟩) (g := (mkF m 213 #[.val (.int p1), .val (.int p2), .val (.int p3), .val (.int p4), .val (.int p5), .val (.int p6), .val (.int n), .val (.int h1), .val (.int h2), .val (.int h3), .val (.int c0), .val (.int c1), .val (.int c2), .val (.int c3), .val (.int c4), .val (.ref b302), .val (.ref b314), .unset, .unset, .unset, .unset, .unset] [(.int c3), (.int (3 : Int32)), (.ref b334), (.ref b334)])) rfl rfl (hb hby at_213)
  rw [hna3] at W354
  have f355 : Arv Z h354 b334 k334 .char (5 : Int32) [(.int c0), (.int c1), (.int c2), (.int c3), (.int (0 : Int32))] (.int (0 : Int32)) := Arv.set Ar354 q354 S354 M354 Hh354 U354 (own_fitc hna3) W354 3 rfl (Nat.le_of_ble_eq_true rfl)
  have N354 := Fr.snoc X354 N349 g_b334
  have O356 : Old Z n0 h354 := O351.wr W354 g_b334
  have Z356 : n0 ≤ h354.size := Nat.le_trans Z351 (Keep.of_wr W354).1
  have K356 : Keep h0 h354 [] := K351.wr W354 (Or.inr sz_b334)
  have hk356 : h0.size ≤ h354.size := Nat.le_trans hk351 (Keep.of_wr W354).1
  have f357 : Arv Z h354 b302 k302 .char (3 : Int32) [(.int c0), (.int c1), (.int c2)] (.int (0 : Int32)) := f352.other W354 (Nat.ne_of_lt (Nat.lt_of_lt_of_le f333.lt geb334))
  have f358 : Arv Z h354 b314 k314 .char (4 : Int32) [(.int c0), (.int c1), (.int c2), (.int c3)] (.int (0 : Int32)) := f353.other W354 (Nat.ne_of_lt (Nat.lt_of_lt_of_le f331.lt geb334))
  obtain ⟨c359, Ar359, q359, S359, M359, Hh359, U359⟩ := id f355
  obtain ⟨T359, h359, X359, e359, W359, st359⟩ := stC X354 hx hZ e354 Ar359 (j := (4 : Int32)) (inb_of S359 ⟨(by decide : ¬ ((4 : Int32) < (0 : Int32))), (by decide : (4 : Int32) < (5 : Int32))⟩) (g := (mkF m 218 #[.val (.int p1), .val (.int p2), .val (.int p3), .val (.int p4), .val (.int p5), .val (.int p6), .val (.int n), .val (.int h1), .val (.int h2), .val (.int h3), .val (.int c0), .val (.int c1), .val (.int c2), .val (.int c3), .val (.int c4), .val (.ref b302), .val (.ref b314), .unset, .unset, .unset, .unset, .unset] [(.int c4), (.int (4 : Int32)), (.ref b334), (.ref b334)])) rfl rfl (hb hby at_218)
  rw [hna4] at W359
  have f360 : Arv Z h359 b334 k334 .char (5 : Int32) [(.int c0), (.int c1), (.int c2), (.int c3), (.int c4)] (.int (0 : Int32)) := Arv.set Ar359 q359 S359 M359 Hh359 U359 (own_fitc hna4) W359 4 rfl (Nat.le_of_ble_eq_true rfl)
  have N359 := Fr.snoc X359 N354 g_b334
  have O361 : Old Z n0 h359 := O356.wr W359 g_b334
  have Z361 : n0 ≤ h359.size := Nat.le_trans Z356 (Keep.of_wr W359).1
  have K361 : Keep h0 h359 [] := K356.wr W359 (Or.inr sz_b334)
  have hk361 : h0.size ≤ h359.size := Nat.le_trans hk356 (Keep.of_wr W359).1
  have f362 : Arv Z h359 b302 k302 .char (3 : Int32) [(.int c0), (.int c1), (.int c2)] (.int (0 : Int32)) := f357.other W359 (Nat.ne_of_lt (Nat.lt_of_lt_of_le f333.lt geb334))
  have f363 : Arv Z h359 b314 k314 .char (4 : Int32) [(.int c0), (.int c1), (.int c2), (.int c3)] (.int (0 : Int32)) := f358.other W359 (Nat.ne_of_lt (Nat.lt_of_lt_of_le f331.lt geb334))
  obtain ⟨T364, h364, X364, e364, E364, A364, D364, -, st364⟩ := newO X359 hx hZ hown (hw _ (List.mem_of_getElem? (i := 6) rfl)) (hw _ (List.mem_of_getElem? (i := 7) rfl)) (hw _ (List.mem_of_getElem? (i := 8) rfl)) e359 (g := (mkF m 283 #[.val (.int p1), .val (.int p2), .val (.int p3), .val (.int p4), .val (.int p5), .val (.int p6), .val (.int n), .val (.int h1), .val (.int h2), .val (.int h3), .val (.int c0), .val (.int c1), .val (.int c2), .val (.int c3), .val (.int c4), .val (.ref b302), .val (.ref b314), .val (.ref b334), .unset, .unset, .unset, .unset] [])) rfl (hb hby at_283) (by decide) (by decide)
  obtain ⟨b364, g364⟩ : ∃ z, z = h359.size := ⟨_, rfl⟩
  rw [← g364] at A364 D364 st364
  have geb364 : h359.size ≤ b364 := Nat.le_of_eq g364.symm
  have g_b364 : n0 ≤ b364 := Nat.le_trans Z361 geb364
  have sz_b364 : h0.size ≤ b364 := Nat.le_trans K361.1 geb364
  have O365 : Old Z n0 h364 := O361.ext E364
  have Z365 : n0 ≤ h364.size := Nat.le_trans Z361 E364.1
  have K365 : Keep h0 h364 [] := K361.ext E364
  have hk365 : h0.size ≤ h364.size := Nat.le_trans hk361 E364.1
  have f366 : Arv Z h364 b302 k302 .char (3 : Int32) [(.int c0), (.int c1), (.int c2)] (.int (0 : Int32)) := f362.ext E364
  have f367 : Arv Z h364 b314 k314 .char (4 : Int32) [(.int c0), (.int c1), (.int c2), (.int c3)] (.int (0 : Int32)) := f363.ext E364
  have f368 : Arv Z h364 b334 k334 .char (5 : Int32) [(.int c0), (.int c1), (.int c2), (.int c3), (.int c4)] (.int (0 : Int32)) := f360.ext E364
  have f369 : Fld Z h364 b364 "java/lang/String" "coder" "B" (.int (0 : Int32)) := D364 (Or.inr (hw _ (List.mem_of_getElem? (i := 32) rfl))) (ty := .byte) (by decide)
  have f370 : Fld Z h364 b364 "java/lang/String" "value" "[B" .null := D364 (Or.inr (hw _ (List.mem_of_getElem? (i := 34) rfl))) (ty := (.array .byte)) (by decide)
  have hws : ∀ d ∈ StrChars.Road.words, d.before a0 Z = true := fun d hd => hw d ((by decide +kernel : ∀ d ∈ StrChars.Road.words, d ∈ tables_1) d hd)
  have hp371 : ∀ c ∈ ([c0, c1, c2, c3, c4] : List Int32), ¬ c < 0 ∧ ¬ (255 : Int32) < c := by
    intro c hc
    simp only [List.mem_cons, List.not_mem_nil, or_false] at hc
    rcases hc with rfl | rfl | rfl | rfl | rfl
    · exact hr0
    · exact hr1
    · exact hr2
    · exact hr3
    · exact hr4
  obtain ⟨_, _, ⟨T372, L372, k372, n372⟩, -, X372, ⟨Lc372, hQ372, l372, y372, z372⟩, st372⟩ := X364.specialBack hx (y := (⟨"java/lang/String", "<init>", "([C)V"⟩ : MethodName)) rfl hown (mvT hZ (hw _ (List.mem_of_getElem? (i := 9) rfl))) (mvT hZ (hw _ (List.mem_of_getElem? (i := 10) rfl))) (mvT hZ (hw _ (List.mem_of_getElem? (i := 11) rfl))) (by decide) (StrChars.Road.backV (W := 1) hZ hws (kI := 4) (hw _ (List.mem_of_getElem? (i := 7) rfl)) (cs := ([c0, c1, c2, c3, c4] : List Int32)) (bs := (([c0, c1, c2, c3, c4] : List Int32)).map (fun c => c.toInt8.toInt32)) (n := 5) g_b364 Z365 A364 f370 f369 f368 (OC2.ext O365.2) OCz rfl rfl (by decide) (by decide) hp371 rfl (by decide) (by decide)) (g := (mkF m 289 #[.val (.int p1), .val (.int p2), .val (.int p3), .val (.int p4), .val (.int p5), .val (.int p6), .val (.int n), .val (.int h1), .val (.int h2), .val (.int h3), .val (.int c0), .val (.int c1), .val (.int c2), .val (.int c3), .val (.int c4), .val (.ref b302), .val (.ref b314), .val (.ref b334), .unset, .unset, .unset, .unset] [(.ref b334), (.ref b364), (.ref b364)])) rfl (by rw [hml]; rfl) (Steps.refl _) (a := b364) (argsL := [(.ref b334)]) (rest := [(.ref b364)]) (lenOf pd___C_V rfl) rfl (by show 2 * 0 + _ ≤ _; exact Nat.le_of_eq rfl) (hb hby at_289) (fun _ _ => ⟨rfl, e364, (by decide : 4 + 1 ≤ _), (by decide : 16 + 5 ≤ _)⟩)
  dsimp only [Pt.U, Pt.locs, Pt.cells, Pt.slots] at X372 l372 y372 z372 st372 hQ372
  subst l372 y372 z372
  obtain ⟨rfl, N372q, K372k, g1372, g2372, t372, kb372, u1372, u2372, u3372, g3372, g4372⟩ := hQ372
  have N372 := Fr.app N359 N372q
  have O373 : Old Z n0 T372.heap := O365.keep K372k (allS g_b364 all0)
  have Z373 : n0 ≤ T372.heap.size := Nat.le_trans Z365 K372k.1
  have K373 : Keep h0 T372.heap [] := K365.trans K372k (allS (Or.inr sz_b364) all0)
  have hk373 : h0.size ≤ T372.heap.size := Nat.le_trans hk365 K372k.1
  have f374 : Arv Z T372.heap b302 k302 .char (3 : Int32) [(.int c0), (.int c1), (.int c2)] (.int (0 : Int32)) := f366.keep K372k (ninS (Nat.ne_of_lt (Nat.lt_of_lt_of_le f362.lt geb364)) nin0)
  have f375 : Arv Z T372.heap b314 k314 .char (4 : Int32) [(.int c0), (.int c1), (.int c2), (.int c3)] (.int (0 : Int32)) := f367.keep K372k (ninS (Nat.ne_of_lt (Nat.lt_of_lt_of_le f363.lt geb364)) nin0)
  have f376 : Arv Z T372.heap b334 k334 .char (5 : Int32) [(.int c0), (.int c1), (.int c2), (.int c3), (.int c4)] (.int (0 : Int32)) := f368.keep K372k (ninS (Nat.ne_of_lt (Nat.lt_of_lt_of_le f360.lt geb364)) nin0)
  have f377 : Exa Z T372.heap b364 "java/lang/String" := A364.keep K372k
  have sz_t372 : h0.size ≤ t372 := Nat.le_trans K365.1 u2372
  obtain ⟨T378, h378, X378, e378, E378, A378, D378, -, st378⟩ := newO X372 hx hZ hown (hw _ (List.mem_of_getElem? (i := 6) rfl)) (hw _ (List.mem_of_getElem? (i := 7) rfl)) (hw _ (List.mem_of_getElem? (i := 8) rfl)) rfl (g := (mkF m 294 #[.val (.int p1), .val (.int p2), .val (.int p3), .val (.int p4), .val (.int p5), .val (.int p6), .val (.int n), .val (.int h1), .val (.int h2), .val (.int h3), .val (.int c0), .val (.int c1), .val (.int c2), .val (.int c3), .val (.int c4), .val (.ref b302), .val (.ref b314), .val (.ref b334), .val (.ref b364), .unset, .unset, .unset] [])) rfl (hb hby at_294) (by decide) (by decide)
  obtain ⟨b378, g378⟩ : ∃ z, z = T372.heap.size := ⟨_, rfl⟩
  rw [← g378] at A378 D378 st378
  have geb378 : T372.heap.size ≤ b378 := Nat.le_of_eq g378.symm
  have g_b378 : n0 ≤ b378 := Nat.le_trans Z373 geb378
  have sz_b378 : h0.size ≤ b378 := Nat.le_trans K373.1 geb378
  have O379 : Old Z n0 h378 := O373.ext E378
  have Z379 : n0 ≤ h378.size := Nat.le_trans Z373 E378.1
  have K379 : Keep h0 h378 [] := K373.ext E378
  have hk379 : h0.size ≤ h378.size := Nat.le_trans hk373 E378.1
  have f380 : Arv Z h378 b302 k302 .char (3 : Int32) [(.int c0), (.int c1), (.int c2)] (.int (0 : Int32)) := f374.ext E378
  have f381 : Arv Z h378 b314 k314 .char (4 : Int32) [(.int c0), (.int c1), (.int c2), (.int c3)] (.int (0 : Int32)) := f375.ext E378
  have f382 : Arv Z h378 b334 k334 .char (5 : Int32) [(.int c0), (.int c1), (.int c2), (.int c3), (.int c4)] (.int (0 : Int32)) := f376.ext E378
  have f383 : Exa Z h378 b364 "java/lang/String" := g1372.ext E378
  have f384 : Fld Z h378 b364 "java/lang/String" "coder" "B" (.int 0) := g2372.ext E378
  have f385 : Fld Z h378 b364 "java/lang/String" "value" "[B" (.ref t372) := g3372.ext E378
  have f386 : Arv Z h378 t372 kb372 .byte (5 : Int32) (((([c0, c1, c2, c3, c4] : List Int32)).map (fun c => c.toInt8.toInt32)).map Value.int) (.int 0) := g4372.ext E378
  have f387 : Fld Z h378 b378 "java/lang/String" "coder" "B" (.int (0 : Int32)) := D378 (Or.inr (hw _ (List.mem_of_getElem? (i := 32) rfl))) (ty := .byte) (by decide)
  have f388 : Fld Z h378 b378 "java/lang/String" "value" "[B" .null := D378 (Or.inr (hw _ (List.mem_of_getElem? (i := 34) rfl))) (ty := (.array .byte)) (by decide)
  have hp389 : ∀ c ∈ ([c0, c1, c2, c3, c4] : List Int32), ¬ c < 0 ∧ ¬ (255 : Int32) < c := by
    intro c hc
    simp only [List.mem_cons, List.not_mem_nil, or_false] at hc
    rcases hc with rfl | rfl | rfl | rfl | rfl
    · exact hr0
    · exact hr1
    · exact hr2
    · exact hr3
    · exact hr4
  obtain ⟨_, _, ⟨T390, L390, k390, n390⟩, -, X390, ⟨Lc390, hQ390, l390, y390, z390⟩, st390⟩ := X378.specialBack hx (y := (⟨"java/lang/String", "<init>", "([C)V"⟩ : MethodName)) rfl hown (mvT hZ (hw _ (List.mem_of_getElem? (i := 9) rfl))) (mvT hZ (hw _ (List.mem_of_getElem? (i := 10) rfl))) (mvT hZ (hw _ (List.mem_of_getElem? (i := 11) rfl))) (by decide) (StrChars.Road.backV (W := 1) hZ hws (kI := 4) (hw _ (List.mem_of_getElem? (i := 7) rfl)) (cs := ([c0, c1, c2, c3, c4] : List Int32)) (bs := (([c0, c1, c2, c3, c4] : List Int32)).map (fun c => c.toInt8.toInt32)) (n := 5) g_b378 Z379 A378 f388 f387 f382 (OC2.ext O379.2) OCz rfl rfl (by decide) (by decide) hp389 rfl (by decide) (by decide)) (g := (mkF m 300 #[.val (.int p1), .val (.int p2), .val (.int p3), .val (.int p4), .val (.int p5), .val (.int p6), .val (.int n), .val (.int h1), .val (.int h2), .val (.int h3), .val (.int c0), .val (.int c1), .val (.int c2), .val (.int c3), .val (.int c4), .val (.ref b302), .val (.ref b314), .val (.ref b334), .val (.ref b364), .unset, .unset, .unset] [(.ref b334), (.ref b378), (.ref b378)])) rfl (by rw [hml]; rfl) (Steps.refl _) (a := b378) (argsL := [(.ref b334)]) (rest := [(.ref b378)]) (lenOf pd___C_V rfl) rfl (by show 2 * 0 + _ ≤ _; exact Nat.le_of_eq rfl) (hb hby at_300) (fun _ _ => ⟨rfl, e378, (by decide : 6 + 1 ≤ _), (by decide : 25 + 5 ≤ _)⟩)
  dsimp only [Pt.U, Pt.locs, Pt.cells, Pt.slots] at X390 l390 y390 z390 st390 hQ390
  subst l390 y390 z390
  obtain ⟨rfl, N390q, K390k, g1390, g2390, t390, kb390, u1390, u2390, u3390, g3390, g4390⟩ := hQ390
  have N390 := Fr.app N372 N390q
  have O391 : Old Z n0 T390.heap := O379.keep K390k (allS g_b378 all0)
  have Z391 : n0 ≤ T390.heap.size := Nat.le_trans Z379 K390k.1
  have K391 : Keep h0 T390.heap [] := K379.trans K390k (allS (Or.inr sz_b378) all0)
  have hk391 : h0.size ≤ T390.heap.size := Nat.le_trans hk379 K390k.1
  have f392 : Arv Z T390.heap b302 k302 .char (3 : Int32) [(.int c0), (.int c1), (.int c2)] (.int (0 : Int32)) := f380.keep K390k (ninS (Nat.ne_of_lt (Nat.lt_of_lt_of_le f374.lt geb378)) nin0)
  have f393 : Arv Z T390.heap b314 k314 .char (4 : Int32) [(.int c0), (.int c1), (.int c2), (.int c3)] (.int (0 : Int32)) := f381.keep K390k (ninS (Nat.ne_of_lt (Nat.lt_of_lt_of_le f375.lt geb378)) nin0)
  have f394 : Arv Z T390.heap b334 k334 .char (5 : Int32) [(.int c0), (.int c1), (.int c2), (.int c3), (.int c4)] (.int (0 : Int32)) := f382.keep K390k (ninS (Nat.ne_of_lt (Nat.lt_of_lt_of_le f376.lt geb378)) nin0)
  have f395 : Exa Z T390.heap b364 "java/lang/String" := f383.keep K390k
  have f396 : Fld Z T390.heap b364 "java/lang/String" "coder" "B" (.int 0) := f384.keep K390k (ninS (Nat.ne_of_lt (Nat.lt_of_lt_of_le g1372.lt geb378)) nin0)
  have f397 : Fld Z T390.heap b364 "java/lang/String" "value" "[B" (.ref t372) := f385.keep K390k (ninS (Nat.ne_of_lt (Nat.lt_of_lt_of_le g1372.lt geb378)) nin0)
  have f398 : Arv Z T390.heap t372 kb372 .byte (5 : Int32) (((([c0, c1, c2, c3, c4] : List Int32)).map (fun c => c.toInt8.toInt32)).map Value.int) (.int 0) := f386.keep K390k (ninS (Nat.ne_of_lt (Nat.lt_of_lt_of_le g4372.lt geb378)) nin0)
  have f399 : Exa Z T390.heap b378 "java/lang/String" := A378.keep K390k
  have sz_t390 : h0.size ≤ t390 := Nat.le_trans K379.1 u2390
  obtain ⟨_, _, ⟨T400, L400, k400, n400⟩, -, X400, hS400, hg400, ⟨Lc400, hQ400, l400, y400, z400⟩, st400⟩ := Jvm.RoadKit.callSS X390 hx (y := (⟨"com/example/nimble_queue/nimblequeue/core/QueueName", "of", "(Ljava/lang/String;)Lcom/example/nimble_queue/nimblequeue/core/QueueName;"⟩ : MethodName)) hown (mvT hZ (hw _ (List.mem_of_getElem? (i := 35) rfl))) (mvT hZ (hw _ (List.mem_of_getElem? (i := 36) rfl))) (mvT hZ (hw _ (List.mem_of_getElem? (i := 37) rfl))) (mvT hZ (hw _ (List.mem_of_getElem? (i := 38) rfl))) (by decide) (backOfS (W := 0) (rmOf l Z a0 hw [] b364 t372 kb372 ([c0, c1, c2, c3, c4] : List Int32) (5 : Int32) GC (((([c0, c1, c2, c3, c4] : List Int32)).map (fun c => c.toInt8.toInt32)).map Value.int) fm T390.heap n0 O391 wS f395 f396 f397 f398 hcd hbd (Nat.le_of_ble_eq_true rfl) (Nat.le_of_ble_eq_true rfl) OC2 OCz OF4 OFr hok) hZ (hw _ (List.mem_of_getElem? (i := 38) rfl)) (hw _ (List.mem_of_getElem? (i := 37) rfl)) (by decide) (by decide)) (g := (mkF m 307 #[.val (.int p1), .val (.int p2), .val (.int p3), .val (.int p4), .val (.int p5), .val (.int p6), .val (.int n), .val (.int h1), .val (.int h2), .val (.int h3), .val (.int c0), .val (.int c1), .val (.int c2), .val (.int c3), .val (.int c4), .val (.ref b302), .val (.ref b314), .val (.ref b334), .val (.ref b364), .val (.ref b378), .unset, .unset] [(.ref b364)])) rfl (by rw [hml]; rfl) (argsL := [(.ref b364)]) (rest := []) (lenOf pd__Ljava_lang_String__Lcom_example_nimble_queue_nimblequeue_core_QueueName_ rfl) rfl (by show 2 * 0 + _ ≤ _; exact Nat.le_of_eq rfl) (hb hby at_307) (fun _ _ => ⟨rfl, rfl, (by decide : 7 + 3 ≤ _), (by decide : 30 + 21 ≤ _)⟩)
  dsimp only [Pt.U, Pt.locs, Pt.cells, Pt.slots] at X400 l400 y400 z400 st400 hQ400 hS400 hg400
  subst l400 y400 z400
  obtain ⟨b400, rfl, N400q, K400k, hf400, g1400, g2400⟩ := hQ400
  have N400 := Fr.app N390 N400q
  obtain ⟨X400r, hS400r, hZ400, hown400⟩ := rebS hS0 hk391 X400 hS400 hg400 hZ hown
  have O401 : Old Z n0 T400.heap := O391.keep K400k all0
  have Z401 : n0 ≤ T400.heap.size := Nat.le_trans Z391 K400k.1
  have K401 : Keep h0 T400.heap [] := K391.trans K400k all0
  have f402 : Arv Z T400.heap b302 k302 .char (3 : Int32) [(.int c0), (.int c1), (.int c2)] (.int (0 : Int32)) := f392.keep K400k nin0
  have f403 : Arv Z T400.heap b314 k314 .char (4 : Int32) [(.int c0), (.int c1), (.int c2), (.int c3)] (.int (0 : Int32)) := f393.keep K400k nin0
  have f404 : Arv Z T400.heap b334 k334 .char (5 : Int32) [(.int c0), (.int c1), (.int c2), (.int c3), (.int c4)] (.int (0 : Int32)) := f394.keep K400k nin0
  have f405 : Exa Z T400.heap b364 "java/lang/String" := f395.keep K400k
  have f406 : Fld Z T400.heap b364 "java/lang/String" "coder" "B" (.int 0) := f396.keep K400k nin0
  have f407 : Fld Z T400.heap b364 "java/lang/String" "value" "[B" (.ref t372) := f397.keep K400k nin0
  have f408 : Arv Z T400.heap t372 kb372 .byte (5 : Int32) (((([c0, c1, c2, c3, c4] : List Int32)).map (fun c => c.toInt8.toInt32)).map Value.int) (.int 0) := f398.keep K400k nin0
  have f409 : Exa Z T400.heap b378 "java/lang/String" := g1390.keep K400k
  have f410 : Fld Z T400.heap b378 "java/lang/String" "coder" "B" (.int 0) := g2390.keep K400k nin0
  have f411 : Fld Z T400.heap b378 "java/lang/String" "value" "[B" (.ref t390) := g3390.keep K400k nin0
  have f412 : Arv Z T400.heap t390 kb390 .byte (5 : Int32) (((([c0, c1, c2, c3, c4] : List Int32)).map (fun c => c.toInt8.toInt32)).map Value.int) (.int 0) := g4390.keep K400k nin0
  have g_b400 : n0 ≤ b400 := Nat.le_trans Z391 hf400
  have sz_b400 : h0.size ≤ b400 := Nat.le_trans K391.1 hf400
  obtain ⟨_, _, ⟨T413, L413, k413, n413⟩, -, X413, hS413, hg413, ⟨Lc413, hQ413, l413, y413, z413⟩, st413⟩ := Jvm.RoadKit.callSS X400r hx (y := (⟨"com/example/nimble_queue/nimblequeue/core/QueueName", "of", "(Ljava/lang/String;)Lcom/example/nimble_queue/nimblequeue/core/QueueName;"⟩ : MethodName)) hown400 (mvT hZ400 (hw _ (List.mem_of_getElem? (i := 35) rfl))) (mvT hZ400 (hw _ (List.mem_of_getElem? (i := 36) rfl))) (mvT hZ400 (hw _ (List.mem_of_getElem? (i := 37) rfl))) (mvT hZ400 (hw _ (List.mem_of_getElem? (i := 38) rfl))) (by decide) (backOfS (W := 0) (rmOf l Z a0 hw [] b378 t390 kb390 ([c0, c1, c2, c3, c4] : List Int32) (5 : Int32) GC (((([c0, c1, c2, c3, c4] : List Int32)).map (fun c => c.toInt8.toInt32)).map Value.int) fm T400.heap n0 O401 wS f409 f410 f411 f412 hcd hbd (Nat.le_of_ble_eq_true rfl) (Nat.le_of_ble_eq_true rfl) OC2 OCz OF4 OFr hok) hZ400 (hw _ (List.mem_of_getElem? (i := 38) rfl)) (hw _ (List.mem_of_getElem? (i := 37) rfl)) (by decide) (by decide)) (g := (mkF m 314 #[.val (.int p1), .val (.int p2), .val (.int p3), .val (.int p4), .val (.int p5), .val (.int p6), .val (.int n), .val (.int h1), .val (.int h2), .val (.int h3), .val (.int c0), .val (.int c1), .val (.int c2), .val (.int c3), .val (.int c4), .val (.ref b302), .val (.ref b314), .val (.ref b334), .val (.ref b364), .val (.ref b378), .val (.ref b400), .unset] [(.ref b378)])) rfl (by rw [hml]; rfl) (argsL := [(.ref b378)]) (rest := []) (lenOf pd__Ljava_lang_String__Lcom_example_nimble_queue_nimblequeue_core_QueueName_ rfl) rfl (by show 2 * 0 + _ ≤ _; exact Nat.le_of_eq rfl) (hb hby at_314) (fun _ _ => ⟨rfl, rfl, (by decide : 10 + 3 ≤ _), (by decide : 51 + 21 ≤ _)⟩)
  dsimp only [Pt.U, Pt.locs, Pt.cells, Pt.slots] at X413 l413 y413 z413 st413 hQ413 hS413 hg413
  subst l413 y413 z413
  obtain ⟨b413, rfl, N413q, K413k, hf413, g1413, g2413⟩ := hQ413
  have N413 := Fr.app N400 N413q
  obtain ⟨X413r, hS413r, hZ413, hown413⟩ := rebS hS400r (Nat.le_refl _) X413 hS413 hg413 hZ400 hown400
  have O414 : Old Z n0 T413.heap := O401.keep K413k all0
  have Z414 : n0 ≤ T413.heap.size := Nat.le_trans Z401 K413k.1
  have K414 : Keep h0 T413.heap [] := K401.trans K413k all0
  have f415 : Arv Z T413.heap b302 k302 .char (3 : Int32) [(.int c0), (.int c1), (.int c2)] (.int (0 : Int32)) := f402.keep K413k nin0
  have f416 : Arv Z T413.heap b314 k314 .char (4 : Int32) [(.int c0), (.int c1), (.int c2), (.int c3)] (.int (0 : Int32)) := f403.keep K413k nin0
  have f417 : Arv Z T413.heap b334 k334 .char (5 : Int32) [(.int c0), (.int c1), (.int c2), (.int c3), (.int c4)] (.int (0 : Int32)) := f404.keep K413k nin0
  have f418 : Exa Z T413.heap b364 "java/lang/String" := f405.keep K413k
  have f419 : Fld Z T413.heap b364 "java/lang/String" "coder" "B" (.int 0) := f406.keep K413k nin0
  have f420 : Fld Z T413.heap b364 "java/lang/String" "value" "[B" (.ref t372) := f407.keep K413k nin0
  have f421 : Arv Z T413.heap t372 kb372 .byte (5 : Int32) (((([c0, c1, c2, c3, c4] : List Int32)).map (fun c => c.toInt8.toInt32)).map Value.int) (.int 0) := f408.keep K413k nin0
  have f422 : Exa Z T413.heap b378 "java/lang/String" := f409.keep K413k
  have f423 : Fld Z T413.heap b378 "java/lang/String" "coder" "B" (.int 0) := f410.keep K413k nin0
  have f424 : Fld Z T413.heap b378 "java/lang/String" "value" "[B" (.ref t390) := f411.keep K413k nin0
  have f425 : Arv Z T413.heap t390 kb390 .byte (5 : Int32) (((([c0, c1, c2, c3, c4] : List Int32)).map (fun c => c.toInt8.toInt32)).map Value.int) (.int 0) := f412.keep K413k nin0
  have f426 : Exa Z T413.heap b400 "com/example/nimble_queue/nimblequeue/core/QueueName" := g1400.keep K413k
  have f427 : Fld Z T413.heap b400 "com/example/nimble_queue/nimblequeue/core/QueueName" "name" "Ljava/lang/String;" (.ref b364) := g2400.keep K413k nin0
  have g_b413 : n0 ≤ b413 := Nat.le_trans Z401 hf413
  have sz_b413 : h0.size ≤ b413 := Nat.le_trans K401.1 hf413
  obtain ⟨cq428, kq428, qa428, qb428, qc428⟩ := isOf hZ413 rfl f426
  obtain ⟨_, _, ⟨T428, L428, k428, n428⟩, -, X428, ⟨Lc428, hQ428, l428, y428, z428⟩, st428⟩ := X413r.virtualBack hx (y := (⟨"com/example/nimble_queue/nimblequeue/core/QueueName", "toString", "()Ljava/lang/String;"⟩ : MethodName)) (z := (⟨"com/example/nimble_queue/nimblequeue/core/QueueName", "toString", "()Ljava/lang/String;"⟩ : MethodName)) hown413 (mvT hZ413 (hw _ (List.mem_of_getElem? (i := 89) rfl))) (mvT hZ413 (hw _ (List.mem_of_getElem? (i := 90) rfl))) (notFace_of_selects (args := #[]) (mvT hZ413 (hw _ (List.mem_of_getElem? (i := 92) rfl)))) (mvT hZ413 (hw _ (List.mem_of_getElem? (i := 92) rfl))) (mvT hZ413 (hw _ (List.mem_of_getElem? (i := 91) rfl))) (by decide) (backOf (W := 0) (rmTS l Z a0 hw [] b400 b364 T413.heap n0 O414 f427) hZ413 (hw _ (List.mem_of_getElem? (i := 93) rfl)) (hw _ (List.mem_of_getElem? (i := 37) rfl)) (by decide) (by decide)) qa428 qc428 (g := (mkF m 326 #[.val (.int p1), .val (.int p2), .val (.int p3), .val (.int p4), .val (.int p5), .val (.int p6), .val (.int n), .val (.int h1), .val (.int h2), .val (.int h3), .val (.int c0), .val (.int c1), .val (.int c2), .val (.int c3), .val (.int c4), .val (.ref b302), .val (.ref b314), .val (.ref b334), .val (.ref b364), .val (.ref b378), .val (.ref b400), .val (.ref b413)] [(.ref b400)])) rfl (by rw [hml]; rfl) (Steps.refl _) (argsL := []) (rest := []) (lenOf pd___Ljava_lang_String_ rfl) rfl (by show 2 * 0 + _ ≤ _; exact Nat.le_of_eq rfl) (hb hby at_326) (fun _ _ => ⟨rfl, rfl, (by decide : 13 + 0 ≤ _), (by decide : 72 + 0 ≤ _)⟩)
  dsimp only [Pt.U, Pt.locs, Pt.cells, Pt.slots] at X428 l428 y428 z428 st428 hQ428
  subst l428 y428 z428
  obtain ⟨rfl, N428q, e428⟩ := hQ428
  have N428 := Fr.app N413 N428q
  have heq : ∀ d ∈ StrChars.Road.wordsEq, d.before a0 Z = true := fun d hd => hw d ((by decide +kernel : ∀ d ∈ StrChars.Road.wordsEq, d ∈ tables_1) d hd)
  obtain ⟨cq429, kq429, qa429, qb429, qc429⟩ := isOf hZ413 e428 f418
  obtain ⟨_, _, ⟨T429, L429, k429, n429⟩, -, X429, ⟨Lc429, hQ429, l429, y429, z429⟩, st429⟩ := X428.virtualBack hx (y := (⟨"java/lang/String", "equals", "(Ljava/lang/Object;)Z"⟩ : MethodName)) (z := (⟨"java/lang/String", "equals", "(Ljava/lang/Object;)Z"⟩ : MethodName)) hown413 (mvT hZ413 (hw _ (List.mem_of_getElem? (i := 94) rfl))) (mvT hZ413 (hw _ (List.mem_of_getElem? (i := 95) rfl))) (notFace_of_selects (args := #[]) (mvT hZ413 (hw _ (List.mem_of_getElem? (i := 97) rfl)))) (mvT hZ413 (hw _ (List.mem_of_getElem? (i := 97) rfl))) (mvT hZ413 (hw _ (List.mem_of_getElem? (i := 96) rfl))) (by decide) (StrChars.Road.eqW (W := 0) hZ413 heq (kI := 4) (hw _ (List.mem_of_getElem? (i := 7) rfl)) f418 f420 f419 f421 hcd hbd (Nat.le_trans (Nat.le_of_ble_eq_true rfl : ([c0, c1, c2, c3, c4] : List Int32).length ≤ 63) (by decide)) f418 f420 f419 f421 hcd hbd (Nat.le_trans (Nat.le_of_ble_eq_true rfl : ([c0, c1, c2, c3, c4] : List Int32).length ≤ 63) (by decide)) (OC2.ext O414.2) OCz (by decide) (by decide)) qa429 qc429 (g := (mkF m 331 #[.val (.int p1), .val (.int p2), .val (.int p3), .val (.int p4), .val (.int p5), .val (.int p6), .val (.int n), .val (.int h1), .val (.int h2), .val (.int h3), .val (.int c0), .val (.int c1), .val (.int c2), .val (.int c3), .val (.int c4), .val (.ref b302), .val (.ref b314), .val (.ref b334), .val (.ref b364), .val (.ref b378), .val (.ref b400), .val (.ref b413)] [(.ref b364), (.ref b364)])) rfl (by rw [hml]; rfl) (Steps.refl _) (argsL := [(.ref b364)]) (rest := []) (lenOf pd__Ljava_lang_Object__Z rfl) rfl (by show 2 * 0 + _ ≤ _; exact Nat.le_of_eq rfl) (hb hby at_331) (fun _ _ => ⟨rfl, e428, (by decide : 13 + 0 ≤ _), (by decide : 72 + 0 ≤ _)⟩)
  dsimp only [Pt.U, Pt.locs, Pt.cells, Pt.slots] at X429 l429 y429 z429 st429 hQ429
  subst l429 y429 z429
  obtain ⟨hd429, rfl, e429⟩ := hQ429
  obtain ⟨rfl, -⟩ := hd429.resolve_right (fun q => q.2 rfl)
  have N429q : Fr n0 ([] : List Loc) := Fr.nil n0
  have N429 := Fr.app N428 N429q
  obtain ⟨cq430, kq430, qa430, qb430, qc430⟩ := isOf hZ413 e429 f426
  obtain ⟨_, _, ⟨T430, L430, k430, n430⟩, -, X430, ⟨Lc430, hQ430, l430, y430, z430⟩, st430⟩ := X429.virtualBack hx (y := (⟨"com/example/nimble_queue/nimblequeue/core/QueueName", "equals", "(Ljava/lang/Object;)Z"⟩ : MethodName)) (z := (⟨"com/example/nimble_queue/nimblequeue/core/QueueName", "equals", "(Ljava/lang/Object;)Z"⟩ : MethodName)) hown413 (mvT hZ413 (hw _ (List.mem_of_getElem? (i := 99) rfl))) (mvT hZ413 (hw _ (List.mem_of_getElem? (i := 100) rfl))) (notFace_of_selects (args := #[]) (mvT hZ413 (hw _ (List.mem_of_getElem? (i := 102) rfl)))) (mvT hZ413 (hw _ (List.mem_of_getElem? (i := 102) rfl))) (mvT hZ413 (hw _ (List.mem_of_getElem? (i := 101) rfl))) (by decide) (backOf (W := 0) (rmQE l Z a0 hw [] b400 b413 b364 t372 b378 t390 kb372 kb390 ([c0, c1, c2, c3, c4] : List Int32) (5 : Int32) GC (((([c0, c1, c2, c3, c4] : List Int32)).map (fun c => c.toInt8.toInt32)).map Value.int) T413.heap n0 O414 f426 g1413 f427 g2413 f418 f419 f420 f421 f422 f423 f424 f425 hcd hbd (Nat.le_of_ble_eq_true rfl) OC2 OCz) hZ413 (hw _ (List.mem_of_getElem? (i := 103) rfl)) (hw _ (List.mem_of_getElem? (i := 37) rfl)) (by decide) (by decide)) qa430 qc430 (g := (mkF m 341 #[.val (.int p1), .val (.int p2), .val (.int p3), .val (.int p4), .val (.int p5), .val (.int p6), .val (.int n), .val (.int h1), .val (.int h2), .val (.int h3), .val (.int c0), .val (.int c1), .val (.int c2), .val (.int c3), .val (.int c4), .val (.ref b302), .val (.ref b314), .val (.ref b334), .val (.ref b364), .val (.ref b378), .val (.ref b400), .val (.ref b413)] [(.ref b413), (.ref b400)])) rfl (by rw [hml]; rfl) (Steps.refl _) (argsL := [(.ref b413)]) (rest := []) (lenOf pd__Ljava_lang_Object__Z rfl) rfl (by show 2 * 0 + _ ≤ _; exact Nat.le_of_eq rfl) (hb hby at_341) (fun _ _ => ⟨rfl, e429, (by decide : 13 + 0 ≤ _), (by decide : 72 + 0 ≤ _)⟩)
  dsimp only [Pt.U, Pt.locs, Pt.cells, Pt.slots] at X430 l430 y430 z430 st430 hQ430
  subst l430 y430 z430
  obtain ⟨rfl, N430q, e430⟩ := hQ430
  have N430 := Fr.app N429 N430q
  obtain ⟨fs, hr, hrun, hended, hEnd⟩ := X430.leaveW (s := s) hS413r (by rw [e430]; exact (Nat.le_refl _)) (v := some (.int 1)) (fun h => by rw [hret] at h; cases h) hlk
  refine ⟨_, _, ?_, hrun, hended, N430, hEnd.1, hEnd.2.1, hEnd.2.2.1, hEnd.2.2.2.mono (by decide) (by decide)⟩
  show Steps p.tables e below (T0.setTop (mkF m 146 #[.val (.int p1), .val (.int p2), .val (.int p3), .val (.int p4), .val (.int p5), .val (.int p6), .val (.int n), .val (.int h1), .val (.int h2), .val (.int h3), .val (.int c0), .val (.int c1), .val (.int c2), .val (.int c3), .val (.int c4), .unset, .unset, .unset, .unset, .unset, .unset, .unset] [])) _
  refine XS.iconst X0.here hx rfl (hb hby at_146) ?_
  show Steps p.tables e below (T0.setTop (mkF m 147 #[.val (.int p1), .val (.int p2), .val (.int p3), .val (.int p4), .val (.int p5), .val (.int p6), .val (.int n), .val (.int h1), .val (.int h2), .val (.int h3), .val (.int c0), .val (.int c1), .val (.int c2), .val (.int c3), .val (.int c4), .unset, .unset, .unset, .unset, .unset, .unset, .unset] [(.int (3 : Int32))])) _
  refine st302 _ ?_
  show Steps p.tables e below (T302.setTop (mkF m 149 #[.val (.int p1), .val (.int p2), .val (.int p3), .val (.int p4), .val (.int p5), .val (.int p6), .val (.int n), .val (.int h1), .val (.int h2), .val (.int h3), .val (.int c0), .val (.int c1), .val (.int c2), .val (.int c3), .val (.int c4), .unset, .unset, .unset, .unset, .unset, .unset, .unset] [(.ref b302)])) _
  refine XS.dup X302.here hx rfl (hb hby at_149) rfl rfl ?_
  show Steps p.tables e below (T302.setTop (mkF m 150 #[.val (.int p1), .val (.int p2), .val (.int p3), .val (.int p4), .val (.int p5), .val (.int p6), .val (.int n), .val (.int h1), .val (.int h2), .val (.int h3), .val (.int c0), .val (.int c1), .val (.int c2), .val (.int c3), .val (.int c4), .unset, .unset, .unset, .unset, .unset, .unset, .unset] [(.ref b302), (.ref b302)])) _
  refine XS.iconst X302.here hx rfl (hb hby at_150) ?_
  show Steps p.tables e below (T302.setTop (mkF m 151 #[.val (.int p1), .val (.int p2), .val (.int p3), .val (.int p4), .val (.int p5), .val (.int p6), .val (.int n), .val (.int h1), .val (.int h2), .val (.int h3), .val (.int c0), .val (.int c1), .val (.int c2), .val (.int c3), .val (.int c4), .unset, .unset, .unset, .unset, .unset, .unset, .unset] [(.int (0 : Int32)), (.ref b302), (.ref b302)])) _
  refine XS.iload X302.here hx rfl (hb hby at_151) rfl ?_
  show Steps p.tables e below (T302.setTop (mkF m 153 #[.val (.int p1), .val (.int p2), .val (.int p3), .val (.int p4), .val (.int p5), .val (.int p6), .val (.int n), .val (.int h1), .val (.int h2), .val (.int h3), .val (.int c0), .val (.int c1), .val (.int c2), .val (.int c3), .val (.int c4), .unset, .unset, .unset, .unset, .unset, .unset, .unset] [(.int c0), (.int (0 : Int32)), (.ref b302), (.ref b302)])) _
  refine st305 _ ?_
  show Steps p.tables e below (T305.setTop (mkF m 154 #[.val (.int p1), .val (.int p2), .val (.int p3), .val (.int p4), .val (.int p5), .val (.int p6), .val (.int n), .val (.int h1), .val (.int h2), .val (.int h3), .val (.int c0), .val (.int c1), .val (.int c2), .val (.int c3), .val (.int c4), .unset, .unset, .unset, .unset, .unset, .unset, .unset] [(.ref b302)])) _
  refine XS.dup X305.here hx rfl (hb hby at_154) rfl rfl ?_
  show Steps p.tables e below (T305.setTop (mkF m 155 #[.val (.int p1), .val (.int p2), .val (.int p3), .val (.int p4), .val (.int p5), .val (.int p6), .val (.int n), .val (.int h1), .val (.int h2), .val (.int h3), .val (.int c0), .val (.int c1), .val (.int c2), .val (.int c3), .val (.int c4), .unset, .unset, .unset, .unset, .unset, .unset, .unset] [(.ref b302), (.ref b302)])) _
  refine XS.iconst X305.here hx rfl (hb hby at_155) ?_
  show Steps p.tables e below (T305.setTop (mkF m 156 #[.val (.int p1), .val (.int p2), .val (.int p3), .val (.int p4), .val (.int p5), .val (.int p6), .val (.int n), .val (.int h1), .val (.int h2), .val (.int h3), .val (.int c0), .val (.int c1), .val (.int c2), .val (.int c3), .val (.int c4), .unset, .unset, .unset, .unset, .unset, .unset, .unset] [(.int (1 : Int32)), (.ref b302), (.ref b302)])) _
  refine XS.iload X305.here hx rfl (hb hby at_156) rfl ?_
  show Steps p.tables e below (T305.setTop (mkF m 158 #[.val (.int p1), .val (.int p2), .val (.int p3), .val (.int p4), .val (.int p5), .val (.int p6), .val (.int n), .val (.int h1), .val (.int h2), .val (.int h3), .val (.int c0), .val (.int c1), .val (.int c2), .val (.int c3), .val (.int c4), .unset, .unset, .unset, .unset, .unset, .unset, .unset] [(.int c1), (.int (1 : Int32)), (.ref b302), (.ref b302)])) _
  refine st308 _ ?_
  show Steps p.tables e below (T308.setTop (mkF m 159 #[.val (.int p1), .val (.int p2), .val (.int p3), .val (.int p4), .val (.int p5), .val (.int p6), .val (.int n), .val (.int h1), .val (.int h2), .val (.int h3), .val (.int c0), .val (.int c1), .val (.int c2), .val (.int c3), .val (.int c4), .unset, .unset, .unset, .unset, .unset, .unset, .unset] [(.ref b302)])) _
  refine XS.dup X308.here hx rfl (hb hby at_159) rfl rfl ?_
  show Steps p.tables e below (T308.setTop (mkF m 160 #[.val (.int p1), .val (.int p2), .val (.int p3), .val (.int p4), .val (.int p5), .val (.int p6), .val (.int n), .val (.int h1), .val (.int h2), .val (.int h3), .val (.int c0), .val (.int c1), .val (.int c2), .val (.int c3), .val (.int c4), .unset, .unset, .unset, .unset, .unset, .unset, .unset] [(.ref b302), (.ref b302)])) _
  refine XS.iconst X308.here hx rfl (hb hby at_160) ?_
  show Steps p.tables e below (T308.setTop (mkF m 161 #[.val (.int p1), .val (.int p2), .val (.int p3), .val (.int p4), .val (.int p5), .val (.int p6), .val (.int n), .val (.int h1), .val (.int h2), .val (.int h3), .val (.int c0), .val (.int c1), .val (.int c2), .val (.int c3), .val (.int c4), .unset, .unset, .unset, .unset, .unset, .unset, .unset] [(.int (2 : Int32)), (.ref b302), (.ref b302)])) _
  refine XS.iload X308.here hx rfl (hb hby at_161) rfl ?_
  show Steps p.tables e below (T308.setTop (mkF m 163 #[.val (.int p1), .val (.int p2), .val (.int p3), .val (.int p4), .val (.int p5), .val (.int p6), .val (.int n), .val (.int h1), .val (.int h2), .val (.int h3), .val (.int c0), .val (.int c1), .val (.int c2), .val (.int c3), .val (.int c4), .unset, .unset, .unset, .unset, .unset, .unset, .unset] [(.int c2), (.int (2 : Int32)), (.ref b302), (.ref b302)])) _
  refine st311 _ ?_
  show Steps p.tables e below (T311.setTop (mkF m 164 #[.val (.int p1), .val (.int p2), .val (.int p3), .val (.int p4), .val (.int p5), .val (.int p6), .val (.int n), .val (.int h1), .val (.int h2), .val (.int h3), .val (.int c0), .val (.int c1), .val (.int c2), .val (.int c3), .val (.int c4), .unset, .unset, .unset, .unset, .unset, .unset, .unset] [(.ref b302)])) _
  refine XS.astore X311.here hx rfl (hb hby at_164) rfl rfl (l' := #[.val (.int p1), .val (.int p2), .val (.int p3), .val (.int p4), .val (.int p5), .val (.int p6), .val (.int n), .val (.int h1), .val (.int h2), .val (.int h3), .val (.int c0), .val (.int c1), .val (.int c2), .val (.int c3), .val (.int c4), .val (.ref b302), .unset, .unset, .unset, .unset, .unset, .unset]) rfl ?_
  show Steps p.tables e below (T311.setTop (mkF m 166 #[.val (.int p1), .val (.int p2), .val (.int p3), .val (.int p4), .val (.int p5), .val (.int p6), .val (.int n), .val (.int h1), .val (.int h2), .val (.int h3), .val (.int c0), .val (.int c1), .val (.int c2), .val (.int c3), .val (.int c4), .val (.ref b302), .unset, .unset, .unset, .unset, .unset, .unset] [])) _
  refine XS.iconst X311.here hx rfl (hb hby at_166) ?_
  show Steps p.tables e below (T311.setTop (mkF m 167 #[.val (.int p1), .val (.int p2), .val (.int p3), .val (.int p4), .val (.int p5), .val (.int p6), .val (.int n), .val (.int h1), .val (.int h2), .val (.int h3), .val (.int c0), .val (.int c1), .val (.int c2), .val (.int c3), .val (.int c4), .val (.ref b302), .unset, .unset, .unset, .unset, .unset, .unset] [(.int (4 : Int32))])) _
  refine st314 _ ?_
  show Steps p.tables e below (T314.setTop (mkF m 169 #[.val (.int p1), .val (.int p2), .val (.int p3), .val (.int p4), .val (.int p5), .val (.int p6), .val (.int n), .val (.int h1), .val (.int h2), .val (.int h3), .val (.int c0), .val (.int c1), .val (.int c2), .val (.int c3), .val (.int c4), .val (.ref b302), .unset, .unset, .unset, .unset, .unset, .unset] [(.ref b314)])) _
  refine XS.dup X314.here hx rfl (hb hby at_169) rfl rfl ?_
  show Steps p.tables e below (T314.setTop (mkF m 170 #[.val (.int p1), .val (.int p2), .val (.int p3), .val (.int p4), .val (.int p5), .val (.int p6), .val (.int n), .val (.int h1), .val (.int h2), .val (.int h3), .val (.int c0), .val (.int c1), .val (.int c2), .val (.int c3), .val (.int c4), .val (.ref b302), .unset, .unset, .unset, .unset, .unset, .unset] [(.ref b314), (.ref b314)])) _
  refine XS.iconst X314.here hx rfl (hb hby at_170) ?_
  show Steps p.tables e below (T314.setTop (mkF m 171 #[.val (.int p1), .val (.int p2), .val (.int p3), .val (.int p4), .val (.int p5), .val (.int p6), .val (.int n), .val (.int h1), .val (.int h2), .val (.int h3), .val (.int c0), .val (.int c1), .val (.int c2), .val (.int c3), .val (.int c4), .val (.ref b302), .unset, .unset, .unset, .unset, .unset, .unset] [(.int (0 : Int32)), (.ref b314), (.ref b314)])) _
  refine XS.iload X314.here hx rfl (hb hby at_171) rfl ?_
  show Steps p.tables e below (T314.setTop (mkF m 173 #[.val (.int p1), .val (.int p2), .val (.int p3), .val (.int p4), .val (.int p5), .val (.int p6), .val (.int n), .val (.int h1), .val (.int h2), .val (.int h3), .val (.int c0), .val (.int c1), .val (.int c2), .val (.int c3), .val (.int c4), .val (.ref b302), .unset, .unset, .unset, .unset, .unset, .unset] [(.int c0), (.int (0 : Int32)), (.ref b314), (.ref b314)])) _
  refine st318 _ ?_
  show Steps p.tables e below (T318.setTop (mkF m 174 #[.val (.int p1), .val (.int p2), .val (.int p3), .val (.int p4), .val (.int p5), .val (.int p6), .val (.int n), .val (.int h1), .val (.int h2), .val (.int h3), .val (.int c0), .val (.int c1), .val (.int c2), .val (.int c3), .val (.int c4), .val (.ref b302), .unset, .unset, .unset, .unset, .unset, .unset] [(.ref b314)])) _
  refine XS.dup X318.here hx rfl (hb hby at_174) rfl rfl ?_
  show Steps p.tables e below (T318.setTop (mkF m 175 #[.val (.int p1), .val (.int p2), .val (.int p3), .val (.int p4), .val (.int p5), .val (.int p6), .val (.int n), .val (.int h1), .val (.int h2), .val (.int h3), .val (.int c0), .val (.int c1), .val (.int c2), .val (.int c3), .val (.int c4), .val (.ref b302), .unset, .unset, .unset, .unset, .unset, .unset] [(.ref b314), (.ref b314)])) _
  refine XS.iconst X318.here hx rfl (hb hby at_175) ?_
  show Steps p.tables e below (T318.setTop (mkF m 176 #[.val (.int p1), .val (.int p2), .val (.int p3), .val (.int p4), .val (.int p5), .val (.int p6), .val (.int n), .val (.int h1), .val (.int h2), .val (.int h3), .val (.int c0), .val (.int c1), .val (.int c2), .val (.int c3), .val (.int c4), .val (.ref b302), .unset, .unset, .unset, .unset, .unset, .unset] [(.int (1 : Int32)), (.ref b314), (.ref b314)])) _
  refine XS.iload X318.here hx rfl (hb hby at_176) rfl ?_
  show Steps p.tables e below (T318.setTop (mkF m 178 #[.val (.int p1), .val (.int p2), .val (.int p3), .val (.int p4), .val (.int p5), .val (.int p6), .val (.int n), .val (.int h1), .val (.int h2), .val (.int h3), .val (.int c0), .val (.int c1), .val (.int c2), .val (.int c3), .val (.int c4), .val (.ref b302), .unset, .unset, .unset, .unset, .unset, .unset] [(.int c1), (.int (1 : Int32)), (.ref b314), (.ref b314)])) _
  refine st322 _ ?_
  show Steps p.tables e below (T322.setTop (mkF m 179 #[.val (.int p1), .val (.int p2), .val (.int p3), .val (.int p4), .val (.int p5), .val (.int p6), .val (.int n), .val (.int h1), .val (.int h2), .val (.int h3), .val (.int c0), .val (.int c1), .val (.int c2), .val (.int c3), .val (.int c4), .val (.ref b302), .unset, .unset, .unset, .unset, .unset, .unset] [(.ref b314)])) _
  refine XS.dup X322.here hx rfl (hb hby at_179) rfl rfl ?_
  show Steps p.tables e below (T322.setTop (mkF m 180 #[.val (.int p1), .val (.int p2), .val (.int p3), .val (.int p4), .val (.int p5), .val (.int p6), .val (.int n), .val (.int h1), .val (.int h2), .val (.int h3), .val (.int c0), .val (.int c1), .val (.int c2), .val (.int c3), .val (.int c4), .val (.ref b302), .unset, .unset, .unset, .unset, .unset, .unset] [(.ref b314), (.ref b314)])) _
  refine XS.iconst X322.here hx rfl (hb hby at_180) ?_
  show Steps p.tables e below (T322.setTop (mkF m 181 #[.val (.int p1), .val (.int p2), .val (.int p3), .val (.int p4), .val (.int p5), .val (.int p6), .val (.int n), .val (.int h1), .val (.int h2), .val (.int h3), .val (.int c0), .val (.int c1), .val (.int c2), .val (.int c3), .val (.int c4), .val (.ref b302), .unset, .unset, .unset, .unset, .unset, .unset] [(.int (2 : Int32)), (.ref b314), (.ref b314)])) _
  refine XS.iload X322.here hx rfl (hb hby at_181) rfl ?_
  show Steps p.tables e below (T322.setTop (mkF m 183 #[.val (.int p1), .val (.int p2), .val (.int p3), .val (.int p4), .val (.int p5), .val (.int p6), .val (.int n), .val (.int h1), .val (.int h2), .val (.int h3), .val (.int c0), .val (.int c1), .val (.int c2), .val (.int c3), .val (.int c4), .val (.ref b302), .unset, .unset, .unset, .unset, .unset, .unset] [(.int c2), (.int (2 : Int32)), (.ref b314), (.ref b314)])) _
  refine st326 _ ?_
  show Steps p.tables e below (T326.setTop (mkF m 184 #[.val (.int p1), .val (.int p2), .val (.int p3), .val (.int p4), .val (.int p5), .val (.int p6), .val (.int n), .val (.int h1), .val (.int h2), .val (.int h3), .val (.int c0), .val (.int c1), .val (.int c2), .val (.int c3), .val (.int c4), .val (.ref b302), .unset, .unset, .unset, .unset, .unset, .unset] [(.ref b314)])) _
  refine XS.dup X326.here hx rfl (hb hby at_184) rfl rfl ?_
  show Steps p.tables e below (T326.setTop (mkF m 185 #[.val (.int p1), .val (.int p2), .val (.int p3), .val (.int p4), .val (.int p5), .val (.int p6), .val (.int n), .val (.int h1), .val (.int h2), .val (.int h3), .val (.int c0), .val (.int c1), .val (.int c2), .val (.int c3), .val (.int c4), .val (.ref b302), .unset, .unset, .unset, .unset, .unset, .unset] [(.ref b314), (.ref b314)])) _
  refine XS.iconst X326.here hx rfl (hb hby at_185) ?_
  show Steps p.tables e below (T326.setTop (mkF m 186 #[.val (.int p1), .val (.int p2), .val (.int p3), .val (.int p4), .val (.int p5), .val (.int p6), .val (.int n), .val (.int h1), .val (.int h2), .val (.int h3), .val (.int c0), .val (.int c1), .val (.int c2), .val (.int c3), .val (.int c4), .val (.ref b302), .unset, .unset, .unset, .unset, .unset, .unset] [(.int (3 : Int32)), (.ref b314), (.ref b314)])) _
  refine XS.iload X326.here hx rfl (hb hby at_186) rfl ?_
  show Steps p.tables e below (T326.setTop (mkF m 188 #[.val (.int p1), .val (.int p2), .val (.int p3), .val (.int p4), .val (.int p5), .val (.int p6), .val (.int n), .val (.int h1), .val (.int h2), .val (.int h3), .val (.int c0), .val (.int c1), .val (.int c2), .val (.int c3), .val (.int c4), .val (.ref b302), .unset, .unset, .unset, .unset, .unset, .unset] [(.int c3), (.int (3 : Int32)), (.ref b314), (.ref b314)])) _
  refine st330 _ ?_
  show Steps p.tables e below (T330.setTop (mkF m 189 #[.val (.int p1), .val (.int p2), .val (.int p3), .val (.int p4), .val (.int p5), .val (.int p6), .val (.int n), .val (.int h1), .val (.int h2), .val (.int h3), .val (.int c0), .val (.int c1), .val (.int c2), .val (.int c3), .val (.int c4), .val (.ref b302), .unset, .unset, .unset, .unset, .unset, .unset] [(.ref b314)])) _
  refine XS.astore X330.here hx rfl (hb hby at_189) rfl rfl (l' := #[.val (.int p1), .val (.int p2), .val (.int p3), .val (.int p4), .val (.int p5), .val (.int p6), .val (.int n), .val (.int h1), .val (.int h2), .val (.int h3), .val (.int c0), .val (.int c1), .val (.int c2), .val (.int c3), .val (.int c4), .val (.ref b302), .val (.ref b314), .unset, .unset, .unset, .unset, .unset]) rfl ?_
  show Steps p.tables e below (T330.setTop (mkF m 191 #[.val (.int p1), .val (.int p2), .val (.int p3), .val (.int p4), .val (.int p5), .val (.int p6), .val (.int n), .val (.int h1), .val (.int h2), .val (.int h3), .val (.int c0), .val (.int c1), .val (.int c2), .val (.int c3), .val (.int c4), .val (.ref b302), .val (.ref b314), .unset, .unset, .unset, .unset, .unset] [])) _
  refine XS.iconst X330.here hx rfl (hb hby at_191) ?_
  show Steps p.tables e below (T330.setTop (mkF m 192 #[.val (.int p1), .val (.int p2), .val (.int p3), .val (.int p4), .val (.int p5), .val (.int p6), .val (.int n), .val (.int h1), .val (.int h2), .val (.int h3), .val (.int c0), .val (.int c1), .val (.int c2), .val (.int c3), .val (.int c4), .val (.ref b302), .val (.ref b314), .unset, .unset, .unset, .unset, .unset] [(.int (5 : Int32))])) _
  refine st334 _ ?_
  show Steps p.tables e below (T334.setTop (mkF m 194 #[.val (.int p1), .val (.int p2), .val (.int p3), .val (.int p4), .val (.int p5), .val (.int p6), .val (.int n), .val (.int h1), .val (.int h2), .val (.int h3), .val (.int c0), .val (.int c1), .val (.int c2), .val (.int c3), .val (.int c4), .val (.ref b302), .val (.ref b314), .unset, .unset, .unset, .unset, .unset] [(.ref b334)])) _
  refine XS.dup X334.here hx rfl (hb hby at_194) rfl rfl ?_
  show Steps p.tables e below (T334.setTop (mkF m 195 #[.val (.int p1), .val (.int p2), .val (.int p3), .val (.int p4), .val (.int p5), .val (.int p6), .val (.int n), .val (.int h1), .val (.int h2), .val (.int h3), .val (.int c0), .val (.int c1), .val (.int c2), .val (.int c3), .val (.int c4), .val (.ref b302), .val (.ref b314), .unset, .unset, .unset, .unset, .unset] [(.ref b334), (.ref b334)])) _
  refine XS.iconst X334.here hx rfl (hb hby at_195) ?_
  show Steps p.tables e below (T334.setTop (mkF m 196 #[.val (.int p1), .val (.int p2), .val (.int p3), .val (.int p4), .val (.int p5), .val (.int p6), .val (.int n), .val (.int h1), .val (.int h2), .val (.int h3), .val (.int c0), .val (.int c1), .val (.int c2), .val (.int c3), .val (.int c4), .val (.ref b302), .val (.ref b314), .unset, .unset, .unset, .unset, .unset] [(.int (0 : Int32)), (.ref b334), (.ref b334)])) _
  refine XS.iload X334.here hx rfl (hb hby at_196) rfl ?_
  show Steps p.tables e below (T334.setTop (mkF m 198 #[.val (.int p1), .val (.int p2), .val (.int p3), .val (.int p4), .val (.int p5), .val (.int p6), .val (.int n), .val (.int h1), .val (.int h2), .val (.int h3), .val (.int c0), .val (.int c1), .val (.int c2), .val (.int c3), .val (.int c4), .val (.ref b302), .val (.ref b314), .unset, .unset, .unset, .unset, .unset] [(.int c0), (.int (0 : Int32)), (.ref b334), (.ref b334)])) _
  refine st339 _ ?_
  show Steps p.tables e below (T339.setTop (mkF m 199 #[.val (.int p1), .val (.int p2), .val (.int p3), .val (.int p4), .val (.int p5), .val (.int p6), .val (.int n), .val (.int h1), .val (.int h2), .val (.int h3), .val (.int c0), .val (.int c1), .val (.int c2), .val (.int c3), .val (.int c4), .val (.ref b302), .val (.ref b314), .unset, .unset, .unset, .unset, .unset] [(.ref b334)])) _
  refine XS.dup X339.here hx rfl (hb hby at_199) rfl rfl ?_
  show Steps p.tables e below (T339.setTop (mkF m 200 #[.val (.int p1), .val (.int p2), .val (.int p3), .val (.int p4), .val (.int p5), .val (.int p6), .val (.int n), .val (.int h1), .val (.int h2), .val (.int h3), .val (.int c0), .val (.int c1), .val (.int c2), .val (.int c3), .val (.int c4), .val (.ref b302), .val (.ref b314), .unset, .unset, .unset, .unset, .unset] [(.ref b334), (.ref b334)])) _
  refine XS.iconst X339.here hx rfl (hb hby at_200) ?_
  show Steps p.tables e below (T339.setTop (mkF m 201 #[.val (.int p1), .val (.int p2), .val (.int p3), .val (.int p4), .val (.int p5), .val (.int p6), .val (.int n), .val (.int h1), .val (.int h2), .val (.int h3), .val (.int c0), .val (.int c1), .val (.int c2), .val (.int c3), .val (.int c4), .val (.ref b302), .val (.ref b314), .unset, .unset, .unset, .unset, .unset] [(.int (1 : Int32)), (.ref b334), (.ref b334)])) _
  refine XS.iload X339.here hx rfl (hb hby at_201) rfl ?_
  show Steps p.tables e below (T339.setTop (mkF m 203 #[.val (.int p1), .val (.int p2), .val (.int p3), .val (.int p4), .val (.int p5), .val (.int p6), .val (.int n), .val (.int h1), .val (.int h2), .val (.int h3), .val (.int c0), .val (.int c1), .val (.int c2), .val (.int c3), .val (.int c4), .val (.ref b302), .val (.ref b314), .unset, .unset, .unset, .unset, .unset] [(.int c1), (.int (1 : Int32)), (.ref b334), (.ref b334)])) _
  refine st344 _ ?_
  show Steps p.tables e below (T344.setTop (mkF m 204 #[.val (.int p1), .val (.int p2), .val (.int p3), .val (.int p4), .val (.int p5), .val (.int p6), .val (.int n), .val (.int h1), .val (.int h2), .val (.int h3), .val (.int c0), .val (.int c1), .val (.int c2), .val (.int c3), .val (.int c4), .val (.ref b302), .val (.ref b314), .unset, .unset, .unset, .unset, .unset] [(.ref b334)])) _
  refine XS.dup X344.here hx rfl (hb hby at_204) rfl rfl ?_
  show Steps p.tables e below (T344.setTop (mkF m 205 #[.val (.int p1), .val (.int p2), .val (.int p3), .val (.int p4), .val (.int p5), .val (.int p6), .val (.int n), .val (.int h1), .val (.int h2), .val (.int h3), .val (.int c0), .val (.int c1), .val (.int c2), .val (.int c3), .val (.int c4), .val (.ref b302), .val (.ref b314), .unset, .unset, .unset, .unset, .unset] [(.ref b334), (.ref b334)])) _
  refine XS.iconst X344.here hx rfl (hb hby at_205) ?_
  show Steps p.tables e below (T344.setTop (mkF m 206 #[.val (.int p1), .val (.int p2), .val (.int p3), .val (.int p4), .val (.int p5), .val (.int p6), .val (.int n), .val (.int h1), .val (.int h2), .val (.int h3), .val (.int c0), .val (.int c1), .val (.int c2), .val (.int c3), .val (.int c4), .val (.ref b302), .val (.ref b314), .unset, .unset, .unset, .unset, .unset] [(.int (2 : Int32)), (.ref b334), (.ref b334)])) _
  refine XS.iload X344.here hx rfl (hb hby at_206) rfl ?_
  show Steps p.tables e below (T344.setTop (mkF m 208 #[.val (.int p1), .val (.int p2), .val (.int p3), .val (.int p4), .val (.int p5), .val (.int p6), .val (.int n), .val (.int h1), .val (.int h2), .val (.int h3), .val (.int c0), .val (.int c1), .val (.int c2), .val (.int c3), .val (.int c4), .val (.ref b302), .val (.ref b314), .unset, .unset, .unset, .unset, .unset] [(.int c2), (.int (2 : Int32)), (.ref b334), (.ref b334)])) _
  refine st349 _ ?_
  show Steps p.tables e below (T349.setTop (mkF m 209 #[.val (.int p1), .val (.int p2), .val (.int p3), .val (.int p4), .val (.int p5), .val (.int p6), .val (.int n), .val (.int h1), .val (.int h2), .val (.int h3), .val (.int c0), .val (.int c1), .val (.int c2), .val (.int c3), .val (.int c4), .val (.ref b302), .val (.ref b314), .unset, .unset, .unset, .unset, .unset] [(.ref b334)])) _
  refine XS.dup X349.here hx rfl (hb hby at_209) rfl rfl ?_
  show Steps p.tables e below (T349.setTop (mkF m 210 #[.val (.int p1), .val (.int p2), .val (.int p3), .val (.int p4), .val (.int p5), .val (.int p6), .val (.int n), .val (.int h1), .val (.int h2), .val (.int h3), .val (.int c0), .val (.int c1), .val (.int c2), .val (.int c3), .val (.int c4), .val (.ref b302), .val (.ref b314), .unset, .unset, .unset, .unset, .unset] [(.ref b334), (.ref b334)])) _
  refine XS.iconst X349.here hx rfl (hb hby at_210) ?_
  show Steps p.tables e below (T349.setTop (mkF m 211 #[.val (.int p1), .val (.int p2), .val (.int p3), .val (.int p4), .val (.int p5), .val (.int p6), .val (.int n), .val (.int h1), .val (.int h2), .val (.int h3), .val (.int c0), .val (.int c1), .val (.int c2), .val (.int c3), .val (.int c4), .val (.ref b302), .val (.ref b314), .unset, .unset, .unset, .unset, .unset] [(.int (3 : Int32)), (.ref b334), (.ref b334)])) _
  refine XS.iload X349.here hx rfl (hb hby at_211) rfl ?_
  show Steps p.tables e below (T349.setTop (mkF m 213 #[.val (.int p1), .val (.int p2), .val (.int p3), .val (.int p4), .val (.int p5), .val (.int p6), .val (.int n), .val (.int h1), .val (.int h2), .val (.int h3), .val (.int c0), .val (.int c1), .val (.int c2), .val (.int c3), .val (.int c4), .val (.ref b302), .val (.ref b314), .unset, .unset, .unset, .unset, .unset] [(.int c3), (.int (3 : Int32)), (.ref b334), (.ref b334)])) _
  refine st354 _ ?_
  show Steps p.tables e below (T354.setTop (mkF m 214 #[.val (.int p1), .val (.int p2), .val (.int p3), .val (.int p4), .val (.int p5), .val (.int p6), .val (.int n), .val (.int h1), .val (.int h2), .val (.int h3), .val (.int c0), .val (.int c1), .val (.int c2), .val (.int c3), .val (.int c4), .val (.ref b302), .val (.ref b314), .unset, .unset, .unset, .unset, .unset] [(.ref b334)])) _
  refine XS.dup X354.here hx rfl (hb hby at_214) rfl rfl ?_
  show Steps p.tables e below (T354.setTop (mkF m 215 #[.val (.int p1), .val (.int p2), .val (.int p3), .val (.int p4), .val (.int p5), .val (.int p6), .val (.int n), .val (.int h1), .val (.int h2), .val (.int h3), .val (.int c0), .val (.int c1), .val (.int c2), .val (.int c3), .val (.int c4), .val (.ref b302), .val (.ref b314), .unset, .unset, .unset, .unset, .unset] [(.ref b334), (.ref b334)])) _
  refine XS.iconst X354.here hx rfl (hb hby at_215) ?_
  show Steps p.tables e below (T354.setTop (mkF m 216 #[.val (.int p1), .val (.int p2), .val (.int p3), .val (.int p4), .val (.int p5), .val (.int p6), .val (.int n), .val (.int h1), .val (.int h2), .val (.int h3), .val (.int c0), .val (.int c1), .val (.int c2), .val (.int c3), .val (.int c4), .val (.ref b302), .val (.ref b314), .unset, .unset, .unset, .unset, .unset] [(.int (4 : Int32)), (.ref b334), (.ref b334)])) _
  refine XS.iload X354.here hx rfl (hb hby at_216) rfl ?_
  show Steps p.tables e below (T354.setTop (mkF m 218 #[.val (.int p1), .val (.int p2), .val (.int p3), .val (.int p4), .val (.int p5), .val (.int p6), .val (.int n), .val (.int h1), .val (.int h2), .val (.int h3), .val (.int c0), .val (.int c1), .val (.int c2), .val (.int c3), .val (.int c4), .val (.ref b302), .val (.ref b314), .unset, .unset, .unset, .unset, .unset] [(.int c4), (.int (4 : Int32)), (.ref b334), (.ref b334)])) _
  refine st359 _ ?_
  show Steps p.tables e below (T359.setTop (mkF m 219 #[.val (.int p1), .val (.int p2), .val (.int p3), .val (.int p4), .val (.int p5), .val (.int p6), .val (.int n), .val (.int h1), .val (.int h2), .val (.int h3), .val (.int c0), .val (.int c1), .val (.int c2), .val (.int c3), .val (.int c4), .val (.ref b302), .val (.ref b314), .unset, .unset, .unset, .unset, .unset] [(.ref b334)])) _
  refine XS.astore X359.here hx rfl (hb hby at_219) rfl rfl (l' := #[.val (.int p1), .val (.int p2), .val (.int p3), .val (.int p4), .val (.int p5), .val (.int p6), .val (.int n), .val (.int h1), .val (.int h2), .val (.int h3), .val (.int c0), .val (.int c1), .val (.int c2), .val (.int c3), .val (.int c4), .val (.ref b302), .val (.ref b314), .val (.ref b334), .unset, .unset, .unset, .unset]) rfl ?_
  show Steps p.tables e below (T359.setTop (mkF m 221 #[.val (.int p1), .val (.int p2), .val (.int p3), .val (.int p4), .val (.int p5), .val (.int p6), .val (.int n), .val (.int h1), .val (.int h2), .val (.int h3), .val (.int c0), .val (.int c1), .val (.int c2), .val (.int c3), .val (.int c4), .val (.ref b302), .val (.ref b314), .val (.ref b334), .unset, .unset, .unset, .unset] [])) _
  refine XS.iload X359.here hx rfl (hb hby at_221) rfl ?_
  show Steps p.tables e below (T359.setTop (mkF m 223 #[.val (.int p1), .val (.int p2), .val (.int p3), .val (.int p4), .val (.int p5), .val (.int p6), .val (.int n), .val (.int h1), .val (.int h2), .val (.int h3), .val (.int c0), .val (.int c1), .val (.int c2), .val (.int c3), .val (.int c4), .val (.ref b302), .val (.ref b314), .val (.ref b334), .unset, .unset, .unset, .unset] [(.int n)])) _
  refine XS.iconst X359.here hx rfl (hb hby at_223) ?_
  show Steps p.tables e below (T359.setTop (mkF m 224 #[.val (.int p1), .val (.int p2), .val (.int p3), .val (.int p4), .val (.int p5), .val (.int p6), .val (.int n), .val (.int h1), .val (.int h2), .val (.int h3), .val (.int c0), .val (.int c1), .val (.int c2), .val (.int c3), .val (.int c4), .val (.ref b302), .val (.ref b314), .val (.ref b334), .unset, .unset, .unset, .unset] [(.int (3 : Int32)), (.int n)])) _
  refine XS.icmpYes X359.here hx rfl (pc0 := 224) (pc' := 252) rfl (hb hby at_224) rfl (feq (hn3 : ¬ (n = (3 : Int32)))).2 (by decide) (by decide) ?_
  show Steps p.tables e below (T359.setTop (mkF m 252 #[.val (.int p1), .val (.int p2), .val (.int p3), .val (.int p4), .val (.int p5), .val (.int p6), .val (.int n), .val (.int h1), .val (.int h2), .val (.int h3), .val (.int c0), .val (.int c1), .val (.int c2), .val (.int c3), .val (.int c4), .val (.ref b302), .val (.ref b314), .val (.ref b334), .unset, .unset, .unset, .unset] [])) _
  refine XS.iload X359.here hx rfl (hb hby at_252) rfl ?_
  show Steps p.tables e below (T359.setTop (mkF m 254 #[.val (.int p1), .val (.int p2), .val (.int p3), .val (.int p4), .val (.int p5), .val (.int p6), .val (.int n), .val (.int h1), .val (.int h2), .val (.int h3), .val (.int c0), .val (.int c1), .val (.int c2), .val (.int c3), .val (.int c4), .val (.ref b302), .val (.ref b314), .val (.ref b334), .unset, .unset, .unset, .unset] [(.int n)])) _
  refine XS.iconst X359.here hx rfl (hb hby at_254) ?_
  show Steps p.tables e below (T359.setTop (mkF m 255 #[.val (.int p1), .val (.int p2), .val (.int p3), .val (.int p4), .val (.int p5), .val (.int p6), .val (.int n), .val (.int h1), .val (.int h2), .val (.int h3), .val (.int c0), .val (.int c1), .val (.int c2), .val (.int c3), .val (.int c4), .val (.ref b302), .val (.ref b314), .val (.ref b334), .unset, .unset, .unset, .unset] [(.int (4 : Int32)), (.int n)])) _
  refine XS.icmpYes X359.here hx rfl (pc0 := 255) (pc' := 283) rfl (hb hby at_255) rfl (feq (hn4 : ¬ (n = (4 : Int32)))).2 (by decide) (by decide) ?_
  show Steps p.tables e below (T359.setTop (mkF m 283 #[.val (.int p1), .val (.int p2), .val (.int p3), .val (.int p4), .val (.int p5), .val (.int p6), .val (.int n), .val (.int h1), .val (.int h2), .val (.int h3), .val (.int c0), .val (.int c1), .val (.int c2), .val (.int c3), .val (.int c4), .val (.ref b302), .val (.ref b314), .val (.ref b334), .unset, .unset, .unset, .unset] [])) _
  refine st364 _ ?_
  show Steps p.tables e below (T364.setTop (mkF m 286 #[.val (.int p1), .val (.int p2), .val (.int p3), .val (.int p4), .val (.int p5), .val (.int p6), .val (.int n), .val (.int h1), .val (.int h2), .val (.int h3), .val (.int c0), .val (.int c1), .val (.int c2), .val (.int c3), .val (.int c4), .val (.ref b302), .val (.ref b314), .val (.ref b334), .unset, .unset, .unset, .unset] [(.ref b364)])) _
  refine XS.dup X364.here hx rfl (hb hby at_286) rfl rfl ?_
  show Steps p.tables e below (T364.setTop (mkF m 287 #[.val (.int p1), .val (.int p2), .val (.int p3), .val (.int p4), .val (.int p5), .val (.int p6), .val (.int n), .val (.int h1), .val (.int h2), .val (.int h3), .val (.int c0), .val (.int c1), .val (.int c2), .val (.int c3), .val (.int c4), .val (.ref b302), .val (.ref b314), .val (.ref b334), .unset, .unset, .unset, .unset] [(.ref b364), (.ref b364)])) _
  refine XS.aload X364.here hx rfl (hb hby at_287) rfl rfl ?_
  show Steps p.tables e below (T364.setTop (mkF m 289 #[.val (.int p1), .val (.int p2), .val (.int p3), .val (.int p4), .val (.int p5), .val (.int p6), .val (.int n), .val (.int h1), .val (.int h2), .val (.int h3), .val (.int c0), .val (.int c1), .val (.int c2), .val (.int c3), .val (.int c4), .val (.ref b302), .val (.ref b314), .val (.ref b334), .unset, .unset, .unset, .unset] [(.ref b334), (.ref b364), (.ref b364)])) _
  refine st372.trans ?_
  show Steps p.tables e below (T372.setTop (mkF m 292 #[.val (.int p1), .val (.int p2), .val (.int p3), .val (.int p4), .val (.int p5), .val (.int p6), .val (.int n), .val (.int h1), .val (.int h2), .val (.int h3), .val (.int c0), .val (.int c1), .val (.int c2), .val (.int c3), .val (.int c4), .val (.ref b302), .val (.ref b314), .val (.ref b334), .unset, .unset, .unset, .unset] [(.ref b364)])) _
  refine XS.astore X372.here hx rfl (hb hby at_292) rfl rfl (l' := #[.val (.int p1), .val (.int p2), .val (.int p3), .val (.int p4), .val (.int p5), .val (.int p6), .val (.int n), .val (.int h1), .val (.int h2), .val (.int h3), .val (.int c0), .val (.int c1), .val (.int c2), .val (.int c3), .val (.int c4), .val (.ref b302), .val (.ref b314), .val (.ref b334), .val (.ref b364), .unset, .unset, .unset]) rfl ?_
  show Steps p.tables e below (T372.setTop (mkF m 294 #[.val (.int p1), .val (.int p2), .val (.int p3), .val (.int p4), .val (.int p5), .val (.int p6), .val (.int n), .val (.int h1), .val (.int h2), .val (.int h3), .val (.int c0), .val (.int c1), .val (.int c2), .val (.int c3), .val (.int c4), .val (.ref b302), .val (.ref b314), .val (.ref b334), .val (.ref b364), .unset, .unset, .unset] [])) _
  refine st378 _ ?_
  show Steps p.tables e below (T378.setTop (mkF m 297 #[.val (.int p1), .val (.int p2), .val (.int p3), .val (.int p4), .val (.int p5), .val (.int p6), .val (.int n), .val (.int h1), .val (.int h2), .val (.int h3), .val (.int c0), .val (.int c1), .val (.int c2), .val (.int c3), .val (.int c4), .val (.ref b302), .val (.ref b314), .val (.ref b334), .val (.ref b364), .unset, .unset, .unset] [(.ref b378)])) _
  refine XS.dup X378.here hx rfl (hb hby at_297) rfl rfl ?_
  show Steps p.tables e below (T378.setTop (mkF m 298 #[.val (.int p1), .val (.int p2), .val (.int p3), .val (.int p4), .val (.int p5), .val (.int p6), .val (.int n), .val (.int h1), .val (.int h2), .val (.int h3), .val (.int c0), .val (.int c1), .val (.int c2), .val (.int c3), .val (.int c4), .val (.ref b302), .val (.ref b314), .val (.ref b334), .val (.ref b364), .unset, .unset, .unset] [(.ref b378), (.ref b378)])) _
  refine XS.aload X378.here hx rfl (hb hby at_298) rfl rfl ?_
  show Steps p.tables e below (T378.setTop (mkF m 300 #[.val (.int p1), .val (.int p2), .val (.int p3), .val (.int p4), .val (.int p5), .val (.int p6), .val (.int n), .val (.int h1), .val (.int h2), .val (.int h3), .val (.int c0), .val (.int c1), .val (.int c2), .val (.int c3), .val (.int c4), .val (.ref b302), .val (.ref b314), .val (.ref b334), .val (.ref b364), .unset, .unset, .unset] [(.ref b334), (.ref b378), (.ref b378)])) _
  refine st390.trans ?_
  show Steps p.tables e below (T390.setTop (mkF m 303 #[.val (.int p1), .val (.int p2), .val (.int p3), .val (.int p4), .val (.int p5), .val (.int p6), .val (.int n), .val (.int h1), .val (.int h2), .val (.int h3), .val (.int c0), .val (.int c1), .val (.int c2), .val (.int c3), .val (.int c4), .val (.ref b302), .val (.ref b314), .val (.ref b334), .val (.ref b364), .unset, .unset, .unset] [(.ref b378)])) _
  refine XS.astore X390.here hx rfl (hb hby at_303) rfl rfl (l' := #[.val (.int p1), .val (.int p2), .val (.int p3), .val (.int p4), .val (.int p5), .val (.int p6), .val (.int n), .val (.int h1), .val (.int h2), .val (.int h3), .val (.int c0), .val (.int c1), .val (.int c2), .val (.int c3), .val (.int c4), .val (.ref b302), .val (.ref b314), .val (.ref b334), .val (.ref b364), .val (.ref b378), .unset, .unset]) rfl ?_
  show Steps p.tables e below (T390.setTop (mkF m 305 #[.val (.int p1), .val (.int p2), .val (.int p3), .val (.int p4), .val (.int p5), .val (.int p6), .val (.int n), .val (.int h1), .val (.int h2), .val (.int h3), .val (.int c0), .val (.int c1), .val (.int c2), .val (.int c3), .val (.int c4), .val (.ref b302), .val (.ref b314), .val (.ref b334), .val (.ref b364), .val (.ref b378), .unset, .unset] [])) _
  refine XS.aload X390.here hx rfl (hb hby at_305) rfl rfl ?_
  show Steps p.tables e below (T390.setTop (mkF m 307 #[.val (.int p1), .val (.int p2), .val (.int p3), .val (.int p4), .val (.int p5), .val (.int p6), .val (.int n), .val (.int h1), .val (.int h2), .val (.int h3), .val (.int c0), .val (.int c1), .val (.int c2), .val (.int c3), .val (.int c4), .val (.ref b302), .val (.ref b314), .val (.ref b334), .val (.ref b364), .val (.ref b378), .unset, .unset] [(.ref b364)])) _
  refine st400.trans ?_
  show Steps p.tables e below (T400.setTop (mkF m 310 #[.val (.int p1), .val (.int p2), .val (.int p3), .val (.int p4), .val (.int p5), .val (.int p6), .val (.int n), .val (.int h1), .val (.int h2), .val (.int h3), .val (.int c0), .val (.int c1), .val (.int c2), .val (.int c3), .val (.int c4), .val (.ref b302), .val (.ref b314), .val (.ref b334), .val (.ref b364), .val (.ref b378), .unset, .unset] [(.ref b400)])) _
  refine XS.astore X400r.here hx rfl (hb hby at_310) rfl rfl (l' := #[.val (.int p1), .val (.int p2), .val (.int p3), .val (.int p4), .val (.int p5), .val (.int p6), .val (.int n), .val (.int h1), .val (.int h2), .val (.int h3), .val (.int c0), .val (.int c1), .val (.int c2), .val (.int c3), .val (.int c4), .val (.ref b302), .val (.ref b314), .val (.ref b334), .val (.ref b364), .val (.ref b378), .val (.ref b400), .unset]) rfl ?_
  show Steps p.tables e below (T400.setTop (mkF m 312 #[.val (.int p1), .val (.int p2), .val (.int p3), .val (.int p4), .val (.int p5), .val (.int p6), .val (.int n), .val (.int h1), .val (.int h2), .val (.int h3), .val (.int c0), .val (.int c1), .val (.int c2), .val (.int c3), .val (.int c4), .val (.ref b302), .val (.ref b314), .val (.ref b334), .val (.ref b364), .val (.ref b378), .val (.ref b400), .unset] [])) _
  refine XS.aload X400r.here hx rfl (hb hby at_312) rfl rfl ?_
  show Steps p.tables e below (T400.setTop (mkF m 314 #[.val (.int p1), .val (.int p2), .val (.int p3), .val (.int p4), .val (.int p5), .val (.int p6), .val (.int n), .val (.int h1), .val (.int h2), .val (.int h3), .val (.int c0), .val (.int c1), .val (.int c2), .val (.int c3), .val (.int c4), .val (.ref b302), .val (.ref b314), .val (.ref b334), .val (.ref b364), .val (.ref b378), .val (.ref b400), .unset] [(.ref b378)])) _
  refine st413.trans ?_
  show Steps p.tables e below (T413.setTop (mkF m 317 #[.val (.int p1), .val (.int p2), .val (.int p3), .val (.int p4), .val (.int p5), .val (.int p6), .val (.int n), .val (.int h1), .val (.int h2), .val (.int h3), .val (.int c0), .val (.int c1), .val (.int c2), .val (.int c3), .val (.int c4), .val (.ref b302), .val (.ref b314), .val (.ref b334), .val (.ref b364), .val (.ref b378), .val (.ref b400), .unset] [(.ref b413)])) _
  refine XS.astore X413r.here hx rfl (hb hby at_317) rfl rfl (l' := #[.val (.int p1), .val (.int p2), .val (.int p3), .val (.int p4), .val (.int p5), .val (.int p6), .val (.int n), .val (.int h1), .val (.int h2), .val (.int h3), .val (.int c0), .val (.int c1), .val (.int c2), .val (.int c3), .val (.int c4), .val (.ref b302), .val (.ref b314), .val (.ref b334), .val (.ref b364), .val (.ref b378), .val (.ref b400), .val (.ref b413)]) rfl ?_
  show Steps p.tables e below (T413.setTop (mkF m 319 #[.val (.int p1), .val (.int p2), .val (.int p3), .val (.int p4), .val (.int p5), .val (.int p6), .val (.int n), .val (.int h1), .val (.int h2), .val (.int h3), .val (.int c0), .val (.int c1), .val (.int c2), .val (.int c3), .val (.int c4), .val (.ref b302), .val (.ref b314), .val (.ref b334), .val (.ref b364), .val (.ref b378), .val (.ref b400), .val (.ref b413)] [])) _
  refine XS.aload X413r.here hx rfl (hb hby at_319) rfl rfl ?_
  show Steps p.tables e below (T413.setTop (mkF m 321 #[.val (.int p1), .val (.int p2), .val (.int p3), .val (.int p4), .val (.int p5), .val (.int p6), .val (.int n), .val (.int h1), .val (.int h2), .val (.int h3), .val (.int c0), .val (.int c1), .val (.int c2), .val (.int c3), .val (.int c4), .val (.ref b302), .val (.ref b314), .val (.ref b334), .val (.ref b364), .val (.ref b378), .val (.ref b400), .val (.ref b413)] [(.ref b400)])) _
  refine XS.ifnullNo X413r.here hx rfl (hb hby at_321) rfl ?_
  show Steps p.tables e below (T413.setTop (mkF m 324 #[.val (.int p1), .val (.int p2), .val (.int p3), .val (.int p4), .val (.int p5), .val (.int p6), .val (.int n), .val (.int h1), .val (.int h2), .val (.int h3), .val (.int c0), .val (.int c1), .val (.int c2), .val (.int c3), .val (.int c4), .val (.ref b302), .val (.ref b314), .val (.ref b334), .val (.ref b364), .val (.ref b378), .val (.ref b400), .val (.ref b413)] [])) _
  refine XS.aload X413r.here hx rfl (hb hby at_324) rfl rfl ?_
  show Steps p.tables e below (T413.setTop (mkF m 326 #[.val (.int p1), .val (.int p2), .val (.int p3), .val (.int p4), .val (.int p5), .val (.int p6), .val (.int n), .val (.int h1), .val (.int h2), .val (.int h3), .val (.int c0), .val (.int c1), .val (.int c2), .val (.int c3), .val (.int c4), .val (.ref b302), .val (.ref b314), .val (.ref b334), .val (.ref b364), .val (.ref b378), .val (.ref b400), .val (.ref b413)] [(.ref b400)])) _
  refine st428.trans ?_
  show Steps p.tables e below (T428.setTop (mkF m 329 #[.val (.int p1), .val (.int p2), .val (.int p3), .val (.int p4), .val (.int p5), .val (.int p6), .val (.int n), .val (.int h1), .val (.int h2), .val (.int h3), .val (.int c0), .val (.int c1), .val (.int c2), .val (.int c3), .val (.int c4), .val (.ref b302), .val (.ref b314), .val (.ref b334), .val (.ref b364), .val (.ref b378), .val (.ref b400), .val (.ref b413)] [(.ref b364)])) _
  refine XS.aload X428.here hx rfl (hb hby at_329) rfl rfl ?_
  show Steps p.tables e below (T428.setTop (mkF m 331 #[.val (.int p1), .val (.int p2), .val (.int p3), .val (.int p4), .val (.int p5), .val (.int p6), .val (.int n), .val (.int h1), .val (.int h2), .val (.int h3), .val (.int c0), .val (.int c1), .val (.int c2), .val (.int c3), .val (.int c4), .val (.ref b302), .val (.ref b314), .val (.ref b334), .val (.ref b364), .val (.ref b378), .val (.ref b400), .val (.ref b413)] [(.ref b364), (.ref b364)])) _
  refine st429.trans ?_
  show Steps p.tables e below (T429.setTop (mkF m 334 #[.val (.int p1), .val (.int p2), .val (.int p3), .val (.int p4), .val (.int p5), .val (.int p6), .val (.int n), .val (.int h1), .val (.int h2), .val (.int h3), .val (.int c0), .val (.int c1), .val (.int c2), .val (.int c3), .val (.int c4), .val (.ref b302), .val (.ref b314), .val (.ref b334), .val (.ref b364), .val (.ref b378), .val (.ref b400), .val (.ref b413)] [(.int (1 : Int32))])) _
  refine XS.ifNo X429.here hx rfl (hb hby at_334) rfl ((if0 _ _).trans (feq (by decide : ¬ ((1 : Int32) = (0 : Int32)))).1) ?_
  show Steps p.tables e below (T429.setTop (mkF m 337 #[.val (.int p1), .val (.int p2), .val (.int p3), .val (.int p4), .val (.int p5), .val (.int p6), .val (.int n), .val (.int h1), .val (.int h2), .val (.int h3), .val (.int c0), .val (.int c1), .val (.int c2), .val (.int c3), .val (.int c4), .val (.ref b302), .val (.ref b314), .val (.ref b334), .val (.ref b364), .val (.ref b378), .val (.ref b400), .val (.ref b413)] [])) _
  refine XS.aload X429.here hx rfl (hb hby at_337) rfl rfl ?_
  show Steps p.tables e below (T429.setTop (mkF m 339 #[.val (.int p1), .val (.int p2), .val (.int p3), .val (.int p4), .val (.int p5), .val (.int p6), .val (.int n), .val (.int h1), .val (.int h2), .val (.int h3), .val (.int c0), .val (.int c1), .val (.int c2), .val (.int c3), .val (.int c4), .val (.ref b302), .val (.ref b314), .val (.ref b334), .val (.ref b364), .val (.ref b378), .val (.ref b400), .val (.ref b413)] [(.ref b400)])) _
  refine XS.aload X429.here hx rfl (hb hby at_339) rfl rfl ?_
  show Steps p.tables e below (T429.setTop (mkF m 341 #[.val (.int p1), .val (.int p2), .val (.int p3), .val (.int p4), .val (.int p5), .val (.int p6), .val (.int n), .val (.int h1), .val (.int h2), .val (.int h3), .val (.int c0), .val (.int c1), .val (.int c2), .val (.int c3), .val (.int c4), .val (.ref b302), .val (.ref b314), .val (.ref b334), .val (.ref b364), .val (.ref b378), .val (.ref b400), .val (.ref b413)] [(.ref b413), (.ref b400)])) _
  refine st430.trans ?_
  show Steps p.tables e below (T430.setTop (mkF m 344 #[.val (.int p1), .val (.int p2), .val (.int p3), .val (.int p4), .val (.int p5), .val (.int p6), .val (.int n), .val (.int h1), .val (.int h2), .val (.int h3), .val (.int c0), .val (.int c1), .val (.int c2), .val (.int c3), .val (.int c4), .val (.ref b302), .val (.ref b314), .val (.ref b334), .val (.ref b364), .val (.ref b378), .val (.ref b400), .val (.ref b413)] [(.int (1 : Int32))])) _
  refine XS.ifNo X430.here hx rfl (hb hby at_344) rfl ((if0 _ _).trans (feq (by decide : ¬ ((1 : Int32) = (0 : Int32)))).1) ?_
  show Steps p.tables e below (T430.setTop (mkF m 347 #[.val (.int p1), .val (.int p2), .val (.int p3), .val (.int p4), .val (.int p5), .val (.int p6), .val (.int n), .val (.int h1), .val (.int h2), .val (.int h3), .val (.int c0), .val (.int c1), .val (.int c2), .val (.int c3), .val (.int c4), .val (.ref b302), .val (.ref b314), .val (.ref b334), .val (.ref b364), .val (.ref b378), .val (.ref b400), .val (.ref b413)] [])) _
  refine XS.iconst X430.here hx rfl (hb hby at_347) ?_
  show Steps p.tables e below (T430.setTop (mkF m 348 #[.val (.int p1), .val (.int p2), .val (.int p3), .val (.int p4), .val (.int p5), .val (.int p6), .val (.int n), .val (.int h1), .val (.int h2), .val (.int h3), .val (.int c0), .val (.int c1), .val (.int c2), .val (.int c3), .val (.int c4), .val (.ref b302), .val (.ref b314), .val (.ref b334), .val (.ref b364), .val (.ref b378), .val (.ref b400), .val (.ref b413)] [(.int (1 : Int32))])) _
  refine XS.goto X430.here hx rfl (pc0 := 348) (pc' := 352) rfl (hb hby at_348) (by decide) (by decide) ?_
  show Steps p.tables e below (T430.setTop (mkF m 352 #[.val (.int p1), .val (.int p2), .val (.int p3), .val (.int p4), .val (.int p5), .val (.int p6), .val (.int n), .val (.int h1), .val (.int h2), .val (.int h3), .val (.int c0), .val (.int c1), .val (.int c2), .val (.int c3), .val (.int c4), .val (.ref b302), .val (.ref b314), .val (.ref b334), .val (.ref b364), .val (.ref b378), .val (.ref b400), .val (.ref b413)] [(.int (1 : Int32))])) _
  exact retN X430 hx (t := .boolean) hret (by simp) (hb hby at_352) hr
theorem ef_law (m : MethodId) (x0 x1 x2 x3 x4 x5 : Int32) : entryFrame m #[(.int x0), (.int x1), (.int x2), (.int x3), (.int x4), (.int x5)] maxLocals = mkF m 0 #[.val (.int x0), .val (.int x1), .val (.int x2), .val (.int x3), .val (.int x4), .val (.int x5), .unset, .unset, .unset, .unset, .unset, .unset, .unset, .unset, .unset, .unset, .unset, .unset, .unset, .unset, .unset, .unset] [] := by first | (simp [entryFrame, mkF, argsToLocals, Value.category, maxLocals]; done) | rfl
set_option maxRecDepth 65536 in
set_option maxHeartbeats 40000000 in
theorem rmLaw (l : Launch) (Z : State) (a0 : Array Value) (hw : ∀ d ∈ tables_1, d.before a0 Z = true) (ws : List Jvm.Cond) (p1 p2 p3 p4 p5 p6 GC : Int32) (fm : Value) (h0 : Heap) (n0 : Nat) (O0 : Old Z n0 h0) (wS : ∀ a ∈ Bundle.stringAtoms, a.before a0 Z = true) (OC2 : Sta Z Z.heap "java/lang/String" "COMPACT_STRINGS" "Z" (.int GC)) (OCz : ¬ (GC = (0 : Int32))) (OF4 : Sta Z Z.heap "jdk/internal/util/Preconditions" "SIOOBE_FORMATTER" "Ljava/util/function/BiFunction;" fm) (OFr : fm.isRef = true) :
    MetFree l x (head1 (Jvm.Cond.code x code maxLocals ret :: ws) room_1) (fun a U => a = #[(.int p1), (.int p2), (.int p3), (.int p4), (.int p5), (.int p6)] ∧ Z.Warmed39 U.vm ∧ U.heap = h0) (fun _ _ _ _ _ => True) (fun _ U o U' => ∃ v L, o = .returned v ∧ Qlaw Z h0 n0 v U'.heap L ∧ ReturnedEndW U o U' L room_1.cells room_1.slots) := by
  refine MetFree.of_bodySF (plainFor_of_name pn_com_example_nimble_queue_nimblequeue_core_QueueNameOfPinLaw) hisR ?_
  intro p e s m args below meth c s₁ Bd hml0 hP hK
  obtain ⟨rfl, hZ, hh⟩ := hP
  have hx := Bd.exec
  have hby := Bd.bytes
  have hml : c.maxLocals = 22 := hml0
  have hown : s.vm.findClass "com/example/nimble_queue/nimblequeue/core/QueueNameOfPinLaw" = some m.cls := findClass_of_methodNamed Bd.named
  have X0 : Stand p l e room_1 (s.setVm s.vm) m _ below meth c s₁ [] 0 0 := Stand.of_body Bd
  have e0 : s₁.heap = h0 := by rw [← hh, Bd.state]; rfl
  have N0 := Fr.nil n0
  have hlk : meth.locks = false := Bd.notSynchronized
  obtain ⟨n, h1, TsgA, lsgA, ⟨hn, hh1⟩, XsgA, NsgA, esgA, stsgA⟩ := sgA (s := s.setVm s.vm) p1 p2 p3 p4 p5 p6 X0 hx hZ hw hby hml hown e0 N0 O0
  obtain ⟨h2, TsgB, lsgB, hh2, XsgB, NsgB, esgB, stsgB⟩ := sgB (s := s.setVm s.vm) p1 p2 p3 p4 p5 p6 n h1 XsgA hx hZ hw hby hml hown esgA NsgA O0 hh1
  obtain ⟨h3, TsgC, lsgC, hh3, XsgC, NsgC, esgC, stsgC⟩ := sgC (s := s.setVm s.vm) p1 p2 p3 p4 p5 p6 n h1 h2 XsgB hx hZ hw hby hml hown esgB NsgB O0
  obtain ⟨c0, TsgD, lsgD, a0c, XsgD, NsgD, esgD, stsgD⟩ := sgD (s := s.setVm s.vm) p1 p2 p3 p4 p5 p6 n h1 h2 h3 XsgC hx hZ hw hby hml hown esgC NsgC O0
  obtain ⟨c1, TsgE, lsgE, a1c, XsgE, NsgE, esgE, stsgE⟩ := sgE (s := s.setVm s.vm) p1 p2 p3 p4 p5 p6 n h1 h2 h3 c0 XsgD hx hZ hw hby hml hown esgD NsgD O0
  obtain ⟨c2, TsgF, lsgF, a2c, XsgF, NsgF, esgF, stsgF⟩ := sgF (s := s.setVm s.vm) p1 p2 p3 p4 p5 p6 n h1 h2 h3 c0 c1 XsgE hx hZ hw hby hml hown esgE NsgE O0
  obtain ⟨c3, TsgG, lsgG, a3c, XsgG, NsgG, esgG, stsgG⟩ := sgG (s := s.setVm s.vm) p1 p2 p3 p4 p5 p6 n h1 h2 h3 c0 c1 c2 XsgF hx hZ hw hby hml hown esgF NsgF O0
  obtain ⟨c4, TsgH, lsgH, a4c, XsgH, NsgH, esgH, stsgH⟩ := sgH (s := s.setVm s.vm) p1 p2 p3 p4 p5 p6 n h1 h2 h3 c0 c1 c2 c3 XsgG hx hZ hw hby hml hown esgG NsgG O0
  have b1 : own_ch c1 := a1c.elim (fun q => Or.inl q.2) (fun q => Or.inr q.2)
  have b2 : own_ch c2 := a2c.elim (fun q => Or.inl q.2) (fun q => Or.inr q.2)
  have b3 : own_ch c3 := a3c.elim (fun q => Or.inl q.2) (fun q => Or.inr q.2)
  have d2 : own_al c2 ∨ (c2 = 45 ∧ ¬ c1 = 45) := by
    rcases a2c with q | q
    · exact Or.inl q.2
    · rcases hh2 with z | ⟨-, z, -⟩
      · exact absurd z q.1
      · rcases a1c with y | y
        · exact Or.inr ⟨q.2, own_al_45 y.2⟩
        · exact absurd z y.1
  have d3 : own_al c3 ∨ (c3 = 45 ∧ ¬ c2 = 45) := by
    rcases a3c with q | q
    · exact Or.inl q.2
    · rcases hh3 with z | ⟨-, z, -⟩
      · exact absurd z q.1
      · rcases a2c with y | y
        · exact Or.inr ⟨q.2, own_al_45 y.2⟩
        · exact absurd z y.1
  have fin : ∃ (U' : State) (L : List Loc), Steps p.tables e below (TsgH.setTop (mkF m 146 #[.val (.int p1), .val (.int p2), .val (.int p3), .val (.int p4), .val (.int p5), .val (.int p6), .val (.int n), .val (.int h1), .val (.int h2), .val (.int h3), .val (.int c0), .val (.int c1), .val (.int c2), .val (.int c3), .val (.int c4), .unset, .unset, .unset, .unset, .unset, .unset, .unset] [])) U' ∧ U'.status = .running ∧ Ended U' below (.returned (some (.int 1))) ∧ Fr n0 L ∧ ReturnedEndW s (.returned (some (.int 1))) U' L room_1.cells room_1.slots := by
    by_cases q3 : n = (3 : Int32)
    · refine rest3 p1 p2 p3 p4 p5 p6 n h1 h2 h3 c0 c1 c2 c3 c4 GC fm XsgH hx hZ hw hby hml hown Bd.returns hlk esgH NsgH O0 wS OC2 OCz OF4 OFr (own_al_nar a0c) (own_al_255 a0c) (own_ch_nar b1) (own_ch_255 b1) (own_ch_nar b2) (own_ch_255 b2) (own_ch_nar b3) (own_ch_255 b3) (own_al_nar a4c) (own_al_255 a4c) (own_ok3 a0c b1 ?_) q3
      rcases hh2 with z | ⟨-, -, z⟩
      · rcases a2c with y | y
        · exact y.2
        · exact absurd z y.1
      · exact absurd (by rw [q3]; decide) z
    by_cases q4 : n = (4 : Int32)
    · refine rest4 p1 p2 p3 p4 p5 p6 n h1 h2 h3 c0 c1 c2 c3 c4 GC fm XsgH hx hZ hw hby hml hown Bd.returns hlk esgH NsgH O0 wS OC2 OCz OF4 OFr (own_al_nar a0c) (own_al_255 a0c) (own_ch_nar b1) (own_ch_255 b1) (own_ch_nar b2) (own_ch_255 b2) (own_ch_nar b3) (own_ch_255 b3) (own_al_nar a4c) (own_al_255 a4c) (own_ok4 a0c b1 d2 ?_) q3 q4
      rcases hh3 with z | ⟨-, -, z⟩
      · rcases a3c with y | y
        · exact y.2
        · exact absurd z y.1
      · exact absurd (by rw [q4]; decide) z
    exact rest5 p1 p2 p3 p4 p5 p6 n h1 h2 h3 c0 c1 c2 c3 c4 GC fm XsgH hx hZ hw hby hml hown Bd.returns hlk esgH NsgH O0 wS OC2 OCz OF4 OFr (own_al_nar a0c) (own_al_255 a0c) (own_ch_nar b1) (own_ch_255 b1) (own_ch_nar b2) (own_ch_255 b2) (own_ch_nar b3) (own_ch_255 b3) (own_al_nar a4c) (own_al_255 a4c) (own_ok5 a0c b1 d2 d3 a4c) q3 q4
  obtain ⟨U', L, hst, hrun, hended, NL, hEnd⟩ := fin
  refine ⟨_, _, ?_, hrun, hended, _, L, rfl, ⟨rfl, NL⟩, hEnd⟩
  refine castTop (ef_law m p1 p2 p3 p4 p5 p6) ?_
  refine stsgA _ ?_
  refine stsgB _ ?_
  refine stsgC _ ?_
  refine stsgD _ ?_
  refine stsgE _ ?_
  refine stsgF _ ?_
  refine stsgG _ ?_
  refine stsgH _ ?_
  exact hst
set_option maxRecDepth 65536 in
set_option maxHeartbeats 40000000 in
theorem comes_1 {Post : Tables → Env → Array Value → State → Outcome → State → Prop} (hpost : ∀ tb e args s v u, (limb_1_1.after args s (.returned v) u = true ∧ limb_1_2.after args s (.returned v) u = true ∧ True) → ReturnedEndW s (.returned v) u (Jvm.fieldLocs frame_1_writes args s ++ Jvm.arrayLocs frame_1_arrays args s ++ Jvm.staticLocs frame_1_statics s) 32 1216 → Post tb e args s (.returned v) u) :
    ArmFor flags0 classFile x code maxLocals ret World_1 tables_1 room_1 Calls_1 rest_1 Pre_1 Post := by
  intro l hfl _ _ p e ha hc hk s m args below hf hA hF happ hP
  obtain ⟨hcalls, hrest, hpre⟩ := hP
  obtain ⟨-, -, -, hnamed, -, -, -, hat⟩ := (Spec.applies_iff hf).mp happ
  obtain ⟨hg, hn⟩ := and_e (Cond.before_iff.mp (show (Jvm.Cond.and given_1 narrow_1).before args s = true from hpre))
  obtain ⟨h1, h2⟩ := and_e hg
  obtain ⟨w0, w1, w2, w3, w4, w5, rfl⟩ : ∃ w0 w1 w2 w3 w4 w5 : Value, args = #[w0, w1, w2, w3, w4, w5] := by
    have hs : args.size = 6 := by simpa [Cond.value, given_1] using h1
    obtain ⟨L⟩ := args
    match L, hs with
    | [w0, w1, w2, w3, w4, w5], _ => exact ⟨w0, w1, w2, w3, w4, w5, rfl⟩
  have hw := fun d (hd : d ∈ tables_1) => atoms_spec (ws := Jvm.Cond.code x code maxLocals ret :: tables_1) hat d (List.mem_cons_of_mem _ hd)
  obtain ⟨hsets, hown0⟩ := atoms_of _ (rest_1_c_eq ▸ (show rest_1_c.before _ s = true from hrest))
  have hfit : Fit s := fun {y c} hc i hi => by
    obtain ⟨ha, rfl⟩ := Array.getElem?_eq_some_iff.mp hc
    have q := List.all_eq_true.mp ((Array.all_eq_true_iff_forall_mem.mp hF) _ (Array.getElem_mem ha)) i (List.mem_range.mpr hi)
    simpa [Array.getElem?_eq_getElem hi] using q
  obtain ⟨hA0, hB0⟩ := and_e h2
  obtain ⟨i0, e0⟩ := is_v hA0
  obtain rfl : w0 = (.int i0) := Option.some.inj e0
  obtain ⟨hA1, hB1⟩ := and_e hB0
  obtain ⟨i1, e1⟩ := is_v hA1
  obtain rfl : w1 = (.int i1) := Option.some.inj e1
  obtain ⟨hA2, hB2⟩ := and_e hB1
  obtain ⟨i2, e2⟩ := is_v hA2
  obtain rfl : w2 = (.int i2) := Option.some.inj e2
  obtain ⟨hA3, hB3⟩ := and_e hB2
  obtain ⟨i3, e3⟩ := is_v hA3
  obtain rfl : w3 = (.int i3) := Option.some.inj e3
  obtain ⟨hA4, hB4⟩ := and_e hB3
  obtain ⟨i4, e4⟩ := is_v hA4
  obtain rfl : w4 = (.int i4) := Option.some.inj e4
  obtain ⟨i5, e5⟩ := is_v hB4
  obtain rfl : w5 = (.int i5) := Option.some.inj e5
  obtain ⟨GC, eGC⟩ := is_v (Cond.before_iff.mp (hsets _ (List.mem_of_getElem? (i := 1) rfl)))
  have OC2 : Sta s s.heap "java/lang/String" "COMPACT_STRINGS" "Z" (.int GC) := Sta.start eGC (Or.inl (hsets _ (List.mem_of_getElem? (i := 0) rfl)))
  have OCz : ¬ (GC = (0 : Int32)) := gotF (Cond.eq_ints eGC (Term.int_eval (0))) (not_v (Cond.before_iff.mp (hsets _ (List.mem_of_getElem? (i := 2) rfl))))
  obtain ⟨fm, eF, rF⟩ := isR_v (Cond.before_iff.mp (hsets _ (List.mem_of_getElem? (i := 8) rfl)))
  have OF4 : Sta s s.heap "jdk/internal/util/Preconditions" "SIOOBE_FORMATTER" "Ljava/util/function/BiFunction;" fm := Sta.start eF (Or.inl (hsets _ (List.mem_of_getElem? (i := 7) rfl)))
  have wS : ∀ a ∈ Bundle.stringAtoms, a.before _ s = true := fun d hd => hw d ((by decide +kernel : ∀ d ∈ Bundle.stringAtoms, d ∈ tables_1) d hd)
  obtain ⟨n, o, h1, h2, h3, _, L, rfl, ⟨rfl, N⟩, hq⟩ := rmLaw l s _ hw tables_1 i0 i1 i2 i3 i4 i5 GC fm s.heap s.heap.size (Old.start s) wS OC2 OCz OF4 rF p e ha hc hk s m _ below hf ((Spec.applies_iff_loose hf).mp happ).1 ⟨rfl, State.Warmed39.refl s, rfl⟩ trivial
  refine ⟨n, _, h1, h2, h3, hpost _ _ _ _ _ _ ⟨Cond.after_iff.mpr rfl, Cond.after_iff.mpr (eq_i res_at (Term.int_eval (1)) rfl), trivial⟩ ⟨hq.1, hq.2.1, hq.2.2.1, (hq.2.2.2.sift fun y hy => Or.inr (N y hy)).mono (by decide) (by decide)⟩⟩
theorem main_1_1 : Claimed_1_1 := comes_1 fun _ _ _ _ _ _ h hF => ⟨h.1, hF⟩
theorem main_1_2 : Claimed_1_2 := comes_1 fun _ _ _ _ _ _ h hF => ⟨h.2.1, hF⟩
end Jvm.Pilot.@@N@@
namespace Jvm.Pilot.@@N@@
open Jvm Jvm.ClassFile Sem Op Lib Jvm.Free Jvm.Stand Jvm.Pilot.@@N@@.Jvm.D
/-! MADE BY PROGRAM (witnessworld.py) out of the Statement's table words and the real class files: 21 classes; the members and pool entries that the words name. The judged class is class 1, her method 2. -/
namespace start1
open Jvm.ClassFile
def u (s : String) : CpInfo := .utf8 (stringToUtf16 s)
/-- a pool by its gaps: so many unusable entries, then the entry; so many at the end -/
def gap : Nat → List CpInfo → List CpInfo
  | 0, r => r
  | n + 1, r => .unusable :: gap n r
def poolList (es : List (Nat × CpInfo)) (last : Nat) : List CpInfo := es.foldr (fun e r => gap e.1 (e.2 :: r)) (gap last [])
def pool (es : List (Nat × CpInfo)) (last : Nat) : Array CpInfo := ⟨poolList es last⟩
def fileOf (pool : Array CpInfo) (this : Nat) (attrs : Array Attribute := #[]) (ms : Array MethodInfo := #[]) (fl : Nat := 33) (sup : Nat := 0) (ifs : Array Nat := #[]) (fds : Array FieldInfo := #[]) : ClassFile where
  minorVersion := 0
  majorVersion := 65
  constantPool := pool
  accessFlags := fl
  thisClass := this
  superClass := sup
  interfaces := ifs
  fields := fds
  methods := ms
  attributes := attrs
def plain (name : String) (sup : Option ClassId) : Class where
  name := name
  kind := .ordinary
  loader := none
  accessFlags := 33
  super := sup
  interfaces := #[]
  cf := none
  fields := #[]
  methods := #[]
  instanceTypes := #[]
  staticTypes := #[]
  resolved := #[]
  callSites := []
  init := .initialized
  statics := none
  mirror := none

def pool0 : Array CpInfo := pool [(5, u "<init>"), (0, u "()V"), (1, .class_ 10), (1, u "java/lang/Object")] 113

def k0c0 : Code := { maxStack := 0, maxLocals := 1, code := object_method_1_code, exceptionTable := #[], attributes := #[] }
def k0m0 : Method := { name := "<init>", desc := "()V", sig := { parameters := [], returnType := none }, accessFlags := 1, code := some k0c0 }
/-- java/lang/Object -/
def k0 : Class := { plain "java/lang/Object" none with
  accessFlags := 33
  interfaces := #[]
  cf := some (fileOf pool0 8 #[] #[{ accessFlags := 1, nameIndex := 5, descriptorIndex := 6, attributes := #[] }] 33 0 #[] #[])
  fields := #[]
  methods := #[k0m0]
  instanceTypes := #[]
  staticTypes := #[]
  resolved := Array.replicate 124 none
  statics := none }

def pool1 : Array CpInfo := pool [(2, .class_ 4), (1, u "java/lang/Object"), (0, u "<init>"), (0, u "()V"), (0, .integer 2147483647), (0, .methodref 9 10), (0, .class_ 11), (0, .nameAndType 12 13), (0, u "com/example/nimble_queue/nimblequeue/core/QueueNameOfPinLaw"), (0, u "alnum"), (0, u "(I)C"), (0, .class_ 15), (0, u "java/lang/String"), (0, .methodref 14 17), (0, .nameAndType 5 18), (0, u "([C)V"), (0, .methodref 20 21), (0, .class_ 22), (0, .nameAndType 23 24), (0, u "com/example/nimble_queue/nimblequeue/core/QueueName"), (0, u "of"), (0, u "(Ljava/lang/String;)Lcom/example/nimble_queue/nimblequeue/core/QueueName;"), (0, .methodref 20 26), (0, .nameAndType 27 28), (0, u "toString"), (0, u "()Ljava/lang/String;"), (0, .methodref 14 30), (0, .nameAndType 31 32), (0, u "equals"), (0, u "(Ljava/lang/Object;)Z"), (0, .methodref 20 30), (3, u "law"), (0, u "(IIIIII)Z")] 4

def k1m0 : Method := { name := "<init>", desc := "()V", sig := { parameters := [], returnType := none }, accessFlags := 1, code := none }
def k1c1 : Code := { maxStack := 3, maxLocals := 2, code := method_2_code, exceptionTable := #[], attributes := #[] }
def k1m1 : Method := { name := "alnum", desc := "(I)C", sig := { parameters := [.int], returnType := some .char }, accessFlags := 10, code := some k1c1 }
def k1c2 : Code := { maxStack := 4, maxLocals := 22, code := code, exceptionTable := #[], attributes := #[] }
def k1m2 : Method := { name := "law", desc := "(IIIIII)Z", sig := { parameters := [.int, .int, .int, .int, .int, .int], returnType := some .boolean }, accessFlags := 9, code := some k1c2 }
/-- com/example/nimble_queue/nimblequeue/core/QueueNameOfPinLaw -/
def k1 : Class := { plain "com/example/nimble_queue/nimblequeue/core/QueueNameOfPinLaw" (some 0) with
  accessFlags := 49
  interfaces := #[]
  cf := some (fileOf pool1 9 #[] #[{ accessFlags := 1, nameIndex := 5, descriptorIndex := 6, attributes := #[] }, { accessFlags := 10, nameIndex := 12, descriptorIndex := 13, attributes := #[] }, { accessFlags := 9, nameIndex := 37, descriptorIndex := 38, attributes := #[] }] 49 2 #[] #[])
  fields := #[]
  methods := #[k1m0, k1m1, k1m2]
  instanceTypes := #[]
  staticTypes := #[]
  resolved := Array.replicate 43 none
  statics := none }

def pool2 : Array CpInfo := pool [(1, .class_ 2), (0, u "java/io/Serializable"), (0, .class_ 4), (0, u "java/lang/Object")] 2

/-- java/io/Serializable -/
def k2 : Class := { plain "java/io/Serializable" (some 0) with
  accessFlags := 1537
  interfaces := #[]
  cf := some (fileOf pool2 1 #[] #[] 1537 3 #[] #[])
  fields := #[]
  methods := #[]
  instanceTypes := #[]
  staticTypes := #[]
  resolved := Array.replicate 7 none
  statics := none }

def pool3 : Array CpInfo := pool [(1, .class_ 2), (0, u "java/lang/Comparable"), (0, .class_ 4), (0, u "java/lang/Object")] 7

/-- java/lang/Comparable -/
def k3 : Class := { plain "java/lang/Comparable" (some 0) with
  accessFlags := 1537
  interfaces := #[]
  cf := some (fileOf pool3 1 #[] #[] 1537 3 #[] #[])
  fields := #[]
  methods := #[]
  instanceTypes := #[]
  staticTypes := #[]
  resolved := Array.replicate 12 none
  statics := none }

def pool4 : Array CpInfo := pool [(2, .class_ 4), (1, u "java/lang/CharSequence"), (42, .class_ 48), (0, u "java/lang/CharSequence$1CodePointIterator"), (10, .class_ 60), (0, u "java/lang/CharSequence$1CharIterator"), (5, .class_ 67), (0, u "java/lang/Object")] 63

/-- java/lang/CharSequence -/
def k4 : Class := { plain "java/lang/CharSequence" (some 0) with
  accessFlags := 1537
  interfaces := #[]
  cf := some (fileOf pool4 2 #[.nestMembers #[47, 59]] #[] 1537 66 #[] #[])
  fields := #[]
  methods := #[]
  instanceTypes := #[]
  staticTypes := #[]
  resolved := Array.replicate 131 none
  statics := none }

def pool5 : Array CpInfo := pool [(1, .class_ 2), (0, u "java/lang/constant/Constable"), (0, .class_ 4), (0, u "java/lang/Object")] 6

/-- java/lang/constant/Constable -/
def k5 : Class := { plain "java/lang/constant/Constable" (some 0) with
  accessFlags := 1537
  interfaces := #[]
  cf := some (fileOf pool5 1 #[] #[] 1537 3 #[] #[])
  fields := #[]
  methods := #[]
  instanceTypes := #[]
  staticTypes := #[]
  resolved := Array.replicate 11 none
  statics := none }

def pool6 : Array CpInfo := pool [(1, .class_ 2), (0, u "java/lang/constant/ConstantDesc"), (0, .class_ 4), (0, u "java/lang/Object")] 32

/-- java/lang/constant/ConstantDesc -/
def k6 : Class := { plain "java/lang/constant/ConstantDesc" (some 0) with
  accessFlags := 1537
  interfaces := #[]
  cf := some (fileOf pool6 1 #[] #[] 1537 3 #[] #[])
  fields := #[]
  methods := #[]
  instanceTypes := #[]
  staticTypes := #[]
  resolved := Array.replicate 37 none
  statics := none }

def pool7 : Array CpInfo := pool [(1, .methodref 2 3), (0, .class_ 4), (0, .nameAndType 5 6), (0, u "java/lang/Object"), (0, u "<init>"), (0, u "()V"), (2, .fieldref 10 11), (0, .class_ 12), (0, .nameAndType 13 14), (0, u "java/lang/String"), (0, u "value"), (0, u "[B"), (0, .fieldref 10 16), (0, .nameAndType 17 18), (0, u "coder"), (0, u "B"), (2, u "hash"), (0, u "I"), (2, u "hashIsZero"), (0, u "Z"), (0, .methodref 10 28), (0, .nameAndType 5 29), (0, u "([CIILjava/lang/Void;)V"), (8, .fieldref 10 39), (0, .nameAndType 40 26), (0, u "COMPACT_STRINGS"), (1, .class_ 44), (1, u "java/lang/StringUTF16"), (0, u "compress"), (1, .methodref 42 48), (0, .nameAndType 49 50), (0, u "coderFromArrayLen"), (0, u "([BI)B"), (56, .class_ 109), (1, u "java/lang/StringLatin1"), (32, u "()Z"), (34, .methodref 42 178), (0, .nameAndType 45 179), (0, u "([CII)[B"), (154, u "()I"), (0, .methodref 10 336), (0, .nameAndType 17 337), (0, u "()B"), (25, u "([BI)C"), (27, u "(II)V"), (35, u "(I)C"), (64, .methodref 10 493), (0, .nameAndType 494 142), (0, u "isLatin1"), (0, .methodref 107 496), (0, .nameAndType 497 363), (0, u "charAt"), (3, u "checkIndex"), (5, u "length"), (33, .methodref 107 542), (0, .nameAndType 543 544), (0, u "equals"), (0, u "([B[B)Z"), (28, u "(Ljava/lang/Object;)Z"), (1, .class_ 576), (0, u "java/lang/CharSequence"), (22, u "CASE_INSENSITIVE_ORDER"), (0, u "Ljava/util/Comparator;"), (409, u "([C)V"), (42, .fieldref 1054 1055), (0, .class_ 1056), (0, .nameAndType 1057 1058), (0, u "jdk/internal/util/Preconditions"), (0, u "SIOOBE_FORMATTER"), (0, u "Ljava/util/function/BiFunction;"), (0, .methodref 1054 1060), (0, .nameAndType 501 1061), (0, u "(IILjava/util/function/BiFunction;)I"), (39, u "serialPersistentFields"), (0, u "[Ljava/io/ObjectStreamField;"), (0, .class_ 1104), (0, u "java/lang/String$CaseInsensitiveComparator"), (1, .class_ 1107), (0, u "java/io/Serializable"), (0, .class_ 1109), (0, u "java/lang/Comparable"), (0, .class_ 1111), (0, u "java/lang/constant/Constable"), (0, .class_ 1113), (0, u "java/lang/constant/ConstantDesc"), (2, u "serialVersionUID"), (0, u "J"), (3, u "REPL"), (0, u "C"), (2, u "LATIN1"), (1, u "UTF16")] 323

def k7m0 : Method := { name := "<init>", desc := "()V", sig := { parameters := [], returnType := none }, accessFlags := 1, code := none }
def k7c1 : Code := { maxStack := 5, maxLocals := 2, code := jdk_42_method_3_code, exceptionTable := #[], attributes := #[] }
def k7m1 : Method := { name := "<init>", desc := "([C)V", sig := { parameters := [(.array .char)], returnType := none }, accessFlags := 1, code := some k7c1 }
def k7c2 : Code := { maxStack := 2, maxLocals := 1, code := jdk_42_method_54_code, exceptionTable := #[], attributes := #[] }
def k7m2 : Method := { name := "length", desc := "()I", sig := { parameters := [], returnType := some .int }, accessFlags := 1, code := some k7c2 }
def k7c3 : Code := { maxStack := 2, maxLocals := 2, code := jdk_42_method_56_code, exceptionTable := #[], attributes := #[] }
def k7m3 : Method := { name := "charAt", desc := "(I)C", sig := { parameters := [.int], returnType := some .char }, accessFlags := 1, code := some k7c3 }
def k7c4 : Code := { maxStack := 2, maxLocals := 3, code := jdk_42_method_66_code, exceptionTable := #[], attributes := #[] }
def k7m4 : Method := { name := "equals", desc := "(Ljava/lang/Object;)Z", sig := { parameters := [(.object "java/lang/Object")], returnType := some .boolean }, accessFlags := 1, code := some k7c4 }
def k7c5 : Code := { maxStack := 4, maxLocals := 6, code := jdk_42_method_149_code, exceptionTable := #[], attributes := #[] }
def k7m5 : Method := { name := "<init>", desc := "([CIILjava/lang/Void;)V", sig := { parameters := [(.array .char), .int, .int, (.object "java/lang/Void")], returnType := none }, accessFlags := 2, code := some k7c5 }
def k7c6 : Code := { maxStack := 1, maxLocals := 1, code := jdk_42_method_152_code, exceptionTable := #[], attributes := #[] }
def k7m6 : Method := { name := "coder", desc := "()B", sig := { parameters := [], returnType := some .byte }, accessFlags := 0, code := some k7c6 }
def k7c7 : Code := { maxStack := 1, maxLocals := 1, code := jdk_42_method_154_code, exceptionTable := #[], attributes := #[] }
def k7m7 : Method := { name := "isLatin1", desc := "()Z", sig := { parameters := [], returnType := some .boolean }, accessFlags := 0, code := some k7c7 }
def k7c8 : Code := { maxStack := 3, maxLocals := 2, code := jdk_42_method_155_code, exceptionTable := #[], attributes := #[] }
def k7m8 : Method := { name := "checkIndex", desc := "(II)V", sig := { parameters := [.int, .int], returnType := none }, accessFlags := 8, code := some k7c8 }
/-- java/lang/String -/
def k7 : Class := { plain "java/lang/String" (some 0) with
  accessFlags := 49
  interfaces := #[2, 3, 4, 5, 6]
  cf := some (fileOf pool7 10 #[.nestMembers #[1103]] #[{ accessFlags := 1, nameIndex := 5, descriptorIndex := 6, attributes := #[] }, { accessFlags := 1, nameIndex := 5, descriptorIndex := 1010, attributes := #[] }, { accessFlags := 1, nameIndex := 507, descriptorIndex := 334, attributes := #[] }, { accessFlags := 1, nameIndex := 497, descriptorIndex := 427, attributes := #[] }, { accessFlags := 1, nameIndex := 543, descriptorIndex := 573, attributes := #[] }, { accessFlags := 2, nameIndex := 5, descriptorIndex := 29, attributes := #[] }, { accessFlags := 0, nameIndex := 17, descriptorIndex := 337, attributes := #[] }, { accessFlags := 0, nameIndex := 494, descriptorIndex := 142, attributes := #[] }, { accessFlags := 8, nameIndex := 501, descriptorIndex := 391, attributes := #[] }] 49 2 #[1106, 1108, 575, 1110, 1112] #[{ accessFlags := 18, nameIndex := 13, descriptorIndex := 14, attributes := #[] }, { accessFlags := 18, nameIndex := 17, descriptorIndex := 18, attributes := #[] }, { accessFlags := 2, nameIndex := 21, descriptorIndex := 22, attributes := #[] }, { accessFlags := 2, nameIndex := 25, descriptorIndex := 26, attributes := #[] }, { accessFlags := 26, nameIndex := 1116, descriptorIndex := 1117, attributes := #[] }, { accessFlags := 24, nameIndex := 40, descriptorIndex := 26, attributes := #[] }, { accessFlags := 26, nameIndex := 1101, descriptorIndex := 1102, attributes := #[] }, { accessFlags := 26, nameIndex := 1121, descriptorIndex := 1122, attributes := #[] }, { accessFlags := 25, nameIndex := 599, descriptorIndex := 600, attributes := #[] }, { accessFlags := 24, nameIndex := 1125, descriptorIndex := 18, attributes := #[] }, { accessFlags := 24, nameIndex := 1127, descriptorIndex := 18, attributes := #[] }])
  fields := #[{ name := "value", type := (.array .byte), accessFlags := 18, slot := 0, constantValue := 0 }, { name := "coder", type := .byte, accessFlags := 18, slot := 1, constantValue := 0 }, { name := "hash", type := .int, accessFlags := 2, slot := 2, constantValue := 0 }, { name := "hashIsZero", type := .boolean, accessFlags := 2, slot := 3, constantValue := 0 }, { name := "serialVersionUID", type := .long, accessFlags := 26, slot := 0, constantValue := 0 }, { name := "COMPACT_STRINGS", type := .boolean, accessFlags := 24, slot := 1, constantValue := 0 }, { name := "serialPersistentFields", type := (.array (.object "java/io/ObjectStreamField")), accessFlags := 26, slot := 2, constantValue := 0 }, { name := "REPL", type := .char, accessFlags := 26, slot := 3, constantValue := 0 }, { name := "CASE_INSENSITIVE_ORDER", type := (.object "java/util/Comparator"), accessFlags := 25, slot := 4, constantValue := 0 }, { name := "LATIN1", type := .byte, accessFlags := 24, slot := 5, constantValue := 0 }, { name := "UTF16", type := .byte, accessFlags := 24, slot := 6, constantValue := 0 }]
  methods := #[k7m0, k7m1, k7m2, k7m3, k7m4, k7m5, k7m6, k7m7, k7m8]
  instanceTypes := #[(.array .byte), .byte, .int, .boolean]
  staticTypes := #[.long, .boolean, (.array (.object "java/io/ObjectStreamField")), .char, (.object "java/util/Comparator"), .byte, .byte]
  resolved := Array.replicate 1451 none
  statics := some 0 }

def pool8 : Array CpInfo := pool [(6, .class_ 8), (1, u "java/lang/Object"), (0, u "<init>"), (0, u "()V"), (1, .class_ 14), (1, u "java/lang/StringUTF16"), (31, u "$assertionsDisabled"), (0, u "Z"), (13, u "HI_BYTE_SHIFT"), (0, u "I"), (2, u "LO_BYTE_SHIFT"), (49, .methodref 12 116), (0, .nameAndType 117 118), (0, u "compress"), (0, u "([CI[BII)I"), (3, u "([CII)[B"), (138, u "coderFromArrayLen"), (0, u "([BI)B"), (106, .class_ 371), (1, u "java/lang/StringUTF16$LinesSpliterator"), (58, u "MAX_LENGTH"), (196, .class_ 628), (0, u "java/lang/StringUTF16$CodePointsSpliterator"), (0, .class_ 630), (0, u "java/lang/StringUTF16$CharsSpliterator")] 4

def k8m0 : Method := { name := "<init>", desc := "()V", sig := { parameters := [], returnType := none }, accessFlags := 0, code := none }
def k8c1 : Code := { maxStack := 2, maxLocals := 2, code := jdk_52_method_15_code, exceptionTable := #[], attributes := #[] }
def k8m1 : Method := { name := "coderFromArrayLen", desc := "([BI)B", sig := { parameters := [(.array .byte), .int], returnType := some .byte }, accessFlags := 8, code := some k8c1 }
def k8c2 : Code := { maxStack := 5, maxLocals := 6, code := jdk_52_method_16_code, exceptionTable := #[], attributes := #[] }
def k8m2 : Method := { name := "compress", desc := "([CII)[B", sig := { parameters := [(.array .char), .int, .int], returnType := some (.array .byte) }, accessFlags := 9, code := some k8c2 }
def k8c3 : Code := { maxStack := 3, maxLocals := 7, code := jdk_52_method_21_code, exceptionTable := #[], attributes := #[] }
def k8m3 : Method := { name := "compress", desc := "([CI[BII)I", sig := { parameters := [(.array .char), .int, (.array .byte), .int, .int], returnType := some .int }, accessFlags := 9, code := some k8c3 }
/-- java/lang/StringUTF16 -/
def k8 : Class := { plain "java/lang/StringUTF16" (some 0) with
  accessFlags := 48
  interfaces := #[]
  cf := some (fileOf pool8 12 #[.nestMembers #[627, 629, 369]] #[{ accessFlags := 0, nameIndex := 9, descriptorIndex := 10, attributes := #[] }, { accessFlags := 8, nameIndex := 261, descriptorIndex := 262, attributes := #[] }, { accessFlags := 9, nameIndex := 117, descriptorIndex := 122, attributes := #[] }, { accessFlags := 9, nameIndex := 117, descriptorIndex := 118, attributes := #[] }] 48 6 #[] #[{ accessFlags := 26, nameIndex := 61, descriptorIndex := 62, attributes := #[] }, { accessFlags := 26, nameIndex := 65, descriptorIndex := 62, attributes := #[] }, { accessFlags := 24, nameIndex := 430, descriptorIndex := 62, attributes := #[] }, { accessFlags := 4120, nameIndex := 46, descriptorIndex := 47, attributes := #[] }])
  fields := #[{ name := "HI_BYTE_SHIFT", type := .int, accessFlags := 26, slot := 0, constantValue := 0 }, { name := "LO_BYTE_SHIFT", type := .int, accessFlags := 26, slot := 1, constantValue := 0 }, { name := "MAX_LENGTH", type := .int, accessFlags := 24, slot := 2, constantValue := 0 }, { name := "$assertionsDisabled", type := .boolean, accessFlags := 4120, slot := 3, constantValue := 0 }]
  methods := #[k8m0, k8m1, k8m2, k8m3]
  instanceTypes := #[]
  staticTypes := #[.int, .int, .int, .boolean]
  resolved := Array.replicate 635 none
  statics := none }

def pool9 : Array CpInfo := pool [(1, .methodref 2 3), (0, .class_ 4), (0, .nameAndType 5 6), (0, u "java/lang/Object"), (0, u "<init>"), (0, u "()V"), (0, .fieldref 8 9), (0, .class_ 10), (0, .nameAndType 11 12), (0, u "com/example/nimble_queue/nimblequeue/core/QueueName"), (0, u "name"), (0, u "Ljava/lang/String;"), (0, .string 14), (0, u "text"), (0, .methodref 16 17), (0, .class_ 18), (0, .nameAndType 19 20), (0, u "java/util/Objects"), (0, u "requireNonNull"), (0, u "(Ljava/lang/Object;Ljava/lang/String;)Ljava/lang/Object;"), (0, .methodref 22 23), (0, .class_ 24), (0, .nameAndType 25 26), (0, u "java/lang/String"), (0, u "length"), (0, u "()I"), (5, .nameAndType 5 33), (0, u "(Ljava/lang/String;)V"), (0, .methodref 22 35), (0, .nameAndType 36 37), (0, u "charAt"), (0, u "(I)C"), (4, .methodref 8 43), (0, .nameAndType 44 45), (0, u "isLowerCaseLetterOrDigit"), (0, u "(C)Z"), (2, .methodref 8 32), (0, .methodref 22 50), (0, .nameAndType 51 52), (0, u "equals"), (0, u "(Ljava/lang/Object;)Z"), (3, u "MIN_LENGTH"), (0, u "I"), (2, u "MAX_LENGTH"), (3, u "of"), (0, u "(Ljava/lang/String;)Lcom/example/nimble_queue/nimblequeue/core/QueueName;"), (1, u "toString"), (0, u "()Ljava/lang/String;")] 2

def k9c0 : Code := { maxStack := 2, maxLocals := 2, code := prog_14_method_1_code, exceptionTable := #[], attributes := #[] }
def k9m0 : Method := { name := "<init>", desc := "(Ljava/lang/String;)V", sig := { parameters := [(.object "java/lang/String")], returnType := none }, accessFlags := 2, code := some k9c0 }
def k9c1 : Code := { maxStack := 3, maxLocals := 4, code := prog_14_method_2_code, exceptionTable := #[], attributes := #[] }
def k9m1 : Method := { name := "of", desc := "(Ljava/lang/String;)Lcom/example/nimble_queue/nimblequeue/core/QueueName;", sig := { parameters := [(.object "java/lang/String")], returnType := some (.object "com/example/nimble_queue/nimblequeue/core/QueueName") }, accessFlags := 9, code := some k9c1 }
def k9c2 : Code := { maxStack := 2, maxLocals := 1, code := prog_14_method_3_code, exceptionTable := #[], attributes := #[] }
def k9m2 : Method := { name := "isLowerCaseLetterOrDigit", desc := "(C)Z", sig := { parameters := [.char], returnType := some .boolean }, accessFlags := 10, code := some k9c2 }
def k9c3 : Code := { maxStack := 2, maxLocals := 3, code := prog_14_method_4_code, exceptionTable := #[], attributes := #[] }
def k9m3 : Method := { name := "equals", desc := "(Ljava/lang/Object;)Z", sig := { parameters := [(.object "java/lang/Object")], returnType := some .boolean }, accessFlags := 1, code := some k9c3 }
def k9c4 : Code := { maxStack := 1, maxLocals := 1, code := prog_14_method_6_code, exceptionTable := #[], attributes := #[] }
def k9m4 : Method := { name := "toString", desc := "()Ljava/lang/String;", sig := { parameters := [], returnType := some (.object "java/lang/String") }, accessFlags := 1, code := some k9c4 }
/-- com/example/nimble_queue/nimblequeue/core/QueueName -/
def k9 : Class := { plain "com/example/nimble_queue/nimblequeue/core/QueueName" (some 0) with
  accessFlags := 49
  interfaces := #[]
  cf := some (fileOf pool9 8 #[] #[{ accessFlags := 2, nameIndex := 5, descriptorIndex := 33, attributes := #[] }, { accessFlags := 9, nameIndex := 64, descriptorIndex := 65, attributes := #[] }, { accessFlags := 10, nameIndex := 44, descriptorIndex := 45, attributes := #[] }, { accessFlags := 1, nameIndex := 51, descriptorIndex := 52, attributes := #[] }, { accessFlags := 1, nameIndex := 67, descriptorIndex := 68, attributes := #[] }] 49 2 #[] #[{ accessFlags := 25, nameIndex := 56, descriptorIndex := 57, attributes := #[] }, { accessFlags := 25, nameIndex := 60, descriptorIndex := 57, attributes := #[] }, { accessFlags := 18, nameIndex := 11, descriptorIndex := 12, attributes := #[] }])
  fields := #[{ name := "MIN_LENGTH", type := .int, accessFlags := 25, slot := 0, constantValue := 0 }, { name := "MAX_LENGTH", type := .int, accessFlags := 25, slot := 1, constantValue := 0 }, { name := "name", type := (.object "java/lang/String"), accessFlags := 18, slot := 0, constantValue := 0 }]
  methods := #[k9m0, k9m1, k9m2, k9m3, k9m4]
  instanceTypes := #[(.object "java/lang/String")]
  staticTypes := #[.int, .int]
  resolved := Array.replicate 71 none
  statics := none }

def pool10 : Array CpInfo := pool [(2, .class_ 4), (1, u "java/lang/Object"), (0, u "<init>"), (0, u "()V"), (35, .class_ 44), (1, u "java/util/Objects"), (0, u "requireNonNull"), (48, u "(Ljava/lang/Object;Ljava/lang/String;)Ljava/lang/Object;")] 89

def k10m0 : Method := { name := "<init>", desc := "()V", sig := { parameters := [], returnType := none }, accessFlags := 2, code := none }
def k10c1 : Code := { maxStack := 3, maxLocals := 2, code := jdk_31_method_11_code, exceptionTable := #[], attributes := #[] }
def k10m1 : Method := { name := "requireNonNull", desc := "(Ljava/lang/Object;Ljava/lang/String;)Ljava/lang/Object;", sig := { parameters := [(.object "java/lang/Object"), (.object "java/lang/String")], returnType := some (.object "java/lang/Object") }, accessFlags := 9, code := some k10c1 }
/-- java/util/Objects -/
def k10 : Class := { plain "java/util/Objects" (some 0) with
  accessFlags := 49
  interfaces := #[]
  cf := some (fileOf pool10 42 #[] #[{ accessFlags := 2, nameIndex := 5, descriptorIndex := 6, attributes := #[] }, { accessFlags := 9, nameIndex := 45, descriptorIndex := 94, attributes := #[] }] 49 2 #[] #[])
  fields := #[]
  methods := #[k10m0, k10m1]
  instanceTypes := #[]
  staticTypes := #[]
  resolved := Array.replicate 184 none
  statics := none }

def pool11 : Array CpInfo := pool [(1, .class_ 2), (0, u "java/lang/String"), (1, .class_ 6), (1, u "java/lang/Object"), (0, u "<init>"), (0, u "()V"), (0, .methodref 1 10), (0, .nameAndType 11 12), (0, u "checkIndex"), (0, u "(II)V"), (1, .class_ 16), (1, u "java/lang/StringLatin1"), (36, u "([BI)C"), (67, u "$assertionsDisabled"), (0, u "Z"), (98, .class_ 223), (1, u "java/lang/StringLatin1$LinesSpliterator"), (28, u "charAt"), (28, u "equals"), (0, u "([B[B)Z"), (107, .class_ 391), (0, u "java/lang/StringLatin1$CharsSpliterator")] 3

def k11m0 : Method := { name := "<init>", desc := "()V", sig := { parameters := [], returnType := none }, accessFlags := 0, code := none }
def k11c1 : Code := { maxStack := 2, maxLocals := 2, code := jdk_43_method_2_code, exceptionTable := #[], attributes := #[] }
def k11m1 : Method := { name := "charAt", desc := "([BI)C", sig := { parameters := [(.array .byte), .int], returnType := some .char }, accessFlags := 9, code := some k11c1 }
def k11c2 : Code := { maxStack := 3, maxLocals := 3, code := jdk_43_method_13_code, exceptionTable := #[], attributes := #[] }
def k11m2 : Method := { name := "equals", desc := "([B[B)Z", sig := { parameters := [(.array .byte), (.array .byte)], returnType := some .boolean }, accessFlags := 9, code := some k11c2 }
/-- java/lang/StringLatin1 -/
def k11 : Class := { plain "java/lang/StringLatin1" (some 0) with
  accessFlags := 48
  interfaces := #[]
  cf := some (fileOf pool11 14 #[.nestMembers #[390, 221]] #[{ accessFlags := 0, nameIndex := 7, descriptorIndex := 8, attributes := #[] }, { accessFlags := 9, nameIndex := 252, descriptorIndex := 53, attributes := #[] }, { accessFlags := 9, nameIndex := 281, descriptorIndex := 282, attributes := #[] }] 48 4 #[] #[{ accessFlags := 4120, nameIndex := 121, descriptorIndex := 122, attributes := #[] }])
  fields := #[{ name := "$assertionsDisabled", type := .boolean, accessFlags := 4120, slot := 0, constantValue := 0 }]
  methods := #[k11m0, k11m1, k11m2]
  instanceTypes := #[]
  staticTypes := #[.boolean]
  resolved := Array.replicate 395 none
  statics := none }

def pool12 : Array CpInfo := pool [(2, .class_ 4), (1, u "java/lang/Object"), (0, u "<init>"), (0, u "()V"), (17, .class_ 26), (1, u "jdk/internal/util/Preconditions"), (6, u "checkIndex"), (21, .class_ 56), (0, u "jdk/internal/util/Preconditions$4"), (57, .class_ 115), (0, u "jdk/internal/util/Preconditions$1"), (7, u "SIOOBE_FORMATTER"), (0, u "Ljava/util/function/BiFunction;"), (0, .class_ 126), (0, u "jdk/internal/util/Preconditions$2"), (3, u "AIOOBE_FORMATTER"), (0, .class_ 132), (0, u "jdk/internal/util/Preconditions$3"), (3, u "IOOBE_FORMATTER"), (41, u "(IILjava/util/function/BiFunction;)I")] 15

def k12m0 : Method := { name := "<init>", desc := "()V", sig := { parameters := [], returnType := none }, accessFlags := 1, code := none }
def k12c1 : Code := { maxStack := 3, maxLocals := 3, code := jdk_41_method_11_code, exceptionTable := #[], attributes := #[] }
def k12m1 : Method := { name := "checkIndex", desc := "(IILjava/util/function/BiFunction;)I", sig := { parameters := [.int, .int, (.object "java/util/function/BiFunction")], returnType := some .int }, accessFlags := 9, code := some k12c1 }
/-- jdk/internal/util/Preconditions -/
def k12 : Class := { plain "jdk/internal/util/Preconditions" (some 0) with
  accessFlags := 33
  interfaces := #[]
  cf := some (fileOf pool12 24 #[.nestMembers #[55, 131, 125, 114]] #[{ accessFlags := 1, nameIndex := 5, descriptorIndex := 6, attributes := #[] }, { accessFlags := 9, nameIndex := 33, descriptorIndex := 178, attributes := #[] }] 33 2 #[] #[{ accessFlags := 25, nameIndex := 123, descriptorIndex := 124, attributes := #[] }, { accessFlags := 25, nameIndex := 130, descriptorIndex := 124, attributes := #[] }, { accessFlags := 25, nameIndex := 136, descriptorIndex := 124, attributes := #[] }])
  fields := #[{ name := "SIOOBE_FORMATTER", type := (.object "java/util/function/BiFunction"), accessFlags := 25, slot := 0, constantValue := 0 }, { name := "AIOOBE_FORMATTER", type := (.object "java/util/function/BiFunction"), accessFlags := 25, slot := 1, constantValue := 0 }, { name := "IOOBE_FORMATTER", type := (.object "java/util/function/BiFunction"), accessFlags := 25, slot := 2, constantValue := 0 }]
  methods := #[k12m0, k12m1]
  instanceTypes := #[]
  staticTypes := #[(.object "java/util/function/BiFunction"), (.object "java/util/function/BiFunction"), (.object "java/util/function/BiFunction")]
  resolved := Array.replicate 194 none
  statics := some 1 }

def pool13 : Array CpInfo := pool [(9, u "<init>"), (6, .class_ 18), (1, u "java/lang/Object"), (0, u "()V"), (1, .class_ 23), (1, u "jdk/internal/util/ArraysSupport"), (0, u "LOG2_ARRAY_LONG_INDEX_SCALE"), (0, u "I"), (2, u "U"), (0, u "Ljdk/internal/misc/Unsafe;"), (8, u "BIG_ENDIAN"), (0, u "Z"), (8, u "LOG2_BYTE_BIT_SIZE"), (4, u "LOG2_ARRAY_INT_INDEX_SCALE"), (54, u "JLA"), (0, u "Ljdk/internal/access/JavaLangAccess;"), (11, u "LOG2_ARRAY_BOOLEAN_INDEX_SCALE"), (9, u "LOG2_ARRAY_BYTE_INDEX_SCALE"), (5, u "LOG2_ARRAY_CHAR_INDEX_SCALE"), (5, u "LOG2_ARRAY_SHORT_INDEX_SCALE"), (18, u "LOG2_ARRAY_FLOAT_INDEX_SCALE"), (24, u "LOG2_ARRAY_DOUBLE_INDEX_SCALE"), (89, u "T_BOOLEAN"), (2, u "T_CHAR"), (1, u "T_FLOAT"), (1, u "T_DOUBLE"), (1, u "T_BYTE"), (1, u "T_SHORT"), (1, u "T_INT"), (1, u "T_LONG"), (1, u "SOFT_MAX_ARRAY_LENGTH")] 83

def k13m0 : Method := { name := "<init>", desc := "()V", sig := { parameters := [], returnType := none }, accessFlags := 2, code := none }
/-- jdk/internal/util/ArraysSupport -/
def k13 : Class := { plain "jdk/internal/util/ArraysSupport" (some 0) with
  accessFlags := 33
  interfaces := #[]
  cf := some (fileOf pool13 21 #[] #[{ accessFlags := 2, nameIndex := 9, descriptorIndex := 19, attributes := #[] }] 33 16 #[] #[{ accessFlags := 24, nameIndex := 28, descriptorIndex := 29, attributes := #[] }, { accessFlags := 26, nameIndex := 38, descriptorIndex := 39, attributes := #[] }, { accessFlags := 25, nameIndex := 121, descriptorIndex := 25, attributes := #[] }, { accessFlags := 25, nameIndex := 131, descriptorIndex := 25, attributes := #[] }, { accessFlags := 25, nameIndex := 137, descriptorIndex := 25, attributes := #[] }, { accessFlags := 25, nameIndex := 143, descriptorIndex := 25, attributes := #[] }, { accessFlags := 25, nameIndex := 53, descriptorIndex := 25, attributes := #[] }, { accessFlags := 25, nameIndex := 24, descriptorIndex := 25, attributes := #[] }, { accessFlags := 25, nameIndex := 162, descriptorIndex := 25, attributes := #[] }, { accessFlags := 25, nameIndex := 187, descriptorIndex := 25, attributes := #[] }, { accessFlags := 26, nameIndex := 48, descriptorIndex := 25, attributes := #[] }, { accessFlags := 25, nameIndex := 277, descriptorIndex := 25, attributes := #[] }, { accessFlags := 25, nameIndex := 280, descriptorIndex := 25, attributes := #[] }, { accessFlags := 25, nameIndex := 282, descriptorIndex := 25, attributes := #[] }, { accessFlags := 25, nameIndex := 284, descriptorIndex := 25, attributes := #[] }, { accessFlags := 25, nameIndex := 286, descriptorIndex := 25, attributes := #[] }, { accessFlags := 25, nameIndex := 288, descriptorIndex := 25, attributes := #[] }, { accessFlags := 25, nameIndex := 290, descriptorIndex := 25, attributes := #[] }, { accessFlags := 25, nameIndex := 292, descriptorIndex := 25, attributes := #[] }, { accessFlags := 26, nameIndex := 108, descriptorIndex := 109, attributes := #[] }, { accessFlags := 25, nameIndex := 294, descriptorIndex := 25, attributes := #[] }])
  fields := #[{ name := "U", type := (.object "jdk/internal/misc/Unsafe"), accessFlags := 24, slot := 0, constantValue := 0 }, { name := "BIG_ENDIAN", type := .boolean, accessFlags := 26, slot := 1, constantValue := 0 }, { name := "LOG2_ARRAY_BOOLEAN_INDEX_SCALE", type := .int, accessFlags := 25, slot := 2, constantValue := 0 }, { name := "LOG2_ARRAY_BYTE_INDEX_SCALE", type := .int, accessFlags := 25, slot := 3, constantValue := 0 }, { name := "LOG2_ARRAY_CHAR_INDEX_SCALE", type := .int, accessFlags := 25, slot := 4, constantValue := 0 }, { name := "LOG2_ARRAY_SHORT_INDEX_SCALE", type := .int, accessFlags := 25, slot := 5, constantValue := 0 }, { name := "LOG2_ARRAY_INT_INDEX_SCALE", type := .int, accessFlags := 25, slot := 6, constantValue := 0 }, { name := "LOG2_ARRAY_LONG_INDEX_SCALE", type := .int, accessFlags := 25, slot := 7, constantValue := 0 }, { name := "LOG2_ARRAY_FLOAT_INDEX_SCALE", type := .int, accessFlags := 25, slot := 8, constantValue := 0 }, { name := "LOG2_ARRAY_DOUBLE_INDEX_SCALE", type := .int, accessFlags := 25, slot := 9, constantValue := 0 }, { name := "LOG2_BYTE_BIT_SIZE", type := .int, accessFlags := 26, slot := 10, constantValue := 0 }, { name := "T_BOOLEAN", type := .int, accessFlags := 25, slot := 11, constantValue := 0 }, { name := "T_CHAR", type := .int, accessFlags := 25, slot := 12, constantValue := 0 }, { name := "T_FLOAT", type := .int, accessFlags := 25, slot := 13, constantValue := 0 }, { name := "T_DOUBLE", type := .int, accessFlags := 25, slot := 14, constantValue := 0 }, { name := "T_BYTE", type := .int, accessFlags := 25, slot := 15, constantValue := 0 }, { name := "T_SHORT", type := .int, accessFlags := 25, slot := 16, constantValue := 0 }, { name := "T_INT", type := .int, accessFlags := 25, slot := 17, constantValue := 0 }, { name := "T_LONG", type := .int, accessFlags := 25, slot := 18, constantValue := 0 }, { name := "JLA", type := (.object "jdk/internal/access/JavaLangAccess"), accessFlags := 26, slot := 19, constantValue := 0 }, { name := "SOFT_MAX_ARRAY_LENGTH", type := .int, accessFlags := 25, slot := 20, constantValue := 0 }]
  methods := #[k13m0]
  instanceTypes := #[]
  staticTypes := #[(.object "jdk/internal/misc/Unsafe"), .boolean, .int, .int, .int, .int, .int, .int, .int, .int, .int, .int, .int, .int, .int, .int, .int, .int, .int, (.object "jdk/internal/access/JavaLangAccess"), .int]
  resolved := Array.replicate 378 none
  statics := none }

def pool14 : Array CpInfo := pool [(1, u "java/lang/Cloneable"), (0, .class_ 1), (0, u "java/lang/Object"), (0, .class_ 3)] 3

/-- java/lang/Cloneable -/
def k14 : Class := { plain "java/lang/Cloneable" (some 0) with
  accessFlags := 1537
  interfaces := #[]
  cf := some (fileOf pool14 2 #[] #[] 1537 4 #[] #[])
  fields := #[]
  methods := #[]
  instanceTypes := #[]
  staticTypes := #[]
  resolved := Array.replicate 8 none
  statics := none }

/-- the primitive byte -/
def k15 : Class := { plain "byte" none with kind := .primitive 'B', accessFlags := 0x411 }
/-- [B -/
def k16 : Class := { plain "[B" (some 0) with kind := .array 15 .byte, interfaces := #[14, 2], accessFlags := 1041 }

/-- the primitive char -/
def k17 : Class := { plain "char" none with kind := .primitive 'C', accessFlags := 0x411 }
/-- [C -/
def k18 : Class := { plain "[C" (some 0) with kind := .array 17 .char, interfaces := #[14, 2], accessFlags := 1041 }

/-- the primitive int -/
def k19 : Class := { plain "int" none with kind := .primitive 'I', accessFlags := 0x411 }
/-- [I -/
def k20 : Class := { plain "[I" (some 0) with kind := .array 19 .int, interfaces := #[14, 2], accessFlags := 1041 }

def heap : Heap := #[{ cls := 7, slots := #[.long 0, .int 1, .null, .int 0, .null, .int 0, .int 0], vm := .statics 7 },
  { cls := 12, slots := #[.null, .null, .null], vm := .statics 12 }]
def classes : Array Class := #[k0, k1, k2, k3, k4, k5, k6, k7, k8, k9, k10, k11, k12, k13, k14, k15, k16, k17, k18, k19, k20]
def interned : List (Array UInt16 × Addr) := []
def slotsUsed : Nat := 10
def theMethod : MethodId := ⟨1, 2⟩
def args0 : Array Value := #[.int 3, .int 3, .int 3, .int 3, .int 3, .int 3]
def aboutOver (below : List Frame) : State where
  vm := { classes := classes, interned := interned.toArray }
  heap := heap
  slotsUsed := slotsUsed
  threads := #[{ frames := .invoking theMethod args0 :: below }]
def below0 : List Frame := [.native { method := ⟨0, 0⟩, args := #[] }]
def about1 : State := aboutOver below0
def p0 : Program := .bare "" "" ""
def e0 : Env := launch0.env 0 0 0
theorem w_frames : about1.frames = Frame.invoking theMethod args0 :: below0 := rfl
set_option maxRecDepth 65536 in
theorem w_args : argsFit about1.vm theMethod args0 = true := by decide +kernel
set_option maxRecDepth 65536 in
theorem w_heap : heapFits about1 = true := by decide +kernel
set_option maxRecDepth 65536 in
theorem w_runnable : about1.curStatus? = some .runnable := by decide +kernel
set_option maxRecDepth 65536 in
theorem w_alone : about1.alone = true := by decide +kernel
set_option maxRecDepth 65536 in
theorem w_named : about1.methodNamed? x = some theMethod := by decide +kernel
set_option maxRecDepth 65536 in
theorem w_hears : about1.hears theMethod below0 = true := by decide +kernel
set_option maxRecDepth 65536 in
theorem w_ripe : about1.ripe theMethod args0 below0 = true := by decide +kernel
theorem w_running : about1.status = .running := rfl
set_option maxRecDepth 65536 in
theorem w_room : about1.hasRoom e0.platform room_1 = true :=
  launch0.hasRoom_least _ room_1 (by decide +kernel) (by decide +kernel) (by decide +kernel) (by decide +kernel) (by decide +kernel) (by decide +kernel)
theorem allAtoms_all (ts : List Jvm.Cond) (a : Array Jvm.Value) (st : Jvm.State) : (allAtoms ts).before a st = ts.all (fun c => c.before a st) := by
  induction ts with
  | nil => rfl
  | cons c t ih =>
    show (Jvm.Cond.and c (allAtoms t)).before a st = _
    rw [Jvm.Cond.before_and, ih, List.all_cons]
def words1 : List Jvm.Cond := Jvm.Cond.code x code maxLocals ret :: tables_1
/-- a 'code' word, met by the world's own term for the bytes: nothing is compared byte by byte -/
theorem code_word {y : MethodName} {bytes : ByteArray} {mx : Nat} {rt : Option FieldType} {a : Array Value} {s : State} {m : MethodId} {meth : Method} {c : Code} (h1 : s.methodNamed? y = some m) (h2 : s.vm.method? m = some meth) (h3 : meth.code = some c) (h4 : c.code = bytes)
    (h5 : (c.maxLocals == mx && c.exceptionTable.isEmpty && decide (c.maxStack ≤ mostOperands) && decide (meth.sig.returnType = rt) && !meth.locks && decide (parseMethodDescriptor y.desc = some meth.sig)) = true) : (Jvm.Cond.code y bytes mx rt).before a s = true := by
  simp only [Bool.and_eq_true, beq_iff_eq, Bool.not_eq_true', decide_eq_true_eq] at h5
  obtain ⟨⟨⟨⟨⟨g1, g2⟩, g3⟩, g4⟩, g5⟩, g6⟩ := h5
  simp [Cond.before, Cond.holds, Cond.value, h1, h2, h3, h4, g1, g2, g3, g4, g5, g6]
def isCode : Jvm.Cond → Bool
  | .code _ _ _ _ => true
  | _ => false
theorem all_split {L : List Jvm.Cond} {P : Jvm.Cond → Bool} (h1 : L.all (fun c => isCode c || P c) = true) (h2 : ∀ c ∈ L.filter isCode, P c = true) : L.all P = true := by
  refine List.all_eq_true.mpr fun c hc => ?_
  have h := List.all_eq_true.mp h1 c hc
  rcases Bool.eq_false_or_eq_true (isCode c) with hi | hi
  · exact h2 c (List.mem_filter.mpr ⟨hc, hi⟩)
  · simpa [hi] using h
set_option maxRecDepth 65536 in
theorem w_c0 : (Jvm.Cond.code x code maxLocals ret).before args0 about1 = true := code_word (m := ⟨1, 2⟩) (meth := k1m2) (c := k1c2) (by decide +kernel) rfl rfl rfl (by decide +kernel)
set_option maxRecDepth 65536 in
theorem w_c1 : (Jvm.Cond.code ({ cls := "com/example/nimble_queue/nimblequeue/core/QueueNameOfPinLaw", name := "alnum", desc := "(I)C" } : Jvm.MethodName) method_2_code (2 : Nat) (Option.some Jvm.ClassFile.FieldType.char)).before args0 about1 = true := code_word (m := ⟨1, 1⟩) (meth := k1m1) (c := k1c1) (by decide +kernel) rfl rfl rfl (by decide +kernel)
set_option maxRecDepth 65536 in
theorem w_c2 : (Jvm.Cond.code ({ cls := "java/lang/String", name := "<init>", desc := "([C)V" } : Jvm.MethodName) jdk_42_method_3_code (2 : Nat) (Option.none : Option Jvm.ClassFile.FieldType)).before args0 about1 = true := code_word (m := ⟨7, 1⟩) (meth := k7m1) (c := k7c1) (by decide +kernel) rfl rfl rfl (by decide +kernel)
set_option maxRecDepth 65536 in
theorem w_c3 : (Jvm.Cond.code ({ cls := "java/lang/String", name := "<init>", desc := "([CIILjava/lang/Void;)V" } : Jvm.MethodName) jdk_42_method_149_code (6 : Nat) (Option.none : Option Jvm.ClassFile.FieldType)).before args0 about1 = true := code_word (m := ⟨7, 5⟩) (meth := k7m5) (c := k7c5) (by decide +kernel) rfl rfl rfl (by decide +kernel)
set_option maxRecDepth 65536 in
theorem w_c4 : (Jvm.Cond.code ({ cls := "java/lang/Object", name := "<init>", desc := "()V" } : Jvm.MethodName) object_method_1_code (1 : Nat) (Option.none : Option Jvm.ClassFile.FieldType)).before args0 about1 = true := code_word (m := ⟨0, 0⟩) (meth := k0m0) (c := k0c0) (by decide +kernel) rfl rfl rfl (by decide +kernel)
set_option maxRecDepth 65536 in
theorem w_c5 : (Jvm.Cond.code ({ cls := "java/lang/StringUTF16", name := "compress", desc := "([CII)[B" } : Jvm.MethodName) jdk_52_method_16_code (6 : Nat) (Option.some (Jvm.ClassFile.FieldType.array Jvm.ClassFile.FieldType.byte))).before args0 about1 = true := code_word (m := ⟨8, 2⟩) (meth := k8m2) (c := k8c2) (by decide +kernel) rfl rfl rfl (by decide +kernel)
set_option maxRecDepth 65536 in
theorem w_c6 : (Jvm.Cond.code ({ cls := "java/lang/StringUTF16", name := "compress", desc := "([CI[BII)I" } : Jvm.MethodName) jdk_52_method_21_code (7 : Nat) (Option.some Jvm.ClassFile.FieldType.int)).before args0 about1 = true := code_word (m := ⟨8, 3⟩) (meth := k8m3) (c := k8c3) (by decide +kernel) rfl rfl rfl (by decide +kernel)
set_option maxRecDepth 65536 in
theorem w_c7 : (Jvm.Cond.code ({ cls := "java/lang/StringUTF16", name := "coderFromArrayLen", desc := "([BI)B" } : Jvm.MethodName) jdk_52_method_15_code (2 : Nat) (Option.some Jvm.ClassFile.FieldType.byte)).before args0 about1 = true := code_word (m := ⟨8, 1⟩) (meth := k8m1) (c := k8c1) (by decide +kernel) rfl rfl rfl (by decide +kernel)
set_option maxRecDepth 65536 in
theorem w_c8 : (Jvm.Cond.code ({ cls := "com/example/nimble_queue/nimblequeue/core/QueueName", name := "of", desc := "(Ljava/lang/String;)Lcom/example/nimble_queue/nimblequeue/core/QueueName;" } : Jvm.MethodName) prog_14_method_2_code (4 : Nat) (Option.some (Jvm.ClassFile.FieldType.object "com/example/nimble_queue/nimblequeue/core/QueueName"))).before args0 about1 = true := code_word (m := ⟨9, 1⟩) (meth := k9m1) (c := k9c1) (by decide +kernel) rfl rfl rfl (by decide +kernel)
set_option maxRecDepth 65536 in
theorem w_c9 : (Jvm.Cond.code ({ cls := "java/util/Objects", name := "requireNonNull", desc := "(Ljava/lang/Object;Ljava/lang/String;)Ljava/lang/Object;" } : Jvm.MethodName) jdk_31_method_11_code (2 : Nat) (Option.some (Jvm.ClassFile.FieldType.object "java/lang/Object"))).before args0 about1 = true := code_word (m := ⟨10, 1⟩) (meth := k10m1) (c := k10c1) (by decide +kernel) rfl rfl rfl (by decide +kernel)
set_option maxRecDepth 65536 in
theorem w_c10 : (Jvm.Cond.code ({ cls := "java/lang/String", name := "length", desc := "()I" } : Jvm.MethodName) jdk_42_method_54_code (1 : Nat) (Option.some Jvm.ClassFile.FieldType.int)).before args0 about1 = true := code_word (m := ⟨7, 2⟩) (meth := k7m2) (c := k7c2) (by decide +kernel) rfl rfl rfl (by decide +kernel)
set_option maxRecDepth 65536 in
theorem w_c11 : (Jvm.Cond.code ({ cls := "java/lang/String", name := "coder", desc := "()B" } : Jvm.MethodName) jdk_42_method_152_code (1 : Nat) (Option.some Jvm.ClassFile.FieldType.byte)).before args0 about1 = true := code_word (m := ⟨7, 6⟩) (meth := k7m6) (c := k7c6) (by decide +kernel) rfl rfl rfl (by decide +kernel)
set_option maxRecDepth 65536 in
theorem w_c12 : (Jvm.Cond.code ({ cls := "java/lang/String", name := "charAt", desc := "(I)C" } : Jvm.MethodName) jdk_42_method_56_code (2 : Nat) (Option.some Jvm.ClassFile.FieldType.char)).before args0 about1 = true := code_word (m := ⟨7, 3⟩) (meth := k7m3) (c := k7c3) (by decide +kernel) rfl rfl rfl (by decide +kernel)
set_option maxRecDepth 65536 in
theorem w_c13 : (Jvm.Cond.code ({ cls := "java/lang/String", name := "isLatin1", desc := "()Z" } : Jvm.MethodName) jdk_42_method_154_code (1 : Nat) (Option.some Jvm.ClassFile.FieldType.boolean)).before args0 about1 = true := code_word (m := ⟨7, 7⟩) (meth := k7m7) (c := k7c7) (by decide +kernel) rfl rfl rfl (by decide +kernel)
set_option maxRecDepth 65536 in
theorem w_c14 : (Jvm.Cond.code ({ cls := "java/lang/StringLatin1", name := "charAt", desc := "([BI)C" } : Jvm.MethodName) jdk_43_method_2_code (2 : Nat) (Option.some Jvm.ClassFile.FieldType.char)).before args0 about1 = true := code_word (m := ⟨11, 1⟩) (meth := k11m1) (c := k11c1) (by decide +kernel) rfl rfl rfl (by decide +kernel)
set_option maxRecDepth 65536 in
theorem w_c15 : (Jvm.Cond.code ({ cls := "java/lang/String", name := "checkIndex", desc := "(II)V" } : Jvm.MethodName) jdk_42_method_155_code (2 : Nat) (Option.none : Option Jvm.ClassFile.FieldType)).before args0 about1 = true := code_word (m := ⟨7, 8⟩) (meth := k7m8) (c := k7c8) (by decide +kernel) rfl rfl rfl (by decide +kernel)
set_option maxRecDepth 65536 in
theorem w_c16 : (Jvm.Cond.code ({ cls := "jdk/internal/util/Preconditions", name := "checkIndex", desc := "(IILjava/util/function/BiFunction;)I" } : Jvm.MethodName) jdk_41_method_11_code (3 : Nat) (Option.some Jvm.ClassFile.FieldType.int)).before args0 about1 = true := code_word (m := ⟨12, 1⟩) (meth := k12m1) (c := k12c1) (by decide +kernel) rfl rfl rfl (by decide +kernel)
set_option maxRecDepth 65536 in
theorem w_c17 : (Jvm.Cond.code ({ cls := "com/example/nimble_queue/nimblequeue/core/QueueName", name := "isLowerCaseLetterOrDigit", desc := "(C)Z" } : Jvm.MethodName) prog_14_method_3_code (1 : Nat) (Option.some Jvm.ClassFile.FieldType.boolean)).before args0 about1 = true := code_word (m := ⟨9, 2⟩) (meth := k9m2) (c := k9c2) (by decide +kernel) rfl rfl rfl (by decide +kernel)
set_option maxRecDepth 65536 in
theorem w_c18 : (Jvm.Cond.code ({ cls := "com/example/nimble_queue/nimblequeue/core/QueueName", name := "<init>", desc := "(Ljava/lang/String;)V" } : Jvm.MethodName) prog_14_method_1_code (2 : Nat) (Option.none : Option Jvm.ClassFile.FieldType)).before args0 about1 = true := code_word (m := ⟨9, 0⟩) (meth := k9m0) (c := k9c0) (by decide +kernel) rfl rfl rfl (by decide +kernel)
set_option maxRecDepth 65536 in
theorem w_c19 : (Jvm.Cond.code ({ cls := "com/example/nimble_queue/nimblequeue/core/QueueName", name := "toString", desc := "()Ljava/lang/String;" } : Jvm.MethodName) prog_14_method_6_code (1 : Nat) (Option.some (Jvm.ClassFile.FieldType.object "java/lang/String"))).before args0 about1 = true := code_word (m := ⟨9, 4⟩) (meth := k9m4) (c := k9c4) (by decide +kernel) rfl rfl rfl (by decide +kernel)
set_option maxRecDepth 65536 in
theorem w_c20 : (Jvm.Cond.code ({ cls := "java/lang/String", name := "equals", desc := "(Ljava/lang/Object;)Z" } : Jvm.MethodName) jdk_42_method_66_code (3 : Nat) (Option.some Jvm.ClassFile.FieldType.boolean)).before args0 about1 = true := code_word (m := ⟨7, 4⟩) (meth := k7m4) (c := k7c4) (by decide +kernel) rfl rfl rfl (by decide +kernel)
set_option maxRecDepth 65536 in
theorem w_c21 : (Jvm.Cond.code ({ cls := "com/example/nimble_queue/nimblequeue/core/QueueName", name := "equals", desc := "(Ljava/lang/Object;)Z" } : Jvm.MethodName) prog_14_method_4_code (3 : Nat) (Option.some Jvm.ClassFile.FieldType.boolean)).before args0 about1 = true := code_word (m := ⟨9, 3⟩) (meth := k9m3) (c := k9c3) (by decide +kernel) rfl rfl rfl (by decide +kernel)
set_option maxRecDepth 65536 in
theorem w_c22 : (Jvm.Cond.code ({ cls := "java/lang/StringLatin1", name := "equals", desc := "([B[B)Z" } : Jvm.MethodName) jdk_43_method_13_code (3 : Nat) (Option.some Jvm.ClassFile.FieldType.boolean)).before args0 about1 = true := code_word (m := ⟨11, 2⟩) (meth := k11m2) (c := k11c2) (by decide +kernel) rfl rfl rfl (by decide +kernel)
def codes1 : List Jvm.Cond := [Jvm.Cond.code x code maxLocals ret, Jvm.Cond.code ({ cls := "com/example/nimble_queue/nimblequeue/core/QueueNameOfPinLaw", name := "alnum", desc := "(I)C" } : Jvm.MethodName) method_2_code (2 : Nat) (Option.some Jvm.ClassFile.FieldType.char), Jvm.Cond.code ({ cls := "java/lang/String", name := "<init>", desc := "([C)V" } : Jvm.MethodName) jdk_42_method_3_code (2 : Nat) (Option.none : Option Jvm.ClassFile.FieldType), Jvm.Cond.code ({ cls := "java/lang/String", name := "<init>", desc := "([CIILjava/lang/Void;)V" } : Jvm.MethodName) jdk_42_method_149_code (6 : Nat) (Option.none : Option Jvm.ClassFile.FieldType), Jvm.Cond.code ({ cls := "java/lang/Object", name := "<init>", desc := "()V" } : Jvm.MethodName) object_method_1_code (1 : Nat) (Option.none : Option Jvm.ClassFile.FieldType), Jvm.Cond.code ({ cls := "java/lang/StringUTF16", name := "compress", desc := "([CII)[B" } : Jvm.MethodName) jdk_52_method_16_code (6 : Nat) (Option.some (Jvm.ClassFile.FieldType.array Jvm.ClassFile.FieldType.byte)), Jvm.Cond.code ({ cls := "java/lang/StringUTF16", name := "compress", desc := "([CI[BII)I" } : Jvm.MethodName) jdk_52_method_21_code (7 : Nat) (Option.some Jvm.ClassFile.FieldType.int), Jvm.Cond.code ({ cls := "java/lang/StringUTF16", name := "coderFromArrayLen", desc := "([BI)B" } : Jvm.MethodName) jdk_52_method_15_code (2 : Nat) (Option.some Jvm.ClassFile.FieldType.byte), Jvm.Cond.code ({ cls := "com/example/nimble_queue/nimblequeue/core/QueueName", name := "of", desc := "(Ljava/lang/String;)Lcom/example/nimble_queue/nimblequeue/core/QueueName;" } : Jvm.MethodName) prog_14_method_2_code (4 : Nat) (Option.some (Jvm.ClassFile.FieldType.object "com/example/nimble_queue/nimblequeue/core/QueueName")), Jvm.Cond.code ({ cls := "java/util/Objects", name := "requireNonNull", desc := "(Ljava/lang/Object;Ljava/lang/String;)Ljava/lang/Object;" } : Jvm.MethodName) jdk_31_method_11_code (2 : Nat) (Option.some (Jvm.ClassFile.FieldType.object "java/lang/Object")), Jvm.Cond.code ({ cls := "java/lang/String", name := "length", desc := "()I" } : Jvm.MethodName) jdk_42_method_54_code (1 : Nat) (Option.some Jvm.ClassFile.FieldType.int), Jvm.Cond.code ({ cls := "java/lang/String", name := "coder", desc := "()B" } : Jvm.MethodName) jdk_42_method_152_code (1 : Nat) (Option.some Jvm.ClassFile.FieldType.byte), Jvm.Cond.code ({ cls := "java/lang/String", name := "charAt", desc := "(I)C" } : Jvm.MethodName) jdk_42_method_56_code (2 : Nat) (Option.some Jvm.ClassFile.FieldType.char), Jvm.Cond.code ({ cls := "java/lang/String", name := "isLatin1", desc := "()Z" } : Jvm.MethodName) jdk_42_method_154_code (1 : Nat) (Option.some Jvm.ClassFile.FieldType.boolean), Jvm.Cond.code ({ cls := "java/lang/StringLatin1", name := "charAt", desc := "([BI)C" } : Jvm.MethodName) jdk_43_method_2_code (2 : Nat) (Option.some Jvm.ClassFile.FieldType.char), Jvm.Cond.code ({ cls := "java/lang/String", name := "checkIndex", desc := "(II)V" } : Jvm.MethodName) jdk_42_method_155_code (2 : Nat) (Option.none : Option Jvm.ClassFile.FieldType), Jvm.Cond.code ({ cls := "jdk/internal/util/Preconditions", name := "checkIndex", desc := "(IILjava/util/function/BiFunction;)I" } : Jvm.MethodName) jdk_41_method_11_code (3 : Nat) (Option.some Jvm.ClassFile.FieldType.int), Jvm.Cond.code ({ cls := "com/example/nimble_queue/nimblequeue/core/QueueName", name := "isLowerCaseLetterOrDigit", desc := "(C)Z" } : Jvm.MethodName) prog_14_method_3_code (1 : Nat) (Option.some Jvm.ClassFile.FieldType.boolean), Jvm.Cond.code ({ cls := "com/example/nimble_queue/nimblequeue/core/QueueName", name := "<init>", desc := "(Ljava/lang/String;)V" } : Jvm.MethodName) prog_14_method_1_code (2 : Nat) (Option.none : Option Jvm.ClassFile.FieldType), Jvm.Cond.code ({ cls := "com/example/nimble_queue/nimblequeue/core/QueueName", name := "toString", desc := "()Ljava/lang/String;" } : Jvm.MethodName) prog_14_method_6_code (1 : Nat) (Option.some (Jvm.ClassFile.FieldType.object "java/lang/String")), Jvm.Cond.code ({ cls := "java/lang/String", name := "equals", desc := "(Ljava/lang/Object;)Z" } : Jvm.MethodName) jdk_42_method_66_code (3 : Nat) (Option.some Jvm.ClassFile.FieldType.boolean), Jvm.Cond.code ({ cls := "com/example/nimble_queue/nimblequeue/core/QueueName", name := "equals", desc := "(Ljava/lang/Object;)Z" } : Jvm.MethodName) prog_14_method_4_code (3 : Nat) (Option.some Jvm.ClassFile.FieldType.boolean), Jvm.Cond.code ({ cls := "java/lang/StringLatin1", name := "equals", desc := "([B[B)Z" } : Jvm.MethodName) jdk_43_method_13_code (3 : Nat) (Option.some Jvm.ClassFile.FieldType.boolean)]
set_option maxRecDepth 65536 in
theorem codes_eq : words1.filter isCode = codes1 := rfl
theorem w_codes : ∀ c ∈ words1.filter isCode, c.before args0 about1 = true := by
  rw [codes_eq]
  intro c hc
  simp only [codes1, List.mem_cons, List.not_mem_nil, or_false] at hc
  rcases hc with rfl | rfl | rfl | rfl | rfl | rfl | rfl | rfl | rfl | rfl | rfl | rfl | rfl | rfl | rfl | rfl | rfl | rfl | rfl | rfl | rfl | rfl | rfl
  · exact w_c0
  · exact w_c1
  · exact w_c2
  · exact w_c3
  · exact w_c4
  · exact w_c5
  · exact w_c6
  · exact w_c7
  · exact w_c8
  · exact w_c9
  · exact w_c10
  · exact w_c11
  · exact w_c12
  · exact w_c13
  · exact w_c14
  · exact w_c15
  · exact w_c16
  · exact w_c17
  · exact w_c18
  · exact w_c19
  · exact w_c20
  · exact w_c21
  · exact w_c22
set_option maxRecDepth 65536 in
theorem w_t1 : (words1.take 24).all (fun c => isCode c || c.before args0 about1) = true := by decide +kernel
set_option maxRecDepth 65536 in
theorem w_t2 : ((words1.drop 24).take 24).all (fun c => isCode c || c.before args0 about1) = true := by decide +kernel
set_option maxRecDepth 65536 in
theorem w_t3 : (((words1.drop 24).drop 24).take 24).all (fun c => isCode c || c.before args0 about1) = true := by decide +kernel
set_option maxRecDepth 65536 in
theorem w_t4 : ((((words1.drop 24).drop 24).drop 24).take 24).all (fun c => isCode c || c.before args0 about1) = true := by decide +kernel
set_option maxRecDepth 65536 in
theorem w_t5 : ((((words1.drop 24).drop 24).drop 24).drop 24).all (fun c => isCode c || c.before args0 about1) = true := by decide +kernel
theorem w_tables : (allAtoms (Jvm.Cond.code x code maxLocals ret :: tables_1)).before args0 about1 = true := by
  rw [allAtoms_all]
  show words1.all (fun c => c.before args0 about1) = true
  refine all_split ?_ w_codes
  rw [← List.take_append_drop 24 words1, List.all_append, w_t1, ← List.take_append_drop 24 (words1.drop 24), List.all_append, w_t2, ← List.take_append_drop 24 ((words1.drop 24).drop 24), List.all_append, w_t3, ← List.take_append_drop 24 (((words1.drop 24).drop 24).drop 24), List.all_append, w_t4, w_t5]
  rfl
set_option maxRecDepth 65536 in
theorem w_rest : rest_1_c.before args0 about1 = true := by decide +kernel
set_option maxRecDepth 65536 in
theorem w_case : (Jvm.Cond.and given_1 narrow_1).before args0 about1 = true := by decide +kernel
theorem w_applies : (headSpec (Jvm.Cond.code x code maxLocals ret :: tables_1) room_1).applies x e0.platform about1 = true :=
  (Spec.applies_iff w_frames).mpr ⟨w_running, w_runnable, w_alone, w_named, w_hears, w_ripe, w_room, w_tables⟩
theorem atStart : AtStart classFile x code maxLocals ret World_1 tables_1 room_1 Calls_1 rest_1 Pre_1 launch0 p0 e0 about1 theMethod args0 below0 :=
  ⟨lists_1, trivial, launch0.admits_env _ _ _, launch0.least_env, fairChoices_fair.cas, fairChoices_fair.clock, w_frames, w_args, w_heap, w_applies, trivial, w_rest, w_case⟩
end start1
theorem witness_1 : WitnessClaimed_1 := ⟨start1.p0, start1.e0, start1.about1, start1.theMethod, start1.args0, start1.below0, start1.atStart⟩
end Jvm.Pilot.@@N@@
