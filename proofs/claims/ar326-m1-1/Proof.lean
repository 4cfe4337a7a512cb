import JvmDerived
import JvmDerived.Pilot.@@N@@Statement
import JvmDerived.Pilot.@@N@@Code
set_option linter.unusedVariables false
set_option linter.unusedSimpArgs false
namespace Jvm.RoadKit
open Sem ClassFile Op Lib Jvm.Stand Jvm.Free Jvm.LawKit
section New
variable {p : Program} {l : Launch} {e : Env} {R : Room} {s : State} {m : MethodId} {args : Array Value} {below : List Frame} {meth : Method} {c : Code} {T : State} {locs : List Loc} {cells slots : Nat}
theorem retI (X : Stand p l e R s m args below meth c T locs cells slots) (hx : p.tables.exec = Jvm.exec) {pc : Nat} {Ls : Array Slot} {z : Int32} {rest : List Value} (hret : meth.sig.returnType = some .int) (hd : decode c.code pc = .ok (.ireturn, 1)) {fs : List Frame}
    (hl : ∀ (f : JFrame) (acts : List Action), f.method = m → f.locked = none → f.entered = [] → (doReturn e (T.setTop f) acts (some (.int z))).1 = T.setFrames fs) : Steps p.tables e below (T.setTop (mkF m pc Ls (.int z :: rest))) (T.setFrames fs) := by
  have hm' : T.vm.method? m = some meth := X.method'
  have hn : narrow .int (.int z) = .int z := rfl
  show Steps p.tables e below (T.setTop { method := m, pc := pc, locals := Ls, stack := _ :: rest, locked := none }) _
  jvm_step X.here [X.here.top, hx, hd, hm', hret, hn]
  first | (intro acts; rw [hl _ acts rfl rfl rfl]) | rw [hl _ _ rfl rfl rfl]
  exact Steps.refl _
end New
end Jvm.RoadKit
/- laws to paste: Road.backV, Road.lenW, Road.chN, Road.empW, Road.codOf (cut by pick.py; bodies as the Statement names them) -/
namespace Jvm.Pilot.@@N@@
namespace StrChars
open Jvm Sem ClassFile Op Lib Jvm.Stand Jvm.Free.XT Jvm.Free.ALB Jvm.Free.JM Jvm.Free
open Jvm.Lib.Cold (StaticIs)
/-- a char array whose places are chars -/
def Ch (a : Addr) (A : Cell) (U : State) : Prop := Arr .char a A U ∧ Typed .char A
theorem Ch.mv {a : Addr} {A : Cell} {U U' : State} (h : Ch a A U) (hal : U.vm.Alike U'.vm) (hh : U'.heap = U.heap) : Ch a A U' := ⟨h.1.mv hal hh, h.2⟩
theorem Ch.keep {a : Addr} {A : Cell} {U U' : State} (h : Ch a A U) (hal : U.vm.Alike U'.vm) (hk : U'.heap[a]? = some A) : Ch a A U' := ⟨h.1.keep hal hk, h.2⟩
/-- what place i of a char[]'s cell holds -/
def cv (A : Cell) (i : Nat) : Int32 := match A.slots[i]? with | some (.int x) => x | _ => 0
theorem Ch.get {a : Addr} {A : Cell} {U : State} (h : Ch a A U) {i : Nat} (hi : i < A.slots.size) : A.slots[i]? = some (.int (cv A i)) := by
  have e := Array.getElem?_eq_getElem hi
  have f := h.2 i _ e
  unfold cv; rw [e]
  generalize A.slots[i] = v at f
  cases v <;> simp [fits] at f ⊢
/-- the byte that i2b leaves of a char -/
def lo8 (x : Int32) : Int32 := x.toInt8.toInt32
theorem fits_lo8 (y : Int32) : fits .byte (.int (lo8 y)) = true := by
  have h1 := y.toInt8.le_toInt
  have h2 := y.toInt8.toInt_lt
  simp only [lo8, fits, Bool.and_eq_true, decide_eq_true_eq, Int32.le_iff_toInt_le, Int8.toInt_toInt32, show (-128 : Int32).toInt = -128 from by decide, show (127 : Int32).toInt = 127 from by decide]
  omega
/-- A' is A but that each place j of lo .. hi - 1 holds f j -/
def Laid (A A' : Cell) (lo hi : Nat) (f : Nat → Value) : Prop := A'.cls = A.cls ∧ A'.vm = A.vm ∧ A'.slots.size = A.slots.size ∧ ∀ i, A'.slots[i]? = if lo ≤ i ∧ i < hi then some (f i) else A.slots[i]?
theorem Laid.zero (A : Cell) (lo : Nat) (f : Nat → Value) : Laid A A lo (lo + 0) f := ⟨rfl, rfl, rfl, fun i => by rw [if_neg (by omega)]⟩
theorem Laid.step {A Ak : Cell} {lo k : Nat} {f : Nat → Value} {v : Value} (h : Laid A Ak lo k f) (hlo : lo ≤ k) (hk : k < Ak.slots.size) (hv : v = f k) : Laid A (Ak.setSlot k v) lo (k + 1) f := by
  refine ⟨h.1, h.2.1, by simpa [Cell.setSlot] using h.2.2.1, fun i => ?_⟩
  by_cases e : k = i
  · subst e; rw [Cell.slots_setSlot_self v hk, if_pos (by omega), hv]
  · rw [Cell.slots_setSlot_ne v e, h.2.2.2 i]
    by_cases q : lo ≤ i ∧ i < k
    · rw [if_pos q, if_pos (by omega)]
    · rw [if_neg q, if_neg (by omega)]
def U16 : String := "java/lang/StringUTF16"
namespace Cmp5
def yN : MethodName := ⟨"java/lang/StringUTF16", "compress", "([CI[BII)I"⟩
abbrev yB : ByteArray := jdk_52_method_21_code
theorem d0 : decode yB 0 = .ok (.iconst 0, 1) := by decide +kernel
theorem d1 : decode yB 1 = .ok (.istore 5, 2) := by decide +kernel
theorem d3 : decode yB 3 = .ok (.iload 5, 2) := by decide +kernel
theorem d5 : decode yB 5 = .ok (.iload 4, 2) := by decide +kernel
theorem d7 : decode yB 7 = .ok (.if_icmp (.ge) 37, 3) := by decide +kernel
theorem d10 : decode yB 10 = .ok (.aload_n 0, 1) := by decide +kernel
theorem d11 : decode yB 11 = .ok (.iload_n 1, 1) := by decide +kernel
theorem d12 : decode yB 12 = .ok (.caload, 1) := by decide +kernel
theorem d13 : decode yB 13 = .ok (.istore 6, 2) := by decide +kernel
theorem d15 : decode yB 15 = .ok (.iload 6, 2) := by decide +kernel
theorem d17 : decode yB 17 = .ok (.sipush 255, 3) := by decide +kernel
theorem d20 : decode yB 20 = .ok (.if_icmp (.le) 6, 3) := by decide +kernel
theorem d26 : decode yB 26 = .ok (.aload_n 2, 1) := by decide +kernel
theorem d27 : decode yB 27 = .ok (.iload_n 3, 1) := by decide +kernel
theorem d28 : decode yB 28 = .ok (.iload 6, 2) := by decide +kernel
theorem d30 : decode yB 30 = .ok (.i2b, 1) := by decide +kernel
theorem d31 : decode yB 31 = .ok (.bastore, 1) := by decide +kernel
theorem d32 : decode yB 32 = .ok (.iinc 1 1, 3) := by decide +kernel
theorem d35 : decode yB 35 = .ok (.iinc 3 1, 3) := by decide +kernel
theorem d38 : decode yB 38 = .ok (.iinc 5 1, 3) := by decide +kernel
theorem d41 : decode yB 41 = .ok (.goto (-38), 3) := by decide +kernel
theorem d44 : decode yB 44 = .ok (.iload 4, 2) := by decide +kernel
theorem d46 : decode yB 46 = .ok (.ireturn, 1) := by decide +kernel
def site : List Cond := []
def tab : Cond := tabOf yN yB 7 (some .int) site
def P (b : Addr) (A : Cell) (d : Addr) (B : Cell) (o q len : Nat) (args : Array Value) (s : State) : Prop := args = #[.ref b, .int (Int32.ofNat o), .ref d, .int (Int32.ofNat q), .int (Int32.ofNat len)] ∧ Ch b A s ∧ Arr .byte d B s ∧ b ≠ d ∧ o + len ≤ A.slots.size ∧ q + len ≤ B.slots.size ∧ ∀ i, i < len → ¬ 255 < cv A (o + i)
def E (b : Addr) (A : Cell) (d : Addr) (B : Cell) (o q len : Nat) (r : Option Value) (s u : State) : Prop := r = some (.int (Int32.ofNat len)) ∧ ∃ B', Put d B' s u ∧ Laid B B' q (q + len) (fun j => Value.int (lo8 (cv A (o + (j - q)))))
/-- no char of the range above 255: len; the places written hold each char's low byte -/
theorem law (l : Launch) (b : Addr) (A : Cell) (d : Addr) (B : Cell) (o q len : Nat) : Law l yN 5 5 0 0 yB 7 (some .int) site (P b A d B o q len) (E b A d B o q len) (copyLocs d q len) 0 0 := by
  refine Law.of_walk (plainFor_of_name (by decide +kernel)) (by decide +kernel) (by decide +kernel) (by decide) (fun _ _ h => by rw [h.1]; rfl) (fun _ U U' hal hh h => ⟨h.1, h.2.1.mv hal hh, h.2.2.1.mv hal hh, h.2.2.2⟩) (fun r U U' V V' h1 hal h2 h => ⟨h.1, h.2.elim fun B' q => ⟨B', q.1.mv h1 h2, q.2⟩⟩) ?_
  intro p e s m args below meth c s₁ X0 hexec hbytes hml hret hlk hnm hown hh0 W hP
  obtain ⟨rfl, hA, hB, hne, l1, l2, hp⟩ := hP
  have c1 : Steps p.tables e below (s₁.setTop (entryFrame m #[.ref b, .int (Int32.ofNat o), .ref d, .int (Int32.ofNat q), .int (Int32.ofNat len)] 7)) (s₁.setTop (mkF m 0 #[.val (.ref b), .val (.int (Int32.ofNat o)), .val (.ref d), .val (.int (Int32.ofNat q)), .val (.int (Int32.ofNat len)), .unset, .unset] [])) := entry rfl
  have hA0 := hA.1.mv X0.warmed.alike hh0
  have hB0 := hB.mv X0.warmed.alike hh0
  have a31 := hA.1.2.2.2
  have c2 : Steps p.tables e below (s₁.setTop (entryFrame m #[.ref b, .int (Int32.ofNat o), .ref d, .int (Int32.ofNat q), .int (Int32.ofNat len)] 7)) (s₁.setTop (mkF m 3 #[.val (.ref b), .val (.int (Int32.ofNat o)), .val (.ref d), .val (.int (Int32.ofNat q)), .val (.int (Int32.ofNat len)), .val (.int 0), .unset] [])) := c1.trans (by
    refine iconstV X0.here hexec rfl 0 (hb hbytes d0) (by decide) ?_
    refine XS.istore X0.here hexec rfl (hb hbytes d1) rfl rfl ?_
    exact Steps.refl _)
  have loop : ∀ (r i : Nat), i + r = len → ∀ (z : Slot), (z = .unset ∨ ∃ w, z = .val w ∧ w.category = 1) → ∀ (Tl : State) (Bk : Cell), Stand p l e { frames := 0, locals := 0, cells := 0, slots := 0 } s m #[.ref b, .int (Int32.ofNat o), .ref d, .int (Int32.ofNat q), .int (Int32.ofNat len)] below meth c Tl ([] ++ copyLocs d q i) 0 0 → Put d Bk s₁ Tl → Laid B Bk q (q + i) (fun j => Value.int (lo8 (cv A (o + (j - q))))) →
      Steps p.tables e below (s₁.setTop (entryFrame m #[.ref b, .int (Int32.ofNat o), .ref d, .int (Int32.ofNat q), .int (Int32.ofNat len)] 7)) (Tl.setTop (mkF m 3 #[.val (.ref b), .val (.int (Int32.ofNat (o + i))), .val (.ref d), .val (.int (Int32.ofNat (q + i))), .val (.int (Int32.ofNat len)), .val (.int (Int32.ofNat i)), z] [])) → ∃ (T' : State) (B' : Cell) (z' : Slot), Stand p l e { frames := 0, locals := 0, cells := 0, slots := 0 } s m #[.ref b, .int (Int32.ofNat o), .ref d, .int (Int32.ofNat q), .int (Int32.ofNat len)] below meth c T' ([] ++ copyLocs d q len) 0 0 ∧ Put d B' s₁ T' ∧ Laid B B' q (q + len) (fun j => Value.int (lo8 (cv A (o + (j - q))))) ∧
      Steps p.tables e below (s₁.setTop (entryFrame m #[.ref b, .int (Int32.ofNat o), .ref d, .int (Int32.ofNat q), .int (Int32.ofNat len)] 7)) (T'.setTop (mkF m 3 #[.val (.ref b), .val (.int (Int32.ofNat (o + len))), .val (.ref d), .val (.int (Int32.ofNat (q + len))), .val (.int (Int32.ofNat len)), .val (.int (Int32.ofNat len)), z'] [])) := by
    intro r
    induction r with
    | zero =>
      intro i hi z hz Tl Bk Xl pl fl cl
      have hil : i = len := by omega
      rw [hil] at Xl fl cl
      exact ⟨Tl, Bk, z, Xl, pl, fl, cl⟩
    | succ r ih =>
      intro i hi z hz Tl Bk Xl pl fl cl
      have all := X0.warmed.alike.symm.trans Xl.warmed.alike
      have hAl := hA0.keep all (pl.other hne hA0.1)
      have hBk := hB0.like all pl.1 fl.1 fl.2.1 fl.2.2.1
      have hlt : q + i < Bk.slots.size := by rw [fl.2.2.1]; omega
      have c3 : Steps p.tables e below (s₁.setTop (entryFrame m #[.ref b, .int (Int32.ofNat o), .ref d, .int (Int32.ofNat q), .int (Int32.ofNat len)] 7)) (Tl.setTop (mkF m 12 #[.val (.ref b), .val (.int (Int32.ofNat (o + i))), .val (.ref d), .val (.int (Int32.ofNat (q + i))), .val (.int (Int32.ofNat len)), .val (.int (Int32.ofNat i)), z] [.int (Int32.ofNat (o + i)), .ref b])) := cl.trans (by
        refine XS.iload Xl.here hexec rfl (hb hbytes d3) rfl ?_
        refine XS.iload Xl.here hexec rfl (hb hbytes d5) rfl ?_
        refine XS.icmpNo Xl.here hexec rfl (hb hbytes d7) rfl (ii_ge_f (lt32 (by omega) (by omega))) ?_
        refine XS.aloadN Xl.here hexec rfl (hb hbytes d10) rfl rfl ?_
        refine XS.iloadN Xl.here hexec rfl (hb hbytes d11) rfl ?_
        exact Steps.refl _)
      have c4 : Steps p.tables e below (s₁.setTop (entryFrame m #[.ref b, .int (Int32.ofNat o), .ref d, .int (Int32.ofNat q), .int (Int32.ofNat len)] 7)) (Tl.setTop (mkF m 13 #[.val (.ref b), .val (.int (Int32.ofNat (o + i))), .val (.ref d), .val (.int (Int32.ofNat (q + i))), .val (.int (Int32.ofNat len)), .val (.int (Int32.ofNat i)), z] [.int (cv A (o + i))])) := c3.trans (by
        refine Xl.aget hexec hAl rfl (hA.get (i := o + i) (by omega)) rfl rfl (hb hbytes d12) ?_
        exact Steps.refl _)
      have c5 : Steps p.tables e below (s₁.setTop (entryFrame m #[.ref b, .int (Int32.ofNat o), .ref d, .int (Int32.ofNat q), .int (Int32.ofNat len)] 7)) (Tl.setTop (mkF m 15 #[.val (.ref b), .val (.int (Int32.ofNat (o + i))), .val (.ref d), .val (.int (Int32.ofNat (q + i))), .val (.int (Int32.ofNat len)), .val (.int (Int32.ofNat i)), .val (.int (cv A (o + i)))] [])) := c4.trans (by
        refine XS.istoreS Xl.here hexec rfl (hb hbytes d13) rfl rfl hz ?_
        exact Steps.refl _)
      have c6 : Steps p.tables e below (s₁.setTop (entryFrame m #[.ref b, .int (Int32.ofNat o), .ref d, .int (Int32.ofNat q), .int (Int32.ofNat len)] 7)) (Tl.setTop (mkF m 31 #[.val (.ref b), .val (.int (Int32.ofNat (o + i))), .val (.ref d), .val (.int (Int32.ofNat (q + i))), .val (.int (Int32.ofNat len)), .val (.int (Int32.ofNat i)), .val (.int (cv A (o + i)))] [.int (lo8 (cv A (o + i))), .int (Int32.ofNat (q + i)), .ref d])) := c5.trans (by
        refine XS.iload Xl.here hexec rfl (hb hbytes d15) rfl ?_
        refine sipushV Xl.here hexec rfl 255 (hb hbytes d17) (by decide) ?_
        refine XS.icmpYes Xl.here hexec rfl (pc0 := 20) rfl (hb hbytes d20) rfl (ii_le_t (hp i (by omega))) (by decide) rfl ?_
        refine XS.aloadN Xl.here hexec rfl (hb hbytes d26) rfl rfl ?_
        refine XS.iloadN Xl.here hexec rfl (hb hbytes d27) rfl ?_
        refine XS.iload Xl.here hexec rfl (hb hbytes d28) rfl ?_
        refine i2b Xl.here hexec rfl (hb hbytes d30) rfl ?_
        exact Steps.refl _)
      obtain ⟨T7, X7, p7, st7⟩ := Xl.aput hexec hBk rfl hlt rfl (fits_lo8 (cv A (o + i))) (g := (mkF m 31 #[.val (.ref b), .val (.int (Int32.ofNat (o + i))), .val (.ref d), .val (.int (Int32.ofNat (q + i))), .val (.int (Int32.ofNat len)), .val (.int (Int32.ofNat i)), .val (.int (cv A (o + i)))] [.int (lo8 (cv A (o + i))), .int (Int32.ofNat (q + i)), .ref d])) rfl (rest := []) rfl (hb hbytes d31)
      have c8 : Steps p.tables e below (s₁.setTop (entryFrame m #[.ref b, .int (Int32.ofNat o), .ref d, .int (Int32.ofNat q), .int (Int32.ofNat len)] 7)) (T7.setTop (mkF m 32 #[.val (.ref b), .val (.int (Int32.ofNat (o + i))), .val (.ref d), .val (.int (Int32.ofNat (q + i))), .val (.int (Int32.ofNat len)), .val (.int (Int32.ofNat i)), .val (.int (cv A (o + i)))] [])) := c6.trans (st7 _ (Steps.refl _))
      have c9 : Steps p.tables e below (s₁.setTop (entryFrame m #[.ref b, .int (Int32.ofNat o), .ref d, .int (Int32.ofNat q), .int (Int32.ofNat len)] 7)) (T7.setTop (mkF m 3 #[.val (.ref b), .val (.int (Int32.ofNat (o + i) + 1)), .val (.ref d), .val (.int (Int32.ofNat (q + i) + 1)), .val (.int (Int32.ofNat len)), .val (.int (Int32.ofNat i + 1)), .val (.int (cv A (o + i)))] [])) := c8.trans (by
        refine iincV X7.here hexec rfl 1 (hb hbytes d32) (by decide) rfl rfl ?_
        refine iincV X7.here hexec rfl 1 (hb hbytes d35) (by decide) rfl rfl ?_
        refine iincV X7.here hexec rfl 1 (hb hbytes d38) (by decide) rfl rfl ?_
        refine XS.goto X7.here hexec rfl (pc0 := 41) rfl (hb hbytes d41) (by decide) rfl ?_
        exact Steps.refl _)
      have c10 : Steps p.tables e below (s₁.setTop (entryFrame m #[.ref b, .int (Int32.ofNat o), .ref d, .int (Int32.ofNat q), .int (Int32.ofNat len)] 7)) (T7.setTop (mkF m 3 #[.val (.ref b), .val (.int (Int32.ofNat (o + (i + 1)))), .val (.ref d), .val (.int (Int32.ofNat (q + (i + 1)))), .val (.int (Int32.ofNat len)), .val (.int (Int32.ofNat (i + 1))), .val (.int (cv A (o + i)))] [])) := by
        have := c9
        rw [succ32, succ32, succ32] at this
        exact this
      exact ih (i + 1) (by omega) _ (Or.inr ⟨_, rfl, rfl⟩) T7 _ (by rw [copyLocs_step, ← List.append_assoc]; exact X7) (pl.trans p7) (fl.step (by omega) hlt (by simp)) c10
  obtain ⟨T9, B9, z9, X9, p9, f9, g9⟩ := loop len 0 (by omega) .unset (Or.inl rfl) s₁ B (by simpa [copyLocs] using X0) ⟨hB0.1, fun _ _ => rfl, rfl⟩ (Laid.zero _ _ _) c2
  have c11 : Steps p.tables e below (s₁.setTop (entryFrame m #[.ref b, .int (Int32.ofNat o), .ref d, .int (Int32.ofNat q), .int (Int32.ofNat len)] 7)) (T9.setTop (mkF m 46 #[.val (.ref b), .val (.int (Int32.ofNat (o + len))), .val (.ref d), .val (.int (Int32.ofNat (q + len))), .val (.int (Int32.ofNat len)), .val (.int (Int32.ofNat len)), z9] [.int (Int32.ofNat len)])) := g9.trans (by
    refine XS.iload X9.here hexec rfl (hb hbytes d3) rfl ?_
    refine XS.iload X9.here hexec rfl (hb hbytes d5) rfl ?_
    refine XS.icmpYes X9.here hexec rfl (pc0 := 7) rfl (hb hbytes d7) rfl (ii_ge_t (nlt32 (by omega) (Nat.le_refl _))) (by decide) rfl ?_
    refine XS.iload X9.here hexec rfl (hb hbytes d44) rfl ?_
    exact Steps.refl _)
  exact ⟨T9, some (.int (Int32.ofNat len)), _, _, _, X9, by simp, rfl, rfl, (fun h => by cases h), ⟨rfl, B9, p9.from hh0, f9⟩, fun fs hl => c11.trans (X9.ireturnOut hexec hret rfl (Or.inl rfl) (hb hbytes d46) hl)⟩
end Cmp5
namespace Cmp3
def yN : MethodName := ⟨"java/lang/StringUTF16", "compress", "([CII)[B"⟩
abbrev yB : ByteArray := jdk_52_method_16_code
theorem d0 : decode yB 0 = .ok (.iload_n 2, 1) := by decide +kernel
theorem d1 : decode yB 1 = .ok (.newarray .byte, 2) := by decide +kernel
theorem d3 : decode yB 3 = .ok (.astore_n 3, 1) := by decide +kernel
theorem d4 : decode yB 4 = .ok (.aload_n 0, 1) := by decide +kernel
theorem d5 : decode yB 5 = .ok (.iload_n 1, 1) := by decide +kernel
theorem d6 : decode yB 6 = .ok (.aload_n 3, 1) := by decide +kernel
theorem d7 : decode yB 7 = .ok (.iconst 0, 1) := by decide +kernel
theorem d8 : decode yB 8 = .ok (.iload_n 2, 1) := by decide +kernel
theorem d9 : decode yB 9 = .ok (.invokestatic 115, 3) := by decide +kernel
theorem d12 : decode yB 12 = .ok (.istore 4, 2) := by decide +kernel
theorem d14 : decode yB 14 = .ok (.iload 4, 2) := by decide +kernel
theorem d16 : decode yB 16 = .ok (.iload_n 2, 1) := by decide +kernel
theorem d17 : decode yB 17 = .ok (.if_icmp (.eq) 40, 3) := by decide +kernel
theorem d57 : decode yB 57 = .ok (.aload_n 3, 1) := by decide +kernel
theorem d58 : decode yB 58 = .ok (.areturn, 1) := by decide +kernel
def site : List Cond := [.arrayClass .byte, Cmp5.tab] ++ staticW U16 115 Cmp5.yN
def tab : Cond := tabOf yN yB 6 (some (.array .byte)) site
def P (b : Addr) (A : Cell) (o len : Nat) (args : Array Value) (s : State) : Prop := args = #[.ref b, .int (Int32.ofNat o), .int (Int32.ofNat len)] ∧ Ch b A s ∧ o + len ≤ A.slots.size ∧ len ≤ 536870912 ∧ ∀ i, i < len → ¬ 255 < cv A (o + i)
def E (b : Addr) (A : Cell) (o len : Nat) (r : Option Value) (s u : State) : Prop := NewArr .byte "[B" len (fun j => .int (lo8 (cv A (o + j)))) r s u ∧ u.heap.size = s.heap.size + 1
/-- no char of the range above 255: a new byte[] of their low bytes -/
theorem law (l : Launch) (b : Addr) (A : Cell) (o len : Nat) : Law l yN 3 3 1 18 yB 6 (some (.array .byte)) site (P b A o len) (E b A o len) [] 1 len := by
  refine Law.of_walk (plainFor_of_name (by decide +kernel)) (by decide +kernel) (by decide +kernel) (by decide) (fun _ _ h => by rw [h.1]; rfl) (fun _ U U' hal hh h => ⟨h.1, h.2.1.mv hal hh, h.2.2⟩) (fun r U U' V V' h1 hal h2 h => ⟨NewArr.mv r U U' V V' h1 hal h2 h.1, by rw [h1, h2]; exact h.2⟩) ?_
  intro p e s m args below meth c s₁ X0 hexec hbytes hml hret hlk hnm hown hh0 W hP
  obtain ⟨rfl, hA, l1, l2, hp⟩ := hP
  have a31 := hA.1.2.2.2
  have c1 : Steps p.tables e below (s₁.setTop (entryFrame m #[.ref b, .int (Int32.ofNat o), .int (Int32.ofNat len)] 6)) (s₁.setTop (mkF m 0 #[.val (.ref b), .val (.int (Int32.ofNat o)), .val (.int (Int32.ofNat len)), .unset, .unset, .unset] [])) := entry rfl
  have c2 : Steps p.tables e below (s₁.setTop (entryFrame m #[.ref b, .int (Int32.ofNat o), .int (Int32.ofNat len)] 6)) (s₁.setTop (mkF m 1 #[.val (.ref b), .val (.int (Int32.ofNat o)), .val (.int (Int32.ofNat len)), .unset, .unset, .unset] [.int (Int32.ofNat len)])) := c1.trans (by
    refine XS.iloadN X0.here hexec rfl (hb hbytes d0) rfl ?_
    exact Steps.refl _)
  obtain ⟨T3, B3, X3, ba3, bs3, bv3, bh3, bf3, st3⟩ := X0.anew hexec (atype := .byte) (wk W (.arrayClass .byte)) rfl (by show len * 1 ≤ _; omega) (by omega) (g := (mkF m 1 #[.val (.ref b), .val (.int (Int32.ofNat o)), .val (.int (Int32.ofNat len)), .unset, .unset, .unset] [.int (Int32.ofNat len)])) rfl (hb hbytes d1) (rest := []) rfl (Nat.le_refl _) (by show 0 + len ≤ len; omega)
  rw [hh0] at ba3 st3
  have kp3 : XT.Kept s T3 := (XT.Kept.of_eq hh0).push bh3
  have hA3 := hA.keep X3.warmed.alike (kp3 _ _ hA.1.1)
  have hne : b ≠ s.heap.size := hA.1.ne
  have c4 : Steps p.tables e below (s₁.setTop (entryFrame m #[.ref b, .int (Int32.ofNat o), .int (Int32.ofNat len)] 6)) (T3.setTop (mkF m 3 #[.val (.ref b), .val (.int (Int32.ofNat o)), .val (.int (Int32.ofNat len)), .unset, .unset, .unset] [.ref s.heap.size])) := c2.trans (st3 _ (Steps.refl _))
  have c5 : Steps p.tables e below (s₁.setTop (entryFrame m #[.ref b, .int (Int32.ofNat o), .int (Int32.ofNat len)] 6)) (T3.setTop (mkF m 9 #[.val (.ref b), .val (.int (Int32.ofNat o)), .val (.int (Int32.ofNat len)), .val (.ref s.heap.size), .unset, .unset] [.int (Int32.ofNat len), .int 0, .ref s.heap.size, .int (Int32.ofNat o), .ref b])) := c4.trans (by
    refine XS.astoreN X3.here hexec rfl (hb hbytes d3) rfl rfl rfl ?_
    refine XS.aloadN X3.here hexec rfl (hb hbytes d4) rfl rfl ?_
    refine XS.iloadN X3.here hexec rfl (hb hbytes d5) rfl ?_
    refine XS.aloadN X3.here hexec rfl (hb hbytes d6) rfl rfl ?_
    refine iconstV X3.here hexec rfl 0 (hb hbytes d7) (by decide) ?_
    refine XS.iloadN X3.here hexec rfl (hb hbytes d8) rfl ?_
    exact Steps.refl _)
  obtain ⟨v6, T6, X6, E6, g6⟩ := X3.callS hexec (Cmp5.law l b A s.heap.size B3 o 0 len) hown (wks W (staticW U16 115 Cmp5.yN)) (wk W Cmp5.tab) (W := 0) (Nat.le_of_ble_eq_true rfl) (Nat.le_of_ble_eq_true rfl) (Nat.le_refl _) (by show 0 + len + 0 ≤ len; omega) (g := (mkF m 9 #[.val (.ref b), .val (.int (Int32.ofNat o)), .val (.int (Int32.ofNat len)), .val (.ref s.heap.size), .unset, .unset] [.int (Int32.ofNat len), .int (Int32.ofNat 0), .ref s.heap.size, .int (Int32.ofNat o), .ref b])) rfl (by rw [hml]; rfl) c5 (argsL := [.ref b, .int (Int32.ofNat o), .ref s.heap.size, .int (Int32.ofNat 0), .int (Int32.ofNat len)]) (rest := []) rfl rfl (by show 2 * 0 + 0 ≤ _; decide) (hb hbytes d9) (⟨rfl, hA3, ba3, hne, l1, by rw [bs3]; simp, hp⟩)
  obtain ⟨rfl, B6, p6, f6⟩ := E6
  have c7 : Steps p.tables e below (s₁.setTop (entryFrame m #[.ref b, .int (Int32.ofNat o), .int (Int32.ofNat len)] 6)) (T6.setTop (mkF m 12 #[.val (.ref b), .val (.int (Int32.ofNat o)), .val (.int (Int32.ofNat len)), .val (.ref s.heap.size), .unset, .unset] [.int (Int32.ofNat len)])) := g6
  have c8 : Steps p.tables e below (s₁.setTop (entryFrame m #[.ref b, .int (Int32.ofNat o), .int (Int32.ofNat len)] 6)) (T6.setTop (mkF m 58 #[.val (.ref b), .val (.int (Int32.ofNat o)), .val (.int (Int32.ofNat len)), .val (.ref s.heap.size), .val (.int (Int32.ofNat len)), .unset] [.ref s.heap.size])) := c7.trans (by
    refine XS.istore X6.here hexec rfl (hb hbytes d12) rfl rfl ?_
    refine XS.iload X6.here hexec rfl (hb hbytes d14) rfl ?_
    refine XS.iloadN X6.here hexec rfl (hb hbytes d16) rfl ?_
    refine XS.icmpYes X6.here hexec rfl (pc0 := 17) rfl (hb hbytes d17) rfl (ii_eq_t rfl) (by decide) rfl ?_
    refine XS.aloadN X6.here hexec rfl (hb hbytes d57) rfl rfl ?_
    exact Steps.refl _)
  have X8 := X6.wide (L' := []) (cells' := 1) (slots' := len) (fun x hx hlt => by
    simp only [List.nil_append, copyLocs, List.mem_map, List.mem_range] at hx
    obtain ⟨i, -, rfl⟩ := hx
    exact absurd hlt (Nat.lt_irrefl _)) (Nat.le_refl _) (by omega)
  exact ⟨T6, some (.ref s.heap.size), _, _, _, X8, rfl, rfl, rfl, (fun h => by cases h), ⟨⟨rfl, B6, ba3.like (X3.warmed.alike.symm.trans X6.warmed.alike) p6.1 f6.1 f6.2.1 f6.2.2.1, f6.2.1.trans bv3, by rw [X6.warmed.alike.findClass, f6.1]; exact bf3, by rw [f6.2.2.1, bs3]; simp, fun j hj => by rw [f6.2.2.2 j, if_pos (by omega)]; rfl, kp3.put p6 (Nat.le_refl _)⟩, by rw [p6.2.2, bh3, hh0]; simp⟩, fun fs hl => c8.trans (X8.areturnOut hexec rfl hret rfl (hb hbytes d58) hl)⟩
end Cmp3
namespace CodL
def yN : MethodName := ⟨"java/lang/StringUTF16", "coderFromArrayLen", "([BI)B"⟩
abbrev yB : ByteArray := jdk_52_method_15_code
theorem d0 : decode yB 0 = .ok (.iload_n 1, 1) := by decide +kernel
theorem d1 : decode yB 1 = .ok (.aload_n 0, 1) := by decide +kernel
theorem d2 : decode yB 2 = .ok (.arraylength, 1) := by decide +kernel
theorem d3 : decode yB 3 = .ok (.isub, 1) := by decide +kernel
theorem d4 : decode yB 4 = .ok (.bipush 31, 2) := by decide +kernel
theorem d6 : decode yB 6 = .ok (.iushr, 1) := by decide +kernel
theorem d7 : decode yB 7 = .ok (.i2b, 1) := by decide +kernel
theorem d8 : decode yB 8 = .ok (.ireturn, 1) := by decide +kernel
def site : List Cond := []
def tab : Cond := tabOf yN yB 2 (some .byte) site
def P (d : Addr) (B : Cell) (args : Array Value) (s : State) : Prop := args = #[.ref d, .int (Int32.ofNat B.slots.size)] ∧ Arr .byte d B s
def E (r : Option Value) (s u : State) : Prop := XT.PureE (some (.int 0)) r s u
/-- an array as long as the number of chars: LATIN1 -/
theorem law (l : Launch) (d : Addr) (B : Cell) : Law l yN 2 2 0 0 yB 2 (some .byte) site (P d B) E [] 0 0 := by
  refine Law.of_walk (plainFor_of_name (by decide +kernel)) (by decide +kernel) (by decide +kernel) (by decide) (fun _ _ h => by rw [h.1]; rfl) (fun _ U U' hal hh h => ⟨h.1, h.2.mv hal hh⟩) (fun r U U' V V' h1 hal h2 h => XT.PureE.mv r U U' V V' h1 hal h2 h) ?_
  intro p e s m args below meth c s₁ X0 hexec hbytes hml hret hlk hnm hown hh0 W hP
  obtain ⟨rfl, hB⟩ := hP
  have hB0 := hB.mv X0.warmed.alike hh0
  have c1 : Steps p.tables e below (s₁.setTop (entryFrame m #[.ref d, .int (Int32.ofNat B.slots.size)] 2)) (s₁.setTop (mkF m 0 #[.val (.ref d), .val (.int (Int32.ofNat B.slots.size))] [])) := entry rfl
  have c2 : Steps p.tables e below (s₁.setTop (entryFrame m #[.ref d, .int (Int32.ofNat B.slots.size)] 2)) (s₁.setTop (mkF m 2 #[.val (.ref d), .val (.int (Int32.ofNat B.slots.size))] [.ref d, .int (Int32.ofNat B.slots.size)])) := c1.trans (by
    refine XS.iloadN X0.here hexec rfl (hb hbytes d0) rfl ?_
    refine XS.aloadN X0.here hexec rfl (hb hbytes d1) rfl rfl ?_
    exact Steps.refl _)
  have c3 : Steps p.tables e below (s₁.setTop (entryFrame m #[.ref d, .int (Int32.ofNat B.slots.size)] 2)) (s₁.setTop (mkF m 8 #[.val (.ref d), .val (.int (Int32.ofNat B.slots.size))] [.int (lo8 (ushr (Int32.ofNat B.slots.size - Int32.ofNat B.slots.size) 31))])) := c2.trans (by
    refine X0.alen hexec hB0 rfl rfl (hb hbytes d2) ?_
    refine XS.isub X0.here hexec rfl (hb hbytes d3) rfl ?_
    refine bipushV X0.here hexec rfl 31 (hb hbytes d4) (by decide) ?_
    refine iushr X0.here hexec rfl (hb hbytes d6) rfl ?_
    refine i2b X0.here hexec rfl (hb hbytes d7) rfl ?_
    exact Steps.refl _)
  have e0 : lo8 (ushr (Int32.ofNat B.slots.size - Int32.ofNat B.slots.size) 31) = 0 := by rw [Int32.sub_self]; decide
  rw [e0] at c3
  exact ⟨s₁, some (.int 0), _, _, _, X0, rfl, rfl, rfl, (fun h => by cases h), ⟨rfl, hh0⟩, fun fs hl => c3.trans (X0.ireturnOut hexec hret rfl (Or.inr (Or.inr (Or.inl rfl))) (hb hbytes d8) hl)⟩
end CodL
/-- the String at a is Latin-1 over a new byte[] (the heap's one new cell): the low bytes of the len chars of A from o on; every cell but a is kept -/
def Got (a : Addr) (D : Cell) (fV fC : Field) (A : Cell) (o len : Nat) (r : Option Value) (s u : State) : Prop := r = none ∧ ∃ D' V : Cell, Blank "java/lang/String" a D' u ∧ Same D D' [fV.slot, fC.slot] ∧ D'.slots[fV.slot]? = some (.ref s.heap.size) ∧ D'.slots[fC.slot]? = some (.int 0) ∧ Arr .byte s.heap.size V u ∧ V.vm = .none ∧ u.vm.findClass "[B" = some V.cls ∧ V.slots.size = len ∧ (∀ j, j < len → V.slots[j]? = some (.int (lo8 (cv A (o + j))))) ∧ (∀ (y : Addr) (c : Cell), y ≠ a → s.heap[y]? = some c → u.heap[y]? = some c) ∧ u.heap.size = s.heap.size + 1
theorem Got.mv {a : Addr} {D A : Cell} {fV fC : Field} {o len : Nat} : ∀ r (U U' V V' : State), U'.heap = U.heap → V.vm.Alike V'.vm → V'.heap = V.heap → Got a D fV fC A o len r U V → Got a D fV fC A o len r U' V' :=
  fun r U U' V V' h1 hal h2 ⟨e0, D', X, a1, a2, a3, a4, a5, a6, a7, a8, a9, a10, a11⟩ => ⟨e0, D', X, a1.mv hal h2, a2, by rw [h1]; exact a3, a4, by rw [h1]; exact a5.mv hal h2, a6, by rw [hal.findClass]; exact a7, a8, a9, by rw [h1, h2]; exact a10, by rw [h1, h2]; exact a11⟩
namespace New4
def yN : MethodName := ⟨"java/lang/String", "<init>", "([CIILjava/lang/Void;)V"⟩
abbrev yB : ByteArray := jdk_42_method_149_code
theorem d0 : decode yB 0 = .ok (.aload_n 0, 1) := by decide +kernel
theorem d1 : decode yB 1 = .ok (.invokespecial 1, 3) := by decide +kernel
theorem d4 : decode yB 4 = .ok (.iload_n 3, 1) := by decide +kernel
theorem d5 : decode yB 5 = .ok (.ifCond (.ne) 22, 3) := by decide +kernel
theorem d27 : decode yB 27 = .ok (.getstatic 38, 3) := by decide +kernel
theorem d30 : decode yB 30 = .ok (.ifCond (.eq) 28, 3) := by decide +kernel
theorem d33 : decode yB 33 = .ok (.aload_n 1, 1) := by decide +kernel
theorem d34 : decode yB 34 = .ok (.iload_n 2, 1) := by decide +kernel
theorem d35 : decode yB 35 = .ok (.iload_n 3, 1) := by decide +kernel
theorem d36 : decode yB 36 = .ok (.invokestatic 177, 3) := by decide +kernel
theorem d39 : decode yB 39 = .ok (.astore 5, 2) := by decide +kernel
theorem d41 : decode yB 41 = .ok (.aload_n 0, 1) := by decide +kernel
theorem d42 : decode yB 42 = .ok (.aload 5, 2) := by decide +kernel
theorem d44 : decode yB 44 = .ok (.iload_n 3, 1) := by decide +kernel
theorem d45 : decode yB 45 = .ok (.invokestatic 47, 3) := by decide +kernel
theorem d48 : decode yB 48 = .ok (.putfield 15, 3) := by decide +kernel
theorem d51 : decode yB 51 = .ok (.aload_n 0, 1) := by decide +kernel
theorem d52 : decode yB 52 = .ok (.aload 5, 2) := by decide +kernel
theorem d54 : decode yB 54 = .ok (.putfield 9, 3) := by decide +kernel
theorem d57 : decode yB 57 = .ok (.return_, 1) := by decide +kernel
def site : List Cond := [.fieldLink "java/lang/String" 38 "java/lang/String" "COMPACT_STRINGS" "Z", Cmp3.tab, CodL.tab, .laysFinal "java/lang/String" "java/lang/String" "value" "[B", .fieldLink "java/lang/String" 9 "java/lang/String" "value" "[B", .laysFinal "java/lang/String" "java/lang/String" "coder" "B", .fieldLink "java/lang/String" 15 "java/lang/String" "coder" "B"] ++ objW "java/lang/String" 1 ++ staticW "java/lang/String" 177 Cmp3.yN ++ staticW "java/lang/String" 47 CodL.yN
def tab : Cond := tabOf yN yB 6 none site
def P (a : Addr) (D : Cell) (fV fC : Field) (b : Addr) (A : Cell) (z : Int32) (o len : Nat) (args : Array Value) (s : State) : Prop := args = #[.ref a, .ref b, .int (Int32.ofNat o), .int (Int32.ofNat len), .null] ∧ Blank "java/lang/String" a D s ∧ Found "java/lang/String" "value" "[B" fV s ∧ Found "java/lang/String" "coder" "B" fC s ∧ Ch b A s ∧ StaticIs s "java/lang/String" "COMPACT_STRINGS" "Z" (.int z) ∧ ¬ z = 0 ∧ 0 < len ∧ o + len ≤ A.slots.size ∧ len ≤ 536870912 ∧ ∀ i, i < len → ¬ 255 < cv A (o + i)
def E (a : Addr) (D : Cell) (fV fC : Field) (A : Cell) (o len : Nat) (r : Option Value) (s u : State) : Prop := Got a D fV fC A o len r s u
/-- len > 0, no char of the range above 255: a Latin-1 String of their low bytes -/
theorem law (l : Launch) (a : Addr) (D : Cell) (fV fC : Field) (b : Addr) (A : Cell) (z : Int32) (o len : Nat) : Law l yN 5 4 2 35 yB 6 none site (P a D fV fC b A z o len) (E a D fV fC A o len) [⟨a, fC.slot⟩, ⟨a, fV.slot⟩] 1 len := by
  refine Law.of_walk (plainFor_of_name (by decide +kernel)) (by decide +kernel) (by decide +kernel) (by decide) (fun _ _ h => by rw [h.1]; rfl) (fun _ U U' hal hh h => ⟨h.1, h.2.1.mv hal hh, h.2.2.1.al hal, h.2.2.2.1.al hal, h.2.2.2.2.1.mv hal hh, h.2.2.2.2.2.1.there hal hh, h.2.2.2.2.2.2⟩) (fun r U U' V V' h1 hal h2 h => Got.mv r U U' V V' h1 hal h2 h) ?_
  intro p e s m args below meth c s₁ X0 hexec hbytes hml hret hlk hnm hown hh0 W hP
  obtain ⟨rfl, hB, f1, f2, hA, s1, hz, l0, l1, l2, hp⟩ := hP
  have a31 := hA.1.2.2.2
  have c1 : Steps p.tables e below (s₁.setTop (entryFrame m #[.ref a, .ref b, .int (Int32.ofNat o), .int (Int32.ofNat len), .null] 6)) (s₁.setTop (mkF m 0 #[.val (.ref a), .val (.ref b), .val (.int (Int32.ofNat o)), .val (.int (Int32.ofNat len)), .val .null, .unset] [])) := entry rfl
  have c2 : Steps p.tables e below (s₁.setTop (entryFrame m #[.ref a, .ref b, .int (Int32.ofNat o), .int (Int32.ofNat len), .null] 6)) (s₁.setTop (mkF m 1 #[.val (.ref a), .val (.ref b), .val (.int (Int32.ofNat o)), .val (.int (Int32.ofNat len)), .val .null, .unset] [.ref a])) := c1.trans (by
    refine XS.aloadN X0.here hexec rfl (hb hbytes d0) rfl rfl ?_
    exact Steps.refl _)
  obtain ⟨T3, X3, q3, st3⟩ := X0.oinit hexec hown (wks W (objW "java/lang/String" 1)) (g := (mkF m 1 #[.val (.ref a), .val (.ref b), .val (.int (Int32.ofNat o)), .val (.int (Int32.ofNat len)), .val .null, .unset] [.ref a])) rfl (by rw [hml]; rfl) (rest := []) rfl (hb hbytes d1) (W := 0) (by show 2 * 0 + 0 ≤ _; decide) (Nat.le_of_ble_eq_true rfl) (Nat.le_of_ble_eq_true rfl)
  have hh3 := q3.trans hh0
  have c4 : Steps p.tables e below (s₁.setTop (entryFrame m #[.ref a, .ref b, .int (Int32.ofNat o), .int (Int32.ofNat len), .null] 6)) (T3.setTop (mkF m 27 #[.val (.ref a), .val (.ref b), .val (.int (Int32.ofNat o)), .val (.int (Int32.ofNat len)), .val .null, .unset] [])) := (c2.trans (st3 _ (Steps.refl _))).trans (by
    refine XS.iloadN X3.here hexec rfl (hb hbytes d4) rfl ?_
    refine XS.ifYes X3.here hexec rfl (pc0 := 5) rfl (hb hbytes d5) rfl (i0_ne_t (nz32 (by omega) l0)) (by decide) rfl ?_
    exact Steps.refl _)
  obtain ⟨T5, X5, q5, st5⟩ := X3.sget hexec hown (wk W (.fieldLink "java/lang/String" 38 "java/lang/String" "COMPACT_STRINGS" "Z")) s1 (fun _ _ h => by rw [hh3]; exact h) (g := (mkF m 27 #[.val (.ref a), .val (.ref b), .val (.int (Int32.ofNat o)), .val (.int (Int32.ofNat len)), .val .null, .unset] [])) rfl (hb hbytes d27)
  have hh5 := q5.trans hh3
  have c6 : Steps p.tables e below (s₁.setTop (entryFrame m #[.ref a, .ref b, .int (Int32.ofNat o), .int (Int32.ofNat len), .null] 6)) (T5.setTop (mkF m 30 #[.val (.ref a), .val (.ref b), .val (.int (Int32.ofNat o)), .val (.int (Int32.ofNat len)), .val .null, .unset] [.int z])) := c4.trans (st5 _ (Steps.refl _))
  have c7 : Steps p.tables e below (s₁.setTop (entryFrame m #[.ref a, .ref b, .int (Int32.ofNat o), .int (Int32.ofNat len), .null] 6)) (T5.setTop (mkF m 36 #[.val (.ref a), .val (.ref b), .val (.int (Int32.ofNat o)), .val (.int (Int32.ofNat len)), .val .null, .unset] [.int (Int32.ofNat len), .int (Int32.ofNat o), .ref b])) := c6.trans (by
    refine XS.ifNo X5.here hexec rfl (hb hbytes d30) rfl (i0_eq_f hz) ?_
    refine XS.aloadN X5.here hexec rfl (hb hbytes d33) rfl rfl ?_
    refine XS.iloadN X5.here hexec rfl (hb hbytes d34) rfl ?_
    refine XS.iloadN X5.here hexec rfl (hb hbytes d35) rfl ?_
    exact Steps.refl _)
  obtain ⟨v8, T8, X8, E8, g8⟩ := X5.callS hexec (Cmp3.law l b A o len) hown (wks W (staticW "java/lang/String" 177 Cmp3.yN)) (wk W Cmp3.tab) (W := 0) (Nat.le_of_ble_eq_true rfl) (Nat.le_of_ble_eq_true rfl) (Nat.le_refl _) (by show 0 + len ≤ len; omega) (g := (mkF m 36 #[.val (.ref a), .val (.ref b), .val (.int (Int32.ofNat o)), .val (.int (Int32.ofNat len)), .val .null, .unset] [.int (Int32.ofNat len), .int (Int32.ofNat o), .ref b])) rfl (by rw [hml]; rfl) c7 (argsL := [.ref b, .int (Int32.ofNat o), .int (Int32.ofNat len)]) (rest := []) rfl rfl (by show 2 * 0 + 0 ≤ _; decide) (hb hbytes d36) (⟨rfl, hA.mv X5.warmed.alike hh5, l1, l2, hp⟩)
  obtain ⟨e8, z8⟩ := E8
  obtain ⟨rfl, N, n1, n2, n3, n4, n5, n6⟩ := NewArr.mv _ T5 s _ _ hh5.symm (Vm.Alike.refl _) rfl e8
  rw [hh5] at z8
  have hB1 := hB.keep X8.warmed.alike (n6 _ _ hB.1)
  have hne : s.heap.size ≠ a := (Nat.ne_of_lt (Array.getElem?_eq_some_iff.mp hB.1).1).symm
  have c9 : Steps p.tables e below (s₁.setTop (entryFrame m #[.ref a, .ref b, .int (Int32.ofNat o), .int (Int32.ofNat len), .null] 6)) (T8.setTop (mkF m 39 #[.val (.ref a), .val (.ref b), .val (.int (Int32.ofNat o)), .val (.int (Int32.ofNat len)), .val .null, .unset] [.ref s.heap.size])) := g8
  have c10 : Steps p.tables e below (s₁.setTop (entryFrame m #[.ref a, .ref b, .int (Int32.ofNat o), .int (Int32.ofNat len), .null] 6)) (T8.setTop (mkF m 45 #[.val (.ref a), .val (.ref b), .val (.int (Int32.ofNat o)), .val (.int (Int32.ofNat len)), .val .null, .val (.ref s.heap.size)] [.int (Int32.ofNat N.slots.size), .ref s.heap.size, .ref a])) := by
    have hc : Steps p.tables e below (s₁.setTop (entryFrame m #[.ref a, .ref b, .int (Int32.ofNat o), .int (Int32.ofNat len), .null] 6)) (T8.setTop (mkF m 45 #[.val (.ref a), .val (.ref b), .val (.int (Int32.ofNat o)), .val (.int (Int32.ofNat len)), .val .null, .val (.ref s.heap.size)] [.int (Int32.ofNat len), .ref s.heap.size, .ref a])) := c9.trans (by
      refine XS.astore X8.here hexec rfl (hb hbytes d39) rfl rfl rfl ?_
      refine XS.aloadN X8.here hexec rfl (hb hbytes d41) rfl rfl ?_
      refine XS.aload X8.here hexec rfl (hb hbytes d42) rfl rfl ?_
      refine XS.iloadN X8.here hexec rfl (hb hbytes d44) rfl ?_
      exact Steps.refl _)
    rw [n4]; exact hc
  obtain ⟨v11, T11, X11, E11, g11⟩ := X8.callS hexec (CodL.law l s.heap.size N) hown (wks W (staticW "java/lang/String" 47 CodL.yN)) (wk W CodL.tab) (W := 1) (Nat.le_of_ble_eq_true rfl) (Nat.le_of_ble_eq_true rfl) (Nat.le_refl _) (by show 0 + len + 0 ≤ len; omega) (g := (mkF m 45 #[.val (.ref a), .val (.ref b), .val (.int (Int32.ofNat o)), .val (.int (Int32.ofNat len)), .val .null, .val (.ref s.heap.size)] [.int (Int32.ofNat N.slots.size), .ref s.heap.size, .ref a])) rfl (by rw [hml]; rfl) c10 (argsL := [.ref s.heap.size, .int (Int32.ofNat N.slots.size)]) (rest := [.ref a]) rfl rfl (by show 2 * 0 + (1 + 0) ≤ _; decide) (hb hbytes d45) (⟨rfl, n1⟩)
  obtain ⟨rfl, q11⟩ := E11
  have hB11 := hB1.mv (X8.warmed.alike.symm.trans X11.warmed.alike) q11
  have c12 : Steps p.tables e below (s₁.setTop (entryFrame m #[.ref a, .ref b, .int (Int32.ofNat o), .int (Int32.ofNat len), .null] 6)) (T11.setTop (mkF m 48 #[.val (.ref a), .val (.ref b), .val (.int (Int32.ofNat o)), .val (.int (Int32.ofNat len)), .val .null, .val (.ref s.heap.size)] [.int 0, .ref a])) := g11
  obtain ⟨T13, X13, p13, bl13, sl13, st13⟩ := X11.finit hexec hown (wk W (.fieldLink "java/lang/String" 15 "java/lang/String" "coder" "B")) (Or.inr ⟨_, (wk W (.laysFinal "java/lang/String" "java/lang/String" "coder" "B"))⟩) (Or.inl ⟨rfl, hnm⟩) f2 (Or.inl rfl) hB11 (t := .byte) (by decide +kernel) rfl (g := (mkF m 48 #[.val (.ref a), .val (.ref b), .val (.int (Int32.ofNat o)), .val (.int (Int32.ofNat len)), .val .null, .val (.ref s.heap.size)] [.int 0, .ref a])) rfl (rest := []) rfl (hb hbytes d48)
  have c14 : Steps p.tables e below (s₁.setTop (entryFrame m #[.ref a, .ref b, .int (Int32.ofNat o), .int (Int32.ofNat len), .null] 6)) (T13.setTop (mkF m 54 #[.val (.ref a), .val (.ref b), .val (.int (Int32.ofNat o)), .val (.int (Int32.ofNat len)), .val .null, .val (.ref s.heap.size)] [.ref s.heap.size, .ref a])) := (c12.trans (st13 _ (Steps.refl _))).trans (by
    refine XS.aloadN X13.here hexec rfl (hb hbytes d51) rfl rfl ?_
    refine XS.aload X13.here hexec rfl (hb hbytes d52) rfl rfl ?_
    exact Steps.refl _)
  obtain ⟨T15, X15, p15, bl15, sl15, st15⟩ := X13.finit hexec hown (wk W (.fieldLink "java/lang/String" 9 "java/lang/String" "value" "[B")) (Or.inr ⟨_, (wk W (.laysFinal "java/lang/String" "java/lang/String" "value" "[B"))⟩) (Or.inl ⟨rfl, hnm⟩) f1 (Or.inl rfl) bl13 (t := (.array .byte)) (by decide +kernel) rfl (g := (mkF m 54 #[.val (.ref a), .val (.ref b), .val (.int (Int32.ofNat o)), .val (.int (Int32.ofNat len)), .val .null, .val (.ref s.heap.size)] [.ref s.heap.size, .ref a])) rfl (rest := []) rfl (hb hbytes d54)
  have c16 : Steps p.tables e below (s₁.setTop (entryFrame m #[.ref a, .ref b, .int (Int32.ofNat o), .int (Int32.ofNat len), .null] 6)) (T15.setTop (mkF m 57 #[.val (.ref a), .val (.ref b), .val (.int (Int32.ofNat o)), .val (.int (Int32.ofNat len)), .val .null, .val (.ref s.heap.size)] [])) := c14.trans (st15 _ (Steps.refl _))
  have ap := apart (Or.inr ⟨_, (wk W (.laysFinal "java/lang/String" "java/lang/String" "value" "[B"))⟩) (Or.inr ⟨_, (wk W (.laysFinal "java/lang/String" "java/lang/String" "coder" "B"))⟩) f1 f2 (t₁ := .array .byte) (t₂ := .byte) (by decide +kernel) (by decide +kernel) (by decide)
  have al := X8.warmed.alike.symm.trans X15.warmed.alike
  have n7 : T11.heap[s.heap.size]? = some N := by rw [q11]; exact n1.1
  exact ⟨T15, none, _, _, _, X15, by simp, rfl, by omega, (fun _ => rfl), ⟨rfl, _, N, bl15, ((Same.refl D _).set _ (by simp)).set _ (by simp), sl15, (Cell.slots_setSlot_ne _ ap).trans sl13, n1.keep al (p15.other hne (p13.other hne n7)), n2, by rw [al.findClass]; exact n3, n4, n5, fun y c h1 h2 => p15.other h1 (p13.other h1 (by rw [q11]; exact n6 y c h2)), by rw [p15.2.2, p13.2.2, q11]; exact z8⟩, fun fs hl => c16.trans (X15.returnOut hexec hret (hb hbytes d57) hl)⟩
end New4
namespace New1
def yN : MethodName := ⟨"java/lang/String", "<init>", "([C)V"⟩
abbrev yB : ByteArray := jdk_42_method_3_code
theorem d0 : decode yB 0 = .ok (.aload_n 0, 1) := by decide +kernel
theorem d1 : decode yB 1 = .ok (.aload_n 1, 1) := by decide +kernel
theorem d2 : decode yB 2 = .ok (.iconst 0, 1) := by decide +kernel
theorem d3 : decode yB 3 = .ok (.aload_n 1, 1) := by decide +kernel
theorem d4 : decode yB 4 = .ok (.arraylength, 1) := by decide +kernel
theorem d5 : decode yB 5 = .ok (.aconst_null, 1) := by decide +kernel
theorem d6 : decode yB 6 = .ok (.invokespecial 27, 3) := by decide +kernel
theorem d9 : decode yB 9 = .ok (.return_, 1) := by decide +kernel
def site : List Cond := [New4.tab] ++ initW "java/lang/String" 27 New4.yN
def tab : Cond := tabOf yN yB 2 none site
def P (a : Addr) (D : Cell) (fV fC : Field) (b : Addr) (A : Cell) (z : Int32) (args : Array Value) (s : State) : Prop := args = #[.ref a, .ref b] ∧ Blank "java/lang/String" a D s ∧ Found "java/lang/String" "value" "[B" fV s ∧ Found "java/lang/String" "coder" "B" fC s ∧ Ch b A s ∧ StaticIs s "java/lang/String" "COMPACT_STRINGS" "Z" (.int z) ∧ ¬ z = 0 ∧ 0 < A.slots.size ∧ A.slots.size ≤ 536870912 ∧ ∀ i, i < A.slots.size → ¬ 255 < cv A i
def E (a : Addr) (D : Cell) (fV fC : Field) (A : Cell) (r : Option Value) (s u : State) : Prop := Got a D fV fC A 0 A.slots.size r s u
/-- new String(chars), not empty, no char above 255: a Latin-1 String of their low bytes -/
theorem law (l : Launch) (a : Addr) (D : Cell) (fV fC : Field) (b : Addr) (A : Cell) (z : Int32) : Law l yN 2 1 3 52 yB 2 none site (P a D fV fC b A z) (E a D fV fC A) [⟨a, fC.slot⟩, ⟨a, fV.slot⟩] 1 A.slots.size := by
  refine Law.of_walk (plainFor_of_name (by decide +kernel)) (by decide +kernel) (by decide +kernel) (by decide) (fun _ _ h => by rw [h.1]; rfl) (fun _ U U' hal hh h => ⟨h.1, h.2.1.mv hal hh, h.2.2.1.al hal, h.2.2.2.1.al hal, h.2.2.2.2.1.mv hal hh, h.2.2.2.2.2.1.there hal hh, h.2.2.2.2.2.2⟩) (fun r U U' V V' h1 hal h2 h => Got.mv r U U' V V' h1 hal h2 h) ?_
  intro p e s m args below meth c s₁ X0 hexec hbytes hml hret hlk hnm hown hh0 W hP
  obtain ⟨rfl, hB, f1, f2, hA, s1, hz, l0, l2, hp⟩ := hP
  have c1 : Steps p.tables e below (s₁.setTop (entryFrame m #[.ref a, .ref b] 2)) (s₁.setTop (mkF m 0 #[.val (.ref a), .val (.ref b)] [])) := entry rfl
  have c2 : Steps p.tables e below (s₁.setTop (entryFrame m #[.ref a, .ref b] 2)) (s₁.setTop (mkF m 6 #[.val (.ref a), .val (.ref b)] [.null, .int (Int32.ofNat A.slots.size), .int 0, .ref b, .ref a])) := c1.trans (by
    refine XS.aloadN X0.here hexec rfl (hb hbytes d0) rfl rfl ?_
    refine XS.aloadN X0.here hexec rfl (hb hbytes d1) rfl rfl ?_
    refine iconstV X0.here hexec rfl 0 (hb hbytes d2) (by decide) ?_
    refine XS.aloadN X0.here hexec rfl (hb hbytes d3) rfl rfl ?_
    refine X0.alen hexec (hA.1.mv X0.warmed.alike hh0) rfl rfl (hb hbytes d4) ?_
    refine XS.aconstNull X0.here hexec rfl (hb hbytes d5) ?_
    exact Steps.refl _)
  obtain ⟨v3, T3, X3, E3, g3⟩ := X0.callN hexec (New4.law l a D fV fC b A z 0 A.slots.size) rfl hown (wks W (initW "java/lang/String" 27 New4.yN)) (W New4.tab (by simp only [site, List.mem_cons, List.mem_append, true_or, or_true])) (W := 0) (Nat.le_of_ble_eq_true rfl) (Nat.le_of_ble_eq_true rfl) (Nat.le_refl _) (by show 0 + A.slots.size ≤ A.slots.size; omega) (g := (mkF m 6 #[.val (.ref a), .val (.ref b)] [.null, .int (Int32.ofNat A.slots.size), .int (Int32.ofNat 0), .ref b, .ref a])) rfl (by rw [hml]; rfl) c2 (argsL := [.ref b, .int (Int32.ofNat 0), .int (Int32.ofNat A.slots.size), .null]) (rest := []) rfl rfl (by show 2 * 0 + 0 ≤ _; decide) (hb hbytes d6) (⟨rfl, hB.mv X0.warmed.alike hh0, f1.al X0.warmed.alike, f2.al X0.warmed.alike, hA.mv X0.warmed.alike hh0, s1.there X0.warmed.alike hh0, hz, l0, by omega, l2, fun i hi => by rw [Nat.zero_add]; exact hp i hi⟩)
  have e0 := Got.mv _ s₁ s _ _ hh0.symm (Vm.Alike.refl _) rfl E3
  obtain rfl := e0.1
  have c4 : Steps p.tables e below (s₁.setTop (entryFrame m #[.ref a, .ref b] 2)) (T3.setTop (mkF m 9 #[.val (.ref a), .val (.ref b)] [])) := g3
  exact ⟨T3, none, _, _, _, X3, by simp, rfl, by omega, (fun _ => rfl), e0, fun fs hl => c4.trans (X3.returnOut hexec hret (hb hbytes d9) hl)⟩
theorem pays {l : Launch} {R : Room} {p : Program} {e : Env} {below : List Frame} {s : State} {sargs : Array Value} {len W : Nat} (a : Addr) (D : Cell) (fV fC : Field) (b : Addr) (A : Cell) (z : Int32) (htab : tab.before sargs s = true) (hfr : 4 ≤ R.frames) (hlo : W + 65 ≤ R.locals) :
    Back l R p e below s sargs yN len W (fun A₁ a₁ => A₁.cells + 1 ≤ R.cells ∧ A₁.slots + A.slots.size ≤ R.slots ∧ P a D fV fC b A z a₁ A₁.U) (fun A₁ _ v₁ B₁ => E a D fV fC A v₁ A₁.U B₁.U ∧ B₁.locs = A₁.locs ++ [⟨a, fC.slot⟩, ⟨a, fV.slot⟩] ∧ B₁.cells = A₁.cells + 1 ∧ B₁.slots = A₁.slots + A.slots.size) :=
  (law l a D fV fC b A z).pays htab hfr (by omega)
end New1
/-- the byte, read back as charAt reads it, is the char -/
theorem lo8_mask {x : Int32} (h0 : ¬ x < 0) (h1 : ¬ 255 < x) : lo8 x &&& 255 = x := by
  have t : ∀ k : Fin 256, lo8 (Int32.ofNat k.val) &&& 255 = Int32.ofNat k.val := by decide +kernel
  rw [Int32.lt_iff_toInt_lt] at h0 h1
  have e0 : (0 : Int32).toInt = 0 := rfl
  have e1 : (255 : Int32).toInt = 255 := rfl
  obtain ⟨k, hk⟩ : ∃ k : Nat, x.toInt = k := ⟨x.toInt.toNat, by omega⟩
  have hx : x = Int32.ofNat k := Int32.toInt_inj.mp (by rw [hk, Int32.toInt_ofNat_small (by omega)])
  rw [hx]
  exact t ⟨k, by omega⟩
end StrChars
namespace StrChars.Road
open Jvm Sem ClassFile Op Lib Jvm.Stand Jvm.Free Jvm.Free.XT
open Jvm.Lib.Cold (StaticIs)
abbrev ST : String := "java/lang/String"
/-- every table word that New1's law asks, flat -/
abbrev words : List Jvm.Cond := [.code New1.yN New1.yB 2 none, .initialized ST, .methodLink ST 27 New4.yN, .instanceMethod New4.yN,
  .code New4.yN New4.yB 6 none, .fieldLink ST 38 ST "COMPACT_STRINGS" "Z", .laysFinal ST ST "value" "[B", .fieldLink ST 9 ST "value" "[B", .laysFinal ST ST "coder" "B", .fieldLink ST 15 ST "coder" "B",
  .methodLink ST 1 Lib.objectInit, .instanceMethod Lib.objectInit, .code Lib.objectInit ⟨#[0xb1]⟩ 1 none, .methodLink ST 177 Cmp3.yN, .static Cmp3.yN, .methodLink ST 47 CodL.yN, .static CodL.yN,
  .code Cmp3.yN Cmp3.yB 6 (some (.array .byte)), .initialized U16, .arrayClass .byte, .methodLink U16 115 Cmp5.yN, .static Cmp5.yN, .code Cmp5.yN Cmp5.yB 7 (some .int), .code CodL.yN CodL.yB 2 (some .byte)]
theorem tab_of {a : Array Value} {s : State} (h : ∀ w ∈ words, w.before a s = true) : New1.tab.before a s = true := by
  have h5 : Cmp5.tab.before a s = true := unparts (wk h (.code Cmp5.yN Cmp5.yB 7 (some .int))) (wks h (.initialized Cmp5.yN.cls :: Cmp5.site))
  have hc : CodL.tab.before a s = true := unparts (wk h (.code CodL.yN CodL.yB 2 (some .byte))) (wks h (.initialized CodL.yN.cls :: CodL.site))
  have q5 : ∀ w ∈ Cmp5.tab :: words, w.before a s = true := fun w hw => (List.mem_cons.mp hw).elim (fun e => e ▸ h5) (h w)
  have h3 : Cmp3.tab.before a s = true := unparts (wk q5 (.code Cmp3.yN Cmp3.yB 6 (some (.array .byte)))) (wks q5 (.initialized Cmp3.yN.cls :: Cmp3.site))
  have q3 : ∀ w ∈ Cmp3.tab :: CodL.tab :: words, w.before a s = true := fun w hw => (List.mem_cons.mp hw).elim (fun e => e ▸ h3) fun hw => (List.mem_cons.mp hw).elim (fun e => e ▸ hc) (h w)
  have h4 : New4.tab.before a s = true := unparts (wk q3 (.code New4.yN New4.yB 6 none)) (wks q3 (.initialized New4.yN.cls :: New4.site))
  have q4 : ∀ w ∈ New4.tab :: words, w.before a s = true := fun w hw => (List.mem_cons.mp hw).elim (fun e => e ▸ h4) (h w)
  exact unparts (wk q4 (.code New1.yN New1.yB 2 none)) (wks q4 (.initialized New1.yN.cls :: New1.site))
/-- the words ride from the start Z to the walk's own state -/
theorem moved {Z s : State} {a0 args : Array Value} (hZ : Z.Warmed39 s.vm) (hw : ∀ d ∈ words, d.before a0 Z = true) : ∀ d ∈ words, d.before args s = true := fun d hd => by
  have q := hw d hd
  have t : ∀ d ∈ words, d = .arrayClass .byte ∨ (d.onTables && d.keepsFace) = true := by decide +kernel
  rcases t d hd with rfl | t
  · exact RoadKit.mvA hZ q
  · exact RoadKit.mv hZ q t
/-- WHAT COMES BACK, over the tables of the start Z: h the heap at the call, h' behind it -/
def Q (Z : State) (x : Addr) (A : Cell) (h : Heap) (v : Option Value) (h' : Heap) (L : List Loc) : Prop := v = none ∧ (∀ y ∈ L, y.base = x) ∧ RoadKit.Keep h h' [x] ∧ h'.size = h.size + 1 ∧ RoadKit.Exa Z h' x ST ∧ RoadKit.Fld Z h' x ST "value" "[B" (.ref h.size) ∧ RoadKit.Fld Z h' x ST "coder" "B" (.int 0) ∧
  (∃ V : Cell, RoadKit.Arr Z h' h.size V .byte ∧ V.vm = .none ∧ Z.vm.findClass "[B" = some V.cls ∧ V.slots.size = A.slots.size ∧ ∀ j, j < A.slots.size → V.slots[j]? = some (.int (lo8 (cv A j)))) ∧
  ∀ (O n d : String) (w : Value), RoadKit.Fld Z h x O n d w → RoadKit.slotOf Z O n d ≠ RoadKit.slotOf Z ST "value" "[B" → RoadKit.slotOf Z O n d ≠ RoadKit.slotOf Z ST "coder" "B" → RoadKit.Fld Z h' x O n d w
/-- **new String(chars) AT A CALL, IN THE ROAD'S FORM**: for specialBack behind newO: x the fresh String, b the char[] with the cell A -/
theorem back {p : Program} {l : Launch} {e : Env} {R : Room} {s : State} {args : Array Value} {below : List Frame} {len W : Nat} {Z : State} {a0 : Array Value} {h : Heap} (hZ : Z.Warmed39 s.vm) (hw : ∀ d ∈ words, d.before a0 Z = true) {kI : Nat} (wi : (Jvm.Cond.instantiable ST kI).before a0 Z = true)
    {x b : Addr} {A : Cell} {z : Int32} {v0 c0 : Value} (E : RoadKit.Exa Z h x ST) (V : RoadKit.Fld Z h x ST "value" "[B" v0) (C : RoadKit.Fld Z h x ST "coder" "B" c0) (K : RoadKit.Arr Z h b A .char) (hty : Typed .char A) (S : RoadKit.Sta Z h ST "COMPACT_STRINGS" "Z" (.int z)) (hz : ¬ z = 0)
    (l0 : 0 < A.slots.size) (l2 : A.slots.size ≤ 536870912) (hp : ∀ i, i < A.slots.size → ¬ 255 < cv A i) (hfr : 4 ≤ R.frames) (hlo : W + 65 ≤ R.locals) :
    Back l R p e below s args New1.yN len W (fun P a => a = #[.ref x, .ref b] ∧ P.U.heap = h ∧ P.cells + 1 ≤ R.cells ∧ P.slots + A.slots.size ≤ R.slots)
      (fun P _ v B => ∃ L, Q Z x A h v B.U.heap L ∧ B.locs = P.locs ++ L ∧ B.cells = P.cells + 1 ∧ B.slots = P.slots + A.slots.size) := by
  intro m meth c P g ig mk a X hg hsize hdg hW hn hp'
  obtain ⟨rfl, rfl, r1, r2⟩ := hp'
  have al : Z.vm.Alike P.U.vm := hZ.alike.trans X.warmed.alike
  obtain ⟨D, cfV, kV, iV, fV, hD, gV, stV, knV, obV, asV, slV⟩ := id V
  obtain ⟨D', cfC, kC, iC, fC, hD', gC, stC, -, -, asC, slC⟩ := id C
  cases hD.symm.trans hD'
  obtain ⟨D2, kD, e1, e2, e3, e4, e5⟩ := id E
  cases hD.symm.trans e1
  obtain ⟨c2, k2, i1, i2, i3, -⟩ := Cond.instantiable_spec wi
  cases e2.symm.trans i1
  cases e3.symm.trans i2
  obtain ⟨kU, u1, u2⟩ := al.2.2 _ _ e3
  have hB : Blank ST x D P.U := ⟨hD, ⟨knV, fun q hq => by rw [hq] at obV; cases obV⟩, by rw [al.findClass]; exact e2, kU, u1, by rw [u2]; exact i3, by rw [u2]; exact e5 i3⟩
  have F1 : Found ST "value" "[B" fV P.U := ⟨SBG.found_only al ⟨cfV, kV, iV, gV⟩, stV⟩
  have F2 : Found ST "coder" "B" fC P.U := ⟨SBG.found_only al ⟨cfC, kC, iC, gC⟩, stC⟩
  have hA : Ch b A P.U := ⟨⟨K.1, State.isArrayOf_alike al K.2.1, K.2.2, by omega⟩, hty⟩
  have hS : StaticIs P.U ST "COMPACT_STRINGS" "Z" (.int z) := by
    obtain ⟨cfS, iS, kS, fS, st, cS, t1, t2, t3, t4, t5, t6, t7⟩ := S
    exact StaticIs.there (s := { Z with heap := P.U.heap }) ⟨cfS, iS, kS, fS, st, cS, t1, t2, t3, t4, t5, (fun q => by rw [q] at t6; cases t6), t7⟩ al rfl
  obtain ⟨v, B, X', ⟨⟨hv, E', V', q1, q2, q3, q4, q5, q6, q7, q8, q9, q10, q11⟩, hl, hc, hs⟩, st⟩ := New1.pays x D fV fC b A z (tab_of (moved hZ hw)) hfr hlo m meth c P g ig mk _ X hg hsize hdg hW hn ⟨r1, r2, rfl, hB, F1, F2, hA, hS, hz, l0, l2, hp⟩
  have al' : Z.vm.Alike B.U.vm := hZ.alike.trans X'.warmed.alike
  have hsz : E'.slots.size = D.slots.size := by
    obtain ⟨-, -, -, kB, w1, w2, w3⟩ := q1
    obtain ⟨kB', y1, y2⟩ := al'.2.2 _ _ e3
    rw [q2.2.1] at w1
    cases w1.symm.trans y1
    rw [w3, e5 i3, y2]
  refine ⟨v, B, X', ⟨_, ⟨hv, ?_, ⟨by omega, fun y cy hy hn' => q10 y cy (by simpa using hn') hy, fun y cy hy => ?_⟩, q11, ⟨E', _, q1.1, by rw [q2.2.1]; exact e2, by rw [q2.2.1]; exact e3, by rw [q2.1]; exact obV, fun _ => by rw [hsz]; exact e5 i3⟩,
    ⟨E', cfV, kV, iV, fV, q1.1, gV, stV, by rw [q2.1]; exact knV, by rw [q2.1]; exact obV, by rw [q2.2.1]; exact asV, q3⟩, ⟨E', cfC, kC, iC, fC, q1.1, gC, stC, by rw [q2.1]; exact knV, by rw [q2.1]; exact obV, by rw [q2.2.1]; exact asC, q4⟩,
    ⟨V', ⟨q5.1, State.isArrayOf_alike al'.symm q5.2.1, q5.2.2.1⟩, q6, by rw [← al'.findClass]; exact q7, q8, fun j hj => by have := q9 j hj; rwa [Nat.zero_add] at this⟩, fun O n d w F n1 n2 => ?_⟩, hl, hc, hs⟩, st⟩
  · intro y hy
    simp only [List.mem_cons, List.not_mem_nil, or_false] at hy
    rcases hy with rfl | rfl <;> rfl
  · by_cases q : y = x
    · subst q
      cases hD.symm.trans hy
      exact ⟨E', q1.1, q2.2.1, q2.1, hsz⟩
    · exact ⟨cy, q10 y cy q hy, rfl, rfl, rfl⟩
  · obtain ⟨D3, cf, k, i, f, g1, g2, g3, g4, g5, g6, g7⟩ := F
    cases hD.symm.trans g1
    simp only [RoadKit.slotOf, g2, gV, gC, Option.map_some, Option.getD_some] at n1 n2
    exact ⟨E', cf, k, i, f, q1.1, g2, g3, by rw [q2.1]; exact g4, by rw [q2.1]; exact g5, by rw [q2.2.1]; exact g6, by rw [q2.2.2 f.slot (by simp [n1, n2])]; exact g7⟩
end StrChars.Road
namespace StrChars.Road
open Jvm Sem ClassFile Op Lib Jvm.Stand Jvm.Free Jvm.Free.XT
/-- WHAT COMES BACK, the byte[] as a list of values -/
def QA (Z : State) (x : Addr) (zn : Int32) (cs : List Int32) (h : Heap) (v : Option Value) (h' : Heap) (L : List Loc) : Prop := v = none ∧ (∀ y ∈ L, y.base = x) ∧ RoadKit.Keep h h' [x] ∧ h'.size = h.size + 1 ∧ RoadKit.Exa Z h' x ST ∧ RoadKit.Fld Z h' x ST "value" "[B" (.ref h.size) ∧ RoadKit.Fld Z h' x ST "coder" "B" (.int 0) ∧
  (∃ kb, Z.vm.findClass "[B" = some kb ∧ RoadKit.Arv Z h' h.size kb .byte zn (cs.map fun c => .int (lo8 c)) (.int 0)) ∧
  ∀ (O n d : String) (w : Value), RoadKit.Fld Z h x O n d w → RoadKit.slotOf Z O n d ≠ RoadKit.slotOf Z ST "value" "[B" → RoadKit.slotOf Z O n d ≠ RoadKit.slotOf Z ST "coder" "B" → RoadKit.Fld Z h' x O n d w
/-- **new String(chars) AT A CALL, THE ARRAYS AS LISTS**: the char[] at b holds cs, not empty, no char above 255 -/
theorem backArv {p : Program} {l : Launch} {e : Env} {R : Room} {s : State} {args : Array Value} {below : List Frame} {len W : Nat} {Z : State} {a0 : Array Value} {h : Heap} (hZ : Z.Warmed39 s.vm) (hw : ∀ d ∈ words, d.before a0 Z = true) {kI : Nat} (wi : (Jvm.Cond.instantiable ST kI).before a0 Z = true)
    {x b : Addr} {k : ClassId} {zn z : Int32} {cs : List Int32} {dv v0 c0 : Value} (E : RoadKit.Exa Z h x ST) (V : RoadKit.Fld Z h x ST "value" "[B" v0) (C : RoadKit.Fld Z h x ST "coder" "B" c0) (K : RoadKit.Arv Z h b k .char zn (cs.map Value.int) dv) (S : RoadKit.Sta Z h ST "COMPACT_STRINGS" "Z" (.int z)) (hz : ¬ z = 0)
    (hlen : zn.toNatClampNeg = cs.length) (h0 : 0 < cs.length) (hbig : cs.length ≤ 536870912) (hall : ∀ c ∈ cs, ¬ 255 < c) (hfr : 4 ≤ R.frames) (hlo : W + 65 ≤ R.locals) :
    Back l R p e below s args New1.yN len W (fun P a => a = #[.ref x, .ref b] ∧ P.U.heap = h ∧ P.cells + 1 ≤ R.cells ∧ P.slots + cs.length ≤ R.slots)
      (fun P _ v B => ∃ L, QA Z x zn cs h v B.U.heap L ∧ B.locs = P.locs ++ L ∧ B.cells = P.cells + 1 ∧ B.slots = P.slots + cs.length) := by
  obtain ⟨A, K1, K2, K3, K4, K5, K6⟩ := K
  have e : A.slots.size = cs.length := K3.trans hlen
  have hat : ∀ (i : Nat) (hi : i < cs.length), A.slots[i]? = some (.int cs[i]) := fun i hi => by rw [K5 i (by omega)]; simp [List.getD_eq_getElem?_getD, hi]
  have hcv : ∀ (i : Nat) (hi : i < cs.length), cv A i = cs[i] := fun i hi => by unfold cv; rw [hat i hi]
  have hty : Typed .char A := fun i v hv => by
    have hi : i < A.slots.size := (Array.getElem?_eq_some_iff.mp hv).1
    have q := K5 i hi
    rw [hv] at q
    rw [Option.some.inj q]
    exact K6 i hi
  refine Back.mono (back hZ hw wi E V C K1 hty S hz (by omega) (by omega) (fun i hi => by rw [hcv i (by omega)]; exact hall _ (List.getElem_mem _)) hfr hlo) (fun P a hp => ⟨hp.1, hp.2.1, hp.2.2.1, by rw [e]; exact hp.2.2.2⟩) (fun P a v B hp hq => ?_)
  obtain ⟨L, ⟨q1, q2, q3, q4, q5, q6, q7, ⟨V', v1, v2, v3, v4, v5⟩, q9⟩, hl, hc, hs⟩ := hq
  refine ⟨L, ⟨q1, q2, q3, q4, q5, q6, q7, ⟨V'.cls, v3, V', v1, rfl, by rw [v4, e, hlen], K4, fun i hi => ?_, fun i hi => ?_⟩, q9⟩, hl, hc, by rw [hs, e]⟩
  · have hi' : i < cs.length := by omega
    rw [v5 i (by omega), hcv i hi']; simp [List.getD_eq_getElem?_getD, hi']
  · have hi' : i < cs.length := by omega
    simp only [List.getD_eq_getElem?_getD, List.getElem?_map, List.getElem?_eq_getElem hi', Option.map_some, Option.getD_some]
    exact fits_lo8 _
end StrChars.Road
namespace StrChars.Road
open Jvm Sem ClassFile Op Lib Jvm.Stand Jvm.Free Jvm.Free.XT
/-- WHAT COMES BACK, in the writer's own shape -/
def QV (Z : State) (x : Addr) (N : Int32) (bs : List Int32) (h : Heap) (n0 : Nat) (v : Option Value) (h' : Heap) (L : List Loc) : Prop := v = none ∧ RoadKit.Fr n0 L ∧ RoadKit.Keep h h' [x] ∧ RoadKit.Exa Z h' x ST ∧ RoadKit.Fld Z h' x ST "coder" "B" (.int 0) ∧
  ∃ (t : Addr) (kb : ClassId), n0 ≤ t ∧ h.size ≤ t ∧ ¬ t = x ∧ RoadKit.Fld Z h' x ST "value" "[B" (.ref t) ∧ RoadKit.Arv Z h' t kb .byte N (bs.map Value.int) (.int 0)
/-- **new String(chars) AT A CALL, FOR THE WRITER**: a char[] of n known ints, each 0 to 255 -/
theorem backV {p : Program} {l : Launch} {e : Env} {R : Room} {s : State} {args : Array Value} {below : List Frame} {len W : Nat} {Z : State} {a0 : Array Value} {h : Heap} (hZ : Z.Warmed39 s.vm) (hw : ∀ d ∈ words, d.before a0 Z = true) {kI : Nat} (wi : (Jvm.Cond.instantiable ST kI).before a0 Z = true)
    {x b : Addr} {kC : ClassId} {cs bs : List Int32} {d v0 c0 : Value} {z N : Int32} {n n0 : Nat} (hx0 : n0 ≤ x) (hh0 : n0 ≤ h.size) (E : RoadKit.Exa Z h x ST) (V : RoadKit.Fld Z h x ST "value" "[B" v0) (C : RoadKit.Fld Z h x ST "coder" "B" c0) (K : RoadKit.Arv Z h b kC .char N (cs.map Value.int) d) (S : RoadKit.Sta Z h ST "COMPACT_STRINGS" "Z" (.int z)) (hz : ¬ z = 0)
    (hn : cs.length = n) (hN : N = Int32.ofNat n) (l0 : 0 < n) (l2 : n ≤ 4000) (hp : ∀ c ∈ cs, ¬ c < 0 ∧ ¬ (255 : Int32) < c) (hb : bs = cs.map (fun c => c.toInt8.toInt32)) (hfr : 4 ≤ R.frames) (hlo : W + 65 ≤ R.locals) :
    Back l R p e below s args (⟨"java/lang/String", "<init>", "([C)V"⟩ : MethodName) len W (fun P a => a = #[.ref x, .ref b] ∧ P.U.heap = h ∧ P.cells + 1 ≤ R.cells ∧ P.slots + n ≤ R.slots)
      (fun P _ v B => ∃ L, QV Z x N bs h n0 v B.U.heap L ∧ B.locs = P.locs ++ L ∧ B.cells = P.cells + 1 ∧ B.slots = P.slots + n) := by
  subst hn hN hb
  refine Back.mono (backArv hZ hw wi E V C K S hz (n32 (by omega)) l0 (by omega) (fun c hc => (hp c hc).2) hfr hlo) (fun P a hp => hp) (fun P a v B hp hq => ?_)
  obtain ⟨L, ⟨q1, q2, q3, q4, q5, q6, q7, ⟨kb, v1, v2⟩, q9⟩, hl, hc, hs⟩ := hq
  exact ⟨L, ⟨q1, fun y hy => by rw [q2 y hy]; exact hx0, q3, q5, q7, h.size, kb, hh0, Nat.le_refl _, Nat.ne_of_gt E.lt, q6, by rw [List.map_map]; exact v2⟩, hl, hc, hs⟩
end StrChars.Road
namespace StrChars
open Jvm Sem ClassFile Op Lib Jvm.Stand Jvm.Free.XT Jvm.Free.ALB Jvm.Free.JM Jvm.Free
open Jvm.Lib.Cold (StaticIs)
def hi8 (x : Int32) : Int32 := lo8 (x >>> ((8 : Int32) &&& 31))
/-- what StringUTF16.getChar makes of two bytes -/
def pairCh (u v : Int32) : Int32 := (((u &&& 255) <<< ((0 : Int32) &&& 31)) ||| ((v &&& 255) <<< ((8 : Int32) &&& 31))).toUInt32.toUInt16.toUInt32.toInt32
theorem shr0 (c : Int32) : c >>> ((0 : Int32) &&& 31) = c := by
  have e : ((0 : Int32) &&& 31) = 0 := by decide
  rw [e]
  apply Int32.toBitVec_inj.mp
  rw [Int32.toBitVec_shiftRight]
  have e1 : ((0 : Int32).toBitVec.smod 32) = 0#32 := by decide
  rw [e1, BitVec.sshiftRight_eq']
  exact BitVec.sshiftRight_zero
theorem lo8_and (x : Int32) : (lo8 x &&& 255).toBitVec.toNat = x.toBitVec.toNat % 256 := by
  have h : (lo8 x).toBitVec = (x.toBitVec.signExtend 8).signExtend 32 := by rw [lo8, Int8.toBitVec_toInt32, Int32.toBitVec_toInt8]
  rw [Int32.toBitVec_and, BitVec.toNat_and, h]
  have e : ((x.toBitVec.signExtend 8).signExtend 32).toNat % 256 = x.toBitVec.toNat % 256 := by
    rw [BitVec.toNat_signExtend]
    have hlt := x.toBitVec.isLt
    simp only [BitVec.toNat_setWidth, BitVec.toNat_signExtend]
    split <;> split <;> omega
  rw [← e]
  exact Nat.and_two_pow_sub_one_eq_mod _ 8
theorem pair_says {c : Int32} (h0 : ¬ c < 0) (h1 : ¬ 65535 < c) : pairCh (lo8 c) (hi8 c) = c := by
  rw [Int32.lt_iff_toInt_lt] at h0 h1
  have e0 : (0 : Int32).toInt = 0 := rfl
  have e1 : (65535 : Int32).toInt = 65535 := rfl
  have hc : c.toInt = c.toBitVec.toNat := by
    have := c.toBitVec.isLt
    have e : c.toInt = c.toBitVec.toInt := rfl
    rw [e] at h0 h1
    rw [e]
    rw [BitVec.toInt_eq_toNat_cond] at h0 h1 ⊢
    split at h0 <;> split <;> omega
  have hn : c.toBitVec.toNat < 65536 := by omega
  have a1 := lo8_and c
  have a2 : (hi8 c &&& 255).toBitVec.toNat = c.toBitVec.toNat / 256 := by
    rw [hi8, lo8_and]
    have e : ((8 : Int32) &&& 31) = 8 := by decide
    rw [e, Int32.toBitVec_shiftRight]
    have e2 : ((8 : Int32).toBitVec.smod 32) = 8#32 := by decide
    rw [e2, BitVec.sshiftRight_eq', BitVec.toNat_sshiftRight_of_msb_false (by rw [BitVec.msb_eq_false_iff_two_mul_lt]; omega)]
    show c.toBitVec.toNat >>> 8 % 256 = _
    rw [Nat.shiftRight_eq_div_pow]
    omega
  unfold pairCh
  apply Int32.toBitVec_inj.mp
  apply BitVec.eq_of_toNat_eq
  have f0 : ((0 : Int32) &&& 31) = 0 := by decide
  have f8 : ((8 : Int32) &&& 31) = 8 := by decide
  rw [f0, f8]
  have g : (((lo8 c &&& 255) <<< (0 : Int32)) ||| ((hi8 c &&& 255) <<< (8 : Int32))).toBitVec.toNat = c.toBitVec.toNat := by
    rw [Int32.toBitVec_or, Int32.toBitVec_shiftLeft, Int32.toBitVec_shiftLeft]
    have s0 : ((0 : Int32).toBitVec.smod 32) = 0#32 := by decide
    have s8 : ((8 : Int32).toBitVec.smod 32) = 8#32 := by decide
    rw [s0, s8, BitVec.toNat_or]
    simp only [BitVec.shiftLeft_eq', BitVec.toNat_shiftLeft, a1, a2]
    show (c.toBitVec.toNat % 256) <<< 0 % 2 ^ 32 ||| (c.toBitVec.toNat / 256) <<< 8 % 2 ^ 32 = _
    rw [Nat.shiftLeft_zero, Nat.mod_eq_of_lt (show c.toBitVec.toNat % 256 < 2 ^ 32 by omega), Nat.mod_eq_of_lt (show (c.toBitVec.toNat / 256) <<< 8 < 2 ^ 32 by rw [Nat.shiftLeft_eq]; omega), Nat.or_comm, ← Nat.shiftLeft_add_eq_or_of_lt (by omega), Nat.shiftLeft_eq]
    omega
  show BitVec.toNat (((((lo8 c &&& 255) <<< (0 : Int32)) ||| ((hi8 c &&& 255) <<< (8 : Int32))).toBitVec.setWidth 16).setWidth 32) = _
  rw [BitVec.toNat_setWidth, BitVec.toNat_setWidth, g]
  omega
end StrChars
namespace StrChars
open Jvm Sem ClassFile Op Lib Jvm.Stand Jvm.Free.XT Jvm.Free.ALB Jvm.Free.JM Jvm.Free
open Jvm.Lib.Cold (StaticIs)
theorem shr1 {n : Nat} (h : 2 * n < 2 ^ 31) : Int32.ofNat (2 * n) >>> ((1 : Int32) &&& 31) = Int32.ofNat n := by
  have e : ((1 : Int32) &&& 31) = 1 := by decide
  rw [e]
  apply Int32.toBitVec_inj.mp
  rw [Int32.toBitVec_shiftRight]
  have e1 : ((1 : Int32).toBitVec.smod 32) = 1#32 := by decide
  have hm : (BitVec.ofNat 32 (2 * n)).toNat = 2 * n := by rw [BitVec.toNat_ofNat, Nat.mod_eq_of_lt (by omega)]
  rw [e1, BitVec.sshiftRight_eq']
  apply BitVec.eq_of_toNat_eq
  show ((BitVec.ofNat 32 (2 * n)).sshiftRight 1).toNat = (BitVec.ofNat 32 n).toNat
  rw [BitVec.toNat_sshiftRight_of_msb_false (by rw [BitVec.msb_eq_false_iff_two_mul_lt, hm]; omega), hm, BitVec.toNat_ofNat, Nat.shiftRight_eq_div_pow]
  omega
/-- charAt's cast of a byte read back -/
def chr8 (u : Int32) : Int32 := (u &&& 255).toUInt32.toUInt16.toUInt32.toInt32
theorem chr8_lo8 {c : Int32} (h0 : ¬ c < 0) (h1 : ¬ 255 < c) : chr8 (lo8 c) = c := by
  have t : ∀ k : Fin 256, (Int32.ofNat k.val).toUInt32.toUInt16.toUInt32.toInt32 = Int32.ofNat k.val := by decide +kernel
  unfold chr8
  rw [lo8_mask h0 h1]
  rw [Int32.lt_iff_toInt_lt] at h0 h1
  have e0 : (0 : Int32).toInt = 0 := rfl
  have e1 : (255 : Int32).toInt = 255 := rfl
  obtain ⟨k, hk⟩ : ∃ k : Nat, c.toInt = k := ⟨c.toInt.toNat, by omega⟩
  have hx : c = Int32.ofNat k := Int32.toInt_inj.mp (by rw [hk, Int32.toInt_ofNat_small (by omega)])
  rw [hx]
  exact t ⟨k, by omega⟩
theorem narrow_ch {c : Int32} (h0 : ¬ c < 0) (h1 : ¬ 65535 < c) : narrow .char (.int c) = .int c := by
  have q : narrow .char (.int (pairCh (lo8 c) (hi8 c))) = .int (pairCh (lo8 c) (hi8 c)) := narrow_c _
  rwa [pair_says h0 h1] at q
/-- the array's cell V codes the n chars f 0 .. f (n - 1) by the coder cd, as the JDK does: coder 1 just where some char is above 255 -/
def Cod (cd : Int32) (n : Nat) (f : Nat → Int32) (V : Cell) : Prop := (cd = 0 ∧ V.slots.size = n ∧ ∀ j, j < n → V.slots[j]? = some (.int (lo8 (f j))) ∧ ¬ 255 < f j) ∨ (cd = 1 ∧ V.slots.size = 2 * n ∧ (∀ j, j < n → V.slots[2 * j]? = some (.int (lo8 (f j))) ∧ V.slots[2 * j + 1]? = some (.int (hi8 (f j)))) ∧ ∃ j, j < n ∧ 255 < f j)
theorem Cod.cd {cd : Int32} {n : Nat} {f : Nat → Int32} {V : Cell} (h : Cod cd n f V) : cd = 0 ∨ cd = 1 := h.imp (fun q => q.1) fun q => q.1
theorem Cod.len {cd : Int32} {n : Nat} {f : Nat → Int32} {V : Cell} (h : Cod cd n f V) (hs : V.slots.size < 2 ^ 31) : Int32.ofNat V.slots.size >>> (cd &&& 31) = Int32.ofNat n := by
  rcases h with ⟨rfl, h, -⟩ | ⟨rfl, h, -⟩
  · rw [shr0, h]
  · rw [h, shr1 (by omega)]
/-- **x is a String of the n chars f 0 .. f (n - 1)**, Latin-1 or UTF-16; its array at t has the cell V -/
def Txt (x t : Addr) (V : Cell) (cd : Int32) (n : Nat) (f : Nat → Int32) (U : State) : Prop := Exact "java/lang/String" x U ∧ Has x "java/lang/String" "value" "[B" (.ref t) U ∧ Has x "java/lang/String" "coder" "B" (.int cd) U ∧ XT.Arr .byte t V U ∧ Cod cd n f V ∧ ∀ j, j < n → ¬ f j < 0 ∧ ¬ 65535 < f j
theorem Txt.mv {x t : Addr} {V : Cell} {cd : Int32} {n : Nat} {f : Nat → Int32} {U U' : State} (h : Txt x t V cd n f U) (hal : U.vm.Alike U'.vm) (hh : U'.heap = U.heap) : Txt x t V cd n f U' := ⟨h.1.mv hal hh, h.2.1.mv hal hh, h.2.2.1.mv hal hh, h.2.2.2.1.mv hal hh, h.2.2.2.2⟩
namespace Cdr
def yN : MethodName := ⟨"java/lang/String", "coder", "()B"⟩
abbrev yB : ByteArray := jdk_42_method_152_code
theorem d0 : decode yB 0 = .ok (.getstatic 38, 3) := by decide +kernel
theorem d3 : decode yB 3 = .ok (.ifCond (.eq) 10, 3) := by decide +kernel
theorem d6 : decode yB 6 = .ok (.aload_n 0, 1) := by decide +kernel
theorem d7 : decode yB 7 = .ok (.getfield 15, 3) := by decide +kernel
theorem d10 : decode yB 10 = .ok (.goto 4, 3) := by decide +kernel
theorem d14 : decode yB 14 = .ok (.ireturn, 1) := by decide +kernel
def site : List Cond := [.fieldLink "java/lang/String" 38 "java/lang/String" "COMPACT_STRINGS" "Z", .fieldLink "java/lang/String" 15 "java/lang/String" "coder" "B"]
def tab : Cond := tabOf yN yB 1 (some .byte) site
def P (x : Addr) (cd z : Int32) (args : Array Value) (s : State) : Prop := args = #[.ref x] ∧ Has x "java/lang/String" "coder" "B" (.int cd) s ∧ (cd = 0 ∨ cd = 1) ∧ StaticIs s "java/lang/String" "COMPACT_STRINGS" "Z" (.int z) ∧ ¬ z = 0
def E (cd : Int32) (r : Option Value) (s u : State) : Prop := XT.PureE (some (.int cd)) r s u
theorem law (l : Launch) (x : Addr) (cd z : Int32) : Law l yN 1 0 0 0 yB 1 (some .byte) site (P x cd z) (E cd) [] 0 0 := by
  refine Law.of_walk (plainFor_of_name (by decide +kernel)) (by decide +kernel) (by decide +kernel) (by decide) (fun _ _ h => by rw [h.1]; rfl) (fun _ U U' hal hh h => ⟨h.1, h.2.1.mv hal hh, h.2.2.1, h.2.2.2.1.there hal hh, h.2.2.2.2⟩) (fun r U U' V V' h1 hal h2 h => XT.PureE.mv r U U' V V' h1 hal h2 h) ?_
  intro p e s m args below meth c s₁ X0 hexec hbytes hml hret hlk hnm hown hh0 W hP
  obtain ⟨rfl, hx, hc, s1, hz⟩ := hP
  have c1 : Steps p.tables e below (s₁.setTop (entryFrame m #[.ref x] 1)) (s₁.setTop (mkF m 0 #[.val (.ref x)] [])) := entry rfl
  obtain ⟨T2, X2, q2, st2⟩ := X0.sget hexec hown (wk W (.fieldLink "java/lang/String" 38 "java/lang/String" "COMPACT_STRINGS" "Z")) s1 (fun _ _ h => by rw [hh0]; exact h) (g := (mkF m 0 #[.val (.ref x)] [])) rfl (hb hbytes d0)
  have hh2 := q2.trans hh0
  have c3 : Steps p.tables e below (s₁.setTop (entryFrame m #[.ref x] 1)) (T2.setTop (mkF m 7 #[.val (.ref x)] [.ref x])) := (c1.trans (st2 _ (Steps.refl _))).trans (by
    refine XS.ifNo X2.here hexec rfl (hb hbytes d3) rfl (i0_eq_f hz) ?_
    refine XS.aloadN X2.here hexec rfl (hb hbytes d6) rfl rfl ?_
    exact Steps.refl _)
  obtain ⟨T4, X4, q4, st4⟩ := X2.hget hexec hown (wk W (.fieldLink "java/lang/String" 15 "java/lang/String" "coder" "B")) (hx.mv X2.warmed.alike hh2) (g := (mkF m 7 #[.val (.ref x)] [.ref x])) rfl (rest := []) rfl (hb hbytes d7)
  have c5 : Steps p.tables e below (s₁.setTop (entryFrame m #[.ref x] 1)) (T4.setTop (mkF m 14 #[.val (.ref x)] [.int cd])) := (c3.trans (st4 _ (Steps.refl _))).trans (by
    refine XS.goto X4.here hexec rfl (pc0 := 10) rfl (hb hbytes d10) (by decide) rfl ?_
    exact Steps.refl _)
  exact ⟨T4, some (.int cd), _, _, _, X4, rfl, rfl, rfl, (fun h => by cases h), ⟨rfl, q4.trans hh2⟩, fun fs hl => c5.trans (X4.ireturnOut hexec hret (by rcases hc with rfl | rfl <;> rfl) (Or.inr (Or.inr (Or.inl rfl))) (hb hbytes d14) hl)⟩
end Cdr
namespace Len
def yN : MethodName := ⟨"java/lang/String", "length", "()I"⟩
abbrev yB : ByteArray := jdk_42_method_54_code
theorem d0 : decode yB 0 = .ok (.aload_n 0, 1) := by decide +kernel
theorem d1 : decode yB 1 = .ok (.getfield 9, 3) := by decide +kernel
theorem d4 : decode yB 4 = .ok (.arraylength, 1) := by decide +kernel
theorem d5 : decode yB 5 = .ok (.aload_n 0, 1) := by decide +kernel
theorem d6 : decode yB 6 = .ok (.invokevirtual 335, 3) := by decide +kernel
theorem d9 : decode yB 9 = .ok (.ishr, 1) := by decide +kernel
theorem d10 : decode yB 10 = .ok (.ireturn, 1) := by decide +kernel
def site : List Cond := [.fieldLink "java/lang/String" 9 "java/lang/String" "value" "[B", Cdr.tab] ++ virtW "java/lang/String" 335 "java/lang/String" Cdr.yN Cdr.yN
def tab : Cond := tabOf yN yB 1 (some .int) site
def P (x t : Addr) (V : Cell) (cd : Int32) (n : Nat) (f : Nat → Int32) (z : Int32) (args : Array Value) (s : State) : Prop := args = #[.ref x] ∧ Txt x t V cd n f s ∧ StaticIs s "java/lang/String" "COMPACT_STRINGS" "Z" (.int z) ∧ ¬ z = 0
def E (n : Nat) (r : Option Value) (s u : State) : Prop := XT.PureE (some (.int (Int32.ofNat n))) r s u
/-- length() of a String of n chars, in either coding -/
theorem law (l : Launch) (x t : Addr) (V : Cell) (cd : Int32) (n : Nat) (f : Nat → Int32) (z : Int32) : Law l yN 1 0 1 13 yB 1 (some .int) site (P x t V cd n f z) (E n) [] 0 0 := by
  refine Law.of_walk (plainFor_of_name (by decide +kernel)) (by decide +kernel) (by decide +kernel) (by decide) (fun _ _ h => by rw [h.1]; rfl) (fun _ U U' hal hh h => ⟨h.1, h.2.1.mv hal hh, h.2.2.1.there hal hh, h.2.2.2⟩) (fun r U U' V V' h1 hal h2 h => XT.PureE.mv r U U' V V' h1 hal h2 h) ?_
  intro p e s m args below meth c s₁ X0 hexec hbytes hml hret hlk hnm hown hh0 W hP
  obtain ⟨rfl, hx, s1, hz⟩ := hP
  have v31 := hx.2.2.2.1.2.2.2
  have c1 : Steps p.tables e below (s₁.setTop (entryFrame m #[.ref x] 1)) (s₁.setTop (mkF m 1 #[.val (.ref x)] [.ref x])) := Steps.trans (entry rfl) (by
    show Steps p.tables e below (s₁.setTop (mkF m 0 #[.val (.ref x)] [])) _
    refine XS.aloadN X0.here hexec rfl (hb hbytes d0) rfl rfl ?_
    exact Steps.refl _)
  obtain ⟨T2, X2, q2, st2⟩ := X0.hget hexec hown (wk W (.fieldLink "java/lang/String" 9 "java/lang/String" "value" "[B")) (hx.mv X0.warmed.alike hh0).2.1 (g := (mkF m 1 #[.val (.ref x)] [.ref x])) rfl (rest := []) rfl (hb hbytes d1)
  have hh2 := q2.trans hh0
  have hx2 := hx.mv X2.warmed.alike hh2
  have c3 : Steps p.tables e below (s₁.setTop (entryFrame m #[.ref x] 1)) (T2.setTop (mkF m 6 #[.val (.ref x)] [.ref x, .int (Int32.ofNat V.slots.size)])) := (c1.trans (st2 _ (Steps.refl _))).trans (by
    refine X2.alen hexec hx2.2.2.2.1 rfl rfl (hb hbytes d4) ?_
    refine XS.aloadN X2.here hexec rfl (hb hbytes d5) rfl rfl ?_
    exact Steps.refl _)
  obtain ⟨v4, T4, X4, E4, g4⟩ := X2.callV hexec (Cdr.law l x cd z) hown (wks W (virtW "java/lang/String" 335 "java/lang/String" Cdr.yN Cdr.yN)) rfl (by decide) (wk W Cdr.tab) (W := 1) (Nat.le_of_ble_eq_true rfl) (Nat.le_of_ble_eq_true rfl) (Nat.le_refl _) (Nat.le_refl _) (hx2.1.fc X2.warmed.alike) hx2.1.is (g := (mkF m 6 #[.val (.ref x)] [.ref x, .int (Int32.ofNat V.slots.size)])) rfl (by rw [hml]; rfl) c3 (argsL := []) (rest := [.int (Int32.ofNat V.slots.size)]) rfl rfl (by show 2 * 0 + (1 + 0) ≤ _; decide) (hb hbytes d6) (⟨rfl, hx2.2.2.1, hx.2.2.2.2.1.cd, s1.there X2.warmed.alike hh2, hz⟩)
  obtain ⟨rfl, q4⟩ := E4
  have c5 : Steps p.tables e below (s₁.setTop (entryFrame m #[.ref x] 1)) (T4.setTop (mkF m 10 #[.val (.ref x)] [.int (Int32.ofNat V.slots.size >>> (cd &&& 31))])) := Steps.trans g4 (by
    refine ishr X4.here hexec rfl (hb hbytes d9) rfl ?_
    exact Steps.refl _)
  rw [hx.2.2.2.2.1.len v31] at c5
  exact ⟨T4, some (.int (Int32.ofNat n)), _, _, _, X4, rfl, rfl, rfl, (fun h => by cases h), ⟨rfl, q4.trans hh2⟩, fun fs hl => c5.trans (X4.ireturnOut hexec hret rfl (Or.inl rfl) (hb hbytes d10) hl)⟩
theorem pays {l : Launch} {R : Room} {p : Program} {e : Env} {below : List Frame} {s : State} {sargs : Array Value} {len W : Nat} (x t : Addr) (V : Cell) (cd : Int32) (n : Nat) (f : Nat → Int32) (z : Int32) (htab : tab.before sargs s = true) (hfr : 2 ≤ R.frames) (hlo : W + 25 ≤ R.locals) :
    Back l R p e below s sargs yN len W (fun A₁ a₁ => A₁.cells + 0 ≤ R.cells ∧ A₁.slots + 0 ≤ R.slots ∧ P x t V cd n f z a₁ A₁.U) (fun A₁ _ v₁ B₁ => E n v₁ A₁.U B₁.U ∧ B₁.locs = A₁.locs ++ [] ∧ B₁.cells = A₁.cells + 0 ∧ B₁.slots = A₁.slots + 0) :=
  (law l x t V cd n f z).pays htab hfr (by omega)
end Len
namespace IsL
def yN : MethodName := ⟨"java/lang/String", "isLatin1", "()Z"⟩
abbrev yB : ByteArray := jdk_42_method_154_code
theorem d0 : decode yB 0 = .ok (.getstatic 38, 3) := by decide +kernel
theorem d3 : decode yB 3 = .ok (.ifCond (.eq) 14, 3) := by decide +kernel
theorem d6 : decode yB 6 = .ok (.aload_n 0, 1) := by decide +kernel
theorem d7 : decode yB 7 = .ok (.getfield 15, 3) := by decide +kernel
theorem d10 : decode yB 10 = .ok (.ifCond (.ne) 7, 3) := by decide +kernel
theorem d13 : decode yB 13 = .ok (.iconst 1, 1) := by decide +kernel
theorem d14 : decode yB 14 = .ok (.goto 4, 3) := by decide +kernel
theorem d17 : decode yB 17 = .ok (.iconst 0, 1) := by decide +kernel
theorem d18 : decode yB 18 = .ok (.ireturn, 1) := by decide +kernel
def site : List Cond := [.fieldLink "java/lang/String" 38 "java/lang/String" "COMPACT_STRINGS" "Z", .fieldLink "java/lang/String" 15 "java/lang/String" "coder" "B"]
def tab : Cond := tabOf yN yB 1 (some .boolean) site
def P (x : Addr) (cd z : Int32) (args : Array Value) (s : State) : Prop := args = #[.ref x] ∧ Has x "java/lang/String" "coder" "B" (.int cd) s ∧ (cd = 0 ∨ cd = 1) ∧ StaticIs s "java/lang/String" "COMPACT_STRINGS" "Z" (.int z) ∧ ¬ z = 0
def E (cd : Int32) (r : Option Value) (s u : State) : Prop := XT.PureE (some (.int (1 - cd))) r s u
theorem law (l : Launch) (x : Addr) (cd z : Int32) : Law l yN 1 0 0 0 yB 1 (some .boolean) site (P x cd z) (E cd) [] 0 0 := by
  refine Law.of_walk (plainFor_of_name (by decide +kernel)) (by decide +kernel) (by decide +kernel) (by decide) (fun _ _ h => by rw [h.1]; rfl) (fun _ U U' hal hh h => ⟨h.1, h.2.1.mv hal hh, h.2.2.1, h.2.2.2.1.there hal hh, h.2.2.2.2⟩) (fun r U U' V V' h1 hal h2 h => XT.PureE.mv r U U' V V' h1 hal h2 h) ?_
  intro p e s m args below meth c s₁ X0 hexec hbytes hml hret hlk hnm hown hh0 W hP
  obtain ⟨rfl, hx, hc, s1, hz⟩ := hP
  have c1 : Steps p.tables e below (s₁.setTop (entryFrame m #[.ref x] 1)) (s₁.setTop (mkF m 0 #[.val (.ref x)] [])) := entry rfl
  obtain ⟨T2, X2, q2, st2⟩ := X0.sget hexec hown (wk W (.fieldLink "java/lang/String" 38 "java/lang/String" "COMPACT_STRINGS" "Z")) s1 (fun _ _ h => by rw [hh0]; exact h) (g := (mkF m 0 #[.val (.ref x)] [])) rfl (hb hbytes d0)
  have hh2 := q2.trans hh0
  have c3 : Steps p.tables e below (s₁.setTop (entryFrame m #[.ref x] 1)) (T2.setTop (mkF m 7 #[.val (.ref x)] [.ref x])) := (c1.trans (st2 _ (Steps.refl _))).trans (by
    refine XS.ifNo X2.here hexec rfl (hb hbytes d3) rfl (i0_eq_f hz) ?_
    refine XS.aloadN X2.here hexec rfl (hb hbytes d6) rfl rfl ?_
    exact Steps.refl _)
  obtain ⟨T4, X4, q4, st4⟩ := X2.hget hexec hown (wk W (.fieldLink "java/lang/String" 15 "java/lang/String" "coder" "B")) (hx.mv X2.warmed.alike hh2) (g := (mkF m 7 #[.val (.ref x)] [.ref x])) rfl (rest := []) rfl (hb hbytes d7)
  have c5 : Steps p.tables e below (s₁.setTop (entryFrame m #[.ref x] 1)) (T4.setTop (mkF m 10 #[.val (.ref x)] [.int cd])) := c3.trans (st4 _ (Steps.refl _))
  have c6 : Steps p.tables e below (s₁.setTop (entryFrame m #[.ref x] 1)) (T4.setTop (mkF m 18 #[.val (.ref x)] [.int (1 - cd)])) := by
    rcases hc with rfl | rfl
    · exact c5.trans (by
        refine XS.ifNo X4.here hexec rfl (hb hbytes d10) rfl (i0_ne_f rfl) ?_
        refine iconstV X4.here hexec rfl 1 (hb hbytes d13) (by decide) ?_
        refine XS.goto X4.here hexec rfl (pc0 := 14) rfl (hb hbytes d14) (by decide) rfl ?_
        exact Steps.refl _)
    · exact c5.trans (by
        refine XS.ifYes X4.here hexec rfl (pc0 := 10) rfl (hb hbytes d10) rfl (i0_ne_t (by decide)) (by decide) rfl ?_
        refine iconstV X4.here hexec rfl 0 (hb hbytes d17) (by decide) ?_
        exact Steps.refl _)
  exact ⟨T4, some (.int (1 - cd)), _, _, _, X4, rfl, rfl, rfl, (fun h => by cases h), ⟨rfl, q4.trans hh2⟩, fun fs hl => c6.trans (X4.ireturnOut hexec hret (by rcases hc with rfl | rfl <;> rfl) (Or.inr (Or.inl rfl)) (hb hbytes d18) hl)⟩
end IsL
namespace LChA
def yN : MethodName := ⟨"java/lang/StringLatin1", "charAt", "([BI)C"⟩
abbrev yB : ByteArray := jdk_43_method_2_code
theorem d0 : decode yB 0 = .ok (.iload_n 1, 1) := by decide +kernel
theorem d1 : decode yB 1 = .ok (.aload_n 0, 1) := by decide +kernel
theorem d2 : decode yB 2 = .ok (.arraylength, 1) := by decide +kernel
theorem d3 : decode yB 3 = .ok (.invokestatic 9, 3) := by decide +kernel
theorem d6 : decode yB 6 = .ok (.aload_n 0, 1) := by decide +kernel
theorem d7 : decode yB 7 = .ok (.iload_n 1, 1) := by decide +kernel
theorem d8 : decode yB 8 = .ok (.baload, 1) := by decide +kernel
theorem d9 : decode yB 9 = .ok (.sipush 255, 3) := by decide +kernel
theorem d12 : decode yB 12 = .ok (.iand, 1) := by decide +kernel
theorem d13 : decode yB 13 = .ok (.i2c, 1) := by decide +kernel
theorem d14 : decode yB 14 = .ok (.ireturn, 1) := by decide +kernel
def site : List Cond := [JO.Str_checkIndex.tab] ++ staticW "java/lang/StringLatin1" 9 JO.Str_checkIndex.yN
def tab : Cond := tabOf yN yB 2 (some .char) site
def P (t : Addr) (V : Cell) (i : Nat) (u : Int32) (fm : Value) (args : Array Value) (s : State) : Prop := args = #[.ref t, .int (Int32.ofNat i)] ∧ XT.Arr .byte t V s ∧ V.slots[i]? = some (.int u) ∧ (StaticIs s "jdk/internal/util/Preconditions" "SIOOBE_FORMATTER" "Ljava/util/function/BiFunction;" fm ∧ fm.isRef = true)
def E (u : Int32) (r : Option Value) (s w : State) : Prop := XT.PureE (some (.int (chr8 u))) r s w
theorem law (l : Launch) (t : Addr) (V : Cell) (i : Nat) (u : Int32) (fm : Value) : Law l yN 2 2 2 27 yB 2 (some .char) site (P t V i u fm) (E u) [] 0 0 := by
  refine Law.of_walk (plainFor_of_name (by decide +kernel)) (by decide +kernel) (by decide +kernel) (by decide) (fun _ _ h => by rw [h.1]; rfl) (fun _ U U' hal hh h => ⟨h.1, h.2.1.mv hal hh, h.2.2.1, h.2.2.2.1.there hal hh, h.2.2.2.2⟩) (fun r U U' V V' h1 hal h2 h => XT.PureE.mv r U U' V V' h1 hal h2 h) ?_
  intro p e s m args below meth c s₁ X0 hexec hbytes hml hret hlk hnm hown hh0 W hP
  obtain ⟨rfl, hV, hu, s1, rf⟩ := hP
  have v31 := hV.2.2.2
  have hi : i < V.slots.size := (Array.getElem?_eq_some_iff.mp hu).1
  have c1 : Steps p.tables e below (s₁.setTop (entryFrame m #[.ref t, .int (Int32.ofNat i)] 2)) (s₁.setTop (mkF m 0 #[.val (.ref t), .val (.int (Int32.ofNat i))] [])) := entry rfl
  have c2 : Steps p.tables e below (s₁.setTop (entryFrame m #[.ref t, .int (Int32.ofNat i)] 2)) (s₁.setTop (mkF m 3 #[.val (.ref t), .val (.int (Int32.ofNat i))] [.int (Int32.ofNat V.slots.size), .int (Int32.ofNat i)])) := c1.trans (by
    refine XS.iloadN X0.here hexec rfl (hb hbytes d0) rfl ?_
    refine XS.aloadN X0.here hexec rfl (hb hbytes d1) rfl rfl ?_
    refine X0.alen hexec (hV.mv X0.warmed.alike hh0) rfl rfl (hb hbytes d2) ?_
    exact Steps.refl _)
  obtain ⟨v3, T3, X3, E3, g3⟩ := X0.callS hexec (JO.Str_checkIndex.law l (Int32.ofNat i) (Int32.ofNat V.slots.size) fm) hown (wks W (staticW "java/lang/StringLatin1" 9 JO.Str_checkIndex.yN)) (wk W JO.Str_checkIndex.tab) (W := 0) (Nat.le_of_ble_eq_true rfl) (Nat.le_of_ble_eq_true rfl) (Nat.le_refl _) (Nat.le_refl _) (g := (mkF m 3 #[.val (.ref t), .val (.int (Int32.ofNat i))] [.int (Int32.ofNat V.slots.size), .int (Int32.ofNat i)])) rfl (by rw [hml]; rfl) c2 (argsL := [.int (Int32.ofNat i), .int (Int32.ofNat V.slots.size)]) (rest := []) rfl rfl (by show 2 * 0 + 0 ≤ _; decide) (hb hbytes d3) (⟨rfl, rf, s1.there X0.warmed.alike hh0, Int32.ofNat_not_neg (by omega), lt32 v31 hi⟩)
  obtain ⟨rfl, q3⟩ := E3
  have hh3 := q3.trans hh0
  have c4 : Steps p.tables e below (s₁.setTop (entryFrame m #[.ref t, .int (Int32.ofNat i)] 2)) (T3.setTop (mkF m 14 #[.val (.ref t), .val (.int (Int32.ofNat i))] [.int (chr8 u)])) := Steps.trans g3 (by
    refine XS.aloadN X3.here hexec rfl (hb hbytes d6) rfl rfl ?_
    refine XS.iloadN X3.here hexec rfl (hb hbytes d7) rfl ?_
    refine X3.aget hexec (hV.mv X3.warmed.alike hh3) rfl hu rfl rfl (hb hbytes d8) ?_
    refine sipushV X3.here hexec rfl 255 (hb hbytes d9) (by decide) ?_
    refine XS.iand X3.here hexec rfl (hb hbytes d12) rfl ?_
    refine i2c X3.here hexec rfl (hb hbytes d13) rfl ?_
    exact Steps.refl _)
  exact ⟨T3, some (.int (chr8 u)), _, _, _, X3, rfl, rfl, rfl, (fun h => by cases h), ⟨rfl, hh3⟩, fun fs hl => c4.trans (X3.ireturnOut hexec hret (narrow_c _) (Or.inr (Or.inr (Or.inr (Or.inl rfl)))) (hb hbytes d14) hl)⟩
end LChA
end StrChars
namespace StrChars.Road
open Jvm Sem ClassFile Op Lib Jvm.Stand Jvm.Free Jvm.Free.XT
open Jvm.Lib.Cold (StaticIs)
theorem consq {a : Array Value} {s : State} {c : Jvm.Cond} {L : List Jvm.Cond} (h0 : c.before a s = true) (h : ∀ w ∈ L, w.before a s = true) : ∀ w ∈ c :: L, w.before a s = true := fun w hw => (List.mem_cons.mp hw).elim (fun e => e ▸ h0) (h w)
/-- the words of String.length(), either coding -/
abbrev wordsLen : List Jvm.Cond := [.code Len.yN Len.yB 1 (some .int), .initialized ST, .fieldLink ST 9 ST "value" "[B", .fieldLink ST 38 ST "COMPACT_STRINGS" "Z", .fieldLink ST 15 ST "coder" "B", .code Cdr.yN Cdr.yB 1 (some .byte), .methodLink ST 335 Cdr.yN, .declares Cdr.yN, .selects ST Cdr.yN Cdr.yN, .instanceMethod Cdr.yN]
theorem tabLen_of {a : Array Value} {s : State} (h : ∀ w ∈ wordsLen, w.before a s = true) : Len.tab.before a s = true := by
  have hc : Cdr.tab.before a s = true := unparts (wk h (.code Cdr.yN Cdr.yB 1 (some .byte))) (wks h (.initialized Cdr.yN.cls :: Cdr.site))
  have q := consq hc h
  exact unparts (wk q (.code Len.yN Len.yB 1 (some .int))) (wks q (.initialized Len.yN.cls :: Len.site))
theorem movedLen {Z s : State} {a0 args : Array Value} (hZ : Z.Warmed39 s.vm) (hw : ∀ d ∈ wordsLen, d.before a0 Z = true) : ∀ d ∈ wordsLen, d.before args s = true := fun d hd => by
  have q := hw d hd
  have t : ∀ d ∈ wordsLen, d = .arrayClass .byte ∨ (d.onTables && d.keepsFace) = true := by decide +kernel
  rcases t d hd with rfl | t
  · exact RoadKit.mvA hZ q
  · exact RoadKit.mv hZ q t
/-- the bytes of the chars cs, low before high -/
def wideBytes : List Int32 → List Value
  | [] => []
  | c :: cs => .int (lo8 c) :: .int (hi8 c) :: wideBytes cs
theorem wide_lo (d : Value) : ∀ (cs : List Int32) (j : Nat), j < cs.length → (wideBytes cs).getD (2 * j) d = .int (lo8 (cs.getD j 0))
  | [], j, h => absurd h (Nat.not_lt_zero j)
  | c :: cs, 0, _ => rfl
  | c :: cs, j + 1, h => by
    have q := wide_lo d cs j (by simpa using h)
    rw [show 2 * (j + 1) = 2 * j + 1 + 1 from by omega]
    simpa [wideBytes] using q
theorem wide_hi (d : Value) : ∀ (cs : List Int32) (j : Nat), j < cs.length → (wideBytes cs).getD (2 * j + 1) d = .int (hi8 (cs.getD j 0))
  | [], j, h => absurd h (Nat.not_lt_zero j)
  | c :: cs, 0, _ => rfl
  | c :: cs, j + 1, h => by
    have q := wide_hi d cs j (by simpa using h)
    rw [show 2 * (j + 1) + 1 = 2 * j + 1 + 1 + 1 from by omega]
    simpa [wideBytes] using q
theorem low_at (d : Value) (cs : List Int32) (j : Nat) (h : j < cs.length) : (cs.map fun c => Value.int (lo8 c)).getD j d = .int (lo8 (cs.getD j 0)) := by
  simp [List.getD_eq_getElem?_getD, h]
/-- an array of N2 bytes vs codes the chars cs by the coder cd -/
def CodA (cs : List Int32) (cd N2 : Int32) (vs : List Value) : Prop := (cd = 0 ∧ N2 = Int32.ofNat cs.length ∧ vs = (cs.map fun c => Value.int (lo8 c)) ∧ ∀ c ∈ cs, ¬ 255 < c) ∨ (cd = 1 ∧ N2 = Int32.ofNat (2 * cs.length) ∧ vs = wideBytes cs ∧ ∃ c ∈ cs, 255 < c)
theorem CodA.cod {cs : List Int32} {cd N2 : Int32} {vs : List Value} {V : Cell} (h : CodA cs cd N2 vs) (hn : 2 * cs.length < 2 ^ 31) (hs : V.slots.size = N2.toNatClampNeg) (hv : RoadKit.Has V vs (.int 0)) : Cod cd cs.length (fun j => cs.getD j 0) V := by
  rcases h with ⟨rfl, rfl, rfl, h⟩ | ⟨rfl, rfl, rfl, c, hc, hw⟩
  · rw [n32 (by omega)] at hs
    exact Or.inl ⟨rfl, hs, fun j hj => ⟨by rw [hv j (by omega), low_at _ _ _ hj], by
      have e : cs.getD j 0 = cs[j] := by simp [List.getD_eq_getElem?_getD, hj]
      show ¬ 255 < cs.getD j 0
      rw [e]; exact h _ (List.getElem_mem _)⟩⟩
  · rw [n32 (by omega)] at hs
    obtain ⟨j, hj, rfl⟩ := List.getElem_of_mem hc
    exact Or.inr ⟨rfl, hs, fun j hj => ⟨by rw [hv _ (by omega), wide_lo _ _ _ hj], by rw [hv _ (by omega), wide_hi _ _ _ hj]⟩, j, hj, by
      have e : cs.getD j 0 = cs[j] := by simp [List.getD_eq_getElem?_getD, hj]
      show 255 < cs.getD j 0
      rw [e]; exact hw⟩
/-- an object of exactly java/lang/String, its two fields found: as the laws ask it -/
theorem strObj {Z U : State} {a0 : Array Value} {kI : Nat} (wi : (Jvm.Cond.instantiable ST kI).before a0 Z = true) (al : Z.vm.Alike U.vm) {x : Addr} {v0 c0 : Value} (E : RoadKit.Exa Z U.heap x ST) (V : RoadKit.Fld Z U.heap x ST "value" "[B" v0) (C : RoadKit.Fld Z U.heap x ST "coder" "B" c0) :
    ∃ (D : Cell) (fV fC : Field), Blank ST x D U ∧ Found ST "value" "[B" fV U ∧ Found ST "coder" "B" fC U ∧ D.slots[fV.slot]? = some v0 ∧ D.slots[fC.slot]? = some c0 ∧ RoadKit.slotOf Z ST "value" "[B" = fV.slot ∧ RoadKit.slotOf Z ST "coder" "B" = fC.slot := by
  obtain ⟨D, cfV, kV, iV, fV, hD, gV, stV, knV, obV, asV, slV⟩ := V
  obtain ⟨D', cfC, kC, iC, fC, hD', gC, stC, -, -, asC, slC⟩ := C
  cases hD.symm.trans hD'
  obtain ⟨D2, kD, e1, e2, e3, e4, e5⟩ := E
  cases hD.symm.trans e1
  obtain ⟨c2, k2, i1, i2, i3, -⟩ := Cond.instantiable_spec wi
  cases e2.symm.trans i1
  cases e3.symm.trans i2
  obtain ⟨kU, u1, u2⟩ := al.2.2 _ _ e3
  exact ⟨D, fV, fC, ⟨hD, ⟨knV, fun q hq => by rw [hq] at obV; cases obV⟩, by rw [al.findClass]; exact e2, kU, u1, by rw [u2]; exact i3, by rw [u2]; exact e5 i3⟩, ⟨SBG.found_only al ⟨cfV, kV, iV, gV⟩, stV⟩, ⟨SBG.found_only al ⟨cfC, kC, iC, gC⟩, stC⟩, slV, slC, by simp [RoadKit.slotOf, gV], by simp [RoadKit.slotOf, gC]⟩
theorem sta_is {Z U : State} (al : Z.vm.Alike U.vm) {C n d : String} {v : Value} (S : RoadKit.Sta Z U.heap C n d v) : StaticIs U C n d v := by
  obtain ⟨cfS, iS, kS, fS, st, cS, t1, t2, t3, t4, t5, t6, t7⟩ := S
  exact StaticIs.there (s := { Z with heap := U.heap }) ⟨cfS, iS, kS, fS, st, cS, t1, t2, t3, t4, t5, (fun q => by rw [q] at t6; cases t6), t7⟩ al rfl
/-- **length() OF SUCH A STRING** -/
theorem lenW {p : Program} {l : Launch} {e : Env} {R : Room} {s : State} {args : Array Value} {below : List Frame} {len W : Nat} {Z : State} {a0 : Array Value} {h : Heap} (hZ : Z.Warmed39 s.vm) (hw : ∀ d ∈ wordsLen, d.before a0 Z = true) {kI : Nat} (wi : (Jvm.Cond.instantiable ST kI).before a0 Z = true)
    {x t : Addr} {kb : ClassId} {cs : List Int32} {cd N2 z : Int32} {vs : List Value} (E : RoadKit.Exa Z h x ST) (V : RoadKit.Fld Z h x ST "value" "[B" (.ref t)) (C : RoadKit.Fld Z h x ST "coder" "B" (.int cd)) (K : RoadKit.Arv Z h t kb .byte N2 vs (.int 0)) (hc : CodA cs cd N2 vs) (hb : ∀ c ∈ cs, ¬ c < 0 ∧ ¬ (65535 : Int32) < c)
    (S : RoadKit.Sta Z h ST "COMPACT_STRINGS" "Z" (.int z)) (hz : ¬ z = 0) (l2 : cs.length ≤ 4000) (hfr : 2 ≤ R.frames) (hlo : W + 25 ≤ R.locals) :
    Back l R p e below s args (⟨"java/lang/String", "length", "()I"⟩ : MethodName) len W (fun P a => a = #[.ref x] ∧ P.U.heap = h ∧ P.cells + 0 ≤ R.cells ∧ P.slots + 0 ≤ R.slots)
      (fun P _ v B => ∃ L, (v = some (.int (Int32.ofNat cs.length)) ∧ L = [] ∧ B.U.heap = h) ∧ B.locs = P.locs ++ L ∧ B.cells = P.cells + 0 ∧ B.slots = P.slots + 0) := by
  obtain ⟨A, K1, K2, K3, K4, K5, K6⟩ := K
  have hcod := hc.cod (by omega) K3 K5
  intro m meth c P g ig mk a X hg hsize hdg hW hn hp'
  obtain ⟨rfl, rfl, r1, r2⟩ := hp'
  have al : Z.vm.Alike P.U.vm := hZ.alike.trans X.warmed.alike
  obtain ⟨D, fV, fC, hB, F1, F2, g1, g2, -, -⟩ := strObj wi al E V C
  have hx : Txt x t A cd cs.length (fun j => cs.getD j 0) P.U := ⟨⟨_, hB.2.2.1, D, hB.1, rfl, by cases q : D.vm <;> first | rfl | exact absurd q (hB.2.1.2 _)⟩, Has.of hB F1 g1, Has.of hB F2 g2, ⟨K1.1, State.isArrayOf_alike al K1.2.1, K1.2.2, by rcases hcod with ⟨-, q, -⟩ | ⟨-, q, -⟩ <;> omega⟩, hcod, fun j hj => by
    have e : cs.getD j 0 = cs[j] := by simp [List.getD_eq_getElem?_getD, hj]
    show ¬ cs.getD j 0 < 0 ∧ ¬ 65535 < cs.getD j 0
    rw [e]; exact hb _ (List.getElem_mem _)⟩
  obtain ⟨v, B, X', ⟨⟨hv, hh⟩, hl, hk, hs⟩, st⟩ := Len.pays x t A cd cs.length (fun j => cs.getD j 0) z (tabLen_of (movedLen hZ hw)) hfr hlo m meth c P g ig mk _ X hg hsize hdg hW hn ⟨r1, r2, rfl, hx, sta_is al S, hz⟩
  exact ⟨v, B, X', ⟨[], ⟨hv, rfl, hh⟩, hl, hk, hs⟩, st⟩
end StrChars.Road
namespace StrChars
open Jvm Sem ClassFile Op Lib Jvm.Stand Jvm.Free.XT Jvm.Free.ALB Jvm.Free.JM Jvm.Free
open Jvm.Lib.Cold (StaticIs)
namespace Emp
def yN : MethodName := ⟨"java/lang/String", "isEmpty", "()Z"⟩
abbrev yB : ByteArray := jdk_42_method_55_code
theorem d0 : decode yB 0 = .ok (.aload_n 0, 1) := by decide +kernel
theorem d1 : decode yB 1 = .ok (.getfield 9, 3) := by decide +kernel
theorem d4 : decode yB 4 = .ok (.arraylength, 1) := by decide +kernel
theorem d5 : decode yB 5 = .ok (.ifCond (.ne) 7, 3) := by decide +kernel
theorem d8 : decode yB 8 = .ok (.iconst 1, 1) := by decide +kernel
theorem d9 : decode yB 9 = .ok (.goto 4, 3) := by decide +kernel
theorem d12 : decode yB 12 = .ok (.iconst 0, 1) := by decide +kernel
theorem d13 : decode yB 13 = .ok (.ireturn, 1) := by decide +kernel
def site : List Cond := [.fieldLink "java/lang/String" 9 "java/lang/String" "value" "[B"]
def tab : Cond := tabOf yN yB 1 (some .boolean) site
def P (x t : Addr) (V : Cell) (cd : Int32) (n : Nat) (f : Nat → Int32) (args : Array Value) (s : State) : Prop := args = #[.ref x] ∧ Txt x t V cd n f s
def E (n : Nat) (r : Option Value) (s u : State) : Prop := XT.PureE (some (.int (if n = 0 then 1 else 0))) r s u
/-- isEmpty() of a String of n chars -/
theorem law (l : Launch) (x t : Addr) (V : Cell) (cd : Int32) (n : Nat) (f : Nat → Int32) : Law l yN 1 0 0 0 yB 1 (some .boolean) site (P x t V cd n f) (E n) [] 0 0 := by
  refine Law.of_walk (plainFor_of_name (by decide +kernel)) (by decide +kernel) (by decide +kernel) (by decide) (fun _ _ h => by rw [h.1]; rfl) (fun _ U U' hal hh h => ⟨h.1, h.2.mv hal hh⟩) (fun r U U' V V' h1 hal h2 h => XT.PureE.mv r U U' V V' h1 hal h2 h) ?_
  intro p e s m args below meth c s₁ X0 hexec hbytes hml hret hlk hnm hown hh0 W hP
  obtain ⟨rfl, hx⟩ := hP
  have v31 := hx.2.2.2.1.2.2.2
  have c1 : Steps p.tables e below (s₁.setTop (entryFrame m #[.ref x] 1)) (s₁.setTop (mkF m 1 #[.val (.ref x)] [.ref x])) := Steps.trans (entry rfl) (by
    show Steps p.tables e below (s₁.setTop (mkF m 0 #[.val (.ref x)] [])) _
    refine XS.aloadN X0.here hexec rfl (hb hbytes d0) rfl rfl ?_
    exact Steps.refl _)
  obtain ⟨T2, X2, q2, st2⟩ := X0.hget hexec hown (wk W (.fieldLink "java/lang/String" 9 "java/lang/String" "value" "[B")) (hx.mv X0.warmed.alike hh0).2.1 (g := (mkF m 1 #[.val (.ref x)] [.ref x])) rfl (rest := []) rfl (hb hbytes d1)
  have hh2 := q2.trans hh0
  have hx2 := hx.mv X2.warmed.alike hh2
  have c3 : Steps p.tables e below (s₁.setTop (entryFrame m #[.ref x] 1)) (T2.setTop (mkF m 5 #[.val (.ref x)] [.int (Int32.ofNat V.slots.size)])) := (c1.trans (st2 _ (Steps.refl _))).trans (by
    refine X2.alen hexec hx2.2.2.2.1 rfl rfl (hb hbytes d4) ?_
    exact Steps.refl _)
  have hz : V.slots.size = 0 ↔ n = 0 := by
    rcases hx.2.2.2.2.1 with ⟨-, q, -⟩ | ⟨-, q, -⟩ <;> omega
  by_cases h0 : n = 0
  · have c4 : Steps p.tables e below (s₁.setTop (entryFrame m #[.ref x] 1)) (T2.setTop (mkF m 13 #[.val (.ref x)] [.int 1])) := c3.trans (by
      refine XS.ifNo X2.here hexec rfl (hb hbytes d5) rfl (i0_ne_f (by rw [hz.mpr h0]; rfl)) ?_
      refine iconstV X2.here hexec rfl 1 (hb hbytes d8) (by decide) ?_
      refine XS.goto X2.here hexec rfl (pc0 := 9) rfl (hb hbytes d9) (by decide) rfl ?_
      exact Steps.refl _)
    exact ⟨T2, some (.int 1), _, _, _, X2, rfl, rfl, rfl, (fun h => by cases h), ⟨by rw [if_pos h0], hh2⟩, fun fs hl => c4.trans (X2.ireturnOut hexec hret rfl (Or.inr (Or.inl rfl)) (hb hbytes d13) hl)⟩
  · have c4 : Steps p.tables e below (s₁.setTop (entryFrame m #[.ref x] 1)) (T2.setTop (mkF m 13 #[.val (.ref x)] [.int 0])) := c3.trans (by
      refine XS.ifYes X2.here hexec rfl (pc0 := 5) rfl (hb hbytes d5) rfl (i0_ne_t (nz32 v31 (by omega))) (by decide) rfl ?_
      refine iconstV X2.here hexec rfl 0 (hb hbytes d12) (by decide) ?_
      exact Steps.refl _)
    exact ⟨T2, some (.int 0), _, _, _, X2, rfl, rfl, rfl, (fun h => by cases h), ⟨by rw [if_neg h0], hh2⟩, fun fs hl => c4.trans (X2.ireturnOut hexec hret rfl (Or.inr (Or.inl rfl)) (hb hbytes d13) hl)⟩
theorem pays {l : Launch} {R : Room} {p : Program} {e : Env} {below : List Frame} {s : State} {sargs : Array Value} {len W : Nat} (x t : Addr) (V : Cell) (cd : Int32) (n : Nat) (f : Nat → Int32) (htab : tab.before sargs s = true) (hfr : 1 ≤ R.frames) (hlo : W + 12 ≤ R.locals) :
    Back l R p e below s sargs yN len W (fun A₁ a₁ => A₁.cells + 0 ≤ R.cells ∧ A₁.slots + 0 ≤ R.slots ∧ P x t V cd n f a₁ A₁.U) (fun A₁ _ v₁ B₁ => E n v₁ A₁.U B₁.U ∧ B₁.locs = A₁.locs ++ [] ∧ B₁.cells = A₁.cells + 0 ∧ B₁.slots = A₁.slots + 0) :=
  (law l x t V cd n f).pays htab hfr (by omega)
end Emp
end StrChars
namespace StrChars.Road
open Jvm Sem ClassFile Op Lib Jvm.Stand Jvm.Free Jvm.Free.XT
open Jvm.Lib.Cold (StaticIs)
/-- the words of String.isEmpty() -/
abbrev wordsEmp : List Jvm.Cond := [.code Emp.yN Emp.yB 1 (some .boolean), .initialized ST, .fieldLink ST 9 ST "value" "[B"]
theorem tabEmp_of {a : Array Value} {s : State} (h : ∀ w ∈ wordsEmp, w.before a s = true) : Emp.tab.before a s = true := unparts (wk h (.code Emp.yN Emp.yB 1 (some .boolean))) (wks h (.initialized Emp.yN.cls :: Emp.site))
theorem movedEmp {Z s : State} {a0 args : Array Value} (hZ : Z.Warmed39 s.vm) (hw : ∀ d ∈ wordsEmp, d.before a0 Z = true) : ∀ d ∈ wordsEmp, d.before args s = true := fun d hd => by
  have t : ∀ d ∈ wordsEmp, (d.onTables && d.keepsFace) = true := by decide +kernel
  exact RoadKit.mv hZ (hw d hd) (t d hd)
/-- the road's facts of a String, as the laws ask it -/
theorem txt_of {Z U : State} {a0 : Array Value} {kI : Nat} (wi : (Jvm.Cond.instantiable ST kI).before a0 Z = true) (al : Z.vm.Alike U.vm) {x t : Addr} {kb : ClassId} {cs : List Int32} {cd N2 : Int32} {vs : List Value} (E : RoadKit.Exa Z U.heap x ST) (V : RoadKit.Fld Z U.heap x ST "value" "[B" (.ref t)) (C : RoadKit.Fld Z U.heap x ST "coder" "B" (.int cd)) (K : RoadKit.Arv Z U.heap t kb .byte N2 vs (.int 0)) (hc : CodA cs cd N2 vs) (hb : ∀ c ∈ cs, ¬ c < 0 ∧ ¬ (65535 : Int32) < c) (l2 : cs.length ≤ 4000) :
    ∃ A, Txt x t A cd cs.length (fun j => cs.getD j 0) U := by
  obtain ⟨A, K1, K2, K3, K4, K5, K6⟩ := K
  have hcod := hc.cod (by omega) K3 K5
  obtain ⟨D, fV, fC, hB, F1, F2, g1, g2, -, -⟩ := strObj wi al E V C
  exact ⟨A, ⟨_, hB.2.2.1, D, hB.1, rfl, by cases q : D.vm <;> first | rfl | exact absurd q (hB.2.1.2 _)⟩, Has.of hB F1 g1, Has.of hB F2 g2, ⟨K1.1, State.isArrayOf_alike al K1.2.1, K1.2.2, by rcases hcod with ⟨-, q, -⟩ | ⟨-, q, -⟩ <;> omega⟩, hcod, fun j hj => by
    have e : cs.getD j 0 = cs[j] := by simp [List.getD_eq_getElem?_getD, hj]
    show ¬ cs.getD j 0 < 0 ∧ ¬ 65535 < cs.getD j 0
    rw [e]; exact hb _ (List.getElem_mem _)⟩
/-- **isEmpty() OF SUCH A STRING** -/
theorem empW {p : Program} {l : Launch} {e : Env} {R : Room} {s : State} {args : Array Value} {below : List Frame} {len W : Nat} {Z : State} {a0 : Array Value} {h : Heap} (hZ : Z.Warmed39 s.vm) (hw : ∀ d ∈ wordsEmp, d.before a0 Z = true) {kI : Nat} (wi : (Jvm.Cond.instantiable ST kI).before a0 Z = true)
    {x t : Addr} {kb : ClassId} {cs : List Int32} {cd N2 : Int32} {vs : List Value} (E : RoadKit.Exa Z h x ST) (V : RoadKit.Fld Z h x ST "value" "[B" (.ref t)) (C : RoadKit.Fld Z h x ST "coder" "B" (.int cd)) (K : RoadKit.Arv Z h t kb .byte N2 vs (.int 0)) (hc : CodA cs cd N2 vs) (hb : ∀ c ∈ cs, ¬ c < 0 ∧ ¬ (65535 : Int32) < c) (l2 : cs.length ≤ 4000) (hfr : 1 ≤ R.frames) (hlo : W + 12 ≤ R.locals) :
    Back l R p e below s args (⟨"java/lang/String", "isEmpty", "()Z"⟩ : MethodName) len W (fun P a => a = #[.ref x] ∧ P.U.heap = h ∧ P.cells + 0 ≤ R.cells ∧ P.slots + 0 ≤ R.slots)
      (fun P _ v B => ∃ L, (v = some (.int (if cs.length = 0 then 1 else 0)) ∧ L = [] ∧ B.U.heap = h) ∧ B.locs = P.locs ++ L ∧ B.cells = P.cells + 0 ∧ B.slots = P.slots + 0) := by
  intro m meth c P g ig mk a X hg hsize hdg hW hn hp'
  obtain ⟨rfl, rfl, r1, r2⟩ := hp'
  have al : Z.vm.Alike P.U.vm := hZ.alike.trans X.warmed.alike
  obtain ⟨A, hx⟩ := txt_of wi al E V C K hc hb l2
  obtain ⟨v, B, X', ⟨⟨hv, hh⟩, hl, hk, hs⟩, st⟩ := Emp.pays x t A cd cs.length (fun j => cs.getD j 0) (tabEmp_of (movedEmp hZ hw)) hfr hlo m meth c P g ig mk _ X hg hsize hdg hW hn ⟨r1, r2, rfl, hx⟩
  exact ⟨v, B, X', ⟨[], ⟨hv, rfl, hh⟩, hl, hk, hs⟩, st⟩
end StrChars.Road
namespace StrChars
open Jvm Sem ClassFile Op Lib Jvm.Stand Jvm.Free.XT Jvm.Free.ALB Jvm.Free.JM Jvm.Free
open Jvm.Lib.Cold (StaticIs)
namespace ChN
def yN : MethodName := ⟨"java/lang/String", "charAt", "(I)C"⟩
abbrev yB : ByteArray := jdk_42_method_56_code
theorem d0 : decode yB 0 = .ok (.aload_n 0, 1) := by decide +kernel
theorem d1 : decode yB 1 = .ok (.invokevirtual 492, 3) := by decide +kernel
theorem d4 : decode yB 4 = .ok (.ifCond (.eq) 12, 3) := by decide +kernel
theorem d7 : decode yB 7 = .ok (.aload_n 0, 1) := by decide +kernel
theorem d8 : decode yB 8 = .ok (.getfield 9, 3) := by decide +kernel
theorem d11 : decode yB 11 = .ok (.iload_n 1, 1) := by decide +kernel
theorem d12 : decode yB 12 = .ok (.invokestatic 495, 3) := by decide +kernel
theorem d15 : decode yB 15 = .ok (.ireturn, 1) := by decide +kernel
def site : List Cond := [.fieldLink "java/lang/String" 9 "java/lang/String" "value" "[B", IsL.tab, LChA.tab] ++ virtW "java/lang/String" 492 "java/lang/String" IsL.yN IsL.yN ++ staticW "java/lang/String" 495 LChA.yN
def tab : Cond := tabOf yN yB 2 (some .char) site
def P (x t : Addr) (V : Cell) (n : Nat) (f : Nat → Int32) (z : Int32) (fm : Value) (i : Nat) (args : Array Value) (s : State) : Prop := args = #[.ref x, .int (Int32.ofNat i)] ∧ Txt x t V 0 n f s ∧ i < n ∧ StaticIs s "java/lang/String" "COMPACT_STRINGS" "Z" (.int z) ∧ ¬ z = 0 ∧ StaticIs s "jdk/internal/util/Preconditions" "SIOOBE_FORMATTER" "Ljava/util/function/BiFunction;" fm ∧ fm.isRef = true
def E (f : Nat → Int32) (i : Nat) (r : Option Value) (s u : State) : Prop := XT.PureE (some (.int (f i))) r s u
/-- charAt(i) of a Latin-1 String of n chars, i < n: f i -/
theorem law (l : Launch) (x t : Addr) (V : Cell) (n : Nat) (f : Nat → Int32) (z : Int32) (fm : Value) (i : Nat) : Law l yN 2 1 3 40 yB 2 (some .char) site (P x t V n f z fm i) (E f i) [] 0 0 := by
  refine Law.of_walk (plainFor_of_name (by decide +kernel)) (by decide +kernel) (by decide +kernel) (by decide) (fun _ _ h => by rw [h.1]; rfl) (fun _ U U' hal hh h => ⟨h.1, h.2.1.mv hal hh, h.2.2.1, h.2.2.2.1.there hal hh, h.2.2.2.2.1, h.2.2.2.2.2.1.there hal hh, h.2.2.2.2.2.2⟩) (fun r U U' V V' h1 hal h2 h => XT.PureE.mv r U U' V V' h1 hal h2 h) ?_
  intro p e s m args below meth c s₁ X0 hexec hbytes hml hret hlk hnm hown hh0 W hP
  obtain ⟨rfl, hx, hi, s1, hz, s3, rf⟩ := hP
  have v31 := hx.2.2.2.1.2.2.2
  have hr := hx.2.2.2.2.2 i hi
  have hx0 := hx.mv X0.warmed.alike hh0
  have c1 : Steps p.tables e below (s₁.setTop (entryFrame m #[.ref x, .int (Int32.ofNat i)] 2)) (s₁.setTop (mkF m 1 #[.val (.ref x), .val (.int (Int32.ofNat i))] [.ref x])) := Steps.trans (entry rfl) (by
    show Steps p.tables e below (s₁.setTop (mkF m 0 #[.val (.ref x), .val (.int (Int32.ofNat i))] [])) _
    refine XS.aloadN X0.here hexec rfl (hb hbytes d0) rfl rfl ?_
    exact Steps.refl _)
  obtain ⟨v2, T2, X2, E2, g2⟩ := X0.callV hexec (IsL.law l x 0 z) hown (wks W (virtW "java/lang/String" 492 "java/lang/String" IsL.yN IsL.yN)) rfl (by decide) (wk W IsL.tab) (W := 0) (Nat.le_of_ble_eq_true rfl) (Nat.le_of_ble_eq_true rfl) (Nat.le_refl _) (Nat.le_refl _) (hx0.1.fc X0.warmed.alike) hx0.1.is (g := (mkF m 1 #[.val (.ref x), .val (.int (Int32.ofNat i))] [.ref x])) rfl (by rw [hml]; rfl) c1 (argsL := []) (rest := []) rfl rfl (by show 2 * 0 + 0 ≤ _; decide) (hb hbytes d1) (⟨rfl, hx0.2.2.1, hx.2.2.2.2.1.cd, s1.there X0.warmed.alike hh0, hz⟩)
  obtain ⟨rfl, q2⟩ := E2
  have hh2 := q2.trans hh0
  have hx2 := hx.mv X2.warmed.alike hh2
  obtain ⟨-, k1, k2⟩ | ⟨k0, -⟩ := hx.2.2.2.2.1
  · have c3 : Steps p.tables e below (s₁.setTop (entryFrame m #[.ref x, .int (Int32.ofNat i)] 2)) (T2.setTop (mkF m 8 #[.val (.ref x), .val (.int (Int32.ofNat i))] [.ref x])) := Steps.trans g2 (by
      refine XS.ifNo X2.here hexec rfl (hb hbytes d4) rfl (i0_eq_f (by decide)) ?_
      refine XS.aloadN X2.here hexec rfl (hb hbytes d7) rfl rfl ?_
      exact Steps.refl _)
    obtain ⟨T4, X4, q4, st4⟩ := X2.hget hexec hown (wk W (.fieldLink "java/lang/String" 9 "java/lang/String" "value" "[B")) hx2.2.1 (g := (mkF m 8 #[.val (.ref x), .val (.int (Int32.ofNat i))] [.ref x])) rfl (rest := []) rfl (hb hbytes d8)
    have hh4 := q4.trans hh2
    have c5 : Steps p.tables e below (s₁.setTop (entryFrame m #[.ref x, .int (Int32.ofNat i)] 2)) (T4.setTop (mkF m 12 #[.val (.ref x), .val (.int (Int32.ofNat i))] [.int (Int32.ofNat i), .ref t])) := (c3.trans (st4 _ (Steps.refl _))).trans (by
      refine XS.iloadN X4.here hexec rfl (hb hbytes d11) rfl ?_
      exact Steps.refl _)
    obtain ⟨v6, T6, X6, E6, g6⟩ := X4.callS hexec (LChA.law l t V i (lo8 (f i)) fm) hown (wks W (staticW "java/lang/String" 495 LChA.yN)) (wk W LChA.tab) (W := 0) (Nat.le_of_ble_eq_true rfl) (Nat.le_of_ble_eq_true rfl) (Nat.le_refl _) (Nat.le_refl _) (g := (mkF m 12 #[.val (.ref x), .val (.int (Int32.ofNat i))] [.int (Int32.ofNat i), .ref t])) rfl (by rw [hml]; rfl) c5 (argsL := [.ref t, .int (Int32.ofNat i)]) (rest := []) rfl rfl (by show 2 * 0 + 0 ≤ _; decide) (hb hbytes d12) (⟨rfl, hx.2.2.2.1.mv X4.warmed.alike hh4, (k2 i hi).1, s3.there X4.warmed.alike hh4, rf⟩)
    obtain ⟨rfl, q6⟩ := E6
    rw [chr8_lo8 hr.1 (k2 i hi).2] at g6
    exact ⟨T6, some (.int (f i)), _, _, _, X6, rfl, rfl, rfl, (fun h => by cases h), ⟨rfl, q6.trans hh4⟩, fun fs hl => Steps.trans g6 (X6.ireturnOut hexec hret (narrow_ch hr.1 hr.2) (Or.inr (Or.inr (Or.inr (Or.inl rfl)))) (hb hbytes d15) hl)⟩
  · exact absurd k0 (by decide)
theorem pays {l : Launch} {R : Room} {p : Program} {e : Env} {below : List Frame} {s : State} {sargs : Array Value} {len W : Nat} (x t : Addr) (V : Cell) (n : Nat) (f : Nat → Int32) (z : Int32) (fm : Value) (i : Nat) (htab : tab.before sargs s = true) (hfr : 4 ≤ R.frames) (hlo : W + 53 ≤ R.locals) :
    Back l R p e below s sargs yN len W (fun A₁ a₁ => A₁.cells + 0 ≤ R.cells ∧ A₁.slots + 0 ≤ R.slots ∧ P x t V n f z fm i a₁ A₁.U) (fun A₁ _ v₁ B₁ => E f i v₁ A₁.U B₁.U ∧ B₁.locs = A₁.locs ++ [] ∧ B₁.cells = A₁.cells + 0 ∧ B₁.slots = A₁.slots + 0) :=
  (law l x t V n f z fm i).pays htab hfr (by omega)
end ChN
end StrChars
namespace StrChars.Road
open Jvm Sem ClassFile Op Lib Jvm.Stand Jvm.Free Jvm.Free.XT
open Jvm.Lib.Cold (StaticIs)
/-- the words of String.charAt(int), the Latin-1 road alone -/
abbrev wordsChN : List Jvm.Cond := [.code ChN.yN ChN.yB 2 (some .char), .initialized ST, .fieldLink ST 9 ST "value" "[B", .fieldLink ST 38 ST "COMPACT_STRINGS" "Z", .fieldLink ST 15 ST "coder" "B", .code IsL.yN IsL.yB 1 (some .boolean), .methodLink ST 492 IsL.yN, .declares IsL.yN, .selects ST IsL.yN IsL.yN, .instanceMethod IsL.yN,
  .methodLink ST 495 LChA.yN, .static LChA.yN, .code LChA.yN LChA.yB 2 (some .char), .initialized "java/lang/StringLatin1", .methodLink "java/lang/StringLatin1" 9 JO.Str_checkIndex.yN, .static JO.Str_checkIndex.yN, .code JO.Str_checkIndex.yN JO.Str_checkIndex.yB 2 none,
  .fieldLink ST 1053 "jdk/internal/util/Preconditions" "SIOOBE_FORMATTER" "Ljava/util/function/BiFunction;", .methodLink ST 1059 JC.PreCheck.yN, .static JC.PreCheck.yN, .code JC.PreCheck.yN JC.PreCheck.yB 3 (some .int), .initialized "jdk/internal/util/Preconditions"]
theorem tabChN_of {a : Array Value} {s : State} (h : ∀ w ∈ wordsChN, w.before a s = true) : ChN.tab.before a s = true := by
  have hp : JC.PreCheck.tab.before a s = true := unparts (wk h (.code JC.PreCheck.yN JC.PreCheck.yB 3 (some .int))) (wks h (.initialized JC.PreCheck.yN.cls :: JC.PreCheck.site))
  have qk := consq hp h
  have hk : JO.Str_checkIndex.tab.before a s = true := unparts (wk qk (.code JO.Str_checkIndex.yN JO.Str_checkIndex.yB 2 none)) (wks qk (.initialized JO.Str_checkIndex.yN.cls :: JO.Str_checkIndex.site))
  have ql := consq hk h
  have hl : LChA.tab.before a s = true := unparts (wk ql (.code LChA.yN LChA.yB 2 (some .char))) (wks ql (.initialized LChA.yN.cls :: LChA.site))
  have hi : IsL.tab.before a s = true := unparts (wk h (.code IsL.yN IsL.yB 1 (some .boolean))) (wks h (.initialized IsL.yN.cls :: IsL.site))
  have q := consq hi (consq hl h)
  exact unparts (wk q (.code ChN.yN ChN.yB 2 (some .char))) (wks q (.initialized ChN.yN.cls :: ChN.site))
theorem movedChN {Z s : State} {a0 args : Array Value} (hZ : Z.Warmed39 s.vm) (hw : ∀ d ∈ wordsChN, d.before a0 Z = true) : ∀ d ∈ wordsChN, d.before args s = true := fun d hd => by
  have t : ∀ d ∈ wordsChN, (d.onTables && d.keepsFace) = true := by decide +kernel
  exact RoadKit.mv hZ (hw d hd) (t d hd)
/-- **charAt(i) OF A LATIN-1 STRING**, i < n: the char -/
theorem chN {p : Program} {l : Launch} {e : Env} {R : Room} {s : State} {args : Array Value} {below : List Frame} {len W : Nat} {Z : State} {a0 : Array Value} {h : Heap} (hZ : Z.Warmed39 s.vm) (hw : ∀ d ∈ wordsChN, d.before a0 Z = true) {kI : Nat} (wi : (Jvm.Cond.instantiable ST kI).before a0 Z = true)
    {x t : Addr} {kb : ClassId} {cs : List Int32} {N2 z : Int32} {vs : List Value} {fm : Value} {i : Nat} {j : Int32} (E : RoadKit.Exa Z h x ST) (V : RoadKit.Fld Z h x ST "value" "[B" (.ref t)) (C : RoadKit.Fld Z h x ST "coder" "B" (.int 0)) (K : RoadKit.Arv Z h t kb .byte N2 vs (.int 0)) (hc : CodA cs 0 N2 vs) (hb : ∀ c ∈ cs, ¬ c < 0 ∧ ¬ (65535 : Int32) < c)
    (S : RoadKit.Sta Z h ST "COMPACT_STRINGS" "Z" (.int z)) (hz : ¬ z = 0) (F : RoadKit.Sta Z h "jdk/internal/util/Preconditions" "SIOOBE_FORMATTER" "Ljava/util/function/BiFunction;" fm) (rf : fm.isRef = true) (l2 : cs.length ≤ 4000) (hi : i < cs.length) (hj : j = Int32.ofNat i) (hfr : 4 ≤ R.frames) (hlo : W + 53 ≤ R.locals) :
    Back l R p e below s args (⟨"java/lang/String", "charAt", "(I)C"⟩ : MethodName) len W (fun P a => a = #[.ref x, .int j] ∧ P.U.heap = h ∧ P.cells + 0 ≤ R.cells ∧ P.slots + 0 ≤ R.slots)
      (fun P _ v B => ∃ L, (v = some (.int (cs.getD i 0)) ∧ L = [] ∧ B.U.heap = h) ∧ B.locs = P.locs ++ L ∧ B.cells = P.cells + 0 ∧ B.slots = P.slots + 0) := by
  subst hj
  intro m meth c P g ig mk a X hg hsize hdg hW hn hp'
  obtain ⟨rfl, rfl, r1, r2⟩ := hp'
  have al : Z.vm.Alike P.U.vm := hZ.alike.trans X.warmed.alike
  obtain ⟨A, hx⟩ := txt_of wi al E V C K hc hb l2
  obtain ⟨v, B, X', ⟨⟨hv, hh⟩, hl, hk, hs⟩, st⟩ := ChN.pays x t A cs.length (fun j => cs.getD j 0) z fm i (tabChN_of (movedChN hZ hw)) hfr hlo m meth c P g ig mk _ X hg hsize hdg hW hn ⟨r1, r2, rfl, hx, hi, sta_is al S, hz, sta_is al F, rf⟩
  exact ⟨v, B, X', ⟨[], ⟨hv, rfl, hh⟩, hl, hk, hs⟩, st⟩
/-- what backV says of its String, as the contracts of this text ask it: cs's low bytes, coder 0 -/
theorem codOf {cs : List Int32} {n : Nat} (hn : cs.length = n) (hb : ∀ c ∈ cs, ¬ 255 < c) : CodA cs 0 (Int32.ofNat n) ((cs.map lo8).map Value.int) := Or.inl ⟨rfl, by rw [hn], by simp [List.map_map, Function.comp_def], hb⟩
end StrChars.Road
end Jvm.Pilot.@@N@@
namespace Jvm.Pilot.@@N@@
open Jvm Jvm.ClassFile Sem Op Lib Jvm.Free Jvm.Stand Jvm.LawKit Jvm.RoadKit Bundle Jvm.Pilot.@@N@@.Jvm.D
abbrev GG (p : Program) (e : Env) (below : List Frame) (T : State) (g : JFrame) (t : State) : Prop := Steps p.tables e below (T.setTop g) t
theorem ww {a0 : Array Value} {Z : State} (hw : ∀ d ∈ tables_1, d.before a0 Z = true) (i : Nat) {d : Jvm.Cond} (h : tables_1[i]? = some d) : d.before a0 Z = true := hw d (List.mem_of_getElem? h)
theorem mw {d : Jvm.Cond} {Z s : State} {a0 args : Array Value} (hZ : Z.Warmed39 s.vm) (hw : ∀ d ∈ tables_1, d.before a0 Z = true) (i : Nat) (h : tables_1[i]? = some d) (hd : (d.onTables && d.keepsFace) = true := by first | rfl | simp [Cond.onTables, Cond.keepsFace, Cond.keeps, Cond.steady]) : d.before args s = true := mvT hZ (hw d (List.mem_of_getElem? h)) hd
/-- the signs that a name may hold -/
def okB (r : Int32) : Bool := (decide (65 ≤ r) && decide (r ≤ 90)) || (decide (97 ≤ r) && decide (r ≤ 122)) || (decide (48 ≤ r) && decide (r ≤ 57)) || r == 45 || r == 95 || r == 46
theorem own_mask (p : Int32) : 0 ≤ (p &&& 2147483647).toInt := by
  have h : (p &&& 2147483647).toBitVec.toNat < 2147483648 := by
    simp only [Int32.toBitVec_and, BitVec.toNat_and]
    exact Nat.lt_succ_of_le Nat.and_le_right
  show 0 ≤ (p &&& 2147483647).toBitVec.toInt
  rw [BitVec.toInt_eq_toNat_of_lt (by omega)]
  omega
theorem own_rem (p : Int32) : ∃ k : Fin 65, ((p &&& (2147483647 : Int32)) - ((p &&& (2147483647 : Int32)) / (65 : Int32)) * (65 : Int32)) = Int32.ofNat k.val := by
  have h0 := own_mask p
  have e := rem_toInt (p &&& 2147483647) 65
  have e65 : (65 : Int32).toInt = 65 := rfl
  rw [e65, Int.tmod_eq_emod_of_nonneg h0] at e
  have b1 := Int.emod_nonneg (p &&& 2147483647).toInt (by decide : (65 : Int) ≠ 0)
  have b2 := Int.emod_lt_of_pos (p &&& 2147483647).toInt (by decide : (0 : Int) < 65)
  refine ⟨⟨((p &&& 2147483647).toInt % 65).toNat, by omega⟩, ?_⟩
  apply Int32.toInt_inj.mp
  rw [e, Int32.toInt_ofNat_of_lt (by show (((p &&& 2147483647).toInt % 65).toNat) < 2 ^ 31; omega)]
  show _ = ((((p &&& 2147483647).toInt % 65).toNat : Nat) : Int)
  omega
theorem own_three (p : Int32) : (p &&& 3) = 0 ∨ (p &&& 3) = 1 ∨ (p &&& 3) = 2 ∨ (p &&& 3) = 3 := by
  have h : (p &&& 3).toBitVec.toNat < 4 := by
    simp only [Int32.toBitVec_and, BitVec.toNat_and]
    exact Nat.lt_succ_of_le Nat.and_le_right
  have e : (p &&& 3) = Int32.ofNat (p &&& 3).toBitVec.toNat := by
    apply Int32.toBitVec_inj.mp
    show _ = BitVec.ofNat 32 _
    rw [BitVec.ofNat_toNat]; simp
  have t : ∀ k : Fin 4, Int32.ofNat k.val = 0 ∨ Int32.ofNat k.val = 1 ∨ Int32.ofNat k.val = 2 ∨ Int32.ofNat k.val = 3 := by decide
  rw [e]
  exact t ⟨_, h⟩
theorem own_pk1 : ∀ k : Fin 65, Int32.ofNat k.val < (26 : Int32) → okB (nar .char (((65 : Int32) + (Int32.ofNat k.val)).toUInt32.toUInt16.toUInt32.toInt32)) = true := by decide +kernel
theorem own_pk2 : ∀ k : Fin 65, ¬ Int32.ofNat k.val < (26 : Int32) → Int32.ofNat k.val < (52 : Int32) → okB (nar .char (((97 : Int32) + ((Int32.ofNat k.val) - (26 : Int32))).toUInt32.toUInt16.toUInt32.toInt32)) = true := by decide +kernel
theorem own_pk3 : ∀ k : Fin 65, ¬ Int32.ofNat k.val < (52 : Int32) → Int32.ofNat k.val < (62 : Int32) → okB (nar .char (((48 : Int32) + ((Int32.ofNat k.val) - (52 : Int32))).toUInt32.toUInt16.toUInt32.toInt32)) = true := by decide +kernel
theorem own_ok (r : Int32) (h : okB r = true) : (¬ r < 0 ∧ ¬ (255 : Int32) < r) ∧ nar .char r = r := by
  have q : (65 ≤ r ∧ r ≤ 90) ∨ (97 ≤ r ∧ r ≤ 122) ∨ (48 ≤ r ∧ r ≤ 57) ∨ r = 45 ∨ r = 95 ∨ r = 46 := by
    simp only [okB, Bool.or_eq_true, Bool.and_eq_true, decide_eq_true_eq, beq_iff_eq] at h
    rcases h with ((((h | h) | h) | h) | h) | h
    · exact Or.inl h
    · exact Or.inr (Or.inl h)
    · exact Or.inr (Or.inr (Or.inl h))
    · exact Or.inr (Or.inr (Or.inr (Or.inl h)))
    · exact Or.inr (Or.inr (Or.inr (Or.inr (Or.inl h))))
    · exact Or.inr (Or.inr (Or.inr (Or.inr (Or.inr h))))
  have b : 0 ≤ r.toInt ∧ r.toInt < 256 := by
    simp only [Int32.le_iff_toInt_le, ← Int32.toInt_inj] at q
    have e1 : (65 : Int32).toInt = 65 := rfl
    have e2 : (90 : Int32).toInt = 90 := rfl
    have e3 : (97 : Int32).toInt = 97 := rfl
    have e4 : (122 : Int32).toInt = 122 := rfl
    have e5 : (48 : Int32).toInt = 48 := rfl
    have e6 : (57 : Int32).toInt = 57 := rfl
    have e7 : (45 : Int32).toInt = 45 := rfl
    have e8 : (95 : Int32).toInt = 95 := rfl
    have e9 : (46 : Int32).toInt = 46 := rfl
    omega
  have t : ∀ k : Fin 256, (¬ Int32.ofNat k.val < 0 ∧ ¬ (255 : Int32) < Int32.ofNat k.val) ∧ nar .char (Int32.ofNat k.val) = Int32.ofNat k.val := by decide +kernel
  have e : r = Int32.ofNat r.toInt.toNat := by
    apply Int32.toInt_inj.mp
    rw [Int32.toInt_ofNat_of_lt (by omega)]
    omega
  rw [e]
  exact t ⟨r.toInt.toNat, by omega⟩
theorem own_up (cs : List Int32) (h : ∀ c ∈ cs, okB c = true) : (∀ c ∈ cs, ¬ c < 0 ∧ ¬ (255 : Int32) < c) ∧ ∀ c ∈ cs, ¬ c < 0 ∧ ¬ (65535 : Int32) < c := ⟨fun c hc => (own_ok c (h c hc)).1, fun c hc => ⟨((own_ok c (h c hc)).1).1, fun q => ((own_ok c (h c hc)).1).2 (by rw [Int32.lt_iff_toInt_lt] at q ⊢; have e1 : (65535 : Int32).toInt = 65535 := rfl; have e2 : (255 : Int32).toInt = 255 := rfl; omega)⟩⟩
theorem own_i (i n : Nat) (hn : n ≤ 4000) (hi : i ≤ n) : (Int32.ofNat i < Int32.ofNat n) ↔ i < n := by
  rw [Int32.lt_iff_toInt_lt, Int32.toInt_ofNat_of_lt (by omega), Int32.toInt_ofNat_of_lt (by omega)]
  omega
theorem own_inc (i : Nat) : Int32.ofNat i + 1 = Int32.ofNat (i + 1) := i32_ofNat_add_one i

theorem own_wLen {a0 : Array Value} {Z : State} (hw : ∀ d ∈ tables_1, d.before a0 Z = true) : ∀ d ∈ StrChars.Road.wordsLen, d.before a0 Z = true := fun d hd => hw d ((by decide +kernel : ∀ d ∈ StrChars.Road.wordsLen, d ∈ tables_1) d hd)
theorem own_wEmp {a0 : Array Value} {Z : State} (hw : ∀ d ∈ tables_1, d.before a0 Z = true) : ∀ d ∈ StrChars.Road.wordsEmp, d.before a0 Z = true := fun d hd => hw d ((by decide +kernel : ∀ d ∈ StrChars.Road.wordsEmp, d ∈ tables_1) d hd)
theorem own_wCh {a0 : Array Value} {Z : State} (hw : ∀ d ∈ tables_1, d.before a0 Z = true) : ∀ d ∈ StrChars.Road.wordsChN, d.before a0 Z = true := fun d hd => hw d ((by decide +kernel : ∀ d ∈ StrChars.Road.wordsChN, d ∈ tables_1) d hd)
theorem own_wNew {a0 : Array Value} {Z : State} (hw : ∀ d ∈ tables_1, d.before a0 Z = true) : ∀ d ∈ StrChars.Road.words, d.before a0 Z = true := fun d hd => hw d ((by decide +kernel : ∀ d ∈ StrChars.Road.words, d ∈ tables_1) d hd)

theorem ef_pick (m : MethodId) (x0 : Int32) : entryFrame m #[(.int x0)] 2 = mkF m 0 #[.val (.int x0), .unset] [] := by first | (simp [entryFrame, mkF, argsToLocals, Value.category]; done) | rfl
theorem pn_0 : plainName "com/example/leagan/leagan/NamesCheckPinLaw" = true := by first | (simp [plainName, overriddenIn]; done) | decide +kernel
theorem d_pick_0 : decode method_2_code 0 = .ok (.iload_n 0, 1) := by decide +kernel
theorem d_pick_1 : decode method_2_code 1 = .ok (.ldc 7, 2) := by decide +kernel
theorem d_pick_3 : decode method_2_code 3 = .ok (.iand, 1) := by decide +kernel
theorem d_pick_4 : decode method_2_code 4 = .ok (.bipush 65, 2) := by decide +kernel
theorem d_pick_6 : decode method_2_code 6 = .ok (.irem, 1) := by decide +kernel
theorem d_pick_7 : decode method_2_code 7 = .ok (.istore_n 1, 1) := by decide +kernel
theorem d_pick_8 : decode method_2_code 8 = .ok (.iload_n 1, 1) := by decide +kernel
theorem d_pick_9 : decode method_2_code 9 = .ok (.bipush 26, 2) := by decide +kernel
theorem d_pick_11 : decode method_2_code 11 = .ok (.if_icmp .ge 9, 3) := by decide +kernel
theorem d_pick_14 : decode method_2_code 14 = .ok (.bipush 65, 2) := by decide +kernel
theorem d_pick_16 : decode method_2_code 16 = .ok (.iload_n 1, 1) := by decide +kernel
theorem d_pick_17 : decode method_2_code 17 = .ok (.iadd, 1) := by decide +kernel
theorem d_pick_18 : decode method_2_code 18 = .ok (.i2c, 1) := by decide +kernel
theorem d_pick_19 : decode method_2_code 19 = .ok (.ireturn, 1) := by decide +kernel
theorem d_pick_20 : decode method_2_code 20 = .ok (.iload_n 1, 1) := by decide +kernel
theorem d_pick_21 : decode method_2_code 21 = .ok (.bipush 52, 2) := by decide +kernel
theorem d_pick_23 : decode method_2_code 23 = .ok (.if_icmp .ge 12, 3) := by decide +kernel
theorem d_pick_26 : decode method_2_code 26 = .ok (.bipush 97, 2) := by decide +kernel
theorem d_pick_28 : decode method_2_code 28 = .ok (.iload_n 1, 1) := by decide +kernel
theorem d_pick_29 : decode method_2_code 29 = .ok (.bipush 26, 2) := by decide +kernel
theorem d_pick_31 : decode method_2_code 31 = .ok (.isub, 1) := by decide +kernel
theorem d_pick_32 : decode method_2_code 32 = .ok (.iadd, 1) := by decide +kernel
theorem d_pick_33 : decode method_2_code 33 = .ok (.i2c, 1) := by decide +kernel
theorem d_pick_34 : decode method_2_code 34 = .ok (.ireturn, 1) := by decide +kernel
theorem d_pick_35 : decode method_2_code 35 = .ok (.iload_n 1, 1) := by decide +kernel
theorem d_pick_36 : decode method_2_code 36 = .ok (.bipush 62, 2) := by decide +kernel
theorem d_pick_38 : decode method_2_code 38 = .ok (.if_icmp .ge 12, 3) := by decide +kernel
theorem d_pick_41 : decode method_2_code 41 = .ok (.bipush 48, 2) := by decide +kernel
theorem d_pick_43 : decode method_2_code 43 = .ok (.iload_n 1, 1) := by decide +kernel
theorem d_pick_44 : decode method_2_code 44 = .ok (.bipush 52, 2) := by decide +kernel
theorem d_pick_46 : decode method_2_code 46 = .ok (.isub, 1) := by decide +kernel
theorem d_pick_47 : decode method_2_code 47 = .ok (.iadd, 1) := by decide +kernel
theorem d_pick_48 : decode method_2_code 48 = .ok (.i2c, 1) := by decide +kernel
theorem d_pick_49 : decode method_2_code 49 = .ok (.ireturn, 1) := by decide +kernel
theorem d_pick_50 : decode method_2_code 50 = .ok (.iload_n 1, 1) := by decide +kernel
theorem d_pick_51 : decode method_2_code 51 = .ok (.bipush 62, 2) := by decide +kernel
theorem d_pick_53 : decode method_2_code 53 = .ok (.if_icmp .ne 6, 3) := by decide +kernel
theorem d_pick_56 : decode method_2_code 56 = .ok (.bipush 45, 2) := by decide +kernel
theorem d_pick_58 : decode method_2_code 58 = .ok (.ireturn, 1) := by decide +kernel
theorem d_pick_59 : decode method_2_code 59 = .ok (.iload_n 1, 1) := by decide +kernel
theorem d_pick_60 : decode method_2_code 60 = .ok (.bipush 63, 2) := by decide +kernel
theorem d_pick_62 : decode method_2_code 62 = .ok (.if_icmp .ne 6, 3) := by decide +kernel
theorem d_pick_65 : decode method_2_code 65 = .ok (.bipush 95, 2) := by decide +kernel
theorem d_pick_67 : decode method_2_code 67 = .ok (.ireturn, 1) := by decide +kernel
theorem d_pick_68 : decode method_2_code 68 = .ok (.bipush 46, 2) := by decide +kernel
theorem d_pick_70 : decode method_2_code 70 = .ok (.ireturn, 1) := by decide +kernel
def Q_pick (Z : State) (pp : Int32) (h0 : Heap) (n0 : Nat) (v : Option Value) (h : Heap) (L : List Loc) : Prop := ∃ (r : Int32), v = some (.int r) ∧ Fr n0 L ∧ h = h0 ∧ (okB r = true)
set_option maxRecDepth 65536 in
set_option maxHeartbeats 40000000 in
theorem rm_pick (l : Launch) (Z : State) (a0 : Array Value) (hw : ∀ d ∈ tables_1, d.before a0 Z = true) (ws : List Jvm.Cond) (pp : Int32) (h0 : Heap) (n0 : Nat) (Z0 : n0 ≤ h0.size) :
    MetFree l (⟨"com/example/leagan/leagan/NamesCheckPinLaw", "pick", "(I)C"⟩ : MethodName) (head1 (Jvm.Cond.code (⟨"com/example/leagan/leagan/NamesCheckPinLaw", "pick", "(I)C"⟩ : MethodName) method_2_code 2 (some .char) :: ws) ({ frames := 0, cells := 0, slots := 0, locals := 0 } : Room)) (fun a U => a = #[(.int pp)] ∧ Z.Warmed39 U.vm ∧ U.heap = h0) (fun _ _ _ _ _ => True) (fun _ U o U' => ∃ v L, o = .returned v ∧ Q_pick Z pp h0 n0 v U'.heap L ∧ FrameEnd U o U' L ({ frames := 0, cells := 0, slots := 0, locals := 0 } : Room).cells ({ frames := 0, cells := 0, slots := 0, locals := 0 } : Room).slots) := by
  refine MetFree.of_bodySF (plainFor_of_name pn_0) hisR ?_
  intro p e s m args below meth c s₁ Bd hml0 hP hK
  obtain ⟨rfl, hZ, hh⟩ := hP
  have hx := Bd.exec
  have hby := Bd.bytes
  have hml : c.maxLocals = 2 := hml0
  have hown : s.vm.findClass "com/example/leagan/leagan/NamesCheckPinLaw" = some m.cls := findClass_of_methodNamed Bd.named
  have hnm := (name_of_methodNamed Bd.named Bd.method).1
  have X0 : Stand p l e ({ frames := 0, cells := 0, slots := 0, locals := 0 } : Room) s m #[(.int pp)] below meth c s₁ [] 0 0 := Stand.of_body Bd
  have e0 : s₁.heap = h0 := by rw [← hh, Bd.state]; rfl
  have N0 := Fr.nil n0
  obtain ⟨s0, hs0⟩ : ∃ z, z = (s₁.setTop (entryFrame m #[(.int pp)] 2)) := ⟨_, rfl⟩
  have P0 : ∀ t, GG p e below s₁ (mkF m 0 #[.val (.int pp), .unset] []) t → Steps p.tables e below s0 t := fun t kk_ => by rw [hs0]; exact castTop (ef_pick m pp) kk_
  have P1 : ∀ t, GG p e below s₁ (mkF m 7 #[.val (.int pp), .unset] [(.int ((pp &&& (2147483647 : Int32)) - ((pp &&& (2147483647 : Int32)) / (65 : Int32)) * (65 : Int32)))]) t → Steps p.tables e below s0 t := fun t kk_ => P0 t (by
    refine XS.iloadN X0.here hx rfl (hb hby d_pick_0) rfl ?_
    show GG p e below s₁ (mkF m 1 #[.val (.int pp), .unset] [(.int pp)]) t
    refine X0.ldcInt hx hown (mw hZ hw 4 rfl) (g := (mkF m 1 #[.val (.int pp), .unset] [(.int pp)])) rfl (hb hby d_pick_1) _ ?_
    show GG p e below s₁ (mkF m 3 #[.val (.int pp), .unset] [(.int (2147483647 : Int32)), (.int pp)]) t
    refine XS.iand X0.here hx rfl (hb hby d_pick_3) rfl ?_
    show GG p e below s₁ (mkF m 4 #[.val (.int pp), .unset] [(.int (pp &&& (2147483647 : Int32)))]) t
    refine XS.bipush X0.here hx rfl (hb hby d_pick_4) ?_
    show GG p e below s₁ (mkF m 6 #[.val (.int pp), .unset] [(.int (65 : Int32)), (.int (pp &&& (2147483647 : Int32)))]) t
    refine XS.irem X0.here hx rfl (hb hby d_pick_6) rfl (by decide) ?_
    show GG p e below s₁ (mkF m 7 #[.val (.int pp), .unset] [(.int ((pp &&& (2147483647 : Int32)) - ((pp &&& (2147483647 : Int32)) / (65 : Int32)) * (65 : Int32)))]) t
    exact kk_)
  obtain ⟨k65, hk65⟩ := own_rem pp
  have P2 : ∀ t, GG p e below s₁ (mkF m 7 #[.val (.int pp), .unset] [(.int (Int32.ofNat k65.val))]) t → Steps p.tables e below s0 t := fun t kk_ => P1 t (by rw [hk65]; exact kk_)
  have P3 : ∀ t, GG p e below s₁ (mkF m 11 #[.val (.int pp), .val (.int (Int32.ofNat k65.val))] [(.int (26 : Int32)), (.int (Int32.ofNat k65.val))]) t → Steps p.tables e below s0 t := fun t kk_ => P2 t (by
    refine XS.istoreN X0.here hx rfl (hb hby d_pick_7) rfl (l' := #[.val (.int pp), .val (.int (Int32.ofNat k65.val))]) rfl ?_
    show GG p e below s₁ (mkF m 8 #[.val (.int pp), .val (.int (Int32.ofNat k65.val))] []) t
    refine XS.iloadN X0.here hx rfl (hb hby d_pick_8) rfl ?_
    show GG p e below s₁ (mkF m 9 #[.val (.int pp), .val (.int (Int32.ofNat k65.val))] [(.int (Int32.ofNat k65.val))]) t
    refine XS.bipush X0.here hx rfl (hb hby d_pick_9) ?_
    show GG p e below s₁ (mkF m 11 #[.val (.int pp), .val (.int (Int32.ofNat k65.val))] [(.int (26 : Int32)), (.int (Int32.ofNat k65.val))]) t
    exact kk_)
  by_cases hc11_4 : (Int32.ofNat k65.val) < (26 : Int32)
  ·
    have P5 : ∀ t, GG p e below s₁ (mkF m 19 #[.val (.int pp), .val (.int (Int32.ofNat k65.val))] [(.int (((65 : Int32) + (Int32.ofNat k65.val)).toUInt32.toUInt16.toUInt32.toInt32))]) t → Steps p.tables e below s0 t := fun t kk_ => P3 t (by
      refine XS.icmpNo X0.here hx rfl (hb hby d_pick_11) rfl (tlt (hc11_4 : (Int32.ofNat k65.val) < (26 : Int32))).2.1 ?_
      show GG p e below s₁ (mkF m 14 #[.val (.int pp), .val (.int (Int32.ofNat k65.val))] []) t
      refine XS.bipush X0.here hx rfl (hb hby d_pick_14) ?_
      show GG p e below s₁ (mkF m 16 #[.val (.int pp), .val (.int (Int32.ofNat k65.val))] [(.int (65 : Int32))]) t
      refine XS.iloadN X0.here hx rfl (hb hby d_pick_16) rfl ?_
      show GG p e below s₁ (mkF m 17 #[.val (.int pp), .val (.int (Int32.ofNat k65.val))] [(.int (Int32.ofNat k65.val)), (.int (65 : Int32))]) t
      refine XS.iadd X0.here hx rfl (hb hby d_pick_17) rfl ?_
      show GG p e below s₁ (mkF m 18 #[.val (.int pp), .val (.int (Int32.ofNat k65.val))] [(.int ((65 : Int32) + (Int32.ofNat k65.val)))]) t
      refine XS.i2c X0.here hx rfl (hb hby d_pick_18) rfl ?_
      show GG p e below s₁ (mkF m 19 #[.val (.int pp), .val (.int (Int32.ofNat k65.val))] [(.int (((65 : Int32) + (Int32.ofNat k65.val)).toUInt32.toUInt16.toUInt32.toInt32))]) t
      exact kk_)
    subst hs0
    obtain ⟨fs, hr, hrun, hended, hW, hsame⟩ := X0.leave (v := some (.int (nar .char (((65 : Int32) + (Int32.ofNat k65.val)).toUInt32.toUInt16.toUInt32.toInt32)))) (fun h => by rw [Bd.returns] at h; cases h)
    refine ⟨_, _, P5 _ ?_, hrun, hended, _, _, rfl, ?_, ⟨_, rfl⟩, hW, hsame.mono (by decide) (by decide)⟩
    · show GG p e below s₁ (mkF m 19 #[.val (.int pp), .val (.int (Int32.ofNat k65.val))] [(.int (((65 : Int32) + (Int32.ofNat k65.val)).toUInt32.toUInt16.toUInt32.toInt32))]) _
      exact retN X0 hx (t := .char) Bd.returns (by simp) (hb hby d_pick_19) hr
    · show Q_pick Z pp h0 n0 _ s₁.heap _
      rw [e0]
      exact ⟨(nar .char (((65 : Int32) + (Int32.ofNat k65.val)).toUInt32.toUInt16.toUInt32.toInt32)), rfl, N0, rfl, own_pk1 k65 hc11_4⟩
  ·
    have P6 : ∀ t, GG p e below s₁ (mkF m 23 #[.val (.int pp), .val (.int (Int32.ofNat k65.val))] [(.int (52 : Int32)), (.int (Int32.ofNat k65.val))]) t → Steps p.tables e below s0 t := fun t kk_ => P3 t (by
      refine XS.icmpYes X0.here hx rfl (pc0 := 11) (pc' := 20) rfl (hb hby d_pick_11) rfl (flt (hc11_4 : ¬ ((Int32.ofNat k65.val) < (26 : Int32)))).2.1 (by decide) (by decide) ?_
      show GG p e below s₁ (mkF m 20 #[.val (.int pp), .val (.int (Int32.ofNat k65.val))] []) t
      refine XS.iloadN X0.here hx rfl (hb hby d_pick_20) rfl ?_
      show GG p e below s₁ (mkF m 21 #[.val (.int pp), .val (.int (Int32.ofNat k65.val))] [(.int (Int32.ofNat k65.val))]) t
      refine XS.bipush X0.here hx rfl (hb hby d_pick_21) ?_
      show GG p e below s₁ (mkF m 23 #[.val (.int pp), .val (.int (Int32.ofNat k65.val))] [(.int (52 : Int32)), (.int (Int32.ofNat k65.val))]) t
      exact kk_)
    by_cases hc23_7 : (Int32.ofNat k65.val) < (52 : Int32)
    ·
      have P8 : ∀ t, GG p e below s₁ (mkF m 34 #[.val (.int pp), .val (.int (Int32.ofNat k65.val))] [(.int (((97 : Int32) + ((Int32.ofNat k65.val) - (26 : Int32))).toUInt32.toUInt16.toUInt32.toInt32))]) t → Steps p.tables e below s0 t := fun t kk_ => P6 t (by
        refine XS.icmpNo X0.here hx rfl (hb hby d_pick_23) rfl (tlt (hc23_7 : (Int32.ofNat k65.val) < (52 : Int32))).2.1 ?_
        show GG p e below s₁ (mkF m 26 #[.val (.int pp), .val (.int (Int32.ofNat k65.val))] []) t
        refine XS.bipush X0.here hx rfl (hb hby d_pick_26) ?_
        show GG p e below s₁ (mkF m 28 #[.val (.int pp), .val (.int (Int32.ofNat k65.val))] [(.int (97 : Int32))]) t
        refine XS.iloadN X0.here hx rfl (hb hby d_pick_28) rfl ?_
        show GG p e below s₁ (mkF m 29 #[.val (.int pp), .val (.int (Int32.ofNat k65.val))] [(.int (Int32.ofNat k65.val)), (.int (97 : Int32))]) t
        refine XS.bipush X0.here hx rfl (hb hby d_pick_29) ?_
        show GG p e below s₁ (mkF m 31 #[.val (.int pp), .val (.int (Int32.ofNat k65.val))] [(.int (26 : Int32)), (.int (Int32.ofNat k65.val)), (.int (97 : Int32))]) t
        refine XS.isub X0.here hx rfl (hb hby d_pick_31) rfl ?_
        show GG p e below s₁ (mkF m 32 #[.val (.int pp), .val (.int (Int32.ofNat k65.val))] [(.int ((Int32.ofNat k65.val) - (26 : Int32))), (.int (97 : Int32))]) t
        refine XS.iadd X0.here hx rfl (hb hby d_pick_32) rfl ?_
        show GG p e below s₁ (mkF m 33 #[.val (.int pp), .val (.int (Int32.ofNat k65.val))] [(.int ((97 : Int32) + ((Int32.ofNat k65.val) - (26 : Int32))))]) t
        refine XS.i2c X0.here hx rfl (hb hby d_pick_33) rfl ?_
        show GG p e below s₁ (mkF m 34 #[.val (.int pp), .val (.int (Int32.ofNat k65.val))] [(.int (((97 : Int32) + ((Int32.ofNat k65.val) - (26 : Int32))).toUInt32.toUInt16.toUInt32.toInt32))]) t
        exact kk_)
      subst hs0
      obtain ⟨fs, hr, hrun, hended, hW, hsame⟩ := X0.leave (v := some (.int (nar .char (((97 : Int32) + ((Int32.ofNat k65.val) - (26 : Int32))).toUInt32.toUInt16.toUInt32.toInt32)))) (fun h => by rw [Bd.returns] at h; cases h)
      refine ⟨_, _, P8 _ ?_, hrun, hended, _, _, rfl, ?_, ⟨_, rfl⟩, hW, hsame.mono (by decide) (by decide)⟩
      · show GG p e below s₁ (mkF m 34 #[.val (.int pp), .val (.int (Int32.ofNat k65.val))] [(.int (((97 : Int32) + ((Int32.ofNat k65.val) - (26 : Int32))).toUInt32.toUInt16.toUInt32.toInt32))]) _
        exact retN X0 hx (t := .char) Bd.returns (by simp) (hb hby d_pick_34) hr
      · show Q_pick Z pp h0 n0 _ s₁.heap _
        rw [e0]
        exact ⟨(nar .char (((97 : Int32) + ((Int32.ofNat k65.val) - (26 : Int32))).toUInt32.toUInt16.toUInt32.toInt32)), rfl, N0, rfl, own_pk2 k65 hc11_4 hc23_7⟩
    ·
      have P9 : ∀ t, GG p e below s₁ (mkF m 38 #[.val (.int pp), .val (.int (Int32.ofNat k65.val))] [(.int (62 : Int32)), (.int (Int32.ofNat k65.val))]) t → Steps p.tables e below s0 t := fun t kk_ => P6 t (by
        refine XS.icmpYes X0.here hx rfl (pc0 := 23) (pc' := 35) rfl (hb hby d_pick_23) rfl (flt (hc23_7 : ¬ ((Int32.ofNat k65.val) < (52 : Int32)))).2.1 (by decide) (by decide) ?_
        show GG p e below s₁ (mkF m 35 #[.val (.int pp), .val (.int (Int32.ofNat k65.val))] []) t
        refine XS.iloadN X0.here hx rfl (hb hby d_pick_35) rfl ?_
        show GG p e below s₁ (mkF m 36 #[.val (.int pp), .val (.int (Int32.ofNat k65.val))] [(.int (Int32.ofNat k65.val))]) t
        refine XS.bipush X0.here hx rfl (hb hby d_pick_36) ?_
        show GG p e below s₁ (mkF m 38 #[.val (.int pp), .val (.int (Int32.ofNat k65.val))] [(.int (62 : Int32)), (.int (Int32.ofNat k65.val))]) t
        exact kk_)
      by_cases hc38_10 : (Int32.ofNat k65.val) < (62 : Int32)
      ·
        have P11 : ∀ t, GG p e below s₁ (mkF m 49 #[.val (.int pp), .val (.int (Int32.ofNat k65.val))] [(.int (((48 : Int32) + ((Int32.ofNat k65.val) - (52 : Int32))).toUInt32.toUInt16.toUInt32.toInt32))]) t → Steps p.tables e below s0 t := fun t kk_ => P9 t (by
          refine XS.icmpNo X0.here hx rfl (hb hby d_pick_38) rfl (tlt (hc38_10 : (Int32.ofNat k65.val) < (62 : Int32))).2.1 ?_
          show GG p e below s₁ (mkF m 41 #[.val (.int pp), .val (.int (Int32.ofNat k65.val))] []) t
          refine XS.bipush X0.here hx rfl (hb hby d_pick_41) ?_
          show GG p e below s₁ (mkF m 43 #[.val (.int pp), .val (.int (Int32.ofNat k65.val))] [(.int (48 : Int32))]) t
          refine XS.iloadN X0.here hx rfl (hb hby d_pick_43) rfl ?_
          show GG p e below s₁ (mkF m 44 #[.val (.int pp), .val (.int (Int32.ofNat k65.val))] [(.int (Int32.ofNat k65.val)), (.int (48 : Int32))]) t
          refine XS.bipush X0.here hx rfl (hb hby d_pick_44) ?_
          show GG p e below s₁ (mkF m 46 #[.val (.int pp), .val (.int (Int32.ofNat k65.val))] [(.int (52 : Int32)), (.int (Int32.ofNat k65.val)), (.int (48 : Int32))]) t
          refine XS.isub X0.here hx rfl (hb hby d_pick_46) rfl ?_
          show GG p e below s₁ (mkF m 47 #[.val (.int pp), .val (.int (Int32.ofNat k65.val))] [(.int ((Int32.ofNat k65.val) - (52 : Int32))), (.int (48 : Int32))]) t
          refine XS.iadd X0.here hx rfl (hb hby d_pick_47) rfl ?_
          show GG p e below s₁ (mkF m 48 #[.val (.int pp), .val (.int (Int32.ofNat k65.val))] [(.int ((48 : Int32) + ((Int32.ofNat k65.val) - (52 : Int32))))]) t
          refine XS.i2c X0.here hx rfl (hb hby d_pick_48) rfl ?_
          show GG p e below s₁ (mkF m 49 #[.val (.int pp), .val (.int (Int32.ofNat k65.val))] [(.int (((48 : Int32) + ((Int32.ofNat k65.val) - (52 : Int32))).toUInt32.toUInt16.toUInt32.toInt32))]) t
          exact kk_)
        subst hs0
        obtain ⟨fs, hr, hrun, hended, hW, hsame⟩ := X0.leave (v := some (.int (nar .char (((48 : Int32) + ((Int32.ofNat k65.val) - (52 : Int32))).toUInt32.toUInt16.toUInt32.toInt32)))) (fun h => by rw [Bd.returns] at h; cases h)
        refine ⟨_, _, P11 _ ?_, hrun, hended, _, _, rfl, ?_, ⟨_, rfl⟩, hW, hsame.mono (by decide) (by decide)⟩
        · show GG p e below s₁ (mkF m 49 #[.val (.int pp), .val (.int (Int32.ofNat k65.val))] [(.int (((48 : Int32) + ((Int32.ofNat k65.val) - (52 : Int32))).toUInt32.toUInt16.toUInt32.toInt32))]) _
          exact retN X0 hx (t := .char) Bd.returns (by simp) (hb hby d_pick_49) hr
        · show Q_pick Z pp h0 n0 _ s₁.heap _
          rw [e0]
          exact ⟨(nar .char (((48 : Int32) + ((Int32.ofNat k65.val) - (52 : Int32))).toUInt32.toUInt16.toUInt32.toInt32)), rfl, N0, rfl, own_pk3 k65 hc23_7 hc38_10⟩
      ·
        have P12 : ∀ t, GG p e below s₁ (mkF m 53 #[.val (.int pp), .val (.int (Int32.ofNat k65.val))] [(.int (62 : Int32)), (.int (Int32.ofNat k65.val))]) t → Steps p.tables e below s0 t := fun t kk_ => P9 t (by
          refine XS.icmpYes X0.here hx rfl (pc0 := 38) (pc' := 50) rfl (hb hby d_pick_38) rfl (flt (hc38_10 : ¬ ((Int32.ofNat k65.val) < (62 : Int32)))).2.1 (by decide) (by decide) ?_
          show GG p e below s₁ (mkF m 50 #[.val (.int pp), .val (.int (Int32.ofNat k65.val))] []) t
          refine XS.iloadN X0.here hx rfl (hb hby d_pick_50) rfl ?_
          show GG p e below s₁ (mkF m 51 #[.val (.int pp), .val (.int (Int32.ofNat k65.val))] [(.int (Int32.ofNat k65.val))]) t
          refine XS.bipush X0.here hx rfl (hb hby d_pick_51) ?_
          show GG p e below s₁ (mkF m 53 #[.val (.int pp), .val (.int (Int32.ofNat k65.val))] [(.int (62 : Int32)), (.int (Int32.ofNat k65.val))]) t
          exact kk_)
        by_cases hc53_13 : (Int32.ofNat k65.val) = (62 : Int32)
        ·
          have P14 : ∀ t, GG p e below s₁ (mkF m 58 #[.val (.int pp), .val (.int (Int32.ofNat k65.val))] [(.int (45 : Int32))]) t → Steps p.tables e below s0 t := fun t kk_ => P12 t (by
            refine XS.icmpNo X0.here hx rfl (hb hby d_pick_53) rfl (teq (hc53_13 : (Int32.ofNat k65.val) = (62 : Int32))).2 ?_
            show GG p e below s₁ (mkF m 56 #[.val (.int pp), .val (.int (Int32.ofNat k65.val))] []) t
            refine XS.bipush X0.here hx rfl (hb hby d_pick_56) ?_
            show GG p e below s₁ (mkF m 58 #[.val (.int pp), .val (.int (Int32.ofNat k65.val))] [(.int (45 : Int32))]) t
            exact kk_)
          subst hs0
          obtain ⟨fs, hr, hrun, hended, hW, hsame⟩ := X0.leave (v := some (.int (nar .char (45 : Int32)))) (fun h => by rw [Bd.returns] at h; cases h)
          refine ⟨_, _, P14 _ ?_, hrun, hended, _, _, rfl, ?_, ⟨_, rfl⟩, hW, hsame.mono (by decide) (by decide)⟩
          · show GG p e below s₁ (mkF m 58 #[.val (.int pp), .val (.int (Int32.ofNat k65.val))] [(.int (45 : Int32))]) _
            exact retN X0 hx (t := .char) Bd.returns (by simp) (hb hby d_pick_58) hr
          · show Q_pick Z pp h0 n0 _ s₁.heap _
            rw [e0]
            exact ⟨(nar .char (45 : Int32)), rfl, N0, rfl, (by decide +kernel)⟩
        ·
          have P15 : ∀ t, GG p e below s₁ (mkF m 62 #[.val (.int pp), .val (.int (Int32.ofNat k65.val))] [(.int (63 : Int32)), (.int (Int32.ofNat k65.val))]) t → Steps p.tables e below s0 t := fun t kk_ => P12 t (by
            refine XS.icmpYes X0.here hx rfl (pc0 := 53) (pc' := 59) rfl (hb hby d_pick_53) rfl (feq (hc53_13 : ¬ ((Int32.ofNat k65.val) = (62 : Int32)))).2 (by decide) (by decide) ?_
            show GG p e below s₁ (mkF m 59 #[.val (.int pp), .val (.int (Int32.ofNat k65.val))] []) t
            refine XS.iloadN X0.here hx rfl (hb hby d_pick_59) rfl ?_
            show GG p e below s₁ (mkF m 60 #[.val (.int pp), .val (.int (Int32.ofNat k65.val))] [(.int (Int32.ofNat k65.val))]) t
            refine XS.bipush X0.here hx rfl (hb hby d_pick_60) ?_
            show GG p e below s₁ (mkF m 62 #[.val (.int pp), .val (.int (Int32.ofNat k65.val))] [(.int (63 : Int32)), (.int (Int32.ofNat k65.val))]) t
            exact kk_)
          by_cases hc62_16 : (Int32.ofNat k65.val) = (63 : Int32)
          ·
            have P17 : ∀ t, GG p e below s₁ (mkF m 67 #[.val (.int pp), .val (.int (Int32.ofNat k65.val))] [(.int (95 : Int32))]) t → Steps p.tables e below s0 t := fun t kk_ => P15 t (by
              refine XS.icmpNo X0.here hx rfl (hb hby d_pick_62) rfl (teq (hc62_16 : (Int32.ofNat k65.val) = (63 : Int32))).2 ?_
              show GG p e below s₁ (mkF m 65 #[.val (.int pp), .val (.int (Int32.ofNat k65.val))] []) t
              refine XS.bipush X0.here hx rfl (hb hby d_pick_65) ?_
              show GG p e below s₁ (mkF m 67 #[.val (.int pp), .val (.int (Int32.ofNat k65.val))] [(.int (95 : Int32))]) t
              exact kk_)
            subst hs0
            obtain ⟨fs, hr, hrun, hended, hW, hsame⟩ := X0.leave (v := some (.int (nar .char (95 : Int32)))) (fun h => by rw [Bd.returns] at h; cases h)
            refine ⟨_, _, P17 _ ?_, hrun, hended, _, _, rfl, ?_, ⟨_, rfl⟩, hW, hsame.mono (by decide) (by decide)⟩
            · show GG p e below s₁ (mkF m 67 #[.val (.int pp), .val (.int (Int32.ofNat k65.val))] [(.int (95 : Int32))]) _
              exact retN X0 hx (t := .char) Bd.returns (by simp) (hb hby d_pick_67) hr
            · show Q_pick Z pp h0 n0 _ s₁.heap _
              rw [e0]
              exact ⟨(nar .char (95 : Int32)), rfl, N0, rfl, (by decide +kernel)⟩
          ·
            have P18 : ∀ t, GG p e below s₁ (mkF m 70 #[.val (.int pp), .val (.int (Int32.ofNat k65.val))] [(.int (46 : Int32))]) t → Steps p.tables e below s0 t := fun t kk_ => P15 t (by
              refine XS.icmpYes X0.here hx rfl (pc0 := 62) (pc' := 68) rfl (hb hby d_pick_62) rfl (feq (hc62_16 : ¬ ((Int32.ofNat k65.val) = (63 : Int32)))).2 (by decide) (by decide) ?_
              show GG p e below s₁ (mkF m 68 #[.val (.int pp), .val (.int (Int32.ofNat k65.val))] []) t
              refine XS.bipush X0.here hx rfl (hb hby d_pick_68) ?_
              show GG p e below s₁ (mkF m 70 #[.val (.int pp), .val (.int (Int32.ofNat k65.val))] [(.int (46 : Int32))]) t
              exact kk_)
            subst hs0
            obtain ⟨fs, hr, hrun, hended, hW, hsame⟩ := X0.leave (v := some (.int (nar .char (46 : Int32)))) (fun h => by rw [Bd.returns] at h; cases h)
            refine ⟨_, _, P18 _ ?_, hrun, hended, _, _, rfl, ?_, ⟨_, rfl⟩, hW, hsame.mono (by decide) (by decide)⟩
            · show GG p e below s₁ (mkF m 70 #[.val (.int pp), .val (.int (Int32.ofNat k65.val))] [(.int (46 : Int32))]) _
              exact retN X0 hx (t := .char) Bd.returns (by simp) (hb hby d_pick_70) hr
            · show Q_pick Z pp h0 n0 _ s₁.heap _
              rw [e0]
              exact ⟨(nar .char (46 : Int32)), rfl, N0, rfl, (by decide +kernel)⟩
theorem ef_canEncode (m : MethodId) (x0 : Int32) : entryFrame m #[(.int x0)] 1 = mkF m 0 #[.val (.int x0)] [] := by first | (simp [entryFrame, mkF, argsToLocals, Value.category]; done) | rfl
theorem pn_1 : plainName "java/lang/StringLatin1" = true := by first | (simp [plainName, overriddenIn]; done) | decide +kernel
theorem d_canEncode_0 : decode jdk_43_method_3_code 0 = .ok (.iload_n 0, 1) := by decide +kernel
theorem d_canEncode_1 : decode jdk_43_method_3_code 1 = .ok (.sipush 255, 3) := by decide +kernel
theorem d_canEncode_4 : decode jdk_43_method_3_code 4 = .ok (.if_icmp .gt 7, 3) := by decide +kernel
theorem d_canEncode_7 : decode jdk_43_method_3_code 7 = .ok (.iconst 1, 1) := by decide +kernel
theorem d_canEncode_8 : decode jdk_43_method_3_code 8 = .ok (.goto 4, 3) := by decide +kernel
theorem d_canEncode_12 : decode jdk_43_method_3_code 12 = .ok (.ireturn, 1) := by decide +kernel
def Q_canEncode (Z : State) (cc : Int32) (h0 : Heap) (n0 : Nat) (v : Option Value) (h : Heap) (L : List Loc) : Prop := v = some (.int (1 : Int32)) ∧ Fr n0 L ∧ h = h0
set_option maxRecDepth 65536 in
set_option maxHeartbeats 40000000 in
theorem rm_canEncode (l : Launch) (Z : State) (a0 : Array Value) (hw : ∀ d ∈ tables_1, d.before a0 Z = true) (ws : List Jvm.Cond) (cc : Int32) (h0 : Heap) (n0 : Nat) (Z0 : n0 ≤ h0.size) (hcc : ¬ (255 : Int32) < cc) :
    MetFree l (⟨"java/lang/StringLatin1", "canEncode", "(C)Z"⟩ : MethodName) (head1 (Jvm.Cond.code (⟨"java/lang/StringLatin1", "canEncode", "(C)Z"⟩ : MethodName) jdk_43_method_3_code 1 (some .boolean) :: ws) ({ frames := 0, cells := 0, slots := 0, locals := 0 } : Room)) (fun a U => a = #[(.int cc)] ∧ Z.Warmed39 U.vm ∧ U.heap = h0) (fun _ _ _ _ _ => True) (fun _ U o U' => ∃ v L, o = .returned v ∧ Q_canEncode Z cc h0 n0 v U'.heap L ∧ FrameEnd U o U' L ({ frames := 0, cells := 0, slots := 0, locals := 0 } : Room).cells ({ frames := 0, cells := 0, slots := 0, locals := 0 } : Room).slots) := by
  refine MetFree.of_bodySF (plainFor_of_name pn_1) hisR ?_
  intro p e s m args below meth c s₁ Bd hml0 hP hK
  obtain ⟨rfl, hZ, hh⟩ := hP
  have hx := Bd.exec
  have hby := Bd.bytes
  have hml : c.maxLocals = 1 := hml0
  have hown : s.vm.findClass "java/lang/StringLatin1" = some m.cls := findClass_of_methodNamed Bd.named
  have hnm := (name_of_methodNamed Bd.named Bd.method).1
  have X0 : Stand p l e ({ frames := 0, cells := 0, slots := 0, locals := 0 } : Room) s m #[(.int cc)] below meth c s₁ [] 0 0 := Stand.of_body Bd
  have e0 : s₁.heap = h0 := by rw [← hh, Bd.state]; rfl
  have N0 := Fr.nil n0
  obtain ⟨s0, hs0⟩ : ∃ z, z = (s₁.setTop (entryFrame m #[(.int cc)] 1)) := ⟨_, rfl⟩
  have P0 : ∀ t, GG p e below s₁ (mkF m 0 #[.val (.int cc)] []) t → Steps p.tables e below s0 t := fun t kk_ => by rw [hs0]; exact castTop (ef_canEncode m cc) kk_
  have P1 : ∀ t, GG p e below s₁ (mkF m 12 #[.val (.int cc)] [(.int (1 : Int32))]) t → Steps p.tables e below s0 t := fun t kk_ => P0 t (by
    refine XS.iloadN X0.here hx rfl (hb hby d_canEncode_0) rfl ?_
    show GG p e below s₁ (mkF m 1 #[.val (.int cc)] [(.int cc)]) t
    refine XS.sipush X0.here hx rfl (hb hby d_canEncode_1) ?_
    show GG p e below s₁ (mkF m 4 #[.val (.int cc)] [(.int (255 : Int32)), (.int cc)]) t
    refine XS.icmpNo X0.here hx rfl (hb hby d_canEncode_4) rfl (flt (hcc : ¬ ((255 : Int32) < cc))).2.2.1 ?_
    show GG p e below s₁ (mkF m 7 #[.val (.int cc)] []) t
    refine XS.iconst X0.here hx rfl (hb hby d_canEncode_7) ?_
    show GG p e below s₁ (mkF m 8 #[.val (.int cc)] [(.int (1 : Int32))]) t
    refine XS.goto X0.here hx rfl (pc0 := 8) (pc' := 12) rfl (hb hby d_canEncode_8) (by decide) (by decide) ?_
    show GG p e below s₁ (mkF m 12 #[.val (.int cc)] [(.int (1 : Int32))]) t
    exact kk_)
  subst hs0
  obtain ⟨fs, hr, hrun, hended, hW, hsame⟩ := X0.leave (v := some (.int (nar .boolean (1 : Int32)))) (fun h => by rw [Bd.returns] at h; cases h)
  refine ⟨_, _, P1 _ ?_, hrun, hended, _, _, rfl, ?_, ⟨_, rfl⟩, hW, hsame.mono (by decide) (by decide)⟩
  · show GG p e below s₁ (mkF m 12 #[.val (.int cc)] [(.int (1 : Int32))]) _
    exact retN X0 hx (t := .boolean) Bd.returns (by simp) (hb hby d_canEncode_12) hr
  · show Q_canEncode Z cc h0 n0 _ s₁.heap _
    rw [e0]
    exact ⟨rfl, N0, rfl⟩
theorem ef_toBytes (m : MethodId) (x0 : Int32) : entryFrame m #[(.int x0)] 1 = mkF m 0 #[.val (.int x0)] [] := by first | (simp [entryFrame, mkF, argsToLocals, Value.category]; done) | rfl
theorem d_toBytes_0 : decode jdk_43_method_46_code 0 = .ok (.iconst 1, 1) := by decide +kernel
theorem d_toBytes_1 : decode jdk_43_method_46_code 1 = .ok (.newarray .byte, 2) := by decide +kernel
theorem d_toBytes_3 : decode jdk_43_method_46_code 3 = .ok (.dup, 1) := by decide +kernel
theorem d_toBytes_4 : decode jdk_43_method_46_code 4 = .ok (.iconst 0, 1) := by decide +kernel
theorem d_toBytes_5 : decode jdk_43_method_46_code 5 = .ok (.iload_n 0, 1) := by decide +kernel
theorem d_toBytes_6 : decode jdk_43_method_46_code 6 = .ok (.i2b, 1) := by decide +kernel
theorem d_toBytes_7 : decode jdk_43_method_46_code 7 = .ok (.bastore, 1) := by decide +kernel
theorem d_toBytes_8 : decode jdk_43_method_46_code 8 = .ok (.areturn, 1) := by decide +kernel
def Q_toBytes (Z : State) (cc : Int32) (h0 : Heap) (n0 : Nat) (v : Option Value) (h : Heap) (L : List Loc) : Prop := ∃ (t : Addr) (kb : ClassId), v = some (.ref t) ∧ Fr n0 L ∧ Keep h0 h [] ∧ (h0.size ≤ t) ∧ (Arv Z h t kb .byte (1 : Int32) [(.int (nar .byte (cc.toInt8.toInt32)))] (.int (0 : Int32)))
set_option maxRecDepth 65536 in
set_option maxHeartbeats 40000000 in
theorem rm_toBytes (l : Launch) (Z : State) (a0 : Array Value) (hw : ∀ d ∈ tables_1, d.before a0 Z = true) (ws : List Jvm.Cond) (cc : Int32) (h0 : Heap) (n0 : Nat) (Z0 : n0 ≤ h0.size) :
    MetFree l (⟨"java/lang/StringLatin1", "toBytes", "(C)[B"⟩ : MethodName) (head1 (Jvm.Cond.code (⟨"java/lang/StringLatin1", "toBytes", "(C)[B"⟩ : MethodName) jdk_43_method_46_code 1 (some (.array .byte)) :: ws) ({ frames := 0, cells := 1, slots := 1, locals := 0 } : Room)) (fun a U => a = #[(.int cc)] ∧ Z.Warmed39 U.vm ∧ U.heap = h0) (fun _ _ _ _ _ => True) (fun _ U o U' => ∃ v L, o = .returned v ∧ Q_toBytes Z cc h0 n0 v U'.heap L ∧ FrameEnd U o U' L ({ frames := 0, cells := 1, slots := 1, locals := 0 } : Room).cells ({ frames := 0, cells := 1, slots := 1, locals := 0 } : Room).slots) := by
  refine MetFree.of_bodySF (plainFor_of_name pn_1) hisR ?_
  intro p e s m args below meth c s₁ Bd hml0 hP hK
  obtain ⟨rfl, hZ, hh⟩ := hP
  have hx := Bd.exec
  have hby := Bd.bytes
  have hml : c.maxLocals = 1 := hml0
  have hown : s.vm.findClass "java/lang/StringLatin1" = some m.cls := findClass_of_methodNamed Bd.named
  have hnm := (name_of_methodNamed Bd.named Bd.method).1
  have X0 : Stand p l e ({ frames := 0, cells := 1, slots := 1, locals := 0 } : Room) s m #[(.int cc)] below meth c s₁ [] 0 0 := Stand.of_body Bd
  have e0 : s₁.heap = h0 := by rw [← hh, Bd.state]; rfl
  have N0 := Fr.nil n0
  obtain ⟨s0, hs0⟩ : ∃ z, z = (s₁.setTop (entryFrame m #[(.int cc)] 1)) := ⟨_, rfl⟩
  have P0 : ∀ t, GG p e below s₁ (mkF m 0 #[.val (.int cc)] []) t → Steps p.tables e below s0 t := fun t kk_ => by rw [hs0]; exact castTop (ef_toBytes m cc) kk_
  have P1 : ∀ t, GG p e below s₁ (mkF m 1 #[.val (.int cc)] [(.int (1 : Int32))]) t → Steps p.tables e below s0 t := fun t kk_ => P0 t (by
    refine XS.iconst X0.here hx rfl (hb hby d_toBytes_0) ?_
    show GG p e below s₁ (mkF m 1 #[.val (.int cc)] [(.int (1 : Int32))]) t
    exact kk_)
  obtain ⟨T2, h2, k2, X2, e2, E2, A2, st2⟩ := newP X0 hx hZ (ww hw 24 rfl) e0 (g := (mkF m 1 #[.val (.int cc)] [(.int (1 : Int32))])) rfl (hb hby d_toBytes_1) rfl (by decide) (cap := 1) (by decide) (by decide) (by decide) (by decide)
  obtain ⟨b2, g2⟩ : ∃ z, z = h0.size := ⟨_, rfl⟩
  rw [← g2] at A2 st2
  have P3 : ∀ t, GG p e below T2 (mkF m 3 #[.val (.int cc)] [(.ref b2)]) t → Steps p.tables e below s0 t := fun t kk_ => P1 t (st2 _ kk_)
  have sz_b2 : h0.size ≤ b2 := Nat.le_trans (Nat.le_refl h0.size) (Nat.le_of_eq g2.symm)
  have K2 : Keep h0 h2 [] := (Keep.refl h0 []).ext E2
  have V_b2 : Arv Z h2 b2 k2 .byte (1 : Int32) [(.int (0 : Int32))] (.int (0 : Int32)) := (Arv.new A2 (by decide)).pad (pad_rep [] (.int (0 : Int32)) 1)
  have P4 : ∀ t, GG p e below T2 (mkF m 7 #[.val (.int cc)] [(.int (cc.toInt8.toInt32)), (.int (0 : Int32)), (.ref b2), (.ref b2)]) t → Steps p.tables e below s0 t := fun t kk_ => P3 t (by
    refine XS.dup X2.here hx rfl (hb hby d_toBytes_3) rfl rfl ?_
    show GG p e below T2 (mkF m 4 #[.val (.int cc)] [(.ref b2), (.ref b2)]) t
    refine XS.iconst X2.here hx rfl (hb hby d_toBytes_4) ?_
    show GG p e below T2 (mkF m 5 #[.val (.int cc)] [(.int (0 : Int32)), (.ref b2), (.ref b2)]) t
    refine XS.iloadN X2.here hx rfl (hb hby d_toBytes_5) rfl ?_
    show GG p e below T2 (mkF m 6 #[.val (.int cc)] [(.int cc), (.int (0 : Int32)), (.ref b2), (.ref b2)]) t
    refine XS.i2b X2.here hx rfl (hb hby d_toBytes_6) rfl ?_
    show GG p e below T2 (mkF m 7 #[.val (.int cc)] [(.int (cc.toInt8.toInt32)), (.int (0 : Int32)), (.ref b2), (.ref b2)]) t
    exact kk_)
  obtain ⟨cl5, Ar5, q5, S5, M5, Hs5, G5⟩ := V_b2
  obtain ⟨T5, h5, X5, e5, W5, st5⟩ := stB X2 hx hZ e2 Ar5 (j := (0 : Int32)) (inb_of S5 ⟨by decide, by decide⟩) (g := (mkF m 7 #[.val (.int cc)] [(.int (cc.toInt8.toInt32)), (.int (0 : Int32)), (.ref b2), (.ref b2)])) rfl rfl (hb hby d_toBytes_7)
  have P6 : ∀ t, GG p e below T5 (mkF m 8 #[.val (.int cc)] [(.ref b2)]) t → Steps p.tables e below s0 t := fun t kk_ => P4 t (st5 _ kk_)
  have N5 := Fr.snoc X5 N0 (Nat.le_trans Z0 sz_b2)
  have K5 : Keep h0 h5 [] := K2.wr W5 (Or.inr sz_b2)
  have V_b2 : Arv Z h5 b2 k2 .byte (1 : Int32) [(.int (nar .byte (cc.toInt8.toInt32)))] (.int (0 : Int32)) := Arv.set Ar5 q5 S5 M5 Hs5 G5 (fits_nar_byte _) W5 0 rfl (Nat.le_of_ble_eq_true rfl)
  subst hs0
  obtain ⟨fs, hr, hrun, hended, hW, hsame⟩ := X5.leave (v := some (.ref b2)) (fun h => by rw [Bd.returns] at h; cases h)
  refine ⟨_, _, P6 _ ?_, hrun, hended, _, _, rfl, ?_, ⟨_, rfl⟩, hW, hsame.mono (by decide) (by decide)⟩
  · show GG p e below T5 (mkF m 8 #[.val (.int cc)] [(.ref b2)]) _
    jvm_step X5.here [X5.here.top, hx, (hb hby d_toBytes_8), X5.method', Bd.returns, Value.isRef, FieldType.isReference]
    first | (intro acts; rw [hr _ acts rfl rfl rfl]) | rw [hr _ _ rfl rfl rfl]
    exact Steps.refl _
  · show Q_toBytes Z cc h0 n0 _ T5.heap _
    rw [e5]
    exact ⟨b2, k2, rfl, N5, K5, sz_b2, V_b2⟩
theorem ef_init (m : MethodId) (x0 : Addr) (x1 : Addr) (x2 : Int32) : entryFrame m #[(.ref x0), (.ref x1), (.int x2)] 3 = mkF m 0 #[.val (.ref x0), .val (.ref x1), .val (.int x2)] [] := by first | (simp [entryFrame, mkF, argsToLocals, Value.category]; done) | rfl
theorem pn_2 : plainName "java/lang/String" = true := by first | (simp [plainName, overriddenIn]; done) | decide +kernel
theorem d_init_0 : decode jdk_42_method_151_code 0 = .ok (.aload_n 0, 1) := by decide +kernel
theorem d_init_1 : decode jdk_42_method_151_code 1 = .ok (.invokespecial 1, 3) := by decide +kernel
theorem d_init_4 : decode jdk_42_method_151_code 4 = .ok (.aload_n 0, 1) := by decide +kernel
theorem d_init_5 : decode jdk_42_method_151_code 5 = .ok (.aload_n 1, 1) := by decide +kernel
theorem d_init_6 : decode jdk_42_method_151_code 6 = .ok (.putfield 9, 3) := by decide +kernel
theorem d_init_9 : decode jdk_42_method_151_code 9 = .ok (.aload_n 0, 1) := by decide +kernel
theorem d_init_10 : decode jdk_42_method_151_code 10 = .ok (.iload_n 2, 1) := by decide +kernel
theorem d_init_11 : decode jdk_42_method_151_code 11 = .ok (.putfield 15, 3) := by decide +kernel
theorem d_init_14 : decode jdk_42_method_151_code 14 = .ok (.return_, 1) := by decide +kernel
def Q_init (Z : State) (xs : Addr) (tb : Addr) (cd : Int32) (u1 : Value) (u2 : Value) (h0 : Heap) (n0 : Nat) (v : Option Value) (h : Heap) (L : List Loc) : Prop := v = none ∧ Fr n0 L ∧ Keep h0 h [xs] ∧ (Exa Z h xs "java/lang/String") ∧ (Fld Z h xs "java/lang/String" "value" "[B" (.ref tb)) ∧ (Fld Z h xs "java/lang/String" "coder" "B" (.int (nar .byte cd)))
set_option maxRecDepth 65536 in
set_option maxHeartbeats 40000000 in
theorem rm_init (l : Launch) (Z : State) (a0 : Array Value) (hw : ∀ d ∈ tables_1, d.before a0 Z = true) (ws : List Jvm.Cond) (xs : Addr) (tb : Addr) (cd : Int32) (u1 : Value) (u2 : Value) (h0 : Heap) (n0 : Nat) (Z0 : n0 ≤ h0.size) (E_xs : Exa Z h0 xs "java/lang/String") (F_value_xs : Fld Z h0 xs "java/lang/String" "value" "[B" u1) (F_coder_xs : Fld Z h0 xs "java/lang/String" "coder" "B" u2) (g_xs : n0 ≤ xs) :
    MetFree l (⟨"java/lang/String", "<init>", "([BB)V"⟩ : MethodName) (head1 (Jvm.Cond.code (⟨"java/lang/String", "<init>", "([BB)V"⟩ : MethodName) jdk_42_method_151_code 3 none :: ws) ({ frames := 1, cells := 0, slots := 0, locals := 12 } : Room)) (fun a U => a = #[(.ref xs), (.ref tb), (.int cd)] ∧ Z.Warmed39 U.vm ∧ U.heap = h0) (fun _ _ _ _ _ => True) (fun _ U o U' => ∃ v L, o = .returned v ∧ Q_init Z xs tb cd u1 u2 h0 n0 v U'.heap L ∧ FrameEnd U o U' L ({ frames := 1, cells := 0, slots := 0, locals := 12 } : Room).cells ({ frames := 1, cells := 0, slots := 0, locals := 12 } : Room).slots) := by
  refine MetFree.of_bodySF (plainFor_of_name pn_2) hisR ?_
  intro p e s m args below meth c s₁ Bd hml0 hP hK
  obtain ⟨rfl, hZ, hh⟩ := hP
  have hx := Bd.exec
  have hby := Bd.bytes
  have hml : c.maxLocals = 3 := hml0
  have hown : s.vm.findClass "java/lang/String" = some m.cls := findClass_of_methodNamed Bd.named
  have hnm := (name_of_methodNamed Bd.named Bd.method).1
  have X0 : Stand p l e ({ frames := 1, cells := 0, slots := 0, locals := 12 } : Room) s m #[(.ref xs), (.ref tb), (.int cd)] below meth c s₁ [] 0 0 := Stand.of_body Bd
  have e0 : s₁.heap = h0 := by rw [← hh, Bd.state]; rfl
  have N0 := Fr.nil n0
  obtain ⟨s0, hs0⟩ : ∃ z, z = (s₁.setTop (entryFrame m #[(.ref xs), (.ref tb), (.int cd)] 3)) := ⟨_, rfl⟩
  have P0 : ∀ t, GG p e below s₁ (mkF m 0 #[.val (.ref xs), .val (.ref tb), .val (.int cd)] []) t → Steps p.tables e below s0 t := fun t kk_ => by rw [hs0]; exact castTop (ef_init m xs tb cd) kk_
  have P1 : ∀ t, GG p e below s₁ (mkF m 1 #[.val (.ref xs), .val (.ref tb), .val (.int cd)] [(.ref xs)]) t → Steps p.tables e below s0 t := fun t kk_ => P0 t (by
    refine XS.aloadN X0.here hx rfl (hb hby d_init_0) rfl rfl ?_
    show GG p e below s₁ (mkF m 1 #[.val (.ref xs), .val (.ref tb), .val (.int cd)] [(.ref xs)]) t
    exact kk_)
  obtain ⟨T2, X2, e2, st2⟩ := initO X0 hx hZ hown (ww hw 16 rfl) (ww hw 17 rfl) (ww hw 18 rfl) e0 (g := (mkF m 1 #[.val (.ref xs), .val (.ref tb), .val (.int cd)] [(.ref xs)])) rfl (by rw [hml]; rfl) rfl (hb hby d_init_1) (by decide) (W := 0) (by show 2 * 0 + _ ≤ _; exact Nat.le_of_eq rfl) (by decide)
  have P3 : ∀ t, GG p e below T2 (mkF m 4 #[.val (.ref xs), .val (.ref tb), .val (.int cd)] []) t → Steps p.tables e below s0 t := fun t kk_ => P1 t (st2 _ kk_)
  have P4 : ∀ t, GG p e below T2 (mkF m 6 #[.val (.ref xs), .val (.ref tb), .val (.int cd)] [(.ref tb), (.ref xs)]) t → Steps p.tables e below s0 t := fun t kk_ => P3 t (by
    refine XS.aloadN X2.here hx rfl (hb hby d_init_4) rfl rfl ?_
    show GG p e below T2 (mkF m 5 #[.val (.ref xs), .val (.ref tb), .val (.int cd)] [(.ref xs)]) t
    refine XS.aloadN X2.here hx rfl (hb hby d_init_5) rfl rfl ?_
    show GG p e below T2 (mkF m 6 #[.val (.ref xs), .val (.ref tb), .val (.int cd)] [(.ref tb), (.ref xs)]) t
    exact kk_)
  obtain ⟨T5, h5, X5, e5, W5, st5⟩ := putF X2 hx hZ hown (host := "") (Or.inl (ww hw 33 rfl)) Via.refl e2 F_value_xs E_xs (Or.inr ⟨(ww hw 34 rfl), rfl, hnm⟩) (ww hw 7 rfl) (ty := (.array .byte)) (by decide) rfl rfl (g := (mkF m 6 #[.val (.ref xs), .val (.ref tb), .val (.int cd)] [(.ref tb), (.ref xs)])) rfl rfl (hb hby d_init_6)
  have P6 : ∀ t, GG p e below T5 (mkF m 9 #[.val (.ref xs), .val (.ref tb), .val (.int cd)] []) t → Steps p.tables e below s0 t := fun t kk_ => P4 t (st5 _ kk_)
  have N5 := Fr.snoc X5 N0 g_xs
  have K5 : Keep h0 h5 [xs] := (Keep.refl h0 [xs]).wr W5 (Or.inl (List.mem_of_getElem? (i := 0) rfl))
  replace E_xs : Exa Z h5 xs "java/lang/String" := E_xs.wr W5
  replace F_value_xs : Fld Z h5 xs "java/lang/String" "value" "[B" (.ref tb) := F_value_xs.same W5
  replace F_coder_xs : Fld Z h5 xs "java/lang/String" "coder" "B" u2 := F_coder_xs.other W5 (Or.inr (slot_ne (Or.inr (ww hw 32 rfl)) (Or.inr (ww hw 34 rfl)) (by decide) (t := .byte) (t' := (.array .byte)) (by decide) (by decide)))
  have P7 : ∀ t, GG p e below T5 (mkF m 11 #[.val (.ref xs), .val (.ref tb), .val (.int cd)] [(.int cd), (.ref xs)]) t → Steps p.tables e below s0 t := fun t kk_ => P6 t (by
    refine XS.aloadN X5.here hx rfl (hb hby d_init_9) rfl rfl ?_
    show GG p e below T5 (mkF m 10 #[.val (.ref xs), .val (.ref tb), .val (.int cd)] [(.ref xs)]) t
    refine XS.iloadN X5.here hx rfl (hb hby d_init_10) rfl ?_
    show GG p e below T5 (mkF m 11 #[.val (.ref xs), .val (.ref tb), .val (.int cd)] [(.int cd), (.ref xs)]) t
    exact kk_)
  obtain ⟨T8, h8, X8, e8, W8, st8⟩ := putFN X5 hx hZ hown (ww hw 31 rfl) Via.refl e5 F_coder_xs E_xs (Or.inr ⟨(ww hw 32 rfl), rfl, hnm⟩) (ww hw 7 rfl) (ty := .byte) (v' := (.int (nar .byte cd))) (by decide) rfl (fits_nar_byte _) (g := (mkF m 11 #[.val (.ref xs), .val (.ref tb), .val (.int cd)] [(.int cd), (.ref xs)])) rfl rfl (hb hby d_init_11)
  have P9 : ∀ t, GG p e below T8 (mkF m 14 #[.val (.ref xs), .val (.ref tb), .val (.int cd)] []) t → Steps p.tables e below s0 t := fun t kk_ => P7 t (st8 _ kk_)
  have N8 := Fr.snoc X8 N5 g_xs
  have K8 : Keep h0 h8 [xs] := K5.wr W8 (Or.inl (List.mem_of_getElem? (i := 0) rfl))
  replace E_xs : Exa Z h8 xs "java/lang/String" := E_xs.wr W8
  replace F_value_xs : Fld Z h8 xs "java/lang/String" "value" "[B" (.ref tb) := F_value_xs.other W8 (Or.inr (slot_ne (Or.inr (ww hw 34 rfl)) (Or.inr (ww hw 32 rfl)) (by decide) (t := (.array .byte)) (t' := .byte) (by decide) (by decide)))
  replace F_coder_xs : Fld Z h8 xs "java/lang/String" "coder" "B" (.int (nar .byte cd)) := F_coder_xs.same W8
  subst hs0
  obtain ⟨fs, hr, hrun, hended, hW, hsame⟩ := X8.leave (v := none) (fun _ => rfl)
  refine ⟨_, _, P9 _ ?_, hrun, hended, _, _, rfl, ?_, ⟨_, rfl⟩, hW, hsame.mono (by decide) (by decide)⟩
  · show GG p e below T8 (mkF m 14 #[.val (.ref xs), .val (.ref tb), .val (.int cd)] []) _
    exact X8.returnOut hx Bd.returns (hb hby d_init_14) hr
  · show Q_init Z xs tb cd u1 u2 h0 n0 _ T8.heap _
    rw [e8]
    exact ⟨rfl, N8, K8, E_xs, F_value_xs, F_coder_xs⟩
theorem ef_valueOf (m : MethodId) (x0 : Int32) : entryFrame m #[(.int x0)] 1 = mkF m 0 #[.val (.int x0)] [] := by first | (simp [entryFrame, mkF, argsToLocals, Value.category]; done) | rfl
theorem d_valueOf_0 : decode jdk_42_method_139_code 0 = .ok (.getstatic 38, 3) := by decide +kernel
theorem d_valueOf_3 : decode jdk_42_method_139_code 3 = .ok (.ifCond .eq 23, 3) := by decide +kernel
theorem d_valueOf_6 : decode jdk_42_method_139_code 6 = .ok (.iload_n 0, 1) := by decide +kernel
theorem pd_0 : parseMethodDescriptor "(C)Z" = some ⟨[.char], some .boolean⟩ := by decide +kernel
theorem d_valueOf_7 : decode jdk_42_method_139_code 7 = .ok (.invokestatic 1015, 3) := by decide +kernel
abbrev mn_0 : MethodName := ⟨"java/lang/StringLatin1", "canEncode", "(C)Z"⟩
theorem d_valueOf_10 : decode jdk_42_method_139_code 10 = .ok (.ifCond .eq 16, 3) := by decide +kernel
theorem d_valueOf_13 : decode jdk_42_method_139_code 13 = .ok (.new 10, 3) := by decide +kernel
theorem d_valueOf_16 : decode jdk_42_method_139_code 16 = .ok (.dup, 1) := by decide +kernel
theorem d_valueOf_17 : decode jdk_42_method_139_code 17 = .ok (.iload_n 0, 1) := by decide +kernel
theorem pd_1 : parseMethodDescriptor "(C)[B" = some ⟨[.char], some (.array .byte)⟩ := by decide +kernel
theorem d_valueOf_18 : decode jdk_42_method_139_code 18 = .ok (.invokestatic 1018, 3) := by decide +kernel
abbrev mn_1 : MethodName := ⟨"java/lang/StringLatin1", "toBytes", "(C)[B"⟩
theorem d_valueOf_21 : decode jdk_42_method_139_code 21 = .ok (.iconst 0, 1) := by decide +kernel
theorem pd_2 : parseMethodDescriptor "([BB)V" = some ⟨[(.array .byte), .byte], none⟩ := by decide +kernel
theorem d_valueOf_22 : decode jdk_42_method_139_code 22 = .ok (.invokespecial 209, 3) := by decide +kernel
abbrev mn_2 : MethodName := ⟨"java/lang/String", "<init>", "([BB)V"⟩
theorem d_valueOf_25 : decode jdk_42_method_139_code 25 = .ok (.areturn, 1) := by decide +kernel
def Q_valueOf (Z : State) (cc : Int32) (G1 : Int32) (h0 : Heap) (n0 : Nat) (v : Option Value) (h : Heap) (L : List Loc) : Prop := ∃ (xs : Addr) (t : Addr) (kb : ClassId), v = some (.ref xs) ∧ Fr n0 L ∧ Keep h0 h [] ∧ (h0.size ≤ xs) ∧ (h0.size ≤ t) ∧ (Exa Z h xs "java/lang/String") ∧ (Fld Z h xs "java/lang/String" "value" "[B" (.ref t)) ∧ (Fld Z h xs "java/lang/String" "coder" "B" (.int (0 : Int32))) ∧ (Arv Z h t kb .byte (1 : Int32) [(.int (nar .byte (cc.toInt8.toInt32)))] (.int (0 : Int32)))
set_option maxRecDepth 65536 in
set_option maxHeartbeats 40000000 in
theorem rm_valueOf (l : Launch) (Z : State) (a0 : Array Value) (hw : ∀ d ∈ tables_1, d.before a0 Z = true) (ws : List Jvm.Cond) (cc : Int32) (G1 : Int32) (h0 : Heap) (n0 : Nat) (Z0 : n0 ≤ h0.size) (S_COMPACT_STRINGS : Sta Z Z.heap "java/lang/String" "COMPACT_STRINGS" "Z" (.int G1)) (OL : Old Z n0 h0) (hz : ¬ G1 = 0) (hcc : ¬ (255 : Int32) < cc) :
    MetFree l (⟨"java/lang/String", "valueOf", "(C)Ljava/lang/String;"⟩ : MethodName) (head1 (Jvm.Cond.code (⟨"java/lang/String", "valueOf", "(C)Ljava/lang/String;"⟩ : MethodName) jdk_42_method_139_code 1 (some (.object "java/lang/String")) :: ws) ({ frames := 2, cells := 2, slots := 5, locals := 27 } : Room)) (fun a U => a = #[(.int cc)] ∧ Z.Warmed39 U.vm ∧ U.heap = h0) (fun _ _ _ _ _ => True) (fun _ U o U' => ∃ v L, o = .returned v ∧ Q_valueOf Z cc G1 h0 n0 v U'.heap L ∧ FrameEnd U o U' L ({ frames := 2, cells := 2, slots := 5, locals := 27 } : Room).cells ({ frames := 2, cells := 2, slots := 5, locals := 27 } : Room).slots) := by
  refine MetFree.of_bodySF (plainFor_of_name pn_2) hisR ?_
  intro p e s m args below meth c s₁ Bd hml0 hP hK
  obtain ⟨rfl, hZ, hh⟩ := hP
  have hx := Bd.exec
  have hby := Bd.bytes
  have hml : c.maxLocals = 1 := hml0
  have hown : s.vm.findClass "java/lang/String" = some m.cls := findClass_of_methodNamed Bd.named
  have hnm := (name_of_methodNamed Bd.named Bd.method).1
  have X0 : Stand p l e ({ frames := 2, cells := 2, slots := 5, locals := 27 } : Room) s m #[(.int cc)] below meth c s₁ [] 0 0 := Stand.of_body Bd
  have e0 : s₁.heap = h0 := by rw [← hh, Bd.state]; rfl
  have N0 := Fr.nil n0
  obtain ⟨s0, hs0⟩ : ∃ z, z = (s₁.setTop (entryFrame m #[(.int cc)] 1)) := ⟨_, rfl⟩
  have P0 : ∀ t, GG p e below s₁ (mkF m 0 #[.val (.int cc)] []) t → Steps p.tables e below s0 t := fun t kk_ => by rw [hs0]; exact castTop (ef_valueOf m cc) kk_
  obtain ⟨T1, X1, e1, st1⟩ := getS2 X0 hx hZ hown (host := "") (Or.inl (ww hw 19 rfl)) Via.refl e0 (S_COMPACT_STRINGS.ext OL.2) (g := (mkF m 0 #[.val (.int cc)] [])) rfl (hb hby d_valueOf_0)
  have P2 : ∀ t, GG p e below T1 (mkF m 3 #[.val (.int cc)] [(.int G1)]) t → Steps p.tables e below s0 t := fun t kk_ => P0 t (st1 _ kk_)
  have P3 : ∀ t, GG p e below T1 (mkF m 7 #[.val (.int cc)] [(.int cc)]) t → Steps p.tables e below s0 t := fun t kk_ => P2 t (by
    refine XS.ifNo X1.here hx rfl (hb hby d_valueOf_3) rfl ((if0 _ _).trans (feq (hz : ¬ (G1 = (0 : Int32)))).1) ?_
    show GG p e below T1 (mkF m 6 #[.val (.int cc)] []) t
    refine XS.iloadN X1.here hx rfl (hb hby d_valueOf_6) rfl ?_
    show GG p e below T1 (mkF m 7 #[.val (.int cc)] [(.int cc)]) t
    exact kk_)
  obtain ⟨_, _, ⟨T4, L4, k4, n4⟩, -, X4, ⟨Lc4, hQ4, l4, y4, z4⟩, st4⟩ := Jvm.LawKit.callS X1 hx (y := mn_0) hown (mw hZ hw 38 rfl) (mw hZ hw 39 rfl) (mw hZ hw 40 rfl) (mw hZ hw 41 rfl) (by decide) (backOf (W := 0) (rm_canEncode l Z a0 hw [] cc h0 n0 (Nat.le_trans Z0 (Nat.le_refl h0.size)) hcc) hZ (ww hw 41 rfl) (ww hw 40 rfl) (by decide) (by decide)) (g := (mkF m 7 #[.val (.int cc)] [(.int cc)])) rfl (by rw [hml]; rfl) (argsL := [(.int cc)]) (rest := []) (lenOf pd_0 rfl) rfl (by show 2 * 0 + _ ≤ _; exact Nat.le_of_eq rfl) (hb hby d_valueOf_7) (fun _ _ => ⟨rfl, e1, (by decide : 0 + 0 ≤ _), (by decide : 0 + 0 ≤ _)⟩)
  dsimp only [Pt.U, Pt.locs, Pt.cells, Pt.slots] at X4 l4 y4 z4 st4 hQ4
  subst l4 y4 z4
  obtain ⟨rfl, N4q, e4⟩ := hQ4
  have N4 := Fr.app N0 N4q
  have P5 : ∀ t, GG p e below T4 (mkF m 10 #[.val (.int cc)] [(.int (1 : Int32))]) t → Steps p.tables e below s0 t := fun t kk_ => P3 t (st4 _ kk_)
  have P6 : ∀ t, GG p e below T4 (mkF m 13 #[.val (.int cc)] []) t → Steps p.tables e below s0 t := fun t kk_ => P5 t (by
    refine XS.ifNo X4.here hx rfl (hb hby d_valueOf_10) rfl ((if0 _ _).trans (feq ((by decide) : ¬ ((1 : Int32) = (0 : Int32)))).1) ?_
    show GG p e below T4 (mkF m 13 #[.val (.int cc)] []) t
    exact kk_)
  obtain ⟨T7, h7, X7, e7, E7, A7, D7, -, st7⟩ := newO X4 hx hZ hown (ww hw 42 rfl) (ww hw 7 rfl) (ww hw 8 rfl) e4 (g := (mkF m 13 #[.val (.int cc)] [])) rfl (hb hby d_valueOf_13) (by decide) (by decide)
  obtain ⟨b7, g7⟩ : ∃ z, z = h0.size := ⟨_, rfl⟩
  rw [← g7] at A7 D7 st7
  have P8 : ∀ t, GG p e below T7 (mkF m 16 #[.val (.int cc)] [(.ref b7)]) t → Steps p.tables e below s0 t := fun t kk_ => P6 t (st7 _ kk_)
  have sz_b7 : h0.size ≤ b7 := Nat.le_trans (Nat.le_refl h0.size) (Nat.le_of_eq g7.symm)
  replace OL : Old Z n0 h7 := OL.ext E7
  have K7 : Keep h0 h7 [] := (Keep.refl h0 []).ext E7
  have E_b7 : Exa Z h7 b7 "java/lang/String" := A7
  have F_coder_b7 : Fld Z h7 b7 "java/lang/String" "coder" "B" (.int (0 : Int32)) := D7 (Or.inr (ww hw 32 rfl)) (ty := .byte) (by decide)
  have F_value_b7 : Fld Z h7 b7 "java/lang/String" "value" "[B" .null := D7 (Or.inr (ww hw 34 rfl)) (ty := (.array .byte)) (by decide)
  have P9 : ∀ t, GG p e below T7 (mkF m 18 #[.val (.int cc)] [(.int cc), (.ref b7), (.ref b7)]) t → Steps p.tables e below s0 t := fun t kk_ => P8 t (by
    refine XS.dup X7.here hx rfl (hb hby d_valueOf_16) rfl rfl ?_
    show GG p e below T7 (mkF m 17 #[.val (.int cc)] [(.ref b7), (.ref b7)]) t
    refine XS.iloadN X7.here hx rfl (hb hby d_valueOf_17) rfl ?_
    show GG p e below T7 (mkF m 18 #[.val (.int cc)] [(.int cc), (.ref b7), (.ref b7)]) t
    exact kk_)
  obtain ⟨_, _, ⟨T10, L10, k10, n10⟩, -, X10, ⟨Lc10, hQ10, l10, y10, z10⟩, st10⟩ := Jvm.LawKit.callS X7 hx (y := mn_1) hown (mw hZ hw 43 rfl) (mw hZ hw 44 rfl) (mw hZ hw 40 rfl) (mw hZ hw 45 rfl) (by decide) (backOf (W := 2) (rm_toBytes l Z a0 hw [] cc h7 n0 (Nat.le_trans Z0 K7.1)) hZ (ww hw 45 rfl) (ww hw 40 rfl) (by decide) (by decide)) (g := (mkF m 18 #[.val (.int cc)] [(.int cc), (.ref b7), (.ref b7)])) rfl (by rw [hml]; rfl) (argsL := [(.int cc)]) (rest := [(.ref b7), (.ref b7)]) (lenOf pd_1 rfl) rfl (by show 2 * 0 + _ ≤ _; exact Nat.le_of_eq rfl) (hb hby d_valueOf_18) (fun _ _ => ⟨rfl, e7, (by decide : 1 + 1 ≤ _), (by decide : 4 + 1 ≤ _)⟩)
  dsimp only [Pt.U, Pt.locs, Pt.cells, Pt.slots] at X10 l10 y10 z10 st10 hQ10
  subst l10 y10 z10
  obtain ⟨t_10, kb_10, rfl, N10q, Kc10, po10_0, po10_1⟩ := hQ10
  have N10 := Fr.app N4 N10q
  have P11 : ∀ t, GG p e below T10 (mkF m 21 #[.val (.int cc)] [(.ref t_10), (.ref b7), (.ref b7)]) t → Steps p.tables e below s0 t := fun t kk_ => P9 t (st10 _ kk_)
  have ne_b7_t_10 : b7 ≠ t_10 := Nat.ne_of_lt (Nat.lt_of_lt_of_le E_b7.lt po10_0)
  have sz_t_10 : h0.size ≤ t_10 := Nat.le_trans K7.1 po10_0
  replace OL : Old Z n0 T10.heap := OL.keep Kc10 all0
  replace E_b7 : Exa Z T10.heap b7 "java/lang/String" := E_b7.keep Kc10
  replace F_coder_b7 : Fld Z T10.heap b7 "java/lang/String" "coder" "B" (.int (0 : Int32)) := F_coder_b7.keep Kc10 nin0
  replace F_value_b7 : Fld Z T10.heap b7 "java/lang/String" "value" "[B" .null := F_value_b7.keep Kc10 nin0
  have K10 : Keep h0 T10.heap [] := K7.trans Kc10 all0
  have V_t_10 : Arv Z T10.heap t_10 kb_10 .byte (1 : Int32) [(.int (nar .byte (cc.toInt8.toInt32)))] (.int (0 : Int32)) := po10_1
  have P12 : ∀ t, GG p e below T10 (mkF m 22 #[.val (.int cc)] [(.int (0 : Int32)), (.ref t_10), (.ref b7), (.ref b7)]) t → Steps p.tables e below s0 t := fun t kk_ => P11 t (by
    refine XS.iconst X10.here hx rfl (hb hby d_valueOf_21) ?_
    show GG p e below T10 (mkF m 22 #[.val (.int cc)] [(.int (0 : Int32)), (.ref t_10), (.ref b7), (.ref b7)]) t
    exact kk_)
  obtain ⟨_, _, ⟨T13, L13, k13, n13⟩, -, X13, ⟨Lc13, hQ13, l13, y13, z13⟩, st13⟩ := X10.specialBack hx (y := mn_2) rfl hown (mw hZ hw 46 rfl) (mw hZ hw 47 rfl) (mw hZ hw 48 rfl) (by decide) (backOf (W := 1) (rm_init l Z a0 hw [] b7 t_10 (0 : Int32) .null (.int (0 : Int32)) T10.heap n0 (Nat.le_trans Z0 K10.1) E_b7 F_value_b7 F_coder_b7 (Nat.le_trans Z0 sz_b7)) hZ (ww hw 48 rfl) (ww hw 8 rfl) (by decide) (by decide)) (g := (mkF m 22 #[.val (.int cc)] [(.int (0 : Int32)), (.ref t_10), (.ref b7), (.ref b7)])) rfl (by rw [hml]; rfl) (Steps.refl _) (a := b7) (argsL := [(.ref t_10), (.int (0 : Int32))]) (rest := [(.ref b7)]) (lenOf pd_2 rfl) rfl (by show 2 * 0 + _ ≤ _; exact Nat.le_of_eq rfl) (hb hby d_valueOf_22) (fun _ _ => ⟨rfl, rfl, (by decide : 2 + 0 ≤ _), (by decide : 5 + 0 ≤ _)⟩)
  dsimp only [Pt.U, Pt.locs, Pt.cells, Pt.slots] at X13 l13 y13 z13 st13 hQ13
  subst l13 y13 z13
  obtain ⟨rfl, N13q, Kc13, po13_0, po13_1, po13_2⟩ := hQ13
  have N13 := Fr.app N10 N13q
  have P14 : ∀ t, GG p e below T13 (mkF m 25 #[.val (.int cc)] [(.ref b7)]) t → Steps p.tables e below s0 t := fun t kk_ => P12 t (st13.trans kk_)
  replace OL : Old Z n0 T13.heap := OL.keep Kc13 (allS (Nat.le_trans Z0 sz_b7) all0)
  replace E_b7 : Exa Z T13.heap b7 "java/lang/String" := E_b7.keep Kc13
  replace V_t_10 : Arv Z T13.heap t_10 kb_10 .byte (1 : Int32) [(.int (nar .byte (cc.toInt8.toInt32)))] (.int (0 : Int32)) := V_t_10.keep Kc13 (ninS (Ne.symm ne_b7_t_10) nin0)
  have K13 : Keep h0 T13.heap [] := K10.trans Kc13 (allS (P := fun x => x ∈ [] ∨ h0.size ≤ x) (Or.inr sz_b7) all0)
  have E_b7 : Exa Z T13.heap b7 "java/lang/String" := po13_0
  have F_value_b7 : Fld Z T13.heap b7 "java/lang/String" "value" "[B" (.ref t_10) := po13_1
  have F_coder_b7 : Fld Z T13.heap b7 "java/lang/String" "coder" "B" (.int (nar .byte (0 : Int32))) := po13_2
  subst hs0
  obtain ⟨fs, hr, hrun, hended, hW, hsame⟩ := X13.leave (v := some (.ref b7)) (fun h => by rw [Bd.returns] at h; cases h)
  refine ⟨_, _, P14 _ ?_, hrun, hended, _, _, rfl, ?_, ⟨_, rfl⟩, hW, hsame.mono (by decide) (by decide)⟩
  · show GG p e below T13 (mkF m 25 #[.val (.int cc)] [(.ref b7)]) _
    jvm_step X13.here [X13.here.top, hx, (hb hby d_valueOf_25), X13.method', Bd.returns, Value.isRef, FieldType.isReference]
    first | (intro acts; rw [hr _ acts rfl rfl rfl]) | rw [hr _ _ rfl rfl rfl]
    exact Steps.refl _
  · show Q_valueOf Z cc G1 h0 n0 _ T13.heap _
    exact ⟨b7, t_10, kb_10, rfl, N13, K13, sz_b7, sz_t_10, E_b7, F_value_b7, F_coder_b7, V_t_10⟩
theorem ef_allowed (m : MethodId) (x0 : Int32) : entryFrame m #[(.int x0)] 1 = mkF m 0 #[.val (.int x0)] [] := by first | (simp [entryFrame, mkF, argsToLocals, Value.category]; done) | rfl
theorem pn_3 : plainName "com/example/leagan/leagan/Names" = true := by first | (simp [plainName, overriddenIn]; done) | decide +kernel
theorem d_allowed_0 : decode prog_6_method_3_code 0 = .ok (.iload_n 0, 1) := by decide +kernel
theorem d_allowed_1 : decode prog_6_method_3_code 1 = .ok (.bipush 65, 2) := by decide +kernel
theorem d_allowed_3 : decode prog_6_method_3_code 3 = .ok (.if_icmp .lt 9, 3) := by decide +kernel
theorem d_allowed_12 : decode prog_6_method_3_code 12 = .ok (.iload_n 0, 1) := by decide +kernel
theorem d_allowed_13 : decode prog_6_method_3_code 13 = .ok (.bipush 97, 2) := by decide +kernel
theorem d_allowed_15 : decode prog_6_method_3_code 15 = .ok (.if_icmp .lt 9, 3) := by decide +kernel
theorem d_allowed_24 : decode prog_6_method_3_code 24 = .ok (.iload_n 0, 1) := by decide +kernel
theorem d_allowed_25 : decode prog_6_method_3_code 25 = .ok (.bipush 48, 2) := by decide +kernel
theorem d_allowed_27 : decode prog_6_method_3_code 27 = .ok (.if_icmp .lt 9, 3) := by decide +kernel
theorem d_allowed_36 : decode prog_6_method_3_code 36 = .ok (.iload_n 0, 1) := by decide +kernel
theorem d_allowed_37 : decode prog_6_method_3_code 37 = .ok (.bipush 45, 2) := by decide +kernel
theorem d_allowed_39 : decode prog_6_method_3_code 39 = .ok (.if_icmp .eq 15, 3) := by decide +kernel
theorem d_allowed_54 : decode prog_6_method_3_code 54 = .ok (.iconst 1, 1) := by decide +kernel
theorem d_allowed_55 : decode prog_6_method_3_code 55 = .ok (.goto 4, 3) := by decide +kernel
theorem d_allowed_59 : decode prog_6_method_3_code 59 = .ok (.ireturn, 1) := by decide +kernel
theorem d_allowed_42 : decode prog_6_method_3_code 42 = .ok (.iload_n 0, 1) := by decide +kernel
theorem d_allowed_43 : decode prog_6_method_3_code 43 = .ok (.bipush 95, 2) := by decide +kernel
theorem d_allowed_45 : decode prog_6_method_3_code 45 = .ok (.if_icmp .eq 9, 3) := by decide +kernel
theorem d_allowed_48 : decode prog_6_method_3_code 48 = .ok (.iload_n 0, 1) := by decide +kernel
theorem d_allowed_49 : decode prog_6_method_3_code 49 = .ok (.bipush 46, 2) := by decide +kernel
theorem d_allowed_51 : decode prog_6_method_3_code 51 = .ok (.if_icmp .ne 7, 3) := by decide +kernel
theorem d_allowed_30 : decode prog_6_method_3_code 30 = .ok (.iload_n 0, 1) := by decide +kernel
theorem d_allowed_31 : decode prog_6_method_3_code 31 = .ok (.bipush 57, 2) := by decide +kernel
theorem d_allowed_33 : decode prog_6_method_3_code 33 = .ok (.if_icmp .le 21, 3) := by decide +kernel
theorem d_allowed_18 : decode prog_6_method_3_code 18 = .ok (.iload_n 0, 1) := by decide +kernel
theorem d_allowed_19 : decode prog_6_method_3_code 19 = .ok (.bipush 122, 2) := by decide +kernel
theorem d_allowed_21 : decode prog_6_method_3_code 21 = .ok (.if_icmp .le 33, 3) := by decide +kernel
theorem d_allowed_6 : decode prog_6_method_3_code 6 = .ok (.iload_n 0, 1) := by decide +kernel
theorem d_allowed_7 : decode prog_6_method_3_code 7 = .ok (.bipush 90, 2) := by decide +kernel
theorem d_allowed_9 : decode prog_6_method_3_code 9 = .ok (.if_icmp .le 45, 3) := by decide +kernel
def Q_allowed (Z : State) (cc : Int32) (h0 : Heap) (n0 : Nat) (v : Option Value) (h : Heap) (L : List Loc) : Prop := v = some (.int (1 : Int32)) ∧ Fr n0 L ∧ h = h0
set_option maxRecDepth 65536 in
set_option maxHeartbeats 40000000 in
theorem rm_allowed (l : Launch) (Z : State) (a0 : Array Value) (hw : ∀ d ∈ tables_1, d.before a0 Z = true) (ws : List Jvm.Cond) (cc : Int32) (h0 : Heap) (n0 : Nat) (Z0 : n0 ≤ h0.size) (okc : okB cc = true) :
    MetFree l (⟨"com/example/leagan/leagan/Names", "allowed", "(C)Z"⟩ : MethodName) (head1 (Jvm.Cond.code (⟨"com/example/leagan/leagan/Names", "allowed", "(C)Z"⟩ : MethodName) prog_6_method_3_code 1 (some .boolean) :: ws) ({ frames := 0, cells := 0, slots := 0, locals := 0 } : Room)) (fun a U => a = #[(.int cc)] ∧ Z.Warmed39 U.vm ∧ U.heap = h0) (fun _ _ _ _ _ => True) (fun _ U o U' => ∃ v L, o = .returned v ∧ Q_allowed Z cc h0 n0 v U'.heap L ∧ FrameEnd U o U' L ({ frames := 0, cells := 0, slots := 0, locals := 0 } : Room).cells ({ frames := 0, cells := 0, slots := 0, locals := 0 } : Room).slots) := by
  refine MetFree.of_bodySF (plainFor_of_name pn_3) hisR ?_
  intro p e s m args below meth c s₁ Bd hml0 hP hK
  obtain ⟨rfl, hZ, hh⟩ := hP
  have hx := Bd.exec
  have hby := Bd.bytes
  have hml : c.maxLocals = 1 := hml0
  have hown : s.vm.findClass "com/example/leagan/leagan/Names" = some m.cls := findClass_of_methodNamed Bd.named
  have hnm := (name_of_methodNamed Bd.named Bd.method).1
  have X0 : Stand p l e ({ frames := 0, cells := 0, slots := 0, locals := 0 } : Room) s m #[(.int cc)] below meth c s₁ [] 0 0 := Stand.of_body Bd
  have e0 : s₁.heap = h0 := by rw [← hh, Bd.state]; rfl
  have N0 := Fr.nil n0
  obtain ⟨s0, hs0⟩ : ∃ z, z = (s₁.setTop (entryFrame m #[(.int cc)] 1)) := ⟨_, rfl⟩
  have P0 : ∀ t, GG p e below s₁ (mkF m 0 #[.val (.int cc)] []) t → Steps p.tables e below s0 t := fun t kk_ => by rw [hs0]; exact castTop (ef_allowed m cc) kk_
  have P1 : ∀ t, GG p e below s₁ (mkF m 3 #[.val (.int cc)] [(.int (65 : Int32)), (.int cc)]) t → Steps p.tables e below s0 t := fun t kk_ => P0 t (by
    refine XS.iloadN X0.here hx rfl (hb hby d_allowed_0) rfl ?_
    show GG p e below s₁ (mkF m 1 #[.val (.int cc)] [(.int cc)]) t
    refine XS.bipush X0.here hx rfl (hb hby d_allowed_1) ?_
    show GG p e below s₁ (mkF m 3 #[.val (.int cc)] [(.int (65 : Int32)), (.int cc)]) t
    exact kk_)
  by_cases hc3_2 : cc < (65 : Int32)
  ·
    have P3 : ∀ t, GG p e below s₁ (mkF m 15 #[.val (.int cc)] [(.int (97 : Int32)), (.int cc)]) t → Steps p.tables e below s0 t := fun t kk_ => P1 t (by
      refine XS.icmpYes X0.here hx rfl (pc0 := 3) (pc' := 12) rfl (hb hby d_allowed_3) rfl (tlt (hc3_2 : cc < (65 : Int32))).1 (by decide) (by decide) ?_
      show GG p e below s₁ (mkF m 12 #[.val (.int cc)] []) t
      refine XS.iloadN X0.here hx rfl (hb hby d_allowed_12) rfl ?_
      show GG p e below s₁ (mkF m 13 #[.val (.int cc)] [(.int cc)]) t
      refine XS.bipush X0.here hx rfl (hb hby d_allowed_13) ?_
      show GG p e below s₁ (mkF m 15 #[.val (.int cc)] [(.int (97 : Int32)), (.int cc)]) t
      exact kk_)
    by_cases hc15_4 : cc < (97 : Int32)
    ·
      have P5 : ∀ t, GG p e below s₁ (mkF m 27 #[.val (.int cc)] [(.int (48 : Int32)), (.int cc)]) t → Steps p.tables e below s0 t := fun t kk_ => P3 t (by
        refine XS.icmpYes X0.here hx rfl (pc0 := 15) (pc' := 24) rfl (hb hby d_allowed_15) rfl (tlt (hc15_4 : cc < (97 : Int32))).1 (by decide) (by decide) ?_
        show GG p e below s₁ (mkF m 24 #[.val (.int cc)] []) t
        refine XS.iloadN X0.here hx rfl (hb hby d_allowed_24) rfl ?_
        show GG p e below s₁ (mkF m 25 #[.val (.int cc)] [(.int cc)]) t
        refine XS.bipush X0.here hx rfl (hb hby d_allowed_25) ?_
        show GG p e below s₁ (mkF m 27 #[.val (.int cc)] [(.int (48 : Int32)), (.int cc)]) t
        exact kk_)
      by_cases hc27_6 : cc < (48 : Int32)
      ·
        have P7 : ∀ t, GG p e below s₁ (mkF m 39 #[.val (.int cc)] [(.int (45 : Int32)), (.int cc)]) t → Steps p.tables e below s0 t := fun t kk_ => P5 t (by
          refine XS.icmpYes X0.here hx rfl (pc0 := 27) (pc' := 36) rfl (hb hby d_allowed_27) rfl (tlt (hc27_6 : cc < (48 : Int32))).1 (by decide) (by decide) ?_
          show GG p e below s₁ (mkF m 36 #[.val (.int cc)] []) t
          refine XS.iloadN X0.here hx rfl (hb hby d_allowed_36) rfl ?_
          show GG p e below s₁ (mkF m 37 #[.val (.int cc)] [(.int cc)]) t
          refine XS.bipush X0.here hx rfl (hb hby d_allowed_37) ?_
          show GG p e below s₁ (mkF m 39 #[.val (.int cc)] [(.int (45 : Int32)), (.int cc)]) t
          exact kk_)
        by_cases hc39_8 : cc = (45 : Int32)
        ·
          have P9 : ∀ t, GG p e below s₁ (mkF m 59 #[.val (.int cc)] [(.int (1 : Int32))]) t → Steps p.tables e below s0 t := fun t kk_ => P7 t (by
            refine XS.icmpYes X0.here hx rfl (pc0 := 39) (pc' := 54) rfl (hb hby d_allowed_39) rfl (teq (hc39_8 : cc = (45 : Int32))).1 (by decide) (by decide) ?_
            show GG p e below s₁ (mkF m 54 #[.val (.int cc)] []) t
            refine XS.iconst X0.here hx rfl (hb hby d_allowed_54) ?_
            show GG p e below s₁ (mkF m 55 #[.val (.int cc)] [(.int (1 : Int32))]) t
            refine XS.goto X0.here hx rfl (pc0 := 55) (pc' := 59) rfl (hb hby d_allowed_55) (by decide) (by decide) ?_
            show GG p e below s₁ (mkF m 59 #[.val (.int cc)] [(.int (1 : Int32))]) t
            exact kk_)
          subst hs0
          obtain ⟨fs, hr, hrun, hended, hW, hsame⟩ := X0.leave (v := some (.int (nar .boolean (1 : Int32)))) (fun h => by rw [Bd.returns] at h; cases h)
          refine ⟨_, _, P9 _ ?_, hrun, hended, _, _, rfl, ?_, ⟨_, rfl⟩, hW, hsame.mono (by decide) (by decide)⟩
          · show GG p e below s₁ (mkF m 59 #[.val (.int cc)] [(.int (1 : Int32))]) _
            exact retN X0 hx (t := .boolean) Bd.returns (by simp) (hb hby d_allowed_59) hr
          · show Q_allowed Z cc h0 n0 _ s₁.heap _
            rw [e0]
            exact ⟨rfl, N0, rfl⟩
        ·
          have P10 : ∀ t, GG p e below s₁ (mkF m 45 #[.val (.int cc)] [(.int (95 : Int32)), (.int cc)]) t → Steps p.tables e below s0 t := fun t kk_ => P7 t (by
            refine XS.icmpNo X0.here hx rfl (hb hby d_allowed_39) rfl (feq (hc39_8 : ¬ (cc = (45 : Int32)))).1 ?_
            show GG p e below s₁ (mkF m 42 #[.val (.int cc)] []) t
            refine XS.iloadN X0.here hx rfl (hb hby d_allowed_42) rfl ?_
            show GG p e below s₁ (mkF m 43 #[.val (.int cc)] [(.int cc)]) t
            refine XS.bipush X0.here hx rfl (hb hby d_allowed_43) ?_
            show GG p e below s₁ (mkF m 45 #[.val (.int cc)] [(.int (95 : Int32)), (.int cc)]) t
            exact kk_)
          by_cases hc45_11 : cc = (95 : Int32)
          ·
            have P12 : ∀ t, GG p e below s₁ (mkF m 59 #[.val (.int cc)] [(.int (1 : Int32))]) t → Steps p.tables e below s0 t := fun t kk_ => P10 t (by
              refine XS.icmpYes X0.here hx rfl (pc0 := 45) (pc' := 54) rfl (hb hby d_allowed_45) rfl (teq (hc45_11 : cc = (95 : Int32))).1 (by decide) (by decide) ?_
              show GG p e below s₁ (mkF m 54 #[.val (.int cc)] []) t
              refine XS.iconst X0.here hx rfl (hb hby d_allowed_54) ?_
              show GG p e below s₁ (mkF m 55 #[.val (.int cc)] [(.int (1 : Int32))]) t
              refine XS.goto X0.here hx rfl (pc0 := 55) (pc' := 59) rfl (hb hby d_allowed_55) (by decide) (by decide) ?_
              show GG p e below s₁ (mkF m 59 #[.val (.int cc)] [(.int (1 : Int32))]) t
              exact kk_)
            subst hs0
            obtain ⟨fs, hr, hrun, hended, hW, hsame⟩ := X0.leave (v := some (.int (nar .boolean (1 : Int32)))) (fun h => by rw [Bd.returns] at h; cases h)
            refine ⟨_, _, P12 _ ?_, hrun, hended, _, _, rfl, ?_, ⟨_, rfl⟩, hW, hsame.mono (by decide) (by decide)⟩
            · show GG p e below s₁ (mkF m 59 #[.val (.int cc)] [(.int (1 : Int32))]) _
              exact retN X0 hx (t := .boolean) Bd.returns (by simp) (hb hby d_allowed_59) hr
            · show Q_allowed Z cc h0 n0 _ s₁.heap _
              rw [e0]
              exact ⟨rfl, N0, rfl⟩
          ·
            have P13 : ∀ t, GG p e below s₁ (mkF m 51 #[.val (.int cc)] [(.int (46 : Int32)), (.int cc)]) t → Steps p.tables e below s0 t := fun t kk_ => P10 t (by
              refine XS.icmpNo X0.here hx rfl (hb hby d_allowed_45) rfl (feq (hc45_11 : ¬ (cc = (95 : Int32)))).1 ?_
              show GG p e below s₁ (mkF m 48 #[.val (.int cc)] []) t
              refine XS.iloadN X0.here hx rfl (hb hby d_allowed_48) rfl ?_
              show GG p e below s₁ (mkF m 49 #[.val (.int cc)] [(.int cc)]) t
              refine XS.bipush X0.here hx rfl (hb hby d_allowed_49) ?_
              show GG p e below s₁ (mkF m 51 #[.val (.int cc)] [(.int (46 : Int32)), (.int cc)]) t
              exact kk_)
            by_cases hc51_14 : cc = (46 : Int32)
            ·
              have P15 : ∀ t, GG p e below s₁ (mkF m 59 #[.val (.int cc)] [(.int (1 : Int32))]) t → Steps p.tables e below s0 t := fun t kk_ => P13 t (by
                refine XS.icmpNo X0.here hx rfl (hb hby d_allowed_51) rfl (teq (hc51_14 : cc = (46 : Int32))).2 ?_
                show GG p e below s₁ (mkF m 54 #[.val (.int cc)] []) t
                refine XS.iconst X0.here hx rfl (hb hby d_allowed_54) ?_
                show GG p e below s₁ (mkF m 55 #[.val (.int cc)] [(.int (1 : Int32))]) t
                refine XS.goto X0.here hx rfl (pc0 := 55) (pc' := 59) rfl (hb hby d_allowed_55) (by decide) (by decide) ?_
                show GG p e below s₁ (mkF m 59 #[.val (.int cc)] [(.int (1 : Int32))]) t
                exact kk_)
              subst hs0
              obtain ⟨fs, hr, hrun, hended, hW, hsame⟩ := X0.leave (v := some (.int (nar .boolean (1 : Int32)))) (fun h => by rw [Bd.returns] at h; cases h)
              refine ⟨_, _, P15 _ ?_, hrun, hended, _, _, rfl, ?_, ⟨_, rfl⟩, hW, hsame.mono (by decide) (by decide)⟩
              · show GG p e below s₁ (mkF m 59 #[.val (.int cc)] [(.int (1 : Int32))]) _
                exact retN X0 hx (t := .boolean) Bd.returns (by simp) (hb hby d_allowed_59) hr
              · show Q_allowed Z cc h0 n0 _ s₁.heap _
                rw [e0]
                exact ⟨rfl, N0, rfl⟩
            ·
              have P16 : ∀ t, GG p e below s₁ (mkF m 58 #[.val (.int cc)] []) t → Steps p.tables e below s0 t := fun t kk_ => P13 t (by
                refine XS.icmpYes X0.here hx rfl (pc0 := 51) (pc' := 58) rfl (hb hby d_allowed_51) rfl (feq (hc51_14 : ¬ (cc = (46 : Int32)))).2 (by decide) (by decide) ?_
                show GG p e below s₁ (mkF m 58 #[.val (.int cc)] []) t
                exact kk_)
              exfalso
              simp only [okB, Bool.or_eq_true, Bool.and_eq_true, decide_eq_true_eq, beq_iff_eq, ← Int32.toInt_inj, Int32.le_iff_toInt_le] at okc
              simp only [← Int32.toInt_inj, Int32.lt_iff_toInt_lt] at hc3_2 hc15_4 hc27_6 hc39_8 hc45_11 hc51_14
              have e65 : (65 : Int32).toInt = 65 := rfl
              have e90 : (90 : Int32).toInt = 90 := rfl
              have e97 : (97 : Int32).toInt = 97 := rfl
              have e122 : (122 : Int32).toInt = 122 := rfl
              have e48 : (48 : Int32).toInt = 48 := rfl
              have e57 : (57 : Int32).toInt = 57 := rfl
              have e45 : (45 : Int32).toInt = 45 := rfl
              have e95 : (95 : Int32).toInt = 95 := rfl
              have e46 : (46 : Int32).toInt = 46 := rfl
              omega
      ·
        have P17 : ∀ t, GG p e below s₁ (mkF m 33 #[.val (.int cc)] [(.int (57 : Int32)), (.int cc)]) t → Steps p.tables e below s0 t := fun t kk_ => P5 t (by
          refine XS.icmpNo X0.here hx rfl (hb hby d_allowed_27) rfl (flt (hc27_6 : ¬ (cc < (48 : Int32)))).1 ?_
          show GG p e below s₁ (mkF m 30 #[.val (.int cc)] []) t
          refine XS.iloadN X0.here hx rfl (hb hby d_allowed_30) rfl ?_
          show GG p e below s₁ (mkF m 31 #[.val (.int cc)] [(.int cc)]) t
          refine XS.bipush X0.here hx rfl (hb hby d_allowed_31) ?_
          show GG p e below s₁ (mkF m 33 #[.val (.int cc)] [(.int (57 : Int32)), (.int cc)]) t
          exact kk_)
        by_cases hc33_18 : (57 : Int32) < cc
        ·
          have P19 : ∀ t, GG p e below s₁ (mkF m 39 #[.val (.int cc)] [(.int (45 : Int32)), (.int cc)]) t → Steps p.tables e below s0 t := fun t kk_ => P17 t (by
            refine XS.icmpNo X0.here hx rfl (hb hby d_allowed_33) rfl (tlt (hc33_18 : (57 : Int32) < cc)).2.2.2 ?_
            show GG p e below s₁ (mkF m 36 #[.val (.int cc)] []) t
            refine XS.iloadN X0.here hx rfl (hb hby d_allowed_36) rfl ?_
            show GG p e below s₁ (mkF m 37 #[.val (.int cc)] [(.int cc)]) t
            refine XS.bipush X0.here hx rfl (hb hby d_allowed_37) ?_
            show GG p e below s₁ (mkF m 39 #[.val (.int cc)] [(.int (45 : Int32)), (.int cc)]) t
            exact kk_)
          by_cases hc39_20 : cc = (45 : Int32)
          ·
            have P21 : ∀ t, GG p e below s₁ (mkF m 59 #[.val (.int cc)] [(.int (1 : Int32))]) t → Steps p.tables e below s0 t := fun t kk_ => P19 t (by
              refine XS.icmpYes X0.here hx rfl (pc0 := 39) (pc' := 54) rfl (hb hby d_allowed_39) rfl (teq (hc39_20 : cc = (45 : Int32))).1 (by decide) (by decide) ?_
              show GG p e below s₁ (mkF m 54 #[.val (.int cc)] []) t
              refine XS.iconst X0.here hx rfl (hb hby d_allowed_54) ?_
              show GG p e below s₁ (mkF m 55 #[.val (.int cc)] [(.int (1 : Int32))]) t
              refine XS.goto X0.here hx rfl (pc0 := 55) (pc' := 59) rfl (hb hby d_allowed_55) (by decide) (by decide) ?_
              show GG p e below s₁ (mkF m 59 #[.val (.int cc)] [(.int (1 : Int32))]) t
              exact kk_)
            subst hs0
            obtain ⟨fs, hr, hrun, hended, hW, hsame⟩ := X0.leave (v := some (.int (nar .boolean (1 : Int32)))) (fun h => by rw [Bd.returns] at h; cases h)
            refine ⟨_, _, P21 _ ?_, hrun, hended, _, _, rfl, ?_, ⟨_, rfl⟩, hW, hsame.mono (by decide) (by decide)⟩
            · show GG p e below s₁ (mkF m 59 #[.val (.int cc)] [(.int (1 : Int32))]) _
              exact retN X0 hx (t := .boolean) Bd.returns (by simp) (hb hby d_allowed_59) hr
            · show Q_allowed Z cc h0 n0 _ s₁.heap _
              rw [e0]
              exact ⟨rfl, N0, rfl⟩
          ·
            have P22 : ∀ t, GG p e below s₁ (mkF m 45 #[.val (.int cc)] [(.int (95 : Int32)), (.int cc)]) t → Steps p.tables e below s0 t := fun t kk_ => P19 t (by
              refine XS.icmpNo X0.here hx rfl (hb hby d_allowed_39) rfl (feq (hc39_20 : ¬ (cc = (45 : Int32)))).1 ?_
              show GG p e below s₁ (mkF m 42 #[.val (.int cc)] []) t
              refine XS.iloadN X0.here hx rfl (hb hby d_allowed_42) rfl ?_
              show GG p e below s₁ (mkF m 43 #[.val (.int cc)] [(.int cc)]) t
              refine XS.bipush X0.here hx rfl (hb hby d_allowed_43) ?_
              show GG p e below s₁ (mkF m 45 #[.val (.int cc)] [(.int (95 : Int32)), (.int cc)]) t
              exact kk_)
            by_cases hc45_23 : cc = (95 : Int32)
            ·
              have P24 : ∀ t, GG p e below s₁ (mkF m 59 #[.val (.int cc)] [(.int (1 : Int32))]) t → Steps p.tables e below s0 t := fun t kk_ => P22 t (by
                refine XS.icmpYes X0.here hx rfl (pc0 := 45) (pc' := 54) rfl (hb hby d_allowed_45) rfl (teq (hc45_23 : cc = (95 : Int32))).1 (by decide) (by decide) ?_
                show GG p e below s₁ (mkF m 54 #[.val (.int cc)] []) t
                refine XS.iconst X0.here hx rfl (hb hby d_allowed_54) ?_
                show GG p e below s₁ (mkF m 55 #[.val (.int cc)] [(.int (1 : Int32))]) t
                refine XS.goto X0.here hx rfl (pc0 := 55) (pc' := 59) rfl (hb hby d_allowed_55) (by decide) (by decide) ?_
                show GG p e below s₁ (mkF m 59 #[.val (.int cc)] [(.int (1 : Int32))]) t
                exact kk_)
              subst hs0
              obtain ⟨fs, hr, hrun, hended, hW, hsame⟩ := X0.leave (v := some (.int (nar .boolean (1 : Int32)))) (fun h => by rw [Bd.returns] at h; cases h)
              refine ⟨_, _, P24 _ ?_, hrun, hended, _, _, rfl, ?_, ⟨_, rfl⟩, hW, hsame.mono (by decide) (by decide)⟩
              · show GG p e below s₁ (mkF m 59 #[.val (.int cc)] [(.int (1 : Int32))]) _
                exact retN X0 hx (t := .boolean) Bd.returns (by simp) (hb hby d_allowed_59) hr
              · show Q_allowed Z cc h0 n0 _ s₁.heap _
                rw [e0]
                exact ⟨rfl, N0, rfl⟩
            ·
              have P25 : ∀ t, GG p e below s₁ (mkF m 51 #[.val (.int cc)] [(.int (46 : Int32)), (.int cc)]) t → Steps p.tables e below s0 t := fun t kk_ => P22 t (by
                refine XS.icmpNo X0.here hx rfl (hb hby d_allowed_45) rfl (feq (hc45_23 : ¬ (cc = (95 : Int32)))).1 ?_
                show GG p e below s₁ (mkF m 48 #[.val (.int cc)] []) t
                refine XS.iloadN X0.here hx rfl (hb hby d_allowed_48) rfl ?_
                show GG p e below s₁ (mkF m 49 #[.val (.int cc)] [(.int cc)]) t
                refine XS.bipush X0.here hx rfl (hb hby d_allowed_49) ?_
                show GG p e below s₁ (mkF m 51 #[.val (.int cc)] [(.int (46 : Int32)), (.int cc)]) t
                exact kk_)
              by_cases hc51_26 : cc = (46 : Int32)
              ·
                have P27 : ∀ t, GG p e below s₁ (mkF m 59 #[.val (.int cc)] [(.int (1 : Int32))]) t → Steps p.tables e below s0 t := fun t kk_ => P25 t (by
                  refine XS.icmpNo X0.here hx rfl (hb hby d_allowed_51) rfl (teq (hc51_26 : cc = (46 : Int32))).2 ?_
                  show GG p e below s₁ (mkF m 54 #[.val (.int cc)] []) t
                  refine XS.iconst X0.here hx rfl (hb hby d_allowed_54) ?_
                  show GG p e below s₁ (mkF m 55 #[.val (.int cc)] [(.int (1 : Int32))]) t
                  refine XS.goto X0.here hx rfl (pc0 := 55) (pc' := 59) rfl (hb hby d_allowed_55) (by decide) (by decide) ?_
                  show GG p e below s₁ (mkF m 59 #[.val (.int cc)] [(.int (1 : Int32))]) t
                  exact kk_)
                subst hs0
                obtain ⟨fs, hr, hrun, hended, hW, hsame⟩ := X0.leave (v := some (.int (nar .boolean (1 : Int32)))) (fun h => by rw [Bd.returns] at h; cases h)
                refine ⟨_, _, P27 _ ?_, hrun, hended, _, _, rfl, ?_, ⟨_, rfl⟩, hW, hsame.mono (by decide) (by decide)⟩
                · show GG p e below s₁ (mkF m 59 #[.val (.int cc)] [(.int (1 : Int32))]) _
                  exact retN X0 hx (t := .boolean) Bd.returns (by simp) (hb hby d_allowed_59) hr
                · show Q_allowed Z cc h0 n0 _ s₁.heap _
                  rw [e0]
                  exact ⟨rfl, N0, rfl⟩
              ·
                have P28 : ∀ t, GG p e below s₁ (mkF m 58 #[.val (.int cc)] []) t → Steps p.tables e below s0 t := fun t kk_ => P25 t (by
                  refine XS.icmpYes X0.here hx rfl (pc0 := 51) (pc' := 58) rfl (hb hby d_allowed_51) rfl (feq (hc51_26 : ¬ (cc = (46 : Int32)))).2 (by decide) (by decide) ?_
                  show GG p e below s₁ (mkF m 58 #[.val (.int cc)] []) t
                  exact kk_)
                exfalso
                simp only [okB, Bool.or_eq_true, Bool.and_eq_true, decide_eq_true_eq, beq_iff_eq, ← Int32.toInt_inj, Int32.le_iff_toInt_le] at okc
                simp only [← Int32.toInt_inj, Int32.lt_iff_toInt_lt] at hc3_2 hc15_4 hc27_6 hc33_18 hc39_20 hc45_23 hc51_26
                have e65 : (65 : Int32).toInt = 65 := rfl
                have e90 : (90 : Int32).toInt = 90 := rfl
                have e97 : (97 : Int32).toInt = 97 := rfl
                have e122 : (122 : Int32).toInt = 122 := rfl
                have e48 : (48 : Int32).toInt = 48 := rfl
                have e57 : (57 : Int32).toInt = 57 := rfl
                have e45 : (45 : Int32).toInt = 45 := rfl
                have e95 : (95 : Int32).toInt = 95 := rfl
                have e46 : (46 : Int32).toInt = 46 := rfl
                omega
        ·
          have P29 : ∀ t, GG p e below s₁ (mkF m 59 #[.val (.int cc)] [(.int (1 : Int32))]) t → Steps p.tables e below s0 t := fun t kk_ => P17 t (by
            refine XS.icmpYes X0.here hx rfl (pc0 := 33) (pc' := 54) rfl (hb hby d_allowed_33) rfl (flt (hc33_18 : ¬ ((57 : Int32) < cc))).2.2.2 (by decide) (by decide) ?_
            show GG p e below s₁ (mkF m 54 #[.val (.int cc)] []) t
            refine XS.iconst X0.here hx rfl (hb hby d_allowed_54) ?_
            show GG p e below s₁ (mkF m 55 #[.val (.int cc)] [(.int (1 : Int32))]) t
            refine XS.goto X0.here hx rfl (pc0 := 55) (pc' := 59) rfl (hb hby d_allowed_55) (by decide) (by decide) ?_
            show GG p e below s₁ (mkF m 59 #[.val (.int cc)] [(.int (1 : Int32))]) t
            exact kk_)
          subst hs0
          obtain ⟨fs, hr, hrun, hended, hW, hsame⟩ := X0.leave (v := some (.int (nar .boolean (1 : Int32)))) (fun h => by rw [Bd.returns] at h; cases h)
          refine ⟨_, _, P29 _ ?_, hrun, hended, _, _, rfl, ?_, ⟨_, rfl⟩, hW, hsame.mono (by decide) (by decide)⟩
          · show GG p e below s₁ (mkF m 59 #[.val (.int cc)] [(.int (1 : Int32))]) _
            exact retN X0 hx (t := .boolean) Bd.returns (by simp) (hb hby d_allowed_59) hr
          · show Q_allowed Z cc h0 n0 _ s₁.heap _
            rw [e0]
            exact ⟨rfl, N0, rfl⟩
    ·
      have P30 : ∀ t, GG p e below s₁ (mkF m 21 #[.val (.int cc)] [(.int (122 : Int32)), (.int cc)]) t → Steps p.tables e below s0 t := fun t kk_ => P3 t (by
        refine XS.icmpNo X0.here hx rfl (hb hby d_allowed_15) rfl (flt (hc15_4 : ¬ (cc < (97 : Int32)))).1 ?_
        show GG p e below s₁ (mkF m 18 #[.val (.int cc)] []) t
        refine XS.iloadN X0.here hx rfl (hb hby d_allowed_18) rfl ?_
        show GG p e below s₁ (mkF m 19 #[.val (.int cc)] [(.int cc)]) t
        refine XS.bipush X0.here hx rfl (hb hby d_allowed_19) ?_
        show GG p e below s₁ (mkF m 21 #[.val (.int cc)] [(.int (122 : Int32)), (.int cc)]) t
        exact kk_)
      by_cases hc21_31 : (122 : Int32) < cc
      ·
        have P32 : ∀ t, GG p e below s₁ (mkF m 27 #[.val (.int cc)] [(.int (48 : Int32)), (.int cc)]) t → Steps p.tables e below s0 t := fun t kk_ => P30 t (by
          refine XS.icmpNo X0.here hx rfl (hb hby d_allowed_21) rfl (tlt (hc21_31 : (122 : Int32) < cc)).2.2.2 ?_
          show GG p e below s₁ (mkF m 24 #[.val (.int cc)] []) t
          refine XS.iloadN X0.here hx rfl (hb hby d_allowed_24) rfl ?_
          show GG p e below s₁ (mkF m 25 #[.val (.int cc)] [(.int cc)]) t
          refine XS.bipush X0.here hx rfl (hb hby d_allowed_25) ?_
          show GG p e below s₁ (mkF m 27 #[.val (.int cc)] [(.int (48 : Int32)), (.int cc)]) t
          exact kk_)
        by_cases hc27_33 : cc < (48 : Int32)
        ·
          have P34 : ∀ t, GG p e below s₁ (mkF m 39 #[.val (.int cc)] [(.int (45 : Int32)), (.int cc)]) t → Steps p.tables e below s0 t := fun t kk_ => P32 t (by
            refine XS.icmpYes X0.here hx rfl (pc0 := 27) (pc' := 36) rfl (hb hby d_allowed_27) rfl (tlt (hc27_33 : cc < (48 : Int32))).1 (by decide) (by decide) ?_
            show GG p e below s₁ (mkF m 36 #[.val (.int cc)] []) t
            refine XS.iloadN X0.here hx rfl (hb hby d_allowed_36) rfl ?_
            show GG p e below s₁ (mkF m 37 #[.val (.int cc)] [(.int cc)]) t
            refine XS.bipush X0.here hx rfl (hb hby d_allowed_37) ?_
            show GG p e below s₁ (mkF m 39 #[.val (.int cc)] [(.int (45 : Int32)), (.int cc)]) t
            exact kk_)
          by_cases hc39_35 : cc = (45 : Int32)
          ·
            have P36 : ∀ t, GG p e below s₁ (mkF m 59 #[.val (.int cc)] [(.int (1 : Int32))]) t → Steps p.tables e below s0 t := fun t kk_ => P34 t (by
              refine XS.icmpYes X0.here hx rfl (pc0 := 39) (pc' := 54) rfl (hb hby d_allowed_39) rfl (teq (hc39_35 : cc = (45 : Int32))).1 (by decide) (by decide) ?_
              show GG p e below s₁ (mkF m 54 #[.val (.int cc)] []) t
              refine XS.iconst X0.here hx rfl (hb hby d_allowed_54) ?_
              show GG p e below s₁ (mkF m 55 #[.val (.int cc)] [(.int (1 : Int32))]) t
              refine XS.goto X0.here hx rfl (pc0 := 55) (pc' := 59) rfl (hb hby d_allowed_55) (by decide) (by decide) ?_
              show GG p e below s₁ (mkF m 59 #[.val (.int cc)] [(.int (1 : Int32))]) t
              exact kk_)
            subst hs0
            obtain ⟨fs, hr, hrun, hended, hW, hsame⟩ := X0.leave (v := some (.int (nar .boolean (1 : Int32)))) (fun h => by rw [Bd.returns] at h; cases h)
            refine ⟨_, _, P36 _ ?_, hrun, hended, _, _, rfl, ?_, ⟨_, rfl⟩, hW, hsame.mono (by decide) (by decide)⟩
            · show GG p e below s₁ (mkF m 59 #[.val (.int cc)] [(.int (1 : Int32))]) _
              exact retN X0 hx (t := .boolean) Bd.returns (by simp) (hb hby d_allowed_59) hr
            · show Q_allowed Z cc h0 n0 _ s₁.heap _
              rw [e0]
              exact ⟨rfl, N0, rfl⟩
          ·
            have P37 : ∀ t, GG p e below s₁ (mkF m 45 #[.val (.int cc)] [(.int (95 : Int32)), (.int cc)]) t → Steps p.tables e below s0 t := fun t kk_ => P34 t (by
              refine XS.icmpNo X0.here hx rfl (hb hby d_allowed_39) rfl (feq (hc39_35 : ¬ (cc = (45 : Int32)))).1 ?_
              show GG p e below s₁ (mkF m 42 #[.val (.int cc)] []) t
              refine XS.iloadN X0.here hx rfl (hb hby d_allowed_42) rfl ?_
              show GG p e below s₁ (mkF m 43 #[.val (.int cc)] [(.int cc)]) t
              refine XS.bipush X0.here hx rfl (hb hby d_allowed_43) ?_
              show GG p e below s₁ (mkF m 45 #[.val (.int cc)] [(.int (95 : Int32)), (.int cc)]) t
              exact kk_)
            by_cases hc45_38 : cc = (95 : Int32)
            ·
              have P39 : ∀ t, GG p e below s₁ (mkF m 59 #[.val (.int cc)] [(.int (1 : Int32))]) t → Steps p.tables e below s0 t := fun t kk_ => P37 t (by
                refine XS.icmpYes X0.here hx rfl (pc0 := 45) (pc' := 54) rfl (hb hby d_allowed_45) rfl (teq (hc45_38 : cc = (95 : Int32))).1 (by decide) (by decide) ?_
                show GG p e below s₁ (mkF m 54 #[.val (.int cc)] []) t
                refine XS.iconst X0.here hx rfl (hb hby d_allowed_54) ?_
                show GG p e below s₁ (mkF m 55 #[.val (.int cc)] [(.int (1 : Int32))]) t
                refine XS.goto X0.here hx rfl (pc0 := 55) (pc' := 59) rfl (hb hby d_allowed_55) (by decide) (by decide) ?_
                show GG p e below s₁ (mkF m 59 #[.val (.int cc)] [(.int (1 : Int32))]) t
                exact kk_)
              subst hs0
              obtain ⟨fs, hr, hrun, hended, hW, hsame⟩ := X0.leave (v := some (.int (nar .boolean (1 : Int32)))) (fun h => by rw [Bd.returns] at h; cases h)
              refine ⟨_, _, P39 _ ?_, hrun, hended, _, _, rfl, ?_, ⟨_, rfl⟩, hW, hsame.mono (by decide) (by decide)⟩
              · show GG p e below s₁ (mkF m 59 #[.val (.int cc)] [(.int (1 : Int32))]) _
                exact retN X0 hx (t := .boolean) Bd.returns (by simp) (hb hby d_allowed_59) hr
              · show Q_allowed Z cc h0 n0 _ s₁.heap _
                rw [e0]
                exact ⟨rfl, N0, rfl⟩
            ·
              have P40 : ∀ t, GG p e below s₁ (mkF m 51 #[.val (.int cc)] [(.int (46 : Int32)), (.int cc)]) t → Steps p.tables e below s0 t := fun t kk_ => P37 t (by
                refine XS.icmpNo X0.here hx rfl (hb hby d_allowed_45) rfl (feq (hc45_38 : ¬ (cc = (95 : Int32)))).1 ?_
                show GG p e below s₁ (mkF m 48 #[.val (.int cc)] []) t
                refine XS.iloadN X0.here hx rfl (hb hby d_allowed_48) rfl ?_
                show GG p e below s₁ (mkF m 49 #[.val (.int cc)] [(.int cc)]) t
                refine XS.bipush X0.here hx rfl (hb hby d_allowed_49) ?_
                show GG p e below s₁ (mkF m 51 #[.val (.int cc)] [(.int (46 : Int32)), (.int cc)]) t
                exact kk_)
              by_cases hc51_41 : cc = (46 : Int32)
              ·
                have P42 : ∀ t, GG p e below s₁ (mkF m 59 #[.val (.int cc)] [(.int (1 : Int32))]) t → Steps p.tables e below s0 t := fun t kk_ => P40 t (by
                  refine XS.icmpNo X0.here hx rfl (hb hby d_allowed_51) rfl (teq (hc51_41 : cc = (46 : Int32))).2 ?_
                  show GG p e below s₁ (mkF m 54 #[.val (.int cc)] []) t
                  refine XS.iconst X0.here hx rfl (hb hby d_allowed_54) ?_
                  show GG p e below s₁ (mkF m 55 #[.val (.int cc)] [(.int (1 : Int32))]) t
                  refine XS.goto X0.here hx rfl (pc0 := 55) (pc' := 59) rfl (hb hby d_allowed_55) (by decide) (by decide) ?_
                  show GG p e below s₁ (mkF m 59 #[.val (.int cc)] [(.int (1 : Int32))]) t
                  exact kk_)
                subst hs0
                obtain ⟨fs, hr, hrun, hended, hW, hsame⟩ := X0.leave (v := some (.int (nar .boolean (1 : Int32)))) (fun h => by rw [Bd.returns] at h; cases h)
                refine ⟨_, _, P42 _ ?_, hrun, hended, _, _, rfl, ?_, ⟨_, rfl⟩, hW, hsame.mono (by decide) (by decide)⟩
                · show GG p e below s₁ (mkF m 59 #[.val (.int cc)] [(.int (1 : Int32))]) _
                  exact retN X0 hx (t := .boolean) Bd.returns (by simp) (hb hby d_allowed_59) hr
                · show Q_allowed Z cc h0 n0 _ s₁.heap _
                  rw [e0]
                  exact ⟨rfl, N0, rfl⟩
              ·
                have P43 : ∀ t, GG p e below s₁ (mkF m 58 #[.val (.int cc)] []) t → Steps p.tables e below s0 t := fun t kk_ => P40 t (by
                  refine XS.icmpYes X0.here hx rfl (pc0 := 51) (pc' := 58) rfl (hb hby d_allowed_51) rfl (feq (hc51_41 : ¬ (cc = (46 : Int32)))).2 (by decide) (by decide) ?_
                  show GG p e below s₁ (mkF m 58 #[.val (.int cc)] []) t
                  exact kk_)
                exfalso
                simp only [okB, Bool.or_eq_true, Bool.and_eq_true, decide_eq_true_eq, beq_iff_eq, ← Int32.toInt_inj, Int32.le_iff_toInt_le] at okc
                simp only [← Int32.toInt_inj, Int32.lt_iff_toInt_lt] at hc3_2 hc15_4 hc21_31 hc27_33 hc39_35 hc45_38 hc51_41
                have e65 : (65 : Int32).toInt = 65 := rfl
                have e90 : (90 : Int32).toInt = 90 := rfl
                have e97 : (97 : Int32).toInt = 97 := rfl
                have e122 : (122 : Int32).toInt = 122 := rfl
                have e48 : (48 : Int32).toInt = 48 := rfl
                have e57 : (57 : Int32).toInt = 57 := rfl
                have e45 : (45 : Int32).toInt = 45 := rfl
                have e95 : (95 : Int32).toInt = 95 := rfl
                have e46 : (46 : Int32).toInt = 46 := rfl
                omega
        ·
          have P44 : ∀ t, GG p e below s₁ (mkF m 33 #[.val (.int cc)] [(.int (57 : Int32)), (.int cc)]) t → Steps p.tables e below s0 t := fun t kk_ => P32 t (by
            refine XS.icmpNo X0.here hx rfl (hb hby d_allowed_27) rfl (flt (hc27_33 : ¬ (cc < (48 : Int32)))).1 ?_
            show GG p e below s₁ (mkF m 30 #[.val (.int cc)] []) t
            refine XS.iloadN X0.here hx rfl (hb hby d_allowed_30) rfl ?_
            show GG p e below s₁ (mkF m 31 #[.val (.int cc)] [(.int cc)]) t
            refine XS.bipush X0.here hx rfl (hb hby d_allowed_31) ?_
            show GG p e below s₁ (mkF m 33 #[.val (.int cc)] [(.int (57 : Int32)), (.int cc)]) t
            exact kk_)
          by_cases hc33_45 : (57 : Int32) < cc
          ·
            have P46 : ∀ t, GG p e below s₁ (mkF m 39 #[.val (.int cc)] [(.int (45 : Int32)), (.int cc)]) t → Steps p.tables e below s0 t := fun t kk_ => P44 t (by
              refine XS.icmpNo X0.here hx rfl (hb hby d_allowed_33) rfl (tlt (hc33_45 : (57 : Int32) < cc)).2.2.2 ?_
              show GG p e below s₁ (mkF m 36 #[.val (.int cc)] []) t
              refine XS.iloadN X0.here hx rfl (hb hby d_allowed_36) rfl ?_
              show GG p e below s₁ (mkF m 37 #[.val (.int cc)] [(.int cc)]) t
              refine XS.bipush X0.here hx rfl (hb hby d_allowed_37) ?_
              show GG p e below s₁ (mkF m 39 #[.val (.int cc)] [(.int (45 : Int32)), (.int cc)]) t
              exact kk_)
            by_cases hc39_47 : cc = (45 : Int32)
            ·
              have P48 : ∀ t, GG p e below s₁ (mkF m 59 #[.val (.int cc)] [(.int (1 : Int32))]) t → Steps p.tables e below s0 t := fun t kk_ => P46 t (by
                refine XS.icmpYes X0.here hx rfl (pc0 := 39) (pc' := 54) rfl (hb hby d_allowed_39) rfl (teq (hc39_47 : cc = (45 : Int32))).1 (by decide) (by decide) ?_
                show GG p e below s₁ (mkF m 54 #[.val (.int cc)] []) t
                refine XS.iconst X0.here hx rfl (hb hby d_allowed_54) ?_
                show GG p e below s₁ (mkF m 55 #[.val (.int cc)] [(.int (1 : Int32))]) t
                refine XS.goto X0.here hx rfl (pc0 := 55) (pc' := 59) rfl (hb hby d_allowed_55) (by decide) (by decide) ?_
                show GG p e below s₁ (mkF m 59 #[.val (.int cc)] [(.int (1 : Int32))]) t
                exact kk_)
              subst hs0
              obtain ⟨fs, hr, hrun, hended, hW, hsame⟩ := X0.leave (v := some (.int (nar .boolean (1 : Int32)))) (fun h => by rw [Bd.returns] at h; cases h)
              refine ⟨_, _, P48 _ ?_, hrun, hended, _, _, rfl, ?_, ⟨_, rfl⟩, hW, hsame.mono (by decide) (by decide)⟩
              · show GG p e below s₁ (mkF m 59 #[.val (.int cc)] [(.int (1 : Int32))]) _
                exact retN X0 hx (t := .boolean) Bd.returns (by simp) (hb hby d_allowed_59) hr
              · show Q_allowed Z cc h0 n0 _ s₁.heap _
                rw [e0]
                exact ⟨rfl, N0, rfl⟩
            ·
              have P49 : ∀ t, GG p e below s₁ (mkF m 45 #[.val (.int cc)] [(.int (95 : Int32)), (.int cc)]) t → Steps p.tables e below s0 t := fun t kk_ => P46 t (by
                refine XS.icmpNo X0.here hx rfl (hb hby d_allowed_39) rfl (feq (hc39_47 : ¬ (cc = (45 : Int32)))).1 ?_
                show GG p e below s₁ (mkF m 42 #[.val (.int cc)] []) t
                refine XS.iloadN X0.here hx rfl (hb hby d_allowed_42) rfl ?_
                show GG p e below s₁ (mkF m 43 #[.val (.int cc)] [(.int cc)]) t
                refine XS.bipush X0.here hx rfl (hb hby d_allowed_43) ?_
                show GG p e below s₁ (mkF m 45 #[.val (.int cc)] [(.int (95 : Int32)), (.int cc)]) t
                exact kk_)
              by_cases hc45_50 : cc = (95 : Int32)
              ·
                have P51 : ∀ t, GG p e below s₁ (mkF m 59 #[.val (.int cc)] [(.int (1 : Int32))]) t → Steps p.tables e below s0 t := fun t kk_ => P49 t (by
                  refine XS.icmpYes X0.here hx rfl (pc0 := 45) (pc' := 54) rfl (hb hby d_allowed_45) rfl (teq (hc45_50 : cc = (95 : Int32))).1 (by decide) (by decide) ?_
                  show GG p e below s₁ (mkF m 54 #[.val (.int cc)] []) t
                  refine XS.iconst X0.here hx rfl (hb hby d_allowed_54) ?_
                  show GG p e below s₁ (mkF m 55 #[.val (.int cc)] [(.int (1 : Int32))]) t
                  refine XS.goto X0.here hx rfl (pc0 := 55) (pc' := 59) rfl (hb hby d_allowed_55) (by decide) (by decide) ?_
                  show GG p e below s₁ (mkF m 59 #[.val (.int cc)] [(.int (1 : Int32))]) t
                  exact kk_)
                subst hs0
                obtain ⟨fs, hr, hrun, hended, hW, hsame⟩ := X0.leave (v := some (.int (nar .boolean (1 : Int32)))) (fun h => by rw [Bd.returns] at h; cases h)
                refine ⟨_, _, P51 _ ?_, hrun, hended, _, _, rfl, ?_, ⟨_, rfl⟩, hW, hsame.mono (by decide) (by decide)⟩
                · show GG p e below s₁ (mkF m 59 #[.val (.int cc)] [(.int (1 : Int32))]) _
                  exact retN X0 hx (t := .boolean) Bd.returns (by simp) (hb hby d_allowed_59) hr
                · show Q_allowed Z cc h0 n0 _ s₁.heap _
                  rw [e0]
                  exact ⟨rfl, N0, rfl⟩
              ·
                have P52 : ∀ t, GG p e below s₁ (mkF m 51 #[.val (.int cc)] [(.int (46 : Int32)), (.int cc)]) t → Steps p.tables e below s0 t := fun t kk_ => P49 t (by
                  refine XS.icmpNo X0.here hx rfl (hb hby d_allowed_45) rfl (feq (hc45_50 : ¬ (cc = (95 : Int32)))).1 ?_
                  show GG p e below s₁ (mkF m 48 #[.val (.int cc)] []) t
                  refine XS.iloadN X0.here hx rfl (hb hby d_allowed_48) rfl ?_
                  show GG p e below s₁ (mkF m 49 #[.val (.int cc)] [(.int cc)]) t
                  refine XS.bipush X0.here hx rfl (hb hby d_allowed_49) ?_
                  show GG p e below s₁ (mkF m 51 #[.val (.int cc)] [(.int (46 : Int32)), (.int cc)]) t
                  exact kk_)
                by_cases hc51_53 : cc = (46 : Int32)
                ·
                  have P54 : ∀ t, GG p e below s₁ (mkF m 59 #[.val (.int cc)] [(.int (1 : Int32))]) t → Steps p.tables e below s0 t := fun t kk_ => P52 t (by
                    refine XS.icmpNo X0.here hx rfl (hb hby d_allowed_51) rfl (teq (hc51_53 : cc = (46 : Int32))).2 ?_
                    show GG p e below s₁ (mkF m 54 #[.val (.int cc)] []) t
                    refine XS.iconst X0.here hx rfl (hb hby d_allowed_54) ?_
                    show GG p e below s₁ (mkF m 55 #[.val (.int cc)] [(.int (1 : Int32))]) t
                    refine XS.goto X0.here hx rfl (pc0 := 55) (pc' := 59) rfl (hb hby d_allowed_55) (by decide) (by decide) ?_
                    show GG p e below s₁ (mkF m 59 #[.val (.int cc)] [(.int (1 : Int32))]) t
                    exact kk_)
                  subst hs0
                  obtain ⟨fs, hr, hrun, hended, hW, hsame⟩ := X0.leave (v := some (.int (nar .boolean (1 : Int32)))) (fun h => by rw [Bd.returns] at h; cases h)
                  refine ⟨_, _, P54 _ ?_, hrun, hended, _, _, rfl, ?_, ⟨_, rfl⟩, hW, hsame.mono (by decide) (by decide)⟩
                  · show GG p e below s₁ (mkF m 59 #[.val (.int cc)] [(.int (1 : Int32))]) _
                    exact retN X0 hx (t := .boolean) Bd.returns (by simp) (hb hby d_allowed_59) hr
                  · show Q_allowed Z cc h0 n0 _ s₁.heap _
                    rw [e0]
                    exact ⟨rfl, N0, rfl⟩
                ·
                  have P55 : ∀ t, GG p e below s₁ (mkF m 58 #[.val (.int cc)] []) t → Steps p.tables e below s0 t := fun t kk_ => P52 t (by
                    refine XS.icmpYes X0.here hx rfl (pc0 := 51) (pc' := 58) rfl (hb hby d_allowed_51) rfl (feq (hc51_53 : ¬ (cc = (46 : Int32)))).2 (by decide) (by decide) ?_
                    show GG p e below s₁ (mkF m 58 #[.val (.int cc)] []) t
                    exact kk_)
                  exfalso
                  simp only [okB, Bool.or_eq_true, Bool.and_eq_true, decide_eq_true_eq, beq_iff_eq, ← Int32.toInt_inj, Int32.le_iff_toInt_le] at okc
                  simp only [← Int32.toInt_inj, Int32.lt_iff_toInt_lt] at hc3_2 hc15_4 hc21_31 hc27_33 hc33_45 hc39_47 hc45_50 hc51_53
                  have e65 : (65 : Int32).toInt = 65 := rfl
                  have e90 : (90 : Int32).toInt = 90 := rfl
                  have e97 : (97 : Int32).toInt = 97 := rfl
                  have e122 : (122 : Int32).toInt = 122 := rfl
                  have e48 : (48 : Int32).toInt = 48 := rfl
                  have e57 : (57 : Int32).toInt = 57 := rfl
                  have e45 : (45 : Int32).toInt = 45 := rfl
                  have e95 : (95 : Int32).toInt = 95 := rfl
                  have e46 : (46 : Int32).toInt = 46 := rfl
                  omega
          ·
            have P56 : ∀ t, GG p e below s₁ (mkF m 59 #[.val (.int cc)] [(.int (1 : Int32))]) t → Steps p.tables e below s0 t := fun t kk_ => P44 t (by
              refine XS.icmpYes X0.here hx rfl (pc0 := 33) (pc' := 54) rfl (hb hby d_allowed_33) rfl (flt (hc33_45 : ¬ ((57 : Int32) < cc))).2.2.2 (by decide) (by decide) ?_
              show GG p e below s₁ (mkF m 54 #[.val (.int cc)] []) t
              refine XS.iconst X0.here hx rfl (hb hby d_allowed_54) ?_
              show GG p e below s₁ (mkF m 55 #[.val (.int cc)] [(.int (1 : Int32))]) t
              refine XS.goto X0.here hx rfl (pc0 := 55) (pc' := 59) rfl (hb hby d_allowed_55) (by decide) (by decide) ?_
              show GG p e below s₁ (mkF m 59 #[.val (.int cc)] [(.int (1 : Int32))]) t
              exact kk_)
            subst hs0
            obtain ⟨fs, hr, hrun, hended, hW, hsame⟩ := X0.leave (v := some (.int (nar .boolean (1 : Int32)))) (fun h => by rw [Bd.returns] at h; cases h)
            refine ⟨_, _, P56 _ ?_, hrun, hended, _, _, rfl, ?_, ⟨_, rfl⟩, hW, hsame.mono (by decide) (by decide)⟩
            · show GG p e below s₁ (mkF m 59 #[.val (.int cc)] [(.int (1 : Int32))]) _
              exact retN X0 hx (t := .boolean) Bd.returns (by simp) (hb hby d_allowed_59) hr
            · show Q_allowed Z cc h0 n0 _ s₁.heap _
              rw [e0]
              exact ⟨rfl, N0, rfl⟩
      ·
        have P57 : ∀ t, GG p e below s₁ (mkF m 59 #[.val (.int cc)] [(.int (1 : Int32))]) t → Steps p.tables e below s0 t := fun t kk_ => P30 t (by
          refine XS.icmpYes X0.here hx rfl (pc0 := 21) (pc' := 54) rfl (hb hby d_allowed_21) rfl (flt (hc21_31 : ¬ ((122 : Int32) < cc))).2.2.2 (by decide) (by decide) ?_
          show GG p e below s₁ (mkF m 54 #[.val (.int cc)] []) t
          refine XS.iconst X0.here hx rfl (hb hby d_allowed_54) ?_
          show GG p e below s₁ (mkF m 55 #[.val (.int cc)] [(.int (1 : Int32))]) t
          refine XS.goto X0.here hx rfl (pc0 := 55) (pc' := 59) rfl (hb hby d_allowed_55) (by decide) (by decide) ?_
          show GG p e below s₁ (mkF m 59 #[.val (.int cc)] [(.int (1 : Int32))]) t
          exact kk_)
        subst hs0
        obtain ⟨fs, hr, hrun, hended, hW, hsame⟩ := X0.leave (v := some (.int (nar .boolean (1 : Int32)))) (fun h => by rw [Bd.returns] at h; cases h)
        refine ⟨_, _, P57 _ ?_, hrun, hended, _, _, rfl, ?_, ⟨_, rfl⟩, hW, hsame.mono (by decide) (by decide)⟩
        · show GG p e below s₁ (mkF m 59 #[.val (.int cc)] [(.int (1 : Int32))]) _
          exact retN X0 hx (t := .boolean) Bd.returns (by simp) (hb hby d_allowed_59) hr
        · show Q_allowed Z cc h0 n0 _ s₁.heap _
          rw [e0]
          exact ⟨rfl, N0, rfl⟩
  ·
    have P58 : ∀ t, GG p e below s₁ (mkF m 9 #[.val (.int cc)] [(.int (90 : Int32)), (.int cc)]) t → Steps p.tables e below s0 t := fun t kk_ => P1 t (by
      refine XS.icmpNo X0.here hx rfl (hb hby d_allowed_3) rfl (flt (hc3_2 : ¬ (cc < (65 : Int32)))).1 ?_
      show GG p e below s₁ (mkF m 6 #[.val (.int cc)] []) t
      refine XS.iloadN X0.here hx rfl (hb hby d_allowed_6) rfl ?_
      show GG p e below s₁ (mkF m 7 #[.val (.int cc)] [(.int cc)]) t
      refine XS.bipush X0.here hx rfl (hb hby d_allowed_7) ?_
      show GG p e below s₁ (mkF m 9 #[.val (.int cc)] [(.int (90 : Int32)), (.int cc)]) t
      exact kk_)
    by_cases hc9_59 : (90 : Int32) < cc
    ·
      have P60 : ∀ t, GG p e below s₁ (mkF m 15 #[.val (.int cc)] [(.int (97 : Int32)), (.int cc)]) t → Steps p.tables e below s0 t := fun t kk_ => P58 t (by
        refine XS.icmpNo X0.here hx rfl (hb hby d_allowed_9) rfl (tlt (hc9_59 : (90 : Int32) < cc)).2.2.2 ?_
        show GG p e below s₁ (mkF m 12 #[.val (.int cc)] []) t
        refine XS.iloadN X0.here hx rfl (hb hby d_allowed_12) rfl ?_
        show GG p e below s₁ (mkF m 13 #[.val (.int cc)] [(.int cc)]) t
        refine XS.bipush X0.here hx rfl (hb hby d_allowed_13) ?_
        show GG p e below s₁ (mkF m 15 #[.val (.int cc)] [(.int (97 : Int32)), (.int cc)]) t
        exact kk_)
      by_cases hc15_61 : cc < (97 : Int32)
      ·
        have P62 : ∀ t, GG p e below s₁ (mkF m 27 #[.val (.int cc)] [(.int (48 : Int32)), (.int cc)]) t → Steps p.tables e below s0 t := fun t kk_ => P60 t (by
          refine XS.icmpYes X0.here hx rfl (pc0 := 15) (pc' := 24) rfl (hb hby d_allowed_15) rfl (tlt (hc15_61 : cc < (97 : Int32))).1 (by decide) (by decide) ?_
          show GG p e below s₁ (mkF m 24 #[.val (.int cc)] []) t
          refine XS.iloadN X0.here hx rfl (hb hby d_allowed_24) rfl ?_
          show GG p e below s₁ (mkF m 25 #[.val (.int cc)] [(.int cc)]) t
          refine XS.bipush X0.here hx rfl (hb hby d_allowed_25) ?_
          show GG p e below s₁ (mkF m 27 #[.val (.int cc)] [(.int (48 : Int32)), (.int cc)]) t
          exact kk_)
        by_cases hc27_63 : cc < (48 : Int32)
        ·
          have P64 : ∀ t, GG p e below s₁ (mkF m 39 #[.val (.int cc)] [(.int (45 : Int32)), (.int cc)]) t → Steps p.tables e below s0 t := fun t kk_ => P62 t (by
            refine XS.icmpYes X0.here hx rfl (pc0 := 27) (pc' := 36) rfl (hb hby d_allowed_27) rfl (tlt (hc27_63 : cc < (48 : Int32))).1 (by decide) (by decide) ?_
            show GG p e below s₁ (mkF m 36 #[.val (.int cc)] []) t
            refine XS.iloadN X0.here hx rfl (hb hby d_allowed_36) rfl ?_
            show GG p e below s₁ (mkF m 37 #[.val (.int cc)] [(.int cc)]) t
            refine XS.bipush X0.here hx rfl (hb hby d_allowed_37) ?_
            show GG p e below s₁ (mkF m 39 #[.val (.int cc)] [(.int (45 : Int32)), (.int cc)]) t
            exact kk_)
          by_cases hc39_65 : cc = (45 : Int32)
          ·
            have P66 : ∀ t, GG p e below s₁ (mkF m 59 #[.val (.int cc)] [(.int (1 : Int32))]) t → Steps p.tables e below s0 t := fun t kk_ => P64 t (by
              refine XS.icmpYes X0.here hx rfl (pc0 := 39) (pc' := 54) rfl (hb hby d_allowed_39) rfl (teq (hc39_65 : cc = (45 : Int32))).1 (by decide) (by decide) ?_
              show GG p e below s₁ (mkF m 54 #[.val (.int cc)] []) t
              refine XS.iconst X0.here hx rfl (hb hby d_allowed_54) ?_
              show GG p e below s₁ (mkF m 55 #[.val (.int cc)] [(.int (1 : Int32))]) t
              refine XS.goto X0.here hx rfl (pc0 := 55) (pc' := 59) rfl (hb hby d_allowed_55) (by decide) (by decide) ?_
              show GG p e below s₁ (mkF m 59 #[.val (.int cc)] [(.int (1 : Int32))]) t
              exact kk_)
            subst hs0
            obtain ⟨fs, hr, hrun, hended, hW, hsame⟩ := X0.leave (v := some (.int (nar .boolean (1 : Int32)))) (fun h => by rw [Bd.returns] at h; cases h)
            refine ⟨_, _, P66 _ ?_, hrun, hended, _, _, rfl, ?_, ⟨_, rfl⟩, hW, hsame.mono (by decide) (by decide)⟩
            · show GG p e below s₁ (mkF m 59 #[.val (.int cc)] [(.int (1 : Int32))]) _
              exact retN X0 hx (t := .boolean) Bd.returns (by simp) (hb hby d_allowed_59) hr
            · show Q_allowed Z cc h0 n0 _ s₁.heap _
              rw [e0]
              exact ⟨rfl, N0, rfl⟩
          ·
            have P67 : ∀ t, GG p e below s₁ (mkF m 45 #[.val (.int cc)] [(.int (95 : Int32)), (.int cc)]) t → Steps p.tables e below s0 t := fun t kk_ => P64 t (by
              refine XS.icmpNo X0.here hx rfl (hb hby d_allowed_39) rfl (feq (hc39_65 : ¬ (cc = (45 : Int32)))).1 ?_
              show GG p e below s₁ (mkF m 42 #[.val (.int cc)] []) t
              refine XS.iloadN X0.here hx rfl (hb hby d_allowed_42) rfl ?_
              show GG p e below s₁ (mkF m 43 #[.val (.int cc)] [(.int cc)]) t
              refine XS.bipush X0.here hx rfl (hb hby d_allowed_43) ?_
              show GG p e below s₁ (mkF m 45 #[.val (.int cc)] [(.int (95 : Int32)), (.int cc)]) t
              exact kk_)
            by_cases hc45_68 : cc = (95 : Int32)
            ·
              have P69 : ∀ t, GG p e below s₁ (mkF m 59 #[.val (.int cc)] [(.int (1 : Int32))]) t → Steps p.tables e below s0 t := fun t kk_ => P67 t (by
                refine XS.icmpYes X0.here hx rfl (pc0 := 45) (pc' := 54) rfl (hb hby d_allowed_45) rfl (teq (hc45_68 : cc = (95 : Int32))).1 (by decide) (by decide) ?_
                show GG p e below s₁ (mkF m 54 #[.val (.int cc)] []) t
                refine XS.iconst X0.here hx rfl (hb hby d_allowed_54) ?_
                show GG p e below s₁ (mkF m 55 #[.val (.int cc)] [(.int (1 : Int32))]) t
                refine XS.goto X0.here hx rfl (pc0 := 55) (pc' := 59) rfl (hb hby d_allowed_55) (by decide) (by decide) ?_
                show GG p e below s₁ (mkF m 59 #[.val (.int cc)] [(.int (1 : Int32))]) t
                exact kk_)
              subst hs0
              obtain ⟨fs, hr, hrun, hended, hW, hsame⟩ := X0.leave (v := some (.int (nar .boolean (1 : Int32)))) (fun h => by rw [Bd.returns] at h; cases h)
              refine ⟨_, _, P69 _ ?_, hrun, hended, _, _, rfl, ?_, ⟨_, rfl⟩, hW, hsame.mono (by decide) (by decide)⟩
              · show GG p e below s₁ (mkF m 59 #[.val (.int cc)] [(.int (1 : Int32))]) _
                exact retN X0 hx (t := .boolean) Bd.returns (by simp) (hb hby d_allowed_59) hr
              · show Q_allowed Z cc h0 n0 _ s₁.heap _
                rw [e0]
                exact ⟨rfl, N0, rfl⟩
            ·
              have P70 : ∀ t, GG p e below s₁ (mkF m 51 #[.val (.int cc)] [(.int (46 : Int32)), (.int cc)]) t → Steps p.tables e below s0 t := fun t kk_ => P67 t (by
                refine XS.icmpNo X0.here hx rfl (hb hby d_allowed_45) rfl (feq (hc45_68 : ¬ (cc = (95 : Int32)))).1 ?_
                show GG p e below s₁ (mkF m 48 #[.val (.int cc)] []) t
                refine XS.iloadN X0.here hx rfl (hb hby d_allowed_48) rfl ?_
                show GG p e below s₁ (mkF m 49 #[.val (.int cc)] [(.int cc)]) t
                refine XS.bipush X0.here hx rfl (hb hby d_allowed_49) ?_
                show GG p e below s₁ (mkF m 51 #[.val (.int cc)] [(.int (46 : Int32)), (.int cc)]) t
                exact kk_)
              by_cases hc51_71 : cc = (46 : Int32)
              ·
                have P72 : ∀ t, GG p e below s₁ (mkF m 59 #[.val (.int cc)] [(.int (1 : Int32))]) t → Steps p.tables e below s0 t := fun t kk_ => P70 t (by
                  refine XS.icmpNo X0.here hx rfl (hb hby d_allowed_51) rfl (teq (hc51_71 : cc = (46 : Int32))).2 ?_
                  show GG p e below s₁ (mkF m 54 #[.val (.int cc)] []) t
                  refine XS.iconst X0.here hx rfl (hb hby d_allowed_54) ?_
                  show GG p e below s₁ (mkF m 55 #[.val (.int cc)] [(.int (1 : Int32))]) t
                  refine XS.goto X0.here hx rfl (pc0 := 55) (pc' := 59) rfl (hb hby d_allowed_55) (by decide) (by decide) ?_
                  show GG p e below s₁ (mkF m 59 #[.val (.int cc)] [(.int (1 : Int32))]) t
                  exact kk_)
                subst hs0
                obtain ⟨fs, hr, hrun, hended, hW, hsame⟩ := X0.leave (v := some (.int (nar .boolean (1 : Int32)))) (fun h => by rw [Bd.returns] at h; cases h)
                refine ⟨_, _, P72 _ ?_, hrun, hended, _, _, rfl, ?_, ⟨_, rfl⟩, hW, hsame.mono (by decide) (by decide)⟩
                · show GG p e below s₁ (mkF m 59 #[.val (.int cc)] [(.int (1 : Int32))]) _
                  exact retN X0 hx (t := .boolean) Bd.returns (by simp) (hb hby d_allowed_59) hr
                · show Q_allowed Z cc h0 n0 _ s₁.heap _
                  rw [e0]
                  exact ⟨rfl, N0, rfl⟩
              ·
                have P73 : ∀ t, GG p e below s₁ (mkF m 58 #[.val (.int cc)] []) t → Steps p.tables e below s0 t := fun t kk_ => P70 t (by
                  refine XS.icmpYes X0.here hx rfl (pc0 := 51) (pc' := 58) rfl (hb hby d_allowed_51) rfl (feq (hc51_71 : ¬ (cc = (46 : Int32)))).2 (by decide) (by decide) ?_
                  show GG p e below s₁ (mkF m 58 #[.val (.int cc)] []) t
                  exact kk_)
                exfalso
                simp only [okB, Bool.or_eq_true, Bool.and_eq_true, decide_eq_true_eq, beq_iff_eq, ← Int32.toInt_inj, Int32.le_iff_toInt_le] at okc
                simp only [← Int32.toInt_inj, Int32.lt_iff_toInt_lt] at hc3_2 hc9_59 hc15_61 hc27_63 hc39_65 hc45_68 hc51_71
                have e65 : (65 : Int32).toInt = 65 := rfl
                have e90 : (90 : Int32).toInt = 90 := rfl
                have e97 : (97 : Int32).toInt = 97 := rfl
                have e122 : (122 : Int32).toInt = 122 := rfl
                have e48 : (48 : Int32).toInt = 48 := rfl
                have e57 : (57 : Int32).toInt = 57 := rfl
                have e45 : (45 : Int32).toInt = 45 := rfl
                have e95 : (95 : Int32).toInt = 95 := rfl
                have e46 : (46 : Int32).toInt = 46 := rfl
                omega
        ·
          have P74 : ∀ t, GG p e below s₁ (mkF m 33 #[.val (.int cc)] [(.int (57 : Int32)), (.int cc)]) t → Steps p.tables e below s0 t := fun t kk_ => P62 t (by
            refine XS.icmpNo X0.here hx rfl (hb hby d_allowed_27) rfl (flt (hc27_63 : ¬ (cc < (48 : Int32)))).1 ?_
            show GG p e below s₁ (mkF m 30 #[.val (.int cc)] []) t
            refine XS.iloadN X0.here hx rfl (hb hby d_allowed_30) rfl ?_
            show GG p e below s₁ (mkF m 31 #[.val (.int cc)] [(.int cc)]) t
            refine XS.bipush X0.here hx rfl (hb hby d_allowed_31) ?_
            show GG p e below s₁ (mkF m 33 #[.val (.int cc)] [(.int (57 : Int32)), (.int cc)]) t
            exact kk_)
          by_cases hc33_75 : (57 : Int32) < cc
          ·
            have P76 : ∀ t, GG p e below s₁ (mkF m 39 #[.val (.int cc)] [(.int (45 : Int32)), (.int cc)]) t → Steps p.tables e below s0 t := fun t kk_ => P74 t (by
              refine XS.icmpNo X0.here hx rfl (hb hby d_allowed_33) rfl (tlt (hc33_75 : (57 : Int32) < cc)).2.2.2 ?_
              show GG p e below s₁ (mkF m 36 #[.val (.int cc)] []) t
              refine XS.iloadN X0.here hx rfl (hb hby d_allowed_36) rfl ?_
              show GG p e below s₁ (mkF m 37 #[.val (.int cc)] [(.int cc)]) t
              refine XS.bipush X0.here hx rfl (hb hby d_allowed_37) ?_
              show GG p e below s₁ (mkF m 39 #[.val (.int cc)] [(.int (45 : Int32)), (.int cc)]) t
              exact kk_)
            by_cases hc39_77 : cc = (45 : Int32)
            ·
              have P78 : ∀ t, GG p e below s₁ (mkF m 59 #[.val (.int cc)] [(.int (1 : Int32))]) t → Steps p.tables e below s0 t := fun t kk_ => P76 t (by
                refine XS.icmpYes X0.here hx rfl (pc0 := 39) (pc' := 54) rfl (hb hby d_allowed_39) rfl (teq (hc39_77 : cc = (45 : Int32))).1 (by decide) (by decide) ?_
                show GG p e below s₁ (mkF m 54 #[.val (.int cc)] []) t
                refine XS.iconst X0.here hx rfl (hb hby d_allowed_54) ?_
                show GG p e below s₁ (mkF m 55 #[.val (.int cc)] [(.int (1 : Int32))]) t
                refine XS.goto X0.here hx rfl (pc0 := 55) (pc' := 59) rfl (hb hby d_allowed_55) (by decide) (by decide) ?_
                show GG p e below s₁ (mkF m 59 #[.val (.int cc)] [(.int (1 : Int32))]) t
                exact kk_)
              subst hs0
              obtain ⟨fs, hr, hrun, hended, hW, hsame⟩ := X0.leave (v := some (.int (nar .boolean (1 : Int32)))) (fun h => by rw [Bd.returns] at h; cases h)
              refine ⟨_, _, P78 _ ?_, hrun, hended, _, _, rfl, ?_, ⟨_, rfl⟩, hW, hsame.mono (by decide) (by decide)⟩
              · show GG p e below s₁ (mkF m 59 #[.val (.int cc)] [(.int (1 : Int32))]) _
                exact retN X0 hx (t := .boolean) Bd.returns (by simp) (hb hby d_allowed_59) hr
              · show Q_allowed Z cc h0 n0 _ s₁.heap _
                rw [e0]
                exact ⟨rfl, N0, rfl⟩
            ·
              have P79 : ∀ t, GG p e below s₁ (mkF m 45 #[.val (.int cc)] [(.int (95 : Int32)), (.int cc)]) t → Steps p.tables e below s0 t := fun t kk_ => P76 t (by
                refine XS.icmpNo X0.here hx rfl (hb hby d_allowed_39) rfl (feq (hc39_77 : ¬ (cc = (45 : Int32)))).1 ?_
                show GG p e below s₁ (mkF m 42 #[.val (.int cc)] []) t
                refine XS.iloadN X0.here hx rfl (hb hby d_allowed_42) rfl ?_
                show GG p e below s₁ (mkF m 43 #[.val (.int cc)] [(.int cc)]) t
                refine XS.bipush X0.here hx rfl (hb hby d_allowed_43) ?_
                show GG p e below s₁ (mkF m 45 #[.val (.int cc)] [(.int (95 : Int32)), (.int cc)]) t
                exact kk_)
              by_cases hc45_80 : cc = (95 : Int32)
              ·
                have P81 : ∀ t, GG p e below s₁ (mkF m 59 #[.val (.int cc)] [(.int (1 : Int32))]) t → Steps p.tables e below s0 t := fun t kk_ => P79 t (by
                  refine XS.icmpYes X0.here hx rfl (pc0 := 45) (pc' := 54) rfl (hb hby d_allowed_45) rfl (teq (hc45_80 : cc = (95 : Int32))).1 (by decide) (by decide) ?_
                  show GG p e below s₁ (mkF m 54 #[.val (.int cc)] []) t
                  refine XS.iconst X0.here hx rfl (hb hby d_allowed_54) ?_
                  show GG p e below s₁ (mkF m 55 #[.val (.int cc)] [(.int (1 : Int32))]) t
                  refine XS.goto X0.here hx rfl (pc0 := 55) (pc' := 59) rfl (hb hby d_allowed_55) (by decide) (by decide) ?_
                  show GG p e below s₁ (mkF m 59 #[.val (.int cc)] [(.int (1 : Int32))]) t
                  exact kk_)
                subst hs0
                obtain ⟨fs, hr, hrun, hended, hW, hsame⟩ := X0.leave (v := some (.int (nar .boolean (1 : Int32)))) (fun h => by rw [Bd.returns] at h; cases h)
                refine ⟨_, _, P81 _ ?_, hrun, hended, _, _, rfl, ?_, ⟨_, rfl⟩, hW, hsame.mono (by decide) (by decide)⟩
                · show GG p e below s₁ (mkF m 59 #[.val (.int cc)] [(.int (1 : Int32))]) _
                  exact retN X0 hx (t := .boolean) Bd.returns (by simp) (hb hby d_allowed_59) hr
                · show Q_allowed Z cc h0 n0 _ s₁.heap _
                  rw [e0]
                  exact ⟨rfl, N0, rfl⟩
              ·
                have P82 : ∀ t, GG p e below s₁ (mkF m 51 #[.val (.int cc)] [(.int (46 : Int32)), (.int cc)]) t → Steps p.tables e below s0 t := fun t kk_ => P79 t (by
                  refine XS.icmpNo X0.here hx rfl (hb hby d_allowed_45) rfl (feq (hc45_80 : ¬ (cc = (95 : Int32)))).1 ?_
                  show GG p e below s₁ (mkF m 48 #[.val (.int cc)] []) t
                  refine XS.iloadN X0.here hx rfl (hb hby d_allowed_48) rfl ?_
                  show GG p e below s₁ (mkF m 49 #[.val (.int cc)] [(.int cc)]) t
                  refine XS.bipush X0.here hx rfl (hb hby d_allowed_49) ?_
                  show GG p e below s₁ (mkF m 51 #[.val (.int cc)] [(.int (46 : Int32)), (.int cc)]) t
                  exact kk_)
                by_cases hc51_83 : cc = (46 : Int32)
                ·
                  have P84 : ∀ t, GG p e below s₁ (mkF m 59 #[.val (.int cc)] [(.int (1 : Int32))]) t → Steps p.tables e below s0 t := fun t kk_ => P82 t (by
                    refine XS.icmpNo X0.here hx rfl (hb hby d_allowed_51) rfl (teq (hc51_83 : cc = (46 : Int32))).2 ?_
                    show GG p e below s₁ (mkF m 54 #[.val (.int cc)] []) t
                    refine XS.iconst X0.here hx rfl (hb hby d_allowed_54) ?_
                    show GG p e below s₁ (mkF m 55 #[.val (.int cc)] [(.int (1 : Int32))]) t
                    refine XS.goto X0.here hx rfl (pc0 := 55) (pc' := 59) rfl (hb hby d_allowed_55) (by decide) (by decide) ?_
                    show GG p e below s₁ (mkF m 59 #[.val (.int cc)] [(.int (1 : Int32))]) t
                    exact kk_)
                  subst hs0
                  obtain ⟨fs, hr, hrun, hended, hW, hsame⟩ := X0.leave (v := some (.int (nar .boolean (1 : Int32)))) (fun h => by rw [Bd.returns] at h; cases h)
                  refine ⟨_, _, P84 _ ?_, hrun, hended, _, _, rfl, ?_, ⟨_, rfl⟩, hW, hsame.mono (by decide) (by decide)⟩
                  · show GG p e below s₁ (mkF m 59 #[.val (.int cc)] [(.int (1 : Int32))]) _
                    exact retN X0 hx (t := .boolean) Bd.returns (by simp) (hb hby d_allowed_59) hr
                  · show Q_allowed Z cc h0 n0 _ s₁.heap _
                    rw [e0]
                    exact ⟨rfl, N0, rfl⟩
                ·
                  have P85 : ∀ t, GG p e below s₁ (mkF m 58 #[.val (.int cc)] []) t → Steps p.tables e below s0 t := fun t kk_ => P82 t (by
                    refine XS.icmpYes X0.here hx rfl (pc0 := 51) (pc' := 58) rfl (hb hby d_allowed_51) rfl (feq (hc51_83 : ¬ (cc = (46 : Int32)))).2 (by decide) (by decide) ?_
                    show GG p e below s₁ (mkF m 58 #[.val (.int cc)] []) t
                    exact kk_)
                  exfalso
                  simp only [okB, Bool.or_eq_true, Bool.and_eq_true, decide_eq_true_eq, beq_iff_eq, ← Int32.toInt_inj, Int32.le_iff_toInt_le] at okc
                  simp only [← Int32.toInt_inj, Int32.lt_iff_toInt_lt] at hc3_2 hc9_59 hc15_61 hc27_63 hc33_75 hc39_77 hc45_80 hc51_83
                  have e65 : (65 : Int32).toInt = 65 := rfl
                  have e90 : (90 : Int32).toInt = 90 := rfl
                  have e97 : (97 : Int32).toInt = 97 := rfl
                  have e122 : (122 : Int32).toInt = 122 := rfl
                  have e48 : (48 : Int32).toInt = 48 := rfl
                  have e57 : (57 : Int32).toInt = 57 := rfl
                  have e45 : (45 : Int32).toInt = 45 := rfl
                  have e95 : (95 : Int32).toInt = 95 := rfl
                  have e46 : (46 : Int32).toInt = 46 := rfl
                  omega
          ·
            have P86 : ∀ t, GG p e below s₁ (mkF m 59 #[.val (.int cc)] [(.int (1 : Int32))]) t → Steps p.tables e below s0 t := fun t kk_ => P74 t (by
              refine XS.icmpYes X0.here hx rfl (pc0 := 33) (pc' := 54) rfl (hb hby d_allowed_33) rfl (flt (hc33_75 : ¬ ((57 : Int32) < cc))).2.2.2 (by decide) (by decide) ?_
              show GG p e below s₁ (mkF m 54 #[.val (.int cc)] []) t
              refine XS.iconst X0.here hx rfl (hb hby d_allowed_54) ?_
              show GG p e below s₁ (mkF m 55 #[.val (.int cc)] [(.int (1 : Int32))]) t
              refine XS.goto X0.here hx rfl (pc0 := 55) (pc' := 59) rfl (hb hby d_allowed_55) (by decide) (by decide) ?_
              show GG p e below s₁ (mkF m 59 #[.val (.int cc)] [(.int (1 : Int32))]) t
              exact kk_)
            subst hs0
            obtain ⟨fs, hr, hrun, hended, hW, hsame⟩ := X0.leave (v := some (.int (nar .boolean (1 : Int32)))) (fun h => by rw [Bd.returns] at h; cases h)
            refine ⟨_, _, P86 _ ?_, hrun, hended, _, _, rfl, ?_, ⟨_, rfl⟩, hW, hsame.mono (by decide) (by decide)⟩
            · show GG p e below s₁ (mkF m 59 #[.val (.int cc)] [(.int (1 : Int32))]) _
              exact retN X0 hx (t := .boolean) Bd.returns (by simp) (hb hby d_allowed_59) hr
            · show Q_allowed Z cc h0 n0 _ s₁.heap _
              rw [e0]
              exact ⟨rfl, N0, rfl⟩
      ·
        have P87 : ∀ t, GG p e below s₁ (mkF m 21 #[.val (.int cc)] [(.int (122 : Int32)), (.int cc)]) t → Steps p.tables e below s0 t := fun t kk_ => P60 t (by
          refine XS.icmpNo X0.here hx rfl (hb hby d_allowed_15) rfl (flt (hc15_61 : ¬ (cc < (97 : Int32)))).1 ?_
          show GG p e below s₁ (mkF m 18 #[.val (.int cc)] []) t
          refine XS.iloadN X0.here hx rfl (hb hby d_allowed_18) rfl ?_
          show GG p e below s₁ (mkF m 19 #[.val (.int cc)] [(.int cc)]) t
          refine XS.bipush X0.here hx rfl (hb hby d_allowed_19) ?_
          show GG p e below s₁ (mkF m 21 #[.val (.int cc)] [(.int (122 : Int32)), (.int cc)]) t
          exact kk_)
        by_cases hc21_88 : (122 : Int32) < cc
        ·
          have P89 : ∀ t, GG p e below s₁ (mkF m 27 #[.val (.int cc)] [(.int (48 : Int32)), (.int cc)]) t → Steps p.tables e below s0 t := fun t kk_ => P87 t (by
            refine XS.icmpNo X0.here hx rfl (hb hby d_allowed_21) rfl (tlt (hc21_88 : (122 : Int32) < cc)).2.2.2 ?_
            show GG p e below s₁ (mkF m 24 #[.val (.int cc)] []) t
            refine XS.iloadN X0.here hx rfl (hb hby d_allowed_24) rfl ?_
            show GG p e below s₁ (mkF m 25 #[.val (.int cc)] [(.int cc)]) t
            refine XS.bipush X0.here hx rfl (hb hby d_allowed_25) ?_
            show GG p e below s₁ (mkF m 27 #[.val (.int cc)] [(.int (48 : Int32)), (.int cc)]) t
            exact kk_)
          by_cases hc27_90 : cc < (48 : Int32)
          ·
            have P91 : ∀ t, GG p e below s₁ (mkF m 39 #[.val (.int cc)] [(.int (45 : Int32)), (.int cc)]) t → Steps p.tables e below s0 t := fun t kk_ => P89 t (by
              refine XS.icmpYes X0.here hx rfl (pc0 := 27) (pc' := 36) rfl (hb hby d_allowed_27) rfl (tlt (hc27_90 : cc < (48 : Int32))).1 (by decide) (by decide) ?_
              show GG p e below s₁ (mkF m 36 #[.val (.int cc)] []) t
              refine XS.iloadN X0.here hx rfl (hb hby d_allowed_36) rfl ?_
              show GG p e below s₁ (mkF m 37 #[.val (.int cc)] [(.int cc)]) t
              refine XS.bipush X0.here hx rfl (hb hby d_allowed_37) ?_
              show GG p e below s₁ (mkF m 39 #[.val (.int cc)] [(.int (45 : Int32)), (.int cc)]) t
              exact kk_)
            by_cases hc39_92 : cc = (45 : Int32)
            ·
              have P93 : ∀ t, GG p e below s₁ (mkF m 59 #[.val (.int cc)] [(.int (1 : Int32))]) t → Steps p.tables e below s0 t := fun t kk_ => P91 t (by
                refine XS.icmpYes X0.here hx rfl (pc0 := 39) (pc' := 54) rfl (hb hby d_allowed_39) rfl (teq (hc39_92 : cc = (45 : Int32))).1 (by decide) (by decide) ?_
                show GG p e below s₁ (mkF m 54 #[.val (.int cc)] []) t
                refine XS.iconst X0.here hx rfl (hb hby d_allowed_54) ?_
                show GG p e below s₁ (mkF m 55 #[.val (.int cc)] [(.int (1 : Int32))]) t
                refine XS.goto X0.here hx rfl (pc0 := 55) (pc' := 59) rfl (hb hby d_allowed_55) (by decide) (by decide) ?_
                show GG p e below s₁ (mkF m 59 #[.val (.int cc)] [(.int (1 : Int32))]) t
                exact kk_)
              subst hs0
              obtain ⟨fs, hr, hrun, hended, hW, hsame⟩ := X0.leave (v := some (.int (nar .boolean (1 : Int32)))) (fun h => by rw [Bd.returns] at h; cases h)
              refine ⟨_, _, P93 _ ?_, hrun, hended, _, _, rfl, ?_, ⟨_, rfl⟩, hW, hsame.mono (by decide) (by decide)⟩
              · show GG p e below s₁ (mkF m 59 #[.val (.int cc)] [(.int (1 : Int32))]) _
                exact retN X0 hx (t := .boolean) Bd.returns (by simp) (hb hby d_allowed_59) hr
              · show Q_allowed Z cc h0 n0 _ s₁.heap _
                rw [e0]
                exact ⟨rfl, N0, rfl⟩
            ·
              have P94 : ∀ t, GG p e below s₁ (mkF m 45 #[.val (.int cc)] [(.int (95 : Int32)), (.int cc)]) t → Steps p.tables e below s0 t := fun t kk_ => P91 t (by
                refine XS.icmpNo X0.here hx rfl (hb hby d_allowed_39) rfl (feq (hc39_92 : ¬ (cc = (45 : Int32)))).1 ?_
                show GG p e below s₁ (mkF m 42 #[.val (.int cc)] []) t
                refine XS.iloadN X0.here hx rfl (hb hby d_allowed_42) rfl ?_
                show GG p e below s₁ (mkF m 43 #[.val (.int cc)] [(.int cc)]) t
                refine XS.bipush X0.here hx rfl (hb hby d_allowed_43) ?_
                show GG p e below s₁ (mkF m 45 #[.val (.int cc)] [(.int (95 : Int32)), (.int cc)]) t
                exact kk_)
              by_cases hc45_95 : cc = (95 : Int32)
              ·
                have P96 : ∀ t, GG p e below s₁ (mkF m 59 #[.val (.int cc)] [(.int (1 : Int32))]) t → Steps p.tables e below s0 t := fun t kk_ => P94 t (by
                  refine XS.icmpYes X0.here hx rfl (pc0 := 45) (pc' := 54) rfl (hb hby d_allowed_45) rfl (teq (hc45_95 : cc = (95 : Int32))).1 (by decide) (by decide) ?_
                  show GG p e below s₁ (mkF m 54 #[.val (.int cc)] []) t
                  refine XS.iconst X0.here hx rfl (hb hby d_allowed_54) ?_
                  show GG p e below s₁ (mkF m 55 #[.val (.int cc)] [(.int (1 : Int32))]) t
                  refine XS.goto X0.here hx rfl (pc0 := 55) (pc' := 59) rfl (hb hby d_allowed_55) (by decide) (by decide) ?_
                  show GG p e below s₁ (mkF m 59 #[.val (.int cc)] [(.int (1 : Int32))]) t
                  exact kk_)
                subst hs0
                obtain ⟨fs, hr, hrun, hended, hW, hsame⟩ := X0.leave (v := some (.int (nar .boolean (1 : Int32)))) (fun h => by rw [Bd.returns] at h; cases h)
                refine ⟨_, _, P96 _ ?_, hrun, hended, _, _, rfl, ?_, ⟨_, rfl⟩, hW, hsame.mono (by decide) (by decide)⟩
                · show GG p e below s₁ (mkF m 59 #[.val (.int cc)] [(.int (1 : Int32))]) _
                  exact retN X0 hx (t := .boolean) Bd.returns (by simp) (hb hby d_allowed_59) hr
                · show Q_allowed Z cc h0 n0 _ s₁.heap _
                  rw [e0]
                  exact ⟨rfl, N0, rfl⟩
              ·
                have P97 : ∀ t, GG p e below s₁ (mkF m 51 #[.val (.int cc)] [(.int (46 : Int32)), (.int cc)]) t → Steps p.tables e below s0 t := fun t kk_ => P94 t (by
                  refine XS.icmpNo X0.here hx rfl (hb hby d_allowed_45) rfl (feq (hc45_95 : ¬ (cc = (95 : Int32)))).1 ?_
                  show GG p e below s₁ (mkF m 48 #[.val (.int cc)] []) t
                  refine XS.iloadN X0.here hx rfl (hb hby d_allowed_48) rfl ?_
                  show GG p e below s₁ (mkF m 49 #[.val (.int cc)] [(.int cc)]) t
                  refine XS.bipush X0.here hx rfl (hb hby d_allowed_49) ?_
                  show GG p e below s₁ (mkF m 51 #[.val (.int cc)] [(.int (46 : Int32)), (.int cc)]) t
                  exact kk_)
                by_cases hc51_98 : cc = (46 : Int32)
                ·
                  have P99 : ∀ t, GG p e below s₁ (mkF m 59 #[.val (.int cc)] [(.int (1 : Int32))]) t → Steps p.tables e below s0 t := fun t kk_ => P97 t (by
                    refine XS.icmpNo X0.here hx rfl (hb hby d_allowed_51) rfl (teq (hc51_98 : cc = (46 : Int32))).2 ?_
                    show GG p e below s₁ (mkF m 54 #[.val (.int cc)] []) t
                    refine XS.iconst X0.here hx rfl (hb hby d_allowed_54) ?_
                    show GG p e below s₁ (mkF m 55 #[.val (.int cc)] [(.int (1 : Int32))]) t
                    refine XS.goto X0.here hx rfl (pc0 := 55) (pc' := 59) rfl (hb hby d_allowed_55) (by decide) (by decide) ?_
                    show GG p e below s₁ (mkF m 59 #[.val (.int cc)] [(.int (1 : Int32))]) t
                    exact kk_)
                  subst hs0
                  obtain ⟨fs, hr, hrun, hended, hW, hsame⟩ := X0.leave (v := some (.int (nar .boolean (1 : Int32)))) (fun h => by rw [Bd.returns] at h; cases h)
                  refine ⟨_, _, P99 _ ?_, hrun, hended, _, _, rfl, ?_, ⟨_, rfl⟩, hW, hsame.mono (by decide) (by decide)⟩
                  · show GG p e below s₁ (mkF m 59 #[.val (.int cc)] [(.int (1 : Int32))]) _
                    exact retN X0 hx (t := .boolean) Bd.returns (by simp) (hb hby d_allowed_59) hr
                  · show Q_allowed Z cc h0 n0 _ s₁.heap _
                    rw [e0]
                    exact ⟨rfl, N0, rfl⟩
                ·
                  have P100 : ∀ t, GG p e below s₁ (mkF m 58 #[.val (.int cc)] []) t → Steps p.tables e below s0 t := fun t kk_ => P97 t (by
                    refine XS.icmpYes X0.here hx rfl (pc0 := 51) (pc' := 58) rfl (hb hby d_allowed_51) rfl (feq (hc51_98 : ¬ (cc = (46 : Int32)))).2 (by decide) (by decide) ?_
                    show GG p e below s₁ (mkF m 58 #[.val (.int cc)] []) t
                    exact kk_)
                  exfalso
                  simp only [okB, Bool.or_eq_true, Bool.and_eq_true, decide_eq_true_eq, beq_iff_eq, ← Int32.toInt_inj, Int32.le_iff_toInt_le] at okc
                  simp only [← Int32.toInt_inj, Int32.lt_iff_toInt_lt] at hc3_2 hc9_59 hc15_61 hc21_88 hc27_90 hc39_92 hc45_95 hc51_98
                  have e65 : (65 : Int32).toInt = 65 := rfl
                  have e90 : (90 : Int32).toInt = 90 := rfl
                  have e97 : (97 : Int32).toInt = 97 := rfl
                  have e122 : (122 : Int32).toInt = 122 := rfl
                  have e48 : (48 : Int32).toInt = 48 := rfl
                  have e57 : (57 : Int32).toInt = 57 := rfl
                  have e45 : (45 : Int32).toInt = 45 := rfl
                  have e95 : (95 : Int32).toInt = 95 := rfl
                  have e46 : (46 : Int32).toInt = 46 := rfl
                  omega
          ·
            have P101 : ∀ t, GG p e below s₁ (mkF m 33 #[.val (.int cc)] [(.int (57 : Int32)), (.int cc)]) t → Steps p.tables e below s0 t := fun t kk_ => P89 t (by
              refine XS.icmpNo X0.here hx rfl (hb hby d_allowed_27) rfl (flt (hc27_90 : ¬ (cc < (48 : Int32)))).1 ?_
              show GG p e below s₁ (mkF m 30 #[.val (.int cc)] []) t
              refine XS.iloadN X0.here hx rfl (hb hby d_allowed_30) rfl ?_
              show GG p e below s₁ (mkF m 31 #[.val (.int cc)] [(.int cc)]) t
              refine XS.bipush X0.here hx rfl (hb hby d_allowed_31) ?_
              show GG p e below s₁ (mkF m 33 #[.val (.int cc)] [(.int (57 : Int32)), (.int cc)]) t
              exact kk_)
            by_cases hc33_102 : (57 : Int32) < cc
            ·
              have P103 : ∀ t, GG p e below s₁ (mkF m 39 #[.val (.int cc)] [(.int (45 : Int32)), (.int cc)]) t → Steps p.tables e below s0 t := fun t kk_ => P101 t (by
                refine XS.icmpNo X0.here hx rfl (hb hby d_allowed_33) rfl (tlt (hc33_102 : (57 : Int32) < cc)).2.2.2 ?_
                show GG p e below s₁ (mkF m 36 #[.val (.int cc)] []) t
                refine XS.iloadN X0.here hx rfl (hb hby d_allowed_36) rfl ?_
                show GG p e below s₁ (mkF m 37 #[.val (.int cc)] [(.int cc)]) t
                refine XS.bipush X0.here hx rfl (hb hby d_allowed_37) ?_
                show GG p e below s₁ (mkF m 39 #[.val (.int cc)] [(.int (45 : Int32)), (.int cc)]) t
                exact kk_)
              by_cases hc39_104 : cc = (45 : Int32)
              ·
                have P105 : ∀ t, GG p e below s₁ (mkF m 59 #[.val (.int cc)] [(.int (1 : Int32))]) t → Steps p.tables e below s0 t := fun t kk_ => P103 t (by
                  refine XS.icmpYes X0.here hx rfl (pc0 := 39) (pc' := 54) rfl (hb hby d_allowed_39) rfl (teq (hc39_104 : cc = (45 : Int32))).1 (by decide) (by decide) ?_
                  show GG p e below s₁ (mkF m 54 #[.val (.int cc)] []) t
                  refine XS.iconst X0.here hx rfl (hb hby d_allowed_54) ?_
                  show GG p e below s₁ (mkF m 55 #[.val (.int cc)] [(.int (1 : Int32))]) t
                  refine XS.goto X0.here hx rfl (pc0 := 55) (pc' := 59) rfl (hb hby d_allowed_55) (by decide) (by decide) ?_
                  show GG p e below s₁ (mkF m 59 #[.val (.int cc)] [(.int (1 : Int32))]) t
                  exact kk_)
                subst hs0
                obtain ⟨fs, hr, hrun, hended, hW, hsame⟩ := X0.leave (v := some (.int (nar .boolean (1 : Int32)))) (fun h => by rw [Bd.returns] at h; cases h)
                refine ⟨_, _, P105 _ ?_, hrun, hended, _, _, rfl, ?_, ⟨_, rfl⟩, hW, hsame.mono (by decide) (by decide)⟩
                · show GG p e below s₁ (mkF m 59 #[.val (.int cc)] [(.int (1 : Int32))]) _
                  exact retN X0 hx (t := .boolean) Bd.returns (by simp) (hb hby d_allowed_59) hr
                · show Q_allowed Z cc h0 n0 _ s₁.heap _
                  rw [e0]
                  exact ⟨rfl, N0, rfl⟩
              ·
                have P106 : ∀ t, GG p e below s₁ (mkF m 45 #[.val (.int cc)] [(.int (95 : Int32)), (.int cc)]) t → Steps p.tables e below s0 t := fun t kk_ => P103 t (by
                  refine XS.icmpNo X0.here hx rfl (hb hby d_allowed_39) rfl (feq (hc39_104 : ¬ (cc = (45 : Int32)))).1 ?_
                  show GG p e below s₁ (mkF m 42 #[.val (.int cc)] []) t
                  refine XS.iloadN X0.here hx rfl (hb hby d_allowed_42) rfl ?_
                  show GG p e below s₁ (mkF m 43 #[.val (.int cc)] [(.int cc)]) t
                  refine XS.bipush X0.here hx rfl (hb hby d_allowed_43) ?_
                  show GG p e below s₁ (mkF m 45 #[.val (.int cc)] [(.int (95 : Int32)), (.int cc)]) t
                  exact kk_)
                by_cases hc45_107 : cc = (95 : Int32)
                ·
                  have P108 : ∀ t, GG p e below s₁ (mkF m 59 #[.val (.int cc)] [(.int (1 : Int32))]) t → Steps p.tables e below s0 t := fun t kk_ => P106 t (by
                    refine XS.icmpYes X0.here hx rfl (pc0 := 45) (pc' := 54) rfl (hb hby d_allowed_45) rfl (teq (hc45_107 : cc = (95 : Int32))).1 (by decide) (by decide) ?_
                    show GG p e below s₁ (mkF m 54 #[.val (.int cc)] []) t
                    refine XS.iconst X0.here hx rfl (hb hby d_allowed_54) ?_
                    show GG p e below s₁ (mkF m 55 #[.val (.int cc)] [(.int (1 : Int32))]) t
                    refine XS.goto X0.here hx rfl (pc0 := 55) (pc' := 59) rfl (hb hby d_allowed_55) (by decide) (by decide) ?_
                    show GG p e below s₁ (mkF m 59 #[.val (.int cc)] [(.int (1 : Int32))]) t
                    exact kk_)
                  subst hs0
                  obtain ⟨fs, hr, hrun, hended, hW, hsame⟩ := X0.leave (v := some (.int (nar .boolean (1 : Int32)))) (fun h => by rw [Bd.returns] at h; cases h)
                  refine ⟨_, _, P108 _ ?_, hrun, hended, _, _, rfl, ?_, ⟨_, rfl⟩, hW, hsame.mono (by decide) (by decide)⟩
                  · show GG p e below s₁ (mkF m 59 #[.val (.int cc)] [(.int (1 : Int32))]) _
                    exact retN X0 hx (t := .boolean) Bd.returns (by simp) (hb hby d_allowed_59) hr
                  · show Q_allowed Z cc h0 n0 _ s₁.heap _
                    rw [e0]
                    exact ⟨rfl, N0, rfl⟩
                ·
                  have P109 : ∀ t, GG p e below s₁ (mkF m 51 #[.val (.int cc)] [(.int (46 : Int32)), (.int cc)]) t → Steps p.tables e below s0 t := fun t kk_ => P106 t (by
                    refine XS.icmpNo X0.here hx rfl (hb hby d_allowed_45) rfl (feq (hc45_107 : ¬ (cc = (95 : Int32)))).1 ?_
                    show GG p e below s₁ (mkF m 48 #[.val (.int cc)] []) t
                    refine XS.iloadN X0.here hx rfl (hb hby d_allowed_48) rfl ?_
                    show GG p e below s₁ (mkF m 49 #[.val (.int cc)] [(.int cc)]) t
                    refine XS.bipush X0.here hx rfl (hb hby d_allowed_49) ?_
                    show GG p e below s₁ (mkF m 51 #[.val (.int cc)] [(.int (46 : Int32)), (.int cc)]) t
                    exact kk_)
                  by_cases hc51_110 : cc = (46 : Int32)
                  ·
                    have P111 : ∀ t, GG p e below s₁ (mkF m 59 #[.val (.int cc)] [(.int (1 : Int32))]) t → Steps p.tables e below s0 t := fun t kk_ => P109 t (by
                      refine XS.icmpNo X0.here hx rfl (hb hby d_allowed_51) rfl (teq (hc51_110 : cc = (46 : Int32))).2 ?_
                      show GG p e below s₁ (mkF m 54 #[.val (.int cc)] []) t
                      refine XS.iconst X0.here hx rfl (hb hby d_allowed_54) ?_
                      show GG p e below s₁ (mkF m 55 #[.val (.int cc)] [(.int (1 : Int32))]) t
                      refine XS.goto X0.here hx rfl (pc0 := 55) (pc' := 59) rfl (hb hby d_allowed_55) (by decide) (by decide) ?_
                      show GG p e below s₁ (mkF m 59 #[.val (.int cc)] [(.int (1 : Int32))]) t
                      exact kk_)
                    subst hs0
                    obtain ⟨fs, hr, hrun, hended, hW, hsame⟩ := X0.leave (v := some (.int (nar .boolean (1 : Int32)))) (fun h => by rw [Bd.returns] at h; cases h)
                    refine ⟨_, _, P111 _ ?_, hrun, hended, _, _, rfl, ?_, ⟨_, rfl⟩, hW, hsame.mono (by decide) (by decide)⟩
                    · show GG p e below s₁ (mkF m 59 #[.val (.int cc)] [(.int (1 : Int32))]) _
                      exact retN X0 hx (t := .boolean) Bd.returns (by simp) (hb hby d_allowed_59) hr
                    · show Q_allowed Z cc h0 n0 _ s₁.heap _
                      rw [e0]
                      exact ⟨rfl, N0, rfl⟩
                  ·
                    have P112 : ∀ t, GG p e below s₁ (mkF m 58 #[.val (.int cc)] []) t → Steps p.tables e below s0 t := fun t kk_ => P109 t (by
                      refine XS.icmpYes X0.here hx rfl (pc0 := 51) (pc' := 58) rfl (hb hby d_allowed_51) rfl (feq (hc51_110 : ¬ (cc = (46 : Int32)))).2 (by decide) (by decide) ?_
                      show GG p e below s₁ (mkF m 58 #[.val (.int cc)] []) t
                      exact kk_)
                    exfalso
                    simp only [okB, Bool.or_eq_true, Bool.and_eq_true, decide_eq_true_eq, beq_iff_eq, ← Int32.toInt_inj, Int32.le_iff_toInt_le] at okc
                    simp only [← Int32.toInt_inj, Int32.lt_iff_toInt_lt] at hc3_2 hc9_59 hc15_61 hc21_88 hc27_90 hc33_102 hc39_104 hc45_107 hc51_110
                    have e65 : (65 : Int32).toInt = 65 := rfl
                    have e90 : (90 : Int32).toInt = 90 := rfl
                    have e97 : (97 : Int32).toInt = 97 := rfl
                    have e122 : (122 : Int32).toInt = 122 := rfl
                    have e48 : (48 : Int32).toInt = 48 := rfl
                    have e57 : (57 : Int32).toInt = 57 := rfl
                    have e45 : (45 : Int32).toInt = 45 := rfl
                    have e95 : (95 : Int32).toInt = 95 := rfl
                    have e46 : (46 : Int32).toInt = 46 := rfl
                    omega
            ·
              have P113 : ∀ t, GG p e below s₁ (mkF m 59 #[.val (.int cc)] [(.int (1 : Int32))]) t → Steps p.tables e below s0 t := fun t kk_ => P101 t (by
                refine XS.icmpYes X0.here hx rfl (pc0 := 33) (pc' := 54) rfl (hb hby d_allowed_33) rfl (flt (hc33_102 : ¬ ((57 : Int32) < cc))).2.2.2 (by decide) (by decide) ?_
                show GG p e below s₁ (mkF m 54 #[.val (.int cc)] []) t
                refine XS.iconst X0.here hx rfl (hb hby d_allowed_54) ?_
                show GG p e below s₁ (mkF m 55 #[.val (.int cc)] [(.int (1 : Int32))]) t
                refine XS.goto X0.here hx rfl (pc0 := 55) (pc' := 59) rfl (hb hby d_allowed_55) (by decide) (by decide) ?_
                show GG p e below s₁ (mkF m 59 #[.val (.int cc)] [(.int (1 : Int32))]) t
                exact kk_)
              subst hs0
              obtain ⟨fs, hr, hrun, hended, hW, hsame⟩ := X0.leave (v := some (.int (nar .boolean (1 : Int32)))) (fun h => by rw [Bd.returns] at h; cases h)
              refine ⟨_, _, P113 _ ?_, hrun, hended, _, _, rfl, ?_, ⟨_, rfl⟩, hW, hsame.mono (by decide) (by decide)⟩
              · show GG p e below s₁ (mkF m 59 #[.val (.int cc)] [(.int (1 : Int32))]) _
                exact retN X0 hx (t := .boolean) Bd.returns (by simp) (hb hby d_allowed_59) hr
              · show Q_allowed Z cc h0 n0 _ s₁.heap _
                rw [e0]
                exact ⟨rfl, N0, rfl⟩
        ·
          have P114 : ∀ t, GG p e below s₁ (mkF m 59 #[.val (.int cc)] [(.int (1 : Int32))]) t → Steps p.tables e below s0 t := fun t kk_ => P87 t (by
            refine XS.icmpYes X0.here hx rfl (pc0 := 21) (pc' := 54) rfl (hb hby d_allowed_21) rfl (flt (hc21_88 : ¬ ((122 : Int32) < cc))).2.2.2 (by decide) (by decide) ?_
            show GG p e below s₁ (mkF m 54 #[.val (.int cc)] []) t
            refine XS.iconst X0.here hx rfl (hb hby d_allowed_54) ?_
            show GG p e below s₁ (mkF m 55 #[.val (.int cc)] [(.int (1 : Int32))]) t
            refine XS.goto X0.here hx rfl (pc0 := 55) (pc' := 59) rfl (hb hby d_allowed_55) (by decide) (by decide) ?_
            show GG p e below s₁ (mkF m 59 #[.val (.int cc)] [(.int (1 : Int32))]) t
            exact kk_)
          subst hs0
          obtain ⟨fs, hr, hrun, hended, hW, hsame⟩ := X0.leave (v := some (.int (nar .boolean (1 : Int32)))) (fun h => by rw [Bd.returns] at h; cases h)
          refine ⟨_, _, P114 _ ?_, hrun, hended, _, _, rfl, ?_, ⟨_, rfl⟩, hW, hsame.mono (by decide) (by decide)⟩
          · show GG p e below s₁ (mkF m 59 #[.val (.int cc)] [(.int (1 : Int32))]) _
            exact retN X0 hx (t := .boolean) Bd.returns (by simp) (hb hby d_allowed_59) hr
          · show Q_allowed Z cc h0 n0 _ s₁.heap _
            rw [e0]
            exact ⟨rfl, N0, rfl⟩
    ·
      have P115 : ∀ t, GG p e below s₁ (mkF m 59 #[.val (.int cc)] [(.int (1 : Int32))]) t → Steps p.tables e below s0 t := fun t kk_ => P58 t (by
        refine XS.icmpYes X0.here hx rfl (pc0 := 9) (pc' := 54) rfl (hb hby d_allowed_9) rfl (flt (hc9_59 : ¬ ((90 : Int32) < cc))).2.2.2 (by decide) (by decide) ?_
        show GG p e below s₁ (mkF m 54 #[.val (.int cc)] []) t
        refine XS.iconst X0.here hx rfl (hb hby d_allowed_54) ?_
        show GG p e below s₁ (mkF m 55 #[.val (.int cc)] [(.int (1 : Int32))]) t
        refine XS.goto X0.here hx rfl (pc0 := 55) (pc' := 59) rfl (hb hby d_allowed_55) (by decide) (by decide) ?_
        show GG p e below s₁ (mkF m 59 #[.val (.int cc)] [(.int (1 : Int32))]) t
        exact kk_)
      subst hs0
      obtain ⟨fs, hr, hrun, hended, hW, hsame⟩ := X0.leave (v := some (.int (nar .boolean (1 : Int32)))) (fun h => by rw [Bd.returns] at h; cases h)
      refine ⟨_, _, P115 _ ?_, hrun, hended, _, _, rfl, ?_, ⟨_, rfl⟩, hW, hsame.mono (by decide) (by decide)⟩
      · show GG p e below s₁ (mkF m 59 #[.val (.int cc)] [(.int (1 : Int32))]) _
        exact retN X0 hx (t := .boolean) Bd.returns (by simp) (hb hby d_allowed_59) hr
      · show Q_allowed Z cc h0 n0 _ s₁.heap _
        rw [e0]
        exact ⟨rfl, N0, rfl⟩
theorem ef_equals (m : MethodId) (x0 : Addr) (x1 : Addr) : entryFrame m #[(.ref x0), (.ref x1)] 3 = mkF m 0 #[.val (.ref x0), .val (.ref x1), .unset] [] := by first | (simp [entryFrame, mkF, argsToLocals, Value.category]; done) | rfl
theorem d_equals_0 : decode jdk_42_method_66_code 0 = .ok (.aload_n 0, 1) := by decide +kernel
theorem d_equals_1 : decode jdk_42_method_66_code 1 = .ok (.aload_n 1, 1) := by decide +kernel
theorem d_equals_2 : decode jdk_42_method_66_code 2 = .ok (.if_acmp .ne 5, 3) := by decide +kernel
theorem d_equals_5 : decode jdk_42_method_66_code 5 = .ok (.iconst 1, 1) := by decide +kernel
theorem d_equals_6 : decode jdk_42_method_66_code 6 = .ok (.ireturn, 1) := by decide +kernel
def Q_equals (Z : State) (xs : Addr) (h0 : Heap) (n0 : Nat) (v : Option Value) (h : Heap) (L : List Loc) : Prop := v = some (.int (1 : Int32)) ∧ Fr n0 L ∧ h = h0
set_option maxRecDepth 65536 in
set_option maxHeartbeats 40000000 in
theorem rm_equals (l : Launch) (Z : State) (a0 : Array Value) (hw : ∀ d ∈ tables_1, d.before a0 Z = true) (ws : List Jvm.Cond) (xs : Addr) (h0 : Heap) (n0 : Nat) (Z0 : n0 ≤ h0.size) :
    MetFree l (⟨"java/lang/String", "equals", "(Ljava/lang/Object;)Z"⟩ : MethodName) (head1 (Jvm.Cond.code (⟨"java/lang/String", "equals", "(Ljava/lang/Object;)Z"⟩ : MethodName) jdk_42_method_66_code 3 (some .boolean) :: ws) ({ frames := 0, cells := 0, slots := 0, locals := 0 } : Room)) (fun a U => a = #[(.ref xs), (.ref xs)] ∧ Z.Warmed39 U.vm ∧ U.heap = h0) (fun _ _ _ _ _ => True) (fun _ U o U' => ∃ v L, o = .returned v ∧ Q_equals Z xs h0 n0 v U'.heap L ∧ FrameEnd U o U' L ({ frames := 0, cells := 0, slots := 0, locals := 0 } : Room).cells ({ frames := 0, cells := 0, slots := 0, locals := 0 } : Room).slots) := by
  refine MetFree.of_bodySF (plainFor_of_name pn_2) hisR ?_
  intro p e s m args below meth c s₁ Bd hml0 hP hK
  obtain ⟨rfl, hZ, hh⟩ := hP
  have hx := Bd.exec
  have hby := Bd.bytes
  have hml : c.maxLocals = 3 := hml0
  have hown : s.vm.findClass "java/lang/String" = some m.cls := findClass_of_methodNamed Bd.named
  have hnm := (name_of_methodNamed Bd.named Bd.method).1
  have X0 : Stand p l e ({ frames := 0, cells := 0, slots := 0, locals := 0 } : Room) s m #[(.ref xs), (.ref xs)] below meth c s₁ [] 0 0 := Stand.of_body Bd
  have e0 : s₁.heap = h0 := by rw [← hh, Bd.state]; rfl
  have N0 := Fr.nil n0
  obtain ⟨s0, hs0⟩ : ∃ z, z = (s₁.setTop (entryFrame m #[(.ref xs), (.ref xs)] 3)) := ⟨_, rfl⟩
  have P0 : ∀ t, GG p e below s₁ (mkF m 0 #[.val (.ref xs), .val (.ref xs), .unset] []) t → Steps p.tables e below s0 t := fun t kk_ => by rw [hs0]; exact castTop (ef_equals m xs xs) kk_
  have P1 : ∀ t, GG p e below s₁ (mkF m 6 #[.val (.ref xs), .val (.ref xs), .unset] [(.int (1 : Int32))]) t → Steps p.tables e below s0 t := fun t kk_ => P0 t (by
    refine XS.aloadN X0.here hx rfl (hb hby d_equals_0) rfl rfl ?_
    show GG p e below s₁ (mkF m 1 #[.val (.ref xs), .val (.ref xs), .unset] [(.ref xs)]) t
    refine XS.aloadN X0.here hx rfl (hb hby d_equals_1) rfl rfl ?_
    show GG p e below s₁ (mkF m 2 #[.val (.ref xs), .val (.ref xs), .unset] [(.ref xs), (.ref xs)]) t
    refine Jvm.RoadKit.acmp (g := (mkF m 2 #[.val (.ref xs), .val (.ref xs), .unset] [(.ref xs), (.ref xs)])) X0 hx rfl rfl rfl (pc0 := 2) (pc' := 5) (same := true) rfl (hb hby d_equals_2) rfl (decide_eq_true rfl) (by decide) (by decide) ?_
    show GG p e below s₁ (mkF m 5 #[.val (.ref xs), .val (.ref xs), .unset] []) t
    refine XS.iconst X0.here hx rfl (hb hby d_equals_5) ?_
    show GG p e below s₁ (mkF m 6 #[.val (.ref xs), .val (.ref xs), .unset] [(.int (1 : Int32))]) t
    exact kk_)
  subst hs0
  obtain ⟨fs, hr, hrun, hended, hW, hsame⟩ := X0.leave (v := some (.int (nar .boolean (1 : Int32)))) (fun h => by rw [Bd.returns] at h; cases h)
  refine ⟨_, _, P1 _ ?_, hrun, hended, _, _, rfl, ?_, ⟨_, rfl⟩, hW, hsame.mono (by decide) (by decide)⟩
  · show GG p e below s₁ (mkF m 6 #[.val (.ref xs), .val (.ref xs), .unset] [(.int (1 : Int32))]) _
    exact retN X0 hx (t := .boolean) Bd.returns (by simp) (hb hby d_equals_6) hr
  · show Q_equals Z xs h0 n0 _ s₁.heap _
    rw [e0]
    exact ⟨rfl, N0, rfl⟩
theorem own_128 (n : Nat) (h : n ≤ 4) : ¬ (128 : Int32) < Int32.ofNat n := by
  rw [Int32.lt_iff_toInt_lt, Int32.toInt_ofNat_of_lt (by omega)]
  have e : (128 : Int32).toInt = 128 := rfl
  omega
theorem ef_check (m : MethodId) (x0 : Addr) (x1 : Addr) : entryFrame m #[(.ref x0), (.ref x1)] 4 = mkF m 0 #[.val (.ref x0), .val (.ref x1), .unset, .unset] [] := by first | (simp [entryFrame, mkF, argsToLocals, Value.category]; done) | rfl
theorem d_check_0 : decode prog_6_method_2_code 0 = .ok (.aload_n 1, 1) := by decide +kernel
theorem pd_3 : parseMethodDescriptor "()Z" = some ⟨[], some .boolean⟩ := by decide +kernel
theorem d_check_1 : decode prog_6_method_2_code 1 = .ok (.invokevirtual 7, 3) := by decide +kernel
abbrev mn_3 : MethodName := ⟨"java/lang/String", "isEmpty", "()Z"⟩
theorem d_check_4 : decode prog_6_method_2_code 4 = .ok (.ifCond .ne 17, 3) := by decide +kernel
theorem d_check_7 : decode prog_6_method_2_code 7 = .ok (.aload_n 1, 1) := by decide +kernel
theorem pd_4 : parseMethodDescriptor "()I" = some ⟨[], some .int⟩ := by decide +kernel
theorem d_check_8 : decode prog_6_method_2_code 8 = .ok (.invokevirtual 13, 3) := by decide +kernel
abbrev mn_4 : MethodName := ⟨"java/lang/String", "length", "()I"⟩
theorem d_check_11 : decode prog_6_method_2_code 11 = .ok (.sipush 128, 3) := by decide +kernel
theorem d_check_14 : decode prog_6_method_2_code 14 = .ok (.if_icmp .gt 7, 3) := by decide +kernel
theorem d_check_17 : decode prog_6_method_2_code 17 = .ok (.iconst 1, 1) := by decide +kernel
theorem d_check_18 : decode prog_6_method_2_code 18 = .ok (.goto 4, 3) := by decide +kernel
theorem d_check_22 : decode prog_6_method_2_code 22 = .ok (.istore_n 2, 1) := by decide +kernel
theorem d_check_23 : decode prog_6_method_2_code 23 = .ok (.iconst 0, 1) := by decide +kernel
theorem d_check_24 : decode prog_6_method_2_code 24 = .ok (.istore_n 3, 1) := by decide +kernel
theorem d_check_25 : decode prog_6_method_2_code 25 = .ok (.iload_n 2, 1) := by decide +kernel
theorem d_check_26 : decode prog_6_method_2_code 26 = .ok (.ifCond .eq 26, 3) := by decide +kernel
theorem d_check_29 : decode prog_6_method_2_code 29 = .ok (.iload_n 3, 1) := by decide +kernel
theorem d_check_30 : decode prog_6_method_2_code 30 = .ok (.aload_n 1, 1) := by decide +kernel
theorem d_check_31 : decode prog_6_method_2_code 31 = .ok (.invokevirtual 13, 3) := by decide +kernel
theorem d_check_34 : decode prog_6_method_2_code 34 = .ok (.if_icmp .ge 18, 3) := by decide +kernel
theorem own_mem (cs : List Int32) (i : Nat) (h : i < cs.length) : cs.getD i 0 ∈ cs := by simp [List.getD_eq_getElem?_getD, h]
theorem d_check_37 : decode prog_6_method_2_code 37 = .ok (.aload_n 1, 1) := by decide +kernel
theorem d_check_38 : decode prog_6_method_2_code 38 = .ok (.iload_n 3, 1) := by decide +kernel
theorem pd_5 : parseMethodDescriptor "(I)C" = some ⟨[.int], some .char⟩ := by decide +kernel
theorem d_check_39 : decode prog_6_method_2_code 39 = .ok (.invokevirtual 19, 3) := by decide +kernel
abbrev mn_5 : MethodName := ⟨"java/lang/String", "charAt", "(I)C"⟩
theorem d_check_42 : decode prog_6_method_2_code 42 = .ok (.invokestatic 23, 3) := by decide +kernel
abbrev mn_6 : MethodName := ⟨"com/example/leagan/leagan/Names", "allowed", "(C)Z"⟩
theorem d_check_45 : decode prog_6_method_2_code 45 = .ok (.istore_n 2, 1) := by decide +kernel
theorem d_check_46 : decode prog_6_method_2_code 46 = .ok (.iinc 3 1, 3) := by decide +kernel
theorem d_check_49 : decode prog_6_method_2_code 49 = .ok (.goto (-24), 3) := by decide +kernel
theorem d_check_52 : decode prog_6_method_2_code 52 = .ok (.iload_n 2, 1) := by decide +kernel
theorem d_check_53 : decode prog_6_method_2_code 53 = .ok (.ifCond .ne 18, 3) := by decide +kernel
theorem d_check_71 : decode prog_6_method_2_code 71 = .ok (.aload_n 1, 1) := by decide +kernel
theorem d_check_72 : decode prog_6_method_2_code 72 = .ok (.areturn, 1) := by decide +kernel
def Q_check (Z : State) (kd : Addr) (xs : Addr) (t : Addr) (kb : ClassId) (cs : List Int32) (G1 : Int32) (G3 : Value) (h0 : Heap) (n0 : Nat) (v : Option Value) (h : Heap) (L : List Loc) : Prop := v = some (.ref xs) ∧ Fr n0 L ∧ h = h0
set_option maxRecDepth 65536 in
set_option maxHeartbeats 40000000 in
theorem rm_check (l : Launch) (Z : State) (a0 : Array Value) (hw : ∀ d ∈ tables_1, d.before a0 Z = true) (ws : List Jvm.Cond) (kd : Addr) (xs : Addr) (t : Addr) (kb : ClassId) (cs : List Int32) (G1 : Int32) (G3 : Value) (h0 : Heap) (n0 : Nat) (Z0 : n0 ≤ h0.size) (E_xs : Exa Z h0 xs "java/lang/String") (F_value_xs : Fld Z h0 xs "java/lang/String" "value" "[B" (.ref t)) (F_coder_xs : Fld Z h0 xs "java/lang/String" "coder" "B" (.int (0 : Int32))) (V_t : Arv Z h0 t kb .byte (Int32.ofNat cs.length) ((cs.map (fun c => c.toInt8.toInt32)).map Value.int) (.int (0 : Int32))) (S_COMPACT_STRINGS : Sta Z Z.heap "java/lang/String" "COMPACT_STRINGS" "Z" (.int G1)) (S_SIOOBE_FORMATTER : Sta Z Z.heap "jdk/internal/util/Preconditions" "SIOOBE_FORMATTER" "Ljava/util/function/BiFunction;" G3) (OL : Old Z n0 h0) (hz : ¬ G1 = 0) (rG3 : G3.isRef = true) (hok : ∀ c ∈ cs, okB c = true) (hl0 : ¬ cs.length = 0) (hl4 : cs.length ≤ 4) :
    MetFree l (⟨"com/example/leagan/leagan/Names", "check", "(Ljava/lang/String;Ljava/lang/String;)Ljava/lang/String;"⟩ : MethodName) (head1 (Jvm.Cond.code (⟨"com/example/leagan/leagan/Names", "check", "(Ljava/lang/String;Ljava/lang/String;)Ljava/lang/String;"⟩ : MethodName) prog_6_method_2_code 4 (some (.object "java/lang/String")) :: ws) ({ frames := 4, cells := 0, slots := 0, locals := 53 } : Room)) (fun a U => a = #[(.ref kd), (.ref xs)] ∧ Z.Warmed39 U.vm ∧ U.heap = h0) (fun _ _ _ _ _ => True) (fun _ U o U' => ∃ v L, o = .returned v ∧ Q_check Z kd xs t kb cs G1 G3 h0 n0 v U'.heap L ∧ FrameEnd U o U' L ({ frames := 4, cells := 0, slots := 0, locals := 53 } : Room).cells ({ frames := 4, cells := 0, slots := 0, locals := 53 } : Room).slots) := by
  refine MetFree.of_bodySF (plainFor_of_name pn_3) hisR ?_
  intro p e s m args below meth c s₁ Bd hml0 hP hK
  obtain ⟨rfl, hZ, hh⟩ := hP
  have hx := Bd.exec
  have hby := Bd.bytes
  have hml : c.maxLocals = 4 := hml0
  have hown : s.vm.findClass "com/example/leagan/leagan/Names" = some m.cls := findClass_of_methodNamed Bd.named
  have hnm := (name_of_methodNamed Bd.named Bd.method).1
  have X0 : Stand p l e ({ frames := 4, cells := 0, slots := 0, locals := 53 } : Room) s m #[(.ref kd), (.ref xs)] below meth c s₁ [] 0 0 := Stand.of_body Bd
  have e0 : s₁.heap = h0 := by rw [← hh, Bd.state]; rfl
  have N0 := Fr.nil n0
  obtain ⟨s0, hs0⟩ : ∃ z, z = (s₁.setTop (entryFrame m #[(.ref kd), (.ref xs)] 4)) := ⟨_, rfl⟩
  have P0 : ∀ t, GG p e below s₁ (mkF m 0 #[.val (.ref kd), .val (.ref xs), .unset, .unset] []) t → Steps p.tables e below s0 t := fun t kk_ => by rw [hs0]; exact castTop (ef_check m kd xs) kk_
  have hcd : StrChars.Road.CodA cs 0 (Int32.ofNat cs.length) ((cs.map (fun c => c.toInt8.toInt32)).map Value.int) := StrChars.Road.codOf (n := cs.length) rfl (fun x hx => ((own_up cs hok).1 x hx).2)
  have hbd := (own_up cs hok).2
  have hl4k : cs.length ≤ 4000 := by omega
  have P1 : ∀ t, GG p e below s₁ (mkF m 1 #[.val (.ref kd), .val (.ref xs), .unset, .unset] [(.ref xs)]) t → Steps p.tables e below s0 t := fun t kk_ => P0 t (by
    refine XS.aloadN X0.here hx rfl (hb hby d_check_0) rfl rfl ?_
    show GG p e below s₁ (mkF m 1 #[.val (.ref kd), .val (.ref xs), .unset, .unset] [(.ref xs)]) t
    exact kk_)
  obtain ⟨cq2, kq2, q2a, q2b, q2c⟩ := isOf hZ e0 E_xs
  obtain ⟨_, _, ⟨T2, L2, k2, n2⟩, -, X2, ⟨Lc2, hQ2, l2, y2, z2⟩, st2⟩ := X0.virtualBack hx (y := mn_3) (z := mn_3) hown (mw hZ hw 53 rfl) (mw hZ hw 54 rfl) (notFace_of_selects (args := #[]) (mw hZ hw 56 rfl)) (mw hZ hw 56 rfl) (mw hZ hw 55 rfl) (by decide) (StrChars.Road.empW (W := 0) hZ (own_wEmp hw) (kI := 4) (ww hw 7 rfl) E_xs F_value_xs F_coder_xs V_t hcd hbd hl4k (by decide) (by decide)) q2a q2c (g := (mkF m 1 #[.val (.ref kd), .val (.ref xs), .unset, .unset] [(.ref xs)])) rfl (by rw [hml]; rfl) (Steps.refl _) (argsL := []) (rest := []) (lenOf pd_3 rfl) rfl (by show 2 * 0 + _ ≤ _; exact Nat.le_of_eq rfl) (hb hby d_check_1) (fun _ _ => ⟨rfl, e0, (by decide : 0 + 0 ≤ _), (by decide : 0 + 0 ≤ _)⟩)
  dsimp only [Pt.U, Pt.locs, Pt.cells, Pt.slots] at X2 l2 y2 z2 st2 hQ2
  subst l2 y2 z2
  obtain ⟨rfl, rfl, e2⟩ := hQ2
  have N2q : Fr n0 ([] : List Loc) := Fr.nil n0
  have N2 := Fr.app N0 N2q
  have P3 : ∀ t, GG p e below T2 (mkF m 4 #[.val (.ref kd), .val (.ref xs), .unset, .unset] [(.int (if (cs).length = 0 then 1 else 0))]) t → Steps p.tables e below s0 t := fun t kk_ => P1 t (st2.trans kk_)
  have P4 : ∀ t, GG p e below T2 (mkF m 4 #[.val (.ref kd), .val (.ref xs), .unset, .unset] [(.int (0 : Int32))]) t → Steps p.tables e below s0 t := fun t kk_ => P3 t (by rw [if_neg hl0]; exact kk_)
  have P5 : ∀ t, GG p e below T2 (mkF m 8 #[.val (.ref kd), .val (.ref xs), .unset, .unset] [(.ref xs)]) t → Steps p.tables e below s0 t := fun t kk_ => P4 t (by
    refine XS.ifNo X2.here hx rfl (hb hby d_check_4) rfl ((if0 _ _).trans (teq ((by decide) : (0 : Int32) = (0 : Int32))).2) ?_
    show GG p e below T2 (mkF m 7 #[.val (.ref kd), .val (.ref xs), .unset, .unset] []) t
    refine XS.aloadN X2.here hx rfl (hb hby d_check_7) rfl rfl ?_
    show GG p e below T2 (mkF m 8 #[.val (.ref kd), .val (.ref xs), .unset, .unset] [(.ref xs)]) t
    exact kk_)
  obtain ⟨cq6, kq6, q6a, q6b, q6c⟩ := isOf hZ e2 E_xs
  obtain ⟨_, _, ⟨T6, L6, k6, n6⟩, -, X6, ⟨Lc6, hQ6, l6, y6, z6⟩, st6⟩ := X2.virtualBack hx (y := mn_4) (z := mn_4) hown (mw hZ hw 58 rfl) (mw hZ hw 59 rfl) (notFace_of_selects (args := #[]) (mw hZ hw 61 rfl)) (mw hZ hw 61 rfl) (mw hZ hw 60 rfl) (by decide) (StrChars.Road.lenW (W := 0) hZ (own_wLen hw) (kI := 4) (ww hw 7 rfl) E_xs F_value_xs F_coder_xs V_t hcd hbd (S_COMPACT_STRINGS.ext OL.2) hz hl4k (by decide) (by decide)) q6a q6c (g := (mkF m 8 #[.val (.ref kd), .val (.ref xs), .unset, .unset] [(.ref xs)])) rfl (by rw [hml]; rfl) (Steps.refl _) (argsL := []) (rest := []) (lenOf pd_4 rfl) rfl (by show 2 * 0 + _ ≤ _; exact Nat.le_of_eq rfl) (hb hby d_check_8) (fun _ _ => ⟨rfl, e2, (by decide : 0 + 0 ≤ _), (by decide : 0 + 0 ≤ _)⟩)
  dsimp only [Pt.U, Pt.locs, Pt.cells, Pt.slots] at X6 l6 y6 z6 st6 hQ6
  subst l6 y6 z6
  obtain ⟨rfl, rfl, e6⟩ := hQ6
  have N6q : Fr n0 ([] : List Loc) := Fr.nil n0
  have N6 := Fr.app N2 N6q
  have P7 : ∀ t, GG p e below T6 (mkF m 11 #[.val (.ref kd), .val (.ref xs), .unset, .unset] [(.int (Int32.ofNat (cs).length))]) t → Steps p.tables e below s0 t := fun t kk_ => P5 t (st6.trans kk_)
  have P8 : ∀ t, GG p e below T6 (mkF m 25 #[.val (.ref kd), .val (.ref xs), .val (.int (1 : Int32)), .val (.int (0 : Int32))] []) t → Steps p.tables e below s0 t := fun t kk_ => P7 t (by
    refine XS.sipush X6.here hx rfl (hb hby d_check_11) ?_
    show GG p e below T6 (mkF m 14 #[.val (.ref kd), .val (.ref xs), .unset, .unset] [(.int (128 : Int32)), (.int (Int32.ofNat (cs).length))]) t
    refine XS.icmpNo X6.here hx rfl (hb hby d_check_14) rfl (flt ((own_128 cs.length hl4) : ¬ ((128 : Int32) < (Int32.ofNat (cs).length)))).2.2.1 ?_
    show GG p e below T6 (mkF m 17 #[.val (.ref kd), .val (.ref xs), .unset, .unset] []) t
    refine XS.iconst X6.here hx rfl (hb hby d_check_17) ?_
    show GG p e below T6 (mkF m 18 #[.val (.ref kd), .val (.ref xs), .unset, .unset] [(.int (1 : Int32))]) t
    refine XS.goto X6.here hx rfl (pc0 := 18) (pc' := 22) rfl (hb hby d_check_18) (by decide) (by decide) ?_
    show GG p e below T6 (mkF m 22 #[.val (.ref kd), .val (.ref xs), .unset, .unset] [(.int (1 : Int32))]) t
    refine XS.istoreN X6.here hx rfl (hb hby d_check_22) rfl (l' := #[.val (.ref kd), .val (.ref xs), .val (.int (1 : Int32)), .unset]) rfl ?_
    show GG p e below T6 (mkF m 23 #[.val (.ref kd), .val (.ref xs), .val (.int (1 : Int32)), .unset] []) t
    refine XS.iconst X6.here hx rfl (hb hby d_check_23) ?_
    show GG p e below T6 (mkF m 24 #[.val (.ref kd), .val (.ref xs), .val (.int (1 : Int32)), .unset] [(.int (0 : Int32))]) t
    refine XS.istoreN X6.here hx rfl (hb hby d_check_24) rfl (l' := #[.val (.ref kd), .val (.ref xs), .val (.int (1 : Int32)), .val (.int (0 : Int32))]) rfl ?_
    show GG p e below T6 (mkF m 25 #[.val (.ref kd), .val (.ref xs), .val (.int (1 : Int32)), .val (.int (0 : Int32))] []) t
    exact kk_)
  have loop : ∀ (kt i : Nat) (T0 : State) (L0 : List Loc), i + kt = cs.length → Stand p l e ({ frames := 4, cells := 0, slots := 0, locals := 53 } : Room) s m #[(.ref kd), (.ref xs)] below meth c T0 L0 0 0 → T0.heap = h0 → Fr n0 L0 →
      ∃ (T' : State) (L' : List Loc), Stand p l e ({ frames := 4, cells := 0, slots := 0, locals := 53 } : Room) s m #[(.ref kd), (.ref xs)] below meth c T' L' 0 0 ∧ T'.heap = h0 ∧ Fr n0 L' ∧ ∀ t, Steps p.tables e below (T'.setTop (mkF m 52 #[.val (.ref kd), .val (.ref xs), .val (.int (1 : Int32)), .val (.int (Int32.ofNat cs.length))] [])) t → Steps p.tables e below (T0.setTop (mkF m 25 #[.val (.ref kd), .val (.ref xs), .val (.int (1 : Int32)), .val (.int (Int32.ofNat i))] [])) t := by
    intro kt
    induction kt with
    | zero =>
      intro i T0 L0 hik X0 e0 N0
      have P0 : ∀ t, Steps p.tables e below (T0.setTop (mkF m 25 #[.val (.ref kd), .val (.ref xs), .val (.int (1 : Int32)), .val (.int (Int32.ofNat i))] [])) t → Steps p.tables e below (T0.setTop (mkF m 25 #[.val (.ref kd), .val (.ref xs), .val (.int (1 : Int32)), .val (.int (Int32.ofNat i))] [])) t := fun t kk_ => kk_
      have P9 : ∀ t, GG p e below T0 (mkF m 31 #[.val (.ref kd), .val (.ref xs), .val (.int (1 : Int32)), .val (.int (Int32.ofNat i))] [(.ref xs), (.int (Int32.ofNat i))]) t → Steps p.tables e below (T0.setTop (mkF m 25 #[.val (.ref kd), .val (.ref xs), .val (.int (1 : Int32)), .val (.int (Int32.ofNat i))] [])) t := fun t kk_ => P0 t (by
        refine XS.iloadN X0.here hx rfl (hb hby d_check_25) rfl ?_
        show GG p e below T0 (mkF m 26 #[.val (.ref kd), .val (.ref xs), .val (.int (1 : Int32)), .val (.int (Int32.ofNat i))] [(.int (1 : Int32))]) t
        refine XS.ifNo X0.here hx rfl (hb hby d_check_26) rfl ((if0 _ _).trans (feq ((by decide) : ¬ ((1 : Int32) = (0 : Int32)))).1) ?_
        show GG p e below T0 (mkF m 29 #[.val (.ref kd), .val (.ref xs), .val (.int (1 : Int32)), .val (.int (Int32.ofNat i))] []) t
        refine XS.iloadN X0.here hx rfl (hb hby d_check_29) rfl ?_
        show GG p e below T0 (mkF m 30 #[.val (.ref kd), .val (.ref xs), .val (.int (1 : Int32)), .val (.int (Int32.ofNat i))] [(.int (Int32.ofNat i))]) t
        refine XS.aloadN X0.here hx rfl (hb hby d_check_30) rfl rfl ?_
        show GG p e below T0 (mkF m 31 #[.val (.ref kd), .val (.ref xs), .val (.int (1 : Int32)), .val (.int (Int32.ofNat i))] [(.ref xs), (.int (Int32.ofNat i))]) t
        exact kk_)
      obtain ⟨cq10, kq10, q10a, q10b, q10c⟩ := isOf hZ e0 E_xs
      obtain ⟨_, _, ⟨T10, L10, k10, n10⟩, -, X10, ⟨Lc10, hQ10, l10, y10, z10⟩, st10⟩ := X0.virtualBack hx (y := mn_4) (z := mn_4) hown (mw hZ hw 58 rfl) (mw hZ hw 59 rfl) (notFace_of_selects (args := #[]) (mw hZ hw 61 rfl)) (mw hZ hw 61 rfl) (mw hZ hw 60 rfl) (by decide) (StrChars.Road.lenW (W := 1) hZ (own_wLen hw) (kI := 4) (ww hw 7 rfl) E_xs F_value_xs F_coder_xs V_t hcd hbd (S_COMPACT_STRINGS.ext OL.2) hz hl4k (by decide) (by decide)) q10a q10c (g := (mkF m 31 #[.val (.ref kd), .val (.ref xs), .val (.int (1 : Int32)), .val (.int (Int32.ofNat i))] [(.ref xs), (.int (Int32.ofNat i))])) rfl (by rw [hml]; rfl) (Steps.refl _) (argsL := []) (rest := [(.int (Int32.ofNat i))]) (lenOf pd_4 rfl) rfl (by show 2 * 0 + _ ≤ _; exact Nat.le_of_eq rfl) (hb hby d_check_31) (fun _ _ => ⟨rfl, e0, (by decide : 0 + 0 ≤ _), (by decide : 0 + 0 ≤ _)⟩)
      dsimp only [Pt.U, Pt.locs, Pt.cells, Pt.slots] at X10 l10 y10 z10 st10 hQ10
      subst l10 y10 z10
      obtain ⟨rfl, rfl, e10⟩ := hQ10
      have N10q : Fr n0 ([] : List Loc) := Fr.nil n0
      have N10 := Fr.app N0 N10q
      have P11 : ∀ t, GG p e below T10 (mkF m 34 #[.val (.ref kd), .val (.ref xs), .val (.int (1 : Int32)), .val (.int (Int32.ofNat i))] [(.int (Int32.ofNat (cs).length)), (.int (Int32.ofNat i))]) t → Steps p.tables e below (T0.setTop (mkF m 25 #[.val (.ref kd), .val (.ref xs), .val (.int (1 : Int32)), .val (.int (Int32.ofNat i))] [])) t := fun t kk_ => P9 t (st10.trans kk_)
      have P12 : ∀ t, GG p e below T10 (mkF m 52 #[.val (.ref kd), .val (.ref xs), .val (.int (1 : Int32)), .val (.int (Int32.ofNat i))] []) t → Steps p.tables e below (T0.setTop (mkF m 25 #[.val (.ref kd), .val (.ref xs), .val (.int (1 : Int32)), .val (.int (Int32.ofNat i))] [])) t := fun t kk_ => P11 t (by
        refine XS.icmpYes X10.here hx rfl (pc0 := 34) (pc' := 52) rfl (hb hby d_check_34) rfl (flt ((fun q => by have := (own_i i cs.length (by omega) (by omega)).mp q; omega) : ¬ ((Int32.ofNat i) < (Int32.ofNat (cs).length)))).2.1 (by decide) (by decide) ?_
        show GG p e below T10 (mkF m 52 #[.val (.ref kd), .val (.ref xs), .val (.int (1 : Int32)), .val (.int (Int32.ofNat i))] []) t
        exact kk_)
      have ei : i = cs.length := by omega
      subst ei
      exact ⟨_, _, X10, e10, N10, P12⟩
    | succ kt ih =>
      intro i T0 L0 hik X0 e0 N0
      have P0 : ∀ t, Steps p.tables e below (T0.setTop (mkF m 25 #[.val (.ref kd), .val (.ref xs), .val (.int (1 : Int32)), .val (.int (Int32.ofNat i))] [])) t → Steps p.tables e below (T0.setTop (mkF m 25 #[.val (.ref kd), .val (.ref xs), .val (.int (1 : Int32)), .val (.int (Int32.ofNat i))] [])) t := fun t kk_ => kk_
      have P13 : ∀ t, GG p e below T0 (mkF m 31 #[.val (.ref kd), .val (.ref xs), .val (.int (1 : Int32)), .val (.int (Int32.ofNat i))] [(.ref xs), (.int (Int32.ofNat i))]) t → Steps p.tables e below (T0.setTop (mkF m 25 #[.val (.ref kd), .val (.ref xs), .val (.int (1 : Int32)), .val (.int (Int32.ofNat i))] [])) t := fun t kk_ => P0 t (by
        refine XS.iloadN X0.here hx rfl (hb hby d_check_25) rfl ?_
        show GG p e below T0 (mkF m 26 #[.val (.ref kd), .val (.ref xs), .val (.int (1 : Int32)), .val (.int (Int32.ofNat i))] [(.int (1 : Int32))]) t
        refine XS.ifNo X0.here hx rfl (hb hby d_check_26) rfl ((if0 _ _).trans (feq ((by decide) : ¬ ((1 : Int32) = (0 : Int32)))).1) ?_
        show GG p e below T0 (mkF m 29 #[.val (.ref kd), .val (.ref xs), .val (.int (1 : Int32)), .val (.int (Int32.ofNat i))] []) t
        refine XS.iloadN X0.here hx rfl (hb hby d_check_29) rfl ?_
        show GG p e below T0 (mkF m 30 #[.val (.ref kd), .val (.ref xs), .val (.int (1 : Int32)), .val (.int (Int32.ofNat i))] [(.int (Int32.ofNat i))]) t
        refine XS.aloadN X0.here hx rfl (hb hby d_check_30) rfl rfl ?_
        show GG p e below T0 (mkF m 31 #[.val (.ref kd), .val (.ref xs), .val (.int (1 : Int32)), .val (.int (Int32.ofNat i))] [(.ref xs), (.int (Int32.ofNat i))]) t
        exact kk_)
      obtain ⟨cq14, kq14, q14a, q14b, q14c⟩ := isOf hZ e0 E_xs
      obtain ⟨_, _, ⟨T14, L14, k14, n14⟩, -, X14, ⟨Lc14, hQ14, l14, y14, z14⟩, st14⟩ := X0.virtualBack hx (y := mn_4) (z := mn_4) hown (mw hZ hw 58 rfl) (mw hZ hw 59 rfl) (notFace_of_selects (args := #[]) (mw hZ hw 61 rfl)) (mw hZ hw 61 rfl) (mw hZ hw 60 rfl) (by decide) (StrChars.Road.lenW (W := 1) hZ (own_wLen hw) (kI := 4) (ww hw 7 rfl) E_xs F_value_xs F_coder_xs V_t hcd hbd (S_COMPACT_STRINGS.ext OL.2) hz hl4k (by decide) (by decide)) q14a q14c (g := (mkF m 31 #[.val (.ref kd), .val (.ref xs), .val (.int (1 : Int32)), .val (.int (Int32.ofNat i))] [(.ref xs), (.int (Int32.ofNat i))])) rfl (by rw [hml]; rfl) (Steps.refl _) (argsL := []) (rest := [(.int (Int32.ofNat i))]) (lenOf pd_4 rfl) rfl (by show 2 * 0 + _ ≤ _; exact Nat.le_of_eq rfl) (hb hby d_check_31) (fun _ _ => ⟨rfl, e0, (by decide : 0 + 0 ≤ _), (by decide : 0 + 0 ≤ _)⟩)
      dsimp only [Pt.U, Pt.locs, Pt.cells, Pt.slots] at X14 l14 y14 z14 st14 hQ14
      subst l14 y14 z14
      obtain ⟨rfl, rfl, e14⟩ := hQ14
      have N14q : Fr n0 ([] : List Loc) := Fr.nil n0
      have N14 := Fr.app N0 N14q
      have P15 : ∀ t, GG p e below T14 (mkF m 34 #[.val (.ref kd), .val (.ref xs), .val (.int (1 : Int32)), .val (.int (Int32.ofNat i))] [(.int (Int32.ofNat (cs).length)), (.int (Int32.ofNat i))]) t → Steps p.tables e below (T0.setTop (mkF m 25 #[.val (.ref kd), .val (.ref xs), .val (.int (1 : Int32)), .val (.int (Int32.ofNat i))] [])) t := fun t kk_ => P13 t (st14.trans kk_)
      have P16 : ∀ t, GG p e below T14 (mkF m 39 #[.val (.ref kd), .val (.ref xs), .val (.int (1 : Int32)), .val (.int (Int32.ofNat i))] [(.int (Int32.ofNat i)), (.ref xs)]) t → Steps p.tables e below (T0.setTop (mkF m 25 #[.val (.ref kd), .val (.ref xs), .val (.int (1 : Int32)), .val (.int (Int32.ofNat i))] [])) t := fun t kk_ => P15 t (by
        refine XS.icmpNo X14.here hx rfl (hb hby d_check_34) rfl (tlt (((own_i i cs.length (by omega) (by omega)).mpr (by omega)) : (Int32.ofNat i) < (Int32.ofNat (cs).length))).2.1 ?_
        show GG p e below T14 (mkF m 37 #[.val (.ref kd), .val (.ref xs), .val (.int (1 : Int32)), .val (.int (Int32.ofNat i))] []) t
        refine XS.aloadN X14.here hx rfl (hb hby d_check_37) rfl rfl ?_
        show GG p e below T14 (mkF m 38 #[.val (.ref kd), .val (.ref xs), .val (.int (1 : Int32)), .val (.int (Int32.ofNat i))] [(.ref xs)]) t
        refine XS.iloadN X14.here hx rfl (hb hby d_check_38) rfl ?_
        show GG p e below T14 (mkF m 39 #[.val (.ref kd), .val (.ref xs), .val (.int (1 : Int32)), .val (.int (Int32.ofNat i))] [(.int (Int32.ofNat i)), (.ref xs)]) t
        exact kk_)
      obtain ⟨cq17, kq17, q17a, q17b, q17c⟩ := isOf hZ e14 E_xs
      obtain ⟨_, _, ⟨T17, L17, k17, n17⟩, -, X17, ⟨Lc17, hQ17, l17, y17, z17⟩, st17⟩ := X14.virtualBack hx (y := mn_5) (z := mn_5) hown (mw hZ hw 68 rfl) (mw hZ hw 69 rfl) (notFace_of_selects (args := #[]) (mw hZ hw 71 rfl)) (mw hZ hw 71 rfl) (mw hZ hw 70 rfl) (by decide) (StrChars.Road.chN (W := 0) hZ (own_wCh hw) (kI := 4) (ww hw 7 rfl) E_xs F_value_xs F_coder_xs V_t hcd hbd (S_COMPACT_STRINGS.ext OL.2) hz (S_SIOOBE_FORMATTER.ext OL.2) rG3 hl4k (i := i) (by omega) (j := (Int32.ofNat i)) rfl (by decide) (by decide)) q17a q17c (g := (mkF m 39 #[.val (.ref kd), .val (.ref xs), .val (.int (1 : Int32)), .val (.int (Int32.ofNat i))] [(.int (Int32.ofNat i)), (.ref xs)])) rfl (by rw [hml]; rfl) (Steps.refl _) (argsL := [(.int (Int32.ofNat i))]) (rest := []) (lenOf pd_5 rfl) rfl (by show 2 * 0 + _ ≤ _; exact Nat.le_of_eq rfl) (hb hby d_check_39) (fun _ _ => ⟨rfl, e14, (by decide : 0 + 0 ≤ _), (by decide : 0 + 0 ≤ _)⟩)
      dsimp only [Pt.U, Pt.locs, Pt.cells, Pt.slots] at X17 l17 y17 z17 st17 hQ17
      subst l17 y17 z17
      obtain ⟨rfl, rfl, e17⟩ := hQ17
      have N17q : Fr n0 ([] : List Loc) := Fr.nil n0
      have N17 := Fr.app N14 N17q
      have P18 : ∀ t, GG p e below T17 (mkF m 42 #[.val (.ref kd), .val (.ref xs), .val (.int (1 : Int32)), .val (.int (Int32.ofNat i))] [(.int ((cs).getD i 0))]) t → Steps p.tables e below (T0.setTop (mkF m 25 #[.val (.ref kd), .val (.ref xs), .val (.int (1 : Int32)), .val (.int (Int32.ofNat i))] [])) t := fun t kk_ => P16 t (st17.trans kk_)
      obtain ⟨_, _, ⟨T19, L19, k19, n19⟩, -, X19, ⟨Lc19, hQ19, l19, y19, z19⟩, st19⟩ := Jvm.LawKit.callS X17 hx (y := mn_6) hown (mw hZ hw 89 rfl) (mw hZ hw 90 rfl) (mw hZ hw 51 rfl) (mw hZ hw 91 rfl) (by decide) (backOf (W := 0) (rm_allowed l Z a0 hw [] ((cs).getD i 0) h0 n0 (Nat.le_trans Z0 (Nat.le_refl h0.size)) (hok _ (own_mem cs i (by omega)))) hZ (ww hw 91 rfl) (ww hw 51 rfl) (by decide) (by decide)) (g := (mkF m 42 #[.val (.ref kd), .val (.ref xs), .val (.int (1 : Int32)), .val (.int (Int32.ofNat i))] [(.int ((cs).getD i 0))])) rfl (by rw [hml]; rfl) (argsL := [(.int ((cs).getD i 0))]) (rest := []) (lenOf pd_0 rfl) rfl (by show 2 * 0 + _ ≤ _; exact Nat.le_of_eq rfl) (hb hby d_check_42) (fun _ _ => ⟨rfl, e17, (by decide : 0 + 0 ≤ _), (by decide : 0 + 0 ≤ _)⟩)
      dsimp only [Pt.U, Pt.locs, Pt.cells, Pt.slots] at X19 l19 y19 z19 st19 hQ19
      subst l19 y19 z19
      obtain ⟨rfl, N19q, e19⟩ := hQ19
      have N19 := Fr.app N17 N19q
      have P20 : ∀ t, GG p e below T19 (mkF m 45 #[.val (.ref kd), .val (.ref xs), .val (.int (1 : Int32)), .val (.int (Int32.ofNat i))] [(.int (1 : Int32))]) t → Steps p.tables e below (T0.setTop (mkF m 25 #[.val (.ref kd), .val (.ref xs), .val (.int (1 : Int32)), .val (.int (Int32.ofNat i))] [])) t := fun t kk_ => P18 t (st19 _ kk_)
      have P21 : ∀ t, GG p e below T19 (mkF m 25 #[.val (.ref kd), .val (.ref xs), .val (.int (1 : Int32)), .val (.int ((Int32.ofNat i) + (1 : Int32)))] []) t → Steps p.tables e below (T0.setTop (mkF m 25 #[.val (.ref kd), .val (.ref xs), .val (.int (1 : Int32)), .val (.int (Int32.ofNat i))] [])) t := fun t kk_ => P20 t (by
        refine XS.istoreN X19.here hx rfl (hb hby d_check_45) rfl (l' := #[.val (.ref kd), .val (.ref xs), .val (.int (1 : Int32)), .val (.int (Int32.ofNat i))]) rfl ?_
        show GG p e below T19 (mkF m 46 #[.val (.ref kd), .val (.ref xs), .val (.int (1 : Int32)), .val (.int (Int32.ofNat i))] []) t
        refine XS.iinc X19.here hx rfl (hb hby d_check_46) rfl (l' := #[.val (.ref kd), .val (.ref xs), .val (.int (1 : Int32)), .val (.int ((Int32.ofNat i) + (1 : Int32)))]) rfl ?_
        show GG p e below T19 (mkF m 49 #[.val (.ref kd), .val (.ref xs), .val (.int (1 : Int32)), .val (.int ((Int32.ofNat i) + (1 : Int32)))] []) t
        refine XS.goto X19.here hx rfl (pc0 := 49) (pc' := 25) rfl (hb hby d_check_49) (by decide) (by decide) ?_
        show GG p e below T19 (mkF m 25 #[.val (.ref kd), .val (.ref xs), .val (.int (1 : Int32)), .val (.int ((Int32.ofNat i) + (1 : Int32)))] []) t
        exact kk_)
      obtain ⟨T', L', X', e', N', st'⟩ := ih (i + 1) _ _ (by omega) X19 e19 N19
      refine ⟨T', L', X', e', N', fun t kk_ => P21 t ?_⟩
      show Steps p.tables e below (T19.setTop (mkF m 25 #[.val (.ref kd), .val (.ref xs), .val (.int (1 : Int32)), .val (.int ((Int32.ofNat i) + (1 : Int32)))] [])) t
      rw [own_inc]
      exact st' t kk_
  obtain ⟨TL, LL, XL, eL, NL, stL⟩ := loop cs.length 0 T6 _ (by omega) X6 e6 N6
  have P22 : ∀ t, GG p e below TL (mkF m 52 #[.val (.ref kd), .val (.ref xs), .val (.int (1 : Int32)), .val (.int (Int32.ofNat cs.length))] []) t → Steps p.tables e below s0 t := fun t kk_ => P8 t (stL _ kk_)
  have P23 : ∀ t, GG p e below TL (mkF m 72 #[.val (.ref kd), .val (.ref xs), .val (.int (1 : Int32)), .val (.int (Int32.ofNat cs.length))] [(.ref xs)]) t → Steps p.tables e below s0 t := fun t kk_ => P22 t (by
    refine XS.iloadN XL.here hx rfl (hb hby d_check_52) rfl ?_
    show GG p e below TL (mkF m 53 #[.val (.ref kd), .val (.ref xs), .val (.int (1 : Int32)), .val (.int (Int32.ofNat cs.length))] [(.int (1 : Int32))]) t
    refine XS.ifYes XL.here hx rfl (pc0 := 53) (pc' := 71) rfl (hb hby d_check_53) rfl ((if0 _ _).trans (feq ((by decide) : ¬ ((1 : Int32) = (0 : Int32)))).2) (by decide) (by decide) ?_
    show GG p e below TL (mkF m 71 #[.val (.ref kd), .val (.ref xs), .val (.int (1 : Int32)), .val (.int (Int32.ofNat cs.length))] []) t
    refine XS.aloadN XL.here hx rfl (hb hby d_check_71) rfl rfl ?_
    show GG p e below TL (mkF m 72 #[.val (.ref kd), .val (.ref xs), .val (.int (1 : Int32)), .val (.int (Int32.ofNat cs.length))] [(.ref xs)]) t
    exact kk_)
  subst hs0
  obtain ⟨fs, hr, hrun, hended, hW, hsame⟩ := XL.leave (v := some (.ref xs)) (fun h => by rw [Bd.returns] at h; cases h)
  refine ⟨_, _, P23 _ ?_, hrun, hended, _, _, rfl, ?_, ⟨_, rfl⟩, hW, hsame.mono (by decide) (by decide)⟩
  · show GG p e below TL (mkF m 72 #[.val (.ref kd), .val (.ref xs), .val (.int (1 : Int32)), .val (.int (Int32.ofNat cs.length))] [(.ref xs)]) _
    jvm_step XL.here [XL.here.top, hx, (hb hby d_check_72), XL.method', Bd.returns, Value.isRef, FieldType.isReference]
    first | (intro acts; rw [hr _ acts rfl rfl rfl]) | rw [hr _ _ rfl rfl rfl]
    exact Steps.refl _
  · show Q_check Z kd xs t kb cs G1 G3 h0 n0 _ TL.heap _
    rw [eL]
    exact ⟨rfl, NL, rfl⟩
theorem own_vo (x : Int32) : ¬ (255 : Int32) < ((x &&& (255 : Int32)).toUInt32.toUInt16.toUInt32.toInt32) := by
  have t : ∀ k : Fin 256, ¬ (255 : Int32) < ((Int32.ofNat k.val).toUInt32.toUInt16.toUInt32.toInt32) := by decide +kernel
  have h : (x &&& 255).toBitVec.toNat < 256 := by
    simp only [Int32.toBitVec_and, BitVec.toNat_and]
    exact Nat.lt_succ_of_le Nat.and_le_right
  have e : (x &&& 255) = Int32.ofNat (x &&& 255).toBitVec.toNat := by
    apply Int32.toBitVec_inj.mp
    show _ = BitVec.ofNat 32 _
    rw [BitVec.ofNat_toNat]; simp
  rw [e]
  exact t ⟨_, h⟩
theorem ef_law1 (m : MethodId) (x0 : Int32) (x1 : Int32) (x2 : Int32) (x3 : Int32) (x4 : Int32) : entryFrame m #[(.int x0), (.int x1), (.int x2), (.int x3), (.int x4)] maxLocals = mkF m 0 #[.val (.int x0), .val (.int x1), .val (.int x2), .val (.int x3), .val (.int x4), .unset, .unset, .unset, .unset, .unset, .unset, .unset, .unset, .unset] [] := by first | (simp [entryFrame, mkF, argsToLocals, Value.category, maxLocals]; done) | rfl
abbrev mn_7 : MethodName := ⟨"com/example/leagan/leagan/NamesCheckPinLaw", "pick", "(I)C"⟩
theorem pd_6 : parseMethodDescriptor "([C)V" = some ⟨[(.array .char)], none⟩ := by decide +kernel
abbrev mn_8 : MethodName := ⟨"java/lang/String", "<init>", "([C)V"⟩
theorem pd_7 : parseMethodDescriptor "(C)Ljava/lang/String;" = some ⟨[.char], some (.object "java/lang/String")⟩ := by decide +kernel
abbrev mn_9 : MethodName := ⟨"java/lang/String", "valueOf", "(C)Ljava/lang/String;"⟩
theorem pd_8 : parseMethodDescriptor "(Ljava/lang/String;Ljava/lang/String;)Ljava/lang/String;" = some ⟨[(.object "java/lang/String"), (.object "java/lang/String")], some (.object "java/lang/String")⟩ := by decide +kernel
abbrev mn_10 : MethodName := ⟨"com/example/leagan/leagan/Names", "check", "(Ljava/lang/String;Ljava/lang/String;)Ljava/lang/String;"⟩
theorem pd_9 : parseMethodDescriptor "(Ljava/lang/Object;)Z" = some ⟨[(.object "java/lang/Object")], some .boolean⟩ := by decide +kernel
abbrev mn_11 : MethodName := ⟨"java/lang/String", "equals", "(Ljava/lang/Object;)Z"⟩
def Q_law1 (Z : State) (pa : Int32) (pb : Int32) (pc_ : Int32) (pd_ : Int32) (pe : Int32) (G1 : Int32) (G3 : Value) (h0 : Heap) (n0 : Nat) (v : Option Value) (h : Heap) (L : List Loc) : Prop := v = some (.int (1 : Int32)) ∧ Fr n0 L ∧ Keep h0 h []
set_option maxRecDepth 65536 in
set_option maxHeartbeats 40000000 in
theorem rm_law1 (l : Launch) (Z : State) (a0 : Array Value) (hw : ∀ d ∈ tables_1, d.before a0 Z = true) (ws : List Jvm.Cond) (pa : Int32) (pb : Int32) (pc_ : Int32) (pd_ : Int32) (pe : Int32) (G1 : Int32) (G3 : Value) (h0 : Heap) (n0 : Nat) (Z0 : n0 ≤ h0.size) (S_COMPACT_STRINGS : Sta Z Z.heap "java/lang/String" "COMPACT_STRINGS" "Z" (.int G1)) (S_SIOOBE_FORMATTER : Sta Z Z.heap "jdk/internal/util/Preconditions" "SIOOBE_FORMATTER" "Ljava/util/function/BiFunction;" G3) (OL : Old Z n0 h0) (hz : ¬ G1 = 0) (rG3 : G3.isRef = true) (hk : (pe &&& 3) = 0) :
    MetFree l x (head1 (Jvm.Cond.code x code maxLocals ret :: ws) room_1) (fun a U => a = #[(.int pa), (.int pb), (.int pc_), (.int pd_), (.int pe)] ∧ Z.Warmed39 U.vm ∧ U.heap = h0) (fun _ _ _ _ _ => True) (fun _ U o U' => ∃ v L, o = .returned v ∧ Q_law1 Z pa pb pc_ pd_ pe G1 G3 h0 n0 v U'.heap L ∧ FrameEnd U o U' L room_1.cells room_1.slots) := by
  refine MetFree.of_bodySF (plainFor_of_name pn_0) hisR ?_
  intro p e s m args below meth c s₁ Bd hml0 hP hK
  obtain ⟨rfl, hZ, hh⟩ := hP
  have hx := Bd.exec
  have hby := Bd.bytes
  have hml : c.maxLocals = 14 := hml0
  have hown : s.vm.findClass "com/example/leagan/leagan/NamesCheckPinLaw" = some m.cls := findClass_of_methodNamed Bd.named
  have hnm := (name_of_methodNamed Bd.named Bd.method).1
  have X0 : Stand p l e room_1 s m #[(.int pa), (.int pb), (.int pc_), (.int pd_), (.int pe)] below meth c s₁ [] 0 0 := Stand.of_body Bd
  have e0 : s₁.heap = h0 := by rw [← hh, Bd.state]; rfl
  have N0 := Fr.nil n0
  obtain ⟨s0, hs0⟩ : ∃ z, z = (s₁.setTop (entryFrame m #[(.int pa), (.int pb), (.int pc_), (.int pd_), (.int pe)] maxLocals)) := ⟨_, rfl⟩
  have P0 : ∀ t, GG p e below s₁ (mkF m 0 #[.val (.int pa), .val (.int pb), .val (.int pc_), .val (.int pd_), .val (.int pe), .unset, .unset, .unset, .unset, .unset, .unset, .unset, .unset, .unset] []) t → Steps p.tables e below s0 t := fun t kk_ => by rw [hs0]; exact castTop (ef_law1 m pa pb pc_ pd_ pe) kk_
  have P1 : ∀ t, GG p e below s₁ (mkF m 5 #[.val (.int pa), .val (.int pb), .val (.int pc_), .val (.int pd_), .val (.int pe), .unset, .unset, .unset, .unset, .unset, .unset, .unset, .unset, .unset] [(.int (pe &&& (3 : Int32))), (.int (1 : Int32))]) t → Steps p.tables e below s0 t := fun t kk_ => P0 t (by
    refine XS.iconst X0.here hx rfl (hb hby at_0) ?_
    show GG p e below s₁ (mkF m 1 #[.val (.int pa), .val (.int pb), .val (.int pc_), .val (.int pd_), .val (.int pe), .unset, .unset, .unset, .unset, .unset, .unset, .unset, .unset, .unset] [(.int (1 : Int32))]) t
    refine XS.iload X0.here hx rfl (hb hby at_1) rfl ?_
    show GG p e below s₁ (mkF m 3 #[.val (.int pa), .val (.int pb), .val (.int pc_), .val (.int pd_), .val (.int pe), .unset, .unset, .unset, .unset, .unset, .unset, .unset, .unset, .unset] [(.int pe), (.int (1 : Int32))]) t
    refine XS.iconst X0.here hx rfl (hb hby at_3) ?_
    show GG p e below s₁ (mkF m 4 #[.val (.int pa), .val (.int pb), .val (.int pc_), .val (.int pd_), .val (.int pe), .unset, .unset, .unset, .unset, .unset, .unset, .unset, .unset, .unset] [(.int (3 : Int32)), (.int pe), (.int (1 : Int32))]) t
    refine XS.iand X0.here hx rfl (hb hby at_4) rfl ?_
    show GG p e below s₁ (mkF m 5 #[.val (.int pa), .val (.int pb), .val (.int pc_), .val (.int pd_), .val (.int pe), .unset, .unset, .unset, .unset, .unset, .unset, .unset, .unset, .unset] [(.int (pe &&& (3 : Int32))), (.int (1 : Int32))]) t
    exact kk_)
  have P2 : ∀ t, GG p e below s₁ (mkF m 5 #[.val (.int pa), .val (.int pb), .val (.int pc_), .val (.int pd_), .val (.int pe), .unset, .unset, .unset, .unset, .unset, .unset, .unset, .unset, .unset] [(.int (0 : Int32)), (.int (1 : Int32))]) t → Steps p.tables e below s0 t := fun t kk_ => P1 t (by rw [hk]; exact kk_)
  have P3 : ∀ t, GG p e below s₁ (mkF m 9 #[.val (.int pa), .val (.int pb), .val (.int pc_), .val (.int pd_), .val (.int pe), .val (.int (1 : Int32)), .unset, .unset, .unset, .unset, .unset, .unset, .unset, .unset] [(.int pa)]) t → Steps p.tables e below s0 t := fun t kk_ => P2 t (by
    refine XS.iadd X0.here hx rfl (hb hby at_5) rfl ?_
    show GG p e below s₁ (mkF m 6 #[.val (.int pa), .val (.int pb), .val (.int pc_), .val (.int pd_), .val (.int pe), .unset, .unset, .unset, .unset, .unset, .unset, .unset, .unset, .unset] [(.int (1 : Int32))]) t
    refine XS.istore X0.here hx rfl (hb hby at_6) rfl (l' := #[.val (.int pa), .val (.int pb), .val (.int pc_), .val (.int pd_), .val (.int pe), .val (.int (1 : Int32)), .unset, .unset, .unset, .unset, .unset, .unset, .unset, .unset]) rfl ?_
    show GG p e below s₁ (mkF m 8 #[.val (.int pa), .val (.int pb), .val (.int pc_), .val (.int pd_), .val (.int pe), .val (.int (1 : Int32)), .unset, .unset, .unset, .unset, .unset, .unset, .unset, .unset] []) t
    refine XS.iloadN X0.here hx rfl (hb hby at_8) rfl ?_
    show GG p e below s₁ (mkF m 9 #[.val (.int pa), .val (.int pb), .val (.int pc_), .val (.int pd_), .val (.int pe), .val (.int (1 : Int32)), .unset, .unset, .unset, .unset, .unset, .unset, .unset, .unset] [(.int pa)]) t
    exact kk_)
  obtain ⟨_, _, ⟨T4, L4, k4, n4⟩, -, X4, ⟨Lc4, hQ4, l4, y4, z4⟩, st4⟩ := Jvm.LawKit.callS X0 hx (y := mn_7) hown (mw hZ hw 0 rfl) (mw hZ hw 1 rfl) (mw hZ hw 2 rfl) (mw hZ hw 3 rfl) (by decide) (backOf (W := 0) (rm_pick l Z a0 hw [] pa h0 n0 (Nat.le_trans Z0 (Nat.le_refl h0.size))) hZ (ww hw 3 rfl) (ww hw 2 rfl) (by decide) (by decide)) (g := (mkF m 9 #[.val (.int pa), .val (.int pb), .val (.int pc_), .val (.int pd_), .val (.int pe), .val (.int (1 : Int32)), .unset, .unset, .unset, .unset, .unset, .unset, .unset, .unset] [(.int pa)])) rfl (by rw [hml]; rfl) (argsL := [(.int pa)]) (rest := []) (lenOf pd_5 rfl) rfl (by show 2 * 0 + _ ≤ _; exact Nat.le_of_eq rfl) (hb hby at_9) (fun _ _ => ⟨rfl, e0, (by decide : 0 + 0 ≤ _), (by decide : 0 + 0 ≤ _)⟩)
  dsimp only [Pt.U, Pt.locs, Pt.cells, Pt.slots] at X4 l4 y4 z4 st4 hQ4
  subst l4 y4 z4
  obtain ⟨r_4, rfl, N4q, e4, po4_0⟩ := hQ4
  have N4 := Fr.app N0 N4q
  have P5 : ∀ t, GG p e below T4 (mkF m 12 #[.val (.int pa), .val (.int pb), .val (.int pc_), .val (.int pd_), .val (.int pe), .val (.int (1 : Int32)), .unset, .unset, .unset, .unset, .unset, .unset, .unset, .unset] [(.int r_4)]) t → Steps p.tables e below s0 t := fun t kk_ => P3 t (st4 _ kk_)
  have okr_4 := po4_0
  have P6 : ∀ t, GG p e below T4 (mkF m 15 #[.val (.int pa), .val (.int pb), .val (.int pc_), .val (.int pd_), .val (.int pe), .val (.int (1 : Int32)), .val (.int r_4), .unset, .unset, .unset, .unset, .unset, .unset, .unset] [(.int pb)]) t → Steps p.tables e below s0 t := fun t kk_ => P5 t (by
    refine XS.istore X4.here hx rfl (hb hby at_12) rfl (l' := #[.val (.int pa), .val (.int pb), .val (.int pc_), .val (.int pd_), .val (.int pe), .val (.int (1 : Int32)), .val (.int r_4), .unset, .unset, .unset, .unset, .unset, .unset, .unset]) rfl ?_
    show GG p e below T4 (mkF m 14 #[.val (.int pa), .val (.int pb), .val (.int pc_), .val (.int pd_), .val (.int pe), .val (.int (1 : Int32)), .val (.int r_4), .unset, .unset, .unset, .unset, .unset, .unset, .unset] []) t
    refine XS.iloadN X4.here hx rfl (hb hby at_14) rfl ?_
    show GG p e below T4 (mkF m 15 #[.val (.int pa), .val (.int pb), .val (.int pc_), .val (.int pd_), .val (.int pe), .val (.int (1 : Int32)), .val (.int r_4), .unset, .unset, .unset, .unset, .unset, .unset, .unset] [(.int pb)]) t
    exact kk_)
  obtain ⟨_, _, ⟨T7, L7, k7, n7⟩, -, X7, ⟨Lc7, hQ7, l7, y7, z7⟩, st7⟩ := Jvm.LawKit.callS X4 hx (y := mn_7) hown (mw hZ hw 0 rfl) (mw hZ hw 1 rfl) (mw hZ hw 2 rfl) (mw hZ hw 3 rfl) (by decide) (backOf (W := 0) (rm_pick l Z a0 hw [] pb h0 n0 (Nat.le_trans Z0 (Nat.le_refl h0.size))) hZ (ww hw 3 rfl) (ww hw 2 rfl) (by decide) (by decide)) (g := (mkF m 15 #[.val (.int pa), .val (.int pb), .val (.int pc_), .val (.int pd_), .val (.int pe), .val (.int (1 : Int32)), .val (.int r_4), .unset, .unset, .unset, .unset, .unset, .unset, .unset] [(.int pb)])) rfl (by rw [hml]; rfl) (argsL := [(.int pb)]) (rest := []) (lenOf pd_5 rfl) rfl (by show 2 * 0 + _ ≤ _; exact Nat.le_of_eq rfl) (hb hby at_15) (fun _ _ => ⟨rfl, e4, (by decide : 0 + 0 ≤ _), (by decide : 0 + 0 ≤ _)⟩)
  dsimp only [Pt.U, Pt.locs, Pt.cells, Pt.slots] at X7 l7 y7 z7 st7 hQ7
  subst l7 y7 z7
  obtain ⟨r_7, rfl, N7q, e7, po7_0⟩ := hQ7
  have N7 := Fr.app N4 N7q
  have P8 : ∀ t, GG p e below T7 (mkF m 18 #[.val (.int pa), .val (.int pb), .val (.int pc_), .val (.int pd_), .val (.int pe), .val (.int (1 : Int32)), .val (.int r_4), .unset, .unset, .unset, .unset, .unset, .unset, .unset] [(.int r_7)]) t → Steps p.tables e below s0 t := fun t kk_ => P6 t (st7 _ kk_)
  have okr_7 := po7_0
  have P9 : ∀ t, GG p e below T7 (mkF m 21 #[.val (.int pa), .val (.int pb), .val (.int pc_), .val (.int pd_), .val (.int pe), .val (.int (1 : Int32)), .val (.int r_4), .val (.int r_7), .unset, .unset, .unset, .unset, .unset, .unset] [(.int pc_)]) t → Steps p.tables e below s0 t := fun t kk_ => P8 t (by
    refine XS.istore X7.here hx rfl (hb hby at_18) rfl (l' := #[.val (.int pa), .val (.int pb), .val (.int pc_), .val (.int pd_), .val (.int pe), .val (.int (1 : Int32)), .val (.int r_4), .val (.int r_7), .unset, .unset, .unset, .unset, .unset, .unset]) rfl ?_
    show GG p e below T7 (mkF m 20 #[.val (.int pa), .val (.int pb), .val (.int pc_), .val (.int pd_), .val (.int pe), .val (.int (1 : Int32)), .val (.int r_4), .val (.int r_7), .unset, .unset, .unset, .unset, .unset, .unset] []) t
    refine XS.iloadN X7.here hx rfl (hb hby at_20) rfl ?_
    show GG p e below T7 (mkF m 21 #[.val (.int pa), .val (.int pb), .val (.int pc_), .val (.int pd_), .val (.int pe), .val (.int (1 : Int32)), .val (.int r_4), .val (.int r_7), .unset, .unset, .unset, .unset, .unset, .unset] [(.int pc_)]) t
    exact kk_)
  obtain ⟨_, _, ⟨T10, L10, k10, n10⟩, -, X10, ⟨Lc10, hQ10, l10, y10, z10⟩, st10⟩ := Jvm.LawKit.callS X7 hx (y := mn_7) hown (mw hZ hw 0 rfl) (mw hZ hw 1 rfl) (mw hZ hw 2 rfl) (mw hZ hw 3 rfl) (by decide) (backOf (W := 0) (rm_pick l Z a0 hw [] pc_ h0 n0 (Nat.le_trans Z0 (Nat.le_refl h0.size))) hZ (ww hw 3 rfl) (ww hw 2 rfl) (by decide) (by decide)) (g := (mkF m 21 #[.val (.int pa), .val (.int pb), .val (.int pc_), .val (.int pd_), .val (.int pe), .val (.int (1 : Int32)), .val (.int r_4), .val (.int r_7), .unset, .unset, .unset, .unset, .unset, .unset] [(.int pc_)])) rfl (by rw [hml]; rfl) (argsL := [(.int pc_)]) (rest := []) (lenOf pd_5 rfl) rfl (by show 2 * 0 + _ ≤ _; exact Nat.le_of_eq rfl) (hb hby at_21) (fun _ _ => ⟨rfl, e7, (by decide : 0 + 0 ≤ _), (by decide : 0 + 0 ≤ _)⟩)
  dsimp only [Pt.U, Pt.locs, Pt.cells, Pt.slots] at X10 l10 y10 z10 st10 hQ10
  subst l10 y10 z10
  obtain ⟨r_10, rfl, N10q, e10, po10_0⟩ := hQ10
  have N10 := Fr.app N7 N10q
  have P11 : ∀ t, GG p e below T10 (mkF m 24 #[.val (.int pa), .val (.int pb), .val (.int pc_), .val (.int pd_), .val (.int pe), .val (.int (1 : Int32)), .val (.int r_4), .val (.int r_7), .unset, .unset, .unset, .unset, .unset, .unset] [(.int r_10)]) t → Steps p.tables e below s0 t := fun t kk_ => P9 t (st10 _ kk_)
  have okr_10 := po10_0
  have P12 : ∀ t, GG p e below T10 (mkF m 27 #[.val (.int pa), .val (.int pb), .val (.int pc_), .val (.int pd_), .val (.int pe), .val (.int (1 : Int32)), .val (.int r_4), .val (.int r_7), .val (.int r_10), .unset, .unset, .unset, .unset, .unset] [(.int pd_)]) t → Steps p.tables e below s0 t := fun t kk_ => P11 t (by
    refine XS.istore X10.here hx rfl (hb hby at_24) rfl (l' := #[.val (.int pa), .val (.int pb), .val (.int pc_), .val (.int pd_), .val (.int pe), .val (.int (1 : Int32)), .val (.int r_4), .val (.int r_7), .val (.int r_10), .unset, .unset, .unset, .unset, .unset]) rfl ?_
    show GG p e below T10 (mkF m 26 #[.val (.int pa), .val (.int pb), .val (.int pc_), .val (.int pd_), .val (.int pe), .val (.int (1 : Int32)), .val (.int r_4), .val (.int r_7), .val (.int r_10), .unset, .unset, .unset, .unset, .unset] []) t
    refine XS.iloadN X10.here hx rfl (hb hby at_26) rfl ?_
    show GG p e below T10 (mkF m 27 #[.val (.int pa), .val (.int pb), .val (.int pc_), .val (.int pd_), .val (.int pe), .val (.int (1 : Int32)), .val (.int r_4), .val (.int r_7), .val (.int r_10), .unset, .unset, .unset, .unset, .unset] [(.int pd_)]) t
    exact kk_)
  obtain ⟨_, _, ⟨T13, L13, k13, n13⟩, -, X13, ⟨Lc13, hQ13, l13, y13, z13⟩, st13⟩ := Jvm.LawKit.callS X10 hx (y := mn_7) hown (mw hZ hw 0 rfl) (mw hZ hw 1 rfl) (mw hZ hw 2 rfl) (mw hZ hw 3 rfl) (by decide) (backOf (W := 0) (rm_pick l Z a0 hw [] pd_ h0 n0 (Nat.le_trans Z0 (Nat.le_refl h0.size))) hZ (ww hw 3 rfl) (ww hw 2 rfl) (by decide) (by decide)) (g := (mkF m 27 #[.val (.int pa), .val (.int pb), .val (.int pc_), .val (.int pd_), .val (.int pe), .val (.int (1 : Int32)), .val (.int r_4), .val (.int r_7), .val (.int r_10), .unset, .unset, .unset, .unset, .unset] [(.int pd_)])) rfl (by rw [hml]; rfl) (argsL := [(.int pd_)]) (rest := []) (lenOf pd_5 rfl) rfl (by show 2 * 0 + _ ≤ _; exact Nat.le_of_eq rfl) (hb hby at_27) (fun _ _ => ⟨rfl, e10, (by decide : 0 + 0 ≤ _), (by decide : 0 + 0 ≤ _)⟩)
  dsimp only [Pt.U, Pt.locs, Pt.cells, Pt.slots] at X13 l13 y13 z13 st13 hQ13
  subst l13 y13 z13
  obtain ⟨r_13, rfl, N13q, e13, po13_0⟩ := hQ13
  have N13 := Fr.app N10 N13q
  have P14 : ∀ t, GG p e below T13 (mkF m 30 #[.val (.int pa), .val (.int pb), .val (.int pc_), .val (.int pd_), .val (.int pe), .val (.int (1 : Int32)), .val (.int r_4), .val (.int r_7), .val (.int r_10), .unset, .unset, .unset, .unset, .unset] [(.int r_13)]) t → Steps p.tables e below s0 t := fun t kk_ => P12 t (st13 _ kk_)
  have okr_13 := po13_0
  have P15 : ∀ t, GG p e below T13 (mkF m 39 #[.val (.int pa), .val (.int pb), .val (.int pc_), .val (.int pd_), .val (.int pe), .val (.int (1 : Int32)), .val (.int r_4), .val (.int r_7), .val (.int r_10), .val (.int r_13), .unset, .unset, .unset, .unset] [(.int (1 : Int32))]) t → Steps p.tables e below s0 t := fun t kk_ => P14 t (by
    refine XS.istore X13.here hx rfl (hb hby at_30) rfl (l' := #[.val (.int pa), .val (.int pb), .val (.int pc_), .val (.int pd_), .val (.int pe), .val (.int (1 : Int32)), .val (.int r_4), .val (.int r_7), .val (.int r_10), .val (.int r_13), .unset, .unset, .unset, .unset]) rfl ?_
    show GG p e below T13 (mkF m 32 #[.val (.int pa), .val (.int pb), .val (.int pc_), .val (.int pd_), .val (.int pe), .val (.int (1 : Int32)), .val (.int r_4), .val (.int r_7), .val (.int r_10), .val (.int r_13), .unset, .unset, .unset, .unset] []) t
    refine XS.iload X13.here hx rfl (hb hby at_32) rfl ?_
    show GG p e below T13 (mkF m 34 #[.val (.int pa), .val (.int pb), .val (.int pc_), .val (.int pd_), .val (.int pe), .val (.int (1 : Int32)), .val (.int r_4), .val (.int r_7), .val (.int r_10), .val (.int r_13), .unset, .unset, .unset, .unset] [(.int (1 : Int32))]) t
    refine XS.iconst X13.here hx rfl (hb hby at_34) ?_
    show GG p e below T13 (mkF m 35 #[.val (.int pa), .val (.int pb), .val (.int pc_), .val (.int pd_), .val (.int pe), .val (.int (1 : Int32)), .val (.int r_4), .val (.int r_7), .val (.int r_10), .val (.int r_13), .unset, .unset, .unset, .unset] [(.int (1 : Int32)), (.int (1 : Int32))]) t
    refine XS.icmpNo X13.here hx rfl (hb hby at_35) rfl (teq ((by decide) : (1 : Int32) = (1 : Int32))).2 ?_
    show GG p e below T13 (mkF m 38 #[.val (.int pa), .val (.int pb), .val (.int pc_), .val (.int pd_), .val (.int pe), .val (.int (1 : Int32)), .val (.int r_4), .val (.int r_7), .val (.int r_10), .val (.int r_13), .unset, .unset, .unset, .unset] []) t
    refine XS.iconst X13.here hx rfl (hb hby at_38) ?_
    show GG p e below T13 (mkF m 39 #[.val (.int pa), .val (.int pb), .val (.int pc_), .val (.int pd_), .val (.int pe), .val (.int (1 : Int32)), .val (.int r_4), .val (.int r_7), .val (.int r_10), .val (.int r_13), .unset, .unset, .unset, .unset] [(.int (1 : Int32))]) t
    exact kk_)
  obtain ⟨T16, h16, k16, X16, e16, E16, A16, st16⟩ := newP X13 hx hZ (ww hw 5 rfl) e13 (g := (mkF m 39 #[.val (.int pa), .val (.int pb), .val (.int pc_), .val (.int pd_), .val (.int pe), .val (.int (1 : Int32)), .val (.int r_4), .val (.int r_7), .val (.int r_10), .val (.int r_13), .unset, .unset, .unset, .unset] [(.int (1 : Int32))])) rfl (hb hby at_39) rfl (by decide) (cap := 1) (by decide) (by decide) (by decide) (by decide)
  obtain ⟨b16, g16⟩ : ∃ z, z = h0.size := ⟨_, rfl⟩
  rw [← g16] at A16 st16
  have P17 : ∀ t, GG p e below T16 (mkF m 41 #[.val (.int pa), .val (.int pb), .val (.int pc_), .val (.int pd_), .val (.int pe), .val (.int (1 : Int32)), .val (.int r_4), .val (.int r_7), .val (.int r_10), .val (.int r_13), .unset, .unset, .unset, .unset] [(.ref b16)]) t → Steps p.tables e below s0 t := fun t kk_ => P15 t (st16 _ kk_)
  have sz_b16 : h0.size ≤ b16 := Nat.le_trans (Nat.le_refl h0.size) (Nat.le_of_eq g16.symm)
  replace OL : Old Z n0 h16 := OL.ext E16
  have K16 : Keep h0 h16 [] := (Keep.refl h0 []).ext E16
  have V_b16 : Arv Z h16 b16 k16 .char (1 : Int32) [(.int (0 : Int32))] (.int (0 : Int32)) := (Arv.new A16 (by decide)).pad (pad_rep [] (.int (0 : Int32)) 1)
  have P18 : ∀ t, GG p e below T16 (mkF m 45 #[.val (.int pa), .val (.int pb), .val (.int pc_), .val (.int pd_), .val (.int pe), .val (.int (1 : Int32)), .val (.int r_4), .val (.int r_7), .val (.int r_10), .val (.int r_13), .unset, .unset, .unset, .unset] [(.int r_4), (.int (0 : Int32)), (.ref b16), (.ref b16)]) t → Steps p.tables e below s0 t := fun t kk_ => P17 t (by
    refine XS.dup X16.here hx rfl (hb hby at_41) rfl rfl ?_
    show GG p e below T16 (mkF m 42 #[.val (.int pa), .val (.int pb), .val (.int pc_), .val (.int pd_), .val (.int pe), .val (.int (1 : Int32)), .val (.int r_4), .val (.int r_7), .val (.int r_10), .val (.int r_13), .unset, .unset, .unset, .unset] [(.ref b16), (.ref b16)]) t
    refine XS.iconst X16.here hx rfl (hb hby at_42) ?_
    show GG p e below T16 (mkF m 43 #[.val (.int pa), .val (.int pb), .val (.int pc_), .val (.int pd_), .val (.int pe), .val (.int (1 : Int32)), .val (.int r_4), .val (.int r_7), .val (.int r_10), .val (.int r_13), .unset, .unset, .unset, .unset] [(.int (0 : Int32)), (.ref b16), (.ref b16)]) t
    refine XS.iload X16.here hx rfl (hb hby at_43) rfl ?_
    show GG p e below T16 (mkF m 45 #[.val (.int pa), .val (.int pb), .val (.int pc_), .val (.int pd_), .val (.int pe), .val (.int (1 : Int32)), .val (.int r_4), .val (.int r_7), .val (.int r_10), .val (.int r_13), .unset, .unset, .unset, .unset] [(.int r_4), (.int (0 : Int32)), (.ref b16), (.ref b16)]) t
    exact kk_)
  obtain ⟨cl19, Ar19, q19, S19, M19, Hs19, G19⟩ := V_b16
  obtain ⟨T19, h19, X19, e19, W19, st19⟩ := stC X16 hx hZ e16 Ar19 (j := (0 : Int32)) (inb_of S19 ⟨by decide, by decide⟩) (g := (mkF m 45 #[.val (.int pa), .val (.int pb), .val (.int pc_), .val (.int pd_), .val (.int pe), .val (.int (1 : Int32)), .val (.int r_4), .val (.int r_7), .val (.int r_10), .val (.int r_13), .unset, .unset, .unset, .unset] [(.int r_4), (.int (0 : Int32)), (.ref b16), (.ref b16)])) rfl rfl (hb hby at_45)
  have P20 : ∀ t, GG p e below T19 (mkF m 46 #[.val (.int pa), .val (.int pb), .val (.int pc_), .val (.int pd_), .val (.int pe), .val (.int (1 : Int32)), .val (.int r_4), .val (.int r_7), .val (.int r_10), .val (.int r_13), .unset, .unset, .unset, .unset] [(.ref b16)]) t → Steps p.tables e below s0 t := fun t kk_ => P18 t (st19 _ kk_)
  have N19 := Fr.snoc X19 N13 (Nat.le_trans Z0 sz_b16)
  have K19 : Keep h0 h19 [] := K16.wr W19 (Or.inr sz_b16)
  replace OL : Old Z n0 h19 := OL.wr W19 (Nat.le_trans Z0 sz_b16)
  have V_b16 : Arv Z h19 b16 k16 .char (1 : Int32) [(.int (nar .char r_4))] (.int (0 : Int32)) := Arv.set Ar19 q19 S19 M19 Hs19 G19 (fits_nar_char _) W19 0 rfl (Nat.le_of_ble_eq_true rfl)
  have P21 : ∀ t, GG p e below T19 (mkF m 129 #[.val (.int pa), .val (.int pb), .val (.int pc_), .val (.int pd_), .val (.int pe), .val (.int (1 : Int32)), .val (.int r_4), .val (.int r_7), .val (.int r_10), .val (.int r_13), .val (.ref b16), .unset, .unset, .unset] []) t → Steps p.tables e below s0 t := fun t kk_ => P20 t (by
    refine XS.astore X19.here hx rfl (hb hby at_46) rfl rfl (l' := #[.val (.int pa), .val (.int pb), .val (.int pc_), .val (.int pd_), .val (.int pe), .val (.int (1 : Int32)), .val (.int r_4), .val (.int r_7), .val (.int r_10), .val (.int r_13), .val (.ref b16), .unset, .unset, .unset]) rfl ?_
    show GG p e below T19 (mkF m 48 #[.val (.int pa), .val (.int pb), .val (.int pc_), .val (.int pd_), .val (.int pe), .val (.int (1 : Int32)), .val (.int r_4), .val (.int r_7), .val (.int r_10), .val (.int r_13), .val (.ref b16), .unset, .unset, .unset] []) t
    refine XS.goto X19.here hx rfl (pc0 := 48) (pc' := 129) rfl (hb hby at_48) (by decide) (by decide) ?_
    show GG p e below T19 (mkF m 129 #[.val (.int pa), .val (.int pb), .val (.int pc_), .val (.int pd_), .val (.int pe), .val (.int (1 : Int32)), .val (.int r_4), .val (.int r_7), .val (.int r_10), .val (.int r_13), .val (.ref b16), .unset, .unset, .unset] []) t
    exact kk_)
  have hcs : ∀ c ∈ ([r_4] : List Int32), okB c = true := by
    intro c hc
    simp only [List.mem_cons, List.not_mem_nil, or_false] at hc
    rcases hc with rfl
    · exact okr_4
  replace V_b16 : Arv Z h19 b16 k16 .char (1 : Int32) (([r_4] : List Int32).map Value.int) (.int (0 : Int32)) := by
    have q := V_b16
    rw [(own_ok r_4 okr_4).2] at q
    exact q
  obtain ⟨T22, h22, X22, e22, E22, A22, D22, -, st22⟩ := newO X19 hx hZ hown (ww hw 6 rfl) (ww hw 7 rfl) (ww hw 8 rfl) e19 (g := (mkF m 129 #[.val (.int pa), .val (.int pb), .val (.int pc_), .val (.int pd_), .val (.int pe), .val (.int (1 : Int32)), .val (.int r_4), .val (.int r_7), .val (.int r_10), .val (.int r_13), .val (.ref b16), .unset, .unset, .unset] [])) rfl (hb hby at_129) (by decide) (by decide)
  obtain ⟨b22, g22⟩ : ∃ z, z = h19.size := ⟨_, rfl⟩
  rw [← g22] at A22 D22 st22
  have P23 : ∀ t, GG p e below T22 (mkF m 132 #[.val (.int pa), .val (.int pb), .val (.int pc_), .val (.int pd_), .val (.int pe), .val (.int (1 : Int32)), .val (.int r_4), .val (.int r_7), .val (.int r_10), .val (.int r_13), .val (.ref b16), .unset, .unset, .unset] [(.ref b22)]) t → Steps p.tables e below s0 t := fun t kk_ => P21 t (st22 _ kk_)
  have ne_b16_b22 : b16 ≠ b22 := Nat.ne_of_lt (Nat.lt_of_lt_of_le V_b16.lt (Nat.le_of_eq g22.symm))
  have sz_b22 : h0.size ≤ b22 := Nat.le_trans K19.1 (Nat.le_of_eq g22.symm)
  replace OL : Old Z n0 h22 := OL.ext E22
  replace V_b16 : Arv Z h22 b16 k16 .char (1 : Int32) (([r_4] : List Int32).map Value.int) (.int (0 : Int32)) := V_b16.ext E22
  have K22 : Keep h0 h22 [] := K19.ext E22
  have E_b22 : Exa Z h22 b22 "java/lang/String" := A22
  have F_coder_b22 : Fld Z h22 b22 "java/lang/String" "coder" "B" (.int (0 : Int32)) := D22 (Or.inr (ww hw 32 rfl)) (ty := .byte) (by decide)
  have F_value_b22 : Fld Z h22 b22 "java/lang/String" "value" "[B" .null := D22 (Or.inr (ww hw 34 rfl)) (ty := (.array .byte)) (by decide)
  have P24 : ∀ t, GG p e below T22 (mkF m 135 #[.val (.int pa), .val (.int pb), .val (.int pc_), .val (.int pd_), .val (.int pe), .val (.int (1 : Int32)), .val (.int r_4), .val (.int r_7), .val (.int r_10), .val (.int r_13), .val (.ref b16), .unset, .unset, .unset] [(.ref b16), (.ref b22), (.ref b22)]) t → Steps p.tables e below s0 t := fun t kk_ => P23 t (by
    refine XS.dup X22.here hx rfl (hb hby at_132) rfl rfl ?_
    show GG p e below T22 (mkF m 133 #[.val (.int pa), .val (.int pb), .val (.int pc_), .val (.int pd_), .val (.int pe), .val (.int (1 : Int32)), .val (.int r_4), .val (.int r_7), .val (.int r_10), .val (.int r_13), .val (.ref b16), .unset, .unset, .unset] [(.ref b22), (.ref b22)]) t
    refine XS.aload X22.here hx rfl (hb hby at_133) rfl rfl ?_
    show GG p e below T22 (mkF m 135 #[.val (.int pa), .val (.int pb), .val (.int pc_), .val (.int pd_), .val (.int pe), .val (.int (1 : Int32)), .val (.int r_4), .val (.int r_7), .val (.int r_10), .val (.int r_13), .val (.ref b16), .unset, .unset, .unset] [(.ref b16), (.ref b22), (.ref b22)]) t
    exact kk_)
  obtain ⟨_, _, ⟨T25, L25, k25, n25⟩, -, X25, ⟨Lc25, hQ25, l25, y25, z25⟩, st25⟩ := X22.specialBack hx (y := mn_8) rfl hown (mw hZ hw 9 rfl) (mw hZ hw 10 rfl) (mw hZ hw 11 rfl) (by decide) (StrChars.Road.backV (W := 1) hZ (own_wNew hw) (kI := 4) (ww hw 7 rfl) (cs := ([r_4] : List Int32)) (bs := (([r_4] : List Int32)).map (fun c => c.toInt8.toInt32)) (n := 1) (Nat.le_trans Z0 sz_b22) (Nat.le_trans Z0 K22.1) E_b22 F_value_b22 F_coder_b22 V_b16 (S_COMPACT_STRINGS.ext OL.2) hz rfl rfl (by decide) (by decide) ((own_up _ hcs).1) rfl (by decide) (by decide)) (g := (mkF m 135 #[.val (.int pa), .val (.int pb), .val (.int pc_), .val (.int pd_), .val (.int pe), .val (.int (1 : Int32)), .val (.int r_4), .val (.int r_7), .val (.int r_10), .val (.int r_13), .val (.ref b16), .unset, .unset, .unset] [(.ref b16), (.ref b22), (.ref b22)])) rfl (by rw [hml]; rfl) (Steps.refl _) (a := b22) (argsL := [(.ref b16)]) (rest := [(.ref b22)]) (lenOf pd_6 rfl) rfl (by show 2 * 0 + _ ≤ _; exact Nat.le_of_eq rfl) (hb hby at_135) (fun _ _ => ⟨rfl, e22, (by decide : 2 + 1 ≤ _), (by decide : 5 + 1 ≤ _)⟩)
  dsimp only [Pt.U, Pt.locs, Pt.cells, Pt.slots] at X25 l25 y25 z25 st25 hQ25
  subst l25 y25 z25
  obtain ⟨rfl, N25q, Kc25, po25_0, po25_1, t_25, kb_25, po25_2, po25_3, po25_4, po25_5, po25_6⟩ := hQ25
  have N25 := Fr.app N19 N25q
  have P26 : ∀ t, GG p e below T25 (mkF m 138 #[.val (.int pa), .val (.int pb), .val (.int pc_), .val (.int pd_), .val (.int pe), .val (.int (1 : Int32)), .val (.int r_4), .val (.int r_7), .val (.int r_10), .val (.int r_13), .val (.ref b16), .unset, .unset, .unset] [(.ref b22)]) t → Steps p.tables e below s0 t := fun t kk_ => P24 t (st25.trans kk_)
  have ne_b16_t_25 : b16 ≠ t_25 := Nat.ne_of_lt (Nat.lt_of_lt_of_le V_b16.lt po25_3)
  have ne_b22_t_25 : b22 ≠ t_25 := Nat.ne_of_lt (Nat.lt_of_lt_of_le E_b22.lt po25_3)
  have sz_t_25 : h0.size ≤ t_25 := Nat.le_trans K22.1 po25_3
  replace OL : Old Z n0 T25.heap := OL.keep Kc25 (allS (Nat.le_trans Z0 sz_b22) all0)
  replace V_b16 : Arv Z T25.heap b16 k16 .char (1 : Int32) (([r_4] : List Int32).map Value.int) (.int (0 : Int32)) := V_b16.keep Kc25 (ninS ne_b16_b22 nin0)
  replace E_b22 : Exa Z T25.heap b22 "java/lang/String" := E_b22.keep Kc25
  have K25 : Keep h0 T25.heap [] := K22.trans Kc25 (allS (P := fun x => x ∈ [] ∨ h0.size ≤ x) (Or.inr sz_b22) all0)
  have E_b22 : Exa Z T25.heap b22 "java/lang/String" := po25_0
  have F_coder_b22 : Fld Z T25.heap b22 "java/lang/String" "coder" "B" (.int (0 : Int32)) := po25_1
  have nt_25 := po25_4
  have F_value_b22 : Fld Z T25.heap b22 "java/lang/String" "value" "[B" (.ref t_25) := po25_5
  have V_t_25 : Arv Z T25.heap t_25 kb_25 .byte (1 : Int32) (((([r_4] : List Int32)).map (fun c => c.toInt8.toInt32)).map Value.int) (.int (0 : Int32)) := po25_6
  have P27 : ∀ t, GG p e below T25 (mkF m 149 #[.val (.int pa), .val (.int pb), .val (.int pc_), .val (.int pd_), .val (.int pe), .val (.int (1 : Int32)), .val (.int r_4), .val (.int r_7), .val (.int r_10), .val (.int r_13), .val (.ref b16), .val (.ref b22), .unset, .unset] [(.int ((((pe.toUInt32 >>> ((2 : Int32) &&& 31).toUInt32).toInt32) &&& (255 : Int32)).toUInt32.toUInt16.toUInt32.toInt32))]) t → Steps p.tables e below s0 t := fun t kk_ => P26 t (by
    refine XS.astore X25.here hx rfl (hb hby at_138) rfl rfl (l' := #[.val (.int pa), .val (.int pb), .val (.int pc_), .val (.int pd_), .val (.int pe), .val (.int (1 : Int32)), .val (.int r_4), .val (.int r_7), .val (.int r_10), .val (.int r_13), .val (.ref b16), .val (.ref b22), .unset, .unset]) rfl ?_
    show GG p e below T25 (mkF m 140 #[.val (.int pa), .val (.int pb), .val (.int pc_), .val (.int pd_), .val (.int pe), .val (.int (1 : Int32)), .val (.int r_4), .val (.int r_7), .val (.int r_10), .val (.int r_13), .val (.ref b16), .val (.ref b22), .unset, .unset] []) t
    refine XS.iload X25.here hx rfl (hb hby at_140) rfl ?_
    show GG p e below T25 (mkF m 142 #[.val (.int pa), .val (.int pb), .val (.int pc_), .val (.int pd_), .val (.int pe), .val (.int (1 : Int32)), .val (.int r_4), .val (.int r_7), .val (.int r_10), .val (.int r_13), .val (.ref b16), .val (.ref b22), .unset, .unset] [(.int pe)]) t
    refine XS.iconst X25.here hx rfl (hb hby at_142) ?_
    show GG p e below T25 (mkF m 143 #[.val (.int pa), .val (.int pb), .val (.int pc_), .val (.int pd_), .val (.int pe), .val (.int (1 : Int32)), .val (.int r_4), .val (.int r_7), .val (.int r_10), .val (.int r_13), .val (.ref b16), .val (.ref b22), .unset, .unset] [(.int (2 : Int32)), (.int pe)]) t
    refine XS.iushr X25.here hx rfl (hb hby at_143) rfl ?_
    show GG p e below T25 (mkF m 144 #[.val (.int pa), .val (.int pb), .val (.int pc_), .val (.int pd_), .val (.int pe), .val (.int (1 : Int32)), .val (.int r_4), .val (.int r_7), .val (.int r_10), .val (.int r_13), .val (.ref b16), .val (.ref b22), .unset, .unset] [(.int ((pe.toUInt32 >>> ((2 : Int32) &&& 31).toUInt32).toInt32))]) t
    refine XS.sipush X25.here hx rfl (hb hby at_144) ?_
    show GG p e below T25 (mkF m 147 #[.val (.int pa), .val (.int pb), .val (.int pc_), .val (.int pd_), .val (.int pe), .val (.int (1 : Int32)), .val (.int r_4), .val (.int r_7), .val (.int r_10), .val (.int r_13), .val (.ref b16), .val (.ref b22), .unset, .unset] [(.int (255 : Int32)), (.int ((pe.toUInt32 >>> ((2 : Int32) &&& 31).toUInt32).toInt32))]) t
    refine XS.iand X25.here hx rfl (hb hby at_147) rfl ?_
    show GG p e below T25 (mkF m 148 #[.val (.int pa), .val (.int pb), .val (.int pc_), .val (.int pd_), .val (.int pe), .val (.int (1 : Int32)), .val (.int r_4), .val (.int r_7), .val (.int r_10), .val (.int r_13), .val (.ref b16), .val (.ref b22), .unset, .unset] [(.int (((pe.toUInt32 >>> ((2 : Int32) &&& 31).toUInt32).toInt32) &&& (255 : Int32)))]) t
    refine XS.i2c X25.here hx rfl (hb hby at_148) rfl ?_
    show GG p e below T25 (mkF m 149 #[.val (.int pa), .val (.int pb), .val (.int pc_), .val (.int pd_), .val (.int pe), .val (.int (1 : Int32)), .val (.int r_4), .val (.int r_7), .val (.int r_10), .val (.int r_13), .val (.ref b16), .val (.ref b22), .unset, .unset] [(.int ((((pe.toUInt32 >>> ((2 : Int32) &&& 31).toUInt32).toInt32) &&& (255 : Int32)).toUInt32.toUInt16.toUInt32.toInt32))]) t
    exact kk_)
  obtain ⟨_, _, ⟨T28, L28, k28, n28⟩, -, X28, ⟨Lc28, hQ28, l28, y28, z28⟩, st28⟩ := Jvm.LawKit.callS X25 hx (y := mn_9) hown (mw hZ hw 35 rfl) (mw hZ hw 36 rfl) (mw hZ hw 8 rfl) (mw hZ hw 37 rfl) (by decide) (backOf (W := 0) (rm_valueOf l Z a0 hw [] ((((pe.toUInt32 >>> ((2 : Int32) &&& 31).toUInt32).toInt32) &&& (255 : Int32)).toUInt32.toUInt16.toUInt32.toInt32) G1 T25.heap n0 (Nat.le_trans Z0 K25.1) S_COMPACT_STRINGS OL hz (own_vo _)) hZ (ww hw 37 rfl) (ww hw 8 rfl) (by decide) (by decide)) (g := (mkF m 149 #[.val (.int pa), .val (.int pb), .val (.int pc_), .val (.int pd_), .val (.int pe), .val (.int (1 : Int32)), .val (.int r_4), .val (.int r_7), .val (.int r_10), .val (.int r_13), .val (.ref b16), .val (.ref b22), .unset, .unset] [(.int ((((pe.toUInt32 >>> ((2 : Int32) &&& 31).toUInt32).toInt32) &&& (255 : Int32)).toUInt32.toUInt16.toUInt32.toInt32))])) rfl (by rw [hml]; rfl) (argsL := [(.int ((((pe.toUInt32 >>> ((2 : Int32) &&& 31).toUInt32).toInt32) &&& (255 : Int32)).toUInt32.toUInt16.toUInt32.toInt32))]) (rest := []) (lenOf pd_7 rfl) rfl (by show 2 * 0 + _ ≤ _; exact Nat.le_of_eq rfl) (hb hby at_149) (fun _ _ => ⟨rfl, rfl, (by decide : 3 + 2 ≤ _), (by decide : 6 + 5 ≤ _)⟩)
  dsimp only [Pt.U, Pt.locs, Pt.cells, Pt.slots] at X28 l28 y28 z28 st28 hQ28
  subst l28 y28 z28
  obtain ⟨xs_28, t_28, kb_28, rfl, N28q, Kc28, po28_0, po28_1, po28_2, po28_3, po28_4, po28_5⟩ := hQ28
  have N28 := Fr.app N25 N28q
  have P29 : ∀ t, GG p e below T28 (mkF m 152 #[.val (.int pa), .val (.int pb), .val (.int pc_), .val (.int pd_), .val (.int pe), .val (.int (1 : Int32)), .val (.int r_4), .val (.int r_7), .val (.int r_10), .val (.int r_13), .val (.ref b16), .val (.ref b22), .unset, .unset] [(.ref xs_28)]) t → Steps p.tables e below s0 t := fun t kk_ => P27 t (st28 _ kk_)
  have ne_b16_xs_28 : b16 ≠ xs_28 := Nat.ne_of_lt (Nat.lt_of_lt_of_le V_b16.lt po28_0)
  have ne_b22_xs_28 : b22 ≠ xs_28 := Nat.ne_of_lt (Nat.lt_of_lt_of_le E_b22.lt po28_0)
  have ne_t_25_xs_28 : t_25 ≠ xs_28 := Nat.ne_of_lt (Nat.lt_of_lt_of_le V_t_25.lt po28_0)
  have sz_xs_28 : h0.size ≤ xs_28 := Nat.le_trans K25.1 po28_0
  have ne_b16_t_28 : b16 ≠ t_28 := Nat.ne_of_lt (Nat.lt_of_lt_of_le V_b16.lt po28_1)
  have ne_b22_t_28 : b22 ≠ t_28 := Nat.ne_of_lt (Nat.lt_of_lt_of_le E_b22.lt po28_1)
  have ne_t_25_t_28 : t_25 ≠ t_28 := Nat.ne_of_lt (Nat.lt_of_lt_of_le V_t_25.lt po28_1)
  have sz_t_28 : h0.size ≤ t_28 := Nat.le_trans K25.1 po28_1
  replace OL : Old Z n0 T28.heap := OL.keep Kc28 all0
  replace V_b16 : Arv Z T28.heap b16 k16 .char (1 : Int32) (([r_4] : List Int32).map Value.int) (.int (0 : Int32)) := V_b16.keep Kc28 nin0
  replace E_b22 : Exa Z T28.heap b22 "java/lang/String" := E_b22.keep Kc28
  replace F_coder_b22 : Fld Z T28.heap b22 "java/lang/String" "coder" "B" (.int (0 : Int32)) := F_coder_b22.keep Kc28 nin0
  replace F_value_b22 : Fld Z T28.heap b22 "java/lang/String" "value" "[B" (.ref t_25) := F_value_b22.keep Kc28 nin0
  replace V_t_25 : Arv Z T28.heap t_25 kb_25 .byte (1 : Int32) (((([r_4] : List Int32)).map (fun c => c.toInt8.toInt32)).map Value.int) (.int (0 : Int32)) := V_t_25.keep Kc28 nin0
  have K28 : Keep h0 T28.heap [] := K25.trans Kc28 all0
  have E_xs_28 : Exa Z T28.heap xs_28 "java/lang/String" := po28_2
  have F_value_xs_28 : Fld Z T28.heap xs_28 "java/lang/String" "value" "[B" (.ref t_28) := po28_3
  have F_coder_xs_28 : Fld Z T28.heap xs_28 "java/lang/String" "coder" "B" (.int (0 : Int32)) := po28_4
  have V_t_28 : Arv Z T28.heap t_28 kb_28 .byte (1 : Int32) [(.int (nar .byte (((((pe.toUInt32 >>> ((2 : Int32) &&& 31).toUInt32).toInt32) &&& (255 : Int32)).toUInt32.toUInt16.toUInt32.toInt32).toInt8.toInt32)))] (.int (0 : Int32)) := po28_5
  have P30 : ∀ t, GG p e below T28 (mkF m 158 #[.val (.int pa), .val (.int pb), .val (.int pc_), .val (.int pd_), .val (.int pe), .val (.int (1 : Int32)), .val (.int r_4), .val (.int r_7), .val (.int r_10), .val (.int r_13), .val (.ref b16), .val (.ref b22), .val (.ref xs_28), .unset] [(.ref b22), (.ref xs_28)]) t → Steps p.tables e below s0 t := fun t kk_ => P29 t (by
    refine XS.astore X28.here hx rfl (hb hby at_152) rfl rfl (l' := #[.val (.int pa), .val (.int pb), .val (.int pc_), .val (.int pd_), .val (.int pe), .val (.int (1 : Int32)), .val (.int r_4), .val (.int r_7), .val (.int r_10), .val (.int r_13), .val (.ref b16), .val (.ref b22), .val (.ref xs_28), .unset]) rfl ?_
    show GG p e below T28 (mkF m 154 #[.val (.int pa), .val (.int pb), .val (.int pc_), .val (.int pd_), .val (.int pe), .val (.int (1 : Int32)), .val (.int r_4), .val (.int r_7), .val (.int r_10), .val (.int r_13), .val (.ref b16), .val (.ref b22), .val (.ref xs_28), .unset] []) t
    refine XS.aload X28.here hx rfl (hb hby at_154) rfl rfl ?_
    show GG p e below T28 (mkF m 156 #[.val (.int pa), .val (.int pb), .val (.int pc_), .val (.int pd_), .val (.int pe), .val (.int (1 : Int32)), .val (.int r_4), .val (.int r_7), .val (.int r_10), .val (.int r_13), .val (.ref b16), .val (.ref b22), .val (.ref xs_28), .unset] [(.ref xs_28)]) t
    refine XS.aload X28.here hx rfl (hb hby at_156) rfl rfl ?_
    show GG p e below T28 (mkF m 158 #[.val (.int pa), .val (.int pb), .val (.int pc_), .val (.int pd_), .val (.int pe), .val (.int (1 : Int32)), .val (.int r_4), .val (.int r_7), .val (.int r_10), .val (.int r_13), .val (.ref b16), .val (.ref b22), .val (.ref xs_28), .unset] [(.ref b22), (.ref xs_28)]) t
    exact kk_)
  obtain ⟨_, _, ⟨T31, L31, k31, n31⟩, -, X31, ⟨Lc31, hQ31, l31, y31, z31⟩, st31⟩ := Jvm.LawKit.callS X28 hx (y := mn_10) hown (mw hZ hw 49 rfl) (mw hZ hw 50 rfl) (mw hZ hw 51 rfl) (mw hZ hw 52 rfl) (by decide) (backOf (W := 0) (rm_check l Z a0 hw [] xs_28 b22 t_25 kb_25 ([r_4] : List Int32) G1 G3 T28.heap n0 (Nat.le_trans Z0 K28.1) E_b22 F_value_b22 F_coder_b22 V_t_25 S_COMPACT_STRINGS S_SIOOBE_FORMATTER OL hz rG3 hcs (fun q => nomatch q) (Nat.le_of_ble_eq_true rfl)) hZ (ww hw 52 rfl) (ww hw 51 rfl) (by decide) (by decide)) (g := (mkF m 158 #[.val (.int pa), .val (.int pb), .val (.int pc_), .val (.int pd_), .val (.int pe), .val (.int (1 : Int32)), .val (.int r_4), .val (.int r_7), .val (.int r_10), .val (.int r_13), .val (.ref b16), .val (.ref b22), .val (.ref xs_28), .unset] [(.ref b22), (.ref xs_28)])) rfl (by rw [hml]; rfl) (argsL := [(.ref xs_28), (.ref b22)]) (rest := []) (lenOf pd_8 rfl) rfl (by show 2 * 0 + _ ≤ _; exact Nat.le_of_eq rfl) (hb hby at_158) (fun _ _ => ⟨rfl, rfl, (by decide : 5 + 0 ≤ _), (by decide : 11 + 0 ≤ _)⟩)
  dsimp only [Pt.U, Pt.locs, Pt.cells, Pt.slots] at X31 l31 y31 z31 st31 hQ31
  subst l31 y31 z31
  obtain ⟨rfl, N31q, e31⟩ := hQ31
  have N31 := Fr.app N28 N31q
  have P32 : ∀ t, GG p e below T31 (mkF m 161 #[.val (.int pa), .val (.int pb), .val (.int pc_), .val (.int pd_), .val (.int pe), .val (.int (1 : Int32)), .val (.int r_4), .val (.int r_7), .val (.int r_10), .val (.int r_13), .val (.ref b16), .val (.ref b22), .val (.ref xs_28), .unset] [(.ref b22)]) t → Steps p.tables e below s0 t := fun t kk_ => P30 t (st31 _ kk_)
  have P33 : ∀ t, GG p e below T31 (mkF m 172 #[.val (.int pa), .val (.int pb), .val (.int pc_), .val (.int pd_), .val (.int pe), .val (.int (1 : Int32)), .val (.int r_4), .val (.int r_7), .val (.int r_10), .val (.int r_13), .val (.ref b16), .val (.ref b22), .val (.ref xs_28), .val (.ref b22)] [(.ref b22), (.ref b22)]) t → Steps p.tables e below s0 t := fun t kk_ => P32 t (by
    refine XS.astore X31.here hx rfl (hb hby at_161) rfl rfl (l' := #[.val (.int pa), .val (.int pb), .val (.int pc_), .val (.int pd_), .val (.int pe), .val (.int (1 : Int32)), .val (.int r_4), .val (.int r_7), .val (.int r_10), .val (.int r_13), .val (.ref b16), .val (.ref b22), .val (.ref xs_28), .val (.ref b22)]) rfl ?_
    show GG p e below T31 (mkF m 163 #[.val (.int pa), .val (.int pb), .val (.int pc_), .val (.int pd_), .val (.int pe), .val (.int (1 : Int32)), .val (.int r_4), .val (.int r_7), .val (.int r_10), .val (.int r_13), .val (.ref b16), .val (.ref b22), .val (.ref xs_28), .val (.ref b22)] []) t
    refine XS.aload X31.here hx rfl (hb hby at_163) rfl rfl ?_
    show GG p e below T31 (mkF m 165 #[.val (.int pa), .val (.int pb), .val (.int pc_), .val (.int pd_), .val (.int pe), .val (.int (1 : Int32)), .val (.int r_4), .val (.int r_7), .val (.int r_10), .val (.int r_13), .val (.ref b16), .val (.ref b22), .val (.ref xs_28), .val (.ref b22)] [(.ref b22)]) t
    refine XS.ifnullNo X31.here hx rfl (hb hby at_165) rfl ?_
    show GG p e below T31 (mkF m 168 #[.val (.int pa), .val (.int pb), .val (.int pc_), .val (.int pd_), .val (.int pe), .val (.int (1 : Int32)), .val (.int r_4), .val (.int r_7), .val (.int r_10), .val (.int r_13), .val (.ref b16), .val (.ref b22), .val (.ref xs_28), .val (.ref b22)] []) t
    refine XS.aload X31.here hx rfl (hb hby at_168) rfl rfl ?_
    show GG p e below T31 (mkF m 170 #[.val (.int pa), .val (.int pb), .val (.int pc_), .val (.int pd_), .val (.int pe), .val (.int (1 : Int32)), .val (.int r_4), .val (.int r_7), .val (.int r_10), .val (.int r_13), .val (.ref b16), .val (.ref b22), .val (.ref xs_28), .val (.ref b22)] [(.ref b22)]) t
    refine XS.aload X31.here hx rfl (hb hby at_170) rfl rfl ?_
    show GG p e below T31 (mkF m 172 #[.val (.int pa), .val (.int pb), .val (.int pc_), .val (.int pd_), .val (.int pe), .val (.int (1 : Int32)), .val (.int r_4), .val (.int r_7), .val (.int r_10), .val (.int r_13), .val (.ref b16), .val (.ref b22), .val (.ref xs_28), .val (.ref b22)] [(.ref b22), (.ref b22)]) t
    exact kk_)
  obtain ⟨cq34, kq34, q34a, q34b, q34c⟩ := isOf hZ e31 E_b22
  obtain ⟨_, _, ⟨T34, L34, k34, n34⟩, -, X34, ⟨Lc34, hQ34, l34, y34, z34⟩, st34⟩ := X31.virtualBack hx (y := mn_11) (z := mn_11) hown (mw hZ hw 92 rfl) (mw hZ hw 93 rfl) (notFace_of_selects (args := #[]) (mw hZ hw 95 rfl)) (mw hZ hw 95 rfl) (mw hZ hw 94 rfl) (by decide) (backOf (W := 0) (rm_equals l Z a0 hw [] b22 T28.heap n0 (Nat.le_trans Z0 K28.1)) hZ (ww hw 96 rfl) (ww hw 8 rfl) (by decide) (by decide)) q34a q34c (g := (mkF m 172 #[.val (.int pa), .val (.int pb), .val (.int pc_), .val (.int pd_), .val (.int pe), .val (.int (1 : Int32)), .val (.int r_4), .val (.int r_7), .val (.int r_10), .val (.int r_13), .val (.ref b16), .val (.ref b22), .val (.ref xs_28), .val (.ref b22)] [(.ref b22), (.ref b22)])) rfl (by rw [hml]; rfl) (Steps.refl _) (argsL := [(.ref b22)]) (rest := []) (lenOf pd_9 rfl) rfl (by show 2 * 0 + _ ≤ _; exact Nat.le_of_eq rfl) (hb hby at_172) (fun _ _ => ⟨rfl, e31, (by decide : 5 + 0 ≤ _), (by decide : 11 + 0 ≤ _)⟩)
  dsimp only [Pt.U, Pt.locs, Pt.cells, Pt.slots] at X34 l34 y34 z34 st34 hQ34
  subst l34 y34 z34
  obtain ⟨rfl, N34q, e34⟩ := hQ34
  have N34 := Fr.app N31 N34q
  have P35 : ∀ t, GG p e below T34 (mkF m 175 #[.val (.int pa), .val (.int pb), .val (.int pc_), .val (.int pd_), .val (.int pe), .val (.int (1 : Int32)), .val (.int r_4), .val (.int r_7), .val (.int r_10), .val (.int r_13), .val (.ref b16), .val (.ref b22), .val (.ref xs_28), .val (.ref b22)] [(.int (1 : Int32))]) t → Steps p.tables e below s0 t := fun t kk_ => P33 t (st34.trans kk_)
  have P36 : ∀ t, GG p e below T34 (mkF m 180 #[.val (.int pa), .val (.int pb), .val (.int pc_), .val (.int pd_), .val (.int pe), .val (.int (1 : Int32)), .val (.int r_4), .val (.int r_7), .val (.int r_10), .val (.int r_13), .val (.ref b16), .val (.ref b22), .val (.ref xs_28), .val (.ref b22)] [(.ref b22)]) t → Steps p.tables e below s0 t := fun t kk_ => P35 t (by
    refine XS.ifNo X34.here hx rfl (hb hby at_175) rfl ((if0 _ _).trans (feq ((by decide) : ¬ ((1 : Int32) = (0 : Int32)))).1) ?_
    show GG p e below T34 (mkF m 178 #[.val (.int pa), .val (.int pb), .val (.int pc_), .val (.int pd_), .val (.int pe), .val (.int (1 : Int32)), .val (.int r_4), .val (.int r_7), .val (.int r_10), .val (.int r_13), .val (.ref b16), .val (.ref b22), .val (.ref xs_28), .val (.ref b22)] []) t
    refine XS.aload X34.here hx rfl (hb hby at_178) rfl rfl ?_
    show GG p e below T34 (mkF m 180 #[.val (.int pa), .val (.int pb), .val (.int pc_), .val (.int pd_), .val (.int pe), .val (.int (1 : Int32)), .val (.int r_4), .val (.int r_7), .val (.int r_10), .val (.int r_13), .val (.ref b16), .val (.ref b22), .val (.ref xs_28), .val (.ref b22)] [(.ref b22)]) t
    exact kk_)
  obtain ⟨cq37, kq37, q37a, q37b, q37c⟩ := isOf hZ e34 E_b22
  obtain ⟨_, _, ⟨T37, L37, k37, n37⟩, -, X37, ⟨Lc37, hQ37, l37, y37, z37⟩, st37⟩ := X34.virtualBack hx (y := mn_4) (z := mn_4) hown (mw hZ hw 97 rfl) (mw hZ hw 59 rfl) (notFace_of_selects (args := #[]) (mw hZ hw 61 rfl)) (mw hZ hw 61 rfl) (mw hZ hw 60 rfl) (by decide) (StrChars.Road.lenW (W := 0) hZ (own_wLen hw) (kI := 4) (ww hw 7 rfl) E_b22 F_value_b22 F_coder_b22 V_t_25 (StrChars.Road.codOf (n := 1) rfl (fun x hx => ((own_up _ hcs).1 x hx).2)) ((own_up _ hcs).2) (S_COMPACT_STRINGS.ext OL.2) hz (Nat.le_of_ble_eq_true rfl) (by decide) (by decide)) q37a q37c (g := (mkF m 180 #[.val (.int pa), .val (.int pb), .val (.int pc_), .val (.int pd_), .val (.int pe), .val (.int (1 : Int32)), .val (.int r_4), .val (.int r_7), .val (.int r_10), .val (.int r_13), .val (.ref b16), .val (.ref b22), .val (.ref xs_28), .val (.ref b22)] [(.ref b22)])) rfl (by rw [hml]; rfl) (Steps.refl _) (argsL := []) (rest := []) (lenOf pd_4 rfl) rfl (by show 2 * 0 + _ ≤ _; exact Nat.le_of_eq rfl) (hb hby at_180) (fun _ _ => ⟨rfl, e34, (by decide : 5 + 0 ≤ _), (by decide : 11 + 0 ≤ _)⟩)
  dsimp only [Pt.U, Pt.locs, Pt.cells, Pt.slots] at X37 l37 y37 z37 st37 hQ37
  subst l37 y37 z37
  obtain ⟨rfl, rfl, e37⟩ := hQ37
  have N37q : Fr n0 ([] : List Loc) := Fr.nil n0
  have N37 := Fr.app N34 N37q
  have P38 : ∀ t, GG p e below T37 (mkF m 183 #[.val (.int pa), .val (.int pb), .val (.int pc_), .val (.int pd_), .val (.int pe), .val (.int (1 : Int32)), .val (.int r_4), .val (.int r_7), .val (.int r_10), .val (.int r_13), .val (.ref b16), .val (.ref b22), .val (.ref xs_28), .val (.ref b22)] [(.int (Int32.ofNat (([r_4] : List Int32)).length))]) t → Steps p.tables e below s0 t := fun t kk_ => P36 t (st37.trans kk_)
  have P39 : ∀ t, GG p e below T37 (mkF m 193 #[.val (.int pa), .val (.int pb), .val (.int pc_), .val (.int pd_), .val (.int pe), .val (.int (1 : Int32)), .val (.int r_4), .val (.int r_7), .val (.int r_10), .val (.int r_13), .val (.ref b16), .val (.ref b22), .val (.ref xs_28), .val (.ref b22)] [(.int (1 : Int32))]) t → Steps p.tables e below s0 t := fun t kk_ => P38 t (by
    refine XS.iload X37.here hx rfl (hb hby at_183) rfl ?_
    show GG p e below T37 (mkF m 185 #[.val (.int pa), .val (.int pb), .val (.int pc_), .val (.int pd_), .val (.int pe), .val (.int (1 : Int32)), .val (.int r_4), .val (.int r_7), .val (.int r_10), .val (.int r_13), .val (.ref b16), .val (.ref b22), .val (.ref xs_28), .val (.ref b22)] [(.int (1 : Int32)), (.int (Int32.ofNat (([r_4] : List Int32)).length))]) t
    refine XS.icmpNo X37.here hx rfl (hb hby at_185) rfl (teq (rfl : (Int32.ofNat (([r_4] : List Int32)).length) = (1 : Int32))).2 ?_
    show GG p e below T37 (mkF m 188 #[.val (.int pa), .val (.int pb), .val (.int pc_), .val (.int pd_), .val (.int pe), .val (.int (1 : Int32)), .val (.int r_4), .val (.int r_7), .val (.int r_10), .val (.int r_13), .val (.ref b16), .val (.ref b22), .val (.ref xs_28), .val (.ref b22)] []) t
    refine XS.iconst X37.here hx rfl (hb hby at_188) ?_
    show GG p e below T37 (mkF m 189 #[.val (.int pa), .val (.int pb), .val (.int pc_), .val (.int pd_), .val (.int pe), .val (.int (1 : Int32)), .val (.int r_4), .val (.int r_7), .val (.int r_10), .val (.int r_13), .val (.ref b16), .val (.ref b22), .val (.ref xs_28), .val (.ref b22)] [(.int (1 : Int32))]) t
    refine XS.goto X37.here hx rfl (pc0 := 189) (pc' := 193) rfl (hb hby at_189) (by decide) (by decide) ?_
    show GG p e below T37 (mkF m 193 #[.val (.int pa), .val (.int pb), .val (.int pc_), .val (.int pd_), .val (.int pe), .val (.int (1 : Int32)), .val (.int r_4), .val (.int r_7), .val (.int r_10), .val (.int r_13), .val (.ref b16), .val (.ref b22), .val (.ref xs_28), .val (.ref b22)] [(.int (1 : Int32))]) t
    exact kk_)
  subst hs0
  obtain ⟨fs, hr, hrun, hended, hW, hsame⟩ := X37.leave (v := some (.int (nar .boolean (1 : Int32)))) (fun h => by rw [Bd.returns] at h; cases h)
  refine ⟨_, _, P39 _ ?_, hrun, hended, _, _, rfl, ?_, ⟨_, rfl⟩, hW, hsame.mono (by decide) (by decide)⟩
  · show GG p e below T37 (mkF m 193 #[.val (.int pa), .val (.int pb), .val (.int pc_), .val (.int pd_), .val (.int pe), .val (.int (1 : Int32)), .val (.int r_4), .val (.int r_7), .val (.int r_10), .val (.int r_13), .val (.ref b16), .val (.ref b22), .val (.ref xs_28), .val (.ref b22)] [(.int (1 : Int32))]) _
    exact retN X37 hx (t := .boolean) Bd.returns (by simp) (hb hby at_193) hr
  · show Q_law1 Z pa pb pc_ pd_ pe G1 G3 h0 n0 _ T37.heap _
    rw [e37]
    exact ⟨rfl, N37, K28⟩
theorem ef_law2 (m : MethodId) (x0 : Int32) (x1 : Int32) (x2 : Int32) (x3 : Int32) (x4 : Int32) : entryFrame m #[(.int x0), (.int x1), (.int x2), (.int x3), (.int x4)] maxLocals = mkF m 0 #[.val (.int x0), .val (.int x1), .val (.int x2), .val (.int x3), .val (.int x4), .unset, .unset, .unset, .unset, .unset, .unset, .unset, .unset, .unset] [] := by first | (simp [entryFrame, mkF, argsToLocals, Value.category, maxLocals]; done) | rfl
def Q_law2 (Z : State) (pa : Int32) (pb : Int32) (pc_ : Int32) (pd_ : Int32) (pe : Int32) (G1 : Int32) (G3 : Value) (h0 : Heap) (n0 : Nat) (v : Option Value) (h : Heap) (L : List Loc) : Prop := v = some (.int (1 : Int32)) ∧ Fr n0 L ∧ Keep h0 h []
set_option maxRecDepth 65536 in
set_option maxHeartbeats 40000000 in
theorem rm_law2 (l : Launch) (Z : State) (a0 : Array Value) (hw : ∀ d ∈ tables_1, d.before a0 Z = true) (ws : List Jvm.Cond) (pa : Int32) (pb : Int32) (pc_ : Int32) (pd_ : Int32) (pe : Int32) (G1 : Int32) (G3 : Value) (h0 : Heap) (n0 : Nat) (Z0 : n0 ≤ h0.size) (S_COMPACT_STRINGS : Sta Z Z.heap "java/lang/String" "COMPACT_STRINGS" "Z" (.int G1)) (S_SIOOBE_FORMATTER : Sta Z Z.heap "jdk/internal/util/Preconditions" "SIOOBE_FORMATTER" "Ljava/util/function/BiFunction;" G3) (OL : Old Z n0 h0) (hz : ¬ G1 = 0) (rG3 : G3.isRef = true) (hk : (pe &&& 3) = 1) :
    MetFree l x (head1 (Jvm.Cond.code x code maxLocals ret :: ws) room_1) (fun a U => a = #[(.int pa), (.int pb), (.int pc_), (.int pd_), (.int pe)] ∧ Z.Warmed39 U.vm ∧ U.heap = h0) (fun _ _ _ _ _ => True) (fun _ U o U' => ∃ v L, o = .returned v ∧ Q_law2 Z pa pb pc_ pd_ pe G1 G3 h0 n0 v U'.heap L ∧ FrameEnd U o U' L room_1.cells room_1.slots) := by
  refine MetFree.of_bodySF (plainFor_of_name pn_0) hisR ?_
  intro p e s m args below meth c s₁ Bd hml0 hP hK
  obtain ⟨rfl, hZ, hh⟩ := hP
  have hx := Bd.exec
  have hby := Bd.bytes
  have hml : c.maxLocals = 14 := hml0
  have hown : s.vm.findClass "com/example/leagan/leagan/NamesCheckPinLaw" = some m.cls := findClass_of_methodNamed Bd.named
  have hnm := (name_of_methodNamed Bd.named Bd.method).1
  have X0 : Stand p l e room_1 s m #[(.int pa), (.int pb), (.int pc_), (.int pd_), (.int pe)] below meth c s₁ [] 0 0 := Stand.of_body Bd
  have e0 : s₁.heap = h0 := by rw [← hh, Bd.state]; rfl
  have N0 := Fr.nil n0
  obtain ⟨s0, hs0⟩ : ∃ z, z = (s₁.setTop (entryFrame m #[(.int pa), (.int pb), (.int pc_), (.int pd_), (.int pe)] maxLocals)) := ⟨_, rfl⟩
  have P0 : ∀ t, GG p e below s₁ (mkF m 0 #[.val (.int pa), .val (.int pb), .val (.int pc_), .val (.int pd_), .val (.int pe), .unset, .unset, .unset, .unset, .unset, .unset, .unset, .unset, .unset] []) t → Steps p.tables e below s0 t := fun t kk_ => by rw [hs0]; exact castTop (ef_law2 m pa pb pc_ pd_ pe) kk_
  have P1 : ∀ t, GG p e below s₁ (mkF m 5 #[.val (.int pa), .val (.int pb), .val (.int pc_), .val (.int pd_), .val (.int pe), .unset, .unset, .unset, .unset, .unset, .unset, .unset, .unset, .unset] [(.int (pe &&& (3 : Int32))), (.int (1 : Int32))]) t → Steps p.tables e below s0 t := fun t kk_ => P0 t (by
    refine XS.iconst X0.here hx rfl (hb hby at_0) ?_
    show GG p e below s₁ (mkF m 1 #[.val (.int pa), .val (.int pb), .val (.int pc_), .val (.int pd_), .val (.int pe), .unset, .unset, .unset, .unset, .unset, .unset, .unset, .unset, .unset] [(.int (1 : Int32))]) t
    refine XS.iload X0.here hx rfl (hb hby at_1) rfl ?_
    show GG p e below s₁ (mkF m 3 #[.val (.int pa), .val (.int pb), .val (.int pc_), .val (.int pd_), .val (.int pe), .unset, .unset, .unset, .unset, .unset, .unset, .unset, .unset, .unset] [(.int pe), (.int (1 : Int32))]) t
    refine XS.iconst X0.here hx rfl (hb hby at_3) ?_
    show GG p e below s₁ (mkF m 4 #[.val (.int pa), .val (.int pb), .val (.int pc_), .val (.int pd_), .val (.int pe), .unset, .unset, .unset, .unset, .unset, .unset, .unset, .unset, .unset] [(.int (3 : Int32)), (.int pe), (.int (1 : Int32))]) t
    refine XS.iand X0.here hx rfl (hb hby at_4) rfl ?_
    show GG p e below s₁ (mkF m 5 #[.val (.int pa), .val (.int pb), .val (.int pc_), .val (.int pd_), .val (.int pe), .unset, .unset, .unset, .unset, .unset, .unset, .unset, .unset, .unset] [(.int (pe &&& (3 : Int32))), (.int (1 : Int32))]) t
    exact kk_)
  have P2 : ∀ t, GG p e below s₁ (mkF m 5 #[.val (.int pa), .val (.int pb), .val (.int pc_), .val (.int pd_), .val (.int pe), .unset, .unset, .unset, .unset, .unset, .unset, .unset, .unset, .unset] [(.int (1 : Int32)), (.int (1 : Int32))]) t → Steps p.tables e below s0 t := fun t kk_ => P1 t (by rw [hk]; exact kk_)
  have P3 : ∀ t, GG p e below s₁ (mkF m 9 #[.val (.int pa), .val (.int pb), .val (.int pc_), .val (.int pd_), .val (.int pe), .val (.int (2 : Int32)), .unset, .unset, .unset, .unset, .unset, .unset, .unset, .unset] [(.int pa)]) t → Steps p.tables e below s0 t := fun t kk_ => P2 t (by
    refine XS.iadd X0.here hx rfl (hb hby at_5) rfl ?_
    show GG p e below s₁ (mkF m 6 #[.val (.int pa), .val (.int pb), .val (.int pc_), .val (.int pd_), .val (.int pe), .unset, .unset, .unset, .unset, .unset, .unset, .unset, .unset, .unset] [(.int (2 : Int32))]) t
    refine XS.istore X0.here hx rfl (hb hby at_6) rfl (l' := #[.val (.int pa), .val (.int pb), .val (.int pc_), .val (.int pd_), .val (.int pe), .val (.int (2 : Int32)), .unset, .unset, .unset, .unset, .unset, .unset, .unset, .unset]) rfl ?_
    show GG p e below s₁ (mkF m 8 #[.val (.int pa), .val (.int pb), .val (.int pc_), .val (.int pd_), .val (.int pe), .val (.int (2 : Int32)), .unset, .unset, .unset, .unset, .unset, .unset, .unset, .unset] []) t
    refine XS.iloadN X0.here hx rfl (hb hby at_8) rfl ?_
    show GG p e below s₁ (mkF m 9 #[.val (.int pa), .val (.int pb), .val (.int pc_), .val (.int pd_), .val (.int pe), .val (.int (2 : Int32)), .unset, .unset, .unset, .unset, .unset, .unset, .unset, .unset] [(.int pa)]) t
    exact kk_)
  obtain ⟨_, _, ⟨T4, L4, k4, n4⟩, -, X4, ⟨Lc4, hQ4, l4, y4, z4⟩, st4⟩ := Jvm.LawKit.callS X0 hx (y := mn_7) hown (mw hZ hw 0 rfl) (mw hZ hw 1 rfl) (mw hZ hw 2 rfl) (mw hZ hw 3 rfl) (by decide) (backOf (W := 0) (rm_pick l Z a0 hw [] pa h0 n0 (Nat.le_trans Z0 (Nat.le_refl h0.size))) hZ (ww hw 3 rfl) (ww hw 2 rfl) (by decide) (by decide)) (g := (mkF m 9 #[.val (.int pa), .val (.int pb), .val (.int pc_), .val (.int pd_), .val (.int pe), .val (.int (2 : Int32)), .unset, .unset, .unset, .unset, .unset, .unset, .unset, .unset] [(.int pa)])) rfl (by rw [hml]; rfl) (argsL := [(.int pa)]) (rest := []) (lenOf pd_5 rfl) rfl (by show 2 * 0 + _ ≤ _; exact Nat.le_of_eq rfl) (hb hby at_9) (fun _ _ => ⟨rfl, e0, (by decide : 0 + 0 ≤ _), (by decide : 0 + 0 ≤ _)⟩)
  dsimp only [Pt.U, Pt.locs, Pt.cells, Pt.slots] at X4 l4 y4 z4 st4 hQ4
  subst l4 y4 z4
  obtain ⟨r_4, rfl, N4q, e4, po4_0⟩ := hQ4
  have N4 := Fr.app N0 N4q
  have P5 : ∀ t, GG p e below T4 (mkF m 12 #[.val (.int pa), .val (.int pb), .val (.int pc_), .val (.int pd_), .val (.int pe), .val (.int (2 : Int32)), .unset, .unset, .unset, .unset, .unset, .unset, .unset, .unset] [(.int r_4)]) t → Steps p.tables e below s0 t := fun t kk_ => P3 t (st4 _ kk_)
  have okr_4 := po4_0
  have P6 : ∀ t, GG p e below T4 (mkF m 15 #[.val (.int pa), .val (.int pb), .val (.int pc_), .val (.int pd_), .val (.int pe), .val (.int (2 : Int32)), .val (.int r_4), .unset, .unset, .unset, .unset, .unset, .unset, .unset] [(.int pb)]) t → Steps p.tables e below s0 t := fun t kk_ => P5 t (by
    refine XS.istore X4.here hx rfl (hb hby at_12) rfl (l' := #[.val (.int pa), .val (.int pb), .val (.int pc_), .val (.int pd_), .val (.int pe), .val (.int (2 : Int32)), .val (.int r_4), .unset, .unset, .unset, .unset, .unset, .unset, .unset]) rfl ?_
    show GG p e below T4 (mkF m 14 #[.val (.int pa), .val (.int pb), .val (.int pc_), .val (.int pd_), .val (.int pe), .val (.int (2 : Int32)), .val (.int r_4), .unset, .unset, .unset, .unset, .unset, .unset, .unset] []) t
    refine XS.iloadN X4.here hx rfl (hb hby at_14) rfl ?_
    show GG p e below T4 (mkF m 15 #[.val (.int pa), .val (.int pb), .val (.int pc_), .val (.int pd_), .val (.int pe), .val (.int (2 : Int32)), .val (.int r_4), .unset, .unset, .unset, .unset, .unset, .unset, .unset] [(.int pb)]) t
    exact kk_)
  obtain ⟨_, _, ⟨T7, L7, k7, n7⟩, -, X7, ⟨Lc7, hQ7, l7, y7, z7⟩, st7⟩ := Jvm.LawKit.callS X4 hx (y := mn_7) hown (mw hZ hw 0 rfl) (mw hZ hw 1 rfl) (mw hZ hw 2 rfl) (mw hZ hw 3 rfl) (by decide) (backOf (W := 0) (rm_pick l Z a0 hw [] pb h0 n0 (Nat.le_trans Z0 (Nat.le_refl h0.size))) hZ (ww hw 3 rfl) (ww hw 2 rfl) (by decide) (by decide)) (g := (mkF m 15 #[.val (.int pa), .val (.int pb), .val (.int pc_), .val (.int pd_), .val (.int pe), .val (.int (2 : Int32)), .val (.int r_4), .unset, .unset, .unset, .unset, .unset, .unset, .unset] [(.int pb)])) rfl (by rw [hml]; rfl) (argsL := [(.int pb)]) (rest := []) (lenOf pd_5 rfl) rfl (by show 2 * 0 + _ ≤ _; exact Nat.le_of_eq rfl) (hb hby at_15) (fun _ _ => ⟨rfl, e4, (by decide : 0 + 0 ≤ _), (by decide : 0 + 0 ≤ _)⟩)
  dsimp only [Pt.U, Pt.locs, Pt.cells, Pt.slots] at X7 l7 y7 z7 st7 hQ7
  subst l7 y7 z7
  obtain ⟨r_7, rfl, N7q, e7, po7_0⟩ := hQ7
  have N7 := Fr.app N4 N7q
  have P8 : ∀ t, GG p e below T7 (mkF m 18 #[.val (.int pa), .val (.int pb), .val (.int pc_), .val (.int pd_), .val (.int pe), .val (.int (2 : Int32)), .val (.int r_4), .unset, .unset, .unset, .unset, .unset, .unset, .unset] [(.int r_7)]) t → Steps p.tables e below s0 t := fun t kk_ => P6 t (st7 _ kk_)
  have okr_7 := po7_0
  have P9 : ∀ t, GG p e below T7 (mkF m 21 #[.val (.int pa), .val (.int pb), .val (.int pc_), .val (.int pd_), .val (.int pe), .val (.int (2 : Int32)), .val (.int r_4), .val (.int r_7), .unset, .unset, .unset, .unset, .unset, .unset] [(.int pc_)]) t → Steps p.tables e below s0 t := fun t kk_ => P8 t (by
    refine XS.istore X7.here hx rfl (hb hby at_18) rfl (l' := #[.val (.int pa), .val (.int pb), .val (.int pc_), .val (.int pd_), .val (.int pe), .val (.int (2 : Int32)), .val (.int r_4), .val (.int r_7), .unset, .unset, .unset, .unset, .unset, .unset]) rfl ?_
    show GG p e below T7 (mkF m 20 #[.val (.int pa), .val (.int pb), .val (.int pc_), .val (.int pd_), .val (.int pe), .val (.int (2 : Int32)), .val (.int r_4), .val (.int r_7), .unset, .unset, .unset, .unset, .unset, .unset] []) t
    refine XS.iloadN X7.here hx rfl (hb hby at_20) rfl ?_
    show GG p e below T7 (mkF m 21 #[.val (.int pa), .val (.int pb), .val (.int pc_), .val (.int pd_), .val (.int pe), .val (.int (2 : Int32)), .val (.int r_4), .val (.int r_7), .unset, .unset, .unset, .unset, .unset, .unset] [(.int pc_)]) t
    exact kk_)
  obtain ⟨_, _, ⟨T10, L10, k10, n10⟩, -, X10, ⟨Lc10, hQ10, l10, y10, z10⟩, st10⟩ := Jvm.LawKit.callS X7 hx (y := mn_7) hown (mw hZ hw 0 rfl) (mw hZ hw 1 rfl) (mw hZ hw 2 rfl) (mw hZ hw 3 rfl) (by decide) (backOf (W := 0) (rm_pick l Z a0 hw [] pc_ h0 n0 (Nat.le_trans Z0 (Nat.le_refl h0.size))) hZ (ww hw 3 rfl) (ww hw 2 rfl) (by decide) (by decide)) (g := (mkF m 21 #[.val (.int pa), .val (.int pb), .val (.int pc_), .val (.int pd_), .val (.int pe), .val (.int (2 : Int32)), .val (.int r_4), .val (.int r_7), .unset, .unset, .unset, .unset, .unset, .unset] [(.int pc_)])) rfl (by rw [hml]; rfl) (argsL := [(.int pc_)]) (rest := []) (lenOf pd_5 rfl) rfl (by show 2 * 0 + _ ≤ _; exact Nat.le_of_eq rfl) (hb hby at_21) (fun _ _ => ⟨rfl, e7, (by decide : 0 + 0 ≤ _), (by decide : 0 + 0 ≤ _)⟩)
  dsimp only [Pt.U, Pt.locs, Pt.cells, Pt.slots] at X10 l10 y10 z10 st10 hQ10
  subst l10 y10 z10
  obtain ⟨r_10, rfl, N10q, e10, po10_0⟩ := hQ10
  have N10 := Fr.app N7 N10q
  have P11 : ∀ t, GG p e below T10 (mkF m 24 #[.val (.int pa), .val (.int pb), .val (.int pc_), .val (.int pd_), .val (.int pe), .val (.int (2 : Int32)), .val (.int r_4), .val (.int r_7), .unset, .unset, .unset, .unset, .unset, .unset] [(.int r_10)]) t → Steps p.tables e below s0 t := fun t kk_ => P9 t (st10 _ kk_)
  have okr_10 := po10_0
  have P12 : ∀ t, GG p e below T10 (mkF m 27 #[.val (.int pa), .val (.int pb), .val (.int pc_), .val (.int pd_), .val (.int pe), .val (.int (2 : Int32)), .val (.int r_4), .val (.int r_7), .val (.int r_10), .unset, .unset, .unset, .unset, .unset] [(.int pd_)]) t → Steps p.tables e below s0 t := fun t kk_ => P11 t (by
    refine XS.istore X10.here hx rfl (hb hby at_24) rfl (l' := #[.val (.int pa), .val (.int pb), .val (.int pc_), .val (.int pd_), .val (.int pe), .val (.int (2 : Int32)), .val (.int r_4), .val (.int r_7), .val (.int r_10), .unset, .unset, .unset, .unset, .unset]) rfl ?_
    show GG p e below T10 (mkF m 26 #[.val (.int pa), .val (.int pb), .val (.int pc_), .val (.int pd_), .val (.int pe), .val (.int (2 : Int32)), .val (.int r_4), .val (.int r_7), .val (.int r_10), .unset, .unset, .unset, .unset, .unset] []) t
    refine XS.iloadN X10.here hx rfl (hb hby at_26) rfl ?_
    show GG p e below T10 (mkF m 27 #[.val (.int pa), .val (.int pb), .val (.int pc_), .val (.int pd_), .val (.int pe), .val (.int (2 : Int32)), .val (.int r_4), .val (.int r_7), .val (.int r_10), .unset, .unset, .unset, .unset, .unset] [(.int pd_)]) t
    exact kk_)
  obtain ⟨_, _, ⟨T13, L13, k13, n13⟩, -, X13, ⟨Lc13, hQ13, l13, y13, z13⟩, st13⟩ := Jvm.LawKit.callS X10 hx (y := mn_7) hown (mw hZ hw 0 rfl) (mw hZ hw 1 rfl) (mw hZ hw 2 rfl) (mw hZ hw 3 rfl) (by decide) (backOf (W := 0) (rm_pick l Z a0 hw [] pd_ h0 n0 (Nat.le_trans Z0 (Nat.le_refl h0.size))) hZ (ww hw 3 rfl) (ww hw 2 rfl) (by decide) (by decide)) (g := (mkF m 27 #[.val (.int pa), .val (.int pb), .val (.int pc_), .val (.int pd_), .val (.int pe), .val (.int (2 : Int32)), .val (.int r_4), .val (.int r_7), .val (.int r_10), .unset, .unset, .unset, .unset, .unset] [(.int pd_)])) rfl (by rw [hml]; rfl) (argsL := [(.int pd_)]) (rest := []) (lenOf pd_5 rfl) rfl (by show 2 * 0 + _ ≤ _; exact Nat.le_of_eq rfl) (hb hby at_27) (fun _ _ => ⟨rfl, e10, (by decide : 0 + 0 ≤ _), (by decide : 0 + 0 ≤ _)⟩)
  dsimp only [Pt.U, Pt.locs, Pt.cells, Pt.slots] at X13 l13 y13 z13 st13 hQ13
  subst l13 y13 z13
  obtain ⟨r_13, rfl, N13q, e13, po13_0⟩ := hQ13
  have N13 := Fr.app N10 N13q
  have P14 : ∀ t, GG p e below T13 (mkF m 30 #[.val (.int pa), .val (.int pb), .val (.int pc_), .val (.int pd_), .val (.int pe), .val (.int (2 : Int32)), .val (.int r_4), .val (.int r_7), .val (.int r_10), .unset, .unset, .unset, .unset, .unset] [(.int r_13)]) t → Steps p.tables e below s0 t := fun t kk_ => P12 t (st13 _ kk_)
  have okr_13 := po13_0
  have P15 : ∀ t, GG p e below T13 (mkF m 58 #[.val (.int pa), .val (.int pb), .val (.int pc_), .val (.int pd_), .val (.int pe), .val (.int (2 : Int32)), .val (.int r_4), .val (.int r_7), .val (.int r_10), .val (.int r_13), .unset, .unset, .unset, .unset] [(.int (2 : Int32))]) t → Steps p.tables e below s0 t := fun t kk_ => P14 t (by
    refine XS.istore X13.here hx rfl (hb hby at_30) rfl (l' := #[.val (.int pa), .val (.int pb), .val (.int pc_), .val (.int pd_), .val (.int pe), .val (.int (2 : Int32)), .val (.int r_4), .val (.int r_7), .val (.int r_10), .val (.int r_13), .unset, .unset, .unset, .unset]) rfl ?_
    show GG p e below T13 (mkF m 32 #[.val (.int pa), .val (.int pb), .val (.int pc_), .val (.int pd_), .val (.int pe), .val (.int (2 : Int32)), .val (.int r_4), .val (.int r_7), .val (.int r_10), .val (.int r_13), .unset, .unset, .unset, .unset] []) t
    refine XS.iload X13.here hx rfl (hb hby at_32) rfl ?_
    show GG p e below T13 (mkF m 34 #[.val (.int pa), .val (.int pb), .val (.int pc_), .val (.int pd_), .val (.int pe), .val (.int (2 : Int32)), .val (.int r_4), .val (.int r_7), .val (.int r_10), .val (.int r_13), .unset, .unset, .unset, .unset] [(.int (2 : Int32))]) t
    refine XS.iconst X13.here hx rfl (hb hby at_34) ?_
    show GG p e below T13 (mkF m 35 #[.val (.int pa), .val (.int pb), .val (.int pc_), .val (.int pd_), .val (.int pe), .val (.int (2 : Int32)), .val (.int r_4), .val (.int r_7), .val (.int r_10), .val (.int r_13), .unset, .unset, .unset, .unset] [(.int (1 : Int32)), (.int (2 : Int32))]) t
    refine XS.icmpYes X13.here hx rfl (pc0 := 35) (pc' := 51) rfl (hb hby at_35) rfl (feq ((by decide) : ¬ ((2 : Int32) = (1 : Int32)))).2 (by decide) (by decide) ?_
    show GG p e below T13 (mkF m 51 #[.val (.int pa), .val (.int pb), .val (.int pc_), .val (.int pd_), .val (.int pe), .val (.int (2 : Int32)), .val (.int r_4), .val (.int r_7), .val (.int r_10), .val (.int r_13), .unset, .unset, .unset, .unset] []) t
    refine XS.iload X13.here hx rfl (hb hby at_51) rfl ?_
    show GG p e below T13 (mkF m 53 #[.val (.int pa), .val (.int pb), .val (.int pc_), .val (.int pd_), .val (.int pe), .val (.int (2 : Int32)), .val (.int r_4), .val (.int r_7), .val (.int r_10), .val (.int r_13), .unset, .unset, .unset, .unset] [(.int (2 : Int32))]) t
    refine XS.iconst X13.here hx rfl (hb hby at_53) ?_
    show GG p e below T13 (mkF m 54 #[.val (.int pa), .val (.int pb), .val (.int pc_), .val (.int pd_), .val (.int pe), .val (.int (2 : Int32)), .val (.int r_4), .val (.int r_7), .val (.int r_10), .val (.int r_13), .unset, .unset, .unset, .unset] [(.int (2 : Int32)), (.int (2 : Int32))]) t
    refine XS.icmpNo X13.here hx rfl (hb hby at_54) rfl (teq ((by decide) : (2 : Int32) = (2 : Int32))).2 ?_
    show GG p e below T13 (mkF m 57 #[.val (.int pa), .val (.int pb), .val (.int pc_), .val (.int pd_), .val (.int pe), .val (.int (2 : Int32)), .val (.int r_4), .val (.int r_7), .val (.int r_10), .val (.int r_13), .unset, .unset, .unset, .unset] []) t
    refine XS.iconst X13.here hx rfl (hb hby at_57) ?_
    show GG p e below T13 (mkF m 58 #[.val (.int pa), .val (.int pb), .val (.int pc_), .val (.int pd_), .val (.int pe), .val (.int (2 : Int32)), .val (.int r_4), .val (.int r_7), .val (.int r_10), .val (.int r_13), .unset, .unset, .unset, .unset] [(.int (2 : Int32))]) t
    exact kk_)
  obtain ⟨T16, h16, k16, X16, e16, E16, A16, st16⟩ := newP X13 hx hZ (ww hw 5 rfl) e13 (g := (mkF m 58 #[.val (.int pa), .val (.int pb), .val (.int pc_), .val (.int pd_), .val (.int pe), .val (.int (2 : Int32)), .val (.int r_4), .val (.int r_7), .val (.int r_10), .val (.int r_13), .unset, .unset, .unset, .unset] [(.int (2 : Int32))])) rfl (hb hby at_58) rfl (by decide) (cap := 2) (by decide) (by decide) (by decide) (by decide)
  obtain ⟨b16, g16⟩ : ∃ z, z = h0.size := ⟨_, rfl⟩
  rw [← g16] at A16 st16
  have P17 : ∀ t, GG p e below T16 (mkF m 60 #[.val (.int pa), .val (.int pb), .val (.int pc_), .val (.int pd_), .val (.int pe), .val (.int (2 : Int32)), .val (.int r_4), .val (.int r_7), .val (.int r_10), .val (.int r_13), .unset, .unset, .unset, .unset] [(.ref b16)]) t → Steps p.tables e below s0 t := fun t kk_ => P15 t (st16 _ kk_)
  have sz_b16 : h0.size ≤ b16 := Nat.le_trans (Nat.le_refl h0.size) (Nat.le_of_eq g16.symm)
  replace OL : Old Z n0 h16 := OL.ext E16
  have K16 : Keep h0 h16 [] := (Keep.refl h0 []).ext E16
  have V_b16 : Arv Z h16 b16 k16 .char (2 : Int32) [(.int (0 : Int32)), (.int (0 : Int32))] (.int (0 : Int32)) := (Arv.new A16 (by decide)).pad (pad_rep [] (.int (0 : Int32)) 2)
  have P18 : ∀ t, GG p e below T16 (mkF m 64 #[.val (.int pa), .val (.int pb), .val (.int pc_), .val (.int pd_), .val (.int pe), .val (.int (2 : Int32)), .val (.int r_4), .val (.int r_7), .val (.int r_10), .val (.int r_13), .unset, .unset, .unset, .unset] [(.int r_4), (.int (0 : Int32)), (.ref b16), (.ref b16)]) t → Steps p.tables e below s0 t := fun t kk_ => P17 t (by
    refine XS.dup X16.here hx rfl (hb hby at_60) rfl rfl ?_
    show GG p e below T16 (mkF m 61 #[.val (.int pa), .val (.int pb), .val (.int pc_), .val (.int pd_), .val (.int pe), .val (.int (2 : Int32)), .val (.int r_4), .val (.int r_7), .val (.int r_10), .val (.int r_13), .unset, .unset, .unset, .unset] [(.ref b16), (.ref b16)]) t
    refine XS.iconst X16.here hx rfl (hb hby at_61) ?_
    show GG p e below T16 (mkF m 62 #[.val (.int pa), .val (.int pb), .val (.int pc_), .val (.int pd_), .val (.int pe), .val (.int (2 : Int32)), .val (.int r_4), .val (.int r_7), .val (.int r_10), .val (.int r_13), .unset, .unset, .unset, .unset] [(.int (0 : Int32)), (.ref b16), (.ref b16)]) t
    refine XS.iload X16.here hx rfl (hb hby at_62) rfl ?_
    show GG p e below T16 (mkF m 64 #[.val (.int pa), .val (.int pb), .val (.int pc_), .val (.int pd_), .val (.int pe), .val (.int (2 : Int32)), .val (.int r_4), .val (.int r_7), .val (.int r_10), .val (.int r_13), .unset, .unset, .unset, .unset] [(.int r_4), (.int (0 : Int32)), (.ref b16), (.ref b16)]) t
    exact kk_)
  obtain ⟨cl19, Ar19, q19, S19, M19, Hs19, G19⟩ := V_b16
  obtain ⟨T19, h19, X19, e19, W19, st19⟩ := stC X16 hx hZ e16 Ar19 (j := (0 : Int32)) (inb_of S19 ⟨by decide, by decide⟩) (g := (mkF m 64 #[.val (.int pa), .val (.int pb), .val (.int pc_), .val (.int pd_), .val (.int pe), .val (.int (2 : Int32)), .val (.int r_4), .val (.int r_7), .val (.int r_10), .val (.int r_13), .unset, .unset, .unset, .unset] [(.int r_4), (.int (0 : Int32)), (.ref b16), (.ref b16)])) rfl rfl (hb hby at_64)
  have P20 : ∀ t, GG p e below T19 (mkF m 65 #[.val (.int pa), .val (.int pb), .val (.int pc_), .val (.int pd_), .val (.int pe), .val (.int (2 : Int32)), .val (.int r_4), .val (.int r_7), .val (.int r_10), .val (.int r_13), .unset, .unset, .unset, .unset] [(.ref b16)]) t → Steps p.tables e below s0 t := fun t kk_ => P18 t (st19 _ kk_)
  have N19 := Fr.snoc X19 N13 (Nat.le_trans Z0 sz_b16)
  have K19 : Keep h0 h19 [] := K16.wr W19 (Or.inr sz_b16)
  replace OL : Old Z n0 h19 := OL.wr W19 (Nat.le_trans Z0 sz_b16)
  have V_b16 : Arv Z h19 b16 k16 .char (2 : Int32) [(.int (nar .char r_4)), (.int (0 : Int32))] (.int (0 : Int32)) := Arv.set Ar19 q19 S19 M19 Hs19 G19 (fits_nar_char _) W19 0 rfl (Nat.le_of_ble_eq_true rfl)
  have P21 : ∀ t, GG p e below T19 (mkF m 69 #[.val (.int pa), .val (.int pb), .val (.int pc_), .val (.int pd_), .val (.int pe), .val (.int (2 : Int32)), .val (.int r_4), .val (.int r_7), .val (.int r_10), .val (.int r_13), .unset, .unset, .unset, .unset] [(.int r_7), (.int (1 : Int32)), (.ref b16), (.ref b16)]) t → Steps p.tables e below s0 t := fun t kk_ => P20 t (by
    refine XS.dup X19.here hx rfl (hb hby at_65) rfl rfl ?_
    show GG p e below T19 (mkF m 66 #[.val (.int pa), .val (.int pb), .val (.int pc_), .val (.int pd_), .val (.int pe), .val (.int (2 : Int32)), .val (.int r_4), .val (.int r_7), .val (.int r_10), .val (.int r_13), .unset, .unset, .unset, .unset] [(.ref b16), (.ref b16)]) t
    refine XS.iconst X19.here hx rfl (hb hby at_66) ?_
    show GG p e below T19 (mkF m 67 #[.val (.int pa), .val (.int pb), .val (.int pc_), .val (.int pd_), .val (.int pe), .val (.int (2 : Int32)), .val (.int r_4), .val (.int r_7), .val (.int r_10), .val (.int r_13), .unset, .unset, .unset, .unset] [(.int (1 : Int32)), (.ref b16), (.ref b16)]) t
    refine XS.iload X19.here hx rfl (hb hby at_67) rfl ?_
    show GG p e below T19 (mkF m 69 #[.val (.int pa), .val (.int pb), .val (.int pc_), .val (.int pd_), .val (.int pe), .val (.int (2 : Int32)), .val (.int r_4), .val (.int r_7), .val (.int r_10), .val (.int r_13), .unset, .unset, .unset, .unset] [(.int r_7), (.int (1 : Int32)), (.ref b16), (.ref b16)]) t
    exact kk_)
  obtain ⟨cl22, Ar22, q22, S22, M22, Hs22, G22⟩ := V_b16
  obtain ⟨T22, h22, X22, e22, W22, st22⟩ := stC X19 hx hZ e19 Ar22 (j := (1 : Int32)) (inb_of S22 ⟨by decide, by decide⟩) (g := (mkF m 69 #[.val (.int pa), .val (.int pb), .val (.int pc_), .val (.int pd_), .val (.int pe), .val (.int (2 : Int32)), .val (.int r_4), .val (.int r_7), .val (.int r_10), .val (.int r_13), .unset, .unset, .unset, .unset] [(.int r_7), (.int (1 : Int32)), (.ref b16), (.ref b16)])) rfl rfl (hb hby at_69)
  have P23 : ∀ t, GG p e below T22 (mkF m 70 #[.val (.int pa), .val (.int pb), .val (.int pc_), .val (.int pd_), .val (.int pe), .val (.int (2 : Int32)), .val (.int r_4), .val (.int r_7), .val (.int r_10), .val (.int r_13), .unset, .unset, .unset, .unset] [(.ref b16)]) t → Steps p.tables e below s0 t := fun t kk_ => P21 t (st22 _ kk_)
  have N22 := Fr.snoc X22 N19 (Nat.le_trans Z0 sz_b16)
  have K22 : Keep h0 h22 [] := K19.wr W22 (Or.inr sz_b16)
  replace OL : Old Z n0 h22 := OL.wr W22 (Nat.le_trans Z0 sz_b16)
  have V_b16 : Arv Z h22 b16 k16 .char (2 : Int32) [(.int (nar .char r_4)), (.int (nar .char r_7))] (.int (0 : Int32)) := Arv.set Ar22 q22 S22 M22 Hs22 G22 (fits_nar_char _) W22 1 rfl (Nat.le_of_ble_eq_true rfl)
  have P24 : ∀ t, GG p e below T22 (mkF m 129 #[.val (.int pa), .val (.int pb), .val (.int pc_), .val (.int pd_), .val (.int pe), .val (.int (2 : Int32)), .val (.int r_4), .val (.int r_7), .val (.int r_10), .val (.int r_13), .val (.ref b16), .unset, .unset, .unset] []) t → Steps p.tables e below s0 t := fun t kk_ => P23 t (by
    refine XS.astore X22.here hx rfl (hb hby at_70) rfl rfl (l' := #[.val (.int pa), .val (.int pb), .val (.int pc_), .val (.int pd_), .val (.int pe), .val (.int (2 : Int32)), .val (.int r_4), .val (.int r_7), .val (.int r_10), .val (.int r_13), .val (.ref b16), .unset, .unset, .unset]) rfl ?_
    show GG p e below T22 (mkF m 72 #[.val (.int pa), .val (.int pb), .val (.int pc_), .val (.int pd_), .val (.int pe), .val (.int (2 : Int32)), .val (.int r_4), .val (.int r_7), .val (.int r_10), .val (.int r_13), .val (.ref b16), .unset, .unset, .unset] []) t
    refine XS.goto X22.here hx rfl (pc0 := 72) (pc' := 129) rfl (hb hby at_72) (by decide) (by decide) ?_
    show GG p e below T22 (mkF m 129 #[.val (.int pa), .val (.int pb), .val (.int pc_), .val (.int pd_), .val (.int pe), .val (.int (2 : Int32)), .val (.int r_4), .val (.int r_7), .val (.int r_10), .val (.int r_13), .val (.ref b16), .unset, .unset, .unset] []) t
    exact kk_)
  have hcs : ∀ c ∈ ([r_4, r_7] : List Int32), okB c = true := by
    intro c hc
    simp only [List.mem_cons, List.not_mem_nil, or_false] at hc
    rcases hc with rfl | rfl
    · exact okr_4
    · exact okr_7
  replace V_b16 : Arv Z h22 b16 k16 .char (2 : Int32) (([r_4, r_7] : List Int32).map Value.int) (.int (0 : Int32)) := by
    have q := V_b16
    rw [(own_ok r_4 okr_4).2, (own_ok r_7 okr_7).2] at q
    exact q
  obtain ⟨T25, h25, X25, e25, E25, A25, D25, -, st25⟩ := newO X22 hx hZ hown (ww hw 6 rfl) (ww hw 7 rfl) (ww hw 8 rfl) e22 (g := (mkF m 129 #[.val (.int pa), .val (.int pb), .val (.int pc_), .val (.int pd_), .val (.int pe), .val (.int (2 : Int32)), .val (.int r_4), .val (.int r_7), .val (.int r_10), .val (.int r_13), .val (.ref b16), .unset, .unset, .unset] [])) rfl (hb hby at_129) (by decide) (by decide)
  obtain ⟨b25, g25⟩ : ∃ z, z = h22.size := ⟨_, rfl⟩
  rw [← g25] at A25 D25 st25
  have P26 : ∀ t, GG p e below T25 (mkF m 132 #[.val (.int pa), .val (.int pb), .val (.int pc_), .val (.int pd_), .val (.int pe), .val (.int (2 : Int32)), .val (.int r_4), .val (.int r_7), .val (.int r_10), .val (.int r_13), .val (.ref b16), .unset, .unset, .unset] [(.ref b25)]) t → Steps p.tables e below s0 t := fun t kk_ => P24 t (st25 _ kk_)
  have ne_b16_b25 : b16 ≠ b25 := Nat.ne_of_lt (Nat.lt_of_lt_of_le V_b16.lt (Nat.le_of_eq g25.symm))
  have sz_b25 : h0.size ≤ b25 := Nat.le_trans K22.1 (Nat.le_of_eq g25.symm)
  replace OL : Old Z n0 h25 := OL.ext E25
  replace V_b16 : Arv Z h25 b16 k16 .char (2 : Int32) (([r_4, r_7] : List Int32).map Value.int) (.int (0 : Int32)) := V_b16.ext E25
  have K25 : Keep h0 h25 [] := K22.ext E25
  have E_b25 : Exa Z h25 b25 "java/lang/String" := A25
  have F_coder_b25 : Fld Z h25 b25 "java/lang/String" "coder" "B" (.int (0 : Int32)) := D25 (Or.inr (ww hw 32 rfl)) (ty := .byte) (by decide)
  have F_value_b25 : Fld Z h25 b25 "java/lang/String" "value" "[B" .null := D25 (Or.inr (ww hw 34 rfl)) (ty := (.array .byte)) (by decide)
  have P27 : ∀ t, GG p e below T25 (mkF m 135 #[.val (.int pa), .val (.int pb), .val (.int pc_), .val (.int pd_), .val (.int pe), .val (.int (2 : Int32)), .val (.int r_4), .val (.int r_7), .val (.int r_10), .val (.int r_13), .val (.ref b16), .unset, .unset, .unset] [(.ref b16), (.ref b25), (.ref b25)]) t → Steps p.tables e below s0 t := fun t kk_ => P26 t (by
    refine XS.dup X25.here hx rfl (hb hby at_132) rfl rfl ?_
    show GG p e below T25 (mkF m 133 #[.val (.int pa), .val (.int pb), .val (.int pc_), .val (.int pd_), .val (.int pe), .val (.int (2 : Int32)), .val (.int r_4), .val (.int r_7), .val (.int r_10), .val (.int r_13), .val (.ref b16), .unset, .unset, .unset] [(.ref b25), (.ref b25)]) t
    refine XS.aload X25.here hx rfl (hb hby at_133) rfl rfl ?_
    show GG p e below T25 (mkF m 135 #[.val (.int pa), .val (.int pb), .val (.int pc_), .val (.int pd_), .val (.int pe), .val (.int (2 : Int32)), .val (.int r_4), .val (.int r_7), .val (.int r_10), .val (.int r_13), .val (.ref b16), .unset, .unset, .unset] [(.ref b16), (.ref b25), (.ref b25)]) t
    exact kk_)
  obtain ⟨_, _, ⟨T28, L28, k28, n28⟩, -, X28, ⟨Lc28, hQ28, l28, y28, z28⟩, st28⟩ := X25.specialBack hx (y := mn_8) rfl hown (mw hZ hw 9 rfl) (mw hZ hw 10 rfl) (mw hZ hw 11 rfl) (by decide) (StrChars.Road.backV (W := 1) hZ (own_wNew hw) (kI := 4) (ww hw 7 rfl) (cs := ([r_4, r_7] : List Int32)) (bs := (([r_4, r_7] : List Int32)).map (fun c => c.toInt8.toInt32)) (n := 2) (Nat.le_trans Z0 sz_b25) (Nat.le_trans Z0 K25.1) E_b25 F_value_b25 F_coder_b25 V_b16 (S_COMPACT_STRINGS.ext OL.2) hz rfl rfl (by decide) (by decide) ((own_up _ hcs).1) rfl (by decide) (by decide)) (g := (mkF m 135 #[.val (.int pa), .val (.int pb), .val (.int pc_), .val (.int pd_), .val (.int pe), .val (.int (2 : Int32)), .val (.int r_4), .val (.int r_7), .val (.int r_10), .val (.int r_13), .val (.ref b16), .unset, .unset, .unset] [(.ref b16), (.ref b25), (.ref b25)])) rfl (by rw [hml]; rfl) (Steps.refl _) (a := b25) (argsL := [(.ref b16)]) (rest := [(.ref b25)]) (lenOf pd_6 rfl) rfl (by show 2 * 0 + _ ≤ _; exact Nat.le_of_eq rfl) (hb hby at_135) (fun _ _ => ⟨rfl, e25, (by decide : 2 + 1 ≤ _), (by decide : 6 + 2 ≤ _)⟩)
  dsimp only [Pt.U, Pt.locs, Pt.cells, Pt.slots] at X28 l28 y28 z28 st28 hQ28
  subst l28 y28 z28
  obtain ⟨rfl, N28q, Kc28, po28_0, po28_1, t_28, kb_28, po28_2, po28_3, po28_4, po28_5, po28_6⟩ := hQ28
  have N28 := Fr.app N22 N28q
  have P29 : ∀ t, GG p e below T28 (mkF m 138 #[.val (.int pa), .val (.int pb), .val (.int pc_), .val (.int pd_), .val (.int pe), .val (.int (2 : Int32)), .val (.int r_4), .val (.int r_7), .val (.int r_10), .val (.int r_13), .val (.ref b16), .unset, .unset, .unset] [(.ref b25)]) t → Steps p.tables e below s0 t := fun t kk_ => P27 t (st28.trans kk_)
  have ne_b16_t_28 : b16 ≠ t_28 := Nat.ne_of_lt (Nat.lt_of_lt_of_le V_b16.lt po28_3)
  have ne_b25_t_28 : b25 ≠ t_28 := Nat.ne_of_lt (Nat.lt_of_lt_of_le E_b25.lt po28_3)
  have sz_t_28 : h0.size ≤ t_28 := Nat.le_trans K25.1 po28_3
  replace OL : Old Z n0 T28.heap := OL.keep Kc28 (allS (Nat.le_trans Z0 sz_b25) all0)
  replace V_b16 : Arv Z T28.heap b16 k16 .char (2 : Int32) (([r_4, r_7] : List Int32).map Value.int) (.int (0 : Int32)) := V_b16.keep Kc28 (ninS ne_b16_b25 nin0)
  replace E_b25 : Exa Z T28.heap b25 "java/lang/String" := E_b25.keep Kc28
  have K28 : Keep h0 T28.heap [] := K25.trans Kc28 (allS (P := fun x => x ∈ [] ∨ h0.size ≤ x) (Or.inr sz_b25) all0)
  have E_b25 : Exa Z T28.heap b25 "java/lang/String" := po28_0
  have F_coder_b25 : Fld Z T28.heap b25 "java/lang/String" "coder" "B" (.int (0 : Int32)) := po28_1
  have nt_28 := po28_4
  have F_value_b25 : Fld Z T28.heap b25 "java/lang/String" "value" "[B" (.ref t_28) := po28_5
  have V_t_28 : Arv Z T28.heap t_28 kb_28 .byte (2 : Int32) (((([r_4, r_7] : List Int32)).map (fun c => c.toInt8.toInt32)).map Value.int) (.int (0 : Int32)) := po28_6
  have P30 : ∀ t, GG p e below T28 (mkF m 149 #[.val (.int pa), .val (.int pb), .val (.int pc_), .val (.int pd_), .val (.int pe), .val (.int (2 : Int32)), .val (.int r_4), .val (.int r_7), .val (.int r_10), .val (.int r_13), .val (.ref b16), .val (.ref b25), .unset, .unset] [(.int ((((pe.toUInt32 >>> ((2 : Int32) &&& 31).toUInt32).toInt32) &&& (255 : Int32)).toUInt32.toUInt16.toUInt32.toInt32))]) t → Steps p.tables e below s0 t := fun t kk_ => P29 t (by
    refine XS.astore X28.here hx rfl (hb hby at_138) rfl rfl (l' := #[.val (.int pa), .val (.int pb), .val (.int pc_), .val (.int pd_), .val (.int pe), .val (.int (2 : Int32)), .val (.int r_4), .val (.int r_7), .val (.int r_10), .val (.int r_13), .val (.ref b16), .val (.ref b25), .unset, .unset]) rfl ?_
    show GG p e below T28 (mkF m 140 #[.val (.int pa), .val (.int pb), .val (.int pc_), .val (.int pd_), .val (.int pe), .val (.int (2 : Int32)), .val (.int r_4), .val (.int r_7), .val (.int r_10), .val (.int r_13), .val (.ref b16), .val (.ref b25), .unset, .unset] []) t
    refine XS.iload X28.here hx rfl (hb hby at_140) rfl ?_
    show GG p e below T28 (mkF m 142 #[.val (.int pa), .val (.int pb), .val (.int pc_), .val (.int pd_), .val (.int pe), .val (.int (2 : Int32)), .val (.int r_4), .val (.int r_7), .val (.int r_10), .val (.int r_13), .val (.ref b16), .val (.ref b25), .unset, .unset] [(.int pe)]) t
    refine XS.iconst X28.here hx rfl (hb hby at_142) ?_
    show GG p e below T28 (mkF m 143 #[.val (.int pa), .val (.int pb), .val (.int pc_), .val (.int pd_), .val (.int pe), .val (.int (2 : Int32)), .val (.int r_4), .val (.int r_7), .val (.int r_10), .val (.int r_13), .val (.ref b16), .val (.ref b25), .unset, .unset] [(.int (2 : Int32)), (.int pe)]) t
    refine XS.iushr X28.here hx rfl (hb hby at_143) rfl ?_
    show GG p e below T28 (mkF m 144 #[.val (.int pa), .val (.int pb), .val (.int pc_), .val (.int pd_), .val (.int pe), .val (.int (2 : Int32)), .val (.int r_4), .val (.int r_7), .val (.int r_10), .val (.int r_13), .val (.ref b16), .val (.ref b25), .unset, .unset] [(.int ((pe.toUInt32 >>> ((2 : Int32) &&& 31).toUInt32).toInt32))]) t
    refine XS.sipush X28.here hx rfl (hb hby at_144) ?_
    show GG p e below T28 (mkF m 147 #[.val (.int pa), .val (.int pb), .val (.int pc_), .val (.int pd_), .val (.int pe), .val (.int (2 : Int32)), .val (.int r_4), .val (.int r_7), .val (.int r_10), .val (.int r_13), .val (.ref b16), .val (.ref b25), .unset, .unset] [(.int (255 : Int32)), (.int ((pe.toUInt32 >>> ((2 : Int32) &&& 31).toUInt32).toInt32))]) t
    refine XS.iand X28.here hx rfl (hb hby at_147) rfl ?_
    show GG p e below T28 (mkF m 148 #[.val (.int pa), .val (.int pb), .val (.int pc_), .val (.int pd_), .val (.int pe), .val (.int (2 : Int32)), .val (.int r_4), .val (.int r_7), .val (.int r_10), .val (.int r_13), .val (.ref b16), .val (.ref b25), .unset, .unset] [(.int (((pe.toUInt32 >>> ((2 : Int32) &&& 31).toUInt32).toInt32) &&& (255 : Int32)))]) t
    refine XS.i2c X28.here hx rfl (hb hby at_148) rfl ?_
    show GG p e below T28 (mkF m 149 #[.val (.int pa), .val (.int pb), .val (.int pc_), .val (.int pd_), .val (.int pe), .val (.int (2 : Int32)), .val (.int r_4), .val (.int r_7), .val (.int r_10), .val (.int r_13), .val (.ref b16), .val (.ref b25), .unset, .unset] [(.int ((((pe.toUInt32 >>> ((2 : Int32) &&& 31).toUInt32).toInt32) &&& (255 : Int32)).toUInt32.toUInt16.toUInt32.toInt32))]) t
    exact kk_)
  obtain ⟨_, _, ⟨T31, L31, k31, n31⟩, -, X31, ⟨Lc31, hQ31, l31, y31, z31⟩, st31⟩ := Jvm.LawKit.callS X28 hx (y := mn_9) hown (mw hZ hw 35 rfl) (mw hZ hw 36 rfl) (mw hZ hw 8 rfl) (mw hZ hw 37 rfl) (by decide) (backOf (W := 0) (rm_valueOf l Z a0 hw [] ((((pe.toUInt32 >>> ((2 : Int32) &&& 31).toUInt32).toInt32) &&& (255 : Int32)).toUInt32.toUInt16.toUInt32.toInt32) G1 T28.heap n0 (Nat.le_trans Z0 K28.1) S_COMPACT_STRINGS OL hz (own_vo _)) hZ (ww hw 37 rfl) (ww hw 8 rfl) (by decide) (by decide)) (g := (mkF m 149 #[.val (.int pa), .val (.int pb), .val (.int pc_), .val (.int pd_), .val (.int pe), .val (.int (2 : Int32)), .val (.int r_4), .val (.int r_7), .val (.int r_10), .val (.int r_13), .val (.ref b16), .val (.ref b25), .unset, .unset] [(.int ((((pe.toUInt32 >>> ((2 : Int32) &&& 31).toUInt32).toInt32) &&& (255 : Int32)).toUInt32.toUInt16.toUInt32.toInt32))])) rfl (by rw [hml]; rfl) (argsL := [(.int ((((pe.toUInt32 >>> ((2 : Int32) &&& 31).toUInt32).toInt32) &&& (255 : Int32)).toUInt32.toUInt16.toUInt32.toInt32))]) (rest := []) (lenOf pd_7 rfl) rfl (by show 2 * 0 + _ ≤ _; exact Nat.le_of_eq rfl) (hb hby at_149) (fun _ _ => ⟨rfl, rfl, (by decide : 3 + 2 ≤ _), (by decide : 8 + 5 ≤ _)⟩)
  dsimp only [Pt.U, Pt.locs, Pt.cells, Pt.slots] at X31 l31 y31 z31 st31 hQ31
  subst l31 y31 z31
  obtain ⟨xs_31, t_31, kb_31, rfl, N31q, Kc31, po31_0, po31_1, po31_2, po31_3, po31_4, po31_5⟩ := hQ31
  have N31 := Fr.app N28 N31q
  have P32 : ∀ t, GG p e below T31 (mkF m 152 #[.val (.int pa), .val (.int pb), .val (.int pc_), .val (.int pd_), .val (.int pe), .val (.int (2 : Int32)), .val (.int r_4), .val (.int r_7), .val (.int r_10), .val (.int r_13), .val (.ref b16), .val (.ref b25), .unset, .unset] [(.ref xs_31)]) t → Steps p.tables e below s0 t := fun t kk_ => P30 t (st31 _ kk_)
  have ne_b16_xs_31 : b16 ≠ xs_31 := Nat.ne_of_lt (Nat.lt_of_lt_of_le V_b16.lt po31_0)
  have ne_b25_xs_31 : b25 ≠ xs_31 := Nat.ne_of_lt (Nat.lt_of_lt_of_le E_b25.lt po31_0)
  have ne_t_28_xs_31 : t_28 ≠ xs_31 := Nat.ne_of_lt (Nat.lt_of_lt_of_le V_t_28.lt po31_0)
  have sz_xs_31 : h0.size ≤ xs_31 := Nat.le_trans K28.1 po31_0
  have ne_b16_t_31 : b16 ≠ t_31 := Nat.ne_of_lt (Nat.lt_of_lt_of_le V_b16.lt po31_1)
  have ne_b25_t_31 : b25 ≠ t_31 := Nat.ne_of_lt (Nat.lt_of_lt_of_le E_b25.lt po31_1)
  have ne_t_28_t_31 : t_28 ≠ t_31 := Nat.ne_of_lt (Nat.lt_of_lt_of_le V_t_28.lt po31_1)
  have sz_t_31 : h0.size ≤ t_31 := Nat.le_trans K28.1 po31_1
  replace OL : Old Z n0 T31.heap := OL.keep Kc31 all0
  replace V_b16 : Arv Z T31.heap b16 k16 .char (2 : Int32) (([r_4, r_7] : List Int32).map Value.int) (.int (0 : Int32)) := V_b16.keep Kc31 nin0
  replace E_b25 : Exa Z T31.heap b25 "java/lang/String" := E_b25.keep Kc31
  replace F_coder_b25 : Fld Z T31.heap b25 "java/lang/String" "coder" "B" (.int (0 : Int32)) := F_coder_b25.keep Kc31 nin0
  replace F_value_b25 : Fld Z T31.heap b25 "java/lang/String" "value" "[B" (.ref t_28) := F_value_b25.keep Kc31 nin0
  replace V_t_28 : Arv Z T31.heap t_28 kb_28 .byte (2 : Int32) (((([r_4, r_7] : List Int32)).map (fun c => c.toInt8.toInt32)).map Value.int) (.int (0 : Int32)) := V_t_28.keep Kc31 nin0
  have K31 : Keep h0 T31.heap [] := K28.trans Kc31 all0
  have E_xs_31 : Exa Z T31.heap xs_31 "java/lang/String" := po31_2
  have F_value_xs_31 : Fld Z T31.heap xs_31 "java/lang/String" "value" "[B" (.ref t_31) := po31_3
  have F_coder_xs_31 : Fld Z T31.heap xs_31 "java/lang/String" "coder" "B" (.int (0 : Int32)) := po31_4
  have V_t_31 : Arv Z T31.heap t_31 kb_31 .byte (1 : Int32) [(.int (nar .byte (((((pe.toUInt32 >>> ((2 : Int32) &&& 31).toUInt32).toInt32) &&& (255 : Int32)).toUInt32.toUInt16.toUInt32.toInt32).toInt8.toInt32)))] (.int (0 : Int32)) := po31_5
  have P33 : ∀ t, GG p e below T31 (mkF m 158 #[.val (.int pa), .val (.int pb), .val (.int pc_), .val (.int pd_), .val (.int pe), .val (.int (2 : Int32)), .val (.int r_4), .val (.int r_7), .val (.int r_10), .val (.int r_13), .val (.ref b16), .val (.ref b25), .val (.ref xs_31), .unset] [(.ref b25), (.ref xs_31)]) t → Steps p.tables e below s0 t := fun t kk_ => P32 t (by
    refine XS.astore X31.here hx rfl (hb hby at_152) rfl rfl (l' := #[.val (.int pa), .val (.int pb), .val (.int pc_), .val (.int pd_), .val (.int pe), .val (.int (2 : Int32)), .val (.int r_4), .val (.int r_7), .val (.int r_10), .val (.int r_13), .val (.ref b16), .val (.ref b25), .val (.ref xs_31), .unset]) rfl ?_
    show GG p e below T31 (mkF m 154 #[.val (.int pa), .val (.int pb), .val (.int pc_), .val (.int pd_), .val (.int pe), .val (.int (2 : Int32)), .val (.int r_4), .val (.int r_7), .val (.int r_10), .val (.int r_13), .val (.ref b16), .val (.ref b25), .val (.ref xs_31), .unset] []) t
    refine XS.aload X31.here hx rfl (hb hby at_154) rfl rfl ?_
    show GG p e below T31 (mkF m 156 #[.val (.int pa), .val (.int pb), .val (.int pc_), .val (.int pd_), .val (.int pe), .val (.int (2 : Int32)), .val (.int r_4), .val (.int r_7), .val (.int r_10), .val (.int r_13), .val (.ref b16), .val (.ref b25), .val (.ref xs_31), .unset] [(.ref xs_31)]) t
    refine XS.aload X31.here hx rfl (hb hby at_156) rfl rfl ?_
    show GG p e below T31 (mkF m 158 #[.val (.int pa), .val (.int pb), .val (.int pc_), .val (.int pd_), .val (.int pe), .val (.int (2 : Int32)), .val (.int r_4), .val (.int r_7), .val (.int r_10), .val (.int r_13), .val (.ref b16), .val (.ref b25), .val (.ref xs_31), .unset] [(.ref b25), (.ref xs_31)]) t
    exact kk_)
  obtain ⟨_, _, ⟨T34, L34, k34, n34⟩, -, X34, ⟨Lc34, hQ34, l34, y34, z34⟩, st34⟩ := Jvm.LawKit.callS X31 hx (y := mn_10) hown (mw hZ hw 49 rfl) (mw hZ hw 50 rfl) (mw hZ hw 51 rfl) (mw hZ hw 52 rfl) (by decide) (backOf (W := 0) (rm_check l Z a0 hw [] xs_31 b25 t_28 kb_28 ([r_4, r_7] : List Int32) G1 G3 T31.heap n0 (Nat.le_trans Z0 K31.1) E_b25 F_value_b25 F_coder_b25 V_t_28 S_COMPACT_STRINGS S_SIOOBE_FORMATTER OL hz rG3 hcs (fun q => nomatch q) (Nat.le_of_ble_eq_true rfl)) hZ (ww hw 52 rfl) (ww hw 51 rfl) (by decide) (by decide)) (g := (mkF m 158 #[.val (.int pa), .val (.int pb), .val (.int pc_), .val (.int pd_), .val (.int pe), .val (.int (2 : Int32)), .val (.int r_4), .val (.int r_7), .val (.int r_10), .val (.int r_13), .val (.ref b16), .val (.ref b25), .val (.ref xs_31), .unset] [(.ref b25), (.ref xs_31)])) rfl (by rw [hml]; rfl) (argsL := [(.ref xs_31), (.ref b25)]) (rest := []) (lenOf pd_8 rfl) rfl (by show 2 * 0 + _ ≤ _; exact Nat.le_of_eq rfl) (hb hby at_158) (fun _ _ => ⟨rfl, rfl, (by decide : 5 + 0 ≤ _), (by decide : 13 + 0 ≤ _)⟩)
  dsimp only [Pt.U, Pt.locs, Pt.cells, Pt.slots] at X34 l34 y34 z34 st34 hQ34
  subst l34 y34 z34
  obtain ⟨rfl, N34q, e34⟩ := hQ34
  have N34 := Fr.app N31 N34q
  have P35 : ∀ t, GG p e below T34 (mkF m 161 #[.val (.int pa), .val (.int pb), .val (.int pc_), .val (.int pd_), .val (.int pe), .val (.int (2 : Int32)), .val (.int r_4), .val (.int r_7), .val (.int r_10), .val (.int r_13), .val (.ref b16), .val (.ref b25), .val (.ref xs_31), .unset] [(.ref b25)]) t → Steps p.tables e below s0 t := fun t kk_ => P33 t (st34 _ kk_)
  have P36 : ∀ t, GG p e below T34 (mkF m 172 #[.val (.int pa), .val (.int pb), .val (.int pc_), .val (.int pd_), .val (.int pe), .val (.int (2 : Int32)), .val (.int r_4), .val (.int r_7), .val (.int r_10), .val (.int r_13), .val (.ref b16), .val (.ref b25), .val (.ref xs_31), .val (.ref b25)] [(.ref b25), (.ref b25)]) t → Steps p.tables e below s0 t := fun t kk_ => P35 t (by
    refine XS.astore X34.here hx rfl (hb hby at_161) rfl rfl (l' := #[.val (.int pa), .val (.int pb), .val (.int pc_), .val (.int pd_), .val (.int pe), .val (.int (2 : Int32)), .val (.int r_4), .val (.int r_7), .val (.int r_10), .val (.int r_13), .val (.ref b16), .val (.ref b25), .val (.ref xs_31), .val (.ref b25)]) rfl ?_
    show GG p e below T34 (mkF m 163 #[.val (.int pa), .val (.int pb), .val (.int pc_), .val (.int pd_), .val (.int pe), .val (.int (2 : Int32)), .val (.int r_4), .val (.int r_7), .val (.int r_10), .val (.int r_13), .val (.ref b16), .val (.ref b25), .val (.ref xs_31), .val (.ref b25)] []) t
    refine XS.aload X34.here hx rfl (hb hby at_163) rfl rfl ?_
    show GG p e below T34 (mkF m 165 #[.val (.int pa), .val (.int pb), .val (.int pc_), .val (.int pd_), .val (.int pe), .val (.int (2 : Int32)), .val (.int r_4), .val (.int r_7), .val (.int r_10), .val (.int r_13), .val (.ref b16), .val (.ref b25), .val (.ref xs_31), .val (.ref b25)] [(.ref b25)]) t
    refine XS.ifnullNo X34.here hx rfl (hb hby at_165) rfl ?_
    show GG p e below T34 (mkF m 168 #[.val (.int pa), .val (.int pb), .val (.int pc_), .val (.int pd_), .val (.int pe), .val (.int (2 : Int32)), .val (.int r_4), .val (.int r_7), .val (.int r_10), .val (.int r_13), .val (.ref b16), .val (.ref b25), .val (.ref xs_31), .val (.ref b25)] []) t
    refine XS.aload X34.here hx rfl (hb hby at_168) rfl rfl ?_
    show GG p e below T34 (mkF m 170 #[.val (.int pa), .val (.int pb), .val (.int pc_), .val (.int pd_), .val (.int pe), .val (.int (2 : Int32)), .val (.int r_4), .val (.int r_7), .val (.int r_10), .val (.int r_13), .val (.ref b16), .val (.ref b25), .val (.ref xs_31), .val (.ref b25)] [(.ref b25)]) t
    refine XS.aload X34.here hx rfl (hb hby at_170) rfl rfl ?_
    show GG p e below T34 (mkF m 172 #[.val (.int pa), .val (.int pb), .val (.int pc_), .val (.int pd_), .val (.int pe), .val (.int (2 : Int32)), .val (.int r_4), .val (.int r_7), .val (.int r_10), .val (.int r_13), .val (.ref b16), .val (.ref b25), .val (.ref xs_31), .val (.ref b25)] [(.ref b25), (.ref b25)]) t
    exact kk_)
  obtain ⟨cq37, kq37, q37a, q37b, q37c⟩ := isOf hZ e34 E_b25
  obtain ⟨_, _, ⟨T37, L37, k37, n37⟩, -, X37, ⟨Lc37, hQ37, l37, y37, z37⟩, st37⟩ := X34.virtualBack hx (y := mn_11) (z := mn_11) hown (mw hZ hw 92 rfl) (mw hZ hw 93 rfl) (notFace_of_selects (args := #[]) (mw hZ hw 95 rfl)) (mw hZ hw 95 rfl) (mw hZ hw 94 rfl) (by decide) (backOf (W := 0) (rm_equals l Z a0 hw [] b25 T31.heap n0 (Nat.le_trans Z0 K31.1)) hZ (ww hw 96 rfl) (ww hw 8 rfl) (by decide) (by decide)) q37a q37c (g := (mkF m 172 #[.val (.int pa), .val (.int pb), .val (.int pc_), .val (.int pd_), .val (.int pe), .val (.int (2 : Int32)), .val (.int r_4), .val (.int r_7), .val (.int r_10), .val (.int r_13), .val (.ref b16), .val (.ref b25), .val (.ref xs_31), .val (.ref b25)] [(.ref b25), (.ref b25)])) rfl (by rw [hml]; rfl) (Steps.refl _) (argsL := [(.ref b25)]) (rest := []) (lenOf pd_9 rfl) rfl (by show 2 * 0 + _ ≤ _; exact Nat.le_of_eq rfl) (hb hby at_172) (fun _ _ => ⟨rfl, e34, (by decide : 5 + 0 ≤ _), (by decide : 13 + 0 ≤ _)⟩)
  dsimp only [Pt.U, Pt.locs, Pt.cells, Pt.slots] at X37 l37 y37 z37 st37 hQ37
  subst l37 y37 z37
  obtain ⟨rfl, N37q, e37⟩ := hQ37
  have N37 := Fr.app N34 N37q
  have P38 : ∀ t, GG p e below T37 (mkF m 175 #[.val (.int pa), .val (.int pb), .val (.int pc_), .val (.int pd_), .val (.int pe), .val (.int (2 : Int32)), .val (.int r_4), .val (.int r_7), .val (.int r_10), .val (.int r_13), .val (.ref b16), .val (.ref b25), .val (.ref xs_31), .val (.ref b25)] [(.int (1 : Int32))]) t → Steps p.tables e below s0 t := fun t kk_ => P36 t (st37.trans kk_)
  have P39 : ∀ t, GG p e below T37 (mkF m 180 #[.val (.int pa), .val (.int pb), .val (.int pc_), .val (.int pd_), .val (.int pe), .val (.int (2 : Int32)), .val (.int r_4), .val (.int r_7), .val (.int r_10), .val (.int r_13), .val (.ref b16), .val (.ref b25), .val (.ref xs_31), .val (.ref b25)] [(.ref b25)]) t → Steps p.tables e below s0 t := fun t kk_ => P38 t (by
    refine XS.ifNo X37.here hx rfl (hb hby at_175) rfl ((if0 _ _).trans (feq ((by decide) : ¬ ((1 : Int32) = (0 : Int32)))).1) ?_
    show GG p e below T37 (mkF m 178 #[.val (.int pa), .val (.int pb), .val (.int pc_), .val (.int pd_), .val (.int pe), .val (.int (2 : Int32)), .val (.int r_4), .val (.int r_7), .val (.int r_10), .val (.int r_13), .val (.ref b16), .val (.ref b25), .val (.ref xs_31), .val (.ref b25)] []) t
    refine XS.aload X37.here hx rfl (hb hby at_178) rfl rfl ?_
    show GG p e below T37 (mkF m 180 #[.val (.int pa), .val (.int pb), .val (.int pc_), .val (.int pd_), .val (.int pe), .val (.int (2 : Int32)), .val (.int r_4), .val (.int r_7), .val (.int r_10), .val (.int r_13), .val (.ref b16), .val (.ref b25), .val (.ref xs_31), .val (.ref b25)] [(.ref b25)]) t
    exact kk_)
  obtain ⟨cq40, kq40, q40a, q40b, q40c⟩ := isOf hZ e37 E_b25
  obtain ⟨_, _, ⟨T40, L40, k40, n40⟩, -, X40, ⟨Lc40, hQ40, l40, y40, z40⟩, st40⟩ := X37.virtualBack hx (y := mn_4) (z := mn_4) hown (mw hZ hw 97 rfl) (mw hZ hw 59 rfl) (notFace_of_selects (args := #[]) (mw hZ hw 61 rfl)) (mw hZ hw 61 rfl) (mw hZ hw 60 rfl) (by decide) (StrChars.Road.lenW (W := 0) hZ (own_wLen hw) (kI := 4) (ww hw 7 rfl) E_b25 F_value_b25 F_coder_b25 V_t_28 (StrChars.Road.codOf (n := 2) rfl (fun x hx => ((own_up _ hcs).1 x hx).2)) ((own_up _ hcs).2) (S_COMPACT_STRINGS.ext OL.2) hz (Nat.le_of_ble_eq_true rfl) (by decide) (by decide)) q40a q40c (g := (mkF m 180 #[.val (.int pa), .val (.int pb), .val (.int pc_), .val (.int pd_), .val (.int pe), .val (.int (2 : Int32)), .val (.int r_4), .val (.int r_7), .val (.int r_10), .val (.int r_13), .val (.ref b16), .val (.ref b25), .val (.ref xs_31), .val (.ref b25)] [(.ref b25)])) rfl (by rw [hml]; rfl) (Steps.refl _) (argsL := []) (rest := []) (lenOf pd_4 rfl) rfl (by show 2 * 0 + _ ≤ _; exact Nat.le_of_eq rfl) (hb hby at_180) (fun _ _ => ⟨rfl, e37, (by decide : 5 + 0 ≤ _), (by decide : 13 + 0 ≤ _)⟩)
  dsimp only [Pt.U, Pt.locs, Pt.cells, Pt.slots] at X40 l40 y40 z40 st40 hQ40
  subst l40 y40 z40
  obtain ⟨rfl, rfl, e40⟩ := hQ40
  have N40q : Fr n0 ([] : List Loc) := Fr.nil n0
  have N40 := Fr.app N37 N40q
  have P41 : ∀ t, GG p e below T40 (mkF m 183 #[.val (.int pa), .val (.int pb), .val (.int pc_), .val (.int pd_), .val (.int pe), .val (.int (2 : Int32)), .val (.int r_4), .val (.int r_7), .val (.int r_10), .val (.int r_13), .val (.ref b16), .val (.ref b25), .val (.ref xs_31), .val (.ref b25)] [(.int (Int32.ofNat (([r_4, r_7] : List Int32)).length))]) t → Steps p.tables e below s0 t := fun t kk_ => P39 t (st40.trans kk_)
  have P42 : ∀ t, GG p e below T40 (mkF m 193 #[.val (.int pa), .val (.int pb), .val (.int pc_), .val (.int pd_), .val (.int pe), .val (.int (2 : Int32)), .val (.int r_4), .val (.int r_7), .val (.int r_10), .val (.int r_13), .val (.ref b16), .val (.ref b25), .val (.ref xs_31), .val (.ref b25)] [(.int (1 : Int32))]) t → Steps p.tables e below s0 t := fun t kk_ => P41 t (by
    refine XS.iload X40.here hx rfl (hb hby at_183) rfl ?_
    show GG p e below T40 (mkF m 185 #[.val (.int pa), .val (.int pb), .val (.int pc_), .val (.int pd_), .val (.int pe), .val (.int (2 : Int32)), .val (.int r_4), .val (.int r_7), .val (.int r_10), .val (.int r_13), .val (.ref b16), .val (.ref b25), .val (.ref xs_31), .val (.ref b25)] [(.int (2 : Int32)), (.int (Int32.ofNat (([r_4, r_7] : List Int32)).length))]) t
    refine XS.icmpNo X40.here hx rfl (hb hby at_185) rfl (teq (rfl : (Int32.ofNat (([r_4, r_7] : List Int32)).length) = (2 : Int32))).2 ?_
    show GG p e below T40 (mkF m 188 #[.val (.int pa), .val (.int pb), .val (.int pc_), .val (.int pd_), .val (.int pe), .val (.int (2 : Int32)), .val (.int r_4), .val (.int r_7), .val (.int r_10), .val (.int r_13), .val (.ref b16), .val (.ref b25), .val (.ref xs_31), .val (.ref b25)] []) t
    refine XS.iconst X40.here hx rfl (hb hby at_188) ?_
    show GG p e below T40 (mkF m 189 #[.val (.int pa), .val (.int pb), .val (.int pc_), .val (.int pd_), .val (.int pe), .val (.int (2 : Int32)), .val (.int r_4), .val (.int r_7), .val (.int r_10), .val (.int r_13), .val (.ref b16), .val (.ref b25), .val (.ref xs_31), .val (.ref b25)] [(.int (1 : Int32))]) t
    refine XS.goto X40.here hx rfl (pc0 := 189) (pc' := 193) rfl (hb hby at_189) (by decide) (by decide) ?_
    show GG p e below T40 (mkF m 193 #[.val (.int pa), .val (.int pb), .val (.int pc_), .val (.int pd_), .val (.int pe), .val (.int (2 : Int32)), .val (.int r_4), .val (.int r_7), .val (.int r_10), .val (.int r_13), .val (.ref b16), .val (.ref b25), .val (.ref xs_31), .val (.ref b25)] [(.int (1 : Int32))]) t
    exact kk_)
  subst hs0
  obtain ⟨fs, hr, hrun, hended, hW, hsame⟩ := X40.leave (v := some (.int (nar .boolean (1 : Int32)))) (fun h => by rw [Bd.returns] at h; cases h)
  refine ⟨_, _, P42 _ ?_, hrun, hended, _, _, rfl, ?_, ⟨_, rfl⟩, hW, hsame.mono (by decide) (by decide)⟩
  · show GG p e below T40 (mkF m 193 #[.val (.int pa), .val (.int pb), .val (.int pc_), .val (.int pd_), .val (.int pe), .val (.int (2 : Int32)), .val (.int r_4), .val (.int r_7), .val (.int r_10), .val (.int r_13), .val (.ref b16), .val (.ref b25), .val (.ref xs_31), .val (.ref b25)] [(.int (1 : Int32))]) _
    exact retN X40 hx (t := .boolean) Bd.returns (by simp) (hb hby at_193) hr
  · show Q_law2 Z pa pb pc_ pd_ pe G1 G3 h0 n0 _ T40.heap _
    rw [e40]
    exact ⟨rfl, N40, K31⟩
theorem ef_law3 (m : MethodId) (x0 : Int32) (x1 : Int32) (x2 : Int32) (x3 : Int32) (x4 : Int32) : entryFrame m #[(.int x0), (.int x1), (.int x2), (.int x3), (.int x4)] maxLocals = mkF m 0 #[.val (.int x0), .val (.int x1), .val (.int x2), .val (.int x3), .val (.int x4), .unset, .unset, .unset, .unset, .unset, .unset, .unset, .unset, .unset] [] := by first | (simp [entryFrame, mkF, argsToLocals, Value.category, maxLocals]; done) | rfl
def Q_law3 (Z : State) (pa : Int32) (pb : Int32) (pc_ : Int32) (pd_ : Int32) (pe : Int32) (G1 : Int32) (G3 : Value) (h0 : Heap) (n0 : Nat) (v : Option Value) (h : Heap) (L : List Loc) : Prop := v = some (.int (1 : Int32)) ∧ Fr n0 L ∧ Keep h0 h []
set_option maxRecDepth 65536 in
set_option maxHeartbeats 40000000 in
theorem rm_law3 (l : Launch) (Z : State) (a0 : Array Value) (hw : ∀ d ∈ tables_1, d.before a0 Z = true) (ws : List Jvm.Cond) (pa : Int32) (pb : Int32) (pc_ : Int32) (pd_ : Int32) (pe : Int32) (G1 : Int32) (G3 : Value) (h0 : Heap) (n0 : Nat) (Z0 : n0 ≤ h0.size) (S_COMPACT_STRINGS : Sta Z Z.heap "java/lang/String" "COMPACT_STRINGS" "Z" (.int G1)) (S_SIOOBE_FORMATTER : Sta Z Z.heap "jdk/internal/util/Preconditions" "SIOOBE_FORMATTER" "Ljava/util/function/BiFunction;" G3) (OL : Old Z n0 h0) (hz : ¬ G1 = 0) (rG3 : G3.isRef = true) (hk : (pe &&& 3) = 2) :
    MetFree l x (head1 (Jvm.Cond.code x code maxLocals ret :: ws) room_1) (fun a U => a = #[(.int pa), (.int pb), (.int pc_), (.int pd_), (.int pe)] ∧ Z.Warmed39 U.vm ∧ U.heap = h0) (fun _ _ _ _ _ => True) (fun _ U o U' => ∃ v L, o = .returned v ∧ Q_law3 Z pa pb pc_ pd_ pe G1 G3 h0 n0 v U'.heap L ∧ FrameEnd U o U' L room_1.cells room_1.slots) := by
  refine MetFree.of_bodySF (plainFor_of_name pn_0) hisR ?_
  intro p e s m args below meth c s₁ Bd hml0 hP hK
  obtain ⟨rfl, hZ, hh⟩ := hP
  have hx := Bd.exec
  have hby := Bd.bytes
  have hml : c.maxLocals = 14 := hml0
  have hown : s.vm.findClass "com/example/leagan/leagan/NamesCheckPinLaw" = some m.cls := findClass_of_methodNamed Bd.named
  have hnm := (name_of_methodNamed Bd.named Bd.method).1
  have X0 : Stand p l e room_1 s m #[(.int pa), (.int pb), (.int pc_), (.int pd_), (.int pe)] below meth c s₁ [] 0 0 := Stand.of_body Bd
  have e0 : s₁.heap = h0 := by rw [← hh, Bd.state]; rfl
  have N0 := Fr.nil n0
  obtain ⟨s0, hs0⟩ : ∃ z, z = (s₁.setTop (entryFrame m #[(.int pa), (.int pb), (.int pc_), (.int pd_), (.int pe)] maxLocals)) := ⟨_, rfl⟩
  have P0 : ∀ t, GG p e below s₁ (mkF m 0 #[.val (.int pa), .val (.int pb), .val (.int pc_), .val (.int pd_), .val (.int pe), .unset, .unset, .unset, .unset, .unset, .unset, .unset, .unset, .unset] []) t → Steps p.tables e below s0 t := fun t kk_ => by rw [hs0]; exact castTop (ef_law3 m pa pb pc_ pd_ pe) kk_
  have P1 : ∀ t, GG p e below s₁ (mkF m 5 #[.val (.int pa), .val (.int pb), .val (.int pc_), .val (.int pd_), .val (.int pe), .unset, .unset, .unset, .unset, .unset, .unset, .unset, .unset, .unset] [(.int (pe &&& (3 : Int32))), (.int (1 : Int32))]) t → Steps p.tables e below s0 t := fun t kk_ => P0 t (by
    refine XS.iconst X0.here hx rfl (hb hby at_0) ?_
    show GG p e below s₁ (mkF m 1 #[.val (.int pa), .val (.int pb), .val (.int pc_), .val (.int pd_), .val (.int pe), .unset, .unset, .unset, .unset, .unset, .unset, .unset, .unset, .unset] [(.int (1 : Int32))]) t
    refine XS.iload X0.here hx rfl (hb hby at_1) rfl ?_
    show GG p e below s₁ (mkF m 3 #[.val (.int pa), .val (.int pb), .val (.int pc_), .val (.int pd_), .val (.int pe), .unset, .unset, .unset, .unset, .unset, .unset, .unset, .unset, .unset] [(.int pe), (.int (1 : Int32))]) t
    refine XS.iconst X0.here hx rfl (hb hby at_3) ?_
    show GG p e below s₁ (mkF m 4 #[.val (.int pa), .val (.int pb), .val (.int pc_), .val (.int pd_), .val (.int pe), .unset, .unset, .unset, .unset, .unset, .unset, .unset, .unset, .unset] [(.int (3 : Int32)), (.int pe), (.int (1 : Int32))]) t
    refine XS.iand X0.here hx rfl (hb hby at_4) rfl ?_
    show GG p e below s₁ (mkF m 5 #[.val (.int pa), .val (.int pb), .val (.int pc_), .val (.int pd_), .val (.int pe), .unset, .unset, .unset, .unset, .unset, .unset, .unset, .unset, .unset] [(.int (pe &&& (3 : Int32))), (.int (1 : Int32))]) t
    exact kk_)
  have P2 : ∀ t, GG p e below s₁ (mkF m 5 #[.val (.int pa), .val (.int pb), .val (.int pc_), .val (.int pd_), .val (.int pe), .unset, .unset, .unset, .unset, .unset, .unset, .unset, .unset, .unset] [(.int (2 : Int32)), (.int (1 : Int32))]) t → Steps p.tables e below s0 t := fun t kk_ => P1 t (by rw [hk]; exact kk_)
  have P3 : ∀ t, GG p e below s₁ (mkF m 9 #[.val (.int pa), .val (.int pb), .val (.int pc_), .val (.int pd_), .val (.int pe), .val (.int (3 : Int32)), .unset, .unset, .unset, .unset, .unset, .unset, .unset, .unset] [(.int pa)]) t → Steps p.tables e below s0 t := fun t kk_ => P2 t (by
    refine XS.iadd X0.here hx rfl (hb hby at_5) rfl ?_
    show GG p e below s₁ (mkF m 6 #[.val (.int pa), .val (.int pb), .val (.int pc_), .val (.int pd_), .val (.int pe), .unset, .unset, .unset, .unset, .unset, .unset, .unset, .unset, .unset] [(.int (3 : Int32))]) t
    refine XS.istore X0.here hx rfl (hb hby at_6) rfl (l' := #[.val (.int pa), .val (.int pb), .val (.int pc_), .val (.int pd_), .val (.int pe), .val (.int (3 : Int32)), .unset, .unset, .unset, .unset, .unset, .unset, .unset, .unset]) rfl ?_
    show GG p e below s₁ (mkF m 8 #[.val (.int pa), .val (.int pb), .val (.int pc_), .val (.int pd_), .val (.int pe), .val (.int (3 : Int32)), .unset, .unset, .unset, .unset, .unset, .unset, .unset, .unset] []) t
    refine XS.iloadN X0.here hx rfl (hb hby at_8) rfl ?_
    show GG p e below s₁ (mkF m 9 #[.val (.int pa), .val (.int pb), .val (.int pc_), .val (.int pd_), .val (.int pe), .val (.int (3 : Int32)), .unset, .unset, .unset, .unset, .unset, .unset, .unset, .unset] [(.int pa)]) t
    exact kk_)
  obtain ⟨_, _, ⟨T4, L4, k4, n4⟩, -, X4, ⟨Lc4, hQ4, l4, y4, z4⟩, st4⟩ := Jvm.LawKit.callS X0 hx (y := mn_7) hown (mw hZ hw 0 rfl) (mw hZ hw 1 rfl) (mw hZ hw 2 rfl) (mw hZ hw 3 rfl) (by decide) (backOf (W := 0) (rm_pick l Z a0 hw [] pa h0 n0 (Nat.le_trans Z0 (Nat.le_refl h0.size))) hZ (ww hw 3 rfl) (ww hw 2 rfl) (by decide) (by decide)) (g := (mkF m 9 #[.val (.int pa), .val (.int pb), .val (.int pc_), .val (.int pd_), .val (.int pe), .val (.int (3 : Int32)), .unset, .unset, .unset, .unset, .unset, .unset, .unset, .unset] [(.int pa)])) rfl (by rw [hml]; rfl) (argsL := [(.int pa)]) (rest := []) (lenOf pd_5 rfl) rfl (by show 2 * 0 + _ ≤ _; exact Nat.le_of_eq rfl) (hb hby at_9) (fun _ _ => ⟨rfl, e0, (by decide : 0 + 0 ≤ _), (by decide : 0 + 0 ≤ _)⟩)
  dsimp only [Pt.U, Pt.locs, Pt.cells, Pt.slots] at X4 l4 y4 z4 st4 hQ4
  subst l4 y4 z4
  obtain ⟨r_4, rfl, N4q, e4, po4_0⟩ := hQ4
  have N4 := Fr.app N0 N4q
  have P5 : ∀ t, GG p e below T4 (mkF m 12 #[.val (.int pa), .val (.int pb), .val (.int pc_), .val (.int pd_), .val (.int pe), .val (.int (3 : Int32)), .unset, .unset, .unset, .unset, .unset, .unset, .unset, .unset] [(.int r_4)]) t → Steps p.tables e below s0 t := fun t kk_ => P3 t (st4 _ kk_)
  have okr_4 := po4_0
  have P6 : ∀ t, GG p e below T4 (mkF m 15 #[.val (.int pa), .val (.int pb), .val (.int pc_), .val (.int pd_), .val (.int pe), .val (.int (3 : Int32)), .val (.int r_4), .unset, .unset, .unset, .unset, .unset, .unset, .unset] [(.int pb)]) t → Steps p.tables e below s0 t := fun t kk_ => P5 t (by
    refine XS.istore X4.here hx rfl (hb hby at_12) rfl (l' := #[.val (.int pa), .val (.int pb), .val (.int pc_), .val (.int pd_), .val (.int pe), .val (.int (3 : Int32)), .val (.int r_4), .unset, .unset, .unset, .unset, .unset, .unset, .unset]) rfl ?_
    show GG p e below T4 (mkF m 14 #[.val (.int pa), .val (.int pb), .val (.int pc_), .val (.int pd_), .val (.int pe), .val (.int (3 : Int32)), .val (.int r_4), .unset, .unset, .unset, .unset, .unset, .unset, .unset] []) t
    refine XS.iloadN X4.here hx rfl (hb hby at_14) rfl ?_
    show GG p e below T4 (mkF m 15 #[.val (.int pa), .val (.int pb), .val (.int pc_), .val (.int pd_), .val (.int pe), .val (.int (3 : Int32)), .val (.int r_4), .unset, .unset, .unset, .unset, .unset, .unset, .unset] [(.int pb)]) t
    exact kk_)
  obtain ⟨_, _, ⟨T7, L7, k7, n7⟩, -, X7, ⟨Lc7, hQ7, l7, y7, z7⟩, st7⟩ := Jvm.LawKit.callS X4 hx (y := mn_7) hown (mw hZ hw 0 rfl) (mw hZ hw 1 rfl) (mw hZ hw 2 rfl) (mw hZ hw 3 rfl) (by decide) (backOf (W := 0) (rm_pick l Z a0 hw [] pb h0 n0 (Nat.le_trans Z0 (Nat.le_refl h0.size))) hZ (ww hw 3 rfl) (ww hw 2 rfl) (by decide) (by decide)) (g := (mkF m 15 #[.val (.int pa), .val (.int pb), .val (.int pc_), .val (.int pd_), .val (.int pe), .val (.int (3 : Int32)), .val (.int r_4), .unset, .unset, .unset, .unset, .unset, .unset, .unset] [(.int pb)])) rfl (by rw [hml]; rfl) (argsL := [(.int pb)]) (rest := []) (lenOf pd_5 rfl) rfl (by show 2 * 0 + _ ≤ _; exact Nat.le_of_eq rfl) (hb hby at_15) (fun _ _ => ⟨rfl, e4, (by decide : 0 + 0 ≤ _), (by decide : 0 + 0 ≤ _)⟩)
  dsimp only [Pt.U, Pt.locs, Pt.cells, Pt.slots] at X7 l7 y7 z7 st7 hQ7
  subst l7 y7 z7
  obtain ⟨r_7, rfl, N7q, e7, po7_0⟩ := hQ7
  have N7 := Fr.app N4 N7q
  have P8 : ∀ t, GG p e below T7 (mkF m 18 #[.val (.int pa), .val (.int pb), .val (.int pc_), .val (.int pd_), .val (.int pe), .val (.int (3 : Int32)), .val (.int r_4), .unset, .unset, .unset, .unset, .unset, .unset, .unset] [(.int r_7)]) t → Steps p.tables e below s0 t := fun t kk_ => P6 t (st7 _ kk_)
  have okr_7 := po7_0
  have P9 : ∀ t, GG p e below T7 (mkF m 21 #[.val (.int pa), .val (.int pb), .val (.int pc_), .val (.int pd_), .val (.int pe), .val (.int (3 : Int32)), .val (.int r_4), .val (.int r_7), .unset, .unset, .unset, .unset, .unset, .unset] [(.int pc_)]) t → Steps p.tables e below s0 t := fun t kk_ => P8 t (by
    refine XS.istore X7.here hx rfl (hb hby at_18) rfl (l' := #[.val (.int pa), .val (.int pb), .val (.int pc_), .val (.int pd_), .val (.int pe), .val (.int (3 : Int32)), .val (.int r_4), .val (.int r_7), .unset, .unset, .unset, .unset, .unset, .unset]) rfl ?_
    show GG p e below T7 (mkF m 20 #[.val (.int pa), .val (.int pb), .val (.int pc_), .val (.int pd_), .val (.int pe), .val (.int (3 : Int32)), .val (.int r_4), .val (.int r_7), .unset, .unset, .unset, .unset, .unset, .unset] []) t
    refine XS.iloadN X7.here hx rfl (hb hby at_20) rfl ?_
    show GG p e below T7 (mkF m 21 #[.val (.int pa), .val (.int pb), .val (.int pc_), .val (.int pd_), .val (.int pe), .val (.int (3 : Int32)), .val (.int r_4), .val (.int r_7), .unset, .unset, .unset, .unset, .unset, .unset] [(.int pc_)]) t
    exact kk_)
  obtain ⟨_, _, ⟨T10, L10, k10, n10⟩, -, X10, ⟨Lc10, hQ10, l10, y10, z10⟩, st10⟩ := Jvm.LawKit.callS X7 hx (y := mn_7) hown (mw hZ hw 0 rfl) (mw hZ hw 1 rfl) (mw hZ hw 2 rfl) (mw hZ hw 3 rfl) (by decide) (backOf (W := 0) (rm_pick l Z a0 hw [] pc_ h0 n0 (Nat.le_trans Z0 (Nat.le_refl h0.size))) hZ (ww hw 3 rfl) (ww hw 2 rfl) (by decide) (by decide)) (g := (mkF m 21 #[.val (.int pa), .val (.int pb), .val (.int pc_), .val (.int pd_), .val (.int pe), .val (.int (3 : Int32)), .val (.int r_4), .val (.int r_7), .unset, .unset, .unset, .unset, .unset, .unset] [(.int pc_)])) rfl (by rw [hml]; rfl) (argsL := [(.int pc_)]) (rest := []) (lenOf pd_5 rfl) rfl (by show 2 * 0 + _ ≤ _; exact Nat.le_of_eq rfl) (hb hby at_21) (fun _ _ => ⟨rfl, e7, (by decide : 0 + 0 ≤ _), (by decide : 0 + 0 ≤ _)⟩)
  dsimp only [Pt.U, Pt.locs, Pt.cells, Pt.slots] at X10 l10 y10 z10 st10 hQ10
  subst l10 y10 z10
  obtain ⟨r_10, rfl, N10q, e10, po10_0⟩ := hQ10
  have N10 := Fr.app N7 N10q
  have P11 : ∀ t, GG p e below T10 (mkF m 24 #[.val (.int pa), .val (.int pb), .val (.int pc_), .val (.int pd_), .val (.int pe), .val (.int (3 : Int32)), .val (.int r_4), .val (.int r_7), .unset, .unset, .unset, .unset, .unset, .unset] [(.int r_10)]) t → Steps p.tables e below s0 t := fun t kk_ => P9 t (st10 _ kk_)
  have okr_10 := po10_0
  have P12 : ∀ t, GG p e below T10 (mkF m 27 #[.val (.int pa), .val (.int pb), .val (.int pc_), .val (.int pd_), .val (.int pe), .val (.int (3 : Int32)), .val (.int r_4), .val (.int r_7), .val (.int r_10), .unset, .unset, .unset, .unset, .unset] [(.int pd_)]) t → Steps p.tables e below s0 t := fun t kk_ => P11 t (by
    refine XS.istore X10.here hx rfl (hb hby at_24) rfl (l' := #[.val (.int pa), .val (.int pb), .val (.int pc_), .val (.int pd_), .val (.int pe), .val (.int (3 : Int32)), .val (.int r_4), .val (.int r_7), .val (.int r_10), .unset, .unset, .unset, .unset, .unset]) rfl ?_
    show GG p e below T10 (mkF m 26 #[.val (.int pa), .val (.int pb), .val (.int pc_), .val (.int pd_), .val (.int pe), .val (.int (3 : Int32)), .val (.int r_4), .val (.int r_7), .val (.int r_10), .unset, .unset, .unset, .unset, .unset] []) t
    refine XS.iloadN X10.here hx rfl (hb hby at_26) rfl ?_
    show GG p e below T10 (mkF m 27 #[.val (.int pa), .val (.int pb), .val (.int pc_), .val (.int pd_), .val (.int pe), .val (.int (3 : Int32)), .val (.int r_4), .val (.int r_7), .val (.int r_10), .unset, .unset, .unset, .unset, .unset] [(.int pd_)]) t
    exact kk_)
  obtain ⟨_, _, ⟨T13, L13, k13, n13⟩, -, X13, ⟨Lc13, hQ13, l13, y13, z13⟩, st13⟩ := Jvm.LawKit.callS X10 hx (y := mn_7) hown (mw hZ hw 0 rfl) (mw hZ hw 1 rfl) (mw hZ hw 2 rfl) (mw hZ hw 3 rfl) (by decide) (backOf (W := 0) (rm_pick l Z a0 hw [] pd_ h0 n0 (Nat.le_trans Z0 (Nat.le_refl h0.size))) hZ (ww hw 3 rfl) (ww hw 2 rfl) (by decide) (by decide)) (g := (mkF m 27 #[.val (.int pa), .val (.int pb), .val (.int pc_), .val (.int pd_), .val (.int pe), .val (.int (3 : Int32)), .val (.int r_4), .val (.int r_7), .val (.int r_10), .unset, .unset, .unset, .unset, .unset] [(.int pd_)])) rfl (by rw [hml]; rfl) (argsL := [(.int pd_)]) (rest := []) (lenOf pd_5 rfl) rfl (by show 2 * 0 + _ ≤ _; exact Nat.le_of_eq rfl) (hb hby at_27) (fun _ _ => ⟨rfl, e10, (by decide : 0 + 0 ≤ _), (by decide : 0 + 0 ≤ _)⟩)
  dsimp only [Pt.U, Pt.locs, Pt.cells, Pt.slots] at X13 l13 y13 z13 st13 hQ13
  subst l13 y13 z13
  obtain ⟨r_13, rfl, N13q, e13, po13_0⟩ := hQ13
  have N13 := Fr.app N10 N13q
  have P14 : ∀ t, GG p e below T13 (mkF m 30 #[.val (.int pa), .val (.int pb), .val (.int pc_), .val (.int pd_), .val (.int pe), .val (.int (3 : Int32)), .val (.int r_4), .val (.int r_7), .val (.int r_10), .unset, .unset, .unset, .unset, .unset] [(.int r_13)]) t → Steps p.tables e below s0 t := fun t kk_ => P12 t (st13 _ kk_)
  have okr_13 := po13_0
  have P15 : ∀ t, GG p e below T13 (mkF m 82 #[.val (.int pa), .val (.int pb), .val (.int pc_), .val (.int pd_), .val (.int pe), .val (.int (3 : Int32)), .val (.int r_4), .val (.int r_7), .val (.int r_10), .val (.int r_13), .unset, .unset, .unset, .unset] [(.int (3 : Int32))]) t → Steps p.tables e below s0 t := fun t kk_ => P14 t (by
    refine XS.istore X13.here hx rfl (hb hby at_30) rfl (l' := #[.val (.int pa), .val (.int pb), .val (.int pc_), .val (.int pd_), .val (.int pe), .val (.int (3 : Int32)), .val (.int r_4), .val (.int r_7), .val (.int r_10), .val (.int r_13), .unset, .unset, .unset, .unset]) rfl ?_
    show GG p e below T13 (mkF m 32 #[.val (.int pa), .val (.int pb), .val (.int pc_), .val (.int pd_), .val (.int pe), .val (.int (3 : Int32)), .val (.int r_4), .val (.int r_7), .val (.int r_10), .val (.int r_13), .unset, .unset, .unset, .unset] []) t
    refine XS.iload X13.here hx rfl (hb hby at_32) rfl ?_
    show GG p e below T13 (mkF m 34 #[.val (.int pa), .val (.int pb), .val (.int pc_), .val (.int pd_), .val (.int pe), .val (.int (3 : Int32)), .val (.int r_4), .val (.int r_7), .val (.int r_10), .val (.int r_13), .unset, .unset, .unset, .unset] [(.int (3 : Int32))]) t
    refine XS.iconst X13.here hx rfl (hb hby at_34) ?_
    show GG p e below T13 (mkF m 35 #[.val (.int pa), .val (.int pb), .val (.int pc_), .val (.int pd_), .val (.int pe), .val (.int (3 : Int32)), .val (.int r_4), .val (.int r_7), .val (.int r_10), .val (.int r_13), .unset, .unset, .unset, .unset] [(.int (1 : Int32)), (.int (3 : Int32))]) t
    refine XS.icmpYes X13.here hx rfl (pc0 := 35) (pc' := 51) rfl (hb hby at_35) rfl (feq ((by decide) : ¬ ((3 : Int32) = (1 : Int32)))).2 (by decide) (by decide) ?_
    show GG p e below T13 (mkF m 51 #[.val (.int pa), .val (.int pb), .val (.int pc_), .val (.int pd_), .val (.int pe), .val (.int (3 : Int32)), .val (.int r_4), .val (.int r_7), .val (.int r_10), .val (.int r_13), .unset, .unset, .unset, .unset] []) t
    refine XS.iload X13.here hx rfl (hb hby at_51) rfl ?_
    show GG p e below T13 (mkF m 53 #[.val (.int pa), .val (.int pb), .val (.int pc_), .val (.int pd_), .val (.int pe), .val (.int (3 : Int32)), .val (.int r_4), .val (.int r_7), .val (.int r_10), .val (.int r_13), .unset, .unset, .unset, .unset] [(.int (3 : Int32))]) t
    refine XS.iconst X13.here hx rfl (hb hby at_53) ?_
    show GG p e below T13 (mkF m 54 #[.val (.int pa), .val (.int pb), .val (.int pc_), .val (.int pd_), .val (.int pe), .val (.int (3 : Int32)), .val (.int r_4), .val (.int r_7), .val (.int r_10), .val (.int r_13), .unset, .unset, .unset, .unset] [(.int (2 : Int32)), (.int (3 : Int32))]) t
    refine XS.icmpYes X13.here hx rfl (pc0 := 54) (pc' := 75) rfl (hb hby at_54) rfl (feq ((by decide) : ¬ ((3 : Int32) = (2 : Int32)))).2 (by decide) (by decide) ?_
    show GG p e below T13 (mkF m 75 #[.val (.int pa), .val (.int pb), .val (.int pc_), .val (.int pd_), .val (.int pe), .val (.int (3 : Int32)), .val (.int r_4), .val (.int r_7), .val (.int r_10), .val (.int r_13), .unset, .unset, .unset, .unset] []) t
    refine XS.iload X13.here hx rfl (hb hby at_75) rfl ?_
    show GG p e below T13 (mkF m 77 #[.val (.int pa), .val (.int pb), .val (.int pc_), .val (.int pd_), .val (.int pe), .val (.int (3 : Int32)), .val (.int r_4), .val (.int r_7), .val (.int r_10), .val (.int r_13), .unset, .unset, .unset, .unset] [(.int (3 : Int32))]) t
    refine XS.iconst X13.here hx rfl (hb hby at_77) ?_
    show GG p e below T13 (mkF m 78 #[.val (.int pa), .val (.int pb), .val (.int pc_), .val (.int pd_), .val (.int pe), .val (.int (3 : Int32)), .val (.int r_4), .val (.int r_7), .val (.int r_10), .val (.int r_13), .unset, .unset, .unset, .unset] [(.int (3 : Int32)), (.int (3 : Int32))]) t
    refine XS.icmpNo X13.here hx rfl (hb hby at_78) rfl (teq ((by decide) : (3 : Int32) = (3 : Int32))).2 ?_
    show GG p e below T13 (mkF m 81 #[.val (.int pa), .val (.int pb), .val (.int pc_), .val (.int pd_), .val (.int pe), .val (.int (3 : Int32)), .val (.int r_4), .val (.int r_7), .val (.int r_10), .val (.int r_13), .unset, .unset, .unset, .unset] []) t
    refine XS.iconst X13.here hx rfl (hb hby at_81) ?_
    show GG p e below T13 (mkF m 82 #[.val (.int pa), .val (.int pb), .val (.int pc_), .val (.int pd_), .val (.int pe), .val (.int (3 : Int32)), .val (.int r_4), .val (.int r_7), .val (.int r_10), .val (.int r_13), .unset, .unset, .unset, .unset] [(.int (3 : Int32))]) t
    exact kk_)
  obtain ⟨T16, h16, k16, X16, e16, E16, A16, st16⟩ := newP X13 hx hZ (ww hw 5 rfl) e13 (g := (mkF m 82 #[.val (.int pa), .val (.int pb), .val (.int pc_), .val (.int pd_), .val (.int pe), .val (.int (3 : Int32)), .val (.int r_4), .val (.int r_7), .val (.int r_10), .val (.int r_13), .unset, .unset, .unset, .unset] [(.int (3 : Int32))])) rfl (hb hby at_82) rfl (by decide) (cap := 3) (by decide) (by decide) (by decide) (by decide)
  obtain ⟨b16, g16⟩ : ∃ z, z = h0.size := ⟨_, rfl⟩
  rw [← g16] at A16 st16
  have P17 : ∀ t, GG p e below T16 (mkF m 84 #[.val (.int pa), .val (.int pb), .val (.int pc_), .val (.int pd_), .val (.int pe), .val (.int (3 : Int32)), .val (.int r_4), .val (.int r_7), .val (.int r_10), .val (.int r_13), .unset, .unset, .unset, .unset] [(.ref b16)]) t → Steps p.tables e below s0 t := fun t kk_ => P15 t (st16 _ kk_)
  have sz_b16 : h0.size ≤ b16 := Nat.le_trans (Nat.le_refl h0.size) (Nat.le_of_eq g16.symm)
  replace OL : Old Z n0 h16 := OL.ext E16
  have K16 : Keep h0 h16 [] := (Keep.refl h0 []).ext E16
  have V_b16 : Arv Z h16 b16 k16 .char (3 : Int32) [(.int (0 : Int32)), (.int (0 : Int32)), (.int (0 : Int32))] (.int (0 : Int32)) := (Arv.new A16 (by decide)).pad (pad_rep [] (.int (0 : Int32)) 3)
  have P18 : ∀ t, GG p e below T16 (mkF m 88 #[.val (.int pa), .val (.int pb), .val (.int pc_), .val (.int pd_), .val (.int pe), .val (.int (3 : Int32)), .val (.int r_4), .val (.int r_7), .val (.int r_10), .val (.int r_13), .unset, .unset, .unset, .unset] [(.int r_4), (.int (0 : Int32)), (.ref b16), (.ref b16)]) t → Steps p.tables e below s0 t := fun t kk_ => P17 t (by
    refine XS.dup X16.here hx rfl (hb hby at_84) rfl rfl ?_
    show GG p e below T16 (mkF m 85 #[.val (.int pa), .val (.int pb), .val (.int pc_), .val (.int pd_), .val (.int pe), .val (.int (3 : Int32)), .val (.int r_4), .val (.int r_7), .val (.int r_10), .val (.int r_13), .unset, .unset, .unset, .unset] [(.ref b16), (.ref b16)]) t
    refine XS.iconst X16.here hx rfl (hb hby at_85) ?_
    show GG p e below T16 (mkF m 86 #[.val (.int pa), .val (.int pb), .val (.int pc_), .val (.int pd_), .val (.int pe), .val (.int (3 : Int32)), .val (.int r_4), .val (.int r_7), .val (.int r_10), .val (.int r_13), .unset, .unset, .unset, .unset] [(.int (0 : Int32)), (.ref b16), (.ref b16)]) t
    refine XS.iload X16.here hx rfl (hb hby at_86) rfl ?_
    show GG p e below T16 (mkF m 88 #[.val (.int pa), .val (.int pb), .val (.int pc_), .val (.int pd_), .val (.int pe), .val (.int (3 : Int32)), .val (.int r_4), .val (.int r_7), .val (.int r_10), .val (.int r_13), .unset, .unset, .unset, .unset] [(.int r_4), (.int (0 : Int32)), (.ref b16), (.ref b16)]) t
    exact kk_)
  obtain ⟨cl19, Ar19, q19, S19, M19, Hs19, G19⟩ := V_b16
  obtain ⟨T19, h19, X19, e19, W19, st19⟩ := stC X16 hx hZ e16 Ar19 (j := (0 : Int32)) (inb_of S19 ⟨by decide, by decide⟩) (g := (mkF m 88 #[.val (.int pa), .val (.int pb), .val (.int pc_), .val (.int pd_), .val (.int pe), .val (.int (3 : Int32)), .val (.int r_4), .val (.int r_7), .val (.int r_10), .val (.int r_13), .unset, .unset, .unset, .unset] [(.int r_4), (.int (0 : Int32)), (.ref b16), (.ref b16)])) rfl rfl (hb hby at_88)
  have P20 : ∀ t, GG p e below T19 (mkF m 89 #[.val (.int pa), .val (.int pb), .val (.int pc_), .val (.int pd_), .val (.int pe), .val (.int (3 : Int32)), .val (.int r_4), .val (.int r_7), .val (.int r_10), .val (.int r_13), .unset, .unset, .unset, .unset] [(.ref b16)]) t → Steps p.tables e below s0 t := fun t kk_ => P18 t (st19 _ kk_)
  have N19 := Fr.snoc X19 N13 (Nat.le_trans Z0 sz_b16)
  have K19 : Keep h0 h19 [] := K16.wr W19 (Or.inr sz_b16)
  replace OL : Old Z n0 h19 := OL.wr W19 (Nat.le_trans Z0 sz_b16)
  have V_b16 : Arv Z h19 b16 k16 .char (3 : Int32) [(.int (nar .char r_4)), (.int (0 : Int32)), (.int (0 : Int32))] (.int (0 : Int32)) := Arv.set Ar19 q19 S19 M19 Hs19 G19 (fits_nar_char _) W19 0 rfl (Nat.le_of_ble_eq_true rfl)
  have P21 : ∀ t, GG p e below T19 (mkF m 93 #[.val (.int pa), .val (.int pb), .val (.int pc_), .val (.int pd_), .val (.int pe), .val (.int (3 : Int32)), .val (.int r_4), .val (.int r_7), .val (.int r_10), .val (.int r_13), .unset, .unset, .unset, .unset] [(.int r_7), (.int (1 : Int32)), (.ref b16), (.ref b16)]) t → Steps p.tables e below s0 t := fun t kk_ => P20 t (by
    refine XS.dup X19.here hx rfl (hb hby at_89) rfl rfl ?_
    show GG p e below T19 (mkF m 90 #[.val (.int pa), .val (.int pb), .val (.int pc_), .val (.int pd_), .val (.int pe), .val (.int (3 : Int32)), .val (.int r_4), .val (.int r_7), .val (.int r_10), .val (.int r_13), .unset, .unset, .unset, .unset] [(.ref b16), (.ref b16)]) t
    refine XS.iconst X19.here hx rfl (hb hby at_90) ?_
    show GG p e below T19 (mkF m 91 #[.val (.int pa), .val (.int pb), .val (.int pc_), .val (.int pd_), .val (.int pe), .val (.int (3 : Int32)), .val (.int r_4), .val (.int r_7), .val (.int r_10), .val (.int r_13), .unset, .unset, .unset, .unset] [(.int (1 : Int32)), (.ref b16), (.ref b16)]) t
    refine XS.iload X19.here hx rfl (hb hby at_91) rfl ?_
    show GG p e below T19 (mkF m 93 #[.val (.int pa), .val (.int pb), .val (.int pc_), .val (.int pd_), .val (.int pe), .val (.int (3 : Int32)), .val (.int r_4), .val (.int r_7), .val (.int r_10), .val (.int r_13), .unset, .unset, .unset, .unset] [(.int r_7), (.int (1 : Int32)), (.ref b16), (.ref b16)]) t
    exact kk_)
  obtain ⟨cl22, Ar22, q22, S22, M22, Hs22, G22⟩ := V_b16
  obtain ⟨T22, h22, X22, e22, W22, st22⟩ := stC X19 hx hZ e19 Ar22 (j := (1 : Int32)) (inb_of S22 ⟨by decide, by decide⟩) (g := (mkF m 93 #[.val (.int pa), .val (.int pb), .val (.int pc_), .val (.int pd_), .val (.int pe), .val (.int (3 : Int32)), .val (.int r_4), .val (.int r_7), .val (.int r_10), .val (.int r_13), .unset, .unset, .unset, .unset] [(.int r_7), (.int (1 : Int32)), (.ref b16), (.ref b16)])) rfl rfl (hb hby at_93)
  have P23 : ∀ t, GG p e below T22 (mkF m 94 #[.val (.int pa), .val (.int pb), .val (.int pc_), .val (.int pd_), .val (.int pe), .val (.int (3 : Int32)), .val (.int r_4), .val (.int r_7), .val (.int r_10), .val (.int r_13), .unset, .unset, .unset, .unset] [(.ref b16)]) t → Steps p.tables e below s0 t := fun t kk_ => P21 t (st22 _ kk_)
  have N22 := Fr.snoc X22 N19 (Nat.le_trans Z0 sz_b16)
  have K22 : Keep h0 h22 [] := K19.wr W22 (Or.inr sz_b16)
  replace OL : Old Z n0 h22 := OL.wr W22 (Nat.le_trans Z0 sz_b16)
  have V_b16 : Arv Z h22 b16 k16 .char (3 : Int32) [(.int (nar .char r_4)), (.int (nar .char r_7)), (.int (0 : Int32))] (.int (0 : Int32)) := Arv.set Ar22 q22 S22 M22 Hs22 G22 (fits_nar_char _) W22 1 rfl (Nat.le_of_ble_eq_true rfl)
  have P24 : ∀ t, GG p e below T22 (mkF m 98 #[.val (.int pa), .val (.int pb), .val (.int pc_), .val (.int pd_), .val (.int pe), .val (.int (3 : Int32)), .val (.int r_4), .val (.int r_7), .val (.int r_10), .val (.int r_13), .unset, .unset, .unset, .unset] [(.int r_10), (.int (2 : Int32)), (.ref b16), (.ref b16)]) t → Steps p.tables e below s0 t := fun t kk_ => P23 t (by
    refine XS.dup X22.here hx rfl (hb hby at_94) rfl rfl ?_
    show GG p e below T22 (mkF m 95 #[.val (.int pa), .val (.int pb), .val (.int pc_), .val (.int pd_), .val (.int pe), .val (.int (3 : Int32)), .val (.int r_4), .val (.int r_7), .val (.int r_10), .val (.int r_13), .unset, .unset, .unset, .unset] [(.ref b16), (.ref b16)]) t
    refine XS.iconst X22.here hx rfl (hb hby at_95) ?_
    show GG p e below T22 (mkF m 96 #[.val (.int pa), .val (.int pb), .val (.int pc_), .val (.int pd_), .val (.int pe), .val (.int (3 : Int32)), .val (.int r_4), .val (.int r_7), .val (.int r_10), .val (.int r_13), .unset, .unset, .unset, .unset] [(.int (2 : Int32)), (.ref b16), (.ref b16)]) t
    refine XS.iload X22.here hx rfl (hb hby at_96) rfl ?_
    show GG p e below T22 (mkF m 98 #[.val (.int pa), .val (.int pb), .val (.int pc_), .val (.int pd_), .val (.int pe), .val (.int (3 : Int32)), .val (.int r_4), .val (.int r_7), .val (.int r_10), .val (.int r_13), .unset, .unset, .unset, .unset] [(.int r_10), (.int (2 : Int32)), (.ref b16), (.ref b16)]) t
    exact kk_)
  obtain ⟨cl25, Ar25, q25, S25, M25, Hs25, G25⟩ := V_b16
  obtain ⟨T25, h25, X25, e25, W25, st25⟩ := stC X22 hx hZ e22 Ar25 (j := (2 : Int32)) (inb_of S25 ⟨by decide, by decide⟩) (g := (mkF m 98 #[.val (.int pa), .val (.int pb), .val (.int pc_), .val (.int pd_), .val (.int pe), .val (.int (3 : Int32)), .val (.int r_4), .val (.int r_7), .val (.int r_10), .val (.int r_13), .unset, .unset, .unset, .unset] [(.int r_10), (.int (2 : Int32)), (.ref b16), (.ref b16)])) rfl rfl (hb hby at_98)
  have P26 : ∀ t, GG p e below T25 (mkF m 99 #[.val (.int pa), .val (.int pb), .val (.int pc_), .val (.int pd_), .val (.int pe), .val (.int (3 : Int32)), .val (.int r_4), .val (.int r_7), .val (.int r_10), .val (.int r_13), .unset, .unset, .unset, .unset] [(.ref b16)]) t → Steps p.tables e below s0 t := fun t kk_ => P24 t (st25 _ kk_)
  have N25 := Fr.snoc X25 N22 (Nat.le_trans Z0 sz_b16)
  have K25 : Keep h0 h25 [] := K22.wr W25 (Or.inr sz_b16)
  replace OL : Old Z n0 h25 := OL.wr W25 (Nat.le_trans Z0 sz_b16)
  have V_b16 : Arv Z h25 b16 k16 .char (3 : Int32) [(.int (nar .char r_4)), (.int (nar .char r_7)), (.int (nar .char r_10))] (.int (0 : Int32)) := Arv.set Ar25 q25 S25 M25 Hs25 G25 (fits_nar_char _) W25 2 rfl (Nat.le_of_ble_eq_true rfl)
  have P27 : ∀ t, GG p e below T25 (mkF m 129 #[.val (.int pa), .val (.int pb), .val (.int pc_), .val (.int pd_), .val (.int pe), .val (.int (3 : Int32)), .val (.int r_4), .val (.int r_7), .val (.int r_10), .val (.int r_13), .val (.ref b16), .unset, .unset, .unset] []) t → Steps p.tables e below s0 t := fun t kk_ => P26 t (by
    refine XS.astore X25.here hx rfl (hb hby at_99) rfl rfl (l' := #[.val (.int pa), .val (.int pb), .val (.int pc_), .val (.int pd_), .val (.int pe), .val (.int (3 : Int32)), .val (.int r_4), .val (.int r_7), .val (.int r_10), .val (.int r_13), .val (.ref b16), .unset, .unset, .unset]) rfl ?_
    show GG p e below T25 (mkF m 101 #[.val (.int pa), .val (.int pb), .val (.int pc_), .val (.int pd_), .val (.int pe), .val (.int (3 : Int32)), .val (.int r_4), .val (.int r_7), .val (.int r_10), .val (.int r_13), .val (.ref b16), .unset, .unset, .unset] []) t
    refine XS.goto X25.here hx rfl (pc0 := 101) (pc' := 129) rfl (hb hby at_101) (by decide) (by decide) ?_
    show GG p e below T25 (mkF m 129 #[.val (.int pa), .val (.int pb), .val (.int pc_), .val (.int pd_), .val (.int pe), .val (.int (3 : Int32)), .val (.int r_4), .val (.int r_7), .val (.int r_10), .val (.int r_13), .val (.ref b16), .unset, .unset, .unset] []) t
    exact kk_)
  have hcs : ∀ c ∈ ([r_4, r_7, r_10] : List Int32), okB c = true := by
    intro c hc
    simp only [List.mem_cons, List.not_mem_nil, or_false] at hc
    rcases hc with rfl | rfl | rfl
    · exact okr_4
    · exact okr_7
    · exact okr_10
  replace V_b16 : Arv Z h25 b16 k16 .char (3 : Int32) (([r_4, r_7, r_10] : List Int32).map Value.int) (.int (0 : Int32)) := by
    have q := V_b16
    rw [(own_ok r_4 okr_4).2, (own_ok r_7 okr_7).2, (own_ok r_10 okr_10).2] at q
    exact q
  obtain ⟨T28, h28, X28, e28, E28, A28, D28, -, st28⟩ := newO X25 hx hZ hown (ww hw 6 rfl) (ww hw 7 rfl) (ww hw 8 rfl) e25 (g := (mkF m 129 #[.val (.int pa), .val (.int pb), .val (.int pc_), .val (.int pd_), .val (.int pe), .val (.int (3 : Int32)), .val (.int r_4), .val (.int r_7), .val (.int r_10), .val (.int r_13), .val (.ref b16), .unset, .unset, .unset] [])) rfl (hb hby at_129) (by decide) (by decide)
  obtain ⟨b28, g28⟩ : ∃ z, z = h25.size := ⟨_, rfl⟩
  rw [← g28] at A28 D28 st28
  have P29 : ∀ t, GG p e below T28 (mkF m 132 #[.val (.int pa), .val (.int pb), .val (.int pc_), .val (.int pd_), .val (.int pe), .val (.int (3 : Int32)), .val (.int r_4), .val (.int r_7), .val (.int r_10), .val (.int r_13), .val (.ref b16), .unset, .unset, .unset] [(.ref b28)]) t → Steps p.tables e below s0 t := fun t kk_ => P27 t (st28 _ kk_)
  have ne_b16_b28 : b16 ≠ b28 := Nat.ne_of_lt (Nat.lt_of_lt_of_le V_b16.lt (Nat.le_of_eq g28.symm))
  have sz_b28 : h0.size ≤ b28 := Nat.le_trans K25.1 (Nat.le_of_eq g28.symm)
  replace OL : Old Z n0 h28 := OL.ext E28
  replace V_b16 : Arv Z h28 b16 k16 .char (3 : Int32) (([r_4, r_7, r_10] : List Int32).map Value.int) (.int (0 : Int32)) := V_b16.ext E28
  have K28 : Keep h0 h28 [] := K25.ext E28
  have E_b28 : Exa Z h28 b28 "java/lang/String" := A28
  have F_coder_b28 : Fld Z h28 b28 "java/lang/String" "coder" "B" (.int (0 : Int32)) := D28 (Or.inr (ww hw 32 rfl)) (ty := .byte) (by decide)
  have F_value_b28 : Fld Z h28 b28 "java/lang/String" "value" "[B" .null := D28 (Or.inr (ww hw 34 rfl)) (ty := (.array .byte)) (by decide)
  have P30 : ∀ t, GG p e below T28 (mkF m 135 #[.val (.int pa), .val (.int pb), .val (.int pc_), .val (.int pd_), .val (.int pe), .val (.int (3 : Int32)), .val (.int r_4), .val (.int r_7), .val (.int r_10), .val (.int r_13), .val (.ref b16), .unset, .unset, .unset] [(.ref b16), (.ref b28), (.ref b28)]) t → Steps p.tables e below s0 t := fun t kk_ => P29 t (by
    refine XS.dup X28.here hx rfl (hb hby at_132) rfl rfl ?_
    show GG p e below T28 (mkF m 133 #[.val (.int pa), .val (.int pb), .val (.int pc_), .val (.int pd_), .val (.int pe), .val (.int (3 : Int32)), .val (.int r_4), .val (.int r_7), .val (.int r_10), .val (.int r_13), .val (.ref b16), .unset, .unset, .unset] [(.ref b28), (.ref b28)]) t
    refine XS.aload X28.here hx rfl (hb hby at_133) rfl rfl ?_
    show GG p e below T28 (mkF m 135 #[.val (.int pa), .val (.int pb), .val (.int pc_), .val (.int pd_), .val (.int pe), .val (.int (3 : Int32)), .val (.int r_4), .val (.int r_7), .val (.int r_10), .val (.int r_13), .val (.ref b16), .unset, .unset, .unset] [(.ref b16), (.ref b28), (.ref b28)]) t
    exact kk_)
  obtain ⟨_, _, ⟨T31, L31, k31, n31⟩, -, X31, ⟨Lc31, hQ31, l31, y31, z31⟩, st31⟩ := X28.specialBack hx (y := mn_8) rfl hown (mw hZ hw 9 rfl) (mw hZ hw 10 rfl) (mw hZ hw 11 rfl) (by decide) (StrChars.Road.backV (W := 1) hZ (own_wNew hw) (kI := 4) (ww hw 7 rfl) (cs := ([r_4, r_7, r_10] : List Int32)) (bs := (([r_4, r_7, r_10] : List Int32)).map (fun c => c.toInt8.toInt32)) (n := 3) (Nat.le_trans Z0 sz_b28) (Nat.le_trans Z0 K28.1) E_b28 F_value_b28 F_coder_b28 V_b16 (S_COMPACT_STRINGS.ext OL.2) hz rfl rfl (by decide) (by decide) ((own_up _ hcs).1) rfl (by decide) (by decide)) (g := (mkF m 135 #[.val (.int pa), .val (.int pb), .val (.int pc_), .val (.int pd_), .val (.int pe), .val (.int (3 : Int32)), .val (.int r_4), .val (.int r_7), .val (.int r_10), .val (.int r_13), .val (.ref b16), .unset, .unset, .unset] [(.ref b16), (.ref b28), (.ref b28)])) rfl (by rw [hml]; rfl) (Steps.refl _) (a := b28) (argsL := [(.ref b16)]) (rest := [(.ref b28)]) (lenOf pd_6 rfl) rfl (by show 2 * 0 + _ ≤ _; exact Nat.le_of_eq rfl) (hb hby at_135) (fun _ _ => ⟨rfl, e28, (by decide : 2 + 1 ≤ _), (by decide : 7 + 3 ≤ _)⟩)
  dsimp only [Pt.U, Pt.locs, Pt.cells, Pt.slots] at X31 l31 y31 z31 st31 hQ31
  subst l31 y31 z31
  obtain ⟨rfl, N31q, Kc31, po31_0, po31_1, t_31, kb_31, po31_2, po31_3, po31_4, po31_5, po31_6⟩ := hQ31
  have N31 := Fr.app N25 N31q
  have P32 : ∀ t, GG p e below T31 (mkF m 138 #[.val (.int pa), .val (.int pb), .val (.int pc_), .val (.int pd_), .val (.int pe), .val (.int (3 : Int32)), .val (.int r_4), .val (.int r_7), .val (.int r_10), .val (.int r_13), .val (.ref b16), .unset, .unset, .unset] [(.ref b28)]) t → Steps p.tables e below s0 t := fun t kk_ => P30 t (st31.trans kk_)
  have ne_b16_t_31 : b16 ≠ t_31 := Nat.ne_of_lt (Nat.lt_of_lt_of_le V_b16.lt po31_3)
  have ne_b28_t_31 : b28 ≠ t_31 := Nat.ne_of_lt (Nat.lt_of_lt_of_le E_b28.lt po31_3)
  have sz_t_31 : h0.size ≤ t_31 := Nat.le_trans K28.1 po31_3
  replace OL : Old Z n0 T31.heap := OL.keep Kc31 (allS (Nat.le_trans Z0 sz_b28) all0)
  replace V_b16 : Arv Z T31.heap b16 k16 .char (3 : Int32) (([r_4, r_7, r_10] : List Int32).map Value.int) (.int (0 : Int32)) := V_b16.keep Kc31 (ninS ne_b16_b28 nin0)
  replace E_b28 : Exa Z T31.heap b28 "java/lang/String" := E_b28.keep Kc31
  have K31 : Keep h0 T31.heap [] := K28.trans Kc31 (allS (P := fun x => x ∈ [] ∨ h0.size ≤ x) (Or.inr sz_b28) all0)
  have E_b28 : Exa Z T31.heap b28 "java/lang/String" := po31_0
  have F_coder_b28 : Fld Z T31.heap b28 "java/lang/String" "coder" "B" (.int (0 : Int32)) := po31_1
  have nt_31 := po31_4
  have F_value_b28 : Fld Z T31.heap b28 "java/lang/String" "value" "[B" (.ref t_31) := po31_5
  have V_t_31 : Arv Z T31.heap t_31 kb_31 .byte (3 : Int32) (((([r_4, r_7, r_10] : List Int32)).map (fun c => c.toInt8.toInt32)).map Value.int) (.int (0 : Int32)) := po31_6
  have P33 : ∀ t, GG p e below T31 (mkF m 149 #[.val (.int pa), .val (.int pb), .val (.int pc_), .val (.int pd_), .val (.int pe), .val (.int (3 : Int32)), .val (.int r_4), .val (.int r_7), .val (.int r_10), .val (.int r_13), .val (.ref b16), .val (.ref b28), .unset, .unset] [(.int ((((pe.toUInt32 >>> ((2 : Int32) &&& 31).toUInt32).toInt32) &&& (255 : Int32)).toUInt32.toUInt16.toUInt32.toInt32))]) t → Steps p.tables e below s0 t := fun t kk_ => P32 t (by
    refine XS.astore X31.here hx rfl (hb hby at_138) rfl rfl (l' := #[.val (.int pa), .val (.int pb), .val (.int pc_), .val (.int pd_), .val (.int pe), .val (.int (3 : Int32)), .val (.int r_4), .val (.int r_7), .val (.int r_10), .val (.int r_13), .val (.ref b16), .val (.ref b28), .unset, .unset]) rfl ?_
    show GG p e below T31 (mkF m 140 #[.val (.int pa), .val (.int pb), .val (.int pc_), .val (.int pd_), .val (.int pe), .val (.int (3 : Int32)), .val (.int r_4), .val (.int r_7), .val (.int r_10), .val (.int r_13), .val (.ref b16), .val (.ref b28), .unset, .unset] []) t
    refine XS.iload X31.here hx rfl (hb hby at_140) rfl ?_
    show GG p e below T31 (mkF m 142 #[.val (.int pa), .val (.int pb), .val (.int pc_), .val (.int pd_), .val (.int pe), .val (.int (3 : Int32)), .val (.int r_4), .val (.int r_7), .val (.int r_10), .val (.int r_13), .val (.ref b16), .val (.ref b28), .unset, .unset] [(.int pe)]) t
    refine XS.iconst X31.here hx rfl (hb hby at_142) ?_
    show GG p e below T31 (mkF m 143 #[.val (.int pa), .val (.int pb), .val (.int pc_), .val (.int pd_), .val (.int pe), .val (.int (3 : Int32)), .val (.int r_4), .val (.int r_7), .val (.int r_10), .val (.int r_13), .val (.ref b16), .val (.ref b28), .unset, .unset] [(.int (2 : Int32)), (.int pe)]) t
    refine XS.iushr X31.here hx rfl (hb hby at_143) rfl ?_
    show GG p e below T31 (mkF m 144 #[.val (.int pa), .val (.int pb), .val (.int pc_), .val (.int pd_), .val (.int pe), .val (.int (3 : Int32)), .val (.int r_4), .val (.int r_7), .val (.int r_10), .val (.int r_13), .val (.ref b16), .val (.ref b28), .unset, .unset] [(.int ((pe.toUInt32 >>> ((2 : Int32) &&& 31).toUInt32).toInt32))]) t
    refine XS.sipush X31.here hx rfl (hb hby at_144) ?_
    show GG p e below T31 (mkF m 147 #[.val (.int pa), .val (.int pb), .val (.int pc_), .val (.int pd_), .val (.int pe), .val (.int (3 : Int32)), .val (.int r_4), .val (.int r_7), .val (.int r_10), .val (.int r_13), .val (.ref b16), .val (.ref b28), .unset, .unset] [(.int (255 : Int32)), (.int ((pe.toUInt32 >>> ((2 : Int32) &&& 31).toUInt32).toInt32))]) t
    refine XS.iand X31.here hx rfl (hb hby at_147) rfl ?_
    show GG p e below T31 (mkF m 148 #[.val (.int pa), .val (.int pb), .val (.int pc_), .val (.int pd_), .val (.int pe), .val (.int (3 : Int32)), .val (.int r_4), .val (.int r_7), .val (.int r_10), .val (.int r_13), .val (.ref b16), .val (.ref b28), .unset, .unset] [(.int (((pe.toUInt32 >>> ((2 : Int32) &&& 31).toUInt32).toInt32) &&& (255 : Int32)))]) t
    refine XS.i2c X31.here hx rfl (hb hby at_148) rfl ?_
    show GG p e below T31 (mkF m 149 #[.val (.int pa), .val (.int pb), .val (.int pc_), .val (.int pd_), .val (.int pe), .val (.int (3 : Int32)), .val (.int r_4), .val (.int r_7), .val (.int r_10), .val (.int r_13), .val (.ref b16), .val (.ref b28), .unset, .unset] [(.int ((((pe.toUInt32 >>> ((2 : Int32) &&& 31).toUInt32).toInt32) &&& (255 : Int32)).toUInt32.toUInt16.toUInt32.toInt32))]) t
    exact kk_)
  obtain ⟨_, _, ⟨T34, L34, k34, n34⟩, -, X34, ⟨Lc34, hQ34, l34, y34, z34⟩, st34⟩ := Jvm.LawKit.callS X31 hx (y := mn_9) hown (mw hZ hw 35 rfl) (mw hZ hw 36 rfl) (mw hZ hw 8 rfl) (mw hZ hw 37 rfl) (by decide) (backOf (W := 0) (rm_valueOf l Z a0 hw [] ((((pe.toUInt32 >>> ((2 : Int32) &&& 31).toUInt32).toInt32) &&& (255 : Int32)).toUInt32.toUInt16.toUInt32.toInt32) G1 T31.heap n0 (Nat.le_trans Z0 K31.1) S_COMPACT_STRINGS OL hz (own_vo _)) hZ (ww hw 37 rfl) (ww hw 8 rfl) (by decide) (by decide)) (g := (mkF m 149 #[.val (.int pa), .val (.int pb), .val (.int pc_), .val (.int pd_), .val (.int pe), .val (.int (3 : Int32)), .val (.int r_4), .val (.int r_7), .val (.int r_10), .val (.int r_13), .val (.ref b16), .val (.ref b28), .unset, .unset] [(.int ((((pe.toUInt32 >>> ((2 : Int32) &&& 31).toUInt32).toInt32) &&& (255 : Int32)).toUInt32.toUInt16.toUInt32.toInt32))])) rfl (by rw [hml]; rfl) (argsL := [(.int ((((pe.toUInt32 >>> ((2 : Int32) &&& 31).toUInt32).toInt32) &&& (255 : Int32)).toUInt32.toUInt16.toUInt32.toInt32))]) (rest := []) (lenOf pd_7 rfl) rfl (by show 2 * 0 + _ ≤ _; exact Nat.le_of_eq rfl) (hb hby at_149) (fun _ _ => ⟨rfl, rfl, (by decide : 3 + 2 ≤ _), (by decide : 10 + 5 ≤ _)⟩)
  dsimp only [Pt.U, Pt.locs, Pt.cells, Pt.slots] at X34 l34 y34 z34 st34 hQ34
  subst l34 y34 z34
  obtain ⟨xs_34, t_34, kb_34, rfl, N34q, Kc34, po34_0, po34_1, po34_2, po34_3, po34_4, po34_5⟩ := hQ34
  have N34 := Fr.app N31 N34q
  have P35 : ∀ t, GG p e below T34 (mkF m 152 #[.val (.int pa), .val (.int pb), .val (.int pc_), .val (.int pd_), .val (.int pe), .val (.int (3 : Int32)), .val (.int r_4), .val (.int r_7), .val (.int r_10), .val (.int r_13), .val (.ref b16), .val (.ref b28), .unset, .unset] [(.ref xs_34)]) t → Steps p.tables e below s0 t := fun t kk_ => P33 t (st34 _ kk_)
  have ne_b16_xs_34 : b16 ≠ xs_34 := Nat.ne_of_lt (Nat.lt_of_lt_of_le V_b16.lt po34_0)
  have ne_b28_xs_34 : b28 ≠ xs_34 := Nat.ne_of_lt (Nat.lt_of_lt_of_le E_b28.lt po34_0)
  have ne_t_31_xs_34 : t_31 ≠ xs_34 := Nat.ne_of_lt (Nat.lt_of_lt_of_le V_t_31.lt po34_0)
  have sz_xs_34 : h0.size ≤ xs_34 := Nat.le_trans K31.1 po34_0
  have ne_b16_t_34 : b16 ≠ t_34 := Nat.ne_of_lt (Nat.lt_of_lt_of_le V_b16.lt po34_1)
  have ne_b28_t_34 : b28 ≠ t_34 := Nat.ne_of_lt (Nat.lt_of_lt_of_le E_b28.lt po34_1)
  have ne_t_31_t_34 : t_31 ≠ t_34 := Nat.ne_of_lt (Nat.lt_of_lt_of_le V_t_31.lt po34_1)
  have sz_t_34 : h0.size ≤ t_34 := Nat.le_trans K31.1 po34_1
  replace OL : Old Z n0 T34.heap := OL.keep Kc34 all0
  replace V_b16 : Arv Z T34.heap b16 k16 .char (3 : Int32) (([r_4, r_7, r_10] : List Int32).map Value.int) (.int (0 : Int32)) := V_b16.keep Kc34 nin0
  replace E_b28 : Exa Z T34.heap b28 "java/lang/String" := E_b28.keep Kc34
  replace F_coder_b28 : Fld Z T34.heap b28 "java/lang/String" "coder" "B" (.int (0 : Int32)) := F_coder_b28.keep Kc34 nin0
  replace F_value_b28 : Fld Z T34.heap b28 "java/lang/String" "value" "[B" (.ref t_31) := F_value_b28.keep Kc34 nin0
  replace V_t_31 : Arv Z T34.heap t_31 kb_31 .byte (3 : Int32) (((([r_4, r_7, r_10] : List Int32)).map (fun c => c.toInt8.toInt32)).map Value.int) (.int (0 : Int32)) := V_t_31.keep Kc34 nin0
  have K34 : Keep h0 T34.heap [] := K31.trans Kc34 all0
  have E_xs_34 : Exa Z T34.heap xs_34 "java/lang/String" := po34_2
  have F_value_xs_34 : Fld Z T34.heap xs_34 "java/lang/String" "value" "[B" (.ref t_34) := po34_3
  have F_coder_xs_34 : Fld Z T34.heap xs_34 "java/lang/String" "coder" "B" (.int (0 : Int32)) := po34_4
  have V_t_34 : Arv Z T34.heap t_34 kb_34 .byte (1 : Int32) [(.int (nar .byte (((((pe.toUInt32 >>> ((2 : Int32) &&& 31).toUInt32).toInt32) &&& (255 : Int32)).toUInt32.toUInt16.toUInt32.toInt32).toInt8.toInt32)))] (.int (0 : Int32)) := po34_5
  have P36 : ∀ t, GG p e below T34 (mkF m 158 #[.val (.int pa), .val (.int pb), .val (.int pc_), .val (.int pd_), .val (.int pe), .val (.int (3 : Int32)), .val (.int r_4), .val (.int r_7), .val (.int r_10), .val (.int r_13), .val (.ref b16), .val (.ref b28), .val (.ref xs_34), .unset] [(.ref b28), (.ref xs_34)]) t → Steps p.tables e below s0 t := fun t kk_ => P35 t (by
    refine XS.astore X34.here hx rfl (hb hby at_152) rfl rfl (l' := #[.val (.int pa), .val (.int pb), .val (.int pc_), .val (.int pd_), .val (.int pe), .val (.int (3 : Int32)), .val (.int r_4), .val (.int r_7), .val (.int r_10), .val (.int r_13), .val (.ref b16), .val (.ref b28), .val (.ref xs_34), .unset]) rfl ?_
    show GG p e below T34 (mkF m 154 #[.val (.int pa), .val (.int pb), .val (.int pc_), .val (.int pd_), .val (.int pe), .val (.int (3 : Int32)), .val (.int r_4), .val (.int r_7), .val (.int r_10), .val (.int r_13), .val (.ref b16), .val (.ref b28), .val (.ref xs_34), .unset] []) t
    refine XS.aload X34.here hx rfl (hb hby at_154) rfl rfl ?_
    show GG p e below T34 (mkF m 156 #[.val (.int pa), .val (.int pb), .val (.int pc_), .val (.int pd_), .val (.int pe), .val (.int (3 : Int32)), .val (.int r_4), .val (.int r_7), .val (.int r_10), .val (.int r_13), .val (.ref b16), .val (.ref b28), .val (.ref xs_34), .unset] [(.ref xs_34)]) t
    refine XS.aload X34.here hx rfl (hb hby at_156) rfl rfl ?_
    show GG p e below T34 (mkF m 158 #[.val (.int pa), .val (.int pb), .val (.int pc_), .val (.int pd_), .val (.int pe), .val (.int (3 : Int32)), .val (.int r_4), .val (.int r_7), .val (.int r_10), .val (.int r_13), .val (.ref b16), .val (.ref b28), .val (.ref xs_34), .unset] [(.ref b28), (.ref xs_34)]) t
    exact kk_)
  obtain ⟨_, _, ⟨T37, L37, k37, n37⟩, -, X37, ⟨Lc37, hQ37, l37, y37, z37⟩, st37⟩ := Jvm.LawKit.callS X34 hx (y := mn_10) hown (mw hZ hw 49 rfl) (mw hZ hw 50 rfl) (mw hZ hw 51 rfl) (mw hZ hw 52 rfl) (by decide) (backOf (W := 0) (rm_check l Z a0 hw [] xs_34 b28 t_31 kb_31 ([r_4, r_7, r_10] : List Int32) G1 G3 T34.heap n0 (Nat.le_trans Z0 K34.1) E_b28 F_value_b28 F_coder_b28 V_t_31 S_COMPACT_STRINGS S_SIOOBE_FORMATTER OL hz rG3 hcs (fun q => nomatch q) (Nat.le_of_ble_eq_true rfl)) hZ (ww hw 52 rfl) (ww hw 51 rfl) (by decide) (by decide)) (g := (mkF m 158 #[.val (.int pa), .val (.int pb), .val (.int pc_), .val (.int pd_), .val (.int pe), .val (.int (3 : Int32)), .val (.int r_4), .val (.int r_7), .val (.int r_10), .val (.int r_13), .val (.ref b16), .val (.ref b28), .val (.ref xs_34), .unset] [(.ref b28), (.ref xs_34)])) rfl (by rw [hml]; rfl) (argsL := [(.ref xs_34), (.ref b28)]) (rest := []) (lenOf pd_8 rfl) rfl (by show 2 * 0 + _ ≤ _; exact Nat.le_of_eq rfl) (hb hby at_158) (fun _ _ => ⟨rfl, rfl, (by decide : 5 + 0 ≤ _), (by decide : 15 + 0 ≤ _)⟩)
  dsimp only [Pt.U, Pt.locs, Pt.cells, Pt.slots] at X37 l37 y37 z37 st37 hQ37
  subst l37 y37 z37
  obtain ⟨rfl, N37q, e37⟩ := hQ37
  have N37 := Fr.app N34 N37q
  have P38 : ∀ t, GG p e below T37 (mkF m 161 #[.val (.int pa), .val (.int pb), .val (.int pc_), .val (.int pd_), .val (.int pe), .val (.int (3 : Int32)), .val (.int r_4), .val (.int r_7), .val (.int r_10), .val (.int r_13), .val (.ref b16), .val (.ref b28), .val (.ref xs_34), .unset] [(.ref b28)]) t → Steps p.tables e below s0 t := fun t kk_ => P36 t (st37 _ kk_)
  have P39 : ∀ t, GG p e below T37 (mkF m 172 #[.val (.int pa), .val (.int pb), .val (.int pc_), .val (.int pd_), .val (.int pe), .val (.int (3 : Int32)), .val (.int r_4), .val (.int r_7), .val (.int r_10), .val (.int r_13), .val (.ref b16), .val (.ref b28), .val (.ref xs_34), .val (.ref b28)] [(.ref b28), (.ref b28)]) t → Steps p.tables e below s0 t := fun t kk_ => P38 t (by
    refine XS.astore X37.here hx rfl (hb hby at_161) rfl rfl (l' := #[.val (.int pa), .val (.int pb), .val (.int pc_), .val (.int pd_), .val (.int pe), .val (.int (3 : Int32)), .val (.int r_4), .val (.int r_7), .val (.int r_10), .val (.int r_13), .val (.ref b16), .val (.ref b28), .val (.ref xs_34), .val (.ref b28)]) rfl ?_
    show GG p e below T37 (mkF m 163 #[.val (.int pa), .val (.int pb), .val (.int pc_), .val (.int pd_), .val (.int pe), .val (.int (3 : Int32)), .val (.int r_4), .val (.int r_7), .val (.int r_10), .val (.int r_13), .val (.ref b16), .val (.ref b28), .val (.ref xs_34), .val (.ref b28)] []) t
    refine XS.aload X37.here hx rfl (hb hby at_163) rfl rfl ?_
    show GG p e below T37 (mkF m 165 #[.val (.int pa), .val (.int pb), .val (.int pc_), .val (.int pd_), .val (.int pe), .val (.int (3 : Int32)), .val (.int r_4), .val (.int r_7), .val (.int r_10), .val (.int r_13), .val (.ref b16), .val (.ref b28), .val (.ref xs_34), .val (.ref b28)] [(.ref b28)]) t
    refine XS.ifnullNo X37.here hx rfl (hb hby at_165) rfl ?_
    show GG p e below T37 (mkF m 168 #[.val (.int pa), .val (.int pb), .val (.int pc_), .val (.int pd_), .val (.int pe), .val (.int (3 : Int32)), .val (.int r_4), .val (.int r_7), .val (.int r_10), .val (.int r_13), .val (.ref b16), .val (.ref b28), .val (.ref xs_34), .val (.ref b28)] []) t
    refine XS.aload X37.here hx rfl (hb hby at_168) rfl rfl ?_
    show GG p e below T37 (mkF m 170 #[.val (.int pa), .val (.int pb), .val (.int pc_), .val (.int pd_), .val (.int pe), .val (.int (3 : Int32)), .val (.int r_4), .val (.int r_7), .val (.int r_10), .val (.int r_13), .val (.ref b16), .val (.ref b28), .val (.ref xs_34), .val (.ref b28)] [(.ref b28)]) t
    refine XS.aload X37.here hx rfl (hb hby at_170) rfl rfl ?_
    show GG p e below T37 (mkF m 172 #[.val (.int pa), .val (.int pb), .val (.int pc_), .val (.int pd_), .val (.int pe), .val (.int (3 : Int32)), .val (.int r_4), .val (.int r_7), .val (.int r_10), .val (.int r_13), .val (.ref b16), .val (.ref b28), .val (.ref xs_34), .val (.ref b28)] [(.ref b28), (.ref b28)]) t
    exact kk_)
  obtain ⟨cq40, kq40, q40a, q40b, q40c⟩ := isOf hZ e37 E_b28
  obtain ⟨_, _, ⟨T40, L40, k40, n40⟩, -, X40, ⟨Lc40, hQ40, l40, y40, z40⟩, st40⟩ := X37.virtualBack hx (y := mn_11) (z := mn_11) hown (mw hZ hw 92 rfl) (mw hZ hw 93 rfl) (notFace_of_selects (args := #[]) (mw hZ hw 95 rfl)) (mw hZ hw 95 rfl) (mw hZ hw 94 rfl) (by decide) (backOf (W := 0) (rm_equals l Z a0 hw [] b28 T34.heap n0 (Nat.le_trans Z0 K34.1)) hZ (ww hw 96 rfl) (ww hw 8 rfl) (by decide) (by decide)) q40a q40c (g := (mkF m 172 #[.val (.int pa), .val (.int pb), .val (.int pc_), .val (.int pd_), .val (.int pe), .val (.int (3 : Int32)), .val (.int r_4), .val (.int r_7), .val (.int r_10), .val (.int r_13), .val (.ref b16), .val (.ref b28), .val (.ref xs_34), .val (.ref b28)] [(.ref b28), (.ref b28)])) rfl (by rw [hml]; rfl) (Steps.refl _) (argsL := [(.ref b28)]) (rest := []) (lenOf pd_9 rfl) rfl (by show 2 * 0 + _ ≤ _; exact Nat.le_of_eq rfl) (hb hby at_172) (fun _ _ => ⟨rfl, e37, (by decide : 5 + 0 ≤ _), (by decide : 15 + 0 ≤ _)⟩)
  dsimp only [Pt.U, Pt.locs, Pt.cells, Pt.slots] at X40 l40 y40 z40 st40 hQ40
  subst l40 y40 z40
  obtain ⟨rfl, N40q, e40⟩ := hQ40
  have N40 := Fr.app N37 N40q
  have P41 : ∀ t, GG p e below T40 (mkF m 175 #[.val (.int pa), .val (.int pb), .val (.int pc_), .val (.int pd_), .val (.int pe), .val (.int (3 : Int32)), .val (.int r_4), .val (.int r_7), .val (.int r_10), .val (.int r_13), .val (.ref b16), .val (.ref b28), .val (.ref xs_34), .val (.ref b28)] [(.int (1 : Int32))]) t → Steps p.tables e below s0 t := fun t kk_ => P39 t (st40.trans kk_)
  have P42 : ∀ t, GG p e below T40 (mkF m 180 #[.val (.int pa), .val (.int pb), .val (.int pc_), .val (.int pd_), .val (.int pe), .val (.int (3 : Int32)), .val (.int r_4), .val (.int r_7), .val (.int r_10), .val (.int r_13), .val (.ref b16), .val (.ref b28), .val (.ref xs_34), .val (.ref b28)] [(.ref b28)]) t → Steps p.tables e below s0 t := fun t kk_ => P41 t (by
    refine XS.ifNo X40.here hx rfl (hb hby at_175) rfl ((if0 _ _).trans (feq ((by decide) : ¬ ((1 : Int32) = (0 : Int32)))).1) ?_
    show GG p e below T40 (mkF m 178 #[.val (.int pa), .val (.int pb), .val (.int pc_), .val (.int pd_), .val (.int pe), .val (.int (3 : Int32)), .val (.int r_4), .val (.int r_7), .val (.int r_10), .val (.int r_13), .val (.ref b16), .val (.ref b28), .val (.ref xs_34), .val (.ref b28)] []) t
    refine XS.aload X40.here hx rfl (hb hby at_178) rfl rfl ?_
    show GG p e below T40 (mkF m 180 #[.val (.int pa), .val (.int pb), .val (.int pc_), .val (.int pd_), .val (.int pe), .val (.int (3 : Int32)), .val (.int r_4), .val (.int r_7), .val (.int r_10), .val (.int r_13), .val (.ref b16), .val (.ref b28), .val (.ref xs_34), .val (.ref b28)] [(.ref b28)]) t
    exact kk_)
  obtain ⟨cq43, kq43, q43a, q43b, q43c⟩ := isOf hZ e40 E_b28
  obtain ⟨_, _, ⟨T43, L43, k43, n43⟩, -, X43, ⟨Lc43, hQ43, l43, y43, z43⟩, st43⟩ := X40.virtualBack hx (y := mn_4) (z := mn_4) hown (mw hZ hw 97 rfl) (mw hZ hw 59 rfl) (notFace_of_selects (args := #[]) (mw hZ hw 61 rfl)) (mw hZ hw 61 rfl) (mw hZ hw 60 rfl) (by decide) (StrChars.Road.lenW (W := 0) hZ (own_wLen hw) (kI := 4) (ww hw 7 rfl) E_b28 F_value_b28 F_coder_b28 V_t_31 (StrChars.Road.codOf (n := 3) rfl (fun x hx => ((own_up _ hcs).1 x hx).2)) ((own_up _ hcs).2) (S_COMPACT_STRINGS.ext OL.2) hz (Nat.le_of_ble_eq_true rfl) (by decide) (by decide)) q43a q43c (g := (mkF m 180 #[.val (.int pa), .val (.int pb), .val (.int pc_), .val (.int pd_), .val (.int pe), .val (.int (3 : Int32)), .val (.int r_4), .val (.int r_7), .val (.int r_10), .val (.int r_13), .val (.ref b16), .val (.ref b28), .val (.ref xs_34), .val (.ref b28)] [(.ref b28)])) rfl (by rw [hml]; rfl) (Steps.refl _) (argsL := []) (rest := []) (lenOf pd_4 rfl) rfl (by show 2 * 0 + _ ≤ _; exact Nat.le_of_eq rfl) (hb hby at_180) (fun _ _ => ⟨rfl, e40, (by decide : 5 + 0 ≤ _), (by decide : 15 + 0 ≤ _)⟩)
  dsimp only [Pt.U, Pt.locs, Pt.cells, Pt.slots] at X43 l43 y43 z43 st43 hQ43
  subst l43 y43 z43
  obtain ⟨rfl, rfl, e43⟩ := hQ43
  have N43q : Fr n0 ([] : List Loc) := Fr.nil n0
  have N43 := Fr.app N40 N43q
  have P44 : ∀ t, GG p e below T43 (mkF m 183 #[.val (.int pa), .val (.int pb), .val (.int pc_), .val (.int pd_), .val (.int pe), .val (.int (3 : Int32)), .val (.int r_4), .val (.int r_7), .val (.int r_10), .val (.int r_13), .val (.ref b16), .val (.ref b28), .val (.ref xs_34), .val (.ref b28)] [(.int (Int32.ofNat (([r_4, r_7, r_10] : List Int32)).length))]) t → Steps p.tables e below s0 t := fun t kk_ => P42 t (st43.trans kk_)
  have P45 : ∀ t, GG p e below T43 (mkF m 193 #[.val (.int pa), .val (.int pb), .val (.int pc_), .val (.int pd_), .val (.int pe), .val (.int (3 : Int32)), .val (.int r_4), .val (.int r_7), .val (.int r_10), .val (.int r_13), .val (.ref b16), .val (.ref b28), .val (.ref xs_34), .val (.ref b28)] [(.int (1 : Int32))]) t → Steps p.tables e below s0 t := fun t kk_ => P44 t (by
    refine XS.iload X43.here hx rfl (hb hby at_183) rfl ?_
    show GG p e below T43 (mkF m 185 #[.val (.int pa), .val (.int pb), .val (.int pc_), .val (.int pd_), .val (.int pe), .val (.int (3 : Int32)), .val (.int r_4), .val (.int r_7), .val (.int r_10), .val (.int r_13), .val (.ref b16), .val (.ref b28), .val (.ref xs_34), .val (.ref b28)] [(.int (3 : Int32)), (.int (Int32.ofNat (([r_4, r_7, r_10] : List Int32)).length))]) t
    refine XS.icmpNo X43.here hx rfl (hb hby at_185) rfl (teq (rfl : (Int32.ofNat (([r_4, r_7, r_10] : List Int32)).length) = (3 : Int32))).2 ?_
    show GG p e below T43 (mkF m 188 #[.val (.int pa), .val (.int pb), .val (.int pc_), .val (.int pd_), .val (.int pe), .val (.int (3 : Int32)), .val (.int r_4), .val (.int r_7), .val (.int r_10), .val (.int r_13), .val (.ref b16), .val (.ref b28), .val (.ref xs_34), .val (.ref b28)] []) t
    refine XS.iconst X43.here hx rfl (hb hby at_188) ?_
    show GG p e below T43 (mkF m 189 #[.val (.int pa), .val (.int pb), .val (.int pc_), .val (.int pd_), .val (.int pe), .val (.int (3 : Int32)), .val (.int r_4), .val (.int r_7), .val (.int r_10), .val (.int r_13), .val (.ref b16), .val (.ref b28), .val (.ref xs_34), .val (.ref b28)] [(.int (1 : Int32))]) t
    refine XS.goto X43.here hx rfl (pc0 := 189) (pc' := 193) rfl (hb hby at_189) (by decide) (by decide) ?_
    show GG p e below T43 (mkF m 193 #[.val (.int pa), .val (.int pb), .val (.int pc_), .val (.int pd_), .val (.int pe), .val (.int (3 : Int32)), .val (.int r_4), .val (.int r_7), .val (.int r_10), .val (.int r_13), .val (.ref b16), .val (.ref b28), .val (.ref xs_34), .val (.ref b28)] [(.int (1 : Int32))]) t
    exact kk_)
  subst hs0
  obtain ⟨fs, hr, hrun, hended, hW, hsame⟩ := X43.leave (v := some (.int (nar .boolean (1 : Int32)))) (fun h => by rw [Bd.returns] at h; cases h)
  refine ⟨_, _, P45 _ ?_, hrun, hended, _, _, rfl, ?_, ⟨_, rfl⟩, hW, hsame.mono (by decide) (by decide)⟩
  · show GG p e below T43 (mkF m 193 #[.val (.int pa), .val (.int pb), .val (.int pc_), .val (.int pd_), .val (.int pe), .val (.int (3 : Int32)), .val (.int r_4), .val (.int r_7), .val (.int r_10), .val (.int r_13), .val (.ref b16), .val (.ref b28), .val (.ref xs_34), .val (.ref b28)] [(.int (1 : Int32))]) _
    exact retN X43 hx (t := .boolean) Bd.returns (by simp) (hb hby at_193) hr
  · show Q_law3 Z pa pb pc_ pd_ pe G1 G3 h0 n0 _ T43.heap _
    rw [e43]
    exact ⟨rfl, N43, K34⟩
theorem ef_law4 (m : MethodId) (x0 : Int32) (x1 : Int32) (x2 : Int32) (x3 : Int32) (x4 : Int32) : entryFrame m #[(.int x0), (.int x1), (.int x2), (.int x3), (.int x4)] maxLocals = mkF m 0 #[.val (.int x0), .val (.int x1), .val (.int x2), .val (.int x3), .val (.int x4), .unset, .unset, .unset, .unset, .unset, .unset, .unset, .unset, .unset] [] := by first | (simp [entryFrame, mkF, argsToLocals, Value.category, maxLocals]; done) | rfl
def Q_law4 (Z : State) (pa : Int32) (pb : Int32) (pc_ : Int32) (pd_ : Int32) (pe : Int32) (G1 : Int32) (G3 : Value) (h0 : Heap) (n0 : Nat) (v : Option Value) (h : Heap) (L : List Loc) : Prop := v = some (.int (1 : Int32)) ∧ Fr n0 L ∧ Keep h0 h []
set_option maxRecDepth 65536 in
set_option maxHeartbeats 40000000 in
theorem rm_law4 (l : Launch) (Z : State) (a0 : Array Value) (hw : ∀ d ∈ tables_1, d.before a0 Z = true) (ws : List Jvm.Cond) (pa : Int32) (pb : Int32) (pc_ : Int32) (pd_ : Int32) (pe : Int32) (G1 : Int32) (G3 : Value) (h0 : Heap) (n0 : Nat) (Z0 : n0 ≤ h0.size) (S_COMPACT_STRINGS : Sta Z Z.heap "java/lang/String" "COMPACT_STRINGS" "Z" (.int G1)) (S_SIOOBE_FORMATTER : Sta Z Z.heap "jdk/internal/util/Preconditions" "SIOOBE_FORMATTER" "Ljava/util/function/BiFunction;" G3) (OL : Old Z n0 h0) (hz : ¬ G1 = 0) (rG3 : G3.isRef = true) (hk : (pe &&& 3) = 3) :
    MetFree l x (head1 (Jvm.Cond.code x code maxLocals ret :: ws) room_1) (fun a U => a = #[(.int pa), (.int pb), (.int pc_), (.int pd_), (.int pe)] ∧ Z.Warmed39 U.vm ∧ U.heap = h0) (fun _ _ _ _ _ => True) (fun _ U o U' => ∃ v L, o = .returned v ∧ Q_law4 Z pa pb pc_ pd_ pe G1 G3 h0 n0 v U'.heap L ∧ FrameEnd U o U' L room_1.cells room_1.slots) := by
  refine MetFree.of_bodySF (plainFor_of_name pn_0) hisR ?_
  intro p e s m args below meth c s₁ Bd hml0 hP hK
  obtain ⟨rfl, hZ, hh⟩ := hP
  have hx := Bd.exec
  have hby := Bd.bytes
  have hml : c.maxLocals = 14 := hml0
  have hown : s.vm.findClass "com/example/leagan/leagan/NamesCheckPinLaw" = some m.cls := findClass_of_methodNamed Bd.named
  have hnm := (name_of_methodNamed Bd.named Bd.method).1
  have X0 : Stand p l e room_1 s m #[(.int pa), (.int pb), (.int pc_), (.int pd_), (.int pe)] below meth c s₁ [] 0 0 := Stand.of_body Bd
  have e0 : s₁.heap = h0 := by rw [← hh, Bd.state]; rfl
  have N0 := Fr.nil n0
  obtain ⟨s0, hs0⟩ : ∃ z, z = (s₁.setTop (entryFrame m #[(.int pa), (.int pb), (.int pc_), (.int pd_), (.int pe)] maxLocals)) := ⟨_, rfl⟩
  have P0 : ∀ t, GG p e below s₁ (mkF m 0 #[.val (.int pa), .val (.int pb), .val (.int pc_), .val (.int pd_), .val (.int pe), .unset, .unset, .unset, .unset, .unset, .unset, .unset, .unset, .unset] []) t → Steps p.tables e below s0 t := fun t kk_ => by rw [hs0]; exact castTop (ef_law4 m pa pb pc_ pd_ pe) kk_
  have P1 : ∀ t, GG p e below s₁ (mkF m 5 #[.val (.int pa), .val (.int pb), .val (.int pc_), .val (.int pd_), .val (.int pe), .unset, .unset, .unset, .unset, .unset, .unset, .unset, .unset, .unset] [(.int (pe &&& (3 : Int32))), (.int (1 : Int32))]) t → Steps p.tables e below s0 t := fun t kk_ => P0 t (by
    refine XS.iconst X0.here hx rfl (hb hby at_0) ?_
    show GG p e below s₁ (mkF m 1 #[.val (.int pa), .val (.int pb), .val (.int pc_), .val (.int pd_), .val (.int pe), .unset, .unset, .unset, .unset, .unset, .unset, .unset, .unset, .unset] [(.int (1 : Int32))]) t
    refine XS.iload X0.here hx rfl (hb hby at_1) rfl ?_
    show GG p e below s₁ (mkF m 3 #[.val (.int pa), .val (.int pb), .val (.int pc_), .val (.int pd_), .val (.int pe), .unset, .unset, .unset, .unset, .unset, .unset, .unset, .unset, .unset] [(.int pe), (.int (1 : Int32))]) t
    refine XS.iconst X0.here hx rfl (hb hby at_3) ?_
    show GG p e below s₁ (mkF m 4 #[.val (.int pa), .val (.int pb), .val (.int pc_), .val (.int pd_), .val (.int pe), .unset, .unset, .unset, .unset, .unset, .unset, .unset, .unset, .unset] [(.int (3 : Int32)), (.int pe), (.int (1 : Int32))]) t
    refine XS.iand X0.here hx rfl (hb hby at_4) rfl ?_
    show GG p e below s₁ (mkF m 5 #[.val (.int pa), .val (.int pb), .val (.int pc_), .val (.int pd_), .val (.int pe), .unset, .unset, .unset, .unset, .unset, .unset, .unset, .unset, .unset] [(.int (pe &&& (3 : Int32))), (.int (1 : Int32))]) t
    exact kk_)
  have P2 : ∀ t, GG p e below s₁ (mkF m 5 #[.val (.int pa), .val (.int pb), .val (.int pc_), .val (.int pd_), .val (.int pe), .unset, .unset, .unset, .unset, .unset, .unset, .unset, .unset, .unset] [(.int (3 : Int32)), (.int (1 : Int32))]) t → Steps p.tables e below s0 t := fun t kk_ => P1 t (by rw [hk]; exact kk_)
  have P3 : ∀ t, GG p e below s₁ (mkF m 9 #[.val (.int pa), .val (.int pb), .val (.int pc_), .val (.int pd_), .val (.int pe), .val (.int (4 : Int32)), .unset, .unset, .unset, .unset, .unset, .unset, .unset, .unset] [(.int pa)]) t → Steps p.tables e below s0 t := fun t kk_ => P2 t (by
    refine XS.iadd X0.here hx rfl (hb hby at_5) rfl ?_
    show GG p e below s₁ (mkF m 6 #[.val (.int pa), .val (.int pb), .val (.int pc_), .val (.int pd_), .val (.int pe), .unset, .unset, .unset, .unset, .unset, .unset, .unset, .unset, .unset] [(.int (4 : Int32))]) t
    refine XS.istore X0.here hx rfl (hb hby at_6) rfl (l' := #[.val (.int pa), .val (.int pb), .val (.int pc_), .val (.int pd_), .val (.int pe), .val (.int (4 : Int32)), .unset, .unset, .unset, .unset, .unset, .unset, .unset, .unset]) rfl ?_
    show GG p e below s₁ (mkF m 8 #[.val (.int pa), .val (.int pb), .val (.int pc_), .val (.int pd_), .val (.int pe), .val (.int (4 : Int32)), .unset, .unset, .unset, .unset, .unset, .unset, .unset, .unset] []) t
    refine XS.iloadN X0.here hx rfl (hb hby at_8) rfl ?_
    show GG p e below s₁ (mkF m 9 #[.val (.int pa), .val (.int pb), .val (.int pc_), .val (.int pd_), .val (.int pe), .val (.int (4 : Int32)), .unset, .unset, .unset, .unset, .unset, .unset, .unset, .unset] [(.int pa)]) t
    exact kk_)
  obtain ⟨_, _, ⟨T4, L4, k4, n4⟩, -, X4, ⟨Lc4, hQ4, l4, y4, z4⟩, st4⟩ := Jvm.LawKit.callS X0 hx (y := mn_7) hown (mw hZ hw 0 rfl) (mw hZ hw 1 rfl) (mw hZ hw 2 rfl) (mw hZ hw 3 rfl) (by decide) (backOf (W := 0) (rm_pick l Z a0 hw [] pa h0 n0 (Nat.le_trans Z0 (Nat.le_refl h0.size))) hZ (ww hw 3 rfl) (ww hw 2 rfl) (by decide) (by decide)) (g := (mkF m 9 #[.val (.int pa), .val (.int pb), .val (.int pc_), .val (.int pd_), .val (.int pe), .val (.int (4 : Int32)), .unset, .unset, .unset, .unset, .unset, .unset, .unset, .unset] [(.int pa)])) rfl (by rw [hml]; rfl) (argsL := [(.int pa)]) (rest := []) (lenOf pd_5 rfl) rfl (by show 2 * 0 + _ ≤ _; exact Nat.le_of_eq rfl) (hb hby at_9) (fun _ _ => ⟨rfl, e0, (by decide : 0 + 0 ≤ _), (by decide : 0 + 0 ≤ _)⟩)
  dsimp only [Pt.U, Pt.locs, Pt.cells, Pt.slots] at X4 l4 y4 z4 st4 hQ4
  subst l4 y4 z4
  obtain ⟨r_4, rfl, N4q, e4, po4_0⟩ := hQ4
  have N4 := Fr.app N0 N4q
  have P5 : ∀ t, GG p e below T4 (mkF m 12 #[.val (.int pa), .val (.int pb), .val (.int pc_), .val (.int pd_), .val (.int pe), .val (.int (4 : Int32)), .unset, .unset, .unset, .unset, .unset, .unset, .unset, .unset] [(.int r_4)]) t → Steps p.tables e below s0 t := fun t kk_ => P3 t (st4 _ kk_)
  have okr_4 := po4_0
  have P6 : ∀ t, GG p e below T4 (mkF m 15 #[.val (.int pa), .val (.int pb), .val (.int pc_), .val (.int pd_), .val (.int pe), .val (.int (4 : Int32)), .val (.int r_4), .unset, .unset, .unset, .unset, .unset, .unset, .unset] [(.int pb)]) t → Steps p.tables e below s0 t := fun t kk_ => P5 t (by
    refine XS.istore X4.here hx rfl (hb hby at_12) rfl (l' := #[.val (.int pa), .val (.int pb), .val (.int pc_), .val (.int pd_), .val (.int pe), .val (.int (4 : Int32)), .val (.int r_4), .unset, .unset, .unset, .unset, .unset, .unset, .unset]) rfl ?_
    show GG p e below T4 (mkF m 14 #[.val (.int pa), .val (.int pb), .val (.int pc_), .val (.int pd_), .val (.int pe), .val (.int (4 : Int32)), .val (.int r_4), .unset, .unset, .unset, .unset, .unset, .unset, .unset] []) t
    refine XS.iloadN X4.here hx rfl (hb hby at_14) rfl ?_
    show GG p e below T4 (mkF m 15 #[.val (.int pa), .val (.int pb), .val (.int pc_), .val (.int pd_), .val (.int pe), .val (.int (4 : Int32)), .val (.int r_4), .unset, .unset, .unset, .unset, .unset, .unset, .unset] [(.int pb)]) t
    exact kk_)
  obtain ⟨_, _, ⟨T7, L7, k7, n7⟩, -, X7, ⟨Lc7, hQ7, l7, y7, z7⟩, st7⟩ := Jvm.LawKit.callS X4 hx (y := mn_7) hown (mw hZ hw 0 rfl) (mw hZ hw 1 rfl) (mw hZ hw 2 rfl) (mw hZ hw 3 rfl) (by decide) (backOf (W := 0) (rm_pick l Z a0 hw [] pb h0 n0 (Nat.le_trans Z0 (Nat.le_refl h0.size))) hZ (ww hw 3 rfl) (ww hw 2 rfl) (by decide) (by decide)) (g := (mkF m 15 #[.val (.int pa), .val (.int pb), .val (.int pc_), .val (.int pd_), .val (.int pe), .val (.int (4 : Int32)), .val (.int r_4), .unset, .unset, .unset, .unset, .unset, .unset, .unset] [(.int pb)])) rfl (by rw [hml]; rfl) (argsL := [(.int pb)]) (rest := []) (lenOf pd_5 rfl) rfl (by show 2 * 0 + _ ≤ _; exact Nat.le_of_eq rfl) (hb hby at_15) (fun _ _ => ⟨rfl, e4, (by decide : 0 + 0 ≤ _), (by decide : 0 + 0 ≤ _)⟩)
  dsimp only [Pt.U, Pt.locs, Pt.cells, Pt.slots] at X7 l7 y7 z7 st7 hQ7
  subst l7 y7 z7
  obtain ⟨r_7, rfl, N7q, e7, po7_0⟩ := hQ7
  have N7 := Fr.app N4 N7q
  have P8 : ∀ t, GG p e below T7 (mkF m 18 #[.val (.int pa), .val (.int pb), .val (.int pc_), .val (.int pd_), .val (.int pe), .val (.int (4 : Int32)), .val (.int r_4), .unset, .unset, .unset, .unset, .unset, .unset, .unset] [(.int r_7)]) t → Steps p.tables e below s0 t := fun t kk_ => P6 t (st7 _ kk_)
  have okr_7 := po7_0
  have P9 : ∀ t, GG p e below T7 (mkF m 21 #[.val (.int pa), .val (.int pb), .val (.int pc_), .val (.int pd_), .val (.int pe), .val (.int (4 : Int32)), .val (.int r_4), .val (.int r_7), .unset, .unset, .unset, .unset, .unset, .unset] [(.int pc_)]) t → Steps p.tables e below s0 t := fun t kk_ => P8 t (by
    refine XS.istore X7.here hx rfl (hb hby at_18) rfl (l' := #[.val (.int pa), .val (.int pb), .val (.int pc_), .val (.int pd_), .val (.int pe), .val (.int (4 : Int32)), .val (.int r_4), .val (.int r_7), .unset, .unset, .unset, .unset, .unset, .unset]) rfl ?_
    show GG p e below T7 (mkF m 20 #[.val (.int pa), .val (.int pb), .val (.int pc_), .val (.int pd_), .val (.int pe), .val (.int (4 : Int32)), .val (.int r_4), .val (.int r_7), .unset, .unset, .unset, .unset, .unset, .unset] []) t
    refine XS.iloadN X7.here hx rfl (hb hby at_20) rfl ?_
    show GG p e below T7 (mkF m 21 #[.val (.int pa), .val (.int pb), .val (.int pc_), .val (.int pd_), .val (.int pe), .val (.int (4 : Int32)), .val (.int r_4), .val (.int r_7), .unset, .unset, .unset, .unset, .unset, .unset] [(.int pc_)]) t
    exact kk_)
  obtain ⟨_, _, ⟨T10, L10, k10, n10⟩, -, X10, ⟨Lc10, hQ10, l10, y10, z10⟩, st10⟩ := Jvm.LawKit.callS X7 hx (y := mn_7) hown (mw hZ hw 0 rfl) (mw hZ hw 1 rfl) (mw hZ hw 2 rfl) (mw hZ hw 3 rfl) (by decide) (backOf (W := 0) (rm_pick l Z a0 hw [] pc_ h0 n0 (Nat.le_trans Z0 (Nat.le_refl h0.size))) hZ (ww hw 3 rfl) (ww hw 2 rfl) (by decide) (by decide)) (g := (mkF m 21 #[.val (.int pa), .val (.int pb), .val (.int pc_), .val (.int pd_), .val (.int pe), .val (.int (4 : Int32)), .val (.int r_4), .val (.int r_7), .unset, .unset, .unset, .unset, .unset, .unset] [(.int pc_)])) rfl (by rw [hml]; rfl) (argsL := [(.int pc_)]) (rest := []) (lenOf pd_5 rfl) rfl (by show 2 * 0 + _ ≤ _; exact Nat.le_of_eq rfl) (hb hby at_21) (fun _ _ => ⟨rfl, e7, (by decide : 0 + 0 ≤ _), (by decide : 0 + 0 ≤ _)⟩)
  dsimp only [Pt.U, Pt.locs, Pt.cells, Pt.slots] at X10 l10 y10 z10 st10 hQ10
  subst l10 y10 z10
  obtain ⟨r_10, rfl, N10q, e10, po10_0⟩ := hQ10
  have N10 := Fr.app N7 N10q
  have P11 : ∀ t, GG p e below T10 (mkF m 24 #[.val (.int pa), .val (.int pb), .val (.int pc_), .val (.int pd_), .val (.int pe), .val (.int (4 : Int32)), .val (.int r_4), .val (.int r_7), .unset, .unset, .unset, .unset, .unset, .unset] [(.int r_10)]) t → Steps p.tables e below s0 t := fun t kk_ => P9 t (st10 _ kk_)
  have okr_10 := po10_0
  have P12 : ∀ t, GG p e below T10 (mkF m 27 #[.val (.int pa), .val (.int pb), .val (.int pc_), .val (.int pd_), .val (.int pe), .val (.int (4 : Int32)), .val (.int r_4), .val (.int r_7), .val (.int r_10), .unset, .unset, .unset, .unset, .unset] [(.int pd_)]) t → Steps p.tables e below s0 t := fun t kk_ => P11 t (by
    refine XS.istore X10.here hx rfl (hb hby at_24) rfl (l' := #[.val (.int pa), .val (.int pb), .val (.int pc_), .val (.int pd_), .val (.int pe), .val (.int (4 : Int32)), .val (.int r_4), .val (.int r_7), .val (.int r_10), .unset, .unset, .unset, .unset, .unset]) rfl ?_
    show GG p e below T10 (mkF m 26 #[.val (.int pa), .val (.int pb), .val (.int pc_), .val (.int pd_), .val (.int pe), .val (.int (4 : Int32)), .val (.int r_4), .val (.int r_7), .val (.int r_10), .unset, .unset, .unset, .unset, .unset] []) t
    refine XS.iloadN X10.here hx rfl (hb hby at_26) rfl ?_
    show GG p e below T10 (mkF m 27 #[.val (.int pa), .val (.int pb), .val (.int pc_), .val (.int pd_), .val (.int pe), .val (.int (4 : Int32)), .val (.int r_4), .val (.int r_7), .val (.int r_10), .unset, .unset, .unset, .unset, .unset] [(.int pd_)]) t
    exact kk_)
  obtain ⟨_, _, ⟨T13, L13, k13, n13⟩, -, X13, ⟨Lc13, hQ13, l13, y13, z13⟩, st13⟩ := Jvm.LawKit.callS X10 hx (y := mn_7) hown (mw hZ hw 0 rfl) (mw hZ hw 1 rfl) (mw hZ hw 2 rfl) (mw hZ hw 3 rfl) (by decide) (backOf (W := 0) (rm_pick l Z a0 hw [] pd_ h0 n0 (Nat.le_trans Z0 (Nat.le_refl h0.size))) hZ (ww hw 3 rfl) (ww hw 2 rfl) (by decide) (by decide)) (g := (mkF m 27 #[.val (.int pa), .val (.int pb), .val (.int pc_), .val (.int pd_), .val (.int pe), .val (.int (4 : Int32)), .val (.int r_4), .val (.int r_7), .val (.int r_10), .unset, .unset, .unset, .unset, .unset] [(.int pd_)])) rfl (by rw [hml]; rfl) (argsL := [(.int pd_)]) (rest := []) (lenOf pd_5 rfl) rfl (by show 2 * 0 + _ ≤ _; exact Nat.le_of_eq rfl) (hb hby at_27) (fun _ _ => ⟨rfl, e10, (by decide : 0 + 0 ≤ _), (by decide : 0 + 0 ≤ _)⟩)
  dsimp only [Pt.U, Pt.locs, Pt.cells, Pt.slots] at X13 l13 y13 z13 st13 hQ13
  subst l13 y13 z13
  obtain ⟨r_13, rfl, N13q, e13, po13_0⟩ := hQ13
  have N13 := Fr.app N10 N13q
  have P14 : ∀ t, GG p e below T13 (mkF m 30 #[.val (.int pa), .val (.int pb), .val (.int pc_), .val (.int pd_), .val (.int pe), .val (.int (4 : Int32)), .val (.int r_4), .val (.int r_7), .val (.int r_10), .unset, .unset, .unset, .unset, .unset] [(.int r_13)]) t → Steps p.tables e below s0 t := fun t kk_ => P12 t (st13 _ kk_)
  have okr_13 := po13_0
  have P15 : ∀ t, GG p e below T13 (mkF m 105 #[.val (.int pa), .val (.int pb), .val (.int pc_), .val (.int pd_), .val (.int pe), .val (.int (4 : Int32)), .val (.int r_4), .val (.int r_7), .val (.int r_10), .val (.int r_13), .unset, .unset, .unset, .unset] [(.int (4 : Int32))]) t → Steps p.tables e below s0 t := fun t kk_ => P14 t (by
    refine XS.istore X13.here hx rfl (hb hby at_30) rfl (l' := #[.val (.int pa), .val (.int pb), .val (.int pc_), .val (.int pd_), .val (.int pe), .val (.int (4 : Int32)), .val (.int r_4), .val (.int r_7), .val (.int r_10), .val (.int r_13), .unset, .unset, .unset, .unset]) rfl ?_
    show GG p e below T13 (mkF m 32 #[.val (.int pa), .val (.int pb), .val (.int pc_), .val (.int pd_), .val (.int pe), .val (.int (4 : Int32)), .val (.int r_4), .val (.int r_7), .val (.int r_10), .val (.int r_13), .unset, .unset, .unset, .unset] []) t
    refine XS.iload X13.here hx rfl (hb hby at_32) rfl ?_
    show GG p e below T13 (mkF m 34 #[.val (.int pa), .val (.int pb), .val (.int pc_), .val (.int pd_), .val (.int pe), .val (.int (4 : Int32)), .val (.int r_4), .val (.int r_7), .val (.int r_10), .val (.int r_13), .unset, .unset, .unset, .unset] [(.int (4 : Int32))]) t
    refine XS.iconst X13.here hx rfl (hb hby at_34) ?_
    show GG p e below T13 (mkF m 35 #[.val (.int pa), .val (.int pb), .val (.int pc_), .val (.int pd_), .val (.int pe), .val (.int (4 : Int32)), .val (.int r_4), .val (.int r_7), .val (.int r_10), .val (.int r_13), .unset, .unset, .unset, .unset] [(.int (1 : Int32)), (.int (4 : Int32))]) t
    refine XS.icmpYes X13.here hx rfl (pc0 := 35) (pc' := 51) rfl (hb hby at_35) rfl (feq ((by decide) : ¬ ((4 : Int32) = (1 : Int32)))).2 (by decide) (by decide) ?_
    show GG p e below T13 (mkF m 51 #[.val (.int pa), .val (.int pb), .val (.int pc_), .val (.int pd_), .val (.int pe), .val (.int (4 : Int32)), .val (.int r_4), .val (.int r_7), .val (.int r_10), .val (.int r_13), .unset, .unset, .unset, .unset] []) t
    refine XS.iload X13.here hx rfl (hb hby at_51) rfl ?_
    show GG p e below T13 (mkF m 53 #[.val (.int pa), .val (.int pb), .val (.int pc_), .val (.int pd_), .val (.int pe), .val (.int (4 : Int32)), .val (.int r_4), .val (.int r_7), .val (.int r_10), .val (.int r_13), .unset, .unset, .unset, .unset] [(.int (4 : Int32))]) t
    refine XS.iconst X13.here hx rfl (hb hby at_53) ?_
    show GG p e below T13 (mkF m 54 #[.val (.int pa), .val (.int pb), .val (.int pc_), .val (.int pd_), .val (.int pe), .val (.int (4 : Int32)), .val (.int r_4), .val (.int r_7), .val (.int r_10), .val (.int r_13), .unset, .unset, .unset, .unset] [(.int (2 : Int32)), (.int (4 : Int32))]) t
    refine XS.icmpYes X13.here hx rfl (pc0 := 54) (pc' := 75) rfl (hb hby at_54) rfl (feq ((by decide) : ¬ ((4 : Int32) = (2 : Int32)))).2 (by decide) (by decide) ?_
    show GG p e below T13 (mkF m 75 #[.val (.int pa), .val (.int pb), .val (.int pc_), .val (.int pd_), .val (.int pe), .val (.int (4 : Int32)), .val (.int r_4), .val (.int r_7), .val (.int r_10), .val (.int r_13), .unset, .unset, .unset, .unset] []) t
    refine XS.iload X13.here hx rfl (hb hby at_75) rfl ?_
    show GG p e below T13 (mkF m 77 #[.val (.int pa), .val (.int pb), .val (.int pc_), .val (.int pd_), .val (.int pe), .val (.int (4 : Int32)), .val (.int r_4), .val (.int r_7), .val (.int r_10), .val (.int r_13), .unset, .unset, .unset, .unset] [(.int (4 : Int32))]) t
    refine XS.iconst X13.here hx rfl (hb hby at_77) ?_
    show GG p e below T13 (mkF m 78 #[.val (.int pa), .val (.int pb), .val (.int pc_), .val (.int pd_), .val (.int pe), .val (.int (4 : Int32)), .val (.int r_4), .val (.int r_7), .val (.int r_10), .val (.int r_13), .unset, .unset, .unset, .unset] [(.int (3 : Int32)), (.int (4 : Int32))]) t
    refine XS.icmpYes X13.here hx rfl (pc0 := 78) (pc' := 104) rfl (hb hby at_78) rfl (feq ((by decide) : ¬ ((4 : Int32) = (3 : Int32)))).2 (by decide) (by decide) ?_
    show GG p e below T13 (mkF m 104 #[.val (.int pa), .val (.int pb), .val (.int pc_), .val (.int pd_), .val (.int pe), .val (.int (4 : Int32)), .val (.int r_4), .val (.int r_7), .val (.int r_10), .val (.int r_13), .unset, .unset, .unset, .unset] []) t
    refine XS.iconst X13.here hx rfl (hb hby at_104) ?_
    show GG p e below T13 (mkF m 105 #[.val (.int pa), .val (.int pb), .val (.int pc_), .val (.int pd_), .val (.int pe), .val (.int (4 : Int32)), .val (.int r_4), .val (.int r_7), .val (.int r_10), .val (.int r_13), .unset, .unset, .unset, .unset] [(.int (4 : Int32))]) t
    exact kk_)
  obtain ⟨T16, h16, k16, X16, e16, E16, A16, st16⟩ := newP X13 hx hZ (ww hw 5 rfl) e13 (g := (mkF m 105 #[.val (.int pa), .val (.int pb), .val (.int pc_), .val (.int pd_), .val (.int pe), .val (.int (4 : Int32)), .val (.int r_4), .val (.int r_7), .val (.int r_10), .val (.int r_13), .unset, .unset, .unset, .unset] [(.int (4 : Int32))])) rfl (hb hby at_105) rfl (by decide) (cap := 4) (by decide) (by decide) (by decide) (by decide)
  obtain ⟨b16, g16⟩ : ∃ z, z = h0.size := ⟨_, rfl⟩
  rw [← g16] at A16 st16
  have P17 : ∀ t, GG p e below T16 (mkF m 107 #[.val (.int pa), .val (.int pb), .val (.int pc_), .val (.int pd_), .val (.int pe), .val (.int (4 : Int32)), .val (.int r_4), .val (.int r_7), .val (.int r_10), .val (.int r_13), .unset, .unset, .unset, .unset] [(.ref b16)]) t → Steps p.tables e below s0 t := fun t kk_ => P15 t (st16 _ kk_)
  have sz_b16 : h0.size ≤ b16 := Nat.le_trans (Nat.le_refl h0.size) (Nat.le_of_eq g16.symm)
  replace OL : Old Z n0 h16 := OL.ext E16
  have K16 : Keep h0 h16 [] := (Keep.refl h0 []).ext E16
  have V_b16 : Arv Z h16 b16 k16 .char (4 : Int32) [(.int (0 : Int32)), (.int (0 : Int32)), (.int (0 : Int32)), (.int (0 : Int32))] (.int (0 : Int32)) := (Arv.new A16 (by decide)).pad (pad_rep [] (.int (0 : Int32)) 4)
  have P18 : ∀ t, GG p e below T16 (mkF m 111 #[.val (.int pa), .val (.int pb), .val (.int pc_), .val (.int pd_), .val (.int pe), .val (.int (4 : Int32)), .val (.int r_4), .val (.int r_7), .val (.int r_10), .val (.int r_13), .unset, .unset, .unset, .unset] [(.int r_4), (.int (0 : Int32)), (.ref b16), (.ref b16)]) t → Steps p.tables e below s0 t := fun t kk_ => P17 t (by
    refine XS.dup X16.here hx rfl (hb hby at_107) rfl rfl ?_
    show GG p e below T16 (mkF m 108 #[.val (.int pa), .val (.int pb), .val (.int pc_), .val (.int pd_), .val (.int pe), .val (.int (4 : Int32)), .val (.int r_4), .val (.int r_7), .val (.int r_10), .val (.int r_13), .unset, .unset, .unset, .unset] [(.ref b16), (.ref b16)]) t
    refine XS.iconst X16.here hx rfl (hb hby at_108) ?_
    show GG p e below T16 (mkF m 109 #[.val (.int pa), .val (.int pb), .val (.int pc_), .val (.int pd_), .val (.int pe), .val (.int (4 : Int32)), .val (.int r_4), .val (.int r_7), .val (.int r_10), .val (.int r_13), .unset, .unset, .unset, .unset] [(.int (0 : Int32)), (.ref b16), (.ref b16)]) t
    refine XS.iload X16.here hx rfl (hb hby at_109) rfl ?_
    show GG p e below T16 (mkF m 111 #[.val (.int pa), .val (.int pb), .val (.int pc_), .val (.int pd_), .val (.int pe), .val (.int (4 : Int32)), .val (.int r_4), .val (.int r_7), .val (.int r_10), .val (.int r_13), .unset, .unset, .unset, .unset] [(.int r_4), (.int (0 : Int32)), (.ref b16), (.ref b16)]) t
    exact kk_)
  obtain ⟨cl19, Ar19, q19, S19, M19, Hs19, G19⟩ := V_b16
  obtain ⟨T19, h19, X19, e19, W19, st19⟩ := stC X16 hx hZ e16 Ar19 (j := (0 : Int32)) (inb_of S19 ⟨by decide, by decide⟩) (g := (mkF m 111 #[.val (.int pa), .val (.int pb), .val (.int pc_), .val (.int pd_), .val (.int pe), .val (.int (4 : Int32)), .val (.int r_4), .val (.int r_7), .val (.int r_10), .val (.int r_13), .unset, .unset, .unset, .unset] [(.int r_4), (.int (0 : Int32)), (.ref b16), (.ref b16)])) rfl rfl (hb hby at_111)
  have P20 : ∀ t, GG p e below T19 (mkF m 112 #[.val (.int pa), .val (.int pb), .val (.int pc_), .val (.int pd_), .val (.int pe), .val (.int (4 : Int32)), .val (.int r_4), .val (.int r_7), .val (.int r_10), .val (.int r_13), .unset, .unset, .unset, .unset] [(.ref b16)]) t → Steps p.tables e below s0 t := fun t kk_ => P18 t (st19 _ kk_)
  have N19 := Fr.snoc X19 N13 (Nat.le_trans Z0 sz_b16)
  have K19 : Keep h0 h19 [] := K16.wr W19 (Or.inr sz_b16)
  replace OL : Old Z n0 h19 := OL.wr W19 (Nat.le_trans Z0 sz_b16)
  have V_b16 : Arv Z h19 b16 k16 .char (4 : Int32) [(.int (nar .char r_4)), (.int (0 : Int32)), (.int (0 : Int32)), (.int (0 : Int32))] (.int (0 : Int32)) := Arv.set Ar19 q19 S19 M19 Hs19 G19 (fits_nar_char _) W19 0 rfl (Nat.le_of_ble_eq_true rfl)
  have P21 : ∀ t, GG p e below T19 (mkF m 116 #[.val (.int pa), .val (.int pb), .val (.int pc_), .val (.int pd_), .val (.int pe), .val (.int (4 : Int32)), .val (.int r_4), .val (.int r_7), .val (.int r_10), .val (.int r_13), .unset, .unset, .unset, .unset] [(.int r_7), (.int (1 : Int32)), (.ref b16), (.ref b16)]) t → Steps p.tables e below s0 t := fun t kk_ => P20 t (by
    refine XS.dup X19.here hx rfl (hb hby at_112) rfl rfl ?_
    show GG p e below T19 (mkF m 113 #[.val (.int pa), .val (.int pb), .val (.int pc_), .val (.int pd_), .val (.int pe), .val (.int (4 : Int32)), .val (.int r_4), .val (.int r_7), .val (.int r_10), .val (.int r_13), .unset, .unset, .unset, .unset] [(.ref b16), (.ref b16)]) t
    refine XS.iconst X19.here hx rfl (hb hby at_113) ?_
    show GG p e below T19 (mkF m 114 #[.val (.int pa), .val (.int pb), .val (.int pc_), .val (.int pd_), .val (.int pe), .val (.int (4 : Int32)), .val (.int r_4), .val (.int r_7), .val (.int r_10), .val (.int r_13), .unset, .unset, .unset, .unset] [(.int (1 : Int32)), (.ref b16), (.ref b16)]) t
    refine XS.iload X19.here hx rfl (hb hby at_114) rfl ?_
    show GG p e below T19 (mkF m 116 #[.val (.int pa), .val (.int pb), .val (.int pc_), .val (.int pd_), .val (.int pe), .val (.int (4 : Int32)), .val (.int r_4), .val (.int r_7), .val (.int r_10), .val (.int r_13), .unset, .unset, .unset, .unset] [(.int r_7), (.int (1 : Int32)), (.ref b16), (.ref b16)]) t
    exact kk_)
  obtain ⟨cl22, Ar22, q22, S22, M22, Hs22, G22⟩ := V_b16
  obtain ⟨T22, h22, X22, e22, W22, st22⟩ := stC X19 hx hZ e19 Ar22 (j := (1 : Int32)) (inb_of S22 ⟨by decide, by decide⟩) (g := (mkF m 116 #[.val (.int pa), .val (.int pb), .val (.int pc_), .val (.int pd_), .val (.int pe), .val (.int (4 : Int32)), .val (.int r_4), .val (.int r_7), .val (.int r_10), .val (.int r_13), .unset, .unset, .unset, .unset] [(.int r_7), (.int (1 : Int32)), (.ref b16), (.ref b16)])) rfl rfl (hb hby at_116)
  have P23 : ∀ t, GG p e below T22 (mkF m 117 #[.val (.int pa), .val (.int pb), .val (.int pc_), .val (.int pd_), .val (.int pe), .val (.int (4 : Int32)), .val (.int r_4), .val (.int r_7), .val (.int r_10), .val (.int r_13), .unset, .unset, .unset, .unset] [(.ref b16)]) t → Steps p.tables e below s0 t := fun t kk_ => P21 t (st22 _ kk_)
  have N22 := Fr.snoc X22 N19 (Nat.le_trans Z0 sz_b16)
  have K22 : Keep h0 h22 [] := K19.wr W22 (Or.inr sz_b16)
  replace OL : Old Z n0 h22 := OL.wr W22 (Nat.le_trans Z0 sz_b16)
  have V_b16 : Arv Z h22 b16 k16 .char (4 : Int32) [(.int (nar .char r_4)), (.int (nar .char r_7)), (.int (0 : Int32)), (.int (0 : Int32))] (.int (0 : Int32)) := Arv.set Ar22 q22 S22 M22 Hs22 G22 (fits_nar_char _) W22 1 rfl (Nat.le_of_ble_eq_true rfl)
  have P24 : ∀ t, GG p e below T22 (mkF m 121 #[.val (.int pa), .val (.int pb), .val (.int pc_), .val (.int pd_), .val (.int pe), .val (.int (4 : Int32)), .val (.int r_4), .val (.int r_7), .val (.int r_10), .val (.int r_13), .unset, .unset, .unset, .unset] [(.int r_10), (.int (2 : Int32)), (.ref b16), (.ref b16)]) t → Steps p.tables e below s0 t := fun t kk_ => P23 t (by
    refine XS.dup X22.here hx rfl (hb hby at_117) rfl rfl ?_
    show GG p e below T22 (mkF m 118 #[.val (.int pa), .val (.int pb), .val (.int pc_), .val (.int pd_), .val (.int pe), .val (.int (4 : Int32)), .val (.int r_4), .val (.int r_7), .val (.int r_10), .val (.int r_13), .unset, .unset, .unset, .unset] [(.ref b16), (.ref b16)]) t
    refine XS.iconst X22.here hx rfl (hb hby at_118) ?_
    show GG p e below T22 (mkF m 119 #[.val (.int pa), .val (.int pb), .val (.int pc_), .val (.int pd_), .val (.int pe), .val (.int (4 : Int32)), .val (.int r_4), .val (.int r_7), .val (.int r_10), .val (.int r_13), .unset, .unset, .unset, .unset] [(.int (2 : Int32)), (.ref b16), (.ref b16)]) t
    refine XS.iload X22.here hx rfl (hb hby at_119) rfl ?_
    show GG p e below T22 (mkF m 121 #[.val (.int pa), .val (.int pb), .val (.int pc_), .val (.int pd_), .val (.int pe), .val (.int (4 : Int32)), .val (.int r_4), .val (.int r_7), .val (.int r_10), .val (.int r_13), .unset, .unset, .unset, .unset] [(.int r_10), (.int (2 : Int32)), (.ref b16), (.ref b16)]) t
    exact kk_)
  obtain ⟨cl25, Ar25, q25, S25, M25, Hs25, G25⟩ := V_b16
  obtain ⟨T25, h25, X25, e25, W25, st25⟩ := stC X22 hx hZ e22 Ar25 (j := (2 : Int32)) (inb_of S25 ⟨by decide, by decide⟩) (g := (mkF m 121 #[.val (.int pa), .val (.int pb), .val (.int pc_), .val (.int pd_), .val (.int pe), .val (.int (4 : Int32)), .val (.int r_4), .val (.int r_7), .val (.int r_10), .val (.int r_13), .unset, .unset, .unset, .unset] [(.int r_10), (.int (2 : Int32)), (.ref b16), (.ref b16)])) rfl rfl (hb hby at_121)
  have P26 : ∀ t, GG p e below T25 (mkF m 122 #[.val (.int pa), .val (.int pb), .val (.int pc_), .val (.int pd_), .val (.int pe), .val (.int (4 : Int32)), .val (.int r_4), .val (.int r_7), .val (.int r_10), .val (.int r_13), .unset, .unset, .unset, .unset] [(.ref b16)]) t → Steps p.tables e below s0 t := fun t kk_ => P24 t (st25 _ kk_)
  have N25 := Fr.snoc X25 N22 (Nat.le_trans Z0 sz_b16)
  have K25 : Keep h0 h25 [] := K22.wr W25 (Or.inr sz_b16)
  replace OL : Old Z n0 h25 := OL.wr W25 (Nat.le_trans Z0 sz_b16)
  have V_b16 : Arv Z h25 b16 k16 .char (4 : Int32) [(.int (nar .char r_4)), (.int (nar .char r_7)), (.int (nar .char r_10)), (.int (0 : Int32))] (.int (0 : Int32)) := Arv.set Ar25 q25 S25 M25 Hs25 G25 (fits_nar_char _) W25 2 rfl (Nat.le_of_ble_eq_true rfl)
  have P27 : ∀ t, GG p e below T25 (mkF m 126 #[.val (.int pa), .val (.int pb), .val (.int pc_), .val (.int pd_), .val (.int pe), .val (.int (4 : Int32)), .val (.int r_4), .val (.int r_7), .val (.int r_10), .val (.int r_13), .unset, .unset, .unset, .unset] [(.int r_13), (.int (3 : Int32)), (.ref b16), (.ref b16)]) t → Steps p.tables e below s0 t := fun t kk_ => P26 t (by
    refine XS.dup X25.here hx rfl (hb hby at_122) rfl rfl ?_
    show GG p e below T25 (mkF m 123 #[.val (.int pa), .val (.int pb), .val (.int pc_), .val (.int pd_), .val (.int pe), .val (.int (4 : Int32)), .val (.int r_4), .val (.int r_7), .val (.int r_10), .val (.int r_13), .unset, .unset, .unset, .unset] [(.ref b16), (.ref b16)]) t
    refine XS.iconst X25.here hx rfl (hb hby at_123) ?_
    show GG p e below T25 (mkF m 124 #[.val (.int pa), .val (.int pb), .val (.int pc_), .val (.int pd_), .val (.int pe), .val (.int (4 : Int32)), .val (.int r_4), .val (.int r_7), .val (.int r_10), .val (.int r_13), .unset, .unset, .unset, .unset] [(.int (3 : Int32)), (.ref b16), (.ref b16)]) t
    refine XS.iload X25.here hx rfl (hb hby at_124) rfl ?_
    show GG p e below T25 (mkF m 126 #[.val (.int pa), .val (.int pb), .val (.int pc_), .val (.int pd_), .val (.int pe), .val (.int (4 : Int32)), .val (.int r_4), .val (.int r_7), .val (.int r_10), .val (.int r_13), .unset, .unset, .unset, .unset] [(.int r_13), (.int (3 : Int32)), (.ref b16), (.ref b16)]) t
    exact kk_)
  obtain ⟨cl28, Ar28, q28, S28, M28, Hs28, G28⟩ := V_b16
  obtain ⟨T28, h28, X28, e28, W28, st28⟩ := stC X25 hx hZ e25 Ar28 (j := (3 : Int32)) (inb_of S28 ⟨by decide, by decide⟩) (g := (mkF m 126 #[.val (.int pa), .val (.int pb), .val (.int pc_), .val (.int pd_), .val (.int pe), .val (.int (4 : Int32)), .val (.int r_4), .val (.int r_7), .val (.int r_10), .val (.int r_13), .unset, .unset, .unset, .unset] [(.int r_13), (.int (3 : Int32)), (.ref b16), (.ref b16)])) rfl rfl (hb hby at_126)
  have P29 : ∀ t, GG p e below T28 (mkF m 127 #[.val (.int pa), .val (.int pb), .val (.int pc_), .val (.int pd_), .val (.int pe), .val (.int (4 : Int32)), .val (.int r_4), .val (.int r_7), .val (.int r_10), .val (.int r_13), .unset, .unset, .unset, .unset] [(.ref b16)]) t → Steps p.tables e below s0 t := fun t kk_ => P27 t (st28 _ kk_)
  have N28 := Fr.snoc X28 N25 (Nat.le_trans Z0 sz_b16)
  have K28 : Keep h0 h28 [] := K25.wr W28 (Or.inr sz_b16)
  replace OL : Old Z n0 h28 := OL.wr W28 (Nat.le_trans Z0 sz_b16)
  have V_b16 : Arv Z h28 b16 k16 .char (4 : Int32) [(.int (nar .char r_4)), (.int (nar .char r_7)), (.int (nar .char r_10)), (.int (nar .char r_13))] (.int (0 : Int32)) := Arv.set Ar28 q28 S28 M28 Hs28 G28 (fits_nar_char _) W28 3 rfl (Nat.le_of_ble_eq_true rfl)
  have P30 : ∀ t, GG p e below T28 (mkF m 129 #[.val (.int pa), .val (.int pb), .val (.int pc_), .val (.int pd_), .val (.int pe), .val (.int (4 : Int32)), .val (.int r_4), .val (.int r_7), .val (.int r_10), .val (.int r_13), .val (.ref b16), .unset, .unset, .unset] []) t → Steps p.tables e below s0 t := fun t kk_ => P29 t (by
    refine XS.astore X28.here hx rfl (hb hby at_127) rfl rfl (l' := #[.val (.int pa), .val (.int pb), .val (.int pc_), .val (.int pd_), .val (.int pe), .val (.int (4 : Int32)), .val (.int r_4), .val (.int r_7), .val (.int r_10), .val (.int r_13), .val (.ref b16), .unset, .unset, .unset]) rfl ?_
    show GG p e below T28 (mkF m 129 #[.val (.int pa), .val (.int pb), .val (.int pc_), .val (.int pd_), .val (.int pe), .val (.int (4 : Int32)), .val (.int r_4), .val (.int r_7), .val (.int r_10), .val (.int r_13), .val (.ref b16), .unset, .unset, .unset] []) t
    exact kk_)
  have hcs : ∀ c ∈ ([r_4, r_7, r_10, r_13] : List Int32), okB c = true := by
    intro c hc
    simp only [List.mem_cons, List.not_mem_nil, or_false] at hc
    rcases hc with rfl | rfl | rfl | rfl
    · exact okr_4
    · exact okr_7
    · exact okr_10
    · exact okr_13
  replace V_b16 : Arv Z h28 b16 k16 .char (4 : Int32) (([r_4, r_7, r_10, r_13] : List Int32).map Value.int) (.int (0 : Int32)) := by
    have q := V_b16
    rw [(own_ok r_4 okr_4).2, (own_ok r_7 okr_7).2, (own_ok r_10 okr_10).2, (own_ok r_13 okr_13).2] at q
    exact q
  obtain ⟨T31, h31, X31, e31, E31, A31, D31, -, st31⟩ := newO X28 hx hZ hown (ww hw 6 rfl) (ww hw 7 rfl) (ww hw 8 rfl) e28 (g := (mkF m 129 #[.val (.int pa), .val (.int pb), .val (.int pc_), .val (.int pd_), .val (.int pe), .val (.int (4 : Int32)), .val (.int r_4), .val (.int r_7), .val (.int r_10), .val (.int r_13), .val (.ref b16), .unset, .unset, .unset] [])) rfl (hb hby at_129) (by decide) (by decide)
  obtain ⟨b31, g31⟩ : ∃ z, z = h28.size := ⟨_, rfl⟩
  rw [← g31] at A31 D31 st31
  have P32 : ∀ t, GG p e below T31 (mkF m 132 #[.val (.int pa), .val (.int pb), .val (.int pc_), .val (.int pd_), .val (.int pe), .val (.int (4 : Int32)), .val (.int r_4), .val (.int r_7), .val (.int r_10), .val (.int r_13), .val (.ref b16), .unset, .unset, .unset] [(.ref b31)]) t → Steps p.tables e below s0 t := fun t kk_ => P30 t (st31 _ kk_)
  have ne_b16_b31 : b16 ≠ b31 := Nat.ne_of_lt (Nat.lt_of_lt_of_le V_b16.lt (Nat.le_of_eq g31.symm))
  have sz_b31 : h0.size ≤ b31 := Nat.le_trans K28.1 (Nat.le_of_eq g31.symm)
  replace OL : Old Z n0 h31 := OL.ext E31
  replace V_b16 : Arv Z h31 b16 k16 .char (4 : Int32) (([r_4, r_7, r_10, r_13] : List Int32).map Value.int) (.int (0 : Int32)) := V_b16.ext E31
  have K31 : Keep h0 h31 [] := K28.ext E31
  have E_b31 : Exa Z h31 b31 "java/lang/String" := A31
  have F_coder_b31 : Fld Z h31 b31 "java/lang/String" "coder" "B" (.int (0 : Int32)) := D31 (Or.inr (ww hw 32 rfl)) (ty := .byte) (by decide)
  have F_value_b31 : Fld Z h31 b31 "java/lang/String" "value" "[B" .null := D31 (Or.inr (ww hw 34 rfl)) (ty := (.array .byte)) (by decide)
  have P33 : ∀ t, GG p e below T31 (mkF m 135 #[.val (.int pa), .val (.int pb), .val (.int pc_), .val (.int pd_), .val (.int pe), .val (.int (4 : Int32)), .val (.int r_4), .val (.int r_7), .val (.int r_10), .val (.int r_13), .val (.ref b16), .unset, .unset, .unset] [(.ref b16), (.ref b31), (.ref b31)]) t → Steps p.tables e below s0 t := fun t kk_ => P32 t (by
    refine XS.dup X31.here hx rfl (hb hby at_132) rfl rfl ?_
    show GG p e below T31 (mkF m 133 #[.val (.int pa), .val (.int pb), .val (.int pc_), .val (.int pd_), .val (.int pe), .val (.int (4 : Int32)), .val (.int r_4), .val (.int r_7), .val (.int r_10), .val (.int r_13), .val (.ref b16), .unset, .unset, .unset] [(.ref b31), (.ref b31)]) t
    refine XS.aload X31.here hx rfl (hb hby at_133) rfl rfl ?_
    show GG p e below T31 (mkF m 135 #[.val (.int pa), .val (.int pb), .val (.int pc_), .val (.int pd_), .val (.int pe), .val (.int (4 : Int32)), .val (.int r_4), .val (.int r_7), .val (.int r_10), .val (.int r_13), .val (.ref b16), .unset, .unset, .unset] [(.ref b16), (.ref b31), (.ref b31)]) t
    exact kk_)
  obtain ⟨_, _, ⟨T34, L34, k34, n34⟩, -, X34, ⟨Lc34, hQ34, l34, y34, z34⟩, st34⟩ := X31.specialBack hx (y := mn_8) rfl hown (mw hZ hw 9 rfl) (mw hZ hw 10 rfl) (mw hZ hw 11 rfl) (by decide) (StrChars.Road.backV (W := 1) hZ (own_wNew hw) (kI := 4) (ww hw 7 rfl) (cs := ([r_4, r_7, r_10, r_13] : List Int32)) (bs := (([r_4, r_7, r_10, r_13] : List Int32)).map (fun c => c.toInt8.toInt32)) (n := 4) (Nat.le_trans Z0 sz_b31) (Nat.le_trans Z0 K31.1) E_b31 F_value_b31 F_coder_b31 V_b16 (S_COMPACT_STRINGS.ext OL.2) hz rfl rfl (by decide) (by decide) ((own_up _ hcs).1) rfl (by decide) (by decide)) (g := (mkF m 135 #[.val (.int pa), .val (.int pb), .val (.int pc_), .val (.int pd_), .val (.int pe), .val (.int (4 : Int32)), .val (.int r_4), .val (.int r_7), .val (.int r_10), .val (.int r_13), .val (.ref b16), .unset, .unset, .unset] [(.ref b16), (.ref b31), (.ref b31)])) rfl (by rw [hml]; rfl) (Steps.refl _) (a := b31) (argsL := [(.ref b16)]) (rest := [(.ref b31)]) (lenOf pd_6 rfl) rfl (by show 2 * 0 + _ ≤ _; exact Nat.le_of_eq rfl) (hb hby at_135) (fun _ _ => ⟨rfl, e31, (by decide : 2 + 1 ≤ _), (by decide : 8 + 4 ≤ _)⟩)
  dsimp only [Pt.U, Pt.locs, Pt.cells, Pt.slots] at X34 l34 y34 z34 st34 hQ34
  subst l34 y34 z34
  obtain ⟨rfl, N34q, Kc34, po34_0, po34_1, t_34, kb_34, po34_2, po34_3, po34_4, po34_5, po34_6⟩ := hQ34
  have N34 := Fr.app N28 N34q
  have P35 : ∀ t, GG p e below T34 (mkF m 138 #[.val (.int pa), .val (.int pb), .val (.int pc_), .val (.int pd_), .val (.int pe), .val (.int (4 : Int32)), .val (.int r_4), .val (.int r_7), .val (.int r_10), .val (.int r_13), .val (.ref b16), .unset, .unset, .unset] [(.ref b31)]) t → Steps p.tables e below s0 t := fun t kk_ => P33 t (st34.trans kk_)
  have ne_b16_t_34 : b16 ≠ t_34 := Nat.ne_of_lt (Nat.lt_of_lt_of_le V_b16.lt po34_3)
  have ne_b31_t_34 : b31 ≠ t_34 := Nat.ne_of_lt (Nat.lt_of_lt_of_le E_b31.lt po34_3)
  have sz_t_34 : h0.size ≤ t_34 := Nat.le_trans K31.1 po34_3
  replace OL : Old Z n0 T34.heap := OL.keep Kc34 (allS (Nat.le_trans Z0 sz_b31) all0)
  replace V_b16 : Arv Z T34.heap b16 k16 .char (4 : Int32) (([r_4, r_7, r_10, r_13] : List Int32).map Value.int) (.int (0 : Int32)) := V_b16.keep Kc34 (ninS ne_b16_b31 nin0)
  replace E_b31 : Exa Z T34.heap b31 "java/lang/String" := E_b31.keep Kc34
  have K34 : Keep h0 T34.heap [] := K31.trans Kc34 (allS (P := fun x => x ∈ [] ∨ h0.size ≤ x) (Or.inr sz_b31) all0)
  have E_b31 : Exa Z T34.heap b31 "java/lang/String" := po34_0
  have F_coder_b31 : Fld Z T34.heap b31 "java/lang/String" "coder" "B" (.int (0 : Int32)) := po34_1
  have nt_34 := po34_4
  have F_value_b31 : Fld Z T34.heap b31 "java/lang/String" "value" "[B" (.ref t_34) := po34_5
  have V_t_34 : Arv Z T34.heap t_34 kb_34 .byte (4 : Int32) (((([r_4, r_7, r_10, r_13] : List Int32)).map (fun c => c.toInt8.toInt32)).map Value.int) (.int (0 : Int32)) := po34_6
  have P36 : ∀ t, GG p e below T34 (mkF m 149 #[.val (.int pa), .val (.int pb), .val (.int pc_), .val (.int pd_), .val (.int pe), .val (.int (4 : Int32)), .val (.int r_4), .val (.int r_7), .val (.int r_10), .val (.int r_13), .val (.ref b16), .val (.ref b31), .unset, .unset] [(.int ((((pe.toUInt32 >>> ((2 : Int32) &&& 31).toUInt32).toInt32) &&& (255 : Int32)).toUInt32.toUInt16.toUInt32.toInt32))]) t → Steps p.tables e below s0 t := fun t kk_ => P35 t (by
    refine XS.astore X34.here hx rfl (hb hby at_138) rfl rfl (l' := #[.val (.int pa), .val (.int pb), .val (.int pc_), .val (.int pd_), .val (.int pe), .val (.int (4 : Int32)), .val (.int r_4), .val (.int r_7), .val (.int r_10), .val (.int r_13), .val (.ref b16), .val (.ref b31), .unset, .unset]) rfl ?_
    show GG p e below T34 (mkF m 140 #[.val (.int pa), .val (.int pb), .val (.int pc_), .val (.int pd_), .val (.int pe), .val (.int (4 : Int32)), .val (.int r_4), .val (.int r_7), .val (.int r_10), .val (.int r_13), .val (.ref b16), .val (.ref b31), .unset, .unset] []) t
    refine XS.iload X34.here hx rfl (hb hby at_140) rfl ?_
    show GG p e below T34 (mkF m 142 #[.val (.int pa), .val (.int pb), .val (.int pc_), .val (.int pd_), .val (.int pe), .val (.int (4 : Int32)), .val (.int r_4), .val (.int r_7), .val (.int r_10), .val (.int r_13), .val (.ref b16), .val (.ref b31), .unset, .unset] [(.int pe)]) t
    refine XS.iconst X34.here hx rfl (hb hby at_142) ?_
    show GG p e below T34 (mkF m 143 #[.val (.int pa), .val (.int pb), .val (.int pc_), .val (.int pd_), .val (.int pe), .val (.int (4 : Int32)), .val (.int r_4), .val (.int r_7), .val (.int r_10), .val (.int r_13), .val (.ref b16), .val (.ref b31), .unset, .unset] [(.int (2 : Int32)), (.int pe)]) t
    refine XS.iushr X34.here hx rfl (hb hby at_143) rfl ?_
    show GG p e below T34 (mkF m 144 #[.val (.int pa), .val (.int pb), .val (.int pc_), .val (.int pd_), .val (.int pe), .val (.int (4 : Int32)), .val (.int r_4), .val (.int r_7), .val (.int r_10), .val (.int r_13), .val (.ref b16), .val (.ref b31), .unset, .unset] [(.int ((pe.toUInt32 >>> ((2 : Int32) &&& 31).toUInt32).toInt32))]) t
    refine XS.sipush X34.here hx rfl (hb hby at_144) ?_
    show GG p e below T34 (mkF m 147 #[.val (.int pa), .val (.int pb), .val (.int pc_), .val (.int pd_), .val (.int pe), .val (.int (4 : Int32)), .val (.int r_4), .val (.int r_7), .val (.int r_10), .val (.int r_13), .val (.ref b16), .val (.ref b31), .unset, .unset] [(.int (255 : Int32)), (.int ((pe.toUInt32 >>> ((2 : Int32) &&& 31).toUInt32).toInt32))]) t
    refine XS.iand X34.here hx rfl (hb hby at_147) rfl ?_
    show GG p e below T34 (mkF m 148 #[.val (.int pa), .val (.int pb), .val (.int pc_), .val (.int pd_), .val (.int pe), .val (.int (4 : Int32)), .val (.int r_4), .val (.int r_7), .val (.int r_10), .val (.int r_13), .val (.ref b16), .val (.ref b31), .unset, .unset] [(.int (((pe.toUInt32 >>> ((2 : Int32) &&& 31).toUInt32).toInt32) &&& (255 : Int32)))]) t
    refine XS.i2c X34.here hx rfl (hb hby at_148) rfl ?_
    show GG p e below T34 (mkF m 149 #[.val (.int pa), .val (.int pb), .val (.int pc_), .val (.int pd_), .val (.int pe), .val (.int (4 : Int32)), .val (.int r_4), .val (.int r_7), .val (.int r_10), .val (.int r_13), .val (.ref b16), .val (.ref b31), .unset, .unset] [(.int ((((pe.toUInt32 >>> ((2 : Int32) &&& 31).toUInt32).toInt32) &&& (255 : Int32)).toUInt32.toUInt16.toUInt32.toInt32))]) t
    exact kk_)
  obtain ⟨_, _, ⟨T37, L37, k37, n37⟩, -, X37, ⟨Lc37, hQ37, l37, y37, z37⟩, st37⟩ := Jvm.LawKit.callS X34 hx (y := mn_9) hown (mw hZ hw 35 rfl) (mw hZ hw 36 rfl) (mw hZ hw 8 rfl) (mw hZ hw 37 rfl) (by decide) (backOf (W := 0) (rm_valueOf l Z a0 hw [] ((((pe.toUInt32 >>> ((2 : Int32) &&& 31).toUInt32).toInt32) &&& (255 : Int32)).toUInt32.toUInt16.toUInt32.toInt32) G1 T34.heap n0 (Nat.le_trans Z0 K34.1) S_COMPACT_STRINGS OL hz (own_vo _)) hZ (ww hw 37 rfl) (ww hw 8 rfl) (by decide) (by decide)) (g := (mkF m 149 #[.val (.int pa), .val (.int pb), .val (.int pc_), .val (.int pd_), .val (.int pe), .val (.int (4 : Int32)), .val (.int r_4), .val (.int r_7), .val (.int r_10), .val (.int r_13), .val (.ref b16), .val (.ref b31), .unset, .unset] [(.int ((((pe.toUInt32 >>> ((2 : Int32) &&& 31).toUInt32).toInt32) &&& (255 : Int32)).toUInt32.toUInt16.toUInt32.toInt32))])) rfl (by rw [hml]; rfl) (argsL := [(.int ((((pe.toUInt32 >>> ((2 : Int32) &&& 31).toUInt32).toInt32) &&& (255 : Int32)).toUInt32.toUInt16.toUInt32.toInt32))]) (rest := []) (lenOf pd_7 rfl) rfl (by show 2 * 0 + _ ≤ _; exact Nat.le_of_eq rfl) (hb hby at_149) (fun _ _ => ⟨rfl, rfl, (by decide : 3 + 2 ≤ _), (by decide : 12 + 5 ≤ _)⟩)
  dsimp only [Pt.U, Pt.locs, Pt.cells, Pt.slots] at X37 l37 y37 z37 st37 hQ37
  subst l37 y37 z37
  obtain ⟨xs_37, t_37, kb_37, rfl, N37q, Kc37, po37_0, po37_1, po37_2, po37_3, po37_4, po37_5⟩ := hQ37
  have N37 := Fr.app N34 N37q
  have P38 : ∀ t, GG p e below T37 (mkF m 152 #[.val (.int pa), .val (.int pb), .val (.int pc_), .val (.int pd_), .val (.int pe), .val (.int (4 : Int32)), .val (.int r_4), .val (.int r_7), .val (.int r_10), .val (.int r_13), .val (.ref b16), .val (.ref b31), .unset, .unset] [(.ref xs_37)]) t → Steps p.tables e below s0 t := fun t kk_ => P36 t (st37 _ kk_)
  have ne_b16_xs_37 : b16 ≠ xs_37 := Nat.ne_of_lt (Nat.lt_of_lt_of_le V_b16.lt po37_0)
  have ne_b31_xs_37 : b31 ≠ xs_37 := Nat.ne_of_lt (Nat.lt_of_lt_of_le E_b31.lt po37_0)
  have ne_t_34_xs_37 : t_34 ≠ xs_37 := Nat.ne_of_lt (Nat.lt_of_lt_of_le V_t_34.lt po37_0)
  have sz_xs_37 : h0.size ≤ xs_37 := Nat.le_trans K34.1 po37_0
  have ne_b16_t_37 : b16 ≠ t_37 := Nat.ne_of_lt (Nat.lt_of_lt_of_le V_b16.lt po37_1)
  have ne_b31_t_37 : b31 ≠ t_37 := Nat.ne_of_lt (Nat.lt_of_lt_of_le E_b31.lt po37_1)
  have ne_t_34_t_37 : t_34 ≠ t_37 := Nat.ne_of_lt (Nat.lt_of_lt_of_le V_t_34.lt po37_1)
  have sz_t_37 : h0.size ≤ t_37 := Nat.le_trans K34.1 po37_1
  replace OL : Old Z n0 T37.heap := OL.keep Kc37 all0
  replace V_b16 : Arv Z T37.heap b16 k16 .char (4 : Int32) (([r_4, r_7, r_10, r_13] : List Int32).map Value.int) (.int (0 : Int32)) := V_b16.keep Kc37 nin0
  replace E_b31 : Exa Z T37.heap b31 "java/lang/String" := E_b31.keep Kc37
  replace F_coder_b31 : Fld Z T37.heap b31 "java/lang/String" "coder" "B" (.int (0 : Int32)) := F_coder_b31.keep Kc37 nin0
  replace F_value_b31 : Fld Z T37.heap b31 "java/lang/String" "value" "[B" (.ref t_34) := F_value_b31.keep Kc37 nin0
  replace V_t_34 : Arv Z T37.heap t_34 kb_34 .byte (4 : Int32) (((([r_4, r_7, r_10, r_13] : List Int32)).map (fun c => c.toInt8.toInt32)).map Value.int) (.int (0 : Int32)) := V_t_34.keep Kc37 nin0
  have K37 : Keep h0 T37.heap [] := K34.trans Kc37 all0
  have E_xs_37 : Exa Z T37.heap xs_37 "java/lang/String" := po37_2
  have F_value_xs_37 : Fld Z T37.heap xs_37 "java/lang/String" "value" "[B" (.ref t_37) := po37_3
  have F_coder_xs_37 : Fld Z T37.heap xs_37 "java/lang/String" "coder" "B" (.int (0 : Int32)) := po37_4
  have V_t_37 : Arv Z T37.heap t_37 kb_37 .byte (1 : Int32) [(.int (nar .byte (((((pe.toUInt32 >>> ((2 : Int32) &&& 31).toUInt32).toInt32) &&& (255 : Int32)).toUInt32.toUInt16.toUInt32.toInt32).toInt8.toInt32)))] (.int (0 : Int32)) := po37_5
  have P39 : ∀ t, GG p e below T37 (mkF m 158 #[.val (.int pa), .val (.int pb), .val (.int pc_), .val (.int pd_), .val (.int pe), .val (.int (4 : Int32)), .val (.int r_4), .val (.int r_7), .val (.int r_10), .val (.int r_13), .val (.ref b16), .val (.ref b31), .val (.ref xs_37), .unset] [(.ref b31), (.ref xs_37)]) t → Steps p.tables e below s0 t := fun t kk_ => P38 t (by
    refine XS.astore X37.here hx rfl (hb hby at_152) rfl rfl (l' := #[.val (.int pa), .val (.int pb), .val (.int pc_), .val (.int pd_), .val (.int pe), .val (.int (4 : Int32)), .val (.int r_4), .val (.int r_7), .val (.int r_10), .val (.int r_13), .val (.ref b16), .val (.ref b31), .val (.ref xs_37), .unset]) rfl ?_
    show GG p e below T37 (mkF m 154 #[.val (.int pa), .val (.int pb), .val (.int pc_), .val (.int pd_), .val (.int pe), .val (.int (4 : Int32)), .val (.int r_4), .val (.int r_7), .val (.int r_10), .val (.int r_13), .val (.ref b16), .val (.ref b31), .val (.ref xs_37), .unset] []) t
    refine XS.aload X37.here hx rfl (hb hby at_154) rfl rfl ?_
    show GG p e below T37 (mkF m 156 #[.val (.int pa), .val (.int pb), .val (.int pc_), .val (.int pd_), .val (.int pe), .val (.int (4 : Int32)), .val (.int r_4), .val (.int r_7), .val (.int r_10), .val (.int r_13), .val (.ref b16), .val (.ref b31), .val (.ref xs_37), .unset] [(.ref xs_37)]) t
    refine XS.aload X37.here hx rfl (hb hby at_156) rfl rfl ?_
    show GG p e below T37 (mkF m 158 #[.val (.int pa), .val (.int pb), .val (.int pc_), .val (.int pd_), .val (.int pe), .val (.int (4 : Int32)), .val (.int r_4), .val (.int r_7), .val (.int r_10), .val (.int r_13), .val (.ref b16), .val (.ref b31), .val (.ref xs_37), .unset] [(.ref b31), (.ref xs_37)]) t
    exact kk_)
  obtain ⟨_, _, ⟨T40, L40, k40, n40⟩, -, X40, ⟨Lc40, hQ40, l40, y40, z40⟩, st40⟩ := Jvm.LawKit.callS X37 hx (y := mn_10) hown (mw hZ hw 49 rfl) (mw hZ hw 50 rfl) (mw hZ hw 51 rfl) (mw hZ hw 52 rfl) (by decide) (backOf (W := 0) (rm_check l Z a0 hw [] xs_37 b31 t_34 kb_34 ([r_4, r_7, r_10, r_13] : List Int32) G1 G3 T37.heap n0 (Nat.le_trans Z0 K37.1) E_b31 F_value_b31 F_coder_b31 V_t_34 S_COMPACT_STRINGS S_SIOOBE_FORMATTER OL hz rG3 hcs (fun q => nomatch q) (Nat.le_of_ble_eq_true rfl)) hZ (ww hw 52 rfl) (ww hw 51 rfl) (by decide) (by decide)) (g := (mkF m 158 #[.val (.int pa), .val (.int pb), .val (.int pc_), .val (.int pd_), .val (.int pe), .val (.int (4 : Int32)), .val (.int r_4), .val (.int r_7), .val (.int r_10), .val (.int r_13), .val (.ref b16), .val (.ref b31), .val (.ref xs_37), .unset] [(.ref b31), (.ref xs_37)])) rfl (by rw [hml]; rfl) (argsL := [(.ref xs_37), (.ref b31)]) (rest := []) (lenOf pd_8 rfl) rfl (by show 2 * 0 + _ ≤ _; exact Nat.le_of_eq rfl) (hb hby at_158) (fun _ _ => ⟨rfl, rfl, (by decide : 5 + 0 ≤ _), (by decide : 17 + 0 ≤ _)⟩)
  dsimp only [Pt.U, Pt.locs, Pt.cells, Pt.slots] at X40 l40 y40 z40 st40 hQ40
  subst l40 y40 z40
  obtain ⟨rfl, N40q, e40⟩ := hQ40
  have N40 := Fr.app N37 N40q
  have P41 : ∀ t, GG p e below T40 (mkF m 161 #[.val (.int pa), .val (.int pb), .val (.int pc_), .val (.int pd_), .val (.int pe), .val (.int (4 : Int32)), .val (.int r_4), .val (.int r_7), .val (.int r_10), .val (.int r_13), .val (.ref b16), .val (.ref b31), .val (.ref xs_37), .unset] [(.ref b31)]) t → Steps p.tables e below s0 t := fun t kk_ => P39 t (st40 _ kk_)
  have P42 : ∀ t, GG p e below T40 (mkF m 172 #[.val (.int pa), .val (.int pb), .val (.int pc_), .val (.int pd_), .val (.int pe), .val (.int (4 : Int32)), .val (.int r_4), .val (.int r_7), .val (.int r_10), .val (.int r_13), .val (.ref b16), .val (.ref b31), .val (.ref xs_37), .val (.ref b31)] [(.ref b31), (.ref b31)]) t → Steps p.tables e below s0 t := fun t kk_ => P41 t (by
    refine XS.astore X40.here hx rfl (hb hby at_161) rfl rfl (l' := #[.val (.int pa), .val (.int pb), .val (.int pc_), .val (.int pd_), .val (.int pe), .val (.int (4 : Int32)), .val (.int r_4), .val (.int r_7), .val (.int r_10), .val (.int r_13), .val (.ref b16), .val (.ref b31), .val (.ref xs_37), .val (.ref b31)]) rfl ?_
    show GG p e below T40 (mkF m 163 #[.val (.int pa), .val (.int pb), .val (.int pc_), .val (.int pd_), .val (.int pe), .val (.int (4 : Int32)), .val (.int r_4), .val (.int r_7), .val (.int r_10), .val (.int r_13), .val (.ref b16), .val (.ref b31), .val (.ref xs_37), .val (.ref b31)] []) t
    refine XS.aload X40.here hx rfl (hb hby at_163) rfl rfl ?_
    show GG p e below T40 (mkF m 165 #[.val (.int pa), .val (.int pb), .val (.int pc_), .val (.int pd_), .val (.int pe), .val (.int (4 : Int32)), .val (.int r_4), .val (.int r_7), .val (.int r_10), .val (.int r_13), .val (.ref b16), .val (.ref b31), .val (.ref xs_37), .val (.ref b31)] [(.ref b31)]) t
    refine XS.ifnullNo X40.here hx rfl (hb hby at_165) rfl ?_
    show GG p e below T40 (mkF m 168 #[.val (.int pa), .val (.int pb), .val (.int pc_), .val (.int pd_), .val (.int pe), .val (.int (4 : Int32)), .val (.int r_4), .val (.int r_7), .val (.int r_10), .val (.int r_13), .val (.ref b16), .val (.ref b31), .val (.ref xs_37), .val (.ref b31)] []) t
    refine XS.aload X40.here hx rfl (hb hby at_168) rfl rfl ?_
    show GG p e below T40 (mkF m 170 #[.val (.int pa), .val (.int pb), .val (.int pc_), .val (.int pd_), .val (.int pe), .val (.int (4 : Int32)), .val (.int r_4), .val (.int r_7), .val (.int r_10), .val (.int r_13), .val (.ref b16), .val (.ref b31), .val (.ref xs_37), .val (.ref b31)] [(.ref b31)]) t
    refine XS.aload X40.here hx rfl (hb hby at_170) rfl rfl ?_
    show GG p e below T40 (mkF m 172 #[.val (.int pa), .val (.int pb), .val (.int pc_), .val (.int pd_), .val (.int pe), .val (.int (4 : Int32)), .val (.int r_4), .val (.int r_7), .val (.int r_10), .val (.int r_13), .val (.ref b16), .val (.ref b31), .val (.ref xs_37), .val (.ref b31)] [(.ref b31), (.ref b31)]) t
    exact kk_)
  obtain ⟨cq43, kq43, q43a, q43b, q43c⟩ := isOf hZ e40 E_b31
  obtain ⟨_, _, ⟨T43, L43, k43, n43⟩, -, X43, ⟨Lc43, hQ43, l43, y43, z43⟩, st43⟩ := X40.virtualBack hx (y := mn_11) (z := mn_11) hown (mw hZ hw 92 rfl) (mw hZ hw 93 rfl) (notFace_of_selects (args := #[]) (mw hZ hw 95 rfl)) (mw hZ hw 95 rfl) (mw hZ hw 94 rfl) (by decide) (backOf (W := 0) (rm_equals l Z a0 hw [] b31 T37.heap n0 (Nat.le_trans Z0 K37.1)) hZ (ww hw 96 rfl) (ww hw 8 rfl) (by decide) (by decide)) q43a q43c (g := (mkF m 172 #[.val (.int pa), .val (.int pb), .val (.int pc_), .val (.int pd_), .val (.int pe), .val (.int (4 : Int32)), .val (.int r_4), .val (.int r_7), .val (.int r_10), .val (.int r_13), .val (.ref b16), .val (.ref b31), .val (.ref xs_37), .val (.ref b31)] [(.ref b31), (.ref b31)])) rfl (by rw [hml]; rfl) (Steps.refl _) (argsL := [(.ref b31)]) (rest := []) (lenOf pd_9 rfl) rfl (by show 2 * 0 + _ ≤ _; exact Nat.le_of_eq rfl) (hb hby at_172) (fun _ _ => ⟨rfl, e40, (by decide : 5 + 0 ≤ _), (by decide : 17 + 0 ≤ _)⟩)
  dsimp only [Pt.U, Pt.locs, Pt.cells, Pt.slots] at X43 l43 y43 z43 st43 hQ43
  subst l43 y43 z43
  obtain ⟨rfl, N43q, e43⟩ := hQ43
  have N43 := Fr.app N40 N43q
  have P44 : ∀ t, GG p e below T43 (mkF m 175 #[.val (.int pa), .val (.int pb), .val (.int pc_), .val (.int pd_), .val (.int pe), .val (.int (4 : Int32)), .val (.int r_4), .val (.int r_7), .val (.int r_10), .val (.int r_13), .val (.ref b16), .val (.ref b31), .val (.ref xs_37), .val (.ref b31)] [(.int (1 : Int32))]) t → Steps p.tables e below s0 t := fun t kk_ => P42 t (st43.trans kk_)
  have P45 : ∀ t, GG p e below T43 (mkF m 180 #[.val (.int pa), .val (.int pb), .val (.int pc_), .val (.int pd_), .val (.int pe), .val (.int (4 : Int32)), .val (.int r_4), .val (.int r_7), .val (.int r_10), .val (.int r_13), .val (.ref b16), .val (.ref b31), .val (.ref xs_37), .val (.ref b31)] [(.ref b31)]) t → Steps p.tables e below s0 t := fun t kk_ => P44 t (by
    refine XS.ifNo X43.here hx rfl (hb hby at_175) rfl ((if0 _ _).trans (feq ((by decide) : ¬ ((1 : Int32) = (0 : Int32)))).1) ?_
    show GG p e below T43 (mkF m 178 #[.val (.int pa), .val (.int pb), .val (.int pc_), .val (.int pd_), .val (.int pe), .val (.int (4 : Int32)), .val (.int r_4), .val (.int r_7), .val (.int r_10), .val (.int r_13), .val (.ref b16), .val (.ref b31), .val (.ref xs_37), .val (.ref b31)] []) t
    refine XS.aload X43.here hx rfl (hb hby at_178) rfl rfl ?_
    show GG p e below T43 (mkF m 180 #[.val (.int pa), .val (.int pb), .val (.int pc_), .val (.int pd_), .val (.int pe), .val (.int (4 : Int32)), .val (.int r_4), .val (.int r_7), .val (.int r_10), .val (.int r_13), .val (.ref b16), .val (.ref b31), .val (.ref xs_37), .val (.ref b31)] [(.ref b31)]) t
    exact kk_)
  obtain ⟨cq46, kq46, q46a, q46b, q46c⟩ := isOf hZ e43 E_b31
  obtain ⟨_, _, ⟨T46, L46, k46, n46⟩, -, X46, ⟨Lc46, hQ46, l46, y46, z46⟩, st46⟩ := X43.virtualBack hx (y := mn_4) (z := mn_4) hown (mw hZ hw 97 rfl) (mw hZ hw 59 rfl) (notFace_of_selects (args := #[]) (mw hZ hw 61 rfl)) (mw hZ hw 61 rfl) (mw hZ hw 60 rfl) (by decide) (StrChars.Road.lenW (W := 0) hZ (own_wLen hw) (kI := 4) (ww hw 7 rfl) E_b31 F_value_b31 F_coder_b31 V_t_34 (StrChars.Road.codOf (n := 4) rfl (fun x hx => ((own_up _ hcs).1 x hx).2)) ((own_up _ hcs).2) (S_COMPACT_STRINGS.ext OL.2) hz (Nat.le_of_ble_eq_true rfl) (by decide) (by decide)) q46a q46c (g := (mkF m 180 #[.val (.int pa), .val (.int pb), .val (.int pc_), .val (.int pd_), .val (.int pe), .val (.int (4 : Int32)), .val (.int r_4), .val (.int r_7), .val (.int r_10), .val (.int r_13), .val (.ref b16), .val (.ref b31), .val (.ref xs_37), .val (.ref b31)] [(.ref b31)])) rfl (by rw [hml]; rfl) (Steps.refl _) (argsL := []) (rest := []) (lenOf pd_4 rfl) rfl (by show 2 * 0 + _ ≤ _; exact Nat.le_of_eq rfl) (hb hby at_180) (fun _ _ => ⟨rfl, e43, (by decide : 5 + 0 ≤ _), (by decide : 17 + 0 ≤ _)⟩)
  dsimp only [Pt.U, Pt.locs, Pt.cells, Pt.slots] at X46 l46 y46 z46 st46 hQ46
  subst l46 y46 z46
  obtain ⟨rfl, rfl, e46⟩ := hQ46
  have N46q : Fr n0 ([] : List Loc) := Fr.nil n0
  have N46 := Fr.app N43 N46q
  have P47 : ∀ t, GG p e below T46 (mkF m 183 #[.val (.int pa), .val (.int pb), .val (.int pc_), .val (.int pd_), .val (.int pe), .val (.int (4 : Int32)), .val (.int r_4), .val (.int r_7), .val (.int r_10), .val (.int r_13), .val (.ref b16), .val (.ref b31), .val (.ref xs_37), .val (.ref b31)] [(.int (Int32.ofNat (([r_4, r_7, r_10, r_13] : List Int32)).length))]) t → Steps p.tables e below s0 t := fun t kk_ => P45 t (st46.trans kk_)
  have P48 : ∀ t, GG p e below T46 (mkF m 193 #[.val (.int pa), .val (.int pb), .val (.int pc_), .val (.int pd_), .val (.int pe), .val (.int (4 : Int32)), .val (.int r_4), .val (.int r_7), .val (.int r_10), .val (.int r_13), .val (.ref b16), .val (.ref b31), .val (.ref xs_37), .val (.ref b31)] [(.int (1 : Int32))]) t → Steps p.tables e below s0 t := fun t kk_ => P47 t (by
    refine XS.iload X46.here hx rfl (hb hby at_183) rfl ?_
    show GG p e below T46 (mkF m 185 #[.val (.int pa), .val (.int pb), .val (.int pc_), .val (.int pd_), .val (.int pe), .val (.int (4 : Int32)), .val (.int r_4), .val (.int r_7), .val (.int r_10), .val (.int r_13), .val (.ref b16), .val (.ref b31), .val (.ref xs_37), .val (.ref b31)] [(.int (4 : Int32)), (.int (Int32.ofNat (([r_4, r_7, r_10, r_13] : List Int32)).length))]) t
    refine XS.icmpNo X46.here hx rfl (hb hby at_185) rfl (teq (rfl : (Int32.ofNat (([r_4, r_7, r_10, r_13] : List Int32)).length) = (4 : Int32))).2 ?_
    show GG p e below T46 (mkF m 188 #[.val (.int pa), .val (.int pb), .val (.int pc_), .val (.int pd_), .val (.int pe), .val (.int (4 : Int32)), .val (.int r_4), .val (.int r_7), .val (.int r_10), .val (.int r_13), .val (.ref b16), .val (.ref b31), .val (.ref xs_37), .val (.ref b31)] []) t
    refine XS.iconst X46.here hx rfl (hb hby at_188) ?_
    show GG p e below T46 (mkF m 189 #[.val (.int pa), .val (.int pb), .val (.int pc_), .val (.int pd_), .val (.int pe), .val (.int (4 : Int32)), .val (.int r_4), .val (.int r_7), .val (.int r_10), .val (.int r_13), .val (.ref b16), .val (.ref b31), .val (.ref xs_37), .val (.ref b31)] [(.int (1 : Int32))]) t
    refine XS.goto X46.here hx rfl (pc0 := 189) (pc' := 193) rfl (hb hby at_189) (by decide) (by decide) ?_
    show GG p e below T46 (mkF m 193 #[.val (.int pa), .val (.int pb), .val (.int pc_), .val (.int pd_), .val (.int pe), .val (.int (4 : Int32)), .val (.int r_4), .val (.int r_7), .val (.int r_10), .val (.int r_13), .val (.ref b16), .val (.ref b31), .val (.ref xs_37), .val (.ref b31)] [(.int (1 : Int32))]) t
    exact kk_)
  subst hs0
  obtain ⟨fs, hr, hrun, hended, hW, hsame⟩ := X46.leave (v := some (.int (nar .boolean (1 : Int32)))) (fun h => by rw [Bd.returns] at h; cases h)
  refine ⟨_, _, P48 _ ?_, hrun, hended, _, _, rfl, ?_, ⟨_, rfl⟩, hW, hsame.mono (by decide) (by decide)⟩
  · show GG p e below T46 (mkF m 193 #[.val (.int pa), .val (.int pb), .val (.int pc_), .val (.int pd_), .val (.int pe), .val (.int (4 : Int32)), .val (.int r_4), .val (.int r_7), .val (.int r_10), .val (.int r_13), .val (.ref b16), .val (.ref b31), .val (.ref xs_37), .val (.ref b31)] [(.int (1 : Int32))]) _
    exact retN X46 hx (t := .boolean) Bd.returns (by simp) (hb hby at_193) hr
  · show Q_law4 Z pa pb pc_ pd_ pe G1 G3 h0 n0 _ T46.heap _
    rw [e46]
    exact ⟨rfl, N46, K37⟩
set_option maxRecDepth 65536 in
set_option maxHeartbeats 40000000 in
theorem comes_1 {Post : Tables → Env → Array Value → State → Outcome → State → Prop} (hpost : ∀ tb e args s v u, (limb_1_1.after args s (.returned v) u = true ∧ limb_1_2.after args s (.returned v) u = true ∧ True) → FrameEnd s (.returned v) u (Jvm.fieldLocs frame_1_writes args s ++ Jvm.arrayLocs frame_1_arrays args s ++ Jvm.staticLocs frame_1_statics s) 24 128 → Post tb e args s (.returned v) u) :
    ArmFor flags0 classFile x code maxLocals ret World_1 tables_1 room_1 Calls_1 rest_1 Pre_1 Post := by
  intro l hfl _ _ p e ha hc hk s m args below hf hA hF happ hP
  obtain ⟨hcalls, hrest, hpre⟩ := hP
  obtain ⟨-, -, -, hnamed, -, -, -, hat⟩ := (Spec.applies_iff hf).mp happ
  obtain ⟨hg, hn⟩ := and_e (Cond.before_iff.mp (show (Jvm.Cond.and given_1 narrow_1).before args s = true from hpre))
  obtain ⟨h1, h2⟩ := and_e hg
  obtain ⟨ga, h2⟩ := and_e h2
  obtain ⟨gb, h2⟩ := and_e h2
  obtain ⟨gc, h2⟩ := and_e h2
  obtain ⟨gd, ge⟩ := and_e h2
  obtain ⟨w0, w1, w2, w3, w4, rfl⟩ : ∃ w0 w1 w2 w3 w4 : Value, args = #[w0, w1, w2, w3, w4] := by
    have hs : args.size = 5 := by simpa [Cond.value, given_1] using h1
    obtain ⟨L⟩ := args
    match L, hs with
    | [w0, w1, w2, w3, w4], _ => exact ⟨w0, w1, w2, w3, w4, rfl⟩
  have hw := fun d (hd : d ∈ tables_1) => atoms_spec (ws := Jvm.Cond.code x code maxLocals ret :: tables_1) hat d (List.mem_cons_of_mem _ hd)
  obtain ⟨hsets, hown0⟩ := atoms_of _ (rest_1_c_eq ▸ (show rest_1_c.before _ s = true from hrest))
  have n5 := not_v (Cond.before_iff.mp (hsets _ (List.mem_of_getElem? (i := 2) rfl)))
  obtain ⟨i0, e0⟩ := is_v ga
  obtain rfl : w0 = (.int i0) := Option.some.inj e0
  obtain ⟨i1, e1⟩ := is_v gb
  obtain rfl : w1 = (.int i1) := Option.some.inj e1
  obtain ⟨i2, e2⟩ := is_v gc
  obtain rfl : w2 = (.int i2) := Option.some.inj e2
  obtain ⟨i3, e3⟩ := is_v gd
  obtain rfl : w3 = (.int i3) := Option.some.inj e3
  obtain ⟨i4, e4⟩ := is_v ge
  obtain rfl : w4 = (.int i4) := Option.some.inj e4
  obtain ⟨iG, eG⟩ := is_v (Cond.before_iff.mp (hsets _ (List.mem_of_getElem? (i := 1) rfl)))
  have SG : Sta s s.heap "java/lang/String" "COMPACT_STRINGS" "Z" (.int iG) := Sta.start eG (Or.inl (hsets _ (List.mem_of_getElem? (i := 0) rfl)))
  obtain ⟨vF, eF, rF⟩ := isR_v (Cond.before_iff.mp (hsets _ (List.mem_of_getElem? (i := 8) rfl)))
  have SF : Sta s s.heap "jdk/internal/util/Preconditions" "SIOOBE_FORMATTER" "Ljava/util/function/BiFunction;" vF := Sta.start eF (Or.inl (hsets _ (List.mem_of_getElem? (i := 7) rfl)))
  have cG : ¬ (iG = (0 : Int32)) := gotF (Cond.eq_ints eG (Term.int_eval (0))) n5
  rcases own_three i4 with hk4 | hk4 | hk4 | hk4
  · obtain ⟨n, o, h1, h2, h3, _, L, rfl, ⟨rfl, N, -⟩, hq⟩ := rm_law1 l s _ hw tables_1 i0 i1 i2 i3 i4 iG vF s.heap s.heap.size (Nat.le_refl _) SG SF (Old.start s) cG rF hk4 p e ha hc hk s m _ below hf ((Spec.applies_iff_loose hf).mp happ).1 ⟨rfl, State.Warmed39.refl s, rfl⟩ trivial
    exact ⟨n, _, h1, h2, h3, hpost _ _ _ _ _ _ ⟨Cond.after_iff.mpr rfl, Cond.after_iff.mpr (eq_i res_at (Term.int_eval (1)) rfl), trivial⟩ ⟨hq.1, hq.2.1, (hq.2.2.sift fun y hy => Or.inr (N y hy)).mono (by decide) (by decide)⟩⟩
  · obtain ⟨n, o, h1, h2, h3, _, L, rfl, ⟨rfl, N, -⟩, hq⟩ := rm_law2 l s _ hw tables_1 i0 i1 i2 i3 i4 iG vF s.heap s.heap.size (Nat.le_refl _) SG SF (Old.start s) cG rF hk4 p e ha hc hk s m _ below hf ((Spec.applies_iff_loose hf).mp happ).1 ⟨rfl, State.Warmed39.refl s, rfl⟩ trivial
    exact ⟨n, _, h1, h2, h3, hpost _ _ _ _ _ _ ⟨Cond.after_iff.mpr rfl, Cond.after_iff.mpr (eq_i res_at (Term.int_eval (1)) rfl), trivial⟩ ⟨hq.1, hq.2.1, (hq.2.2.sift fun y hy => Or.inr (N y hy)).mono (by decide) (by decide)⟩⟩
  · obtain ⟨n, o, h1, h2, h3, _, L, rfl, ⟨rfl, N, -⟩, hq⟩ := rm_law3 l s _ hw tables_1 i0 i1 i2 i3 i4 iG vF s.heap s.heap.size (Nat.le_refl _) SG SF (Old.start s) cG rF hk4 p e ha hc hk s m _ below hf ((Spec.applies_iff_loose hf).mp happ).1 ⟨rfl, State.Warmed39.refl s, rfl⟩ trivial
    exact ⟨n, _, h1, h2, h3, hpost _ _ _ _ _ _ ⟨Cond.after_iff.mpr rfl, Cond.after_iff.mpr (eq_i res_at (Term.int_eval (1)) rfl), trivial⟩ ⟨hq.1, hq.2.1, (hq.2.2.sift fun y hy => Or.inr (N y hy)).mono (by decide) (by decide)⟩⟩
  · obtain ⟨n, o, h1, h2, h3, _, L, rfl, ⟨rfl, N, -⟩, hq⟩ := rm_law4 l s _ hw tables_1 i0 i1 i2 i3 i4 iG vF s.heap s.heap.size (Nat.le_refl _) SG SF (Old.start s) cG rF hk4 p e ha hc hk s m _ below hf ((Spec.applies_iff_loose hf).mp happ).1 ⟨rfl, State.Warmed39.refl s, rfl⟩ trivial
    exact ⟨n, _, h1, h2, h3, hpost _ _ _ _ _ _ ⟨Cond.after_iff.mpr rfl, Cond.after_iff.mpr (eq_i res_at (Term.int_eval (1)) rfl), trivial⟩ ⟨hq.1, hq.2.1, (hq.2.2.sift fun y hy => Or.inr (N y hy)).mono (by decide) (by decide)⟩⟩
theorem main_1_1 : Claimed_1_1 := comes_1 fun _ _ _ _ _ _ h hF => ⟨h.1, hF⟩
theorem main_1_2 : Claimed_1_2 := comes_1 fun _ _ _ _ _ _ h hF => ⟨h.2.1, hF⟩

end Jvm.Pilot.@@N@@
namespace Jvm.Pilot.@@N@@
open Jvm Jvm.ClassFile Sem Op Lib Jvm.Free Jvm.Stand Jvm.Pilot.@@N@@.Jvm.D
/-! MADE BY PROGRAM (witnessworld.py) out of the Statement's table words and the real class files: 20 classes; the members and pool entries that the words name. The judged class is class 1, her method 2. -/
namespace start1
open Jvm.ClassFile
def u (s : String) : CpInfo := .utf8 (stringToUtf16 s)
/-- a pool by its gaps: so many unusable entries, then the entry; so many at the end -/
def gap : Nat → List CpInfo → List CpInfo
  | 0, r => r
  | n + 1, r => .unusable :: gap n r
def poolList (es : List (Nat × CpInfo)) (last : Nat) : List CpInfo := es.foldr (fun e r => gap e.1 (e.2 :: r)) (gap last [])
def pool (es : List (Nat × CpInfo)) (last : Nat) : Array CpInfo := ⟨poolList es last⟩
def fileOf (pool : Array CpInfo) (this : Nat) (attrs : Array Attribute := #[]) (ms : Array MethodInfo := #[]) (fl : Nat := 33) (sup : Nat := 0) (ifs : Array Nat := #[]) (fds : Array FieldInfo := #[]) : ClassFile where
  minorVersion := 0
  majorVersion := 65
  constantPool := pool
  accessFlags := fl
  thisClass := this
  superClass := sup
  interfaces := ifs
  fields := fds
  methods := ms
  attributes := attrs
def plain (name : String) (sup : Option ClassId) : Class where
  name := name
  kind := .ordinary
  loader := none
  accessFlags := 33
  super := sup
  interfaces := #[]
  cf := none
  fields := #[]
  methods := #[]
  instanceTypes := #[]
  staticTypes := #[]
  resolved := #[]
  callSites := []
  init := .initialized
  statics := none
  mirror := none

def pool0 : Array CpInfo := pool [(5, u "<init>"), (0, u "()V"), (1, .class_ 10), (1, u "java/lang/Object")] 113

def k0c0 : Code := { maxStack := 0, maxLocals := 1, code := object_method_1_code, exceptionTable := #[], attributes := #[] }
def k0m0 : Method := { name := "<init>", desc := "()V", sig := { parameters := [], returnType := none }, accessFlags := 1, code := some k0c0 }
/-- java/lang/Object -/
def k0 : Class := { plain "java/lang/Object" none with
  accessFlags := 33
  interfaces := #[]
  cf := some (fileOf pool0 8 #[] #[{ accessFlags := 1, nameIndex := 5, descriptorIndex := 6, attributes := #[] }] 33 0 #[] #[])
  fields := #[]
  methods := #[k0m0]
  instanceTypes := #[]
  staticTypes := #[]
  resolved := Array.replicate 124 none
  statics := none }

def pool1 : Array CpInfo := pool [(2, .class_ 4), (1, u "java/lang/Object"), (0, u "<init>"), (0, u "()V"), (0, .integer 2147483647), (0, .methodref 9 10), (0, .class_ 11), (0, .nameAndType 12 13), (0, u "com/example/leagan/leagan/NamesCheckPinLaw"), (0, u "pick"), (0, u "(I)C"), (0, .class_ 15), (0, u "java/lang/String"), (0, .methodref 14 17), (0, .nameAndType 5 18), (0, u "([C)V"), (0, .methodref 14 20), (0, .nameAndType 21 22), (0, u "valueOf"), (0, u "(C)Ljava/lang/String;"), (0, .methodref 24 25), (0, .class_ 26), (0, .nameAndType 27 28), (0, u "com/example/leagan/leagan/Names"), (0, u "check"), (0, u "(Ljava/lang/String;Ljava/lang/String;)Ljava/lang/String;"), (0, .methodref 14 30), (0, .nameAndType 31 32), (0, u "equals"), (0, u "(Ljava/lang/Object;)Z"), (0, .methodref 14 34), (0, .nameAndType 35 36), (0, u "length"), (0, u "()I"), (3, u "law"), (0, u "(IIIII)Z")] 4

def k1m0 : Method := { name := "<init>", desc := "()V", sig := { parameters := [], returnType := none }, accessFlags := 2, code := none }
def k1c1 : Code := { maxStack := 3, maxLocals := 2, code := method_2_code, exceptionTable := #[], attributes := #[] }
def k1m1 : Method := { name := "pick", desc := "(I)C", sig := { parameters := [.int], returnType := some .char }, accessFlags := 10, code := some k1c1 }
def k1c2 : Code := { maxStack := 4, maxLocals := 14, code := code, exceptionTable := #[], attributes := #[] }
def k1m2 : Method := { name := "law", desc := "(IIIII)Z", sig := { parameters := [.int, .int, .int, .int, .int], returnType := some .boolean }, accessFlags := 9, code := some k1c2 }
/-- com/example/leagan/leagan/NamesCheckPinLaw -/
def k1 : Class := { plain "com/example/leagan/leagan/NamesCheckPinLaw" (some 0) with
  accessFlags := 49
  interfaces := #[]
  cf := some (fileOf pool1 9 #[] #[{ accessFlags := 2, nameIndex := 5, descriptorIndex := 6, attributes := #[] }, { accessFlags := 10, nameIndex := 12, descriptorIndex := 13, attributes := #[] }, { accessFlags := 9, nameIndex := 40, descriptorIndex := 41, attributes := #[] }] 49 2 #[] #[])
  fields := #[]
  methods := #[k1m0, k1m1, k1m2]
  instanceTypes := #[]
  staticTypes := #[]
  resolved := Array.replicate 46 none
  statics := none }

def pool2 : Array CpInfo := pool [(1, .class_ 2), (0, u "java/io/Serializable"), (0, .class_ 4), (0, u "java/lang/Object")] 2

/-- java/io/Serializable -/
def k2 : Class := { plain "java/io/Serializable" (some 0) with
  accessFlags := 1537
  interfaces := #[]
  cf := some (fileOf pool2 1 #[] #[] 1537 3 #[] #[])
  fields := #[]
  methods := #[]
  instanceTypes := #[]
  staticTypes := #[]
  resolved := Array.replicate 7 none
  statics := none }

def pool3 : Array CpInfo := pool [(1, .class_ 2), (0, u "java/lang/Comparable"), (0, .class_ 4), (0, u "java/lang/Object")] 7

/-- java/lang/Comparable -/
def k3 : Class := { plain "java/lang/Comparable" (some 0) with
  accessFlags := 1537
  interfaces := #[]
  cf := some (fileOf pool3 1 #[] #[] 1537 3 #[] #[])
  fields := #[]
  methods := #[]
  instanceTypes := #[]
  staticTypes := #[]
  resolved := Array.replicate 12 none
  statics := none }

def pool4 : Array CpInfo := pool [(2, .class_ 4), (1, u "java/lang/CharSequence"), (42, .class_ 48), (0, u "java/lang/CharSequence$1CodePointIterator"), (10, .class_ 60), (0, u "java/lang/CharSequence$1CharIterator"), (5, .class_ 67), (0, u "java/lang/Object")] 63

/-- java/lang/CharSequence -/
def k4 : Class := { plain "java/lang/CharSequence" (some 0) with
  accessFlags := 1537
  interfaces := #[]
  cf := some (fileOf pool4 2 #[.nestMembers #[47, 59]] #[] 1537 66 #[] #[])
  fields := #[]
  methods := #[]
  instanceTypes := #[]
  staticTypes := #[]
  resolved := Array.replicate 131 none
  statics := none }

def pool5 : Array CpInfo := pool [(1, .class_ 2), (0, u "java/lang/constant/Constable"), (0, .class_ 4), (0, u "java/lang/Object")] 6

/-- java/lang/constant/Constable -/
def k5 : Class := { plain "java/lang/constant/Constable" (some 0) with
  accessFlags := 1537
  interfaces := #[]
  cf := some (fileOf pool5 1 #[] #[] 1537 3 #[] #[])
  fields := #[]
  methods := #[]
  instanceTypes := #[]
  staticTypes := #[]
  resolved := Array.replicate 11 none
  statics := none }

def pool6 : Array CpInfo := pool [(1, .class_ 2), (0, u "java/lang/constant/ConstantDesc"), (0, .class_ 4), (0, u "java/lang/Object")] 32

/-- java/lang/constant/ConstantDesc -/
def k6 : Class := { plain "java/lang/constant/ConstantDesc" (some 0) with
  accessFlags := 1537
  interfaces := #[]
  cf := some (fileOf pool6 1 #[] #[] 1537 3 #[] #[])
  fields := #[]
  methods := #[]
  instanceTypes := #[]
  staticTypes := #[]
  resolved := Array.replicate 37 none
  statics := none }

def pool7 : Array CpInfo := pool [(1, .methodref 2 3), (0, .class_ 4), (0, .nameAndType 5 6), (0, u "java/lang/Object"), (0, u "<init>"), (0, u "()V"), (2, .fieldref 10 11), (0, .class_ 12), (0, .nameAndType 13 14), (0, u "java/lang/String"), (0, u "value"), (0, u "[B"), (0, .fieldref 10 16), (0, .nameAndType 17 18), (0, u "coder"), (0, u "B"), (2, u "hash"), (0, u "I"), (2, u "hashIsZero"), (0, u "Z"), (0, .methodref 10 28), (0, .nameAndType 5 29), (0, u "([CIILjava/lang/Void;)V"), (8, .fieldref 10 39), (0, .nameAndType 40 26), (0, u "COMPACT_STRINGS"), (1, .class_ 44), (1, u "java/lang/StringUTF16"), (0, u "compress"), (1, .methodref 42 48), (0, .nameAndType 49 50), (0, u "coderFromArrayLen"), (0, u "([BI)B"), (2, u "toBytes"), (53, .class_ 109), (1, u "java/lang/StringLatin1"), (32, u "()Z"), (34, .methodref 42 178), (0, .nameAndType 45 179), (0, u "([CII)[B"), (29, .methodref 10 210), (0, .nameAndType 5 211), (0, u "([BB)V"), (122, u "()I"), (0, .methodref 10 336), (0, .nameAndType 17 337), (0, u "()B"), (25, u "([BI)C"), (5, u "(C)Z"), (21, u "(II)V"), (35, u "(I)C"), (64, .methodref 10 493), (0, .nameAndType 494 142), (0, u "isLatin1"), (0, .methodref 107 496), (0, .nameAndType 497 363), (0, u "charAt"), (3, u "checkIndex"), (5, u "length"), (35, u "equals"), (29, u "(Ljava/lang/Object;)Z"), (1, .class_ 576), (0, u "java/lang/CharSequence"), (22, u "CASE_INSENSITIVE_ORDER"), (0, u "Ljava/util/Comparator;"), (91, u "isEmpty"), (89, u "valueOf"), (0, u "(C)Ljava/lang/String;"), (226, u "([C)V"), (4, .methodref 107 1016), (0, .nameAndType 1017 369), (0, u "canEncode"), (0, .methodref 107 1019), (0, .nameAndType 53 1020), (0, u "(C)[B"), (32, .fieldref 1054 1055), (0, .class_ 1056), (0, .nameAndType 1057 1058), (0, u "jdk/internal/util/Preconditions"), (0, u "SIOOBE_FORMATTER"), (0, u "Ljava/util/function/BiFunction;"), (0, .methodref 1054 1060), (0, .nameAndType 501 1061), (0, u "(IILjava/util/function/BiFunction;)I"), (39, u "serialPersistentFields"), (0, u "[Ljava/io/ObjectStreamField;"), (0, .class_ 1104), (0, u "java/lang/String$CaseInsensitiveComparator"), (1, .class_ 1107), (0, u "java/io/Serializable"), (0, .class_ 1109), (0, u "java/lang/Comparable"), (0, .class_ 1111), (0, u "java/lang/constant/Constable"), (0, .class_ 1113), (0, u "java/lang/constant/ConstantDesc"), (2, u "serialVersionUID"), (0, u "J"), (3, u "REPL"), (0, u "C"), (2, u "LATIN1"), (1, u "UTF16")] 323

def k7m0 : Method := { name := "<init>", desc := "()V", sig := { parameters := [], returnType := none }, accessFlags := 1, code := none }
def k7c1 : Code := { maxStack := 5, maxLocals := 2, code := jdk_42_method_3_code, exceptionTable := #[], attributes := #[] }
def k7m1 : Method := { name := "<init>", desc := "([C)V", sig := { parameters := [(.array .char)], returnType := none }, accessFlags := 1, code := some k7c1 }
def k7c2 : Code := { maxStack := 2, maxLocals := 1, code := jdk_42_method_54_code, exceptionTable := #[], attributes := #[] }
def k7m2 : Method := { name := "length", desc := "()I", sig := { parameters := [], returnType := some .int }, accessFlags := 1, code := some k7c2 }
def k7c3 : Code := { maxStack := 1, maxLocals := 1, code := jdk_42_method_55_code, exceptionTable := #[], attributes := #[] }
def k7m3 : Method := { name := "isEmpty", desc := "()Z", sig := { parameters := [], returnType := some .boolean }, accessFlags := 1, code := some k7c3 }
def k7c4 : Code := { maxStack := 2, maxLocals := 2, code := jdk_42_method_56_code, exceptionTable := #[], attributes := #[] }
def k7m4 : Method := { name := "charAt", desc := "(I)C", sig := { parameters := [.int], returnType := some .char }, accessFlags := 1, code := some k7c4 }
def k7c5 : Code := { maxStack := 2, maxLocals := 3, code := jdk_42_method_66_code, exceptionTable := #[], attributes := #[] }
def k7m5 : Method := { name := "equals", desc := "(Ljava/lang/Object;)Z", sig := { parameters := [(.object "java/lang/Object")], returnType := some .boolean }, accessFlags := 1, code := some k7c5 }
def k7c6 : Code := { maxStack := 4, maxLocals := 1, code := jdk_42_method_139_code, exceptionTable := #[], attributes := #[] }
def k7m6 : Method := { name := "valueOf", desc := "(C)Ljava/lang/String;", sig := { parameters := [.char], returnType := some (.object "java/lang/String") }, accessFlags := 9, code := some k7c6 }
def k7c7 : Code := { maxStack := 4, maxLocals := 6, code := jdk_42_method_149_code, exceptionTable := #[], attributes := #[] }
def k7m7 : Method := { name := "<init>", desc := "([CIILjava/lang/Void;)V", sig := { parameters := [(.array .char), .int, .int, (.object "java/lang/Void")], returnType := none }, accessFlags := 2, code := some k7c7 }
def k7c8 : Code := { maxStack := 2, maxLocals := 3, code := jdk_42_method_151_code, exceptionTable := #[], attributes := #[] }
def k7m8 : Method := { name := "<init>", desc := "([BB)V", sig := { parameters := [(.array .byte), .byte], returnType := none }, accessFlags := 0, code := some k7c8 }
def k7c9 : Code := { maxStack := 1, maxLocals := 1, code := jdk_42_method_152_code, exceptionTable := #[], attributes := #[] }
def k7m9 : Method := { name := "coder", desc := "()B", sig := { parameters := [], returnType := some .byte }, accessFlags := 0, code := some k7c9 }
def k7c10 : Code := { maxStack := 1, maxLocals := 1, code := jdk_42_method_154_code, exceptionTable := #[], attributes := #[] }
def k7m10 : Method := { name := "isLatin1", desc := "()Z", sig := { parameters := [], returnType := some .boolean }, accessFlags := 0, code := some k7c10 }
def k7c11 : Code := { maxStack := 3, maxLocals := 2, code := jdk_42_method_155_code, exceptionTable := #[], attributes := #[] }
def k7m11 : Method := { name := "checkIndex", desc := "(II)V", sig := { parameters := [.int, .int], returnType := none }, accessFlags := 8, code := some k7c11 }
/-- java/lang/String -/
def k7 : Class := { plain "java/lang/String" (some 0) with
  accessFlags := 49
  interfaces := #[2, 3, 4, 5, 6]
  cf := some (fileOf pool7 10 #[.nestMembers #[1103]] #[{ accessFlags := 1, nameIndex := 5, descriptorIndex := 6, attributes := #[] }, { accessFlags := 1, nameIndex := 5, descriptorIndex := 1010, attributes := #[] }, { accessFlags := 1, nameIndex := 507, descriptorIndex := 334, attributes := #[] }, { accessFlags := 1, nameIndex := 692, descriptorIndex := 142, attributes := #[] }, { accessFlags := 1, nameIndex := 497, descriptorIndex := 427, attributes := #[] }, { accessFlags := 1, nameIndex := 543, descriptorIndex := 573, attributes := #[] }, { accessFlags := 9, nameIndex := 782, descriptorIndex := 783, attributes := #[] }, { accessFlags := 2, nameIndex := 5, descriptorIndex := 29, attributes := #[] }, { accessFlags := 0, nameIndex := 5, descriptorIndex := 211, attributes := #[] }, { accessFlags := 0, nameIndex := 17, descriptorIndex := 337, attributes := #[] }, { accessFlags := 0, nameIndex := 494, descriptorIndex := 142, attributes := #[] }, { accessFlags := 8, nameIndex := 501, descriptorIndex := 391, attributes := #[] }] 49 2 #[1106, 1108, 575, 1110, 1112] #[{ accessFlags := 18, nameIndex := 13, descriptorIndex := 14, attributes := #[] }, { accessFlags := 18, nameIndex := 17, descriptorIndex := 18, attributes := #[] }, { accessFlags := 2, nameIndex := 21, descriptorIndex := 22, attributes := #[] }, { accessFlags := 2, nameIndex := 25, descriptorIndex := 26, attributes := #[] }, { accessFlags := 26, nameIndex := 1116, descriptorIndex := 1117, attributes := #[] }, { accessFlags := 24, nameIndex := 40, descriptorIndex := 26, attributes := #[] }, { accessFlags := 26, nameIndex := 1101, descriptorIndex := 1102, attributes := #[] }, { accessFlags := 26, nameIndex := 1121, descriptorIndex := 1122, attributes := #[] }, { accessFlags := 25, nameIndex := 599, descriptorIndex := 600, attributes := #[] }, { accessFlags := 24, nameIndex := 1125, descriptorIndex := 18, attributes := #[] }, { accessFlags := 24, nameIndex := 1127, descriptorIndex := 18, attributes := #[] }])
  fields := #[{ name := "value", type := (.array .byte), accessFlags := 18, slot := 0, constantValue := 0 }, { name := "coder", type := .byte, accessFlags := 18, slot := 1, constantValue := 0 }, { name := "hash", type := .int, accessFlags := 2, slot := 2, constantValue := 0 }, { name := "hashIsZero", type := .boolean, accessFlags := 2, slot := 3, constantValue := 0 }, { name := "serialVersionUID", type := .long, accessFlags := 26, slot := 0, constantValue := 0 }, { name := "COMPACT_STRINGS", type := .boolean, accessFlags := 24, slot := 1, constantValue := 0 }, { name := "serialPersistentFields", type := (.array (.object "java/io/ObjectStreamField")), accessFlags := 26, slot := 2, constantValue := 0 }, { name := "REPL", type := .char, accessFlags := 26, slot := 3, constantValue := 0 }, { name := "CASE_INSENSITIVE_ORDER", type := (.object "java/util/Comparator"), accessFlags := 25, slot := 4, constantValue := 0 }, { name := "LATIN1", type := .byte, accessFlags := 24, slot := 5, constantValue := 0 }, { name := "UTF16", type := .byte, accessFlags := 24, slot := 6, constantValue := 0 }]
  methods := #[k7m0, k7m1, k7m2, k7m3, k7m4, k7m5, k7m6, k7m7, k7m8, k7m9, k7m10, k7m11]
  instanceTypes := #[(.array .byte), .byte, .int, .boolean]
  staticTypes := #[.long, .boolean, (.array (.object "java/io/ObjectStreamField")), .char, (.object "java/util/Comparator"), .byte, .byte]
  resolved := Array.replicate 1451 none
  statics := some 0 }

def pool8 : Array CpInfo := pool [(6, .class_ 8), (1, u "java/lang/Object"), (0, u "<init>"), (0, u "()V"), (1, .class_ 14), (1, u "java/lang/StringUTF16"), (31, u "$assertionsDisabled"), (0, u "Z"), (13, u "HI_BYTE_SHIFT"), (0, u "I"), (2, u "LO_BYTE_SHIFT"), (49, .methodref 12 116), (0, .nameAndType 117 118), (0, u "compress"), (0, u "([CI[BII)I"), (3, u "([CII)[B"), (138, u "coderFromArrayLen"), (0, u "([BI)B"), (106, .class_ 371), (1, u "java/lang/StringUTF16$LinesSpliterator"), (58, u "MAX_LENGTH"), (196, .class_ 628), (0, u "java/lang/StringUTF16$CodePointsSpliterator"), (0, .class_ 630), (0, u "java/lang/StringUTF16$CharsSpliterator")] 4

def k8m0 : Method := { name := "<init>", desc := "()V", sig := { parameters := [], returnType := none }, accessFlags := 0, code := none }
def k8c1 : Code := { maxStack := 2, maxLocals := 2, code := jdk_52_method_15_code, exceptionTable := #[], attributes := #[] }
def k8m1 : Method := { name := "coderFromArrayLen", desc := "([BI)B", sig := { parameters := [(.array .byte), .int], returnType := some .byte }, accessFlags := 8, code := some k8c1 }
def k8c2 : Code := { maxStack := 5, maxLocals := 6, code := jdk_52_method_16_code, exceptionTable := #[], attributes := #[] }
def k8m2 : Method := { name := "compress", desc := "([CII)[B", sig := { parameters := [(.array .char), .int, .int], returnType := some (.array .byte) }, accessFlags := 9, code := some k8c2 }
def k8c3 : Code := { maxStack := 3, maxLocals := 7, code := jdk_52_method_21_code, exceptionTable := #[], attributes := #[] }
def k8m3 : Method := { name := "compress", desc := "([CI[BII)I", sig := { parameters := [(.array .char), .int, (.array .byte), .int, .int], returnType := some .int }, accessFlags := 9, code := some k8c3 }
/-- java/lang/StringUTF16 -/
def k8 : Class := { plain "java/lang/StringUTF16" (some 0) with
  accessFlags := 48
  interfaces := #[]
  cf := some (fileOf pool8 12 #[.nestMembers #[627, 629, 369]] #[{ accessFlags := 0, nameIndex := 9, descriptorIndex := 10, attributes := #[] }, { accessFlags := 8, nameIndex := 261, descriptorIndex := 262, attributes := #[] }, { accessFlags := 9, nameIndex := 117, descriptorIndex := 122, attributes := #[] }, { accessFlags := 9, nameIndex := 117, descriptorIndex := 118, attributes := #[] }] 48 6 #[] #[{ accessFlags := 26, nameIndex := 61, descriptorIndex := 62, attributes := #[] }, { accessFlags := 26, nameIndex := 65, descriptorIndex := 62, attributes := #[] }, { accessFlags := 24, nameIndex := 430, descriptorIndex := 62, attributes := #[] }, { accessFlags := 4120, nameIndex := 46, descriptorIndex := 47, attributes := #[] }])
  fields := #[{ name := "HI_BYTE_SHIFT", type := .int, accessFlags := 26, slot := 0, constantValue := 0 }, { name := "LO_BYTE_SHIFT", type := .int, accessFlags := 26, slot := 1, constantValue := 0 }, { name := "MAX_LENGTH", type := .int, accessFlags := 24, slot := 2, constantValue := 0 }, { name := "$assertionsDisabled", type := .boolean, accessFlags := 4120, slot := 3, constantValue := 0 }]
  methods := #[k8m0, k8m1, k8m2, k8m3]
  instanceTypes := #[]
  staticTypes := #[.int, .int, .int, .boolean]
  resolved := Array.replicate 635 none
  statics := none }

def pool9 : Array CpInfo := pool [(1, .class_ 2), (0, u "java/lang/String"), (1, .class_ 6), (1, u "java/lang/Object"), (0, u "<init>"), (0, u "()V"), (0, .methodref 1 10), (0, .nameAndType 11 12), (0, u "checkIndex"), (0, u "(II)V"), (1, .class_ 16), (1, u "java/lang/StringLatin1"), (36, u "([BI)C"), (36, u "canEncode"), (14, u "(C)Z"), (15, u "$assertionsDisabled"), (0, u "Z"), (98, .class_ 223), (1, u "java/lang/StringLatin1$LinesSpliterator"), (28, u "charAt"), (127, u "toBytes"), (1, u "(C)[B"), (7, .class_ 391), (0, u "java/lang/StringLatin1$CharsSpliterator")] 3

def k9m0 : Method := { name := "<init>", desc := "()V", sig := { parameters := [], returnType := none }, accessFlags := 0, code := none }
def k9c1 : Code := { maxStack := 2, maxLocals := 2, code := jdk_43_method_2_code, exceptionTable := #[], attributes := #[] }
def k9m1 : Method := { name := "charAt", desc := "([BI)C", sig := { parameters := [(.array .byte), .int], returnType := some .char }, accessFlags := 9, code := some k9c1 }
def k9c2 : Code := { maxStack := 2, maxLocals := 1, code := jdk_43_method_3_code, exceptionTable := #[], attributes := #[] }
def k9m2 : Method := { name := "canEncode", desc := "(C)Z", sig := { parameters := [.char], returnType := some .boolean }, accessFlags := 9, code := some k9c2 }
def k9c3 : Code := { maxStack := 4, maxLocals := 1, code := jdk_43_method_46_code, exceptionTable := #[], attributes := #[] }
def k9m3 : Method := { name := "toBytes", desc := "(C)[B", sig := { parameters := [.char], returnType := some (.array .byte) }, accessFlags := 9, code := some k9c3 }
/-- java/lang/StringLatin1 -/
def k9 : Class := { plain "java/lang/StringLatin1" (some 0) with
  accessFlags := 48
  interfaces := #[]
  cf := some (fileOf pool9 14 #[.nestMembers #[390, 221]] #[{ accessFlags := 0, nameIndex := 7, descriptorIndex := 8, attributes := #[] }, { accessFlags := 9, nameIndex := 252, descriptorIndex := 53, attributes := #[] }, { accessFlags := 9, nameIndex := 90, descriptorIndex := 105, attributes := #[] }, { accessFlags := 9, nameIndex := 380, descriptorIndex := 382, attributes := #[] }] 48 4 #[] #[{ accessFlags := 4120, nameIndex := 121, descriptorIndex := 122, attributes := #[] }])
  fields := #[{ name := "$assertionsDisabled", type := .boolean, accessFlags := 4120, slot := 0, constantValue := 0 }]
  methods := #[k9m0, k9m1, k9m2, k9m3]
  instanceTypes := #[]
  staticTypes := #[.boolean]
  resolved := Array.replicate 395 none
  statics := none }

def pool10 : Array CpInfo := pool [(2, .class_ 4), (1, u "java/lang/Object"), (0, u "<init>"), (0, u "()V"), (0, .methodref 8 9), (0, .class_ 10), (0, .nameAndType 11 12), (0, u "java/lang/String"), (0, u "isEmpty"), (0, u "()Z"), (0, .methodref 8 14), (0, .nameAndType 15 16), (0, u "length"), (0, u "()I"), (0, .class_ 18), (0, u "com/example/leagan/leagan/Names"), (0, .methodref 8 20), (0, .nameAndType 21 22), (0, u "charAt"), (0, u "(I)C"), (0, .methodref 17 24), (0, .nameAndType 25 26), (0, u "allowed"), (0, u "(C)Z"), (5, u "(Ljava/lang/String;Ljava/lang/String;)Ljava/lang/String;"), (3, u "MAX_LENGTH"), (0, u "I"), (4, u "check")] 18

def k10m0 : Method := { name := "<init>", desc := "()V", sig := { parameters := [], returnType := none }, accessFlags := 2, code := none }
def k10c1 : Code := { maxStack := 4, maxLocals := 4, code := prog_6_method_2_code, exceptionTable := #[], attributes := #[] }
def k10m1 : Method := { name := "check", desc := "(Ljava/lang/String;Ljava/lang/String;)Ljava/lang/String;", sig := { parameters := [(.object "java/lang/String"), (.object "java/lang/String")], returnType := some (.object "java/lang/String") }, accessFlags := 8, code := some k10c1 }
def k10c2 : Code := { maxStack := 2, maxLocals := 1, code := prog_6_method_3_code, exceptionTable := #[], attributes := #[] }
def k10m2 : Method := { name := "allowed", desc := "(C)Z", sig := { parameters := [.char], returnType := some .boolean }, accessFlags := 10, code := some k10c2 }
/-- com/example/leagan/leagan/Names -/
def k10 : Class := { plain "com/example/leagan/leagan/Names" (some 0) with
  accessFlags := 48
  interfaces := #[]
  cf := some (fileOf pool10 17 #[] #[{ accessFlags := 2, nameIndex := 5, descriptorIndex := 6, attributes := #[] }, { accessFlags := 8, nameIndex := 42, descriptorIndex := 32, attributes := #[] }, { accessFlags := 10, nameIndex := 25, descriptorIndex := 26, attributes := #[] }] 48 2 #[] #[{ accessFlags := 26, nameIndex := 36, descriptorIndex := 37, attributes := #[] }])
  fields := #[{ name := "MAX_LENGTH", type := .int, accessFlags := 26, slot := 0, constantValue := 0 }]
  methods := #[k10m0, k10m1, k10m2]
  instanceTypes := #[]
  staticTypes := #[.int]
  resolved := Array.replicate 61 none
  statics := none }

def pool11 : Array CpInfo := pool [(2, .class_ 4), (1, u "java/lang/Object"), (0, u "<init>"), (0, u "()V"), (17, .class_ 26), (1, u "jdk/internal/util/Preconditions"), (6, u "checkIndex"), (21, .class_ 56), (0, u "jdk/internal/util/Preconditions$4"), (57, .class_ 115), (0, u "jdk/internal/util/Preconditions$1"), (7, u "SIOOBE_FORMATTER"), (0, u "Ljava/util/function/BiFunction;"), (0, .class_ 126), (0, u "jdk/internal/util/Preconditions$2"), (3, u "AIOOBE_FORMATTER"), (0, .class_ 132), (0, u "jdk/internal/util/Preconditions$3"), (3, u "IOOBE_FORMATTER"), (41, u "(IILjava/util/function/BiFunction;)I")] 15

def k11m0 : Method := { name := "<init>", desc := "()V", sig := { parameters := [], returnType := none }, accessFlags := 1, code := none }
def k11c1 : Code := { maxStack := 3, maxLocals := 3, code := jdk_41_method_11_code, exceptionTable := #[], attributes := #[] }
def k11m1 : Method := { name := "checkIndex", desc := "(IILjava/util/function/BiFunction;)I", sig := { parameters := [.int, .int, (.object "java/util/function/BiFunction")], returnType := some .int }, accessFlags := 9, code := some k11c1 }
/-- jdk/internal/util/Preconditions -/
def k11 : Class := { plain "jdk/internal/util/Preconditions" (some 0) with
  accessFlags := 33
  interfaces := #[]
  cf := some (fileOf pool11 24 #[.nestMembers #[55, 131, 125, 114]] #[{ accessFlags := 1, nameIndex := 5, descriptorIndex := 6, attributes := #[] }, { accessFlags := 9, nameIndex := 33, descriptorIndex := 178, attributes := #[] }] 33 2 #[] #[{ accessFlags := 25, nameIndex := 123, descriptorIndex := 124, attributes := #[] }, { accessFlags := 25, nameIndex := 130, descriptorIndex := 124, attributes := #[] }, { accessFlags := 25, nameIndex := 136, descriptorIndex := 124, attributes := #[] }])
  fields := #[{ name := "SIOOBE_FORMATTER", type := (.object "java/util/function/BiFunction"), accessFlags := 25, slot := 0, constantValue := 0 }, { name := "AIOOBE_FORMATTER", type := (.object "java/util/function/BiFunction"), accessFlags := 25, slot := 1, constantValue := 0 }, { name := "IOOBE_FORMATTER", type := (.object "java/util/function/BiFunction"), accessFlags := 25, slot := 2, constantValue := 0 }]
  methods := #[k11m0, k11m1]
  instanceTypes := #[]
  staticTypes := #[(.object "java/util/function/BiFunction"), (.object "java/util/function/BiFunction"), (.object "java/util/function/BiFunction")]
  resolved := Array.replicate 194 none
  statics := some 1 }

def pool12 : Array CpInfo := pool [(9, u "<init>"), (6, .class_ 18), (1, u "java/lang/Object"), (0, u "()V"), (1, .class_ 23), (1, u "jdk/internal/util/ArraysSupport"), (0, u "LOG2_ARRAY_LONG_INDEX_SCALE"), (0, u "I"), (2, u "U"), (0, u "Ljdk/internal/misc/Unsafe;"), (8, u "BIG_ENDIAN"), (0, u "Z"), (8, u "LOG2_BYTE_BIT_SIZE"), (4, u "LOG2_ARRAY_INT_INDEX_SCALE"), (54, u "JLA"), (0, u "Ljdk/internal/access/JavaLangAccess;"), (11, u "LOG2_ARRAY_BOOLEAN_INDEX_SCALE"), (9, u "LOG2_ARRAY_BYTE_INDEX_SCALE"), (5, u "LOG2_ARRAY_CHAR_INDEX_SCALE"), (5, u "LOG2_ARRAY_SHORT_INDEX_SCALE"), (18, u "LOG2_ARRAY_FLOAT_INDEX_SCALE"), (24, u "LOG2_ARRAY_DOUBLE_INDEX_SCALE"), (89, u "T_BOOLEAN"), (2, u "T_CHAR"), (1, u "T_FLOAT"), (1, u "T_DOUBLE"), (1, u "T_BYTE"), (1, u "T_SHORT"), (1, u "T_INT"), (1, u "T_LONG"), (1, u "SOFT_MAX_ARRAY_LENGTH")] 83

def k12m0 : Method := { name := "<init>", desc := "()V", sig := { parameters := [], returnType := none }, accessFlags := 2, code := none }
/-- jdk/internal/util/ArraysSupport -/
def k12 : Class := { plain "jdk/internal/util/ArraysSupport" (some 0) with
  accessFlags := 33
  interfaces := #[]
  cf := some (fileOf pool12 21 #[] #[{ accessFlags := 2, nameIndex := 9, descriptorIndex := 19, attributes := #[] }] 33 16 #[] #[{ accessFlags := 24, nameIndex := 28, descriptorIndex := 29, attributes := #[] }, { accessFlags := 26, nameIndex := 38, descriptorIndex := 39, attributes := #[] }, { accessFlags := 25, nameIndex := 121, descriptorIndex := 25, attributes := #[] }, { accessFlags := 25, nameIndex := 131, descriptorIndex := 25, attributes := #[] }, { accessFlags := 25, nameIndex := 137, descriptorIndex := 25, attributes := #[] }, { accessFlags := 25, nameIndex := 143, descriptorIndex := 25, attributes := #[] }, { accessFlags := 25, nameIndex := 53, descriptorIndex := 25, attributes := #[] }, { accessFlags := 25, nameIndex := 24, descriptorIndex := 25, attributes := #[] }, { accessFlags := 25, nameIndex := 162, descriptorIndex := 25, attributes := #[] }, { accessFlags := 25, nameIndex := 187, descriptorIndex := 25, attributes := #[] }, { accessFlags := 26, nameIndex := 48, descriptorIndex := 25, attributes := #[] }, { accessFlags := 25, nameIndex := 277, descriptorIndex := 25, attributes := #[] }, { accessFlags := 25, nameIndex := 280, descriptorIndex := 25, attributes := #[] }, { accessFlags := 25, nameIndex := 282, descriptorIndex := 25, attributes := #[] }, { accessFlags := 25, nameIndex := 284, descriptorIndex := 25, attributes := #[] }, { accessFlags := 25, nameIndex := 286, descriptorIndex := 25, attributes := #[] }, { accessFlags := 25, nameIndex := 288, descriptorIndex := 25, attributes := #[] }, { accessFlags := 25, nameIndex := 290, descriptorIndex := 25, attributes := #[] }, { accessFlags := 25, nameIndex := 292, descriptorIndex := 25, attributes := #[] }, { accessFlags := 26, nameIndex := 108, descriptorIndex := 109, attributes := #[] }, { accessFlags := 25, nameIndex := 294, descriptorIndex := 25, attributes := #[] }])
  fields := #[{ name := "U", type := (.object "jdk/internal/misc/Unsafe"), accessFlags := 24, slot := 0, constantValue := 0 }, { name := "BIG_ENDIAN", type := .boolean, accessFlags := 26, slot := 1, constantValue := 0 }, { name := "LOG2_ARRAY_BOOLEAN_INDEX_SCALE", type := .int, accessFlags := 25, slot := 2, constantValue := 0 }, { name := "LOG2_ARRAY_BYTE_INDEX_SCALE", type := .int, accessFlags := 25, slot := 3, constantValue := 0 }, { name := "LOG2_ARRAY_CHAR_INDEX_SCALE", type := .int, accessFlags := 25, slot := 4, constantValue := 0 }, { name := "LOG2_ARRAY_SHORT_INDEX_SCALE", type := .int, accessFlags := 25, slot := 5, constantValue := 0 }, { name := "LOG2_ARRAY_INT_INDEX_SCALE", type := .int, accessFlags := 25, slot := 6, constantValue := 0 }, { name := "LOG2_ARRAY_LONG_INDEX_SCALE", type := .int, accessFlags := 25, slot := 7, constantValue := 0 }, { name := "LOG2_ARRAY_FLOAT_INDEX_SCALE", type := .int, accessFlags := 25, slot := 8, constantValue := 0 }, { name := "LOG2_ARRAY_DOUBLE_INDEX_SCALE", type := .int, accessFlags := 25, slot := 9, constantValue := 0 }, { name := "LOG2_BYTE_BIT_SIZE", type := .int, accessFlags := 26, slot := 10, constantValue := 0 }, { name := "T_BOOLEAN", type := .int, accessFlags := 25, slot := 11, constantValue := 0 }, { name := "T_CHAR", type := .int, accessFlags := 25, slot := 12, constantValue := 0 }, { name := "T_FLOAT", type := .int, accessFlags := 25, slot := 13, constantValue := 0 }, { name := "T_DOUBLE", type := .int, accessFlags := 25, slot := 14, constantValue := 0 }, { name := "T_BYTE", type := .int, accessFlags := 25, slot := 15, constantValue := 0 }, { name := "T_SHORT", type := .int, accessFlags := 25, slot := 16, constantValue := 0 }, { name := "T_INT", type := .int, accessFlags := 25, slot := 17, constantValue := 0 }, { name := "T_LONG", type := .int, accessFlags := 25, slot := 18, constantValue := 0 }, { name := "JLA", type := (.object "jdk/internal/access/JavaLangAccess"), accessFlags := 26, slot := 19, constantValue := 0 }, { name := "SOFT_MAX_ARRAY_LENGTH", type := .int, accessFlags := 25, slot := 20, constantValue := 0 }]
  methods := #[k12m0]
  instanceTypes := #[]
  staticTypes := #[(.object "jdk/internal/misc/Unsafe"), .boolean, .int, .int, .int, .int, .int, .int, .int, .int, .int, .int, .int, .int, .int, .int, .int, .int, .int, (.object "jdk/internal/access/JavaLangAccess"), .int]
  resolved := Array.replicate 378 none
  statics := none }

def pool13 : Array CpInfo := pool [(1, u "java/lang/Cloneable"), (0, .class_ 1), (0, u "java/lang/Object"), (0, .class_ 3)] 3

/-- java/lang/Cloneable -/
def k13 : Class := { plain "java/lang/Cloneable" (some 0) with
  accessFlags := 1537
  interfaces := #[]
  cf := some (fileOf pool13 2 #[] #[] 1537 4 #[] #[])
  fields := #[]
  methods := #[]
  instanceTypes := #[]
  staticTypes := #[]
  resolved := Array.replicate 8 none
  statics := none }

/-- the primitive byte -/
def k14 : Class := { plain "byte" none with kind := .primitive 'B', accessFlags := 0x411 }
/-- [B -/
def k15 : Class := { plain "[B" (some 0) with kind := .array 14 .byte, interfaces := #[13, 2], accessFlags := 1041 }

/-- the primitive char -/
def k16 : Class := { plain "char" none with kind := .primitive 'C', accessFlags := 0x411 }
/-- [C -/
def k17 : Class := { plain "[C" (some 0) with kind := .array 16 .char, interfaces := #[13, 2], accessFlags := 1041 }

/-- the primitive int -/
def k18 : Class := { plain "int" none with kind := .primitive 'I', accessFlags := 0x411 }
/-- [I -/
def k19 : Class := { plain "[I" (some 0) with kind := .array 18 .int, interfaces := #[13, 2], accessFlags := 1041 }

def heap : Heap := #[{ cls := 7, slots := #[.long 0, .int 1, .null, .int 0, .null, .int 0, .int 0], vm := .statics 7 },
  { cls := 11, slots := #[.null, .null, .null], vm := .statics 11 }]
def classes : Array Class := #[k0, k1, k2, k3, k4, k5, k6, k7, k8, k9, k10, k11, k12, k13, k14, k15, k16, k17, k18, k19]
def interned : List (Array UInt16 × Addr) := []
def slotsUsed : Nat := 10
def theMethod : MethodId := ⟨1, 2⟩
def args0 : Array Value := #[.int 5, .int 6, .int 7, .int 8, .int 9]
def aboutOver (below : List Frame) : State where
  vm := { classes := classes, interned := interned.toArray }
  heap := heap
  slotsUsed := slotsUsed
  threads := #[{ frames := .invoking theMethod args0 :: below }]
def below0 : List Frame := [.native { method := ⟨0, 0⟩, args := #[] }]
def about1 : State := aboutOver below0
def p0 : Program := .bare "" "" ""
def e0 : Env := launch0.env 0 0 0
theorem w_frames : about1.frames = Frame.invoking theMethod args0 :: below0 := rfl
set_option maxRecDepth 65536 in
theorem w_args : argsFit about1.vm theMethod args0 = true := by decide +kernel
set_option maxRecDepth 65536 in
theorem w_heap : heapFits about1 = true := by decide +kernel
set_option maxRecDepth 65536 in
theorem w_runnable : about1.curStatus? = some .runnable := by decide +kernel
set_option maxRecDepth 65536 in
theorem w_alone : about1.alone = true := by decide +kernel
set_option maxRecDepth 65536 in
theorem w_named : about1.methodNamed? x = some theMethod := by decide +kernel
set_option maxRecDepth 65536 in
theorem w_hears : about1.hears theMethod below0 = true := by decide +kernel
set_option maxRecDepth 65536 in
theorem w_ripe : about1.ripe theMethod args0 below0 = true := by decide +kernel
theorem w_running : about1.status = .running := rfl
set_option maxRecDepth 65536 in
theorem w_room : about1.hasRoom e0.platform room_1 = true :=
  launch0.hasRoom_least _ room_1 (by decide +kernel) (by decide +kernel) (by decide +kernel) (by decide +kernel) (by decide +kernel) (by decide +kernel)
theorem allAtoms_all (ts : List Jvm.Cond) (a : Array Jvm.Value) (st : Jvm.State) : (allAtoms ts).before a st = ts.all (fun c => c.before a st) := by
  induction ts with
  | nil => rfl
  | cons c t ih =>
    show (Jvm.Cond.and c (allAtoms t)).before a st = _
    rw [Jvm.Cond.before_and, ih, List.all_cons]
def words1 : List Jvm.Cond := Jvm.Cond.code x code maxLocals ret :: tables_1
/-- a 'code' word, met by the world's own term for the bytes: nothing is compared byte by byte -/
theorem code_word {y : MethodName} {bytes : ByteArray} {mx : Nat} {rt : Option FieldType} {a : Array Value} {s : State} {m : MethodId} {meth : Method} {c : Code} (h1 : s.methodNamed? y = some m) (h2 : s.vm.method? m = some meth) (h3 : meth.code = some c) (h4 : c.code = bytes)
    (h5 : (c.maxLocals == mx && c.exceptionTable.isEmpty && decide (c.maxStack ≤ mostOperands) && decide (meth.sig.returnType = rt) && !meth.locks && decide (parseMethodDescriptor y.desc = some meth.sig)) = true) : (Jvm.Cond.code y bytes mx rt).before a s = true := by
  simp only [Bool.and_eq_true, beq_iff_eq, Bool.not_eq_true', decide_eq_true_eq] at h5
  obtain ⟨⟨⟨⟨⟨g1, g2⟩, g3⟩, g4⟩, g5⟩, g6⟩ := h5
  simp [Cond.before, Cond.holds, Cond.value, h1, h2, h3, h4, g1, g2, g3, g4, g5, g6]
def isCode : Jvm.Cond → Bool
  | .code _ _ _ _ => true
  | _ => false
theorem all_split {L : List Jvm.Cond} {P : Jvm.Cond → Bool} (h1 : L.all (fun c => isCode c || P c) = true) (h2 : ∀ c ∈ L.filter isCode, P c = true) : L.all P = true := by
  refine List.all_eq_true.mpr fun c hc => ?_
  have h := List.all_eq_true.mp h1 c hc
  rcases Bool.eq_false_or_eq_true (isCode c) with hi | hi
  · exact h2 c (List.mem_filter.mpr ⟨hc, hi⟩)
  · simpa [hi] using h
set_option maxRecDepth 65536 in
theorem w_c0 : (Jvm.Cond.code x code maxLocals ret).before args0 about1 = true := code_word (m := ⟨1, 2⟩) (meth := k1m2) (c := k1c2) (by decide +kernel) rfl rfl rfl (by decide +kernel)
set_option maxRecDepth 65536 in
theorem w_c1 : (Jvm.Cond.code ({ cls := "com/example/leagan/leagan/NamesCheckPinLaw", name := "pick", desc := "(I)C" } : Jvm.MethodName) method_2_code (2 : Nat) (Option.some Jvm.ClassFile.FieldType.char)).before args0 about1 = true := code_word (m := ⟨1, 1⟩) (meth := k1m1) (c := k1c1) (by decide +kernel) rfl rfl rfl (by decide +kernel)
set_option maxRecDepth 65536 in
theorem w_c2 : (Jvm.Cond.code ({ cls := "java/lang/String", name := "<init>", desc := "([C)V" } : Jvm.MethodName) jdk_42_method_3_code (2 : Nat) (Option.none : Option Jvm.ClassFile.FieldType)).before args0 about1 = true := code_word (m := ⟨7, 1⟩) (meth := k7m1) (c := k7c1) (by decide +kernel) rfl rfl rfl (by decide +kernel)
set_option maxRecDepth 65536 in
theorem w_c3 : (Jvm.Cond.code ({ cls := "java/lang/String", name := "<init>", desc := "([CIILjava/lang/Void;)V" } : Jvm.MethodName) jdk_42_method_149_code (6 : Nat) (Option.none : Option Jvm.ClassFile.FieldType)).before args0 about1 = true := code_word (m := ⟨7, 7⟩) (meth := k7m7) (c := k7c7) (by decide +kernel) rfl rfl rfl (by decide +kernel)
set_option maxRecDepth 65536 in
theorem w_c4 : (Jvm.Cond.code ({ cls := "java/lang/Object", name := "<init>", desc := "()V" } : Jvm.MethodName) object_method_1_code (1 : Nat) (Option.none : Option Jvm.ClassFile.FieldType)).before args0 about1 = true := code_word (m := ⟨0, 0⟩) (meth := k0m0) (c := k0c0) (by decide +kernel) rfl rfl rfl (by decide +kernel)
set_option maxRecDepth 65536 in
theorem w_c5 : (Jvm.Cond.code ({ cls := "java/lang/StringUTF16", name := "compress", desc := "([CII)[B" } : Jvm.MethodName) jdk_52_method_16_code (6 : Nat) (Option.some (Jvm.ClassFile.FieldType.array Jvm.ClassFile.FieldType.byte))).before args0 about1 = true := code_word (m := ⟨8, 2⟩) (meth := k8m2) (c := k8c2) (by decide +kernel) rfl rfl rfl (by decide +kernel)
set_option maxRecDepth 65536 in
theorem w_c6 : (Jvm.Cond.code ({ cls := "java/lang/StringUTF16", name := "compress", desc := "([CI[BII)I" } : Jvm.MethodName) jdk_52_method_21_code (7 : Nat) (Option.some Jvm.ClassFile.FieldType.int)).before args0 about1 = true := code_word (m := ⟨8, 3⟩) (meth := k8m3) (c := k8c3) (by decide +kernel) rfl rfl rfl (by decide +kernel)
set_option maxRecDepth 65536 in
theorem w_c7 : (Jvm.Cond.code ({ cls := "java/lang/StringUTF16", name := "coderFromArrayLen", desc := "([BI)B" } : Jvm.MethodName) jdk_52_method_15_code (2 : Nat) (Option.some Jvm.ClassFile.FieldType.byte)).before args0 about1 = true := code_word (m := ⟨8, 1⟩) (meth := k8m1) (c := k8c1) (by decide +kernel) rfl rfl rfl (by decide +kernel)
set_option maxRecDepth 65536 in
theorem w_c8 : (Jvm.Cond.code ({ cls := "java/lang/String", name := "valueOf", desc := "(C)Ljava/lang/String;" } : Jvm.MethodName) jdk_42_method_139_code (1 : Nat) (Option.some (Jvm.ClassFile.FieldType.object "java/lang/String"))).before args0 about1 = true := code_word (m := ⟨7, 6⟩) (meth := k7m6) (c := k7c6) (by decide +kernel) rfl rfl rfl (by decide +kernel)
set_option maxRecDepth 65536 in
theorem w_c9 : (Jvm.Cond.code ({ cls := "java/lang/StringLatin1", name := "canEncode", desc := "(C)Z" } : Jvm.MethodName) jdk_43_method_3_code (1 : Nat) (Option.some Jvm.ClassFile.FieldType.boolean)).before args0 about1 = true := code_word (m := ⟨9, 2⟩) (meth := k9m2) (c := k9c2) (by decide +kernel) rfl rfl rfl (by decide +kernel)
set_option maxRecDepth 65536 in
theorem w_c10 : (Jvm.Cond.code ({ cls := "java/lang/StringLatin1", name := "toBytes", desc := "(C)[B" } : Jvm.MethodName) jdk_43_method_46_code (1 : Nat) (Option.some (Jvm.ClassFile.FieldType.array Jvm.ClassFile.FieldType.byte))).before args0 about1 = true := code_word (m := ⟨9, 3⟩) (meth := k9m3) (c := k9c3) (by decide +kernel) rfl rfl rfl (by decide +kernel)
set_option maxRecDepth 65536 in
theorem w_c11 : (Jvm.Cond.code ({ cls := "java/lang/String", name := "<init>", desc := "([BB)V" } : Jvm.MethodName) jdk_42_method_151_code (3 : Nat) (Option.none : Option Jvm.ClassFile.FieldType)).before args0 about1 = true := code_word (m := ⟨7, 8⟩) (meth := k7m8) (c := k7c8) (by decide +kernel) rfl rfl rfl (by decide +kernel)
set_option maxRecDepth 65536 in
theorem w_c12 : (Jvm.Cond.code ({ cls := "com/example/leagan/leagan/Names", name := "check", desc := "(Ljava/lang/String;Ljava/lang/String;)Ljava/lang/String;" } : Jvm.MethodName) prog_6_method_2_code (4 : Nat) (Option.some (Jvm.ClassFile.FieldType.object "java/lang/String"))).before args0 about1 = true := code_word (m := ⟨10, 1⟩) (meth := k10m1) (c := k10c1) (by decide +kernel) rfl rfl rfl (by decide +kernel)
set_option maxRecDepth 65536 in
theorem w_c13 : (Jvm.Cond.code ({ cls := "java/lang/String", name := "isEmpty", desc := "()Z" } : Jvm.MethodName) jdk_42_method_55_code (1 : Nat) (Option.some Jvm.ClassFile.FieldType.boolean)).before args0 about1 = true := code_word (m := ⟨7, 3⟩) (meth := k7m3) (c := k7c3) (by decide +kernel) rfl rfl rfl (by decide +kernel)
set_option maxRecDepth 65536 in
theorem w_c14 : (Jvm.Cond.code ({ cls := "java/lang/String", name := "length", desc := "()I" } : Jvm.MethodName) jdk_42_method_54_code (1 : Nat) (Option.some Jvm.ClassFile.FieldType.int)).before args0 about1 = true := code_word (m := ⟨7, 2⟩) (meth := k7m2) (c := k7c2) (by decide +kernel) rfl rfl rfl (by decide +kernel)
set_option maxRecDepth 65536 in
theorem w_c15 : (Jvm.Cond.code ({ cls := "java/lang/String", name := "coder", desc := "()B" } : Jvm.MethodName) jdk_42_method_152_code (1 : Nat) (Option.some Jvm.ClassFile.FieldType.byte)).before args0 about1 = true := code_word (m := ⟨7, 9⟩) (meth := k7m9) (c := k7c9) (by decide +kernel) rfl rfl rfl (by decide +kernel)
set_option maxRecDepth 65536 in
theorem w_c16 : (Jvm.Cond.code ({ cls := "java/lang/String", name := "charAt", desc := "(I)C" } : Jvm.MethodName) jdk_42_method_56_code (2 : Nat) (Option.some Jvm.ClassFile.FieldType.char)).before args0 about1 = true := code_word (m := ⟨7, 4⟩) (meth := k7m4) (c := k7c4) (by decide +kernel) rfl rfl rfl (by decide +kernel)
set_option maxRecDepth 65536 in
theorem w_c17 : (Jvm.Cond.code ({ cls := "java/lang/String", name := "isLatin1", desc := "()Z" } : Jvm.MethodName) jdk_42_method_154_code (1 : Nat) (Option.some Jvm.ClassFile.FieldType.boolean)).before args0 about1 = true := code_word (m := ⟨7, 10⟩) (meth := k7m10) (c := k7c10) (by decide +kernel) rfl rfl rfl (by decide +kernel)
set_option maxRecDepth 65536 in
theorem w_c18 : (Jvm.Cond.code ({ cls := "java/lang/StringLatin1", name := "charAt", desc := "([BI)C" } : Jvm.MethodName) jdk_43_method_2_code (2 : Nat) (Option.some Jvm.ClassFile.FieldType.char)).before args0 about1 = true := code_word (m := ⟨9, 1⟩) (meth := k9m1) (c := k9c1) (by decide +kernel) rfl rfl rfl (by decide +kernel)
set_option maxRecDepth 65536 in
theorem w_c19 : (Jvm.Cond.code ({ cls := "java/lang/String", name := "checkIndex", desc := "(II)V" } : Jvm.MethodName) jdk_42_method_155_code (2 : Nat) (Option.none : Option Jvm.ClassFile.FieldType)).before args0 about1 = true := code_word (m := ⟨7, 11⟩) (meth := k7m11) (c := k7c11) (by decide +kernel) rfl rfl rfl (by decide +kernel)
set_option maxRecDepth 65536 in
theorem w_c20 : (Jvm.Cond.code ({ cls := "jdk/internal/util/Preconditions", name := "checkIndex", desc := "(IILjava/util/function/BiFunction;)I" } : Jvm.MethodName) jdk_41_method_11_code (3 : Nat) (Option.some Jvm.ClassFile.FieldType.int)).before args0 about1 = true := code_word (m := ⟨11, 1⟩) (meth := k11m1) (c := k11c1) (by decide +kernel) rfl rfl rfl (by decide +kernel)
set_option maxRecDepth 65536 in
theorem w_c21 : (Jvm.Cond.code ({ cls := "com/example/leagan/leagan/Names", name := "allowed", desc := "(C)Z" } : Jvm.MethodName) prog_6_method_3_code (1 : Nat) (Option.some Jvm.ClassFile.FieldType.boolean)).before args0 about1 = true := code_word (m := ⟨10, 2⟩) (meth := k10m2) (c := k10c2) (by decide +kernel) rfl rfl rfl (by decide +kernel)
set_option maxRecDepth 65536 in
theorem w_c22 : (Jvm.Cond.code ({ cls := "java/lang/String", name := "equals", desc := "(Ljava/lang/Object;)Z" } : Jvm.MethodName) jdk_42_method_66_code (3 : Nat) (Option.some Jvm.ClassFile.FieldType.boolean)).before args0 about1 = true := code_word (m := ⟨7, 5⟩) (meth := k7m5) (c := k7c5) (by decide +kernel) rfl rfl rfl (by decide +kernel)
def codes1 : List Jvm.Cond := [Jvm.Cond.code x code maxLocals ret, Jvm.Cond.code ({ cls := "com/example/leagan/leagan/NamesCheckPinLaw", name := "pick", desc := "(I)C" } : Jvm.MethodName) method_2_code (2 : Nat) (Option.some Jvm.ClassFile.FieldType.char), Jvm.Cond.code ({ cls := "java/lang/String", name := "<init>", desc := "([C)V" } : Jvm.MethodName) jdk_42_method_3_code (2 : Nat) (Option.none : Option Jvm.ClassFile.FieldType), Jvm.Cond.code ({ cls := "java/lang/String", name := "<init>", desc := "([CIILjava/lang/Void;)V" } : Jvm.MethodName) jdk_42_method_149_code (6 : Nat) (Option.none : Option Jvm.ClassFile.FieldType), Jvm.Cond.code ({ cls := "java/lang/Object", name := "<init>", desc := "()V" } : Jvm.MethodName) object_method_1_code (1 : Nat) (Option.none : Option Jvm.ClassFile.FieldType), Jvm.Cond.code ({ cls := "java/lang/StringUTF16", name := "compress", desc := "([CII)[B" } : Jvm.MethodName) jdk_52_method_16_code (6 : Nat) (Option.some (Jvm.ClassFile.FieldType.array Jvm.ClassFile.FieldType.byte)), Jvm.Cond.code ({ cls := "java/lang/StringUTF16", name := "compress", desc := "([CI[BII)I" } : Jvm.MethodName) jdk_52_method_21_code (7 : Nat) (Option.some Jvm.ClassFile.FieldType.int), Jvm.Cond.code ({ cls := "java/lang/StringUTF16", name := "coderFromArrayLen", desc := "([BI)B" } : Jvm.MethodName) jdk_52_method_15_code (2 : Nat) (Option.some Jvm.ClassFile.FieldType.byte), Jvm.Cond.code ({ cls := "java/lang/String", name := "valueOf", desc := "(C)Ljava/lang/String;" } : Jvm.MethodName) jdk_42_method_139_code (1 : Nat) (Option.some (Jvm.ClassFile.FieldType.object "java/lang/String")), Jvm.Cond.code ({ cls := "java/lang/StringLatin1", name := "canEncode", desc := "(C)Z" } : Jvm.MethodName) jdk_43_method_3_code (1 : Nat) (Option.some Jvm.ClassFile.FieldType.boolean), Jvm.Cond.code ({ cls := "java/lang/StringLatin1", name := "toBytes", desc := "(C)[B" } : Jvm.MethodName) jdk_43_method_46_code (1 : Nat) (Option.some (Jvm.ClassFile.FieldType.array Jvm.ClassFile.FieldType.byte)), Jvm.Cond.code ({ cls := "java/lang/String", name := "<init>", desc := "([BB)V" } : Jvm.MethodName) jdk_42_method_151_code (3 : Nat) (Option.none : Option Jvm.ClassFile.FieldType), Jvm.Cond.code ({ cls := "com/example/leagan/leagan/Names", name := "check", desc := "(Ljava/lang/String;Ljava/lang/String;)Ljava/lang/String;" } : Jvm.MethodName) prog_6_method_2_code (4 : Nat) (Option.some (Jvm.ClassFile.FieldType.object "java/lang/String")), Jvm.Cond.code ({ cls := "java/lang/String", name := "isEmpty", desc := "()Z" } : Jvm.MethodName) jdk_42_method_55_code (1 : Nat) (Option.some Jvm.ClassFile.FieldType.boolean), Jvm.Cond.code ({ cls := "java/lang/String", name := "length", desc := "()I" } : Jvm.MethodName) jdk_42_method_54_code (1 : Nat) (Option.some Jvm.ClassFile.FieldType.int), Jvm.Cond.code ({ cls := "java/lang/String", name := "coder", desc := "()B" } : Jvm.MethodName) jdk_42_method_152_code (1 : Nat) (Option.some Jvm.ClassFile.FieldType.byte), Jvm.Cond.code ({ cls := "java/lang/String", name := "charAt", desc := "(I)C" } : Jvm.MethodName) jdk_42_method_56_code (2 : Nat) (Option.some Jvm.ClassFile.FieldType.char), Jvm.Cond.code ({ cls := "java/lang/String", name := "isLatin1", desc := "()Z" } : Jvm.MethodName) jdk_42_method_154_code (1 : Nat) (Option.some Jvm.ClassFile.FieldType.boolean), Jvm.Cond.code ({ cls := "java/lang/StringLatin1", name := "charAt", desc := "([BI)C" } : Jvm.MethodName) jdk_43_method_2_code (2 : Nat) (Option.some Jvm.ClassFile.FieldType.char), Jvm.Cond.code ({ cls := "java/lang/String", name := "checkIndex", desc := "(II)V" } : Jvm.MethodName) jdk_42_method_155_code (2 : Nat) (Option.none : Option Jvm.ClassFile.FieldType), Jvm.Cond.code ({ cls := "jdk/internal/util/Preconditions", name := "checkIndex", desc := "(IILjava/util/function/BiFunction;)I" } : Jvm.MethodName) jdk_41_method_11_code (3 : Nat) (Option.some Jvm.ClassFile.FieldType.int), Jvm.Cond.code ({ cls := "com/example/leagan/leagan/Names", name := "allowed", desc := "(C)Z" } : Jvm.MethodName) prog_6_method_3_code (1 : Nat) (Option.some Jvm.ClassFile.FieldType.boolean), Jvm.Cond.code ({ cls := "java/lang/String", name := "equals", desc := "(Ljava/lang/Object;)Z" } : Jvm.MethodName) jdk_42_method_66_code (3 : Nat) (Option.some Jvm.ClassFile.FieldType.boolean)]
set_option maxRecDepth 65536 in
theorem codes_eq : words1.filter isCode = codes1 := rfl
theorem w_codes : ∀ c ∈ words1.filter isCode, c.before args0 about1 = true := by
  rw [codes_eq]
  intro c hc
  simp only [codes1, List.mem_cons, List.not_mem_nil, or_false] at hc
  rcases hc with rfl | rfl | rfl | rfl | rfl | rfl | rfl | rfl | rfl | rfl | rfl | rfl | rfl | rfl | rfl | rfl | rfl | rfl | rfl | rfl | rfl | rfl | rfl
  · exact w_c0
  · exact w_c1
  · exact w_c2
  · exact w_c3
  · exact w_c4
  · exact w_c5
  · exact w_c6
  · exact w_c7
  · exact w_c8
  · exact w_c9
  · exact w_c10
  · exact w_c11
  · exact w_c12
  · exact w_c13
  · exact w_c14
  · exact w_c15
  · exact w_c16
  · exact w_c17
  · exact w_c18
  · exact w_c19
  · exact w_c20
  · exact w_c21
  · exact w_c22
set_option maxRecDepth 65536 in
theorem w_t1 : (words1.take 24).all (fun c => isCode c || c.before args0 about1) = true := by decide +kernel
set_option maxRecDepth 65536 in
theorem w_t2 : ((words1.drop 24).take 24).all (fun c => isCode c || c.before args0 about1) = true := by decide +kernel
set_option maxRecDepth 65536 in
theorem w_t3 : (((words1.drop 24).drop 24).take 24).all (fun c => isCode c || c.before args0 about1) = true := by decide +kernel
set_option maxRecDepth 65536 in
theorem w_t4 : ((((words1.drop 24).drop 24).drop 24).take 24).all (fun c => isCode c || c.before args0 about1) = true := by decide +kernel
set_option maxRecDepth 65536 in
theorem w_t5 : ((((words1.drop 24).drop 24).drop 24).drop 24).all (fun c => isCode c || c.before args0 about1) = true := by decide +kernel
theorem w_tables : (allAtoms (Jvm.Cond.code x code maxLocals ret :: tables_1)).before args0 about1 = true := by
  rw [allAtoms_all]
  show words1.all (fun c => c.before args0 about1) = true
  refine all_split ?_ w_codes
  rw [← List.take_append_drop 24 words1, List.all_append, w_t1, ← List.take_append_drop 24 (words1.drop 24), List.all_append, w_t2, ← List.take_append_drop 24 ((words1.drop 24).drop 24), List.all_append, w_t3, ← List.take_append_drop 24 (((words1.drop 24).drop 24).drop 24), List.all_append, w_t4, w_t5]
  rfl
set_option maxRecDepth 65536 in
theorem w_rest : rest_1_c.before args0 about1 = true := by decide +kernel
set_option maxRecDepth 65536 in
theorem w_case : (Jvm.Cond.and given_1 narrow_1).before args0 about1 = true := by decide +kernel
theorem w_applies : (headSpec (Jvm.Cond.code x code maxLocals ret :: tables_1) room_1).applies x e0.platform about1 = true :=
  (Spec.applies_iff w_frames).mpr ⟨w_running, w_runnable, w_alone, w_named, w_hears, w_ripe, w_room, w_tables⟩
theorem atStart : AtStart classFile x code maxLocals ret World_1 tables_1 room_1 Calls_1 rest_1 Pre_1 launch0 p0 e0 about1 theMethod args0 below0 :=
  ⟨lists_1, trivial, launch0.admits_env _ _ _, launch0.least_env, fairChoices_fair.cas, fairChoices_fair.clock, w_frames, w_args, w_heap, w_applies, trivial, w_rest, w_case⟩
end start1
theorem witness_1 : WitnessClaimed_1 := ⟨start1.p0, start1.e0, start1.about1, start1.theMethod, start1.args0, start1.below0, start1.atStart⟩
end Jvm.Pilot.@@N@@
