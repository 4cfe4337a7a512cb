import JvmDerived
import JvmDerived.Pilot.@@N@@Statement
import JvmDerived.Pilot.@@N@@Code
set_option linter.unusedVariables false
set_option linter.unusedSimpArgs false
namespace Jvm.RoadKit
open Sem ClassFile Op Lib Jvm.Stand Jvm.Free Jvm.LawKit
section New
variable {p : Program} {l : Launch} {e : Env} {R : Room} {s : State} {m : MethodId} {args : Array Value} {below : List Frame} {meth : Method} {c : Code} {T : State} {locs : List Loc} {cells slots : Nat}
theorem retI (X : Stand p l e R s m args below meth c T locs cells slots) (hx : p.tables.exec = Jvm.exec) {pc : Nat} {Ls : Array Slot} {z : Int32} {rest : List Value} (hret : meth.sig.returnType = some .int) (hd : decode c.code pc = .ok (.ireturn, 1)) {fs : List Frame}
    (hl : ∀ (f : JFrame) (acts : List Action), f.method = m → f.locked = none → f.entered = [] → (doReturn e (T.setTop f) acts (some (.int z))).1 = T.setFrames fs) : Steps p.tables e below (T.setTop (mkF m pc Ls (.int z :: rest))) (T.setFrames fs) := by
  have hm' : T.vm.method? m = some meth := X.method'
  have hn : narrow .int (.int z) = .int z := rfl
  show Steps p.tables e below (T.setTop { method := m, pc := pc, locals := Ls, stack := _ :: rest, locked := none }) _
  jvm_step X.here [X.here.top, hx, hd, hm', hret, hn]
  first | (intro acts; rw [hl _ acts rfl rfl rfl]) | rw [hl _ _ rfl rfl rfl]
  exact Steps.refl _
end New
end Jvm.RoadKit
/- laws to paste: Road.backV, Road.eqW, Road.codOf (cut by pick.py; bodies as the Statement names them) -/
namespace Jvm.Pilot.@@N@@
namespace StrChars
open Jvm Sem ClassFile Op Lib Jvm.Stand Jvm.Free.XT Jvm.Free.ALB Jvm.Free.JM Jvm.Free
open Jvm.Lib.Cold (StaticIs)
/-- a char array whose places are chars -/
def Ch (a : Addr) (A : Cell) (U : State) : Prop := Arr .char a A U ∧ Typed .char A
theorem Ch.mv {a : Addr} {A : Cell} {U U' : State} (h : Ch a A U) (hal : U.vm.Alike U'.vm) (hh : U'.heap = U.heap) : Ch a A U' := ⟨h.1.mv hal hh, h.2⟩
theorem Ch.keep {a : Addr} {A : Cell} {U U' : State} (h : Ch a A U) (hal : U.vm.Alike U'.vm) (hk : U'.heap[a]? = some A) : Ch a A U' := ⟨h.1.keep hal hk, h.2⟩
/-- what place i of a char[]'s cell holds -/
def cv (A : Cell) (i : Nat) : Int32 := match A.slots[i]? with | some (.int x) => x | _ => 0
theorem Ch.get {a : Addr} {A : Cell} {U : State} (h : Ch a A U) {i : Nat} (hi : i < A.slots.size) : A.slots[i]? = some (.int (cv A i)) := by
  have e := Array.getElem?_eq_getElem hi
  have f := h.2 i _ e
  unfold cv; rw [e]
  generalize A.slots[i] = v at f
  cases v <;> simp [fits] at f ⊢
/-- the byte that i2b leaves of a char -/
def lo8 (x : Int32) : Int32 := x.toInt8.toInt32
theorem fits_lo8 (y : Int32) : fits .byte (.int (lo8 y)) = true := by
  have h1 := y.toInt8.le_toInt
  have h2 := y.toInt8.toInt_lt
  simp only [lo8, fits, Bool.and_eq_true, decide_eq_true_eq, Int32.le_iff_toInt_le, Int8.toInt_toInt32, show (-128 : Int32).toInt = -128 from by decide, show (127 : Int32).toInt = 127 from by decide]
  omega
/-- A' is A but that each place j of lo .. hi - 1 holds f j -/
def Laid (A A' : Cell) (lo hi : Nat) (f : Nat → Value) : Prop := A'.cls = A.cls ∧ A'.vm = A.vm ∧ A'.slots.size = A.slots.size ∧ ∀ i, A'.slots[i]? = if lo ≤ i ∧ i < hi then some (f i) else A.slots[i]?
theorem Laid.zero (A : Cell) (lo : Nat) (f : Nat → Value) : Laid A A lo (lo + 0) f := ⟨rfl, rfl, rfl, fun i => by rw [if_neg (by omega)]⟩
theorem Laid.step {A Ak : Cell} {lo k : Nat} {f : Nat → Value} {v : Value} (h : Laid A Ak lo k f) (hlo : lo ≤ k) (hk : k < Ak.slots.size) (hv : v = f k) : Laid A (Ak.setSlot k v) lo (k + 1) f := by
  refine ⟨h.1, h.2.1, by simpa [Cell.setSlot] using h.2.2.1, fun i => ?_⟩
  by_cases e : k = i
  · subst e; rw [Cell.slots_setSlot_self v hk, if_pos (by omega), hv]
  · rw [Cell.slots_setSlot_ne v e, h.2.2.2 i]
    by_cases q : lo ≤ i ∧ i < k
    · rw [if_pos q, if_pos (by omega)]
    · rw [if_neg q, if_neg (by omega)]
def U16 : String := "java/lang/StringUTF16"
namespace Cmp5
def yN : MethodName := ⟨"java/lang/StringUTF16", "compress", "([CI[BII)I"⟩
abbrev yB : ByteArray := jdk_52_method_21_code
theorem d0 : decode yB 0 = .ok (.iconst 0, 1) := by decide +kernel
theorem d1 : decode yB 1 = .ok (.istore 5, 2) := by decide +kernel
theorem d3 : decode yB 3 = .ok (.iload 5, 2) := by decide +kernel
theorem d5 : decode yB 5 = .ok (.iload 4, 2) := by decide +kernel
theorem d7 : decode yB 7 = .ok (.if_icmp (.ge) 37, 3) := by decide +kernel
theorem d10 : decode yB 10 = .ok (.aload_n 0, 1) := by decide +kernel
theorem d11 : decode yB 11 = .ok (.iload_n 1, 1) := by decide +kernel
theorem d12 : decode yB 12 = .ok (.caload, 1) := by decide +kernel
theorem d13 : decode yB 13 = .ok (.istore 6, 2) := by decide +kernel
theorem d15 : decode yB 15 = .ok (.iload 6, 2) := by decide +kernel
theorem d17 : decode yB 17 = .ok (.sipush 255, 3) := by decide +kernel
theorem d20 : decode yB 20 = .ok (.if_icmp (.le) 6, 3) := by decide +kernel
theorem d26 : decode yB 26 = .ok (.aload_n 2, 1) := by decide +kernel
theorem d27 : decode yB 27 = .ok (.iload_n 3, 1) := by decide +kernel
theorem d28 : decode yB 28 = .ok (.iload 6, 2) := by decide +kernel
theorem d30 : decode yB 30 = .ok (.i2b, 1) := by decide +kernel
theorem d31 : decode yB 31 = .ok (.bastore, 1) := by decide +kernel
theorem d32 : decode yB 32 = .ok (.iinc 1 1, 3) := by decide +kernel
theorem d35 : decode yB 35 = .ok (.iinc 3 1, 3) := by decide +kernel
theorem d38 : decode yB 38 = .ok (.iinc 5 1, 3) := by decide +kernel
theorem d41 : decode yB 41 = .ok (.goto (-38), 3) := by decide +kernel
theorem d44 : decode yB 44 = .ok (.iload 4, 2) := by decide +kernel
theorem d46 : decode yB 46 = .ok (.ireturn, 1) := by decide +kernel
def site : List Cond := []
def tab : Cond := tabOf yN yB 7 (some .int) site
def P (b : Addr) (A : Cell) (d : Addr) (B : Cell) (o q len : Nat) (args : Array Value) (s : State) : Prop := args = #[.ref b, .int (Int32.ofNat o), .ref d, .int (Int32.ofNat q), .int (Int32.ofNat len)] ∧ Ch b A s ∧ Arr .byte d B s ∧ b ≠ d ∧ o + len ≤ A.slots.size ∧ q + len ≤ B.slots.size ∧ ∀ i, i < len → ¬ 255 < cv A (o + i)
def E (b : Addr) (A : Cell) (d : Addr) (B : Cell) (o q len : Nat) (r : Option Value) (s u : State) : Prop := r = some (.int (Int32.ofNat len)) ∧ ∃ B', Put d B' s u ∧ Laid B B' q (q + len) (fun j => Value.int (lo8 (cv A (o + (j - q)))))
/-- no char of the range above 255: len; the places written hold each char's low byte -/
theorem law (l : Launch) (b : Addr) (A : Cell) (d : Addr) (B : Cell) (o q len : Nat) : Law l yN 5 5 0 0 yB 7 (some .int) site (P b A d B o q len) (E b A d B o q len) (copyLocs d q len) 0 0 := by
  refine Law.of_walk (plainFor_of_name (by decide +kernel)) (by decide +kernel) (by decide +kernel) (by decide) (fun _ _ h => by rw [h.1]; rfl) (fun _ U U' hal hh h => ⟨h.1, h.2.1.mv hal hh, h.2.2.1.mv hal hh, h.2.2.2⟩) (fun r U U' V V' h1 hal h2 h => ⟨h.1, h.2.elim fun B' q => ⟨B', q.1.mv h1 h2, q.2⟩⟩) ?_
  intro p e s m args below meth c s₁ X0 hexec hbytes hml hret hlk hnm hown hh0 W hP
  obtain ⟨rfl, hA, hB, hne, l1, l2, hp⟩ := hP
  have c1 : Steps p.tables e below (s₁.setTop (entryFrame m #[.ref b, .int (Int32.ofNat o), .ref d, .int (Int32.ofNat q), .int (Int32.ofNat len)] 7)) (s₁.setTop (mkF m 0 #[.val (.ref b), .val (.int (Int32.ofNat o)), .val (.ref d), .val (.int (Int32.ofNat q)), .val (.int (Int32.ofNat len)), .unset, .unset] [])) := entry rfl
  have hA0 := hA.1.mv X0.warmed.alike hh0
  have hB0 := hB.mv X0.warmed.alike hh0
  have a31 := hA.1.2.2.2
  have c2 : Steps p.tables e below (s₁.setTop (entryFrame m #[.ref b, .int (Int32.ofNat o), .ref d, .int (Int32.ofNat q), .int (Int32.ofNat len)] 7)) (s₁.setTop (mkF m 3 #[.val (.ref b), .val (.int (Int32.ofNat o)), .val (.ref d), .val (.int (Int32.ofNat q)), .val (.int (Int32.ofNat len)), .val (.int 0), .unset] [])) := c1.trans (by
    refine iconstV X0.here hexec rfl 0 (hb hbytes d0) (by decide) ?_
    refine XS.istore X0.here hexec rfl (hb hbytes d1) rfl rfl ?_
    exact Steps.refl _)
  have loop : ∀ (r i : Nat), i + r = len → ∀ (z : Slot), (z = .unset ∨ ∃ w, z = .val w ∧ w.category = 1) → ∀ (Tl : State) (Bk : Cell), Stand p l e { frames := 0, locals := 0, cells := 0, slots := 0 } s m #[.ref b, .int (Int32.ofNat o), .ref d, .int (Int32.ofNat q), .int (Int32.ofNat len)] below meth c Tl ([] ++ copyLocs d q i) 0 0 → Put d Bk s₁ Tl → Laid B Bk q (q + i) (fun j => Value.int (lo8 (cv A (o + (j - q))))) →
      Steps p.tables e below (s₁.setTop (entryFrame m #[.ref b, .int (Int32.ofNat o), .ref d, .int (Int32.ofNat q), .int (Int32.ofNat len)] 7)) (Tl.setTop (mkF m 3 #[.val (.ref b), .val (.int (Int32.ofNat (o + i))), .val (.ref d), .val (.int (Int32.ofNat (q + i))), .val (.int (Int32.ofNat len)), .val (.int (Int32.ofNat i)), z] [])) → ∃ (T' : State) (B' : Cell) (z' : Slot), Stand p l e { frames := 0, locals := 0, cells := 0, slots := 0 } s m #[.ref b, .int (Int32.ofNat o), .ref d, .int (Int32.ofNat q), .int (Int32.ofNat len)] below meth c T' ([] ++ copyLocs d q len) 0 0 ∧ Put d B' s₁ T' ∧ Laid B B' q (q + len) (fun j => Value.int (lo8 (cv A (o + (j - q))))) ∧
      Steps p.tables e below (s₁.setTop (entryFrame m #[.ref b, .int (Int32.ofNat o), .ref d, .int (Int32.ofNat q), .int (Int32.ofNat len)] 7)) (T'.setTop (mkF m 3 #[.val (.ref b), .val (.int (Int32.ofNat (o + len))), .val (.ref d), .val (.int (Int32.ofNat (q + len))), .val (.int (Int32.ofNat len)), .val (.int (Int32.ofNat len)), z'] [])) := by
    intro r
    induction r with
    | zero =>
      intro i hi z hz Tl Bk Xl pl fl cl
      have hil : i = len := by omega
      rw [hil] at Xl fl cl
      exact ⟨Tl, Bk, z, Xl, pl, fl, cl⟩
    | succ r ih =>
      intro i hi z hz Tl Bk Xl pl fl cl
      have all := X0.warmed.alike.symm.trans Xl.warmed.alike
      have hAl := hA0.keep all (pl.other hne hA0.1)
      have hBk := hB0.like all pl.1 fl.1 fl.2.1 fl.2.2.1
      have hlt : q + i < Bk.slots.size := by rw [fl.2.2.1]; omega
      have c3 : Steps p.tables e below (s₁.setTop (entryFrame m #[.ref b, .int (Int32.ofNat o), .ref d, .int (Int32.ofNat q), .int (Int32.ofNat len)] 7)) (Tl.setTop (mkF m 12 #[.val (.ref b), .val (.int (Int32.ofNat (o + i))), .val (.ref d), .val (.int (Int32.ofNat (q + i))), .val (.int (Int32.ofNat len)), .val (.int (Int32.ofNat i)), z] [.int (Int32.ofNat (o + i)), .ref b])) := cl.trans (by
        refine XS.iload Xl.here hexec rfl (hb hbytes d3) rfl ?_
        refine XS.iload Xl.here hexec rfl (hb hbytes d5) rfl ?_
        refine XS.icmpNo Xl.here hexec rfl (hb hbytes d7) rfl (ii_ge_f (lt32 (by omega) (by omega))) ?_
        refine XS.aloadN Xl.here hexec rfl (hb hbytes d10) rfl rfl ?_
        refine XS.iloadN Xl.here hexec rfl (hb hbytes d11) rfl ?_
        exact Steps.refl _)
      have c4 : Steps p.tables e below (s₁.setTop (entryFrame m #[.ref b, .int (Int32.ofNat o), .ref d, .int (Int32.ofNat q), .int (Int32.ofNat len)] 7)) (Tl.setTop (mkF m 13 #[.val (.ref b), .val (.int (Int32.ofNat (o + i))), .val (.ref d), .val (.int (Int32.ofNat (q + i))), .val (.int (Int32.ofNat len)), .val (.int (Int32.ofNat i)), z] [.int (cv A (o + i))])) := c3.trans (by
        refine Xl.aget hexec hAl rfl (hA.get (i := o + i) (by omega)) rfl rfl (hb hbytes d12) ?_
        exact Steps.refl _)
      have c5 : Steps p.tables e below (s₁.setTop (entryFrame m #[.ref b, .int (Int32.ofNat o), .ref d, .int (Int32.ofNat q), .int (Int32.ofNat len)] 7)) (Tl.setTop (mkF m 15 #[.val (.ref b), .val (.int (Int32.ofNat (o + i))), .val (.ref d), .val (.int (Int32.ofNat (q + i))), .val (.int (Int32.ofNat len)), .val (.int (Int32.ofNat i)), .val (.int (cv A (o + i)))] [])) := c4.trans (by
        refine XS.istoreS Xl.here hexec rfl (hb hbytes d13) rfl rfl hz ?_
        exact Steps.refl _)
      have c6 : Steps p.tables e below (s₁.setTop (entryFrame m #[.ref b, .int (Int32.ofNat o), .ref d, .int (Int32.ofNat q), .int (Int32.ofNat len)] 7)) (Tl.setTop (mkF m 31 #[.val (.ref b), .val (.int (Int32.ofNat (o + i))), .val (.ref d), .val (.int (Int32.ofNat (q + i))), .val (.int (Int32.ofNat len)), .val (.int (Int32.ofNat i)), .val (.int (cv A (o + i)))] [.int (lo8 (cv A (o + i))), .int (Int32.ofNat (q + i)), .ref d])) := c5.trans (by
        refine XS.iload Xl.here hexec rfl (hb hbytes d15) rfl ?_
        refine sipushV Xl.here hexec rfl 255 (hb hbytes d17) (by decide) ?_
        refine XS.icmpYes Xl.here hexec rfl (pc0 := 20) rfl (hb hbytes d20) rfl (ii_le_t (hp i (by omega))) (by decide) rfl ?_
        refine XS.aloadN Xl.here hexec rfl (hb hbytes d26) rfl rfl ?_
        refine XS.iloadN Xl.here hexec rfl (hb hbytes d27) rfl ?_
        refine XS.iload Xl.here hexec rfl (hb hbytes d28) rfl ?_
        refine i2b Xl.here hexec rfl (hb hbytes d30) rfl ?_
        exact Steps.refl _)
      obtain ⟨T7, X7, p7, st7⟩ := Xl.aput hexec hBk rfl hlt rfl (fits_lo8 (cv A (o + i))) (g := (mkF m 31 #[.val (.ref b), .val (.int (Int32.ofNat (o + i))), .val (.ref d), .val (.int (Int32.ofNat (q + i))), .val (.int (Int32.ofNat len)), .val (.int (Int32.ofNat i)), .val (.int (cv A (o + i)))] [.int (lo8 (cv A (o + i))), .int (Int32.ofNat (q + i)), .ref d])) rfl (rest := []) rfl (hb hbytes d31)
      have c8 : Steps p.tables e below (s₁.setTop (entryFrame m #[.ref b, .int (Int32.ofNat o), .ref d, .int (Int32.ofNat q), .int (Int32.ofNat len)] 7)) (T7.setTop (mkF m 32 #[.val (.ref b), .val (.int (Int32.ofNat (o + i))), .val (.ref d), .val (.int (Int32.ofNat (q + i))), .val (.int (Int32.ofNat len)), .val (.int (Int32.ofNat i)), .val (.int (cv A (o + i)))] [])) := c6.trans (st7 _ (Steps.refl _))
      have c9 : Steps p.tables e below (s₁.setTop (entryFrame m #[.ref b, .int (Int32.ofNat o), .ref d, .int (Int32.ofNat q), .int (Int32.ofNat len)] 7)) (T7.setTop (mkF m 3 #[.val (.ref b), .val (.int (Int32.ofNat (o + i) + 1)), .val (.ref d), .val (.int (Int32.ofNat (q + i) + 1)), .val (.int (Int32.ofNat len)), .val (.int (Int32.ofNat i + 1)), .val (.int (cv A (o + i)))] [])) := c8.trans (by
        refine iincV X7.here hexec rfl 1 (hb hbytes d32) (by decide) rfl rfl ?_
        refine iincV X7.here hexec rfl 1 (hb hbytes d35) (by decide) rfl rfl ?_
        refine iincV X7.here hexec rfl 1 (hb hbytes d38) (by decide) rfl rfl ?_
        refine XS.goto X7.here hexec rfl (pc0 := 41) rfl (hb hbytes d41) (by decide) rfl ?_
        exact Steps.refl _)
      have c10 : Steps p.tables e below (s₁.setTop (entryFrame m #[.ref b, .int (Int32.ofNat o), .ref d, .int (Int32.ofNat q), .int (Int32.ofNat len)] 7)) (T7.setTop (mkF m 3 #[.val (.ref b), .val (.int (Int32.ofNat (o + (i + 1)))), .val (.ref d), .val (.int (Int32.ofNat (q + (i + 1)))), .val (.int (Int32.ofNat len)), .val (.int (Int32.ofNat (i + 1))), .val (.int (cv A (o + i)))] [])) := by
        have := c9
        rw [succ32, succ32, succ32] at this
        exact this
      exact ih (i + 1) (by omega) _ (Or.inr ⟨_, rfl, rfl⟩) T7 _ (by rw [copyLocs_step, ← List.append_assoc]; exact X7) (pl.trans p7) (fl.step (by omega) hlt (by simp)) c10
  obtain ⟨T9, B9, z9, X9, p9, f9, g9⟩ := loop len 0 (by omega) .unset (Or.inl rfl) s₁ B (by simpa [copyLocs] using X0) ⟨hB0.1, fun _ _ => rfl, rfl⟩ (Laid.zero _ _ _) c2
  have c11 : Steps p.tables e below (s₁.setTop (entryFrame m #[.ref b, .int (Int32.ofNat o), .ref d, .int (Int32.ofNat q), .int (Int32.ofNat len)] 7)) (T9.setTop (mkF m 46 #[.val (.ref b), .val (.int (Int32.ofNat (o + len))), .val (.ref d), .val (.int (Int32.ofNat (q + len))), .val (.int (Int32.ofNat len)), .val (.int (Int32.ofNat len)), z9] [.int (Int32.ofNat len)])) := g9.trans (by
    refine XS.iload X9.here hexec rfl (hb hbytes d3) rfl ?_
    refine XS.iload X9.here hexec rfl (hb hbytes d5) rfl ?_
    refine XS.icmpYes X9.here hexec rfl (pc0 := 7) rfl (hb hbytes d7) rfl (ii_ge_t (nlt32 (by omega) (Nat.le_refl _))) (by decide) rfl ?_
    refine XS.iload X9.here hexec rfl (hb hbytes d44) rfl ?_
    exact Steps.refl _)
  exact ⟨T9, some (.int (Int32.ofNat len)), _, _, _, X9, by simp, rfl, rfl, (fun h => by cases h), ⟨rfl, B9, p9.from hh0, f9⟩, fun fs hl => c11.trans (X9.ireturnOut hexec hret rfl (Or.inl rfl) (hb hbytes d46) hl)⟩
end Cmp5
namespace Cmp3
def yN : MethodName := ⟨"java/lang/StringUTF16", "compress", "([CII)[B"⟩
abbrev yB : ByteArray := jdk_52_method_16_code
theorem d0 : decode yB 0 = .ok (.iload_n 2, 1) := by decide +kernel
theorem d1 : decode yB 1 = .ok (.newarray .byte, 2) := by decide +kernel
theorem d3 : decode yB 3 = .ok (.astore_n 3, 1) := by decide +kernel
theorem d4 : decode yB 4 = .ok (.aload_n 0, 1) := by decide +kernel
theorem d5 : decode yB 5 = .ok (.iload_n 1, 1) := by decide +kernel
theorem d6 : decode yB 6 = .ok (.aload_n 3, 1) := by decide +kernel
theorem d7 : decode yB 7 = .ok (.iconst 0, 1) := by decide +kernel
theorem d8 : decode yB 8 = .ok (.iload_n 2, 1) := by decide +kernel
theorem d9 : decode yB 9 = .ok (.invokestatic 115, 3) := by decide +kernel
theorem d12 : decode yB 12 = .ok (.istore 4, 2) := by decide +kernel
theorem d14 : decode yB 14 = .ok (.iload 4, 2) := by decide +kernel
theorem d16 : decode yB 16 = .ok (.iload_n 2, 1) := by decide +kernel
theorem d17 : decode yB 17 = .ok (.if_icmp (.eq) 40, 3) := by decide +kernel
theorem d57 : decode yB 57 = .ok (.aload_n 3, 1) := by decide +kernel
theorem d58 : decode yB 58 = .ok (.areturn, 1) := by decide +kernel
def site : List Cond := [.arrayClass .byte, Cmp5.tab] ++ staticW U16 115 Cmp5.yN
def tab : Cond := tabOf yN yB 6 (some (.array .byte)) site
def P (b : Addr) (A : Cell) (o len : Nat) (args : Array Value) (s : State) : Prop := args = #[.ref b, .int (Int32.ofNat o), .int (Int32.ofNat len)] ∧ Ch b A s ∧ o + len ≤ A.slots.size ∧ len ≤ 536870912 ∧ ∀ i, i < len → ¬ 255 < cv A (o + i)
def E (b : Addr) (A : Cell) (o len : Nat) (r : Option Value) (s u : State) : Prop := NewArr .byte "[B" len (fun j => .int (lo8 (cv A (o + j)))) r s u ∧ u.heap.size = s.heap.size + 1
/-- no char of the range above 255: a new byte[] of their low bytes -/
theorem law (l : Launch) (b : Addr) (A : Cell) (o len : Nat) : Law l yN 3 3 1 18 yB 6 (some (.array .byte)) site (P b A o len) (E b A o len) [] 1 len := by
  refine Law.of_walk (plainFor_of_name (by decide +kernel)) (by decide +kernel) (by decide +kernel) (by decide) (fun _ _ h => by rw [h.1]; rfl) (fun _ U U' hal hh h => ⟨h.1, h.2.1.mv hal hh, h.2.2⟩) (fun r U U' V V' h1 hal h2 h => ⟨NewArr.mv r U U' V V' h1 hal h2 h.1, by rw [h1, h2]; exact h.2⟩) ?_
  intro p e s m args below meth c s₁ X0 hexec hbytes hml hret hlk hnm hown hh0 W hP
  obtain ⟨rfl, hA, l1, l2, hp⟩ := hP
  have a31 := hA.1.2.2.2
  have c1 : Steps p.tables e below (s₁.setTop (entryFrame m #[.ref b, .int (Int32.ofNat o), .int (Int32.ofNat len)] 6)) (s₁.setTop (mkF m 0 #[.val (.ref b), .val (.int (Int32.ofNat o)), .val (.int (Int32.ofNat len)), .unset, .unset, .unset] [])) := entry rfl
  have c2 : Steps p.tables e below (s₁.setTop (entryFrame m #[.ref b, .int (Int32.ofNat o), .int (Int32.ofNat len)] 6)) (s₁.setTop (mkF m 1 #[.val (.ref b), .val (.int (Int32.ofNat o)), .val (.int (Int32.ofNat len)), .unset, .unset, .unset] [.int (Int32.ofNat len)])) := c1.trans (by
    refine XS.iloadN X0.here hexec rfl (hb hbytes d0) rfl ?_
    exact Steps.refl _)
  obtain ⟨T3, B3, X3, ba3, bs3, bv3, bh3, bf3, st3⟩ := X0.anew hexec (atype := .byte) (wk W (.arrayClass .byte)) rfl (by show len * 1 ≤ _; omega) (by omega) (g := (mkF m 1 #[.val (.ref b), .val (.int (Int32.ofNat o)), .val (.int (Int32.ofNat len)), .unset, .unset, .unset] [.int (Int32.ofNat len)])) rfl (hb hbytes d1) (rest := []) rfl (Nat.le_refl _) (by show 0 + len ≤ len; omega)
  rw [hh0] at ba3 st3
  have kp3 : XT.Kept s T3 := (XT.Kept.of_eq hh0).push bh3
  have hA3 := hA.keep X3.warmed.alike (kp3 _ _ hA.1.1)
  have hne : b ≠ s.heap.size := hA.1.ne
  have c4 : Steps p.tables e below (s₁.setTop (entryFrame m #[.ref b, .int (Int32.ofNat o), .int (Int32.ofNat len)] 6)) (T3.setTop (mkF m 3 #[.val (.ref b), .val (.int (Int32.ofNat o)), .val (.int (Int32.ofNat len)), .unset, .unset, .unset] [.ref s.heap.size])) := c2.trans (st3 _ (Steps.refl _))
  have c5 : Steps p.tables e below (s₁.setTop (entryFrame m #[.ref b, .int (Int32.ofNat o), .int (Int32.ofNat len)] 6)) (T3.setTop (mkF m 9 #[.val (.ref b), .val (.int (Int32.ofNat o)), .val (.int (Int32.ofNat len)), .val (.ref s.heap.size), .unset, .unset] [.int (Int32.ofNat len), .int 0, .ref s.heap.size, .int (Int32.ofNat o), .ref b])) := c4.trans (by
    refine XS.astoreN X3.here hexec rfl (hb hbytes d3) rfl rfl rfl ?_
    refine XS.aloadN X3.here hexec rfl (hb hbytes d4) rfl rfl ?_
    refine XS.iloadN X3.here hexec rfl (hb hbytes d5) rfl ?_
    refine XS.aloadN X3.here hexec rfl (hb hbytes d6) rfl rfl ?_
    refine iconstV X3.here hexec rfl 0 (hb hbytes d7) (by decide) ?_
    refine XS.iloadN X3.here hexec rfl (hb hbytes d8) rfl ?_
    exact Steps.refl _)
  obtain ⟨v6, T6, X6, E6, g6⟩ := X3.callS hexec (Cmp5.law l b A s.heap.size B3 o 0 len) hown (wks W (staticW U16 115 Cmp5.yN)) (wk W Cmp5.tab) (W := 0) (Nat.le_of_ble_eq_true rfl) (Nat.le_of_ble_eq_true rfl) (Nat.le_refl _) (by show 0 + len + 0 ≤ len; omega) (g := (mkF m 9 #[.val (.ref b), .val (.int (Int32.ofNat o)), .val (.int (Int32.ofNat len)), .val (.ref s.heap.size), .unset, .unset] [.int (Int32.ofNat len), .int (Int32.ofNat 0), .ref s.heap.size, .int (Int32.ofNat o), .ref b])) rfl (by rw [hml]; rfl) c5 (argsL := [.ref b, .int (Int32.ofNat o), .ref s.heap.size, .int (Int32.ofNat 0), .int (Int32.ofNat len)]) (rest := []) rfl rfl (by show 2 * 0 + 0 ≤ _; decide) (hb hbytes d9) (⟨rfl, hA3, ba3, hne, l1, by rw [bs3]; simp, hp⟩)
  obtain ⟨rfl, B6, p6, f6⟩ := E6
  have c7 : Steps p.tables e below (s₁.setTop (entryFrame m #[.ref b, .int (Int32.ofNat o), .int (Int32.ofNat len)] 6)) (T6.setTop (mkF m 12 #[.val (.ref b), .val (.int (Int32.ofNat o)), .val (.int (Int32.ofNat len)), .val (.ref s.heap.size), .unset, .unset] [.int (Int32.ofNat len)])) := g6
  have c8 : Steps p.tables e below (s₁.setTop (entryFrame m #[.ref b, .int (Int32.ofNat o), .int (Int32.ofNat len)] 6)) (T6.setTop (mkF m 58 #[.val (.ref b), .val (.int (Int32.ofNat o)), .val (.int (Int32.ofNat len)), .val (.ref s.heap.size), .val (.int (Int32.ofNat len)), .unset] [.ref s.heap.size])) := c7.trans (by
    refine XS.istore X6.here hexec rfl (hb hbytes d12) rfl rfl ?_
    refine XS.iload X6.here hexec rfl (hb hbytes d14) rfl ?_
    refine XS.iloadN X6.here hexec rfl (hb hbytes d16) rfl ?_
    refine XS.icmpYes X6.here hexec rfl (pc0 := 17) rfl (hb hbytes d17) rfl (ii_eq_t rfl) (by decide) rfl ?_
    refine XS.aloadN X6.here hexec rfl (hb hbytes d57) rfl rfl ?_
    exact Steps.refl _)
  have X8 := X6.wide (L' := []) (cells' := 1) (slots' := len) (fun x hx hlt => by
    simp only [List.nil_append, copyLocs, List.mem_map, List.mem_range] at hx
    obtain ⟨i, -, rfl⟩ := hx
    exact absurd hlt (Nat.lt_irrefl _)) (Nat.le_refl _) (by omega)
  exact ⟨T6, some (.ref s.heap.size), _, _, _, X8, rfl, rfl, rfl, (fun h => by cases h), ⟨⟨rfl, B6, ba3.like (X3.warmed.alike.symm.trans X6.warmed.alike) p6.1 f6.1 f6.2.1 f6.2.2.1, f6.2.1.trans bv3, by rw [X6.warmed.alike.findClass, f6.1]; exact bf3, by rw [f6.2.2.1, bs3]; simp, fun j hj => by rw [f6.2.2.2 j, if_pos (by omega)]; rfl, kp3.put p6 (Nat.le_refl _)⟩, by rw [p6.2.2, bh3, hh0]; simp⟩, fun fs hl => c8.trans (X8.areturnOut hexec rfl hret rfl (hb hbytes d58) hl)⟩
end Cmp3
namespace CodL
def yN : MethodName := ⟨"java/lang/StringUTF16", "coderFromArrayLen", "([BI)B"⟩
abbrev yB : ByteArray := jdk_52_method_15_code
theorem d0 : decode yB 0 = .ok (.iload_n 1, 1) := by decide +kernel
theorem d1 : decode yB 1 = .ok (.aload_n 0, 1) := by decide +kernel
theorem d2 : decode yB 2 = .ok (.arraylength, 1) := by decide +kernel
theorem d3 : decode yB 3 = .ok (.isub, 1) := by decide +kernel
theorem d4 : decode yB 4 = .ok (.bipush 31, 2) := by decide +kernel
theorem d6 : decode yB 6 = .ok (.iushr, 1) := by decide +kernel
theorem d7 : decode yB 7 = .ok (.i2b, 1) := by decide +kernel
theorem d8 : decode yB 8 = .ok (.ireturn, 1) := by decide +kernel
def site : List Cond := []
def tab : Cond := tabOf yN yB 2 (some .byte) site
def P (d : Addr) (B : Cell) (args : Array Value) (s : State) : Prop := args = #[.ref d, .int (Int32.ofNat B.slots.size)] ∧ Arr .byte d B s
def E (r : Option Value) (s u : State) : Prop := XT.PureE (some (.int 0)) r s u
/-- an array as long as the number of chars: LATIN1 -/
theorem law (l : Launch) (d : Addr) (B : Cell) : Law l yN 2 2 0 0 yB 2 (some .byte) site (P d B) E [] 0 0 := by
  refine Law.of_walk (plainFor_of_name (by decide +kernel)) (by decide +kernel) (by decide +kernel) (by decide) (fun _ _ h => by rw [h.1]; rfl) (fun _ U U' hal hh h => ⟨h.1, h.2.mv hal hh⟩) (fun r U U' V V' h1 hal h2 h => XT.PureE.mv r U U' V V' h1 hal h2 h) ?_
  intro p e s m args below meth c s₁ X0 hexec hbytes hml hret hlk hnm hown hh0 W hP
  obtain ⟨rfl, hB⟩ := hP
  have hB0 := hB.mv X0.warmed.alike hh0
  have c1 : Steps p.tables e below (s₁.setTop (entryFrame m #[.ref d, .int (Int32.ofNat B.slots.size)] 2)) (s₁.setTop (mkF m 0 #[.val (.ref d), .val (.int (Int32.ofNat B.slots.size))] [])) := entry rfl
  have c2 : Steps p.tables e below (s₁.setTop (entryFrame m #[.ref d, .int (Int32.ofNat B.slots.size)] 2)) (s₁.setTop (mkF m 2 #[.val (.ref d), .val (.int (Int32.ofNat B.slots.size))] [.ref d, .int (Int32.ofNat B.slots.size)])) := c1.trans (by
    refine XS.iloadN X0.here hexec rfl (hb hbytes d0) rfl ?_
    refine XS.aloadN X0.here hexec rfl (hb hbytes d1) rfl rfl ?_
    exact Steps.refl _)
  have c3 : Steps p.tables e below (s₁.setTop (entryFrame m #[.ref d, .int (Int32.ofNat B.slots.size)] 2)) (s₁.setTop (mkF m 8 #[.val (.ref d), .val (.int (Int32.ofNat B.slots.size))] [.int (lo8 (ushr (Int32.ofNat B.slots.size - Int32.ofNat B.slots.size) 31))])) := c2.trans (by
    refine X0.alen hexec hB0 rfl rfl (hb hbytes d2) ?_
    refine XS.isub X0.here hexec rfl (hb hbytes d3) rfl ?_
    refine bipushV X0.here hexec rfl 31 (hb hbytes d4) (by decide) ?_
    refine iushr X0.here hexec rfl (hb hbytes d6) rfl ?_
    refine i2b X0.here hexec rfl (hb hbytes d7) rfl ?_
    exact Steps.refl _)
  have e0 : lo8 (ushr (Int32.ofNat B.slots.size - Int32.ofNat B.slots.size) 31) = 0 := by rw [Int32.sub_self]; decide
  rw [e0] at c3
  exact ⟨s₁, some (.int 0), _, _, _, X0, rfl, rfl, rfl, (fun h => by cases h), ⟨rfl, hh0⟩, fun fs hl => c3.trans (X0.ireturnOut hexec hret rfl (Or.inr (Or.inr (Or.inl rfl))) (hb hbytes d8) hl)⟩
end CodL
/-- the String at a is Latin-1 over a new byte[] (the heap's one new cell): the low bytes of the len chars of A from o on; every cell but a is kept -/
def Got (a : Addr) (D : Cell) (fV fC : Field) (A : Cell) (o len : Nat) (r : Option Value) (s u : State) : Prop := r = none ∧ ∃ D' V : Cell, Blank "java/lang/String" a D' u ∧ Same D D' [fV.slot, fC.slot] ∧ D'.slots[fV.slot]? = some (.ref s.heap.size) ∧ D'.slots[fC.slot]? = some (.int 0) ∧ Arr .byte s.heap.size V u ∧ V.vm = .none ∧ u.vm.findClass "[B" = some V.cls ∧ V.slots.size = len ∧ (∀ j, j < len → V.slots[j]? = some (.int (lo8 (cv A (o + j))))) ∧ (∀ (y : Addr) (c : Cell), y ≠ a → s.heap[y]? = some c → u.heap[y]? = some c) ∧ u.heap.size = s.heap.size + 1
theorem Got.mv {a : Addr} {D A : Cell} {fV fC : Field} {o len : Nat} : ∀ r (U U' V V' : State), U'.heap = U.heap → V.vm.Alike V'.vm → V'.heap = V.heap → Got a D fV fC A o len r U V → Got a D fV fC A o len r U' V' :=
  fun r U U' V V' h1 hal h2 ⟨e0, D', X, a1, a2, a3, a4, a5, a6, a7, a8, a9, a10, a11⟩ => ⟨e0, D', X, a1.mv hal h2, a2, by rw [h1]; exact a3, a4, by rw [h1]; exact a5.mv hal h2, a6, by rw [hal.findClass]; exact a7, a8, a9, by rw [h1, h2]; exact a10, by rw [h1, h2]; exact a11⟩
namespace New4
def yN : MethodName := ⟨"java/lang/String", "<init>", "([CIILjava/lang/Void;)V"⟩
abbrev yB : ByteArray := jdk_42_method_149_code
theorem d0 : decode yB 0 = .ok (.aload_n 0, 1) := by decide +kernel
theorem d1 : decode yB 1 = .ok (.invokespecial 1, 3) := by decide +kernel
theorem d4 : decode yB 4 = .ok (.iload_n 3, 1) := by decide +kernel
theorem d5 : decode yB 5 = .ok (.ifCond (.ne) 22, 3) := by decide +kernel
theorem d27 : decode yB 27 = .ok (.getstatic 38, 3) := by decide +kernel
theorem d30 : decode yB 30 = .ok (.ifCond (.eq) 28, 3) := by decide +kernel
theorem d33 : decode yB 33 = .ok (.aload_n 1, 1) := by decide +kernel
theorem d34 : decode yB 34 = .ok (.iload_n 2, 1) := by decide +kernel
theorem d35 : decode yB 35 = .ok (.iload_n 3, 1) := by decide +kernel
theorem d36 : decode yB 36 = .ok (.invokestatic 177, 3) := by decide +kernel
theorem d39 : decode yB 39 = .ok (.astore 5, 2) := by decide +kernel
theorem d41 : decode yB 41 = .ok (.aload_n 0, 1) := by decide +kernel
theorem d42 : decode yB 42 = .ok (.aload 5, 2) := by decide +kernel
theorem d44 : decode yB 44 = .ok (.iload_n 3, 1) := by decide +kernel
theorem d45 : decode yB 45 = .ok (.invokestatic 47, 3) := by decide +kernel
theorem d48 : decode yB 48 = .ok (.putfield 15, 3) := by decide +kernel
theorem d51 : decode yB 51 = .ok (.aload_n 0, 1) := by decide +kernel
theorem d52 : decode yB 52 = .ok (.aload 5, 2) := by decide +kernel
theorem d54 : decode yB 54 = .ok (.putfield 9, 3) := by decide +kernel
theorem d57 : decode yB 57 = .ok (.return_, 1) := by decide +kernel
def site : List Cond := [.fieldLink "java/lang/String" 38 "java/lang/String" "COMPACT_STRINGS" "Z", Cmp3.tab, CodL.tab, .laysFinal "java/lang/String" "java/lang/String" "value" "[B", .fieldLink "java/lang/String" 9 "java/lang/String" "value" "[B", .laysFinal "java/lang/String" "java/lang/String" "coder" "B", .fieldLink "java/lang/String" 15 "java/lang/String" "coder" "B"] ++ objW "java/lang/String" 1 ++ staticW "java/lang/String" 177 Cmp3.yN ++ staticW "java/lang/String" 47 CodL.yN
def tab : Cond := tabOf yN yB 6 none site
def P (a : Addr) (D : Cell) (fV fC : Field) (b : Addr) (A : Cell) (z : Int32) (o len : Nat) (args : Array Value) (s : State) : Prop := args = #[.ref a, .ref b, .int (Int32.ofNat o), .int (Int32.ofNat len), .null] ∧ Blank "java/lang/String" a D s ∧ Found "java/lang/String" "value" "[B" fV s ∧ Found "java/lang/String" "coder" "B" fC s ∧ Ch b A s ∧ StaticIs s "java/lang/String" "COMPACT_STRINGS" "Z" (.int z) ∧ ¬ z = 0 ∧ 0 < len ∧ o + len ≤ A.slots.size ∧ len ≤ 536870912 ∧ ∀ i, i < len → ¬ 255 < cv A (o + i)
def E (a : Addr) (D : Cell) (fV fC : Field) (A : Cell) (o len : Nat) (r : Option Value) (s u : State) : Prop := Got a D fV fC A o len r s u
/-- len > 0, no char of the range above 255: a Latin-1 String of their low bytes -/
theorem law (l : Launch) (a : Addr) (D : Cell) (fV fC : Field) (b : Addr) (A : Cell) (z : Int32) (o len : Nat) : Law l yN 5 4 2 35 yB 6 none site (P a D fV fC b A z o len) (E a D fV fC A o len) [⟨a, fC.slot⟩, ⟨a, fV.slot⟩] 1 len := by
  refine Law.of_walk (plainFor_of_name (by decide +kernel)) (by decide +kernel) (by decide +kernel) (by decide) (fun _ _ h => by rw [h.1]; rfl) (fun _ U U' hal hh h => ⟨h.1, h.2.1.mv hal hh, h.2.2.1.al hal, h.2.2.2.1.al hal, h.2.2.2.2.1.mv hal hh, h.2.2.2.2.2.1.there hal hh, h.2.2.2.2.2.2⟩) (fun r U U' V V' h1 hal h2 h => Got.mv r U U' V V' h1 hal h2 h) ?_
  intro p e s m args below meth c s₁ X0 hexec hbytes hml hret hlk hnm hown hh0 W hP
  obtain ⟨rfl, hB, f1, f2, hA, s1, hz, l0, l1, l2, hp⟩ := hP
  have a31 := hA.1.2.2.2
  have c1 : Steps p.tables e below (s₁.setTop (entryFrame m #[.ref a, .ref b, .int (Int32.ofNat o), .int (Int32.ofNat len), .null] 6)) (s₁.setTop (mkF m 0 #[.val (.ref a), .val (.ref b), .val (.int (Int32.ofNat o)), .val (.int (Int32.ofNat len)), .val .null, .unset] [])) := entry rfl
  have c2 : Steps p.tables e below (s₁.setTop (entryFrame m #[.ref a, .ref b, .int (Int32.ofNat o), .int (Int32.ofNat len), .null] 6)) (s₁.setTop (mkF m 1 #[.val (.ref a), .val (.ref b), .val (.int (Int32.ofNat o)), .val (.int (Int32.ofNat len)), .val .null, .unset] [.ref a])) := c1.trans (by
    refine XS.aloadN X0.here hexec rfl (hb hbytes d0) rfl rfl ?_
    exact Steps.refl _)
  obtain ⟨T3, X3, q3, st3⟩ := X0.oinit hexec hown (wks W (objW "java/lang/String" 1)) (g := (mkF m 1 #[.val (.ref a), .val (.ref b), .val (.int (Int32.ofNat o)), .val (.int (Int32.ofNat len)), .val .null, .unset] [.ref a])) rfl (by rw [hml]; rfl) (rest := []) rfl (hb hbytes d1) (W := 0) (by show 2 * 0 + 0 ≤ _; decide) (Nat.le_of_ble_eq_true rfl) (Nat.le_of_ble_eq_true rfl)
  have hh3 := q3.trans hh0
  have c4 : Steps p.tables e below (s₁.setTop (entryFrame m #[.ref a, .ref b, .int (Int32.ofNat o), .int (Int32.ofNat len), .null] 6)) (T3.setTop (mkF m 27 #[.val (.ref a), .val (.ref b), .val (.int (Int32.ofNat o)), .val (.int (Int32.ofNat len)), .val .null, .unset] [])) := (c2.trans (st3 _ (Steps.refl _))).trans (by
    refine XS.iloadN X3.here hexec rfl (hb hbytes d4) rfl ?_
    refine XS.ifYes X3.here hexec rfl (pc0 := 5) rfl (hb hbytes d5) rfl (i0_ne_t (nz32 (by omega) l0)) (by decide) rfl ?_
    exact Steps.refl _)
  obtain ⟨T5, X5, q5, st5⟩ := X3.sget hexec hown (wk W (.fieldLink "java/lang/String" 38 "java/lang/String" "COMPACT_STRINGS" "Z")) s1 (fun _ _ h => by rw [hh3]; exact h) (g := (mkF m 27 #[.val (.ref a), .val (.ref b), .val (.int (Int32.ofNat o)), .val (.int (Int32.ofNat len)), .val .null, .unset] [])) rfl (hb hbytes d27)
  have hh5 := q5.trans hh3
  have c6 : Steps p.tables e below (s₁.setTop (entryFrame m #[.ref a, .ref b, .int (Int32.ofNat o), .int (Int32.ofNat len), .null] 6)) (T5.setTop (mkF m 30 #[.val (.ref a), .val (.ref b), .val (.int (Int32.ofNat o)), .val (.int (Int32.ofNat len)), .val .null, .unset] [.int z])) := c4.trans (st5 _ (Steps.refl _))
  have c7 : Steps p.tables e below (s₁.setTop (entryFrame m #[.ref a, .ref b, .int (Int32.ofNat o), .int (Int32.ofNat len), .null] 6)) (T5.setTop (mkF m 36 #[.val (.ref a), .val (.ref b), .val (.int (Int32.ofNat o)), .val (.int (Int32.ofNat len)), .val .null, .unset] [.int (Int32.ofNat len), .int (Int32.ofNat o), .ref b])) := c6.trans (by
    refine XS.ifNo X5.here hexec rfl (hb hbytes d30) rfl (i0_eq_f hz) ?_
    refine XS.aloadN X5.here hexec rfl (hb hbytes d33) rfl rfl ?_
    refine XS.iloadN X5.here hexec rfl (hb hbytes d34) rfl ?_
    refine XS.iloadN X5.here hexec rfl (hb hbytes d35) rfl ?_
    exact Steps.refl _)
  obtain ⟨v8, T8, X8, E8, g8⟩ := X5.callS hexec (Cmp3.law l b A o len) hown (wks W (staticW "java/lang/String" 177 Cmp3.yN)) (wk W Cmp3.tab) (W := 0) (Nat.le_of_ble_eq_true rfl) (Nat.le_of_ble_eq_true rfl) (Nat.le_refl _) (by show 0 + len ≤ len; omega) (g := (mkF m 36 #[.val (.ref a), .val (.ref b), .val (.int (Int32.ofNat o)), .val (.int (Int32.ofNat len)), .val .null, .unset] [.int (Int32.ofNat len), .int (Int32.ofNat o), .ref b])) rfl (by rw [hml]; rfl) c7 (argsL := [.ref b, .int (Int32.ofNat o), .int (Int32.ofNat len)]) (rest := []) rfl rfl (by show 2 * 0 + 0 ≤ _; decide) (hb hbytes d36) (⟨rfl, hA.mv X5.warmed.alike hh5, l1, l2, hp⟩)
  obtain ⟨e8, z8⟩ := E8
  obtain ⟨rfl, N, n1, n2, n3, n4, n5, n6⟩ := NewArr.mv _ T5 s _ _ hh5.symm (Vm.Alike.refl _) rfl e8
  rw [hh5] at z8
  have hB1 := hB.keep X8.warmed.alike (n6 _ _ hB.1)
  have hne : s.heap.size ≠ a := (Nat.ne_of_lt (Array.getElem?_eq_some_iff.mp hB.1).1).symm
  have c9 : Steps p.tables e below (s₁.setTop (entryFrame m #[.ref a, .ref b, .int (Int32.ofNat o), .int (Int32.ofNat len), .null] 6)) (T8.setTop (mkF m 39 #[.val (.ref a), .val (.ref b), .val (.int (Int32.ofNat o)), .val (.int (Int32.ofNat len)), .val .null, .unset] [.ref s.heap.size])) := g8
  have c10 : Steps p.tables e below (s₁.setTop (entryFrame m #[.ref a, .ref b, .int (Int32.ofNat o), .int (Int32.ofNat len), .null] 6)) (T8.setTop (mkF m 45 #[.val (.ref a), .val (.ref b), .val (.int (Int32.ofNat o)), .val (.int (Int32.ofNat len)), .val .null, .val (.ref s.heap.size)] [.int (Int32.ofNat N.slots.size), .ref s.heap.size, .ref a])) := by
    have hc : Steps p.tables e below (s₁.setTop (entryFrame m #[.ref a, .ref b, .int (Int32.ofNat o), .int (Int32.ofNat len), .null] 6)) (T8.setTop (mkF m 45 #[.val (.ref a), .val (.ref b), .val (.int (Int32.ofNat o)), .val (.int (Int32.ofNat len)), .val .null, .val (.ref s.heap.size)] [.int (Int32.ofNat len), .ref s.heap.size, .ref a])) := c9.trans (by
      refine XS.astore X8.here hexec rfl (hb hbytes d39) rfl rfl rfl ?_
      refine XS.aloadN X8.here hexec rfl (hb hbytes d41) rfl rfl ?_
      refine XS.aload X8.here hexec rfl (hb hbytes d42) rfl rfl ?_
      refine XS.iloadN X8.here hexec rfl (hb hbytes d44) rfl ?_
      exact Steps.refl _)
    rw [n4]; exact hc
  obtain ⟨v11, T11, X11, E11, g11⟩ := X8.callS hexec (CodL.law l s.heap.size N) hown (wks W (staticW "java/lang/String" 47 CodL.yN)) (wk W CodL.tab) (W := 1) (Nat.le_of_ble_eq_true rfl) (Nat.le_of_ble_eq_true rfl) (Nat.le_refl _) (by show 0 + len + 0 ≤ len; omega) (g := (mkF m 45 #[.val (.ref a), .val (.ref b), .val (.int (Int32.ofNat o)), .val (.int (Int32.ofNat len)), .val .null, .val (.ref s.heap.size)] [.int (Int32.ofNat N.slots.size), .ref s.heap.size, .ref a])) rfl (by rw [hml]; rfl) c10 (argsL := [.ref s.heap.size, .int (Int32.ofNat N.slots.size)]) (rest := [.ref a]) rfl rfl (by show 2 * 0 + (1 + 0) ≤ _; decide) (hb hbytes d45) (⟨rfl, n1⟩)
  obtain ⟨rfl, q11⟩ := E11
  have hB11 := hB1.mv (X8.warmed.alike.symm.trans X11.warmed.alike) q11
  have c12 : Steps p.tables e below (s₁.setTop (entryFrame m #[.ref a, .ref b, .int (Int32.ofNat o), .int (Int32.ofNat len), .null] 6)) (T11.setTop (mkF m 48 #[.val (.ref a), .val (.ref b), .val (.int (Int32.ofNat o)), .val (.int (Int32.ofNat len)), .val .null, .val (.ref s.heap.size)] [.int 0, .ref a])) := g11
  obtain ⟨T13, X13, p13, bl13, sl13, st13⟩ := X11.finit hexec hown (wk W (.fieldLink "java/lang/String" 15 "java/lang/String" "coder" "B")) (Or.inr ⟨_, (wk W (.laysFinal "java/lang/String" "java/lang/String" "coder" "B"))⟩) (Or.inl ⟨rfl, hnm⟩) f2 (Or.inl rfl) hB11 (t := .byte) (by decide +kernel) rfl (g := (mkF m 48 #[.val (.ref a), .val (.ref b), .val (.int (Int32.ofNat o)), .val (.int (Int32.ofNat len)), .val .null, .val (.ref s.heap.size)] [.int 0, .ref a])) rfl (rest := []) rfl (hb hbytes d48)
  have c14 : Steps p.tables e below (s₁.setTop (entryFrame m #[.ref a, .ref b, .int (Int32.ofNat o), .int (Int32.ofNat len), .null] 6)) (T13.setTop (mkF m 54 #[.val (.ref a), .val (.ref b), .val (.int (Int32.ofNat o)), .val (.int (Int32.ofNat len)), .val .null, .val (.ref s.heap.size)] [.ref s.heap.size, .ref a])) := (c12.trans (st13 _ (Steps.refl _))).trans (by
    refine XS.aloadN X13.here hexec rfl (hb hbytes d51) rfl rfl ?_
    refine XS.aload X13.here hexec rfl (hb hbytes d52) rfl rfl ?_
    exact Steps.refl _)
  obtain ⟨T15, X15, p15, bl15, sl15, st15⟩ := X13.finit hexec hown (wk W (.fieldLink "java/lang/String" 9 "java/lang/String" "value" "[B")) (Or.inr ⟨_, (wk W (.laysFinal "java/lang/String" "java/lang/String" "value" "[B"))⟩) (Or.inl ⟨rfl, hnm⟩) f1 (Or.inl rfl) bl13 (t := (.array .byte)) (by decide +kernel) rfl (g := (mkF m 54 #[.val (.ref a), .val (.ref b), .val (.int (Int32.ofNat o)), .val (.int (Int32.ofNat len)), .val .null, .val (.ref s.heap.size)] [.ref s.heap.size, .ref a])) rfl (rest := []) rfl (hb hbytes d54)
  have c16 : Steps p.tables e below (s₁.setTop (entryFrame m #[.ref a, .ref b, .int (Int32.ofNat o), .int (Int32.ofNat len), .null] 6)) (T15.setTop (mkF m 57 #[.val (.ref a), .val (.ref b), .val (.int (Int32.ofNat o)), .val (.int (Int32.ofNat len)), .val .null, .val (.ref s.heap.size)] [])) := c14.trans (st15 _ (Steps.refl _))
  have ap := apart (Or.inr ⟨_, (wk W (.laysFinal "java/lang/String" "java/lang/String" "value" "[B"))⟩) (Or.inr ⟨_, (wk W (.laysFinal "java/lang/String" "java/lang/String" "coder" "B"))⟩) f1 f2 (t₁ := .array .byte) (t₂ := .byte) (by decide +kernel) (by decide +kernel) (by decide)
  have al := X8.warmed.alike.symm.trans X15.warmed.alike
  have n7 : T11.heap[s.heap.size]? = some N := by rw [q11]; exact n1.1
  exact ⟨T15, none, _, _, _, X15, by simp, rfl, by omega, (fun _ => rfl), ⟨rfl, _, N, bl15, ((Same.refl D _).set _ (by simp)).set _ (by simp), sl15, (Cell.slots_setSlot_ne _ ap).trans sl13, n1.keep al (p15.other hne (p13.other hne n7)), n2, by rw [al.findClass]; exact n3, n4, n5, fun y c h1 h2 => p15.other h1 (p13.other h1 (by rw [q11]; exact n6 y c h2)), by rw [p15.2.2, p13.2.2, q11]; exact z8⟩, fun fs hl => c16.trans (X15.returnOut hexec hret (hb hbytes d57) hl)⟩
end New4
namespace New1
def yN : MethodName := ⟨"java/lang/String", "<init>", "([C)V"⟩
abbrev yB : ByteArray := jdk_42_method_3_code
theorem d0 : decode yB 0 = .ok (.aload_n 0, 1) := by decide +kernel
theorem d1 : decode yB 1 = .ok (.aload_n 1, 1) := by decide +kernel
theorem d2 : decode yB 2 = .ok (.iconst 0, 1) := by decide +kernel
theorem d3 : decode yB 3 = .ok (.aload_n 1, 1) := by decide +kernel
theorem d4 : decode yB 4 = .ok (.arraylength, 1) := by decide +kernel
theorem d5 : decode yB 5 = .ok (.aconst_null, 1) := by decide +kernel
theorem d6 : decode yB 6 = .ok (.invokespecial 27, 3) := by decide +kernel
theorem d9 : decode yB 9 = .ok (.return_, 1) := by decide +kernel
def site : List Cond := [New4.tab] ++ initW "java/lang/String" 27 New4.yN
def tab : Cond := tabOf yN yB 2 none site
def P (a : Addr) (D : Cell) (fV fC : Field) (b : Addr) (A : Cell) (z : Int32) (args : Array Value) (s : State) : Prop := args = #[.ref a, .ref b] ∧ Blank "java/lang/String" a D s ∧ Found "java/lang/String" "value" "[B" fV s ∧ Found "java/lang/String" "coder" "B" fC s ∧ Ch b A s ∧ StaticIs s "java/lang/String" "COMPACT_STRINGS" "Z" (.int z) ∧ ¬ z = 0 ∧ 0 < A.slots.size ∧ A.slots.size ≤ 536870912 ∧ ∀ i, i < A.slots.size → ¬ 255 < cv A i
def E (a : Addr) (D : Cell) (fV fC : Field) (A : Cell) (r : Option Value) (s u : State) : Prop := Got a D fV fC A 0 A.slots.size r s u
/-- new String(chars), not empty, no char above 255: a Latin-1 String of their low bytes -/
theorem law (l : Launch) (a : Addr) (D : Cell) (fV fC : Field) (b : Addr) (A : Cell) (z : Int32) : Law l yN 2 1 3 52 yB 2 none site (P a D fV fC b A z) (E a D fV fC A) [⟨a, fC.slot⟩, ⟨a, fV.slot⟩] 1 A.slots.size := by
  refine Law.of_walk (plainFor_of_name (by decide +kernel)) (by decide +kernel) (by decide +kernel) (by decide) (fun _ _ h => by rw [h.1]; rfl) (fun _ U U' hal hh h => ⟨h.1, h.2.1.mv hal hh, h.2.2.1.al hal, h.2.2.2.1.al hal, h.2.2.2.2.1.mv hal hh, h.2.2.2.2.2.1.there hal hh, h.2.2.2.2.2.2⟩) (fun r U U' V V' h1 hal h2 h => Got.mv r U U' V V' h1 hal h2 h) ?_
  intro p e s m args below meth c s₁ X0 hexec hbytes hml hret hlk hnm hown hh0 W hP
  obtain ⟨rfl, hB, f1, f2, hA, s1, hz, l0, l2, hp⟩ := hP
  have c1 : Steps p.tables e below (s₁.setTop (entryFrame m #[.ref a, .ref b] 2)) (s₁.setTop (mkF m 0 #[.val (.ref a), .val (.ref b)] [])) := entry rfl
  have c2 : Steps p.tables e below (s₁.setTop (entryFrame m #[.ref a, .ref b] 2)) (s₁.setTop (mkF m 6 #[.val (.ref a), .val (.ref b)] [.null, .int (Int32.ofNat A.slots.size), .int 0, .ref b, .ref a])) := c1.trans (by
    refine XS.aloadN X0.here hexec rfl (hb hbytes d0) rfl rfl ?_
    refine XS.aloadN X0.here hexec rfl (hb hbytes d1) rfl rfl ?_
    refine iconstV X0.here hexec rfl 0 (hb hbytes d2) (by decide) ?_
    refine XS.aloadN X0.here hexec rfl (hb hbytes d3) rfl rfl ?_
    refine X0.alen hexec (hA.1.mv X0.warmed.alike hh0) rfl rfl (hb hbytes d4) ?_
    refine XS.aconstNull X0.here hexec rfl (hb hbytes d5) ?_
    exact Steps.refl _)
  obtain ⟨v3, T3, X3, E3, g3⟩ := X0.callN hexec (New4.law l a D fV fC b A z 0 A.slots.size) rfl hown (wks W (initW "java/lang/String" 27 New4.yN)) (W New4.tab (by simp only [site, List.mem_cons, List.mem_append, true_or, or_true])) (W := 0) (Nat.le_of_ble_eq_true rfl) (Nat.le_of_ble_eq_true rfl) (Nat.le_refl _) (by show 0 + A.slots.size ≤ A.slots.size; omega) (g := (mkF m 6 #[.val (.ref a), .val (.ref b)] [.null, .int (Int32.ofNat A.slots.size), .int (Int32.ofNat 0), .ref b, .ref a])) rfl (by rw [hml]; rfl) c2 (argsL := [.ref b, .int (Int32.ofNat 0), .int (Int32.ofNat A.slots.size), .null]) (rest := []) rfl rfl (by show 2 * 0 + 0 ≤ _; decide) (hb hbytes d6) (⟨rfl, hB.mv X0.warmed.alike hh0, f1.al X0.warmed.alike, f2.al X0.warmed.alike, hA.mv X0.warmed.alike hh0, s1.there X0.warmed.alike hh0, hz, l0, by omega, l2, fun i hi => by rw [Nat.zero_add]; exact hp i hi⟩)
  have e0 := Got.mv _ s₁ s _ _ hh0.symm (Vm.Alike.refl _) rfl E3
  obtain rfl := e0.1
  have c4 : Steps p.tables e below (s₁.setTop (entryFrame m #[.ref a, .ref b] 2)) (T3.setTop (mkF m 9 #[.val (.ref a), .val (.ref b)] [])) := g3
  exact ⟨T3, none, _, _, _, X3, by simp, rfl, by omega, (fun _ => rfl), e0, fun fs hl => c4.trans (X3.returnOut hexec hret (hb hbytes d9) hl)⟩
theorem pays {l : Launch} {R : Room} {p : Program} {e : Env} {below : List Frame} {s : State} {sargs : Array Value} {len W : Nat} (a : Addr) (D : Cell) (fV fC : Field) (b : Addr) (A : Cell) (z : Int32) (htab : tab.before sargs s = true) (hfr : 4 ≤ R.frames) (hlo : W + 65 ≤ R.locals) :
    Back l R p e below s sargs yN len W (fun A₁ a₁ => A₁.cells + 1 ≤ R.cells ∧ A₁.slots + A.slots.size ≤ R.slots ∧ P a D fV fC b A z a₁ A₁.U) (fun A₁ _ v₁ B₁ => E a D fV fC A v₁ A₁.U B₁.U ∧ B₁.locs = A₁.locs ++ [⟨a, fC.slot⟩, ⟨a, fV.slot⟩] ∧ B₁.cells = A₁.cells + 1 ∧ B₁.slots = A₁.slots + A.slots.size) :=
  (law l a D fV fC b A z).pays htab hfr (by omega)
end New1
/-- the byte, read back as charAt reads it, is the char -/
theorem lo8_mask {x : Int32} (h0 : ¬ x < 0) (h1 : ¬ 255 < x) : lo8 x &&& 255 = x := by
  have t : ∀ k : Fin 256, lo8 (Int32.ofNat k.val) &&& 255 = Int32.ofNat k.val := by decide +kernel
  rw [Int32.lt_iff_toInt_lt] at h0 h1
  have e0 : (0 : Int32).toInt = 0 := rfl
  have e1 : (255 : Int32).toInt = 255 := rfl
  obtain ⟨k, hk⟩ : ∃ k : Nat, x.toInt = k := ⟨x.toInt.toNat, by omega⟩
  have hx : x = Int32.ofNat k := Int32.toInt_inj.mp (by rw [hk, Int32.toInt_ofNat_small (by omega)])
  rw [hx]
  exact t ⟨k, by omega⟩
end StrChars
namespace StrChars.Road
open Jvm Sem ClassFile Op Lib Jvm.Stand Jvm.Free Jvm.Free.XT
open Jvm.Lib.Cold (StaticIs)
abbrev ST : String := "java/lang/String"
/-- every table word that New1's law asks, flat -/
abbrev words : List Jvm.Cond := [.code New1.yN New1.yB 2 none, .initialized ST, .methodLink ST 27 New4.yN, .instanceMethod New4.yN,
  .code New4.yN New4.yB 6 none, .fieldLink ST 38 ST "COMPACT_STRINGS" "Z", .laysFinal ST ST "value" "[B", .fieldLink ST 9 ST "value" "[B", .laysFinal ST ST "coder" "B", .fieldLink ST 15 ST "coder" "B",
  .methodLink ST 1 Lib.objectInit, .instanceMethod Lib.objectInit, .code Lib.objectInit ⟨#[0xb1]⟩ 1 none, .methodLink ST 177 Cmp3.yN, .static Cmp3.yN, .methodLink ST 47 CodL.yN, .static CodL.yN,
  .code Cmp3.yN Cmp3.yB 6 (some (.array .byte)), .initialized U16, .arrayClass .byte, .methodLink U16 115 Cmp5.yN, .static Cmp5.yN, .code Cmp5.yN Cmp5.yB 7 (some .int), .code CodL.yN CodL.yB 2 (some .byte)]
theorem tab_of {a : Array Value} {s : State} (h : ∀ w ∈ words, w.before a s = true) : New1.tab.before a s = true := by
  have h5 : Cmp5.tab.before a s = true := unparts (wk h (.code Cmp5.yN Cmp5.yB 7 (some .int))) (wks h (.initialized Cmp5.yN.cls :: Cmp5.site))
  have hc : CodL.tab.before a s = true := unparts (wk h (.code CodL.yN CodL.yB 2 (some .byte))) (wks h (.initialized CodL.yN.cls :: CodL.site))
  have q5 : ∀ w ∈ Cmp5.tab :: words, w.before a s = true := fun w hw => (List.mem_cons.mp hw).elim (fun e => e ▸ h5) (h w)
  have h3 : Cmp3.tab.before a s = true := unparts (wk q5 (.code Cmp3.yN Cmp3.yB 6 (some (.array .byte)))) (wks q5 (.initialized Cmp3.yN.cls :: Cmp3.site))
  have q3 : ∀ w ∈ Cmp3.tab :: CodL.tab :: words, w.before a s = true := fun w hw => (List.mem_cons.mp hw).elim (fun e => e ▸ h3) fun hw => (List.mem_cons.mp hw).elim (fun e => e ▸ hc) (h w)
  have h4 : New4.tab.before a s = true := unparts (wk q3 (.code New4.yN New4.yB 6 none)) (wks q3 (.initialized New4.yN.cls :: New4.site))
  have q4 : ∀ w ∈ New4.tab :: words, w.before a s = true := fun w hw => (List.mem_cons.mp hw).elim (fun e => e ▸ h4) (h w)
  exact unparts (wk q4 (.code New1.yN New1.yB 2 none)) (wks q4 (.initialized New1.yN.cls :: New1.site))
/-- the words ride from the start Z to the walk's own state -/
theorem moved {Z s : State} {a0 args : Array Value} (hZ : Z.Warmed39 s.vm) (hw : ∀ d ∈ words, d.before a0 Z = true) : ∀ d ∈ words, d.before args s = true := fun d hd => by
  have q := hw d hd
  have t : ∀ d ∈ words, d = .arrayClass .byte ∨ (d.onTables && d.keepsFace) = true := by decide +kernel
  rcases t d hd with rfl | t
  · exact RoadKit.mvA hZ q
  · exact RoadKit.mv hZ q t
/-- WHAT COMES BACK, over the tables of the start Z: h the heap at the call, h' behind it -/
def Q (Z : State) (x : Addr) (A : Cell) (h : Heap) (v : Option Value) (h' : Heap) (L : List Loc) : Prop := v = none ∧ (∀ y ∈ L, y.base = x) ∧ RoadKit.Keep h h' [x] ∧ h'.size = h.size + 1 ∧ RoadKit.Exa Z h' x ST ∧ RoadKit.Fld Z h' x ST "value" "[B" (.ref h.size) ∧ RoadKit.Fld Z h' x ST "coder" "B" (.int 0) ∧
  (∃ V : Cell, RoadKit.Arr Z h' h.size V .byte ∧ V.vm = .none ∧ Z.vm.findClass "[B" = some V.cls ∧ V.slots.size = A.slots.size ∧ ∀ j, j < A.slots.size → V.slots[j]? = some (.int (lo8 (cv A j)))) ∧
  ∀ (O n d : String) (w : Value), RoadKit.Fld Z h x O n d w → RoadKit.slotOf Z O n d ≠ RoadKit.slotOf Z ST "value" "[B" → RoadKit.slotOf Z O n d ≠ RoadKit.slotOf Z ST "coder" "B" → RoadKit.Fld Z h' x O n d w
/-- **new String(chars) AT A CALL, IN THE ROAD'S FORM**: for specialBack behind newO: x the fresh String, b the char[] with the cell A -/
theorem back {p : Program} {l : Launch} {e : Env} {R : Room} {s : State} {args : Array Value} {below : List Frame} {len W : Nat} {Z : State} {a0 : Array Value} {h : Heap} (hZ : Z.Warmed39 s.vm) (hw : ∀ d ∈ words, d.before a0 Z = true) {kI : Nat} (wi : (Jvm.Cond.instantiable ST kI).before a0 Z = true)
    {x b : Addr} {A : Cell} {z : Int32} {v0 c0 : Value} (E : RoadKit.Exa Z h x ST) (V : RoadKit.Fld Z h x ST "value" "[B" v0) (C : RoadKit.Fld Z h x ST "coder" "B" c0) (K : RoadKit.Arr Z h b A .char) (hty : Typed .char A) (S : RoadKit.Sta Z h ST "COMPACT_STRINGS" "Z" (.int z)) (hz : ¬ z = 0)
    (l0 : 0 < A.slots.size) (l2 : A.slots.size ≤ 536870912) (hp : ∀ i, i < A.slots.size → ¬ 255 < cv A i) (hfr : 4 ≤ R.frames) (hlo : W + 65 ≤ R.locals) :
    Back l R p e below s args New1.yN len W (fun P a => a = #[.ref x, .ref b] ∧ P.U.heap = h ∧ P.cells + 1 ≤ R.cells ∧ P.slots + A.slots.size ≤ R.slots)
      (fun P _ v B => ∃ L, Q Z x A h v B.U.heap L ∧ B.locs = P.locs ++ L ∧ B.cells = P.cells + 1 ∧ B.slots = P.slots + A.slots.size) := by
  intro m meth c P g ig mk a X hg hsize hdg hW hn hp'
  obtain ⟨rfl, rfl, r1, r2⟩ := hp'
  have al : Z.vm.Alike P.U.vm := hZ.alike.trans X.warmed.alike
  obtain ⟨D, cfV, kV, iV, fV, hD, gV, stV, knV, obV, asV, slV⟩ := id V
  obtain ⟨D', cfC, kC, iC, fC, hD', gC, stC, -, -, asC, slC⟩ := id C
  cases hD.symm.trans hD'
  obtain ⟨D2, kD, e1, e2, e3, e4, e5⟩ := id E
  cases hD.symm.trans e1
  obtain ⟨c2, k2, i1, i2, i3, -⟩ := Cond.instantiable_spec wi
  cases e2.symm.trans i1
  cases e3.symm.trans i2
  obtain ⟨kU, u1, u2⟩ := al.2.2 _ _ e3
  have hB : Blank ST x D P.U := ⟨hD, ⟨knV, fun q hq => by rw [hq] at obV; cases obV⟩, by rw [al.findClass]; exact e2, kU, u1, by rw [u2]; exact i3, by rw [u2]; exact e5 i3⟩
  have F1 : Found ST "value" "[B" fV P.U := ⟨SBG.found_only al ⟨cfV, kV, iV, gV⟩, stV⟩
  have F2 : Found ST "coder" "B" fC P.U := ⟨SBG.found_only al ⟨cfC, kC, iC, gC⟩, stC⟩
  have hA : Ch b A P.U := ⟨⟨K.1, State.isArrayOf_alike al K.2.1, K.2.2, by omega⟩, hty⟩
  have hS : StaticIs P.U ST "COMPACT_STRINGS" "Z" (.int z) := by
    obtain ⟨cfS, iS, kS, fS, st, cS, t1, t2, t3, t4, t5, t6, t7⟩ := S
    exact StaticIs.there (s := { Z with heap := P.U.heap }) ⟨cfS, iS, kS, fS, st, cS, t1, t2, t3, t4, t5, (fun q => by rw [q] at t6; cases t6), t7⟩ al rfl
  obtain ⟨v, B, X', ⟨⟨hv, E', V', q1, q2, q3, q4, q5, q6, q7, q8, q9, q10, q11⟩, hl, hc, hs⟩, st⟩ := New1.pays x D fV fC b A z (tab_of (moved hZ hw)) hfr hlo m meth c P g ig mk _ X hg hsize hdg hW hn ⟨r1, r2, rfl, hB, F1, F2, hA, hS, hz, l0, l2, hp⟩
  have al' : Z.vm.Alike B.U.vm := hZ.alike.trans X'.warmed.alike
  have hsz : E'.slots.size = D.slots.size := by
    obtain ⟨-, -, -, kB, w1, w2, w3⟩ := q1
    obtain ⟨kB', y1, y2⟩ := al'.2.2 _ _ e3
    rw [q2.2.1] at w1
    cases w1.symm.trans y1
    rw [w3, e5 i3, y2]
  refine ⟨v, B, X', ⟨_, ⟨hv, ?_, ⟨by omega, fun y cy hy hn' => q10 y cy (by simpa using hn') hy, fun y cy hy => ?_⟩, q11, ⟨E', _, q1.1, by rw [q2.2.1]; exact e2, by rw [q2.2.1]; exact e3, by rw [q2.1]; exact obV, fun _ => by rw [hsz]; exact e5 i3⟩,
    ⟨E', cfV, kV, iV, fV, q1.1, gV, stV, by rw [q2.1]; exact knV, by rw [q2.1]; exact obV, by rw [q2.2.1]; exact asV, q3⟩, ⟨E', cfC, kC, iC, fC, q1.1, gC, stC, by rw [q2.1]; exact knV, by rw [q2.1]; exact obV, by rw [q2.2.1]; exact asC, q4⟩,
    ⟨V', ⟨q5.1, State.isArrayOf_alike al'.symm q5.2.1, q5.2.2.1⟩, q6, by rw [← al'.findClass]; exact q7, q8, fun j hj => by have := q9 j hj; rwa [Nat.zero_add] at this⟩, fun O n d w F n1 n2 => ?_⟩, hl, hc, hs⟩, st⟩
  · intro y hy
    simp only [List.mem_cons, List.not_mem_nil, or_false] at hy
    rcases hy with rfl | rfl <;> rfl
  · by_cases q : y = x
    · subst q
      cases hD.symm.trans hy
      exact ⟨E', q1.1, q2.2.1, q2.1, hsz⟩
    · exact ⟨cy, q10 y cy q hy, rfl, rfl, rfl⟩
  · obtain ⟨D3, cf, k, i, f, g1, g2, g3, g4, g5, g6, g7⟩ := F
    cases hD.symm.trans g1
    simp only [RoadKit.slotOf, g2, gV, gC, Option.map_some, Option.getD_some] at n1 n2
    exact ⟨E', cf, k, i, f, q1.1, g2, g3, by rw [q2.1]; exact g4, by rw [q2.1]; exact g5, by rw [q2.2.1]; exact g6, by rw [q2.2.2 f.slot (by simp [n1, n2])]; exact g7⟩
end StrChars.Road
namespace StrChars.Road
open Jvm Sem ClassFile Op Lib Jvm.Stand Jvm.Free Jvm.Free.XT
/-- WHAT COMES BACK, the byte[] as a list of values -/
def QA (Z : State) (x : Addr) (zn : Int32) (cs : List Int32) (h : Heap) (v : Option Value) (h' : Heap) (L : List Loc) : Prop := v = none ∧ (∀ y ∈ L, y.base = x) ∧ RoadKit.Keep h h' [x] ∧ h'.size = h.size + 1 ∧ RoadKit.Exa Z h' x ST ∧ RoadKit.Fld Z h' x ST "value" "[B" (.ref h.size) ∧ RoadKit.Fld Z h' x ST "coder" "B" (.int 0) ∧
  (∃ kb, Z.vm.findClass "[B" = some kb ∧ RoadKit.Arv Z h' h.size kb .byte zn (cs.map fun c => .int (lo8 c)) (.int 0)) ∧
  ∀ (O n d : String) (w : Value), RoadKit.Fld Z h x O n d w → RoadKit.slotOf Z O n d ≠ RoadKit.slotOf Z ST "value" "[B" → RoadKit.slotOf Z O n d ≠ RoadKit.slotOf Z ST "coder" "B" → RoadKit.Fld Z h' x O n d w
/-- **new String(chars) AT A CALL, THE ARRAYS AS LISTS**: the char[] at b holds cs, not empty, no char above 255 -/
theorem backArv {p : Program} {l : Launch} {e : Env} {R : Room} {s : State} {args : Array Value} {below : List Frame} {len W : Nat} {Z : State} {a0 : Array Value} {h : Heap} (hZ : Z.Warmed39 s.vm) (hw : ∀ d ∈ words, d.before a0 Z = true) {kI : Nat} (wi : (Jvm.Cond.instantiable ST kI).before a0 Z = true)
    {x b : Addr} {k : ClassId} {zn z : Int32} {cs : List Int32} {dv v0 c0 : Value} (E : RoadKit.Exa Z h x ST) (V : RoadKit.Fld Z h x ST "value" "[B" v0) (C : RoadKit.Fld Z h x ST "coder" "B" c0) (K : RoadKit.Arv Z h b k .char zn (cs.map Value.int) dv) (S : RoadKit.Sta Z h ST "COMPACT_STRINGS" "Z" (.int z)) (hz : ¬ z = 0)
    (hlen : zn.toNatClampNeg = cs.length) (h0 : 0 < cs.length) (hbig : cs.length ≤ 536870912) (hall : ∀ c ∈ cs, ¬ 255 < c) (hfr : 4 ≤ R.frames) (hlo : W + 65 ≤ R.locals) :
    Back l R p e below s args New1.yN len W (fun P a => a = #[.ref x, .ref b] ∧ P.U.heap = h ∧ P.cells + 1 ≤ R.cells ∧ P.slots + cs.length ≤ R.slots)
      (fun P _ v B => ∃ L, QA Z x zn cs h v B.U.heap L ∧ B.locs = P.locs ++ L ∧ B.cells = P.cells + 1 ∧ B.slots = P.slots + cs.length) := by
  obtain ⟨A, K1, K2, K3, K4, K5, K6⟩ := K
  have e : A.slots.size = cs.length := K3.trans hlen
  have hat : ∀ (i : Nat) (hi : i < cs.length), A.slots[i]? = some (.int cs[i]) := fun i hi => by rw [K5 i (by omega)]; simp [List.getD_eq_getElem?_getD, hi]
  have hcv : ∀ (i : Nat) (hi : i < cs.length), cv A i = cs[i] := fun i hi => by unfold cv; rw [hat i hi]
  have hty : Typed .char A := fun i v hv => by
    have hi : i < A.slots.size := (Array.getElem?_eq_some_iff.mp hv).1
    have q := K5 i hi
    rw [hv] at q
    rw [Option.some.inj q]
    exact K6 i hi
  refine Back.mono (back hZ hw wi E V C K1 hty S hz (by omega) (by omega) (fun i hi => by rw [hcv i (by omega)]; exact hall _ (List.getElem_mem _)) hfr hlo) (fun P a hp => ⟨hp.1, hp.2.1, hp.2.2.1, by rw [e]; exact hp.2.2.2⟩) (fun P a v B hp hq => ?_)
  obtain ⟨L, ⟨q1, q2, q3, q4, q5, q6, q7, ⟨V', v1, v2, v3, v4, v5⟩, q9⟩, hl, hc, hs⟩ := hq
  refine ⟨L, ⟨q1, q2, q3, q4, q5, q6, q7, ⟨V'.cls, v3, V', v1, rfl, by rw [v4, e, hlen], K4, fun i hi => ?_, fun i hi => ?_⟩, q9⟩, hl, hc, by rw [hs, e]⟩
  · have hi' : i < cs.length := by omega
    rw [v5 i (by omega), hcv i hi']; simp [List.getD_eq_getElem?_getD, hi']
  · have hi' : i < cs.length := by omega
    simp only [List.getD_eq_getElem?_getD, List.getElem?_map, List.getElem?_eq_getElem hi', Option.map_some, Option.getD_some]
    exact fits_lo8 _
end StrChars.Road
namespace StrChars.Road
open Jvm Sem ClassFile Op Lib Jvm.Stand Jvm.Free Jvm.Free.XT
/-- WHAT COMES BACK, in the writer's own shape -/
def QV (Z : State) (x : Addr) (N : Int32) (bs : List Int32) (h : Heap) (n0 : Nat) (v : Option Value) (h' : Heap) (L : List Loc) : Prop := v = none ∧ RoadKit.Fr n0 L ∧ RoadKit.Keep h h' [x] ∧ RoadKit.Exa Z h' x ST ∧ RoadKit.Fld Z h' x ST "coder" "B" (.int 0) ∧
  ∃ (t : Addr) (kb : ClassId), n0 ≤ t ∧ h.size ≤ t ∧ ¬ t = x ∧ RoadKit.Fld Z h' x ST "value" "[B" (.ref t) ∧ RoadKit.Arv Z h' t kb .byte N (bs.map Value.int) (.int 0)
/-- **new String(chars) AT A CALL, FOR THE WRITER**: a char[] of n known ints, each 0 to 255 -/
theorem backV {p : Program} {l : Launch} {e : Env} {R : Room} {s : State} {args : Array Value} {below : List Frame} {len W : Nat} {Z : State} {a0 : Array Value} {h : Heap} (hZ : Z.Warmed39 s.vm) (hw : ∀ d ∈ words, d.before a0 Z = true) {kI : Nat} (wi : (Jvm.Cond.instantiable ST kI).before a0 Z = true)
    {x b : Addr} {kC : ClassId} {cs bs : List Int32} {d v0 c0 : Value} {z N : Int32} {n n0 : Nat} (hx0 : n0 ≤ x) (hh0 : n0 ≤ h.size) (E : RoadKit.Exa Z h x ST) (V : RoadKit.Fld Z h x ST "value" "[B" v0) (C : RoadKit.Fld Z h x ST "coder" "B" c0) (K : RoadKit.Arv Z h b kC .char N (cs.map Value.int) d) (S : RoadKit.Sta Z h ST "COMPACT_STRINGS" "Z" (.int z)) (hz : ¬ z = 0)
    (hn : cs.length = n) (hN : N = Int32.ofNat n) (l0 : 0 < n) (l2 : n ≤ 4000) (hp : ∀ c ∈ cs, ¬ c < 0 ∧ ¬ (255 : Int32) < c) (hb : bs = cs.map (fun c => c.toInt8.toInt32)) (hfr : 4 ≤ R.frames) (hlo : W + 65 ≤ R.locals) :
    Back l R p e below s args (⟨"java/lang/String", "<init>", "([C)V"⟩ : MethodName) len W (fun P a => a = #[.ref x, .ref b] ∧ P.U.heap = h ∧ P.cells + 1 ≤ R.cells ∧ P.slots + n ≤ R.slots)
      (fun P _ v B => ∃ L, QV Z x N bs h n0 v B.U.heap L ∧ B.locs = P.locs ++ L ∧ B.cells = P.cells + 1 ∧ B.slots = P.slots + n) := by
  subst hn hN hb
  refine Back.mono (backArv hZ hw wi E V C K S hz (n32 (by omega)) l0 (by omega) (fun c hc => (hp c hc).2) hfr hlo) (fun P a hp => hp) (fun P a v B hp hq => ?_)
  obtain ⟨L, ⟨q1, q2, q3, q4, q5, q6, q7, ⟨kb, v1, v2⟩, q9⟩, hl, hc, hs⟩ := hq
  exact ⟨L, ⟨q1, fun y hy => by rw [q2 y hy]; exact hx0, q3, q5, q7, h.size, kb, hh0, Nat.le_refl _, Nat.ne_of_gt E.lt, q6, by rw [List.map_map]; exact v2⟩, hl, hc, hs⟩
end StrChars.Road
namespace StrChars
open Jvm Sem ClassFile Op Lib Jvm.Stand Jvm.Free.XT Jvm.Free.ALB Jvm.Free.JM Jvm.Free
open Jvm.Lib.Cold (StaticIs)
def hi8 (x : Int32) : Int32 := lo8 (x >>> ((8 : Int32) &&& 31))
/-- what StringUTF16.getChar makes of two bytes -/
def pairCh (u v : Int32) : Int32 := (((u &&& 255) <<< ((0 : Int32) &&& 31)) ||| ((v &&& 255) <<< ((8 : Int32) &&& 31))).toUInt32.toUInt16.toUInt32.toInt32
theorem lo8_and (x : Int32) : (lo8 x &&& 255).toBitVec.toNat = x.toBitVec.toNat % 256 := by
  have h : (lo8 x).toBitVec = (x.toBitVec.signExtend 8).signExtend 32 := by rw [lo8, Int8.toBitVec_toInt32, Int32.toBitVec_toInt8]
  rw [Int32.toBitVec_and, BitVec.toNat_and, h]
  have e : ((x.toBitVec.signExtend 8).signExtend 32).toNat % 256 = x.toBitVec.toNat % 256 := by
    rw [BitVec.toNat_signExtend]
    have hlt := x.toBitVec.isLt
    simp only [BitVec.toNat_setWidth, BitVec.toNat_signExtend]
    split <;> split <;> omega
  rw [← e]
  exact Nat.and_two_pow_sub_one_eq_mod _ 8
theorem pair_says {c : Int32} (h0 : ¬ c < 0) (h1 : ¬ 65535 < c) : pairCh (lo8 c) (hi8 c) = c := by
  rw [Int32.lt_iff_toInt_lt] at h0 h1
  have e0 : (0 : Int32).toInt = 0 := rfl
  have e1 : (65535 : Int32).toInt = 65535 := rfl
  have hc : c.toInt = c.toBitVec.toNat := by
    have := c.toBitVec.isLt
    have e : c.toInt = c.toBitVec.toInt := rfl
    rw [e] at h0 h1
    rw [e]
    rw [BitVec.toInt_eq_toNat_cond] at h0 h1 ⊢
    split at h0 <;> split <;> omega
  have hn : c.toBitVec.toNat < 65536 := by omega
  have a1 := lo8_and c
  have a2 : (hi8 c &&& 255).toBitVec.toNat = c.toBitVec.toNat / 256 := by
    rw [hi8, lo8_and]
    have e : ((8 : Int32) &&& 31) = 8 := by decide
    rw [e, Int32.toBitVec_shiftRight]
    have e2 : ((8 : Int32).toBitVec.smod 32) = 8#32 := by decide
    rw [e2, BitVec.sshiftRight_eq', BitVec.toNat_sshiftRight_of_msb_false (by rw [BitVec.msb_eq_false_iff_two_mul_lt]; omega)]
    show c.toBitVec.toNat >>> 8 % 256 = _
    rw [Nat.shiftRight_eq_div_pow]
    omega
  unfold pairCh
  apply Int32.toBitVec_inj.mp
  apply BitVec.eq_of_toNat_eq
  have f0 : ((0 : Int32) &&& 31) = 0 := by decide
  have f8 : ((8 : Int32) &&& 31) = 8 := by decide
  rw [f0, f8]
  have g : (((lo8 c &&& 255) <<< (0 : Int32)) ||| ((hi8 c &&& 255) <<< (8 : Int32))).toBitVec.toNat = c.toBitVec.toNat := by
    rw [Int32.toBitVec_or, Int32.toBitVec_shiftLeft, Int32.toBitVec_shiftLeft]
    have s0 : ((0 : Int32).toBitVec.smod 32) = 0#32 := by decide
    have s8 : ((8 : Int32).toBitVec.smod 32) = 8#32 := by decide
    rw [s0, s8, BitVec.toNat_or]
    simp only [BitVec.shiftLeft_eq', BitVec.toNat_shiftLeft, a1, a2]
    show (c.toBitVec.toNat % 256) <<< 0 % 2 ^ 32 ||| (c.toBitVec.toNat / 256) <<< 8 % 2 ^ 32 = _
    rw [Nat.shiftLeft_zero, Nat.mod_eq_of_lt (show c.toBitVec.toNat % 256 < 2 ^ 32 by omega), Nat.mod_eq_of_lt (show (c.toBitVec.toNat / 256) <<< 8 < 2 ^ 32 by rw [Nat.shiftLeft_eq]; omega), Nat.or_comm, ← Nat.shiftLeft_add_eq_or_of_lt (by omega), Nat.shiftLeft_eq]
    omega
  show BitVec.toNat (((((lo8 c &&& 255) <<< (0 : Int32)) ||| ((hi8 c &&& 255) <<< (8 : Int32))).toBitVec.setWidth 16).setWidth 32) = _
  rw [BitVec.toNat_setWidth, BitVec.toNat_setWidth, g]
  omega
end StrChars
namespace StrChars
open Jvm Sem ClassFile Op Lib Jvm.Stand Jvm.Free.XT Jvm.Free.ALB Jvm.Free.JM Jvm.Free
open Jvm.Lib.Cold (StaticIs)
/-- the array's cell V codes the n chars f 0 .. f (n - 1) by the coder cd, as the JDK does: coder 1 just where some char is above 255 -/
def Cod (cd : Int32) (n : Nat) (f : Nat → Int32) (V : Cell) : Prop := (cd = 0 ∧ V.slots.size = n ∧ ∀ j, j < n → V.slots[j]? = some (.int (lo8 (f j))) ∧ ¬ 255 < f j) ∨ (cd = 1 ∧ V.slots.size = 2 * n ∧ (∀ j, j < n → V.slots[2 * j]? = some (.int (lo8 (f j))) ∧ V.slots[2 * j + 1]? = some (.int (hi8 (f j)))) ∧ ∃ j, j < n ∧ 255 < f j)
/-- **x is a String of the n chars f 0 .. f (n - 1)**, Latin-1 or UTF-16; its array at t has the cell V -/
def Txt (x t : Addr) (V : Cell) (cd : Int32) (n : Nat) (f : Nat → Int32) (U : State) : Prop := Exact "java/lang/String" x U ∧ Has x "java/lang/String" "value" "[B" (.ref t) U ∧ Has x "java/lang/String" "coder" "B" (.int cd) U ∧ XT.Arr .byte t V U ∧ Cod cd n f V ∧ ∀ j, j < n → ¬ f j < 0 ∧ ¬ 65535 < f j
theorem Txt.mv {x t : Addr} {V : Cell} {cd : Int32} {n : Nat} {f : Nat → Int32} {U U' : State} (h : Txt x t V cd n f U) (hal : U.vm.Alike U'.vm) (hh : U'.heap = U.heap) : Txt x t V cd n f U' := ⟨h.1.mv hal hh, h.2.1.mv hal hh, h.2.2.1.mv hal hh, h.2.2.2.1.mv hal hh, h.2.2.2.2⟩
end StrChars
namespace StrChars.Road
open Jvm Sem ClassFile Op Lib Jvm.Stand Jvm.Free Jvm.Free.XT
open Jvm.Lib.Cold (StaticIs)
theorem consq {a : Array Value} {s : State} {c : Jvm.Cond} {L : List Jvm.Cond} (h0 : c.before a s = true) (h : ∀ w ∈ L, w.before a s = true) : ∀ w ∈ c :: L, w.before a s = true := fun w hw => (List.mem_cons.mp hw).elim (fun e => e ▸ h0) (h w)
/-- the bytes of the chars cs, low before high -/
def wideBytes : List Int32 → List Value
  | [] => []
  | c :: cs => .int (lo8 c) :: .int (hi8 c) :: wideBytes cs
theorem wide_lo (d : Value) : ∀ (cs : List Int32) (j : Nat), j < cs.length → (wideBytes cs).getD (2 * j) d = .int (lo8 (cs.getD j 0))
  | [], j, h => absurd h (Nat.not_lt_zero j)
  | c :: cs, 0, _ => rfl
  | c :: cs, j + 1, h => by
    have q := wide_lo d cs j (by simpa using h)
    rw [show 2 * (j + 1) = 2 * j + 1 + 1 from by omega]
    simpa [wideBytes] using q
theorem wide_hi (d : Value) : ∀ (cs : List Int32) (j : Nat), j < cs.length → (wideBytes cs).getD (2 * j + 1) d = .int (hi8 (cs.getD j 0))
  | [], j, h => absurd h (Nat.not_lt_zero j)
  | c :: cs, 0, _ => rfl
  | c :: cs, j + 1, h => by
    have q := wide_hi d cs j (by simpa using h)
    rw [show 2 * (j + 1) + 1 = 2 * j + 1 + 1 + 1 from by omega]
    simpa [wideBytes] using q
theorem low_at (d : Value) (cs : List Int32) (j : Nat) (h : j < cs.length) : (cs.map fun c => Value.int (lo8 c)).getD j d = .int (lo8 (cs.getD j 0)) := by
  simp [List.getD_eq_getElem?_getD, h]
/-- an array of N2 bytes vs codes the chars cs by the coder cd -/
def CodA (cs : List Int32) (cd N2 : Int32) (vs : List Value) : Prop := (cd = 0 ∧ N2 = Int32.ofNat cs.length ∧ vs = (cs.map fun c => Value.int (lo8 c)) ∧ ∀ c ∈ cs, ¬ 255 < c) ∨ (cd = 1 ∧ N2 = Int32.ofNat (2 * cs.length) ∧ vs = wideBytes cs ∧ ∃ c ∈ cs, 255 < c)
theorem CodA.cod {cs : List Int32} {cd N2 : Int32} {vs : List Value} {V : Cell} (h : CodA cs cd N2 vs) (hn : 2 * cs.length < 2 ^ 31) (hs : V.slots.size = N2.toNatClampNeg) (hv : RoadKit.Has V vs (.int 0)) : Cod cd cs.length (fun j => cs.getD j 0) V := by
  rcases h with ⟨rfl, rfl, rfl, h⟩ | ⟨rfl, rfl, rfl, c, hc, hw⟩
  · rw [n32 (by omega)] at hs
    exact Or.inl ⟨rfl, hs, fun j hj => ⟨by rw [hv j (by omega), low_at _ _ _ hj], by
      have e : cs.getD j 0 = cs[j] := by simp [List.getD_eq_getElem?_getD, hj]
      show ¬ 255 < cs.getD j 0
      rw [e]; exact h _ (List.getElem_mem _)⟩⟩
  · rw [n32 (by omega)] at hs
    obtain ⟨j, hj, rfl⟩ := List.getElem_of_mem hc
    exact Or.inr ⟨rfl, hs, fun j hj => ⟨by rw [hv _ (by omega), wide_lo _ _ _ hj], by rw [hv _ (by omega), wide_hi _ _ _ hj]⟩, j, hj, by
      have e : cs.getD j 0 = cs[j] := by simp [List.getD_eq_getElem?_getD, hj]
      show 255 < cs.getD j 0
      rw [e]; exact hw⟩
/-- an object of exactly java/lang/String, its two fields found: as the laws ask it -/
theorem strObj {Z U : State} {a0 : Array Value} {kI : Nat} (wi : (Jvm.Cond.instantiable ST kI).before a0 Z = true) (al : Z.vm.Alike U.vm) {x : Addr} {v0 c0 : Value} (E : RoadKit.Exa Z U.heap x ST) (V : RoadKit.Fld Z U.heap x ST "value" "[B" v0) (C : RoadKit.Fld Z U.heap x ST "coder" "B" c0) :
    ∃ (D : Cell) (fV fC : Field), Blank ST x D U ∧ Found ST "value" "[B" fV U ∧ Found ST "coder" "B" fC U ∧ D.slots[fV.slot]? = some v0 ∧ D.slots[fC.slot]? = some c0 ∧ RoadKit.slotOf Z ST "value" "[B" = fV.slot ∧ RoadKit.slotOf Z ST "coder" "B" = fC.slot := by
  obtain ⟨D, cfV, kV, iV, fV, hD, gV, stV, knV, obV, asV, slV⟩ := V
  obtain ⟨D', cfC, kC, iC, fC, hD', gC, stC, -, -, asC, slC⟩ := C
  cases hD.symm.trans hD'
  obtain ⟨D2, kD, e1, e2, e3, e4, e5⟩ := E
  cases hD.symm.trans e1
  obtain ⟨c2, k2, i1, i2, i3, -⟩ := Cond.instantiable_spec wi
  cases e2.symm.trans i1
  cases e3.symm.trans i2
  obtain ⟨kU, u1, u2⟩ := al.2.2 _ _ e3
  exact ⟨D, fV, fC, ⟨hD, ⟨knV, fun q hq => by rw [hq] at obV; cases obV⟩, by rw [al.findClass]; exact e2, kU, u1, by rw [u2]; exact i3, by rw [u2]; exact e5 i3⟩, ⟨SBG.found_only al ⟨cfV, kV, iV, gV⟩, stV⟩, ⟨SBG.found_only al ⟨cfC, kC, iC, gC⟩, stC⟩, slV, slC, by simp [RoadKit.slotOf, gV], by simp [RoadKit.slotOf, gC]⟩
theorem sta_is {Z U : State} (al : Z.vm.Alike U.vm) {C n d : String} {v : Value} (S : RoadKit.Sta Z U.heap C n d v) : StaticIs U C n d v := by
  obtain ⟨cfS, iS, kS, fS, st, cS, t1, t2, t3, t4, t5, t6, t7⟩ := S
  exact StaticIs.there (s := { Z with heap := U.heap }) ⟨cfS, iS, kS, fS, st, cS, t1, t2, t3, t4, t5, (fun q => by rw [q] at t6; cases t6), t7⟩ al rfl
end StrChars.Road
namespace StrChars
open Jvm Sem ClassFile Op Lib Jvm.Stand Jvm.Free.XT Jvm.Free.ALB Jvm.Free.JM Jvm.Free
open Jvm.Lib.Cold (StaticIs)
/-- what place i of a byte[]'s cell holds -/
def yv (A : Cell) (i : Nat) : Int32 := match A.slots[i]? with | some (.int x) => x | _ => 0
theorem yv_get {a : Addr} {A : Cell} {U : State} (h : XT.Arr .byte a A U) (ht : Typed .byte A) {i : Nat} (hi : i < A.slots.size) : A.slots[i]? = some (.int (yv A i)) := by
  have e := Array.getElem?_eq_getElem hi
  have f := ht i _ e
  unfold yv; rw [e]
  generalize A.slots[i] = v at f
  cases v <;> simp [fits] at f ⊢
/-- the two arrays are equal, place for place -/
def EqC (A B : Cell) : Prop := A.slots.size = B.slots.size ∧ ∀ i, i < A.slots.size → yv A i = yv B i
/-- a boolean that says whether p -/
def Says01 (q : Prop) (r : Option Value) (s u : State) : Prop := ∃ v : Int32, r = some (.int v) ∧ u.heap = s.heap ∧ ((v = 1 ∧ q) ∨ (v = 0 ∧ ¬ q))
theorem Says01.mv {q : Prop} : ∀ r (U U' V V' : State), U'.heap = U.heap → V.vm.Alike V'.vm → V'.heap = V.heap → Says01 q r U V → Says01 q r U' V' :=
  fun r U U' V V' h1 _ h2 ⟨v, a, b, c⟩ => ⟨v, a, by rw [h1, h2]; exact b, c⟩
namespace LEq
def yN : MethodName := ⟨"java/lang/StringLatin1", "equals", "([B[B)Z"⟩
abbrev yB : ByteArray := jdk_43_method_13_code
theorem d0 : decode yB 0 = .ok (.aload_n 0, 1) := by decide +kernel
theorem d1 : decode yB 1 = .ok (.arraylength, 1) := by decide +kernel
theorem d2 : decode yB 2 = .ok (.aload_n 1, 1) := by decide +kernel
theorem d3 : decode yB 3 = .ok (.arraylength, 1) := by decide +kernel
theorem d4 : decode yB 4 = .ok (.if_icmp (.ne) 30, 3) := by decide +kernel
theorem d7 : decode yB 7 = .ok (.iconst 0, 1) := by decide +kernel
theorem d8 : decode yB 8 = .ok (.istore_n 2, 1) := by decide +kernel
theorem d9 : decode yB 9 = .ok (.iload_n 2, 1) := by decide +kernel
theorem d10 : decode yB 10 = .ok (.aload_n 0, 1) := by decide +kernel
theorem d11 : decode yB 11 = .ok (.arraylength, 1) := by decide +kernel
theorem d12 : decode yB 12 = .ok (.if_icmp (.ge) 20, 3) := by decide +kernel
theorem d15 : decode yB 15 = .ok (.aload_n 0, 1) := by decide +kernel
theorem d16 : decode yB 16 = .ok (.iload_n 2, 1) := by decide +kernel
theorem d17 : decode yB 17 = .ok (.baload, 1) := by decide +kernel
theorem d18 : decode yB 18 = .ok (.aload_n 1, 1) := by decide +kernel
theorem d19 : decode yB 19 = .ok (.iload_n 2, 1) := by decide +kernel
theorem d20 : decode yB 20 = .ok (.baload, 1) := by decide +kernel
theorem d21 : decode yB 21 = .ok (.if_icmp (.eq) 5, 3) := by decide +kernel
theorem d24 : decode yB 24 = .ok (.iconst 0, 1) := by decide +kernel
theorem d25 : decode yB 25 = .ok (.ireturn, 1) := by decide +kernel
theorem d26 : decode yB 26 = .ok (.iinc 2 1, 3) := by decide +kernel
theorem d29 : decode yB 29 = .ok (.goto (-20), 3) := by decide +kernel
theorem d32 : decode yB 32 = .ok (.iconst 1, 1) := by decide +kernel
theorem d33 : decode yB 33 = .ok (.ireturn, 1) := by decide +kernel
theorem d34 : decode yB 34 = .ok (.iconst 0, 1) := by decide +kernel
theorem d35 : decode yB 35 = .ok (.ireturn, 1) := by decide +kernel
def site : List Cond := []
def tab : Cond := tabOf yN yB 3 (some .boolean) site
def P (a : Addr) (A : Cell) (b : Addr) (B : Cell) (args : Array Value) (s : State) : Prop := args = #[.ref a, .ref b] ∧ XT.Arr .byte a A s ∧ Typed .byte A ∧ XT.Arr .byte b B s ∧ Typed .byte B
/-- whether two byte[] are equal, place for place -/
theorem law (l : Launch) (a : Addr) (A : Cell) (b : Addr) (B : Cell) : Law l yN 2 2 0 0 yB 3 (some .boolean) site (P a A b B) (Says01 (EqC A B)) [] 0 0 := by
  refine Law.of_walk (plainFor_of_name (by decide +kernel)) (by decide +kernel) (by decide +kernel) (by decide) (fun _ _ h => by rw [h.1]; rfl) (fun _ U U' hal hh h => ⟨h.1, h.2.1.mv hal hh, h.2.2.1, h.2.2.2.1.mv hal hh, h.2.2.2.2⟩) (fun r U U' V V' h1 hal h2 h => Says01.mv r U U' V V' h1 hal h2 h) ?_
  intro p e s m args below meth c s₁ X0 hexec hbytes hml hret hlk hnm hown hh0 W hP
  obtain ⟨rfl, hA, tA, hB, tB⟩ := hP
  have a31 := hA.2.2.2
  have b31 := hB.2.2.2
  have hA0 := hA.mv X0.warmed.alike hh0
  have hB0 := hB.mv X0.warmed.alike hh0
  have c1 : Steps p.tables e below (s₁.setTop (entryFrame m #[.ref a, .ref b] 3)) (s₁.setTop (mkF m 0 #[.val (.ref a), .val (.ref b), .unset] [])) := entry rfl
  have c2 : Steps p.tables e below (s₁.setTop (entryFrame m #[.ref a, .ref b] 3)) (s₁.setTop (mkF m 4 #[.val (.ref a), .val (.ref b), .unset] [.int (Int32.ofNat B.slots.size), .int (Int32.ofNat A.slots.size)])) := c1.trans (by
    refine XS.aloadN X0.here hexec rfl (hb hbytes d0) rfl rfl ?_
    refine X0.alen hexec hA0 rfl rfl (hb hbytes d1) ?_
    refine XS.aloadN X0.here hexec rfl (hb hbytes d2) rfl rfl ?_
    refine X0.alen hexec hB0 rfl rfl (hb hbytes d3) ?_
    exact Steps.refl _)
  by_cases hs : A.slots.size = B.slots.size
  · have c3 : Steps p.tables e below (s₁.setTop (entryFrame m #[.ref a, .ref b] 3)) (s₁.setTop (mkF m 9 #[.val (.ref a), .val (.ref b), .val (.int 0)] [])) := c2.trans (by
      refine XS.icmpNo X0.here hexec rfl (hb hbytes d4) rfl (ii_ne_f (by rw [hs])) ?_
      refine iconstV X0.here hexec rfl 0 (hb hbytes d7) (by decide) ?_
      refine XS.istoreN X0.here hexec rfl (hb hbytes d8) rfl rfl ?_
      exact Steps.refl _)
    have loop : ∀ (r i : Nat), i + r = A.slots.size → (∀ j, j < i → yv A j = yv B j) → Steps p.tables e below (s₁.setTop (entryFrame m #[.ref a, .ref b] 3)) (s₁.setTop (mkF m 9 #[.val (.ref a), .val (.ref b), .val (.int (Int32.ofNat i))] [])) → ∃ (pc : Nat) (Ls : Array Slot) (v : Int32), (pc = 25 ∨ pc = 33) ∧ ((v = 1 ∧ EqC A B) ∨ (v = 0 ∧ ¬ EqC A B)) ∧ Steps p.tables e below (s₁.setTop (entryFrame m #[.ref a, .ref b] 3)) (s₁.setTop (mkF m pc Ls [.int v])) := by
      intro r
      induction r with
      | zero =>
        intro i hi he cl
        exact ⟨33, _, 1, Or.inr rfl, Or.inl ⟨rfl, hs, fun j hj => he j (by omega)⟩, cl.trans (by
          refine XS.iloadN X0.here hexec rfl (hb hbytes d9) rfl ?_
          refine XS.aloadN X0.here hexec rfl (hb hbytes d10) rfl rfl ?_
          refine X0.alen hexec hA0 rfl rfl (hb hbytes d11) ?_
          refine XS.icmpYes X0.here hexec rfl (pc0 := 12) rfl (hb hbytes d12) rfl (ii_ge_t (nlt32 (by omega) (by omega))) (by decide) rfl ?_
          refine iconstV X0.here hexec rfl 1 (hb hbytes d32) (by decide) ?_
          exact Steps.refl _)⟩
      | succ r ih =>
        intro i hi he cl
        have c4 : Steps p.tables e below (s₁.setTop (entryFrame m #[.ref a, .ref b] 3)) (s₁.setTop (mkF m 21 #[.val (.ref a), .val (.ref b), .val (.int (Int32.ofNat i))] [.int (yv B i), .int (yv A i)])) := cl.trans (by
          refine XS.iloadN X0.here hexec rfl (hb hbytes d9) rfl ?_
          refine XS.aloadN X0.here hexec rfl (hb hbytes d10) rfl rfl ?_
          refine X0.alen hexec hA0 rfl rfl (hb hbytes d11) ?_
          refine XS.icmpNo X0.here hexec rfl (hb hbytes d12) rfl (ii_ge_f (lt32 (by omega) (by omega))) ?_
          refine XS.aloadN X0.here hexec rfl (hb hbytes d15) rfl rfl ?_
          refine XS.iloadN X0.here hexec rfl (hb hbytes d16) rfl ?_
          refine X0.aget hexec hA0 rfl (yv_get hA tA (i := i) (by omega)) rfl rfl (hb hbytes d17) ?_
          refine XS.aloadN X0.here hexec rfl (hb hbytes d18) rfl rfl ?_
          refine XS.iloadN X0.here hexec rfl (hb hbytes d19) rfl ?_
          refine X0.aget hexec hB0 rfl (yv_get hB tB (i := i) (by omega)) rfl rfl (hb hbytes d20) ?_
          exact Steps.refl _)
        by_cases hv : yv A i = yv B i
        · have c5 : Steps p.tables e below (s₁.setTop (entryFrame m #[.ref a, .ref b] 3)) (s₁.setTop (mkF m 9 #[.val (.ref a), .val (.ref b), .val (.int (Int32.ofNat i + 1))] [])) := c4.trans (by
            refine XS.icmpYes X0.here hexec rfl (pc0 := 21) rfl (hb hbytes d21) rfl (ii_eq_t hv) (by decide) rfl ?_
            refine iincV X0.here hexec rfl 1 (hb hbytes d26) (by decide) rfl rfl ?_
            refine XS.goto X0.here hexec rfl (pc0 := 29) rfl (hb hbytes d29) (by decide) rfl ?_
            exact Steps.refl _)
          rw [succ32] at c5
          exact ih (i + 1) (by omega) (fun j hj => by
            by_cases e : j = i
            · rw [e]; exact hv
            · exact he j (by omega)) c5
        · exact ⟨25, _, 0, Or.inl rfl, Or.inr ⟨rfl, fun q => hv (q.2 i (by omega))⟩, c4.trans (by
            refine XS.icmpNo X0.here hexec rfl (hb hbytes d21) rfl (ii_eq_f hv) ?_
            refine iconstV X0.here hexec rfl 0 (hb hbytes d24) (by decide) ?_
            exact Steps.refl _)⟩
    obtain ⟨pc, Ls, v, hpc, hv, cz⟩ := loop A.slots.size 0 (by omega) (fun j hj => absurd hj (Nat.not_lt_zero j)) c3
    have nv : narrow .boolean (.int v) = .int v := by rcases hv with ⟨rfl, -⟩ | ⟨rfl, -⟩ <;> rfl
    rcases hpc with rfl | rfl
    · exact ⟨s₁, some (.int v), _, _, _, X0, rfl, rfl, rfl, (fun h => by cases h), ⟨v, rfl, hh0, hv⟩, fun fs hl => cz.trans (X0.ireturnOut hexec hret nv (Or.inr (Or.inl rfl)) (hb hbytes d25) hl)⟩
    · exact ⟨s₁, some (.int v), _, _, _, X0, rfl, rfl, rfl, (fun h => by cases h), ⟨v, rfl, hh0, hv⟩, fun fs hl => cz.trans (X0.ireturnOut hexec hret nv (Or.inr (Or.inl rfl)) (hb hbytes d33) hl)⟩
  · have c3 : Steps p.tables e below (s₁.setTop (entryFrame m #[.ref a, .ref b] 3)) (s₁.setTop (mkF m 35 #[.val (.ref a), .val (.ref b), .unset] [.int 0])) := c2.trans (by
      refine XS.icmpYes X0.here hexec rfl (pc0 := 4) rfl (hb hbytes d4) rfl (ii_ne_t (ne32 a31 b31 hs)) (by decide) rfl ?_
      refine iconstV X0.here hexec rfl 0 (hb hbytes d34) (by decide) ?_
      exact Steps.refl _)
    exact ⟨s₁, some (.int 0), _, _, _, X0, rfl, rfl, rfl, (fun h => by cases h), ⟨0, rfl, hh0, Or.inr ⟨rfl, fun q => hs q.1⟩⟩, fun fs hl => c3.trans (X0.ireturnOut hexec hret rfl (Or.inr (Or.inl rfl)) (hb hbytes d35) hl)⟩
end LEq
theorem Cod.ty {cd : Int32} {n : Nat} {f : Nat → Int32} {V : Cell} (h : Cod cd n f V) : Typed .byte V := fun i v hv => by
  have hi : i < V.slots.size := (Array.getElem?_eq_some_iff.mp hv).1
  rcases h with ⟨-, k1, k2⟩ | ⟨-, k1, k2, -⟩
  · rw [(k2 i (by omega)).1] at hv; cases hv; exact fits_lo8 _
  · rcases Nat.mod_two_eq_zero_or_one i with e | e
    · obtain ⟨j, rfl⟩ : ∃ j, i = 2 * j := ⟨i / 2, by omega⟩
      rw [(k2 j (by omega)).1] at hv; cases hv; exact fits_lo8 _
    · obtain ⟨j, rfl⟩ : ∃ j, i = 2 * j + 1 := ⟨i / 2, by omega⟩
      rw [(k2 j (by omega)).2] at hv; cases hv; exact fits_lo8 _
/-- the same text -/
def SameT (n : Nat) (f : Nat → Int32) (k : Nat) (g : Nat → Int32) : Prop := n = k ∧ ∀ j, j < n → f j = g j
theorem lo8_inj {x y : Int32} (h0 : ¬ x < 0) (h1 : ¬ 255 < x) (k0 : ¬ y < 0) (k1 : ¬ 255 < y) (h : lo8 x = lo8 y) : x = y := by
  rw [← lo8_mask h0 h1, ← lo8_mask k0 k1, h]
/-- arrays coded by one coder are equal just where the texts are -/
theorem Cod.eqv {cd : Int32} {n k : Nat} {f g : Nat → Int32} {V V' : Cell} (h : Cod cd n f V) (h' : Cod cd k g V') (hf : ∀ j, j < n → ¬ f j < 0 ∧ ¬ 65535 < f j) (hg : ∀ j, j < k → ¬ g j < 0 ∧ ¬ 65535 < g j) : EqC V V' ↔ SameT n f k g := by
  have yvv : ∀ {W : Cell} {i : Nat} {x : Int32}, W.slots[i]? = some (.int x) → yv W i = x := fun q => by unfold yv; rw [q]
  rcases h with ⟨rfl, k1, k2⟩ | ⟨rfl, k1, k2, -⟩
  · rcases h' with ⟨-, m1, m2⟩ | ⟨e, -⟩
    · constructor
      · rintro ⟨e1, e2⟩
        refine ⟨by omega, fun j hj => ?_⟩
        have q := e2 j (by omega)
        rw [yvv (k2 j hj).1, yvv (m2 j (by omega)).1] at q
        exact lo8_inj (hf j hj).1 (k2 j hj).2 (hg j (by omega)).1 (m2 j (by omega)).2 q
      · rintro ⟨rfl, e2⟩
        refine ⟨by omega, fun j hj => ?_⟩
        rw [yvv (k2 j (by omega)).1, yvv (m2 j (by omega)).1, e2 j (by omega)]
    · exact absurd e (by decide)
  · rcases h' with ⟨e, -⟩ | ⟨-, m1, m2, -⟩
    · exact absurd e (by decide)
    · constructor
      · rintro ⟨e1, e2⟩
        refine ⟨by omega, fun j hj => ?_⟩
        have q1 := e2 (2 * j) (by omega)
        have q2 := e2 (2 * j + 1) (by omega)
        rw [yvv (k2 j hj).1, yvv (m2 j (by omega)).1] at q1
        rw [yvv (k2 j hj).2, yvv (m2 j (by omega)).2] at q2
        rw [← pair_says (hf j hj).1 (hf j hj).2, ← pair_says (hg j (by omega)).1 (hg j (by omega)).2, q1, q2]
      · rintro ⟨rfl, e2⟩
        refine ⟨by omega, fun i hi => ?_⟩
        rcases Nat.mod_two_eq_zero_or_one i with e | e
        · obtain ⟨j, rfl⟩ : ∃ j, i = 2 * j := ⟨i / 2, by omega⟩
          rw [yvv (k2 j (by omega)).1, yvv (m2 j (by omega)).1, e2 j (by omega)]
        · obtain ⟨j, rfl⟩ : ∃ j, i = 2 * j + 1 := ⟨i / 2, by omega⟩
          rw [yvv (k2 j (by omega)).2, yvv (m2 j (by omega)).2, e2 j (by omega)]
/-- two codings differ: so do the texts -/
theorem Cod.dif {cd cd' : Int32} {n k : Nat} {f g : Nat → Int32} {V V' : Cell} (h : Cod cd n f V) (h' : Cod cd' k g V') (hne : ¬ cd = cd') : ¬ SameT n f k g := by
  rintro ⟨rfl, e⟩
  rcases h with ⟨rfl, -, k2⟩ | ⟨rfl, -, -, j, hj, hw⟩
  · rcases h' with ⟨rfl, -⟩ | ⟨-, -, -, j, hj, hw⟩
    · exact hne rfl
    · exact (k2 j hj).2 (by rw [e j hj]; exact hw)
  · rcases h' with ⟨-, -, m2⟩ | ⟨rfl, -⟩
    · exact (m2 j hj).2 (by rw [← e j hj]; exact hw)
    · exact hne rfl
/-- an object of exactly C is an instance of C -/
theorem cinst {p : Program} {l : Launch} {e : Env} {R : Room} {s : State} {m : MethodId} {args : Array Value} {below : List Frame} {meth : Method} {c : Code} {T : State} {locs : List Loc} {cells slots : Nat} (X : Stand p l e R s m args below meth c T locs cells slots) (hexec : p.tables.exec = Jvm.exec) {own C : String} {index : Nat} (hown : s.vm.findClass own = some m.cls) (hlink : (Cond.classLink own index C).before args s = true) {a : Addr} (hE : Exact C a T)
    {g : JFrame} (hg : g.method = m) {rest : List Value} (hstack : g.stack = .ref a :: rest) (hdg : decode c.code g.pc = .ok (.instanceof index, 3)) :
    ∃ T', Stand p l e R s m args below meth c T' locs cells slots ∧ T'.heap = T.heap ∧ ∀ target, Steps p.tables e below (T'.setTop { g with pc := g.pc + 3, stack := .int 1 :: rest }) target → Steps p.tables e below (T.setTop g) target := by
  obtain ⟨cB, h1, D, h2, h3, h4⟩ := hE
  have h1' : s.vm.findClass C = some cB := by rw [← X.warmed.alike.findClass]; exact h1
  obtain ⟨vm', X', st⟩ := X.instanceofYes hexec hown hlink h2 h4 h1' (by rw [h3]; exact Jvm.Free.SB.assignable_self _ _) hg hstack hdg
  exact ⟨_, X', rfl, st⟩
theorem cself {p : Program} {l : Launch} {e : Env} {R : Room} {s : State} {m : MethodId} {args : Array Value} {below : List Frame} {meth : Method} {c : Code} {T : State} {locs : List Loc} {cells slots : Nat} (X : Stand p l e R s m args below meth c T locs cells slots) (hexec : p.tables.exec = Jvm.exec) {own C : String} {index : Nat} (hown : s.vm.findClass own = some m.cls) (hlink : (Cond.classLink own index C).before args s = true) {a : Addr} (hE : Exact C a T)
    {g : JFrame} (hg : g.method = m) {rest : List Value} (hstack : g.stack = .ref a :: rest) (hdg : decode c.code g.pc = .ok (.checkcast index, 3)) :
    ∃ T', Stand p l e R s m args below meth c T' locs cells slots ∧ T'.heap = T.heap ∧ ∀ target, Steps p.tables e below (T'.setTop { g with pc := g.pc + 3, stack := .ref a :: rest }) target → Steps p.tables e below (T.setTop g) target := by
  obtain ⟨cB, h1, D, h2, h3, h4⟩ := hE
  have h1' : s.vm.findClass C = some cB := by rw [← X.warmed.alike.findClass]; exact h1
  obtain ⟨vm', X', st⟩ := X.checkcastYes hexec hown hlink h2 h4 h1' (by rw [h3]; exact Jvm.Free.SB.assignable_self _ _) hg hstack hdg
  exact ⟨_, X', rfl, fun t h => st t (by rw [← hstack] at h; exact h)⟩
namespace SEq
def yN : MethodName := ⟨"java/lang/String", "equals", "(Ljava/lang/Object;)Z"⟩
abbrev yB : ByteArray := jdk_42_method_66_code
theorem d0 : decode yB 0 = .ok (.aload_n 0, 1) := by decide +kernel
theorem d1 : decode yB 1 = .ok (.aload_n 1, 1) := by decide +kernel
theorem d2 : decode yB 2 = .ok (.if_acmp (.ne) 5, 3) := by decide +kernel
theorem d5 : decode yB 5 = .ok (.iconst 1, 1) := by decide +kernel
theorem d6 : decode yB 6 = .ok (.ireturn, 1) := by decide +kernel
theorem d7 : decode yB 7 = .ok (.aload_n 1, 1) := by decide +kernel
theorem d8 : decode yB 8 = .ok (.instanceof 10, 3) := by decide +kernel
theorem d11 : decode yB 11 = .ok (.ifCond (.eq) 43, 3) := by decide +kernel
theorem d14 : decode yB 14 = .ok (.aload_n 1, 1) := by decide +kernel
theorem d15 : decode yB 15 = .ok (.checkcast 10, 3) := by decide +kernel
theorem d18 : decode yB 18 = .ok (.astore_n 2, 1) := by decide +kernel
theorem d19 : decode yB 19 = .ok (.getstatic 38, 3) := by decide +kernel
theorem d22 : decode yB 22 = .ok (.ifCond (.eq) 14, 3) := by decide +kernel
theorem d25 : decode yB 25 = .ok (.aload_n 0, 1) := by decide +kernel
theorem d26 : decode yB 26 = .ok (.getfield 15, 3) := by decide +kernel
theorem d29 : decode yB 29 = .ok (.aload_n 2, 1) := by decide +kernel
theorem d30 : decode yB 30 = .ok (.getfield 15, 3) := by decide +kernel
theorem d33 : decode yB 33 = .ok (.if_icmp (.ne) 21, 3) := by decide +kernel
theorem d36 : decode yB 36 = .ok (.aload_n 0, 1) := by decide +kernel
theorem d37 : decode yB 37 = .ok (.getfield 9, 3) := by decide +kernel
theorem d40 : decode yB 40 = .ok (.aload_n 2, 1) := by decide +kernel
theorem d41 : decode yB 41 = .ok (.getfield 9, 3) := by decide +kernel
theorem d44 : decode yB 44 = .ok (.invokestatic 541, 3) := by decide +kernel
theorem d47 : decode yB 47 = .ok (.ifCond (.eq) 7, 3) := by decide +kernel
theorem d50 : decode yB 50 = .ok (.iconst 1, 1) := by decide +kernel
theorem d51 : decode yB 51 = .ok (.goto 4, 3) := by decide +kernel
theorem d54 : decode yB 54 = .ok (.iconst 0, 1) := by decide +kernel
theorem d55 : decode yB 55 = .ok (.ireturn, 1) := by decide +kernel
def site : List Cond := [.classLink "java/lang/String" 10 "java/lang/String", .fieldLink "java/lang/String" 38 "java/lang/String" "COMPACT_STRINGS" "Z", .fieldLink "java/lang/String" 15 "java/lang/String" "coder" "B", .fieldLink "java/lang/String" 9 "java/lang/String" "value" "[B", LEq.tab] ++ staticW "java/lang/String" 541 LEq.yN
def tab : Cond := tabOf yN yB 3 (some .boolean) site
def P (x t : Addr) (V : Cell) (cd : Int32) (n : Nat) (f : Nat → Int32) (y t' : Addr) (V' : Cell) (cd' : Int32) (k : Nat) (g : Nat → Int32) (z : Int32) (args : Array Value) (s : State) : Prop := args = #[.ref x, .ref y] ∧ Txt x t V cd n f s ∧ Txt y t' V' cd' k g s ∧ StaticIs s "java/lang/String" "COMPACT_STRINGS" "Z" (.int z) ∧ ¬ z = 0
/-- equals(Object) of two Strings: whether the texts are the same -/
theorem law (l : Launch) (x t : Addr) (V : Cell) (cd : Int32) (n : Nat) (f : Nat → Int32) (y t' : Addr) (V' : Cell) (cd' : Int32) (k : Nat) (g : Nat → Int32) (z : Int32) : Law l yN 2 1 1 14 yB 3 (some .boolean) site (P x t V cd n f y t' V' cd' k g z) (Says01 (SameT n f k g)) [] 0 0 := by
  refine Law.of_walk (plainFor_of_name (by decide +kernel)) (by decide +kernel) (by decide +kernel) (by decide) (fun _ _ h => by rw [h.1]; rfl) (fun _ U U' hal hh h => ⟨h.1, h.2.1.mv hal hh, h.2.2.1.mv hal hh, h.2.2.2.1.there hal hh, h.2.2.2.2⟩) (fun r U U' V V' h1 hal h2 h => Says01.mv r U U' V V' h1 hal h2 h) ?_
  intro p e s m args below meth c s₁ X0 hexec hbytes hml hret hlk hnm hown hh0 W hP
  obtain ⟨rfl, hx, hy, s1, hz⟩ := hP
  have c1 : Steps p.tables e below (s₁.setTop (entryFrame m #[.ref x, .ref y] 3)) (s₁.setTop (mkF m 2 #[.val (.ref x), .val (.ref y), .unset] [.ref y, .ref x])) := Steps.trans (entry rfl) (by
    show Steps p.tables e below (s₁.setTop (mkF m 0 #[.val (.ref x), .val (.ref y), .unset] [])) _
    refine XS.aloadN X0.here hexec rfl (hb hbytes d0) rfl rfl ?_
    refine XS.aloadN X0.here hexec rfl (hb hbytes d1) rfl rfl ?_
    exact Steps.refl _)
  by_cases hxy : x = y
  · have c2 : Steps p.tables e below (s₁.setTop (entryFrame m #[.ref x, .ref y] 3)) (s₁.setTop (mkF m 6 #[.val (.ref x), .val (.ref y), .unset] [.int 1])) := c1.trans (by
      refine acmpNo X0.here hexec rfl (hb hbytes d2) rfl rfl rfl (by simp [acmp, hxy]) ?_
      refine iconstV X0.here hexec rfl 1 (hb hbytes d5) (by decide) ?_
      exact Steps.refl _)
    subst hxy
    have ec : cd = cd' := by
      obtain ⟨D, fd, a1, a2, a3⟩ := hx.2.2.1
      obtain ⟨D', fd', b1, b2, b3⟩ := hy.2.2.1
      cases a1.symm.trans b1
      obtain ⟨q1, q2, q3, q4⟩ := a2.1
      obtain ⟨r1, r2, r3, r4⟩ := b2.1
      cases q4.symm.trans r4
      cases a3.symm.trans b3; rfl
    have et : t = t' := by
      obtain ⟨D, fd, a1, a2, a3⟩ := hx.2.1
      obtain ⟨D', fd', b1, b2, b3⟩ := hy.2.1
      cases a1.symm.trans b1
      obtain ⟨q1, q2, q3, q4⟩ := a2.1
      obtain ⟨r1, r2, r3, r4⟩ := b2.1
      cases q4.symm.trans r4
      cases a3.symm.trans b3; rfl
    subst ec et
    have ev : V = V' := by cases hx.2.2.2.1.1.symm.trans hy.2.2.2.1.1; rfl
    subst ev
    have hs : SameT n f k g := (Cod.eqv hx.2.2.2.2.1 hy.2.2.2.2.1 hx.2.2.2.2.2 hy.2.2.2.2.2).mp ⟨rfl, fun _ _ => rfl⟩
    exact ⟨s₁, some (.int 1), _, _, _, X0, rfl, rfl, rfl, (fun h => by cases h), ⟨1, rfl, hh0, Or.inl ⟨rfl, hs⟩⟩, fun fs hl => c2.trans (X0.ireturnOut hexec hret rfl (Or.inr (Or.inl rfl)) (hb hbytes d6) hl)⟩
  · have c2 : Steps p.tables e below (s₁.setTop (entryFrame m #[.ref x, .ref y] 3)) (s₁.setTop (mkF m 8 #[.val (.ref x), .val (.ref y), .unset] [.ref y])) := c1.trans (by
      refine acmpYes X0.here hexec rfl (pc0 := 2) rfl (hb hbytes d2) rfl rfl rfl (by simp [acmp, hxy]) (by decide) rfl ?_
      refine XS.aloadN X0.here hexec rfl (hb hbytes d7) rfl rfl ?_
      exact Steps.refl _)
    obtain ⟨T3, X3, q3, st3⟩ := cinst X0 hexec hown (wk W (.classLink "java/lang/String" 10 "java/lang/String")) (hy.mv X0.warmed.alike hh0).1 (g := (mkF m 8 #[.val (.ref x), .val (.ref y), .unset] [.ref y])) rfl (rest := []) rfl (hb hbytes d8)
    have hh3 := q3.trans hh0
    have c4 : Steps p.tables e below (s₁.setTop (entryFrame m #[.ref x, .ref y] 3)) (T3.setTop (mkF m 15 #[.val (.ref x), .val (.ref y), .unset] [.ref y])) := (c2.trans (st3 _ (Steps.refl _))).trans (by
      refine XS.ifNo X3.here hexec rfl (hb hbytes d11) rfl (i0_eq_f (by decide)) ?_
      refine XS.aloadN X3.here hexec rfl (hb hbytes d14) rfl rfl ?_
      exact Steps.refl _)
    obtain ⟨T5, X5, q5, st5⟩ := cself X3 hexec hown (wk W (.classLink "java/lang/String" 10 "java/lang/String")) (hy.mv X3.warmed.alike hh3).1 (g := (mkF m 15 #[.val (.ref x), .val (.ref y), .unset] [.ref y])) rfl (rest := []) rfl (hb hbytes d15)
    have hh5 := q5.trans hh3
    have c6 : Steps p.tables e below (s₁.setTop (entryFrame m #[.ref x, .ref y] 3)) (T5.setTop (mkF m 19 #[.val (.ref x), .val (.ref y), .val (.ref y)] [])) := (c4.trans (st5 _ (Steps.refl _))).trans (by
      refine XS.astoreN X5.here hexec rfl (hb hbytes d18) rfl rfl rfl ?_
      exact Steps.refl _)
    obtain ⟨T7, X7, q7, st7⟩ := X5.sget hexec hown (wk W (.fieldLink "java/lang/String" 38 "java/lang/String" "COMPACT_STRINGS" "Z")) s1 (fun _ _ h => by rw [hh5]; exact h) (g := (mkF m 19 #[.val (.ref x), .val (.ref y), .val (.ref y)] [])) rfl (hb hbytes d19)
    have hh7 := q7.trans hh5
    have c8 : Steps p.tables e below (s₁.setTop (entryFrame m #[.ref x, .ref y] 3)) (T7.setTop (mkF m 26 #[.val (.ref x), .val (.ref y), .val (.ref y)] [.ref x])) := (c6.trans (st7 _ (Steps.refl _))).trans (by
      refine XS.ifNo X7.here hexec rfl (hb hbytes d22) rfl (i0_eq_f hz) ?_
      refine XS.aloadN X7.here hexec rfl (hb hbytes d25) rfl rfl ?_
      exact Steps.refl _)
    obtain ⟨T9, X9, q9, st9⟩ := X7.hget hexec hown (wk W (.fieldLink "java/lang/String" 15 "java/lang/String" "coder" "B")) (hx.mv X7.warmed.alike hh7).2.2.1 (g := (mkF m 26 #[.val (.ref x), .val (.ref y), .val (.ref y)] [.ref x])) rfl (rest := []) rfl (hb hbytes d26)
    have hh9 := q9.trans hh7
    have c10 : Steps p.tables e below (s₁.setTop (entryFrame m #[.ref x, .ref y] 3)) (T9.setTop (mkF m 30 #[.val (.ref x), .val (.ref y), .val (.ref y)] [.ref y, .int cd])) := (c8.trans (st9 _ (Steps.refl _))).trans (by
      refine XS.aloadN X9.here hexec rfl (hb hbytes d29) rfl rfl ?_
      exact Steps.refl _)
    obtain ⟨T11, X11, q11, st11⟩ := X9.hget hexec hown (wk W (.fieldLink "java/lang/String" 15 "java/lang/String" "coder" "B")) (hy.mv X9.warmed.alike hh9).2.2.1 (g := (mkF m 30 #[.val (.ref x), .val (.ref y), .val (.ref y)] [.ref y, .int cd])) rfl (rest := [.int cd]) rfl (hb hbytes d30)
    have hh11 := q11.trans hh9
    have c12 : Steps p.tables e below (s₁.setTop (entryFrame m #[.ref x, .ref y] 3)) (T11.setTop (mkF m 33 #[.val (.ref x), .val (.ref y), .val (.ref y)] [.int cd', .int cd])) := c10.trans (st11 _ (Steps.refl _))
    by_cases hcd : cd = cd'
    · subst hcd
      have c13 : Steps p.tables e below (s₁.setTop (entryFrame m #[.ref x, .ref y] 3)) (T11.setTop (mkF m 37 #[.val (.ref x), .val (.ref y), .val (.ref y)] [.ref x])) := c12.trans (by
        refine XS.icmpNo X11.here hexec rfl (hb hbytes d33) rfl (ii_ne_f rfl) ?_
        refine XS.aloadN X11.here hexec rfl (hb hbytes d36) rfl rfl ?_
        exact Steps.refl _)
      obtain ⟨T14, X14, q14, st14⟩ := X11.hget hexec hown (wk W (.fieldLink "java/lang/String" 9 "java/lang/String" "value" "[B")) (hx.mv X11.warmed.alike hh11).2.1 (g := (mkF m 37 #[.val (.ref x), .val (.ref y), .val (.ref y)] [.ref x])) rfl (rest := []) rfl (hb hbytes d37)
      have hh14 := q14.trans hh11
      have c15 : Steps p.tables e below (s₁.setTop (entryFrame m #[.ref x, .ref y] 3)) (T14.setTop (mkF m 41 #[.val (.ref x), .val (.ref y), .val (.ref y)] [.ref y, .ref t])) := (c13.trans (st14 _ (Steps.refl _))).trans (by
        refine XS.aloadN X14.here hexec rfl (hb hbytes d40) rfl rfl ?_
        exact Steps.refl _)
      obtain ⟨T16, X16, q16, st16⟩ := X14.hget hexec hown (wk W (.fieldLink "java/lang/String" 9 "java/lang/String" "value" "[B")) (hy.mv X14.warmed.alike hh14).2.1 (g := (mkF m 41 #[.val (.ref x), .val (.ref y), .val (.ref y)] [.ref y, .ref t])) rfl (rest := [.ref t]) rfl (hb hbytes d41)
      have hh16 := q16.trans hh14
      have c17 : Steps p.tables e below (s₁.setTop (entryFrame m #[.ref x, .ref y] 3)) (T16.setTop (mkF m 44 #[.val (.ref x), .val (.ref y), .val (.ref y)] [.ref t', .ref t])) := c15.trans (st16 _ (Steps.refl _))
      obtain ⟨v18, T18, X18, E18, g18⟩ := X16.callS hexec (LEq.law l t V t' V') hown (wks W (staticW "java/lang/String" 541 LEq.yN)) (wk W LEq.tab) (W := 0) (Nat.le_of_ble_eq_true rfl) (Nat.le_of_ble_eq_true rfl) (Nat.le_refl _) (Nat.le_refl _) (g := (mkF m 44 #[.val (.ref x), .val (.ref y), .val (.ref y)] [.ref t', .ref t])) rfl (by rw [hml]; rfl) c17 (argsL := [.ref t, .ref t']) (rest := []) rfl rfl (by show 2 * 0 + 0 ≤ _; decide) (hb hbytes d44) (⟨rfl, hx.2.2.2.1.mv X16.warmed.alike hh16, hx.2.2.2.2.1.ty, hy.2.2.2.1.mv X16.warmed.alike hh16, hy.2.2.2.2.1.ty⟩)
      obtain ⟨v, rfl, q18, hv⟩ := E18
      have iff := Cod.eqv hx.2.2.2.2.1 hy.2.2.2.2.1 hx.2.2.2.2.2 hy.2.2.2.2.2
      rcases hv with ⟨rfl, he⟩ | ⟨rfl, he⟩
      · have c19 : Steps p.tables e below (s₁.setTop (entryFrame m #[.ref x, .ref y] 3)) (T18.setTop (mkF m 55 #[.val (.ref x), .val (.ref y), .val (.ref y)] [.int 1])) := Steps.trans g18 (by
          refine XS.ifNo X18.here hexec rfl (hb hbytes d47) rfl (i0_eq_f (by decide)) ?_
          refine iconstV X18.here hexec rfl 1 (hb hbytes d50) (by decide) ?_
          refine XS.goto X18.here hexec rfl (pc0 := 51) rfl (hb hbytes d51) (by decide) rfl ?_
          exact Steps.refl _)
        exact ⟨T18, some (.int 1), _, _, _, X18, rfl, rfl, rfl, (fun h => by cases h), ⟨1, rfl, q18.trans hh16, Or.inl ⟨rfl, iff.mp he⟩⟩, fun fs hl => c19.trans (X18.ireturnOut hexec hret rfl (Or.inr (Or.inl rfl)) (hb hbytes d55) hl)⟩
      · have c19 : Steps p.tables e below (s₁.setTop (entryFrame m #[.ref x, .ref y] 3)) (T18.setTop (mkF m 55 #[.val (.ref x), .val (.ref y), .val (.ref y)] [.int 0])) := Steps.trans g18 (by
          refine XS.ifYes X18.here hexec rfl (pc0 := 47) rfl (hb hbytes d47) rfl (i0_eq_t rfl) (by decide) rfl ?_
          refine iconstV X18.here hexec rfl 0 (hb hbytes d54) (by decide) ?_
          exact Steps.refl _)
        exact ⟨T18, some (.int 0), _, _, _, X18, rfl, rfl, rfl, (fun h => by cases h), ⟨0, rfl, q18.trans hh16, Or.inr ⟨rfl, fun q => he (iff.mpr q)⟩⟩, fun fs hl => c19.trans (X18.ireturnOut hexec hret rfl (Or.inr (Or.inl rfl)) (hb hbytes d55) hl)⟩
    · have c13 : Steps p.tables e below (s₁.setTop (entryFrame m #[.ref x, .ref y] 3)) (T11.setTop (mkF m 55 #[.val (.ref x), .val (.ref y), .val (.ref y)] [.int 0])) := c12.trans (by
        refine XS.icmpYes X11.here hexec rfl (pc0 := 33) rfl (hb hbytes d33) rfl (ii_ne_t hcd) (by decide) rfl ?_
        refine iconstV X11.here hexec rfl 0 (hb hbytes d54) (by decide) ?_
        exact Steps.refl _)
      exact ⟨T11, some (.int 0), _, _, _, X11, rfl, rfl, rfl, (fun h => by cases h), ⟨0, rfl, hh11, Or.inr ⟨rfl, Cod.dif hx.2.2.2.2.1 hy.2.2.2.2.1 hcd⟩⟩, fun fs hl => c13.trans (X11.ireturnOut hexec hret rfl (Or.inr (Or.inl rfl)) (hb hbytes d55) hl)⟩
theorem pays {l : Launch} {R : Room} {p : Program} {e : Env} {below : List Frame} {s : State} {sargs : Array Value} {len W : Nat} (x t : Addr) (V : Cell) (cd : Int32) (n : Nat) (f : Nat → Int32) (y t' : Addr) (V' : Cell) (cd' : Int32) (k : Nat) (g : Nat → Int32) (z : Int32) (htab : tab.before sargs s = true) (hfr : 2 ≤ R.frames) (hlo : W + 28 ≤ R.locals) :
    Back l R p e below s sargs yN len W (fun A₁ a₁ => A₁.cells + 0 ≤ R.cells ∧ A₁.slots + 0 ≤ R.slots ∧ P x t V cd n f y t' V' cd' k g z a₁ A₁.U) (fun A₁ _ v₁ B₁ => Says01 (SameT n f k g) v₁ A₁.U B₁.U ∧ B₁.locs = A₁.locs ++ [] ∧ B₁.cells = A₁.cells + 0 ∧ B₁.slots = A₁.slots + 0) :=
  (law l x t V cd n f y t' V' cd' k g z).pays htab hfr (by omega)
end SEq
end StrChars
namespace StrChars.Road
open Jvm Sem ClassFile Op Lib Jvm.Stand Jvm.Free Jvm.Free.XT
open Jvm.Lib.Cold (StaticIs)
/-- the words of String.equals(Object) -/
abbrev wordsEq : List Jvm.Cond := [.code SEq.yN SEq.yB 3 (some .boolean), .initialized ST, .classLink ST 10 ST, .fieldLink ST 38 ST "COMPACT_STRINGS" "Z", .fieldLink ST 15 ST "coder" "B", .fieldLink ST 9 ST "value" "[B", .methodLink ST 541 LEq.yN, .static LEq.yN, .code LEq.yN LEq.yB 3 (some .boolean), .initialized "java/lang/StringLatin1"]
theorem tabEq_of {a : Array Value} {s : State} (h : ∀ w ∈ wordsEq, w.before a s = true) : SEq.tab.before a s = true := by
  have hl : LEq.tab.before a s = true := unparts (wk h (.code LEq.yN LEq.yB 3 (some .boolean))) (wks h (.initialized LEq.yN.cls :: LEq.site))
  have q := consq hl h
  exact unparts (wk q (.code SEq.yN SEq.yB 3 (some .boolean))) (wks q (.initialized SEq.yN.cls :: SEq.site))
theorem movedEq {Z s : State} {a0 args : Array Value} (hZ : Z.Warmed39 s.vm) (hw : ∀ d ∈ wordsEq, d.before a0 Z = true) : ∀ d ∈ wordsEq, d.before args s = true := fun d hd => by
  have t : ∀ d ∈ wordsEq, (d.onTables && d.keepsFace) = true := by decide +kernel
  exact RoadKit.mv hZ (hw d hd) (t d hd)
/-- the road's facts of a String, as the laws ask it -/
theorem txt_of {Z U : State} {a0 : Array Value} {kI : Nat} (wi : (Jvm.Cond.instantiable ST kI).before a0 Z = true) (al : Z.vm.Alike U.vm) {x t : Addr} {kb : ClassId} {cs : List Int32} {cd N2 : Int32} {vs : List Value} (E : RoadKit.Exa Z U.heap x ST) (V : RoadKit.Fld Z U.heap x ST "value" "[B" (.ref t)) (C : RoadKit.Fld Z U.heap x ST "coder" "B" (.int cd)) (K : RoadKit.Arv Z U.heap t kb .byte N2 vs (.int 0)) (hc : CodA cs cd N2 vs) (hb : ∀ c ∈ cs, ¬ c < 0 ∧ ¬ (65535 : Int32) < c) (l2 : cs.length ≤ 4000) :
    ∃ A, Txt x t A cd cs.length (fun j => cs.getD j 0) U := by
  obtain ⟨A, K1, K2, K3, K4, K5, K6⟩ := K
  have hcod := hc.cod (by omega) K3 K5
  obtain ⟨D, fV, fC, hB, F1, F2, g1, g2, -, -⟩ := strObj wi al E V C
  exact ⟨A, ⟨_, hB.2.2.1, D, hB.1, rfl, by cases q : D.vm <;> first | rfl | exact absurd q (hB.2.1.2 _)⟩, Has.of hB F1 g1, Has.of hB F2 g2, ⟨K1.1, State.isArrayOf_alike al K1.2.1, K1.2.2, by rcases hcod with ⟨-, q, -⟩ | ⟨-, q, -⟩ <;> omega⟩, hcod, fun j hj => by
    have e : cs.getD j 0 = cs[j] := by simp [List.getD_eq_getElem?_getD, hj]
    show ¬ cs.getD j 0 < 0 ∧ ¬ 65535 < cs.getD j 0
    rw [e]; exact hb _ (List.getElem_mem _)⟩
theorem same_list (cs ds : List Int32) : SameT cs.length (fun j => cs.getD j 0) ds.length (fun j => ds.getD j 0) ↔ cs = ds := by
  constructor
  · rintro ⟨e, q⟩
    refine List.ext_getElem e fun j h1 h2 => ?_
    have := q j h1
    simpa [List.getD_eq_getElem?_getD, h1, h2] using this
  · rintro rfl
    exact ⟨rfl, fun _ _ => rfl⟩
/-- **equals(Object) OF TWO SUCH STRINGS**: 1 just where the chars are the same -/
theorem eqW {p : Program} {l : Launch} {e : Env} {R : Room} {s : State} {args : Array Value} {below : List Frame} {len W : Nat} {Z : State} {a0 : Array Value} {h : Heap} (hZ : Z.Warmed39 s.vm) (hw : ∀ d ∈ wordsEq, d.before a0 Z = true) {kI : Nat} (wi : (Jvm.Cond.instantiable ST kI).before a0 Z = true)
    {x t : Addr} {kb : ClassId} {cs : List Int32} {cd N2 : Int32} {vs : List Value} (E : RoadKit.Exa Z h x ST) (V : RoadKit.Fld Z h x ST "value" "[B" (.ref t)) (C : RoadKit.Fld Z h x ST "coder" "B" (.int cd)) (K : RoadKit.Arv Z h t kb .byte N2 vs (.int 0)) (hc : CodA cs cd N2 vs) (hb : ∀ c ∈ cs, ¬ c < 0 ∧ ¬ (65535 : Int32) < c) (l2 : cs.length ≤ 4000)
    {y t' : Addr} {kb' : ClassId} {ds : List Int32} {cd' N2' : Int32} {vs' : List Value} (E' : RoadKit.Exa Z h y ST) (V' : RoadKit.Fld Z h y ST "value" "[B" (.ref t')) (C' : RoadKit.Fld Z h y ST "coder" "B" (.int cd')) (K' : RoadKit.Arv Z h t' kb' .byte N2' vs' (.int 0)) (hc' : CodA ds cd' N2' vs') (hb' : ∀ c ∈ ds, ¬ c < 0 ∧ ¬ (65535 : Int32) < c) (l2' : ds.length ≤ 4000)
    {z : Int32} (S : RoadKit.Sta Z h ST "COMPACT_STRINGS" "Z" (.int z)) (hz : ¬ z = 0) (hfr : 2 ≤ R.frames) (hlo : W + 28 ≤ R.locals) :
    Back l R p e below s args (⟨"java/lang/String", "equals", "(Ljava/lang/Object;)Z"⟩ : MethodName) len W (fun P a => a = #[.ref x, .ref y] ∧ P.U.heap = h ∧ P.cells + 0 ≤ R.cells ∧ P.slots + 0 ≤ R.slots)
      (fun P _ v B => ∃ L, (((v = some (.int 1) ∧ cs = ds) ∨ (v = some (.int 0) ∧ ¬ cs = ds)) ∧ L = [] ∧ B.U.heap = h) ∧ B.locs = P.locs ++ L ∧ B.cells = P.cells + 0 ∧ B.slots = P.slots + 0) := by
  intro m meth c P g ig mk a X hg hsize hdg hW hn hp'
  obtain ⟨rfl, rfl, r1, r2⟩ := hp'
  have al : Z.vm.Alike P.U.vm := hZ.alike.trans X.warmed.alike
  obtain ⟨A, hx⟩ := txt_of wi al E V C K hc hb l2
  obtain ⟨A', hy⟩ := txt_of wi al E' V' C' K' hc' hb' l2'
  obtain ⟨v, B, X', ⟨⟨w, hv, hh, hq⟩, hl, hk, hs⟩, st⟩ := SEq.pays x t A cd cs.length (fun j => cs.getD j 0) y t' A' cd' ds.length (fun j => ds.getD j 0) z (tabEq_of (movedEq hZ hw)) hfr hlo m meth c P g ig mk _ X hg hsize hdg hW hn ⟨r1, r2, rfl, hx, hy, sta_is al S, hz⟩
  refine ⟨v, B, X', ⟨[], ⟨?_, rfl, hh⟩, hl, hk, hs⟩, st⟩
  rcases hq with ⟨rfl, q⟩ | ⟨rfl, q⟩
  · exact Or.inl ⟨hv, (same_list cs ds).mp q⟩
  · exact Or.inr ⟨hv, fun e => q ((same_list cs ds).mpr e)⟩
end StrChars.Road
namespace StrChars.Road
open Jvm Sem ClassFile Op Lib Jvm.Stand Jvm.Free Jvm.Free.XT
open Jvm.Lib.Cold (StaticIs)
/-- what backV says of its String, as the contracts of this text ask it: cs's low bytes, coder 0 -/
theorem codOf {cs : List Int32} {n : Nat} (hn : cs.length = n) (hb : ∀ c ∈ cs, ¬ 255 < c) : CodA cs 0 (Int32.ofNat n) ((cs.map lo8).map Value.int) := Or.inl ⟨rfl, by rw [hn], by simp [List.map_map, Function.comp_def], hb⟩
end StrChars.Road
end Jvm.Pilot.@@N@@
namespace Jvm.Pilot.@@N@@
open Jvm Jvm.ClassFile Sem Op Lib Jvm.Free Jvm.Stand Jvm.LawKit Jvm.RoadKit Bundle Jvm.Pilot.@@N@@.Jvm.D
abbrev GG (p : Program) (e : Env) (below : List Frame) (T : State) (g : JFrame) (t : State) : Prop := Steps p.tables e below (T.setTop g) t
theorem ww {a0 : Array Value} {Z : State} (hw : ∀ d ∈ tables_1, d.before a0 Z = true) (i : Nat) {d : Jvm.Cond} (h : tables_1[i]? = some d) : d.before a0 Z = true := hw d (List.mem_of_getElem? h)
theorem own_decl {a0 : Array Value} {Z : State} {y : MethodName} {bytes : ByteArray} {maxL : Nat} {ret : Option FieldType} (hi : (Cond.instanceMethod y).before a0 Z = true) (hc : (Cond.code y bytes maxL ret).before a0 Z = true) : (Cond.declares y).before a0 Z = true := by
  obtain ⟨mk, methM, hnamed, hmethM, hst, hab⟩ := Cond.instanceMethod_spec hi
  obtain ⟨meth, c, h1, -, -, -, -, -, -, hsig⟩ := Cond.code_spec hnamed hc
  cases hmethM.symm.trans h1
  simp [Cond.before, Cond.holds, Cond.value, hnamed, hmethM, hst, hsig]
theorem own_nf {args : Array Value} {s : State} {C : String} {y y' : MethodName} (hsel : (Cond.selects C y' y').before args s = true) (e : y'.cls = y.cls) : NotFace s y := fun r0 h0 => by
  obtain ⟨c2, r2, m2, q1, q2, q3, q4, kP, hkP, hkPi⟩ := Cond.selects_spec hsel
  have f1 := findClass_of_methodNamed h0
  have f2 := findClass_of_methodNamed q3
  rw [e, f1] at f2
  have f3 : r0.cls = m2.cls := Option.some.inj f2
  exact ⟨kP, by rw [f3]; exact hkP, hkPi⟩
theorem own_same {a0 : Array Value} {Z : State} {C : String} {y y' : MethodName} (hd : (Cond.declares y).before a0 Z = true) (hsel : (Cond.selects C y' y').before a0 Z = true) (e : y'.cls = y.cls) (hy : y.cls ≠ "java/lang/invoke/MethodHandle" ∧ y.cls ≠ "java/lang/invoke/VarHandle") : (Cond.sameMethod y.cls y.cls y.name y.desc).before a0 Z = true := by
  obtain ⟨r0, r, hn, hrm, hst, hsig⟩ := Cond.declares_spec hd
  obtain ⟨k, hk, hki⟩ := own_nf hsel e r0 hn
  have f1 := findClass_of_methodNamed hn
  have mf := State.methodFound?_of_named hn hy
  simp [Cond.before, Cond.holds, Cond.value, f1, mf, hn, hk, hki]
theorem mw {d : Jvm.Cond} {Z s : State} {a0 args : Array Value} (hZ : Z.Warmed39 s.vm) (hw : ∀ d ∈ tables_1, d.before a0 Z = true) (i : Nat) (h : tables_1[i]? = some d) (hd : (d.onTables && d.keepsFace) = true := by first | rfl | simp [Cond.onTables, Cond.keepsFace, Cond.keeps, Cond.steady]) : d.before args s = true := mvT hZ (hw d (List.mem_of_getElem? h)) hd
theorem own_cl (n : Nat) (h : n < 2147483648) : (Int32.ofNat n).toNatClampNeg = n := by
  have e := Int32.toInt_ofNat_of_lt (n := n) (by omega)
  simp only [Int32.toNatClampNeg, e]; omega
theorem own_nn (n : Nat) (h : n < 2147483648) : ¬ (Int32.ofNat n) < 0 := by
  rw [Int32.lt_iff_toInt_lt, Int32.toInt_ofNat_of_lt (by omega)]
  have e0 : (0 : Int32).toInt = 0 := rfl
  omega
theorem own_add (a b : Nat) : Int32.ofNat a + Int32.ofNat b = Int32.ofNat (a + b) := (Int32.ofNat_add a b).symm
theorem own_shl0 (x : Int32) : x <<< ((0 : Int32) &&& 31) = x := by
  apply Int32.toBitVec_inj.mp
  rw [show ((0 : Int32) &&& 31) = 0 from rfl, Int32.toBitVec_shiftLeft]
  simp
theorem own_shr0 (x : Int32) : x >>> ((0 : Int32) &&& 31) = x := by
  apply Int32.toBitVec_inj.mp
  rw [show ((0 : Int32) &&& 31) = 0 from rfl, Int32.toBitVec_shiftRight]
  simp
theorem own_cap (n c : Nat) (h : n ≤ c) (hc : c < 1073741824) : ¬ (0 : Int32) < (Int32.ofNat n - Int32.ofNat c) := by
  have e : (Int32.ofNat n - Int32.ofNat c).toInt = (n : Int) - c := by
    rw [Int32.toInt_sub, Int32.toInt_ofNat_of_lt (by omega), Int32.toInt_ofNat_of_lt (by omega)]
    exact Int.bmod_eq_of_le (by omega) (by omega)
  rw [Int32.lt_iff_toInt_lt, e]
  have e0 : (0 : Int32).toInt = 0 := rfl
  omega
theorem own_us (ss : List Value) (d : Value) : ss = (List.range ss.length).map fun i => ss.getD (0 + i) d := by
  apply List.ext_getElem
  · simp
  · intro i h1 h2
    simp [List.getD_eq_getElem?_getD, h1]
theorem own_cp (bs ss rs : List Value) (h : rs.length = ss.length) : (bs ++ rs).take bs.length ++ ss ++ (bs ++ rs).drop (bs.length + ss.length) = bs ++ ss := by
  simp [List.drop_append, h]

theorem ef_canEncode (m : MethodId) (x0 : Int32) : entryFrame m #[(.int x0)] 1 = mkF m 0 #[.val (.int x0)] [] := by first | (simp [entryFrame, mkF, argsToLocals, Value.category]; done) | rfl
theorem pn_0 : plainName "java/lang/StringLatin1" = true := by first | (simp [plainName, overriddenIn]; done) | decide +kernel
theorem d_canEncode_0 : decode jdk_43_method_3_code 0 = .ok (.iload_n 0, 1) := by decide +kernel
theorem d_canEncode_1 : decode jdk_43_method_3_code 1 = .ok (.sipush 255, 3) := by decide +kernel
theorem d_canEncode_4 : decode jdk_43_method_3_code 4 = .ok (.if_icmp .gt 7, 3) := by decide +kernel
theorem d_canEncode_7 : decode jdk_43_method_3_code 7 = .ok (.iconst 1, 1) := by decide +kernel
theorem d_canEncode_8 : decode jdk_43_method_3_code 8 = .ok (.goto 4, 3) := by decide +kernel
theorem d_canEncode_12 : decode jdk_43_method_3_code 12 = .ok (.ireturn, 1) := by decide +kernel
def Q_canEncode (Z : State) (cc : Int32) (h0 : Heap) (n0 : Nat) (v : Option Value) (h : Heap) (L : List Loc) : Prop := v = some (.int (1 : Int32)) ∧ Fr n0 L ∧ h = h0
set_option maxRecDepth 65536 in
set_option maxHeartbeats 40000000 in
theorem rm_canEncode (l : Launch) (Z : State) (a0 : Array Value) (hw : ∀ d ∈ tables_1, d.before a0 Z = true) (ws : List Jvm.Cond) (cc : Int32) (h0 : Heap) (n0 : Nat) (Z0 : n0 ≤ h0.size) (hcc : ¬ (255 : Int32) < cc) :
    MetFree l (⟨"java/lang/StringLatin1", "canEncode", "(C)Z"⟩ : MethodName) (head1 (Jvm.Cond.code (⟨"java/lang/StringLatin1", "canEncode", "(C)Z"⟩ : MethodName) jdk_43_method_3_code 1 (some .boolean) :: ws) ({ frames := 0, cells := 0, slots := 0, locals := 0 } : Room)) (fun a U => a = #[(.int cc)] ∧ Z.Warmed39 U.vm ∧ U.heap = h0) (fun _ _ _ _ _ => True) (fun _ U o U' => ∃ v L, o = .returned v ∧ Q_canEncode Z cc h0 n0 v U'.heap L ∧ FrameEnd U o U' L ({ frames := 0, cells := 0, slots := 0, locals := 0 } : Room).cells ({ frames := 0, cells := 0, slots := 0, locals := 0 } : Room).slots) := by
  refine MetFree.of_bodySF (plainFor_of_name pn_0) hisR ?_
  intro p e s m args below meth c s₁ Bd hml0 hP hK
  obtain ⟨rfl, hZ, hh⟩ := hP
  have hx := Bd.exec
  have hby := Bd.bytes
  have hml : c.maxLocals = 1 := hml0
  have hown : s.vm.findClass "java/lang/StringLatin1" = some m.cls := findClass_of_methodNamed Bd.named
  have hnm := (name_of_methodNamed Bd.named Bd.method).1
  have X0 : Stand p l e ({ frames := 0, cells := 0, slots := 0, locals := 0 } : Room) s m #[(.int cc)] below meth c s₁ [] 0 0 := Stand.of_body Bd
  have e0 : s₁.heap = h0 := by rw [← hh, Bd.state]; rfl
  have N0 := Fr.nil n0
  obtain ⟨s0, hs0⟩ : ∃ z, z = (s₁.setTop (entryFrame m #[(.int cc)] 1)) := ⟨_, rfl⟩
  have P0 : ∀ tt_, GG p e below s₁ (mkF m 0 #[.val (.int cc)] []) tt_ → Steps p.tables e below s0 tt_ := fun tt_ kk_ => by rw [hs0]; exact castTop (ef_canEncode m cc) kk_
  have P1 : ∀ tt_, GG p e below s₁ (mkF m 12 #[.val (.int cc)] [(.int (1 : Int32))]) tt_ → Steps p.tables e below s0 tt_ := fun tt_ kk_ => P0 tt_ (by
    refine XS.iloadN X0.here hx rfl (hb hby d_canEncode_0) rfl ?_
    refine XS.sipush X0.here hx rfl (hb hby d_canEncode_1) ?_
    refine XS.icmpNo X0.here hx rfl (hb hby d_canEncode_4) rfl (flt (hcc : ¬ ((255 : Int32) < cc))).2.2.1 ?_
    refine XS.iconst X0.here hx rfl (hb hby d_canEncode_7) ?_
    refine XS.goto X0.here hx rfl (pc0 := 8) (pc' := 12) rfl (hb hby d_canEncode_8) (by decide) (by decide) ?_
    exact kk_)
  subst hs0
  obtain ⟨fs, hr, hrun, hended, hW, hsame⟩ := X0.leave (v := some (.int (nar .boolean (1 : Int32)))) (fun h => by rw [Bd.returns] at h; cases h)
  refine ⟨_, _, P1 _ ?_, hrun, hended, _, _, rfl, ?_, ⟨_, rfl⟩, hW, hsame.mono (by decide) (by decide)⟩
  · show GG p e below s₁ (mkF m 12 #[.val (.int cc)] [(.int (1 : Int32))]) _
    exact retN X0 hx (t := .boolean) Bd.returns (by simp) (hb hby d_canEncode_12) hr
  · show Q_canEncode Z cc h0 n0 _ s₁.heap _
    rw [e0]
    exact ⟨rfl, N0, rfl⟩
theorem ef_toBytes (m : MethodId) (x0 : Int32) : entryFrame m #[(.int x0)] 1 = mkF m 0 #[.val (.int x0)] [] := by first | (simp [entryFrame, mkF, argsToLocals, Value.category]; done) | rfl
theorem d_toBytes_0 : decode jdk_43_method_46_code 0 = .ok (.iconst 1, 1) := by decide +kernel
theorem d_toBytes_1 : decode jdk_43_method_46_code 1 = .ok (.newarray .byte, 2) := by decide +kernel
theorem d_toBytes_3 : decode jdk_43_method_46_code 3 = .ok (.dup, 1) := by decide +kernel
theorem d_toBytes_4 : decode jdk_43_method_46_code 4 = .ok (.iconst 0, 1) := by decide +kernel
theorem d_toBytes_5 : decode jdk_43_method_46_code 5 = .ok (.iload_n 0, 1) := by decide +kernel
theorem d_toBytes_6 : decode jdk_43_method_46_code 6 = .ok (.i2b, 1) := by decide +kernel
theorem d_toBytes_7 : decode jdk_43_method_46_code 7 = .ok (.bastore, 1) := by decide +kernel
theorem d_toBytes_8 : decode jdk_43_method_46_code 8 = .ok (.areturn, 1) := by decide +kernel
def Q_toBytes (Z : State) (cc : Int32) (h0 : Heap) (n0 : Nat) (v : Option Value) (h : Heap) (L : List Loc) : Prop := ∃ (t : Addr) (kb : ClassId), v = some (.ref t) ∧ Fr n0 L ∧ Keep h0 h [] ∧ (h0.size ≤ t) ∧ (Arv Z h t kb .byte (1 : Int32) [(.int (nar .byte (cc.toInt8.toInt32)))] (.int (0 : Int32)))
set_option maxRecDepth 65536 in
set_option maxHeartbeats 40000000 in
theorem rm_toBytes (l : Launch) (Z : State) (a0 : Array Value) (hw : ∀ d ∈ tables_1, d.before a0 Z = true) (ws : List Jvm.Cond) (cc : Int32) (h0 : Heap) (n0 : Nat) (Z0 : n0 ≤ h0.size) :
    MetFree l (⟨"java/lang/StringLatin1", "toBytes", "(C)[B"⟩ : MethodName) (head1 (Jvm.Cond.code (⟨"java/lang/StringLatin1", "toBytes", "(C)[B"⟩ : MethodName) jdk_43_method_46_code 1 (some (.array .byte)) :: ws) ({ frames := 0, cells := 1, slots := 1, locals := 0 } : Room)) (fun a U => a = #[(.int cc)] ∧ Z.Warmed39 U.vm ∧ U.heap = h0) (fun _ _ _ _ _ => True) (fun _ U o U' => ∃ v L, o = .returned v ∧ Q_toBytes Z cc h0 n0 v U'.heap L ∧ FrameEnd U o U' L ({ frames := 0, cells := 1, slots := 1, locals := 0 } : Room).cells ({ frames := 0, cells := 1, slots := 1, locals := 0 } : Room).slots) := by
  refine MetFree.of_bodySF (plainFor_of_name pn_0) hisR ?_
  intro p e s m args below meth c s₁ Bd hml0 hP hK
  obtain ⟨rfl, hZ, hh⟩ := hP
  have hx := Bd.exec
  have hby := Bd.bytes
  have hml : c.maxLocals = 1 := hml0
  have hown : s.vm.findClass "java/lang/StringLatin1" = some m.cls := findClass_of_methodNamed Bd.named
  have hnm := (name_of_methodNamed Bd.named Bd.method).1
  have X0 : Stand p l e ({ frames := 0, cells := 1, slots := 1, locals := 0 } : Room) s m #[(.int cc)] below meth c s₁ [] 0 0 := Stand.of_body Bd
  have e0 : s₁.heap = h0 := by rw [← hh, Bd.state]; rfl
  have N0 := Fr.nil n0
  obtain ⟨s0, hs0⟩ : ∃ z, z = (s₁.setTop (entryFrame m #[(.int cc)] 1)) := ⟨_, rfl⟩
  have P0 : ∀ tt_, GG p e below s₁ (mkF m 0 #[.val (.int cc)] []) tt_ → Steps p.tables e below s0 tt_ := fun tt_ kk_ => by rw [hs0]; exact castTop (ef_toBytes m cc) kk_
  have P1 : ∀ tt_, GG p e below s₁ (mkF m 1 #[.val (.int cc)] [(.int (1 : Int32))]) tt_ → Steps p.tables e below s0 tt_ := fun tt_ kk_ => P0 tt_ (by
    refine XS.iconst X0.here hx rfl (hb hby d_toBytes_0) ?_
    exact kk_)
  obtain ⟨T2, h2, k2, X2, e2, E2, A2, st2⟩ := newP X0 hx hZ (ww hw 19 rfl) e0 (g := (mkF m 1 #[.val (.int cc)] [(.int (1 : Int32))])) rfl (hb hby d_toBytes_1) rfl (by decide) (cap := 1) (by decide) (by decide) (by decide) (by decide)
  obtain ⟨b2, g2⟩ : ∃ z, z = h0.size := ⟨_, rfl⟩
  rw [← g2] at A2 st2
  have P3 : ∀ tt_, GG p e below T2 (mkF m 3 #[.val (.int cc)] [(.ref b2)]) tt_ → Steps p.tables e below s0 tt_ := fun tt_ kk_ => P1 tt_ (st2 _ kk_)
  have sz_b2 : h0.size ≤ b2 := Nat.le_trans (Nat.le_refl h0.size) (Nat.le_of_eq g2.symm)
  have K2 : Keep h0 h2 [] := (Keep.refl h0 []).ext E2
  obtain ⟨Lf4, X2, N4⟩ : ∃ Lf, Stand p l e ({ frames := 0, cells := 1, slots := 1, locals := 0 } : Room) s m #[(.int cc)] below meth c T2 Lf 1 1 ∧ Fr n0 Lf := ⟨_, X2, N0⟩
  have V_b2 : Arv Z h2 b2 k2 .byte (1 : Int32) [(.int (0 : Int32))] (.int (0 : Int32)) := (Arv.new A2 (by decide)).pad (pad_rep [] (.int (0 : Int32)) 1)
  have P5 : ∀ tt_, GG p e below T2 (mkF m 7 #[.val (.int cc)] [(.int (cc.toInt8.toInt32)), (.int (0 : Int32)), (.ref b2), (.ref b2)]) tt_ → Steps p.tables e below s0 tt_ := fun tt_ kk_ => P3 tt_ (by
    refine XS.dup X2.here hx rfl (hb hby d_toBytes_3) rfl rfl ?_
    refine XS.iconst X2.here hx rfl (hb hby d_toBytes_4) ?_
    refine XS.iloadN X2.here hx rfl (hb hby d_toBytes_5) rfl ?_
    refine XS.i2b X2.here hx rfl (hb hby d_toBytes_6) rfl ?_
    exact kk_)
  obtain ⟨cl6, Ar6, q6, S6, M6, Hs6, G6⟩ := V_b2
  obtain ⟨T6, h6, X6, e6, W6, st6⟩ := stB X2 hx hZ e2 Ar6 (j := (0 : Int32)) (inb_of S6 ⟨by decide, by decide⟩) (g := (mkF m 7 #[.val (.int cc)] [(.int (cc.toInt8.toInt32)), (.int (0 : Int32)), (.ref b2), (.ref b2)])) rfl rfl (hb hby d_toBytes_7)
  have P7 : ∀ tt_, GG p e below T6 (mkF m 8 #[.val (.int cc)] [(.ref b2)]) tt_ → Steps p.tables e below s0 tt_ := fun tt_ kk_ => P5 tt_ (st6 _ kk_)
  have N6 := Fr.snoc X6 N4 (Nat.le_trans Z0 sz_b2)
  have K6 : Keep h0 h6 [] := K2.wr W6 (Or.inr sz_b2)
  have V_b2 : Arv Z h6 b2 k2 .byte (1 : Int32) [(.int (nar .byte (cc.toInt8.toInt32)))] (.int (0 : Int32)) := Arv.set Ar6 q6 S6 M6 Hs6 G6 (fits_nar_byte _) W6 0 rfl (Nat.le_of_ble_eq_true rfl)
  subst hs0
  obtain ⟨fs, hr, hrun, hended, hW, hsame⟩ := X6.leave (v := some (.ref b2)) (fun h => by rw [Bd.returns] at h; cases h)
  refine ⟨_, _, P7 _ ?_, hrun, hended, _, _, rfl, ?_, ⟨_, rfl⟩, hW, hsame.mono (by decide) (by decide)⟩
  · show GG p e below T6 (mkF m 8 #[.val (.int cc)] [(.ref b2)]) _
    jvm_step X6.here [X6.here.top, hx, (hb hby d_toBytes_8), X6.method', Bd.returns, Value.isRef, FieldType.isReference]
    first | (intro acts; rw [hr _ acts rfl rfl rfl]) | rw [hr _ _ rfl rfl rfl]
    exact Steps.refl _
  · show Q_toBytes Z cc h0 n0 _ T6.heap _
    rw [e6]
    exact ⟨b2, k2, rfl, N6, K6, sz_b2, V_b2⟩
theorem ef_init (m : MethodId) (x0 : Addr) (x1 : Addr) (x2 : Int32) : entryFrame m #[(.ref x0), (.ref x1), (.int x2)] 3 = mkF m 0 #[.val (.ref x0), .val (.ref x1), .val (.int x2)] [] := by first | (simp [entryFrame, mkF, argsToLocals, Value.category]; done) | rfl
theorem pn_1 : plainName "java/lang/String" = true := by first | (simp [plainName, overriddenIn]; done) | decide +kernel
theorem d_init_0 : decode jdk_42_method_151_code 0 = .ok (.aload_n 0, 1) := by decide +kernel
theorem d_init_1 : decode jdk_42_method_151_code 1 = .ok (.invokespecial 1, 3) := by decide +kernel
theorem d_init_4 : decode jdk_42_method_151_code 4 = .ok (.aload_n 0, 1) := by decide +kernel
theorem d_init_5 : decode jdk_42_method_151_code 5 = .ok (.aload_n 1, 1) := by decide +kernel
theorem d_init_6 : decode jdk_42_method_151_code 6 = .ok (.putfield 9, 3) := by decide +kernel
theorem d_init_9 : decode jdk_42_method_151_code 9 = .ok (.aload_n 0, 1) := by decide +kernel
theorem d_init_10 : decode jdk_42_method_151_code 10 = .ok (.iload_n 2, 1) := by decide +kernel
theorem d_init_11 : decode jdk_42_method_151_code 11 = .ok (.putfield 15, 3) := by decide +kernel
theorem d_init_14 : decode jdk_42_method_151_code 14 = .ok (.return_, 1) := by decide +kernel
def Q_init (Z : State) (xs : Addr) (tb : Addr) (cd : Int32) (u1 : Value) (u2 : Value) (h0 : Heap) (n0 : Nat) (v : Option Value) (h : Heap) (L : List Loc) : Prop := v = none ∧ Fr n0 L ∧ Keep h0 h [xs] ∧ (Exa Z h xs "java/lang/String") ∧ (Fld Z h xs "java/lang/String" "value" "[B" (.ref tb)) ∧ (Fld Z h xs "java/lang/String" "coder" "B" (.int (nar .byte cd)))
set_option maxRecDepth 65536 in
set_option maxHeartbeats 40000000 in
theorem rm_init (l : Launch) (Z : State) (a0 : Array Value) (hw : ∀ d ∈ tables_1, d.before a0 Z = true) (ws : List Jvm.Cond) (xs : Addr) (tb : Addr) (cd : Int32) (u1 : Value) (u2 : Value) (h0 : Heap) (n0 : Nat) (Z0 : n0 ≤ h0.size) (E_xs : Exa Z h0 xs "java/lang/String") (F_value_xs : Fld Z h0 xs "java/lang/String" "value" "[B" u1) (F_coder_xs : Fld Z h0 xs "java/lang/String" "coder" "B" u2) (g_xs : n0 ≤ xs) :
    MetFree l (⟨"java/lang/String", "<init>", "([BB)V"⟩ : MethodName) (head1 (Jvm.Cond.code (⟨"java/lang/String", "<init>", "([BB)V"⟩ : MethodName) jdk_42_method_151_code 3 none :: ws) ({ frames := 1, cells := 0, slots := 0, locals := 12 } : Room)) (fun a U => a = #[(.ref xs), (.ref tb), (.int cd)] ∧ Z.Warmed39 U.vm ∧ U.heap = h0) (fun _ _ _ _ _ => True) (fun _ U o U' => ∃ v L, o = .returned v ∧ Q_init Z xs tb cd u1 u2 h0 n0 v U'.heap L ∧ FrameEnd U o U' L ({ frames := 1, cells := 0, slots := 0, locals := 12 } : Room).cells ({ frames := 1, cells := 0, slots := 0, locals := 12 } : Room).slots) := by
  refine MetFree.of_bodySF (plainFor_of_name pn_1) hisR ?_
  intro p e s m args below meth c s₁ Bd hml0 hP hK
  obtain ⟨rfl, hZ, hh⟩ := hP
  have hx := Bd.exec
  have hby := Bd.bytes
  have hml : c.maxLocals = 3 := hml0
  have hown : s.vm.findClass "java/lang/String" = some m.cls := findClass_of_methodNamed Bd.named
  have hnm := (name_of_methodNamed Bd.named Bd.method).1
  have X0 : Stand p l e ({ frames := 1, cells := 0, slots := 0, locals := 12 } : Room) s m #[(.ref xs), (.ref tb), (.int cd)] below meth c s₁ [] 0 0 := Stand.of_body Bd
  have e0 : s₁.heap = h0 := by rw [← hh, Bd.state]; rfl
  have N0 := Fr.nil n0
  obtain ⟨s0, hs0⟩ : ∃ z, z = (s₁.setTop (entryFrame m #[(.ref xs), (.ref tb), (.int cd)] 3)) := ⟨_, rfl⟩
  have P0 : ∀ tt_, GG p e below s₁ (mkF m 0 #[.val (.ref xs), .val (.ref tb), .val (.int cd)] []) tt_ → Steps p.tables e below s0 tt_ := fun tt_ kk_ => by rw [hs0]; exact castTop (ef_init m xs tb cd) kk_
  have P1 : ∀ tt_, GG p e below s₁ (mkF m 1 #[.val (.ref xs), .val (.ref tb), .val (.int cd)] [(.ref xs)]) tt_ → Steps p.tables e below s0 tt_ := fun tt_ kk_ => P0 tt_ (by
    refine XS.aloadN X0.here hx rfl (hb hby d_init_0) rfl rfl ?_
    exact kk_)
  obtain ⟨T2, X2, e2, st2⟩ := initO X0 hx hZ hown (ww hw 11 rfl) (ww hw 12 rfl) (ww hw 13 rfl) e0 (g := (mkF m 1 #[.val (.ref xs), .val (.ref tb), .val (.int cd)] [(.ref xs)])) rfl (by rw [hml]; rfl) rfl (hb hby d_init_1) (by decide) (W := 0) (by show 2 * 0 + _ ≤ _; exact Nat.le_of_eq rfl) (by decide)
  have P3 : ∀ tt_, GG p e below T2 (mkF m 4 #[.val (.ref xs), .val (.ref tb), .val (.int cd)] []) tt_ → Steps p.tables e below s0 tt_ := fun tt_ kk_ => P1 tt_ (st2 _ kk_)
  have P4 : ∀ tt_, GG p e below T2 (mkF m 6 #[.val (.ref xs), .val (.ref tb), .val (.int cd)] [(.ref tb), (.ref xs)]) tt_ → Steps p.tables e below s0 tt_ := fun tt_ kk_ => P3 tt_ (by
    refine XS.aloadN X2.here hx rfl (hb hby d_init_4) rfl rfl ?_
    refine XS.aloadN X2.here hx rfl (hb hby d_init_5) rfl rfl ?_
    exact kk_)
  obtain ⟨T5, h5, X5, e5, W5, st5⟩ := putF X2 hx hZ hown (host := "") (Or.inl (ww hw 28 rfl)) Via.refl e2 F_value_xs E_xs (Or.inr ⟨(ww hw 29 rfl), rfl, hnm⟩) (ww hw 1 rfl) (ty := (.array .byte)) (by decide) rfl rfl (g := (mkF m 6 #[.val (.ref xs), .val (.ref tb), .val (.int cd)] [(.ref tb), (.ref xs)])) rfl rfl (hb hby d_init_6)
  have P6 : ∀ tt_, GG p e below T5 (mkF m 9 #[.val (.ref xs), .val (.ref tb), .val (.int cd)] []) tt_ → Steps p.tables e below s0 tt_ := fun tt_ kk_ => P4 tt_ (st5 _ kk_)
  have N5 := Fr.snoc X5 N0 g_xs
  have K5 : Keep h0 h5 [xs] := (Keep.refl h0 [xs]).wr W5 (Or.inl (List.mem_of_getElem? (i := 0) rfl))
  replace E_xs : Exa Z h5 xs "java/lang/String" := E_xs.wr W5
  replace F_value_xs : Fld Z h5 xs "java/lang/String" "value" "[B" (.ref tb) := F_value_xs.same W5
  replace F_coder_xs : Fld Z h5 xs "java/lang/String" "coder" "B" u2 := F_coder_xs.other W5 (Or.inr (slot_ne (Or.inr (ww hw 27 rfl)) (Or.inr (ww hw 29 rfl)) (by decide) (t := .byte) (t' := (.array .byte)) (by decide) (by decide)))
  have P7 : ∀ tt_, GG p e below T5 (mkF m 11 #[.val (.ref xs), .val (.ref tb), .val (.int cd)] [(.int cd), (.ref xs)]) tt_ → Steps p.tables e below s0 tt_ := fun tt_ kk_ => P6 tt_ (by
    refine XS.aloadN X5.here hx rfl (hb hby d_init_9) rfl rfl ?_
    refine XS.iloadN X5.here hx rfl (hb hby d_init_10) rfl ?_
    exact kk_)
  obtain ⟨T8, h8, X8, e8, W8, st8⟩ := putFN X5 hx hZ hown (ww hw 26 rfl) Via.refl e5 F_coder_xs E_xs (Or.inr ⟨(ww hw 27 rfl), rfl, hnm⟩) (ww hw 1 rfl) (ty := .byte) (v' := (.int (nar .byte cd))) (by decide) rfl (fits_nar_byte _) (g := (mkF m 11 #[.val (.ref xs), .val (.ref tb), .val (.int cd)] [(.int cd), (.ref xs)])) rfl rfl (hb hby d_init_11)
  have P9 : ∀ tt_, GG p e below T8 (mkF m 14 #[.val (.ref xs), .val (.ref tb), .val (.int cd)] []) tt_ → Steps p.tables e below s0 tt_ := fun tt_ kk_ => P7 tt_ (st8 _ kk_)
  have N8 := Fr.snoc X8 N5 g_xs
  have K8 : Keep h0 h8 [xs] := K5.wr W8 (Or.inl (List.mem_of_getElem? (i := 0) rfl))
  replace E_xs : Exa Z h8 xs "java/lang/String" := E_xs.wr W8
  replace F_value_xs : Fld Z h8 xs "java/lang/String" "value" "[B" (.ref tb) := F_value_xs.other W8 (Or.inr (slot_ne (Or.inr (ww hw 29 rfl)) (Or.inr (ww hw 27 rfl)) (by decide) (t := (.array .byte)) (t' := .byte) (by decide) (by decide)))
  replace F_coder_xs : Fld Z h8 xs "java/lang/String" "coder" "B" (.int (nar .byte cd)) := F_coder_xs.same W8
  subst hs0
  obtain ⟨fs, hr, hrun, hended, hW, hsame⟩ := X8.leave (v := none) (fun _ => rfl)
  refine ⟨_, _, P9 _ ?_, hrun, hended, _, _, rfl, ?_, ⟨_, rfl⟩, hW, hsame.mono (by decide) (by decide)⟩
  · show GG p e below T8 (mkF m 14 #[.val (.ref xs), .val (.ref tb), .val (.int cd)] []) _
    exact X8.returnOut hx Bd.returns (hb hby d_init_14) hr
  · show Q_init Z xs tb cd u1 u2 h0 n0 _ T8.heap _
    rw [e8]
    exact ⟨rfl, N8, K8, E_xs, F_value_xs, F_coder_xs⟩
theorem ef_valueOf (m : MethodId) (x0 : Int32) : entryFrame m #[(.int x0)] 1 = mkF m 0 #[.val (.int x0)] [] := by first | (simp [entryFrame, mkF, argsToLocals, Value.category]; done) | rfl
theorem d_valueOf_0 : decode jdk_42_method_139_code 0 = .ok (.getstatic 38, 3) := by decide +kernel
theorem d_valueOf_3 : decode jdk_42_method_139_code 3 = .ok (.ifCond .eq 23, 3) := by decide +kernel
theorem d_valueOf_6 : decode jdk_42_method_139_code 6 = .ok (.iload_n 0, 1) := by decide +kernel
theorem pd_0 : parseMethodDescriptor "(C)Z" = some ⟨[.char], some .boolean⟩ := by decide +kernel
theorem d_valueOf_7 : decode jdk_42_method_139_code 7 = .ok (.invokestatic 1015, 3) := by decide +kernel
abbrev mn_0 : MethodName := ⟨"java/lang/StringLatin1", "canEncode", "(C)Z"⟩
theorem d_valueOf_10 : decode jdk_42_method_139_code 10 = .ok (.ifCond .eq 16, 3) := by decide +kernel
theorem d_valueOf_13 : decode jdk_42_method_139_code 13 = .ok (.new 10, 3) := by decide +kernel
theorem d_valueOf_16 : decode jdk_42_method_139_code 16 = .ok (.dup, 1) := by decide +kernel
theorem d_valueOf_17 : decode jdk_42_method_139_code 17 = .ok (.iload_n 0, 1) := by decide +kernel
theorem pd_1 : parseMethodDescriptor "(C)[B" = some ⟨[.char], some (.array .byte)⟩ := by decide +kernel
theorem d_valueOf_18 : decode jdk_42_method_139_code 18 = .ok (.invokestatic 1018, 3) := by decide +kernel
abbrev mn_1 : MethodName := ⟨"java/lang/StringLatin1", "toBytes", "(C)[B"⟩
theorem d_valueOf_21 : decode jdk_42_method_139_code 21 = .ok (.iconst 0, 1) := by decide +kernel
theorem pd_2 : parseMethodDescriptor "([BB)V" = some ⟨[(.array .byte), .byte], none⟩ := by decide +kernel
theorem d_valueOf_22 : decode jdk_42_method_139_code 22 = .ok (.invokespecial 209, 3) := by decide +kernel
abbrev mn_2 : MethodName := ⟨"java/lang/String", "<init>", "([BB)V"⟩
theorem d_valueOf_25 : decode jdk_42_method_139_code 25 = .ok (.areturn, 1) := by decide +kernel
def Q_valueOf (Z : State) (cc : Int32) (G1 : Int32) (h0 : Heap) (n0 : Nat) (v : Option Value) (h : Heap) (L : List Loc) : Prop := ∃ (xs : Addr) (t : Addr) (kb : ClassId), v = some (.ref xs) ∧ Fr n0 L ∧ Keep h0 h [] ∧ (h0.size ≤ xs) ∧ (h0.size ≤ t) ∧ (Exa Z h xs "java/lang/String") ∧ (Fld Z h xs "java/lang/String" "value" "[B" (.ref t)) ∧ (Fld Z h xs "java/lang/String" "coder" "B" (.int (0 : Int32))) ∧ (Arv Z h t kb .byte (1 : Int32) [(.int (nar .byte (cc.toInt8.toInt32)))] (.int (0 : Int32)))
set_option maxRecDepth 65536 in
set_option maxHeartbeats 40000000 in
theorem rm_valueOf (l : Launch) (Z : State) (a0 : Array Value) (hw : ∀ d ∈ tables_1, d.before a0 Z = true) (ws : List Jvm.Cond) (cc : Int32) (G1 : Int32) (h0 : Heap) (n0 : Nat) (Z0 : n0 ≤ h0.size) (S_COMPACT_STRINGS : Sta Z Z.heap "java/lang/String" "COMPACT_STRINGS" "Z" (.int G1)) (OL : Old Z n0 h0) (hz : ¬ G1 = 0) (hcc : ¬ (255 : Int32) < cc) :
    MetFree l (⟨"java/lang/String", "valueOf", "(C)Ljava/lang/String;"⟩ : MethodName) (head1 (Jvm.Cond.code (⟨"java/lang/String", "valueOf", "(C)Ljava/lang/String;"⟩ : MethodName) jdk_42_method_139_code 1 (some (.object "java/lang/String")) :: ws) ({ frames := 2, cells := 2, slots := 5, locals := 27 } : Room)) (fun a U => a = #[(.int cc)] ∧ Z.Warmed39 U.vm ∧ U.heap = h0) (fun _ _ _ _ _ => True) (fun _ U o U' => ∃ v L, o = .returned v ∧ Q_valueOf Z cc G1 h0 n0 v U'.heap L ∧ FrameEnd U o U' L ({ frames := 2, cells := 2, slots := 5, locals := 27 } : Room).cells ({ frames := 2, cells := 2, slots := 5, locals := 27 } : Room).slots) := by
  refine MetFree.of_bodySF (plainFor_of_name pn_1) hisR ?_
  intro p e s m args below meth c s₁ Bd hml0 hP hK
  obtain ⟨rfl, hZ, hh⟩ := hP
  have hx := Bd.exec
  have hby := Bd.bytes
  have hml : c.maxLocals = 1 := hml0
  have hown : s.vm.findClass "java/lang/String" = some m.cls := findClass_of_methodNamed Bd.named
  have hnm := (name_of_methodNamed Bd.named Bd.method).1
  have X0 : Stand p l e ({ frames := 2, cells := 2, slots := 5, locals := 27 } : Room) s m #[(.int cc)] below meth c s₁ [] 0 0 := Stand.of_body Bd
  have e0 : s₁.heap = h0 := by rw [← hh, Bd.state]; rfl
  have N0 := Fr.nil n0
  obtain ⟨s0, hs0⟩ : ∃ z, z = (s₁.setTop (entryFrame m #[(.int cc)] 1)) := ⟨_, rfl⟩
  have P0 : ∀ tt_, GG p e below s₁ (mkF m 0 #[.val (.int cc)] []) tt_ → Steps p.tables e below s0 tt_ := fun tt_ kk_ => by rw [hs0]; exact castTop (ef_valueOf m cc) kk_
  obtain ⟨T1, X1, e1, st1⟩ := getS2 X0 hx hZ hown (host := "") (Or.inl (ww hw 14 rfl)) Via.refl e0 (S_COMPACT_STRINGS.ext OL.2) (g := (mkF m 0 #[.val (.int cc)] [])) rfl (hb hby d_valueOf_0)
  have P2 : ∀ tt_, GG p e below T1 (mkF m 3 #[.val (.int cc)] [(.int G1)]) tt_ → Steps p.tables e below s0 tt_ := fun tt_ kk_ => P0 tt_ (st1 _ kk_)
  have P3 : ∀ tt_, GG p e below T1 (mkF m 7 #[.val (.int cc)] [(.int cc)]) tt_ → Steps p.tables e below s0 tt_ := fun tt_ kk_ => P2 tt_ (by
    refine XS.ifNo X1.here hx rfl (hb hby d_valueOf_3) rfl ((if0 _ _).trans (feq (hz : ¬ (G1 = (0 : Int32)))).1) ?_
    refine XS.iloadN X1.here hx rfl (hb hby d_valueOf_6) rfl ?_
    exact kk_)
  obtain ⟨_, _, ⟨T4, L4, k4, n4⟩, -, X4, ⟨Lc4, hQ4, l4, y4, z4⟩, st4⟩ := Jvm.LawKit.callS X1 hx (y := mn_0) hown (mw hZ hw 33 rfl) (mw hZ hw 34 rfl) (mw hZ hw 35 rfl) (mw hZ hw 36 rfl) (by decide) (backOf (W := 0) (rm_canEncode l Z a0 hw [] cc h0 n0 (Nat.le_trans Z0 (Nat.le_refl h0.size)) hcc) hZ (ww hw 36 rfl) (ww hw 35 rfl) (by decide) (by decide)) (g := (mkF m 7 #[.val (.int cc)] [(.int cc)])) rfl (by rw [hml]; rfl) (argsL := [(.int cc)]) (rest := []) (lenOf pd_0 rfl) rfl (by show 2 * 0 + _ ≤ _; exact Nat.le_of_eq rfl) (hb hby d_valueOf_7) (fun _ _ => ⟨rfl, e1, (by decide : 0 + 0 ≤ _), (by decide : 0 + 0 ≤ _)⟩)
  dsimp only [Pt.U, Pt.locs, Pt.cells, Pt.slots] at X4 l4 y4 z4 st4 hQ4
  subst l4 y4 z4
  obtain ⟨rfl, N4q, e4⟩ := hQ4
  have N4 := Fr.app N0 N4q
  have P5 : ∀ tt_, GG p e below T4 (mkF m 10 #[.val (.int cc)] [(.int (1 : Int32))]) tt_ → Steps p.tables e below s0 tt_ := fun tt_ kk_ => P3 tt_ (st4 _ kk_)
  have P6 : ∀ tt_, GG p e below T4 (mkF m 13 #[.val (.int cc)] []) tt_ → Steps p.tables e below s0 tt_ := fun tt_ kk_ => P5 tt_ (by
    refine XS.ifNo X4.here hx rfl (hb hby d_valueOf_10) rfl ((if0 _ _).trans (feq ((by decide) : ¬ ((1 : Int32) = (0 : Int32)))).1) ?_
    exact kk_)
  obtain ⟨T7, h7, X7, e7, E7, A7, D7, -, st7⟩ := newO X4 hx hZ hown (ww hw 37 rfl) (ww hw 1 rfl) (ww hw 2 rfl) e4 (g := (mkF m 13 #[.val (.int cc)] [])) rfl (hb hby d_valueOf_13) (by decide) (by decide)
  obtain ⟨b7, g7⟩ : ∃ z, z = h0.size := ⟨_, rfl⟩
  rw [← g7] at A7 D7 st7
  have P8 : ∀ tt_, GG p e below T7 (mkF m 16 #[.val (.int cc)] [(.ref b7)]) tt_ → Steps p.tables e below s0 tt_ := fun tt_ kk_ => P6 tt_ (st7 _ kk_)
  have sz_b7 : h0.size ≤ b7 := Nat.le_trans (Nat.le_refl h0.size) (Nat.le_of_eq g7.symm)
  replace OL : Old Z n0 h7 := OL.ext E7
  have K7 : Keep h0 h7 [] := (Keep.refl h0 []).ext E7
  obtain ⟨Lf9, X7, N9⟩ : ∃ Lf, Stand p l e ({ frames := 2, cells := 2, slots := 5, locals := 27 } : Room) s m #[(.int cc)] below meth c T7 Lf 1 4 ∧ Fr n0 Lf := ⟨_, X7, N4⟩
  have E_b7 : Exa Z h7 b7 "java/lang/String" := A7
  have F_coder_b7 : Fld Z h7 b7 "java/lang/String" "coder" "B" (.int (0 : Int32)) := D7 (Or.inr (ww hw 27 rfl)) (ty := .byte) (by decide)
  have F_value_b7 : Fld Z h7 b7 "java/lang/String" "value" "[B" .null := D7 (Or.inr (ww hw 29 rfl)) (ty := (.array .byte)) (by decide)
  have P10 : ∀ tt_, GG p e below T7 (mkF m 18 #[.val (.int cc)] [(.int cc), (.ref b7), (.ref b7)]) tt_ → Steps p.tables e below s0 tt_ := fun tt_ kk_ => P8 tt_ (by
    refine XS.dup X7.here hx rfl (hb hby d_valueOf_16) rfl rfl ?_
    refine XS.iloadN X7.here hx rfl (hb hby d_valueOf_17) rfl ?_
    exact kk_)
  obtain ⟨_, _, ⟨T11, L11, k11, n11⟩, -, X11, ⟨Lc11, hQ11, l11, y11, z11⟩, st11⟩ := Jvm.LawKit.callS X7 hx (y := mn_1) hown (mw hZ hw 38 rfl) (mw hZ hw 39 rfl) (mw hZ hw 35 rfl) (mw hZ hw 40 rfl) (by decide) (backOf (W := 2) (rm_toBytes l Z a0 hw [] cc h7 n0 (Nat.le_trans Z0 K7.1)) hZ (ww hw 40 rfl) (ww hw 35 rfl) (by decide) (by decide)) (g := (mkF m 18 #[.val (.int cc)] [(.int cc), (.ref b7), (.ref b7)])) rfl (by rw [hml]; rfl) (argsL := [(.int cc)]) (rest := [(.ref b7), (.ref b7)]) (lenOf pd_1 rfl) rfl (by show 2 * 0 + _ ≤ _; exact Nat.le_of_eq rfl) (hb hby d_valueOf_18) (fun _ _ => ⟨rfl, e7, (by decide : 1 + 1 ≤ _), (by decide : 4 + 1 ≤ _)⟩)
  dsimp only [Pt.U, Pt.locs, Pt.cells, Pt.slots] at X11 l11 y11 z11 st11 hQ11
  subst l11 y11 z11
  obtain ⟨t_11, kb_11, rfl, N11q, Kc11, po11_0, po11_1⟩ := hQ11
  have N11 := Fr.app N9 N11q
  obtain ⟨Lf12, X11, N12⟩ : ∃ Lf, Stand p l e ({ frames := 2, cells := 2, slots := 5, locals := 27 } : Room) s m #[(.int cc)] below meth c T11 Lf 2 5 ∧ Fr n0 Lf := ⟨_, X11, N11⟩
  have P13 : ∀ tt_, GG p e below T11 (mkF m 21 #[.val (.int cc)] [(.ref t_11), (.ref b7), (.ref b7)]) tt_ → Steps p.tables e below s0 tt_ := fun tt_ kk_ => P10 tt_ (st11 _ kk_)
  have ne_b7_t_11 : b7 ≠ t_11 := Nat.ne_of_lt (Nat.lt_of_lt_of_le E_b7.lt po11_0)
  have sz_t_11 : h0.size ≤ t_11 := Nat.le_trans K7.1 po11_0
  replace OL : Old Z n0 T11.heap := OL.keep Kc11 all0
  replace E_b7 : Exa Z T11.heap b7 "java/lang/String" := E_b7.keep Kc11
  replace F_coder_b7 : Fld Z T11.heap b7 "java/lang/String" "coder" "B" (.int (0 : Int32)) := F_coder_b7.keep Kc11 nin0
  replace F_value_b7 : Fld Z T11.heap b7 "java/lang/String" "value" "[B" .null := F_value_b7.keep Kc11 nin0
  have K11 : Keep h0 T11.heap [] := K7.trans Kc11 all0
  have V_t_11 : Arv Z T11.heap t_11 kb_11 .byte (1 : Int32) [(.int (nar .byte (cc.toInt8.toInt32)))] (.int (0 : Int32)) := po11_1
  have P14 : ∀ tt_, GG p e below T11 (mkF m 22 #[.val (.int cc)] [(.int (0 : Int32)), (.ref t_11), (.ref b7), (.ref b7)]) tt_ → Steps p.tables e below s0 tt_ := fun tt_ kk_ => P13 tt_ (by
    refine XS.iconst X11.here hx rfl (hb hby d_valueOf_21) ?_
    exact kk_)
  obtain ⟨_, _, ⟨T15, L15, k15, n15⟩, -, X15, ⟨Lc15, hQ15, l15, y15, z15⟩, st15⟩ := X11.specialBack hx (y := mn_2) rfl hown (mw hZ hw 41 rfl) (mw hZ hw 42 rfl) (mw hZ hw 43 rfl) (by decide) (backOf (W := 1) (rm_init l Z a0 hw [] b7 t_11 (0 : Int32) .null (.int (0 : Int32)) T11.heap n0 (Nat.le_trans Z0 K11.1) E_b7 F_value_b7 F_coder_b7 (Nat.le_trans Z0 sz_b7)) hZ (ww hw 43 rfl) (ww hw 2 rfl) (by decide) (by decide)) (g := (mkF m 22 #[.val (.int cc)] [(.int (0 : Int32)), (.ref t_11), (.ref b7), (.ref b7)])) rfl (by rw [hml]; rfl) (Steps.refl _) (a := b7) (argsL := [(.ref t_11), (.int (0 : Int32))]) (rest := [(.ref b7)]) (lenOf pd_2 rfl) rfl (by show 2 * 0 + _ ≤ _; exact Nat.le_of_eq rfl) (hb hby d_valueOf_22) (fun _ _ => ⟨rfl, rfl, (by decide : 2 + 0 ≤ _), (by decide : 5 + 0 ≤ _)⟩)
  dsimp only [Pt.U, Pt.locs, Pt.cells, Pt.slots] at X15 l15 y15 z15 st15 hQ15
  subst l15 y15 z15
  obtain ⟨rfl, N15q, Kc15, po15_0, po15_1, po15_2⟩ := hQ15
  have N15 := Fr.app N12 N15q
  obtain ⟨Lf16, X15, N16⟩ : ∃ Lf, Stand p l e ({ frames := 2, cells := 2, slots := 5, locals := 27 } : Room) s m #[(.int cc)] below meth c T15 Lf 2 5 ∧ Fr n0 Lf := ⟨_, X15, N15⟩
  have P17 : ∀ tt_, GG p e below T15 (mkF m 25 #[.val (.int cc)] [(.ref b7)]) tt_ → Steps p.tables e below s0 tt_ := fun tt_ kk_ => P14 tt_ (st15.trans kk_)
  replace OL : Old Z n0 T15.heap := OL.keep Kc15 (allS (Nat.le_trans Z0 sz_b7) all0)
  replace E_b7 : Exa Z T15.heap b7 "java/lang/String" := E_b7.keep Kc15
  replace V_t_11 : Arv Z T15.heap t_11 kb_11 .byte (1 : Int32) [(.int (nar .byte (cc.toInt8.toInt32)))] (.int (0 : Int32)) := V_t_11.keep Kc15 (ninS (Ne.symm ne_b7_t_11) nin0)
  have K15 : Keep h0 T15.heap [] := K11.trans Kc15 (allS (P := fun x => x ∈ [] ∨ h0.size ≤ x) (Or.inr sz_b7) all0)
  have E_b7 : Exa Z T15.heap b7 "java/lang/String" := po15_0
  have F_value_b7 : Fld Z T15.heap b7 "java/lang/String" "value" "[B" (.ref t_11) := po15_1
  have F_coder_b7 : Fld Z T15.heap b7 "java/lang/String" "coder" "B" (.int (nar .byte (0 : Int32))) := po15_2
  subst hs0
  obtain ⟨fs, hr, hrun, hended, hW, hsame⟩ := X15.leave (v := some (.ref b7)) (fun h => by rw [Bd.returns] at h; cases h)
  refine ⟨_, _, P17 _ ?_, hrun, hended, _, _, rfl, ?_, ⟨_, rfl⟩, hW, hsame.mono (by decide) (by decide)⟩
  · show GG p e below T15 (mkF m 25 #[.val (.int cc)] [(.ref b7)]) _
    jvm_step X15.here [X15.here.top, hx, (hb hby d_valueOf_25), X15.method', Bd.returns, Value.isRef, FieldType.isReference]
    first | (intro acts; rw [hr _ acts rfl rfl rfl]) | rw [hr _ _ rfl rfl rfl]
    exact Steps.refl _
  · show Q_valueOf Z cc G1 h0 n0 _ T15.heap _
    exact ⟨b7, t_11, kb_11, rfl, N16, K15, sz_b7, sz_t_11, E_b7, F_value_b7, F_coder_b7, V_t_11⟩
theorem ef_eqSame (m : MethodId) (x0 : Addr) (x1 : Addr) : entryFrame m #[(.ref x0), (.ref x1)] 3 = mkF m 0 #[.val (.ref x0), .val (.ref x1), .unset] [] := by first | (simp [entryFrame, mkF, argsToLocals, Value.category]; done) | rfl
theorem d_equals_0 : decode jdk_42_method_66_code 0 = .ok (.aload_n 0, 1) := by decide +kernel
theorem d_equals_1 : decode jdk_42_method_66_code 1 = .ok (.aload_n 1, 1) := by decide +kernel
theorem d_equals_2 : decode jdk_42_method_66_code 2 = .ok (.if_acmp .ne 5, 3) := by decide +kernel
theorem d_equals_5 : decode jdk_42_method_66_code 5 = .ok (.iconst 1, 1) := by decide +kernel
theorem d_equals_6 : decode jdk_42_method_66_code 6 = .ok (.ireturn, 1) := by decide +kernel
def Q_eqSame (Z : State) (xs : Addr) (h0 : Heap) (n0 : Nat) (v : Option Value) (h : Heap) (L : List Loc) : Prop := v = some (.int (1 : Int32)) ∧ Fr n0 L ∧ h = h0
set_option maxRecDepth 65536 in
set_option maxHeartbeats 40000000 in
theorem rm_eqSame (l : Launch) (Z : State) (a0 : Array Value) (hw : ∀ d ∈ tables_1, d.before a0 Z = true) (ws : List Jvm.Cond) (xs : Addr) (h0 : Heap) (n0 : Nat) (Z0 : n0 ≤ h0.size) :
    MetFree l (⟨"java/lang/String", "equals", "(Ljava/lang/Object;)Z"⟩ : MethodName) (head1 (Jvm.Cond.code (⟨"java/lang/String", "equals", "(Ljava/lang/Object;)Z"⟩ : MethodName) jdk_42_method_66_code 3 (some .boolean) :: ws) ({ frames := 0, cells := 0, slots := 0, locals := 0 } : Room)) (fun a U => a = #[(.ref xs), (.ref xs)] ∧ Z.Warmed39 U.vm ∧ U.heap = h0) (fun _ _ _ _ _ => True) (fun _ U o U' => ∃ v L, o = .returned v ∧ Q_eqSame Z xs h0 n0 v U'.heap L ∧ FrameEnd U o U' L ({ frames := 0, cells := 0, slots := 0, locals := 0 } : Room).cells ({ frames := 0, cells := 0, slots := 0, locals := 0 } : Room).slots) := by
  refine MetFree.of_bodySF (plainFor_of_name pn_1) hisR ?_
  intro p e s m args below meth c s₁ Bd hml0 hP hK
  obtain ⟨rfl, hZ, hh⟩ := hP
  have hx := Bd.exec
  have hby := Bd.bytes
  have hml : c.maxLocals = 3 := hml0
  have hown : s.vm.findClass "java/lang/String" = some m.cls := findClass_of_methodNamed Bd.named
  have hnm := (name_of_methodNamed Bd.named Bd.method).1
  have X0 : Stand p l e ({ frames := 0, cells := 0, slots := 0, locals := 0 } : Room) s m #[(.ref xs), (.ref xs)] below meth c s₁ [] 0 0 := Stand.of_body Bd
  have e0 : s₁.heap = h0 := by rw [← hh, Bd.state]; rfl
  have N0 := Fr.nil n0
  obtain ⟨s0, hs0⟩ : ∃ z, z = (s₁.setTop (entryFrame m #[(.ref xs), (.ref xs)] 3)) := ⟨_, rfl⟩
  have P0 : ∀ tt_, GG p e below s₁ (mkF m 0 #[.val (.ref xs), .val (.ref xs), .unset] []) tt_ → Steps p.tables e below s0 tt_ := fun tt_ kk_ => by rw [hs0]; exact castTop (ef_eqSame m xs xs) kk_
  have P1 : ∀ tt_, GG p e below s₁ (mkF m 6 #[.val (.ref xs), .val (.ref xs), .unset] [(.int (1 : Int32))]) tt_ → Steps p.tables e below s0 tt_ := fun tt_ kk_ => P0 tt_ (by
    refine XS.aloadN X0.here hx rfl (hb hby d_equals_0) rfl rfl ?_
    refine XS.aloadN X0.here hx rfl (hb hby d_equals_1) rfl rfl ?_
    refine Jvm.RoadKit.acmp (g := (mkF m 2 #[.val (.ref xs), .val (.ref xs), .unset] [(.ref xs), (.ref xs)])) X0 hx rfl rfl rfl (pc0 := 2) (pc' := 5) (same := true) rfl (hb hby d_equals_2) rfl (decide_eq_true rfl) (by decide) (by decide) ?_
    refine XS.iconst X0.here hx rfl (hb hby d_equals_5) ?_
    exact kk_)
  subst hs0
  obtain ⟨fs, hr, hrun, hended, hW, hsame⟩ := X0.leave (v := some (.int (nar .boolean (1 : Int32)))) (fun h => by rw [Bd.returns] at h; cases h)
  refine ⟨_, _, P1 _ ?_, hrun, hended, _, _, rfl, ?_, ⟨_, rfl⟩, hW, hsame.mono (by decide) (by decide)⟩
  · show GG p e below s₁ (mkF m 6 #[.val (.ref xs), .val (.ref xs), .unset] [(.int (1 : Int32))]) _
    exact retN X0 hx (t := .boolean) Bd.returns (by simp) (hb hby d_equals_6) hr
  · show Q_eqSame Z xs h0 n0 _ s₁.heap _
    rw [e0]
    exact ⟨rfl, N0, rfl⟩
theorem ef_asbInit (m : MethodId) (x0 : Addr) : entryFrame m #[(.ref x0), (.int (16 : Int32))] 2 = mkF m 0 #[.val (.ref x0), .val (.int (16 : Int32))] [] := by first | (simp [entryFrame, mkF, argsToLocals, Value.category]; done) | rfl
theorem pn_2 : plainName "java/lang/AbstractStringBuilder" = true := by first | (simp [plainName, overriddenIn]; done) | decide +kernel
theorem d_init2_0 : decode jdk_68_method_2_code 0 = .ok (.aload_n 0, 1) := by decide +kernel
theorem d_init2_1 : decode jdk_68_method_2_code 1 = .ok (.invokespecial 3, 3) := by decide +kernel
theorem d_init2_4 : decode jdk_68_method_2_code 4 = .ok (.getstatic 18, 3) := by decide +kernel
theorem d_init2_7 : decode jdk_68_method_2_code 7 = .ok (.ifCond .eq 18, 3) := by decide +kernel
theorem d_init2_10 : decode jdk_68_method_2_code 10 = .ok (.aload_n 0, 1) := by decide +kernel
theorem d_init2_11 : decode jdk_68_method_2_code 11 = .ok (.iload_n 1, 1) := by decide +kernel
theorem d_init2_12 : decode jdk_68_method_2_code 12 = .ok (.newarray .byte, 2) := by decide +kernel
theorem d_init2_14 : decode jdk_68_method_2_code 14 = .ok (.putfield 15, 3) := by decide +kernel
theorem d_init2_17 : decode jdk_68_method_2_code 17 = .ok (.aload_n 0, 1) := by decide +kernel
theorem d_init2_18 : decode jdk_68_method_2_code 18 = .ok (.iconst 0, 1) := by decide +kernel
theorem d_init2_19 : decode jdk_68_method_2_code 19 = .ok (.putfield 22, 3) := by decide +kernel
theorem d_init2_22 : decode jdk_68_method_2_code 22 = .ok (.goto 16, 3) := by decide +kernel
theorem d_init2_38 : decode jdk_68_method_2_code 38 = .ok (.return_, 1) := by decide +kernel
def Q_asbInit (Z : State) (sb : Addr) (u1 : Value) (u2 : Value) (G1 : Int32) (h0 : Heap) (n0 : Nat) (v : Option Value) (h : Heap) (L : List Loc) : Prop := ∃ (t : Addr) (kb : ClassId), v = none ∧ Fr n0 L ∧ Keep h0 h [sb] ∧ (h0.size ≤ t) ∧ (Exa Z h sb "java/lang/StringBuilder") ∧ (Fld Z h sb "java/lang/AbstractStringBuilder" "value" "[B" (.ref t)) ∧ (Fld Z h sb "java/lang/AbstractStringBuilder" "coder" "B" (.int (0 : Int32))) ∧ (Fld Z h sb "java/lang/AbstractStringBuilder" "count" "I" (.int (0 : Int32))) ∧ (Arv Z h t kb .byte (16 : Int32) [] (.int (0 : Int32))) ∧ (Exa Z h t "[B")
set_option maxRecDepth 65536 in
set_option maxHeartbeats 40000000 in
theorem rm_asbInit (l : Launch) (Z : State) (a0 : Array Value) (hw : ∀ d ∈ tables_1, d.before a0 Z = true) (ws : List Jvm.Cond) (sb : Addr) (u1 : Value) (u2 : Value) (G1 : Int32) (h0 : Heap) (n0 : Nat) (Z0 : n0 ≤ h0.size) (E_sb : Exa Z h0 sb "java/lang/StringBuilder") (F_value_sb : Fld Z h0 sb "java/lang/AbstractStringBuilder" "value" "[B" u1) (F_coder_sb : Fld Z h0 sb "java/lang/AbstractStringBuilder" "coder" "B" u2) (F_count_sb : Fld Z h0 sb "java/lang/AbstractStringBuilder" "count" "I" (.int (0 : Int32))) (g_sb : n0 ≤ sb) (S_COMPACT_STRINGS : Sta Z Z.heap "java/lang/String" "COMPACT_STRINGS" "Z" (.int G1)) (OL : Old Z n0 h0) (hz : ¬ G1 = 0) :
    MetFree l (⟨"java/lang/AbstractStringBuilder", "<init>", "(I)V"⟩ : MethodName) (head1 (Jvm.Cond.code (⟨"java/lang/AbstractStringBuilder", "<init>", "(I)V"⟩ : MethodName) jdk_68_method_2_code 2 none :: ws) ({ frames := 1, cells := 1, slots := 16, locals := 12 } : Room)) (fun a U => a = #[(.ref sb), (.int (16 : Int32))] ∧ Z.Warmed39 U.vm ∧ U.heap = h0) (fun _ _ _ _ _ => True) (fun _ U o U' => ∃ v L, o = .returned v ∧ Q_asbInit Z sb u1 u2 G1 h0 n0 v U'.heap L ∧ FrameEnd U o U' L ({ frames := 1, cells := 1, slots := 16, locals := 12 } : Room).cells ({ frames := 1, cells := 1, slots := 16, locals := 12 } : Room).slots) := by
  refine MetFree.of_bodySF (plainFor_of_name pn_2) hisR ?_
  intro p e s m args below meth c s₁ Bd hml0 hP hK
  obtain ⟨rfl, hZ, hh⟩ := hP
  have hx := Bd.exec
  have hby := Bd.bytes
  have hml : c.maxLocals = 2 := hml0
  have hown : s.vm.findClass "java/lang/AbstractStringBuilder" = some m.cls := findClass_of_methodNamed Bd.named
  have hnm := (name_of_methodNamed Bd.named Bd.method).1
  have X0 : Stand p l e ({ frames := 1, cells := 1, slots := 16, locals := 12 } : Room) s m #[(.ref sb), (.int (16 : Int32))] below meth c s₁ [] 0 0 := Stand.of_body Bd
  have e0 : s₁.heap = h0 := by rw [← hh, Bd.state]; rfl
  have N0 := Fr.nil n0
  obtain ⟨s0, hs0⟩ : ∃ z, z = (s₁.setTop (entryFrame m #[(.ref sb), (.int (16 : Int32))] 2)) := ⟨_, rfl⟩
  have P0 : ∀ tt_, GG p e below s₁ (mkF m 0 #[.val (.ref sb), .val (.int (16 : Int32))] []) tt_ → Steps p.tables e below s0 tt_ := fun tt_ kk_ => by rw [hs0]; exact castTop (ef_asbInit m sb) kk_
  have P1 : ∀ tt_, GG p e below s₁ (mkF m 1 #[.val (.ref sb), .val (.int (16 : Int32))] [(.ref sb)]) tt_ → Steps p.tables e below s0 tt_ := fun tt_ kk_ => P0 tt_ (by
    refine XS.aloadN X0.here hx rfl (hb hby d_init2_0) rfl rfl ?_
    exact kk_)
  obtain ⟨T2, X2, e2, st2⟩ := initO X0 hx hZ hown (ww hw 132 rfl) (ww hw 12 rfl) (ww hw 13 rfl) e0 (g := (mkF m 1 #[.val (.ref sb), .val (.int (16 : Int32))] [(.ref sb)])) rfl (by rw [hml]; rfl) rfl (hb hby d_init2_1) (by decide) (W := 0) (by show 2 * 0 + _ ≤ _; exact Nat.le_of_eq rfl) (by decide)
  have P3 : ∀ tt_, GG p e below T2 (mkF m 4 #[.val (.ref sb), .val (.int (16 : Int32))] []) tt_ → Steps p.tables e below s0 tt_ := fun tt_ kk_ => P1 tt_ (st2 _ kk_)
  obtain ⟨T4, X4, e4, st4⟩ := getS2 X2 hx hZ hown (host := "") (Or.inl (ww hw 133 rfl)) Via.refl e2 (S_COMPACT_STRINGS.ext OL.2) (g := (mkF m 4 #[.val (.ref sb), .val (.int (16 : Int32))] [])) rfl (hb hby d_init2_4)
  have P5 : ∀ tt_, GG p e below T4 (mkF m 7 #[.val (.ref sb), .val (.int (16 : Int32))] [(.int G1)]) tt_ → Steps p.tables e below s0 tt_ := fun tt_ kk_ => P3 tt_ (st4 _ kk_)
  have P6 : ∀ tt_, GG p e below T4 (mkF m 12 #[.val (.ref sb), .val (.int (16 : Int32))] [(.int (16 : Int32)), (.ref sb)]) tt_ → Steps p.tables e below s0 tt_ := fun tt_ kk_ => P5 tt_ (by
    refine XS.ifNo X4.here hx rfl (hb hby d_init2_7) rfl ((if0 _ _).trans (feq (hz : ¬ (G1 = (0 : Int32)))).1) ?_
    refine XS.aloadN X4.here hx rfl (hb hby d_init2_10) rfl rfl ?_
    refine XS.iloadN X4.here hx rfl (hb hby d_init2_11) rfl ?_
    exact kk_)
  obtain ⟨T7, h7, k7, X7, e7, E7, A7, B7, st7⟩ := newPE X4 hx hZ (ww hw 19 rfl) e4 (g := (mkF m 12 #[.val (.ref sb), .val (.int (16 : Int32))] [(.int (16 : Int32)), (.ref sb)])) rfl (hb hby d_init2_12) rfl (by decide) (cap := 16) (by decide) (by decide) (by decide) (by decide) (ad := "[B") rfl
  obtain ⟨b7, g7⟩ : ∃ z, z = h0.size := ⟨_, rfl⟩
  rw [← g7] at A7 B7 st7
  have P8 : ∀ tt_, GG p e below T7 (mkF m 14 #[.val (.ref sb), .val (.int (16 : Int32))] [(.ref b7), (.ref sb)]) tt_ → Steps p.tables e below s0 tt_ := fun tt_ kk_ => P6 tt_ (st7 _ kk_)
  have ne_sb_b7 : sb ≠ b7 := Nat.ne_of_lt (Nat.lt_of_lt_of_le E_sb.lt (Nat.le_of_eq g7.symm))
  have sz_b7 : h0.size ≤ b7 := Nat.le_trans (Nat.le_refl h0.size) (Nat.le_of_eq g7.symm)
  replace E_sb : Exa Z h7 sb "java/lang/StringBuilder" := E_sb.ext E7
  replace F_value_sb : Fld Z h7 sb "java/lang/AbstractStringBuilder" "value" "[B" u1 := F_value_sb.ext E7
  replace F_coder_sb : Fld Z h7 sb "java/lang/AbstractStringBuilder" "coder" "B" u2 := F_coder_sb.ext E7
  replace F_count_sb : Fld Z h7 sb "java/lang/AbstractStringBuilder" "count" "I" (.int (0 : Int32)) := F_count_sb.ext E7
  replace OL : Old Z n0 h7 := OL.ext E7
  have K7 : Keep h0 h7 [sb] := (Keep.refl h0 [sb]).ext E7
  obtain ⟨Lf9, X7, N9⟩ : ∃ Lf, Stand p l e ({ frames := 1, cells := 1, slots := 16, locals := 12 } : Room) s m #[(.ref sb), (.int (16 : Int32))] below meth c T7 Lf 1 16 ∧ Fr n0 Lf := ⟨_, X7, N0⟩
  have V_b7 : Arv Z h7 b7 k7 .byte (16 : Int32) [(.int (0 : Int32)), (.int (0 : Int32)), (.int (0 : Int32)), (.int (0 : Int32)), (.int (0 : Int32)), (.int (0 : Int32)), (.int (0 : Int32)), (.int (0 : Int32)), (.int (0 : Int32)), (.int (0 : Int32)), (.int (0 : Int32)), (.int (0 : Int32)), (.int (0 : Int32)), (.int (0 : Int32)), (.int (0 : Int32)), (.int (0 : Int32))] (.int (0 : Int32)) := (Arv.new A7 (by decide)).pad (pad_rep [] (.int (0 : Int32)) 16)
  have E_b7 : Exa Z h7 b7 "[B" := B7
  obtain ⟨T10, h10, X10, e10, W10, st10⟩ := putF X7 hx hZ hown (host := "") (Or.inl (ww hw 134 rfl)) Via.refl e7 F_value_sb E_sb (Or.inl (ww hw 135 rfl)) (ww hw 121 rfl) (ty := (.array .byte)) (by decide) rfl rfl (g := (mkF m 14 #[.val (.ref sb), .val (.int (16 : Int32))] [(.ref b7), (.ref sb)])) rfl rfl (hb hby d_init2_14)
  have P11 : ∀ tt_, GG p e below T10 (mkF m 17 #[.val (.ref sb), .val (.int (16 : Int32))] []) tt_ → Steps p.tables e below s0 tt_ := fun tt_ kk_ => P8 tt_ (st10 _ kk_)
  have N10 := Fr.snoc X10 N9 g_sb
  have K10 : Keep h0 h10 [sb] := K7.wr W10 (Or.inl (List.mem_of_getElem? (i := 0) rfl))
  replace E_sb : Exa Z h10 sb "java/lang/StringBuilder" := E_sb.wr W10
  replace F_value_sb : Fld Z h10 sb "java/lang/AbstractStringBuilder" "value" "[B" (.ref b7) := F_value_sb.same W10
  replace F_coder_sb : Fld Z h10 sb "java/lang/AbstractStringBuilder" "coder" "B" u2 := F_coder_sb.other W10 (Or.inr (slot_ne (Or.inl (ww hw 137 rfl)) (Or.inl (ww hw 135 rfl)) (by decide) (t := .byte) (t' := (.array .byte)) (by decide) (by decide)))
  replace F_count_sb : Fld Z h10 sb "java/lang/AbstractStringBuilder" "count" "I" (.int (0 : Int32)) := F_count_sb.other W10 (Or.inr (slot_ne (Or.inl (ww hw 159 rfl)) (Or.inl (ww hw 135 rfl)) (by decide) (t := .int) (t' := (.array .byte)) (by decide) (by decide)))
  replace OL : Old Z n0 h10 := OL.wr W10 g_sb
  replace V_b7 : Arv Z h10 b7 k7 .byte (16 : Int32) [(.int (0 : Int32)), (.int (0 : Int32)), (.int (0 : Int32)), (.int (0 : Int32)), (.int (0 : Int32)), (.int (0 : Int32)), (.int (0 : Int32)), (.int (0 : Int32)), (.int (0 : Int32)), (.int (0 : Int32)), (.int (0 : Int32)), (.int (0 : Int32)), (.int (0 : Int32)), (.int (0 : Int32)), (.int (0 : Int32)), (.int (0 : Int32))] (.int (0 : Int32)) := V_b7.other W10 (Ne.symm ne_sb_b7)
  replace E_b7 : Exa Z h10 b7 "[B" := E_b7.wr W10
  have P12 : ∀ tt_, GG p e below T10 (mkF m 19 #[.val (.ref sb), .val (.int (16 : Int32))] [(.int (0 : Int32)), (.ref sb)]) tt_ → Steps p.tables e below s0 tt_ := fun tt_ kk_ => P11 tt_ (by
    refine XS.aloadN X10.here hx rfl (hb hby d_init2_17) rfl rfl ?_
    refine XS.iconst X10.here hx rfl (hb hby d_init2_18) ?_
    exact kk_)
  obtain ⟨T13, h13, X13, e13, W13, st13⟩ := putFN X10 hx hZ hown (ww hw 136 rfl) Via.refl e10 F_coder_sb E_sb (Or.inl (ww hw 137 rfl)) (ww hw 121 rfl) (ty := .byte) (v' := (.int (0 : Int32))) (by decide) rfl (rfl) (g := (mkF m 19 #[.val (.ref sb), .val (.int (16 : Int32))] [(.int (0 : Int32)), (.ref sb)])) rfl rfl (hb hby d_init2_19)
  have P14 : ∀ tt_, GG p e below T13 (mkF m 22 #[.val (.ref sb), .val (.int (16 : Int32))] []) tt_ → Steps p.tables e below s0 tt_ := fun tt_ kk_ => P12 tt_ (st13 _ kk_)
  have N13 := Fr.snoc X13 N10 g_sb
  have K13 : Keep h0 h13 [sb] := K10.wr W13 (Or.inl (List.mem_of_getElem? (i := 0) rfl))
  replace E_sb : Exa Z h13 sb "java/lang/StringBuilder" := E_sb.wr W13
  replace F_value_sb : Fld Z h13 sb "java/lang/AbstractStringBuilder" "value" "[B" (.ref b7) := F_value_sb.other W13 (Or.inr (slot_ne (Or.inl (ww hw 135 rfl)) (Or.inl (ww hw 137 rfl)) (by decide) (t := (.array .byte)) (t' := .byte) (by decide) (by decide)))
  replace F_coder_sb : Fld Z h13 sb "java/lang/AbstractStringBuilder" "coder" "B" (.int (0 : Int32)) := F_coder_sb.same W13
  replace F_count_sb : Fld Z h13 sb "java/lang/AbstractStringBuilder" "count" "I" (.int (0 : Int32)) := F_count_sb.other W13 (Or.inr (slot_ne (Or.inl (ww hw 159 rfl)) (Or.inl (ww hw 137 rfl)) (by decide) (t := .int) (t' := .byte) (by decide) (by decide)))
  replace OL : Old Z n0 h13 := OL.wr W13 g_sb
  replace V_b7 : Arv Z h13 b7 k7 .byte (16 : Int32) [(.int (0 : Int32)), (.int (0 : Int32)), (.int (0 : Int32)), (.int (0 : Int32)), (.int (0 : Int32)), (.int (0 : Int32)), (.int (0 : Int32)), (.int (0 : Int32)), (.int (0 : Int32)), (.int (0 : Int32)), (.int (0 : Int32)), (.int (0 : Int32)), (.int (0 : Int32)), (.int (0 : Int32)), (.int (0 : Int32)), (.int (0 : Int32))] (.int (0 : Int32)) := V_b7.other W13 (Ne.symm ne_sb_b7)
  replace E_b7 : Exa Z h13 b7 "[B" := E_b7.wr W13
  have P15 : ∀ tt_, GG p e below T13 (mkF m 38 #[.val (.ref sb), .val (.int (16 : Int32))] []) tt_ → Steps p.tables e below s0 tt_ := fun tt_ kk_ => P14 tt_ (by
    refine XS.goto X13.here hx rfl (pc0 := 22) (pc' := 38) rfl (hb hby d_init2_22) (by decide) (by decide) ?_
    exact kk_)
  replace V_b7 : Arv Z h13 b7 k7 .byte (16 : Int32) [] (.int (0 : Int32)) := V_b7.pad (fun i => (pad_rep [] (.int (0 : Int32)) 16 i).symm)
  subst hs0
  obtain ⟨fs, hr, hrun, hended, hW, hsame⟩ := X13.leave (v := none) (fun _ => rfl)
  refine ⟨_, _, P15 _ ?_, hrun, hended, _, _, rfl, ?_, ⟨_, rfl⟩, hW, hsame.mono (by decide) (by decide)⟩
  · show GG p e below T13 (mkF m 38 #[.val (.ref sb), .val (.int (16 : Int32))] []) _
    exact X13.returnOut hx Bd.returns (hb hby d_init2_38) hr
  · show Q_asbInit Z sb u1 u2 G1 h0 n0 _ T13.heap _
    rw [e13]
    exact ⟨b7, k7, rfl, N13, K13, sz_b7, E_sb, F_value_sb, F_coder_sb, F_count_sb, V_b7, E_b7⟩
theorem ef_sbInit (m : MethodId) (x0 : Addr) : entryFrame m #[(.ref x0)] 1 = mkF m 0 #[.val (.ref x0)] [] := by first | (simp [entryFrame, mkF, argsToLocals, Value.category]; done) | rfl
theorem pn_3 : plainName "java/lang/StringBuilder" = true := by first | (simp [plainName, overriddenIn]; done) | decide +kernel
theorem d_init3_0 : decode jdk_67_method_1_code 0 = .ok (.aload_n 0, 1) := by decide +kernel
theorem d_init3_1 : decode jdk_67_method_1_code 1 = .ok (.bipush 16, 2) := by decide +kernel
theorem pd_3 : parseMethodDescriptor "(I)V" = some ⟨[.int], none⟩ := by decide +kernel
theorem d_init3_3 : decode jdk_67_method_1_code 3 = .ok (.invokespecial 1, 3) := by decide +kernel
abbrev mn_3 : MethodName := ⟨"java/lang/AbstractStringBuilder", "<init>", "(I)V"⟩
theorem d_init3_6 : decode jdk_67_method_1_code 6 = .ok (.return_, 1) := by decide +kernel
def Q_sbInit (Z : State) (sb : Addr) (u1 : Value) (u2 : Value) (G1 : Int32) (h0 : Heap) (n0 : Nat) (v : Option Value) (h : Heap) (L : List Loc) : Prop := ∃ (t : Addr) (kb : ClassId), v = none ∧ Fr n0 L ∧ Keep h0 h [sb] ∧ (h0.size ≤ t) ∧ (Exa Z h sb "java/lang/StringBuilder") ∧ (Fld Z h sb "java/lang/AbstractStringBuilder" "value" "[B" (.ref t)) ∧ (Fld Z h sb "java/lang/AbstractStringBuilder" "coder" "B" (.int (0 : Int32))) ∧ (Fld Z h sb "java/lang/AbstractStringBuilder" "count" "I" (.int (0 : Int32))) ∧ (Arv Z h t kb .byte (16 : Int32) [] (.int (0 : Int32))) ∧ (Exa Z h t "[B")
set_option maxRecDepth 65536 in
set_option maxHeartbeats 40000000 in
theorem rm_sbInit (l : Launch) (Z : State) (a0 : Array Value) (hw : ∀ d ∈ tables_1, d.before a0 Z = true) (ws : List Jvm.Cond) (sb : Addr) (u1 : Value) (u2 : Value) (G1 : Int32) (h0 : Heap) (n0 : Nat) (Z0 : n0 ≤ h0.size) (E_sb : Exa Z h0 sb "java/lang/StringBuilder") (F_value_sb : Fld Z h0 sb "java/lang/AbstractStringBuilder" "value" "[B" u1) (F_coder_sb : Fld Z h0 sb "java/lang/AbstractStringBuilder" "coder" "B" u2) (F_count_sb : Fld Z h0 sb "java/lang/AbstractStringBuilder" "count" "I" (.int (0 : Int32))) (g_sb : n0 ≤ sb) (S_COMPACT_STRINGS : Sta Z Z.heap "java/lang/String" "COMPACT_STRINGS" "Z" (.int G1)) (OL : Old Z n0 h0) (hz : ¬ G1 = 0) :
    MetFree l (⟨"java/lang/StringBuilder", "<init>", "()V"⟩ : MethodName) (head1 (Jvm.Cond.code (⟨"java/lang/StringBuilder", "<init>", "()V"⟩ : MethodName) jdk_67_method_1_code 1 none :: ws) ({ frames := 2, cells := 1, slots := 16, locals := 25 } : Room)) (fun a U => a = #[(.ref sb)] ∧ Z.Warmed39 U.vm ∧ U.heap = h0) (fun _ _ _ _ _ => True) (fun _ U o U' => ∃ v L, o = .returned v ∧ Q_sbInit Z sb u1 u2 G1 h0 n0 v U'.heap L ∧ FrameEnd U o U' L ({ frames := 2, cells := 1, slots := 16, locals := 25 } : Room).cells ({ frames := 2, cells := 1, slots := 16, locals := 25 } : Room).slots) := by
  refine MetFree.of_bodySF (plainFor_of_name pn_3) hisR ?_
  intro p e s m args below meth c s₁ Bd hml0 hP hK
  obtain ⟨rfl, hZ, hh⟩ := hP
  have hx := Bd.exec
  have hby := Bd.bytes
  have hml : c.maxLocals = 1 := hml0
  have hown : s.vm.findClass "java/lang/StringBuilder" = some m.cls := findClass_of_methodNamed Bd.named
  have hnm := (name_of_methodNamed Bd.named Bd.method).1
  have X0 : Stand p l e ({ frames := 2, cells := 1, slots := 16, locals := 25 } : Room) s m #[(.ref sb)] below meth c s₁ [] 0 0 := Stand.of_body Bd
  have e0 : s₁.heap = h0 := by rw [← hh, Bd.state]; rfl
  have N0 := Fr.nil n0
  obtain ⟨s0, hs0⟩ : ∃ z, z = (s₁.setTop (entryFrame m #[(.ref sb)] 1)) := ⟨_, rfl⟩
  have P0 : ∀ tt_, GG p e below s₁ (mkF m 0 #[.val (.ref sb)] []) tt_ → Steps p.tables e below s0 tt_ := fun tt_ kk_ => by rw [hs0]; exact castTop (ef_sbInit m sb) kk_
  have P1 : ∀ tt_, GG p e below s₁ (mkF m 3 #[.val (.ref sb)] [(.int (16 : Int32)), (.ref sb)]) tt_ → Steps p.tables e below s0 tt_ := fun tt_ kk_ => P0 tt_ (by
    refine XS.aloadN X0.here hx rfl (hb hby d_init3_0) rfl rfl ?_
    refine XS.bipush X0.here hx rfl (hb hby d_init3_1) ?_
    exact kk_)
  obtain ⟨_, _, ⟨T2, L2, k2, n2⟩, -, X2, ⟨Lc2, hQ2, l2, y2, z2⟩, st2⟩ := X0.specialBack hx (y := mn_3) rfl hown (mw hZ hw 126 rfl) (mw hZ hw 127 rfl) (mw hZ hw 131 rfl) (by decide) (backOf (W := 0) (rm_asbInit l Z a0 hw [] sb u1 u2 G1 h0 n0 (Nat.le_trans Z0 (Nat.le_refl h0.size)) E_sb F_value_sb F_coder_sb F_count_sb g_sb S_COMPACT_STRINGS OL hz) hZ (ww hw 131 rfl) (ww hw 130 rfl) (by decide) (by decide)) (g := (mkF m 3 #[.val (.ref sb)] [(.int (16 : Int32)), (.ref sb)])) rfl (by rw [hml]; rfl) (Steps.refl _) (a := sb) (argsL := [(.int (16 : Int32))]) (rest := []) (lenOf pd_3 rfl) rfl (by show 2 * 0 + _ ≤ _; exact Nat.le_of_eq rfl) (hb hby d_init3_3) (fun _ _ => ⟨rfl, e0, (by decide : 0 + 1 ≤ _), (by decide : 0 + 16 ≤ _)⟩)
  dsimp only [Pt.U, Pt.locs, Pt.cells, Pt.slots] at X2 l2 y2 z2 st2 hQ2
  subst l2 y2 z2
  obtain ⟨t_2, kb_2, rfl, N2q, Kc2, po2_0, po2_1, po2_2, po2_3, po2_4, po2_5, po2_6⟩ := hQ2
  have N2 := Fr.app N0 N2q
  obtain ⟨Lf3, X2, N3⟩ : ∃ Lf, Stand p l e ({ frames := 2, cells := 1, slots := 16, locals := 25 } : Room) s m #[(.ref sb)] below meth c T2 Lf 1 16 ∧ Fr n0 Lf := ⟨_, X2, N2⟩
  have P4 : ∀ tt_, GG p e below T2 (mkF m 6 #[.val (.ref sb)] []) tt_ → Steps p.tables e below s0 tt_ := fun tt_ kk_ => P1 tt_ (st2.trans kk_)
  have ne_sb_t_2 : sb ≠ t_2 := Nat.ne_of_lt (Nat.lt_of_lt_of_le E_sb.lt po2_0)
  have sz_t_2 : h0.size ≤ t_2 := Nat.le_trans (Nat.le_refl h0.size) po2_0
  replace E_sb : Exa Z T2.heap sb "java/lang/StringBuilder" := E_sb.keep Kc2
  replace OL : Old Z n0 T2.heap := OL.keep Kc2 (allS g_sb all0)
  have K2 : Keep h0 T2.heap [sb] := (Keep.refl h0 [sb]).trans Kc2 (allS (P := fun x => x ∈ [sb] ∨ h0.size ≤ x) (Or.inl (List.mem_of_getElem? (i := 0) rfl)) all0)
  have E_sb : Exa Z T2.heap sb "java/lang/StringBuilder" := po2_1
  have F_value_sb : Fld Z T2.heap sb "java/lang/AbstractStringBuilder" "value" "[B" (.ref t_2) := po2_2
  have F_coder_sb : Fld Z T2.heap sb "java/lang/AbstractStringBuilder" "coder" "B" (.int (0 : Int32)) := po2_3
  have F_count_sb : Fld Z T2.heap sb "java/lang/AbstractStringBuilder" "count" "I" (.int (0 : Int32)) := po2_4
  have V_t_2 : Arv Z T2.heap t_2 kb_2 .byte (16 : Int32) [] (.int (0 : Int32)) := po2_5
  have E_t_2 : Exa Z T2.heap t_2 "[B" := po2_6
  subst hs0
  obtain ⟨fs, hr, hrun, hended, hW, hsame⟩ := X2.leave (v := none) (fun _ => rfl)
  refine ⟨_, _, P4 _ ?_, hrun, hended, _, _, rfl, ?_, ⟨_, rfl⟩, hW, hsame.mono (by decide) (by decide)⟩
  · show GG p e below T2 (mkF m 6 #[.val (.ref sb)] []) _
    exact X2.returnOut hx Bd.returns (hb hby d_init3_6) hr
  · show Q_sbInit Z sb u1 u2 G1 h0 n0 _ T2.heap _
    exact ⟨t_2, kb_2, rfl, N3, K2, sz_t_2, E_sb, F_value_sb, F_coder_sb, F_count_sb, V_t_2, E_t_2⟩
theorem ef_sCoder (m : MethodId) (x0 : Addr) : entryFrame m #[(.ref x0)] 1 = mkF m 0 #[.val (.ref x0)] [] := by first | (simp [entryFrame, mkF, argsToLocals, Value.category]; done) | rfl
theorem d_coder_0 : decode jdk_42_method_152_code 0 = .ok (.getstatic 38, 3) := by decide +kernel
theorem d_coder_3 : decode jdk_42_method_152_code 3 = .ok (.ifCond .eq 10, 3) := by decide +kernel
theorem d_coder_6 : decode jdk_42_method_152_code 6 = .ok (.aload_n 0, 1) := by decide +kernel
theorem d_coder_7 : decode jdk_42_method_152_code 7 = .ok (.getfield 15, 3) := by decide +kernel
theorem d_coder_10 : decode jdk_42_method_152_code 10 = .ok (.goto 4, 3) := by decide +kernel
theorem d_coder_14 : decode jdk_42_method_152_code 14 = .ok (.ireturn, 1) := by decide +kernel
def Q_sCoder (Z : State) (xs : Addr) (G1 : Int32) (h0 : Heap) (n0 : Nat) (v : Option Value) (h : Heap) (L : List Loc) : Prop := v = some (.int (0 : Int32)) ∧ Fr n0 L ∧ h = h0
set_option maxRecDepth 65536 in
set_option maxHeartbeats 40000000 in
theorem rm_sCoder (l : Launch) (Z : State) (a0 : Array Value) (hw : ∀ d ∈ tables_1, d.before a0 Z = true) (ws : List Jvm.Cond) (xs : Addr) (G1 : Int32) (h0 : Heap) (n0 : Nat) (Z0 : n0 ≤ h0.size) (F_coder_xs : Fld Z h0 xs "java/lang/String" "coder" "B" (.int (0 : Int32))) (S_COMPACT_STRINGS : Sta Z Z.heap "java/lang/String" "COMPACT_STRINGS" "Z" (.int G1)) (OL : Old Z n0 h0) (hz : ¬ G1 = 0) :
    MetFree l (⟨"java/lang/String", "coder", "()B"⟩ : MethodName) (head1 (Jvm.Cond.code (⟨"java/lang/String", "coder", "()B"⟩ : MethodName) jdk_42_method_152_code 1 (some .byte) :: ws) ({ frames := 0, cells := 0, slots := 0, locals := 0 } : Room)) (fun a U => a = #[(.ref xs)] ∧ Z.Warmed39 U.vm ∧ U.heap = h0) (fun _ _ _ _ _ => True) (fun _ U o U' => ∃ v L, o = .returned v ∧ Q_sCoder Z xs G1 h0 n0 v U'.heap L ∧ FrameEnd U o U' L ({ frames := 0, cells := 0, slots := 0, locals := 0 } : Room).cells ({ frames := 0, cells := 0, slots := 0, locals := 0 } : Room).slots) := by
  refine MetFree.of_bodySF (plainFor_of_name pn_1) hisR ?_
  intro p e s m args below meth c s₁ Bd hml0 hP hK
  obtain ⟨rfl, hZ, hh⟩ := hP
  have hx := Bd.exec
  have hby := Bd.bytes
  have hml : c.maxLocals = 1 := hml0
  have hown : s.vm.findClass "java/lang/String" = some m.cls := findClass_of_methodNamed Bd.named
  have hnm := (name_of_methodNamed Bd.named Bd.method).1
  have X0 : Stand p l e ({ frames := 0, cells := 0, slots := 0, locals := 0 } : Room) s m #[(.ref xs)] below meth c s₁ [] 0 0 := Stand.of_body Bd
  have e0 : s₁.heap = h0 := by rw [← hh, Bd.state]; rfl
  have N0 := Fr.nil n0
  obtain ⟨s0, hs0⟩ : ∃ z, z = (s₁.setTop (entryFrame m #[(.ref xs)] 1)) := ⟨_, rfl⟩
  have P0 : ∀ tt_, GG p e below s₁ (mkF m 0 #[.val (.ref xs)] []) tt_ → Steps p.tables e below s0 tt_ := fun tt_ kk_ => by rw [hs0]; exact castTop (ef_sCoder m xs) kk_
  obtain ⟨T1, X1, e1, st1⟩ := getS2 X0 hx hZ hown (host := "") (Or.inl (ww hw 14 rfl)) Via.refl e0 (S_COMPACT_STRINGS.ext OL.2) (g := (mkF m 0 #[.val (.ref xs)] [])) rfl (hb hby d_coder_0)
  have P2 : ∀ tt_, GG p e below T1 (mkF m 3 #[.val (.ref xs)] [(.int G1)]) tt_ → Steps p.tables e below s0 tt_ := fun tt_ kk_ => P0 tt_ (st1 _ kk_)
  have P3 : ∀ tt_, GG p e below T1 (mkF m 7 #[.val (.ref xs)] [(.ref xs)]) tt_ → Steps p.tables e below s0 tt_ := fun tt_ kk_ => P2 tt_ (by
    refine XS.ifNo X1.here hx rfl (hb hby d_coder_3) rfl ((if0 _ _).trans (feq (hz : ¬ (G1 = (0 : Int32)))).1) ?_
    refine XS.aloadN X1.here hx rfl (hb hby d_coder_6) rfl rfl ?_
    exact kk_)
  obtain ⟨T4, X4, e4, st4⟩ := getF X1 hx hZ hown (host := "") (Or.inl (ww hw 26 rfl)) Via.refl e1 F_coder_xs (g := (mkF m 7 #[.val (.ref xs)] [(.ref xs)])) rfl rfl (hb hby d_coder_7)
  have P5 : ∀ tt_, GG p e below T4 (mkF m 10 #[.val (.ref xs)] [(.int (0 : Int32))]) tt_ → Steps p.tables e below s0 tt_ := fun tt_ kk_ => P3 tt_ (st4 _ kk_)
  have P6 : ∀ tt_, GG p e below T4 (mkF m 14 #[.val (.ref xs)] [(.int (0 : Int32))]) tt_ → Steps p.tables e below s0 tt_ := fun tt_ kk_ => P5 tt_ (by
    refine XS.goto X4.here hx rfl (pc0 := 10) (pc' := 14) rfl (hb hby d_coder_10) (by decide) (by decide) ?_
    exact kk_)
  subst hs0
  obtain ⟨fs, hr, hrun, hended, hW, hsame⟩ := X4.leave (v := some (.int (nar .byte (0 : Int32)))) (fun h => by rw [Bd.returns] at h; cases h)
  refine ⟨_, _, P6 _ ?_, hrun, hended, _, _, rfl, ?_, ⟨_, rfl⟩, hW, hsame.mono (by decide) (by decide)⟩
  · show GG p e below T4 (mkF m 14 #[.val (.ref xs)] [(.int (0 : Int32))]) _
    exact retN X4 hx (t := .byte) Bd.returns (by simp) (hb hby d_coder_14) hr
  · show Q_sCoder Z xs G1 h0 n0 _ T4.heap _
    rw [e4]
    exact ⟨rfl, N0, rfl⟩
theorem ef_sLen (m : MethodId) (x0 : Addr) : entryFrame m #[(.ref x0)] 1 = mkF m 0 #[.val (.ref x0)] [] := by first | (simp [entryFrame, mkF, argsToLocals, Value.category]; done) | rfl
theorem d_length_0 : decode jdk_42_method_54_code 0 = .ok (.aload_n 0, 1) := by decide +kernel
theorem d_length_1 : decode jdk_42_method_54_code 1 = .ok (.getfield 9, 3) := by decide +kernel
theorem d_length_4 : decode jdk_42_method_54_code 4 = .ok (.arraylength, 1) := by decide +kernel
theorem d_length_5 : decode jdk_42_method_54_code 5 = .ok (.aload_n 0, 1) := by decide +kernel
theorem pd_4 : parseMethodDescriptor "()B" = some ⟨[], some .byte⟩ := by decide +kernel
theorem d_length_6 : decode jdk_42_method_54_code 6 = .ok (.invokevirtual 335, 3) := by decide +kernel
abbrev mn_4 : MethodName := ⟨"java/lang/String", "coder", "()B"⟩
theorem d_length_9 : decode jdk_42_method_54_code 9 = .ok (.ishr, 1) := by decide +kernel
theorem d_length_10 : decode jdk_42_method_54_code 10 = .ok (.ireturn, 1) := by decide +kernel
def Q_sLen (Z : State) (xs : Addr) (ts : Addr) (ks : ClassId) (ss : List Value) (G1 : Int32) (h0 : Heap) (n0 : Nat) (v : Option Value) (h : Heap) (L : List Loc) : Prop := v = some (.int (Int32.ofNat ss.length)) ∧ Fr n0 L ∧ h = h0
set_option maxRecDepth 65536 in
set_option maxHeartbeats 40000000 in
theorem rm_sLen (l : Launch) (Z : State) (a0 : Array Value) (hw : ∀ d ∈ tables_1, d.before a0 Z = true) (ws : List Jvm.Cond) (xs : Addr) (ts : Addr) (ks : ClassId) (ss : List Value) (G1 : Int32) (h0 : Heap) (n0 : Nat) (Z0 : n0 ≤ h0.size) (E_xs : Exa Z h0 xs "java/lang/String") (F_value_xs : Fld Z h0 xs "java/lang/String" "value" "[B" (.ref ts)) (F_coder_xs : Fld Z h0 xs "java/lang/String" "coder" "B" (.int (0 : Int32))) (V_ts : Arv Z h0 ts ks .byte (Int32.ofNat ss.length) ss (.int (0 : Int32))) (S_COMPACT_STRINGS : Sta Z Z.heap "java/lang/String" "COMPACT_STRINGS" "Z" (.int G1)) (OL : Old Z n0 h0) (hz : ¬ G1 = 0) :
    MetFree l (⟨"java/lang/String", "length", "()I"⟩ : MethodName) (head1 (Jvm.Cond.code (⟨"java/lang/String", "length", "()I"⟩ : MethodName) jdk_42_method_54_code 1 (some .int) :: ws) ({ frames := 1, cells := 0, slots := 0, locals := 13 } : Room)) (fun a U => a = #[(.ref xs)] ∧ Z.Warmed39 U.vm ∧ U.heap = h0) (fun _ _ _ _ _ => True) (fun _ U o U' => ∃ v L, o = .returned v ∧ Q_sLen Z xs ts ks ss G1 h0 n0 v U'.heap L ∧ FrameEnd U o U' L ({ frames := 1, cells := 0, slots := 0, locals := 13 } : Room).cells ({ frames := 1, cells := 0, slots := 0, locals := 13 } : Room).slots) := by
  refine MetFree.of_bodySF (plainFor_of_name pn_1) hisR ?_
  intro p e s m args below meth c s₁ Bd hml0 hP hK
  obtain ⟨rfl, hZ, hh⟩ := hP
  have hx := Bd.exec
  have hby := Bd.bytes
  have hml : c.maxLocals = 1 := hml0
  have hown : s.vm.findClass "java/lang/String" = some m.cls := findClass_of_methodNamed Bd.named
  have hnm := (name_of_methodNamed Bd.named Bd.method).1
  have X0 : Stand p l e ({ frames := 1, cells := 0, slots := 0, locals := 13 } : Room) s m #[(.ref xs)] below meth c s₁ [] 0 0 := Stand.of_body Bd
  have e0 : s₁.heap = h0 := by rw [← hh, Bd.state]; rfl
  have N0 := Fr.nil n0
  obtain ⟨s0, hs0⟩ : ∃ z, z = (s₁.setTop (entryFrame m #[(.ref xs)] 1)) := ⟨_, rfl⟩
  have P0 : ∀ tt_, GG p e below s₁ (mkF m 0 #[.val (.ref xs)] []) tt_ → Steps p.tables e below s0 tt_ := fun tt_ kk_ => by rw [hs0]; exact castTop (ef_sLen m xs) kk_
  have P1 : ∀ tt_, GG p e below s₁ (mkF m 1 #[.val (.ref xs)] [(.ref xs)]) tt_ → Steps p.tables e below s0 tt_ := fun tt_ kk_ => P0 tt_ (by
    refine XS.aloadN X0.here hx rfl (hb hby d_length_0) rfl rfl ?_
    exact kk_)
  obtain ⟨T2, X2, e2, st2⟩ := getF X0 hx hZ hown (host := "") (Or.inl (ww hw 28 rfl)) Via.refl e0 F_value_xs (g := (mkF m 1 #[.val (.ref xs)] [(.ref xs)])) rfl rfl (hb hby d_length_1)
  have P3 : ∀ tt_, GG p e below T2 (mkF m 4 #[.val (.ref xs)] [(.ref ts)]) tt_ → Steps p.tables e below s0 tt_ := fun tt_ kk_ => P1 tt_ (st2 _ kk_)
  obtain ⟨cl4, Ar4, -, S4, M4, -, -⟩ := id V_ts
  have P5 : ∀ tt_, GG p e below T2 (mkF m 5 #[.val (.ref xs)] [(.int (Int32.ofNat ss.length))]) tt_ → Steps p.tables e below s0 tt_ := fun tt_ kk_ => P3 tt_ (by
    refine X2.arraylength hx (by rw [e2]; exact Ar4.1) (State.isArrayOf_alike hZ.alike Ar4.2.1) (g := (mkF m 4 #[.val (.ref xs)] [(.ref ts)])) rfl rfl (hb hby d_length_4) _ ?_
    rw [len_of S4 M4]
    exact kk_)
  have P6 : ∀ tt_, GG p e below T2 (mkF m 6 #[.val (.ref xs)] [(.ref xs), (.int (Int32.ofNat ss.length))]) tt_ → Steps p.tables e below s0 tt_ := fun tt_ kk_ => P5 tt_ (by
    refine XS.aloadN X2.here hx rfl (hb hby d_length_5) rfl rfl ?_
    exact kk_)
  obtain ⟨cq7, kq7, q7a, q7b, q7c⟩ := isOf hZ e2 E_xs
  obtain ⟨_, _, ⟨T7, L7, k7, n7⟩, -, X7, ⟨Lc7, hQ7, l7, y7, z7⟩, st7⟩ := X2.virtualBack hx (y := mn_4) (z := mn_4) hown (mw hZ hw 153 rfl) (mw hZ hw 154 rfl) (notFace_of_selects (args := #[]) (mw hZ hw 156 rfl)) (mw hZ hw 156 rfl) (mw hZ hw 155 rfl) (by decide) (backOf (W := 1) (rm_sCoder l Z a0 hw [] xs G1 h0 n0 (Nat.le_trans Z0 (Nat.le_refl h0.size)) F_coder_xs S_COMPACT_STRINGS OL hz) hZ (ww hw 157 rfl) (ww hw 2 rfl) (by decide) (by decide)) q7a q7c (g := (mkF m 6 #[.val (.ref xs)] [(.ref xs), (.int (Int32.ofNat ss.length))])) rfl (by rw [hml]; rfl) (Steps.refl _) (argsL := []) (rest := [(.int (Int32.ofNat ss.length))]) (lenOf pd_4 rfl) rfl (by show 2 * 0 + _ ≤ _; exact Nat.le_of_eq rfl) (hb hby d_length_6) (fun _ _ => ⟨rfl, e2, (by decide : 0 + 0 ≤ _), (by decide : 0 + 0 ≤ _)⟩)
  dsimp only [Pt.U, Pt.locs, Pt.cells, Pt.slots] at X7 l7 y7 z7 st7 hQ7
  subst l7 y7 z7
  obtain ⟨rfl, N7q, e7⟩ := hQ7
  have N7 := Fr.app N0 N7q
  have P8 : ∀ tt_, GG p e below T7 (mkF m 9 #[.val (.ref xs)] [(.int (0 : Int32)), (.int (Int32.ofNat ss.length))]) tt_ → Steps p.tables e below s0 tt_ := fun tt_ kk_ => P6 tt_ (st7.trans kk_)
  have P9 : ∀ tt_, GG p e below T7 (mkF m 10 #[.val (.ref xs)] [(.int ((Int32.ofNat ss.length) >>> ((0 : Int32) &&& 31)))]) tt_ → Steps p.tables e below s0 tt_ := fun tt_ kk_ => P8 tt_ (by
    refine XS.ishr X7.here hx rfl (hb hby d_length_9) rfl ?_
    exact kk_)
  have P10 : ∀ tt_, GG p e below T7 (mkF m 10 #[.val (.ref xs)] [(.int (Int32.ofNat ss.length))]) tt_ → Steps p.tables e below s0 tt_ := fun tt_ kk_ => P9 tt_ (by rw [own_shr0]; exact kk_)
  subst hs0
  obtain ⟨fs, hr, hrun, hended, hW, hsame⟩ := X7.leave (v := some (.int (Int32.ofNat ss.length))) (fun h => by rw [Bd.returns] at h; cases h)
  refine ⟨_, _, P10 _ ?_, hrun, hended, _, _, rfl, ?_, ⟨_, rfl⟩, hW, hsame.mono (by decide) (by decide)⟩
  · show GG p e below T7 (mkF m 10 #[.val (.ref xs)] [(.int (Int32.ofNat ss.length))]) _
    exact retI X7 hx Bd.returns (hb hby d_length_10) hr
  · show Q_sLen Z xs ts ks ss G1 h0 n0 _ T7.heap _
    rw [e7]
    exact ⟨rfl, N7, rfl⟩
theorem ef_ensCap (m : MethodId) (x0 : Addr) (x1 : Int32) : entryFrame m #[(.ref x0), (.int x1)] 3 = mkF m 0 #[.val (.ref x0), .val (.int x1), .unset] [] := by first | (simp [entryFrame, mkF, argsToLocals, Value.category]; done) | rfl
theorem d_ensureCapacityInternal_0 : decode jdk_68_method_9_code 0 = .ok (.aload_n 0, 1) := by decide +kernel
theorem d_ensureCapacityInternal_1 : decode jdk_68_method_9_code 1 = .ok (.getfield 15, 3) := by decide +kernel
theorem d_ensureCapacityInternal_4 : decode jdk_68_method_9_code 4 = .ok (.arraylength, 1) := by decide +kernel
theorem d_ensureCapacityInternal_5 : decode jdk_68_method_9_code 5 = .ok (.aload_n 0, 1) := by decide +kernel
theorem d_ensureCapacityInternal_6 : decode jdk_68_method_9_code 6 = .ok (.getfield 22, 3) := by decide +kernel
theorem d_ensureCapacityInternal_9 : decode jdk_68_method_9_code 9 = .ok (.ishr, 1) := by decide +kernel
theorem d_ensureCapacityInternal_10 : decode jdk_68_method_9_code 10 = .ok (.istore_n 2, 1) := by decide +kernel
theorem d_ensureCapacityInternal_11 : decode jdk_68_method_9_code 11 = .ok (.iload_n 1, 1) := by decide +kernel
theorem d_ensureCapacityInternal_12 : decode jdk_68_method_9_code 12 = .ok (.iload_n 2, 1) := by decide +kernel
theorem d_ensureCapacityInternal_13 : decode jdk_68_method_9_code 13 = .ok (.isub, 1) := by decide +kernel
theorem d_ensureCapacityInternal_14 : decode jdk_68_method_9_code 14 = .ok (.ifCond .le 24, 3) := by decide +kernel
theorem d_ensureCapacityInternal_38 : decode jdk_68_method_9_code 38 = .ok (.return_, 1) := by decide +kernel
def Q_ensCap (Z : State) (sb : Addr) (t : Addr) (kb : ClassId) (bs : List Value) (mc : Nat) (h0 : Heap) (n0 : Nat) (v : Option Value) (h : Heap) (L : List Loc) : Prop := v = none ∧ Fr n0 L ∧ h = h0
set_option maxRecDepth 65536 in
set_option maxHeartbeats 40000000 in
theorem rm_ensCap (l : Launch) (Z : State) (a0 : Array Value) (hw : ∀ d ∈ tables_1, d.before a0 Z = true) (ws : List Jvm.Cond) (sb : Addr) (t : Addr) (kb : ClassId) (bs : List Value) (mc : Nat) (h0 : Heap) (n0 : Nat) (Z0 : n0 ≤ h0.size) (E_sb : Exa Z h0 sb "java/lang/StringBuilder") (F_value_sb : Fld Z h0 sb "java/lang/AbstractStringBuilder" "value" "[B" (.ref t)) (F_coder_sb : Fld Z h0 sb "java/lang/AbstractStringBuilder" "coder" "B" (.int (0 : Int32))) (F_count_sb : Fld Z h0 sb "java/lang/AbstractStringBuilder" "count" "I" (.int (Int32.ofNat bs.length))) (V_t : Arv Z h0 t kb .byte (16 : Int32) bs (.int (0 : Int32))) (E_t : Exa Z h0 t "[B") (hmc : mc ≤ 16) :
    MetFree l (⟨"java/lang/AbstractStringBuilder", "ensureCapacityInternal", "(I)V"⟩ : MethodName) (head1 (Jvm.Cond.code (⟨"java/lang/AbstractStringBuilder", "ensureCapacityInternal", "(I)V"⟩ : MethodName) jdk_68_method_9_code 3 none :: ws) ({ frames := 0, cells := 0, slots := 0, locals := 0 } : Room)) (fun a U => a = #[(.ref sb), (.int (Int32.ofNat mc))] ∧ Z.Warmed39 U.vm ∧ U.heap = h0) (fun _ _ _ _ _ => True) (fun _ U o U' => ∃ v L, o = .returned v ∧ Q_ensCap Z sb t kb bs mc h0 n0 v U'.heap L ∧ FrameEnd U o U' L ({ frames := 0, cells := 0, slots := 0, locals := 0 } : Room).cells ({ frames := 0, cells := 0, slots := 0, locals := 0 } : Room).slots) := by
  refine MetFree.of_bodySF (plainFor_of_name pn_2) hisR ?_
  intro p e s m args below meth c s₁ Bd hml0 hP hK
  obtain ⟨rfl, hZ, hh⟩ := hP
  have hx := Bd.exec
  have hby := Bd.bytes
  have hml : c.maxLocals = 3 := hml0
  have hown : s.vm.findClass "java/lang/AbstractStringBuilder" = some m.cls := findClass_of_methodNamed Bd.named
  have hnm := (name_of_methodNamed Bd.named Bd.method).1
  have X0 : Stand p l e ({ frames := 0, cells := 0, slots := 0, locals := 0 } : Room) s m #[(.ref sb), (.int (Int32.ofNat mc))] below meth c s₁ [] 0 0 := Stand.of_body Bd
  have e0 : s₁.heap = h0 := by rw [← hh, Bd.state]; rfl
  have N0 := Fr.nil n0
  obtain ⟨s0, hs0⟩ : ∃ z, z = (s₁.setTop (entryFrame m #[(.ref sb), (.int (Int32.ofNat mc))] 3)) := ⟨_, rfl⟩
  have P0 : ∀ tt_, GG p e below s₁ (mkF m 0 #[.val (.ref sb), .val (.int (Int32.ofNat mc)), .unset] []) tt_ → Steps p.tables e below s0 tt_ := fun tt_ kk_ => by rw [hs0]; exact castTop (ef_ensCap m sb (Int32.ofNat mc)) kk_
  have P1 : ∀ tt_, GG p e below s₁ (mkF m 1 #[.val (.ref sb), .val (.int (Int32.ofNat mc)), .unset] [(.ref sb)]) tt_ → Steps p.tables e below s0 tt_ := fun tt_ kk_ => P0 tt_ (by
    refine XS.aloadN X0.here hx rfl (hb hby d_ensureCapacityInternal_0) rfl rfl ?_
    exact kk_)
  obtain ⟨T2, X2, e2, st2⟩ := getF X0 hx hZ hown (host := "") (Or.inl (ww hw 134 rfl)) Via.refl e0 F_value_sb (g := (mkF m 1 #[.val (.ref sb), .val (.int (Int32.ofNat mc)), .unset] [(.ref sb)])) rfl rfl (hb hby d_ensureCapacityInternal_1)
  have P3 : ∀ tt_, GG p e below T2 (mkF m 4 #[.val (.ref sb), .val (.int (Int32.ofNat mc)), .unset] [(.ref t)]) tt_ → Steps p.tables e below s0 tt_ := fun tt_ kk_ => P1 tt_ (st2 _ kk_)
  obtain ⟨cl4, Ar4, -, S4, M4, -, -⟩ := id V_t
  have P5 : ∀ tt_, GG p e below T2 (mkF m 5 #[.val (.ref sb), .val (.int (Int32.ofNat mc)), .unset] [(.int (16 : Int32))]) tt_ → Steps p.tables e below s0 tt_ := fun tt_ kk_ => P3 tt_ (by
    refine X2.arraylength hx (by rw [e2]; exact Ar4.1) (State.isArrayOf_alike hZ.alike Ar4.2.1) (g := (mkF m 4 #[.val (.ref sb), .val (.int (Int32.ofNat mc)), .unset] [(.ref t)])) rfl rfl (hb hby d_ensureCapacityInternal_4) _ ?_
    rw [len_of S4 M4]
    exact kk_)
  have P6 : ∀ tt_, GG p e below T2 (mkF m 6 #[.val (.ref sb), .val (.int (Int32.ofNat mc)), .unset] [(.ref sb), (.int (16 : Int32))]) tt_ → Steps p.tables e below s0 tt_ := fun tt_ kk_ => P5 tt_ (by
    refine XS.aloadN X2.here hx rfl (hb hby d_ensureCapacityInternal_5) rfl rfl ?_
    exact kk_)
  obtain ⟨T7, X7, e7, st7⟩ := getF X2 hx hZ hown (host := "") (Or.inl (ww hw 136 rfl)) Via.refl e2 F_coder_sb (g := (mkF m 6 #[.val (.ref sb), .val (.int (Int32.ofNat mc)), .unset] [(.ref sb), (.int (16 : Int32))])) rfl rfl (hb hby d_ensureCapacityInternal_6)
  have P8 : ∀ tt_, GG p e below T7 (mkF m 9 #[.val (.ref sb), .val (.int (Int32.ofNat mc)), .unset] [(.int (0 : Int32)), (.int (16 : Int32))]) tt_ → Steps p.tables e below s0 tt_ := fun tt_ kk_ => P6 tt_ (st7 _ kk_)
  have P9 : ∀ tt_, GG p e below T7 (mkF m 38 #[.val (.ref sb), .val (.int (Int32.ofNat mc)), .val (.int (16 : Int32))] []) tt_ → Steps p.tables e below s0 tt_ := fun tt_ kk_ => P8 tt_ (by
    refine XS.ishr X7.here hx rfl (hb hby d_ensureCapacityInternal_9) rfl ?_
    refine XS.istoreN X7.here hx rfl (hb hby d_ensureCapacityInternal_10) rfl (l' := #[.val (.ref sb), .val (.int (Int32.ofNat mc)), .val (.int (16 : Int32))]) rfl ?_
    refine XS.iloadN X7.here hx rfl (hb hby d_ensureCapacityInternal_11) rfl ?_
    refine XS.iloadN X7.here hx rfl (hb hby d_ensureCapacityInternal_12) rfl ?_
    refine XS.isub X7.here hx rfl (hb hby d_ensureCapacityInternal_13) rfl ?_
    refine XS.ifYes X7.here hx rfl (pc0 := 14) (pc' := 38) rfl (hb hby d_ensureCapacityInternal_14) rfl ((if0 _ _).trans (flt ((own_cap mc 16 hmc (by decide)) : ¬ ((0 : Int32) < ((Int32.ofNat mc) - (16 : Int32))))).2.2.2) (by decide) (by decide) ?_
    exact kk_)
  subst hs0
  obtain ⟨fs, hr, hrun, hended, hW, hsame⟩ := X7.leave (v := none) (fun _ => rfl)
  refine ⟨_, _, P9 _ ?_, hrun, hended, _, _, rfl, ?_, ⟨_, rfl⟩, hW, hsame.mono (by decide) (by decide)⟩
  · show GG p e below T7 (mkF m 38 #[.val (.ref sb), .val (.int (Int32.ofNat mc)), .val (.int (16 : Int32))] []) _
    exact X7.returnOut hx Bd.returns (hb hby d_ensureCapacityInternal_38) hr
  · show Q_ensCap Z sb t kb bs mc h0 n0 _ T7.heap _
    rw [e7]
    exact ⟨rfl, N0, rfl⟩
theorem ef_infl (m : MethodId) (x0 : Addr) (x1 : Addr) : entryFrame m #[(.ref x0), (.ref x1)] 2 = mkF m 0 #[.val (.ref x0), .val (.ref x1)] [] := by first | (simp [entryFrame, mkF, argsToLocals, Value.category]; done) | rfl
theorem d_inflateIfNeededFor_0 : decode jdk_68_method_71_code 0 = .ok (.getstatic 18, 3) := by decide +kernel
theorem d_inflateIfNeededFor_3 : decode jdk_68_method_71_code 3 = .ok (.ifCond .eq 18, 3) := by decide +kernel
theorem d_inflateIfNeededFor_6 : decode jdk_68_method_71_code 6 = .ok (.aload_n 0, 1) := by decide +kernel
theorem d_inflateIfNeededFor_7 : decode jdk_68_method_71_code 7 = .ok (.getfield 22, 3) := by decide +kernel
theorem d_inflateIfNeededFor_10 : decode jdk_68_method_71_code 10 = .ok (.aload_n 1, 1) := by decide +kernel
theorem d_inflateIfNeededFor_11 : decode jdk_68_method_71_code 11 = .ok (.invokevirtual 40, 3) := by decide +kernel
theorem d_inflateIfNeededFor_14 : decode jdk_68_method_71_code 14 = .ok (.if_icmp .eq 7, 3) := by decide +kernel
theorem d_inflateIfNeededFor_21 : decode jdk_68_method_71_code 21 = .ok (.return_, 1) := by decide +kernel
def Q_infl (Z : State) (sb : Addr) (xs : Addr) (G1 : Int32) (h0 : Heap) (n0 : Nat) (v : Option Value) (h : Heap) (L : List Loc) : Prop := v = none ∧ Fr n0 L ∧ h = h0
set_option maxRecDepth 65536 in
set_option maxHeartbeats 40000000 in
theorem rm_infl (l : Launch) (Z : State) (a0 : Array Value) (hw : ∀ d ∈ tables_1, d.before a0 Z = true) (ws : List Jvm.Cond) (sb : Addr) (xs : Addr) (G1 : Int32) (h0 : Heap) (n0 : Nat) (Z0 : n0 ≤ h0.size) (F_coder_sb : Fld Z h0 sb "java/lang/AbstractStringBuilder" "coder" "B" (.int (0 : Int32))) (E_xs : Exa Z h0 xs "java/lang/String") (F_coder_xs : Fld Z h0 xs "java/lang/String" "coder" "B" (.int (0 : Int32))) (S_COMPACT_STRINGS : Sta Z Z.heap "java/lang/String" "COMPACT_STRINGS" "Z" (.int G1)) (OL : Old Z n0 h0) (hz : ¬ G1 = 0) :
    MetFree l (⟨"java/lang/AbstractStringBuilder", "inflateIfNeededFor", "(Ljava/lang/String;)V"⟩ : MethodName) (head1 (Jvm.Cond.code (⟨"java/lang/AbstractStringBuilder", "inflateIfNeededFor", "(Ljava/lang/String;)V"⟩ : MethodName) jdk_68_method_71_code 2 none :: ws) ({ frames := 1, cells := 0, slots := 0, locals := 13 } : Room)) (fun a U => a = #[(.ref sb), (.ref xs)] ∧ Z.Warmed39 U.vm ∧ U.heap = h0) (fun _ _ _ _ _ => True) (fun _ U o U' => ∃ v L, o = .returned v ∧ Q_infl Z sb xs G1 h0 n0 v U'.heap L ∧ FrameEnd U o U' L ({ frames := 1, cells := 0, slots := 0, locals := 13 } : Room).cells ({ frames := 1, cells := 0, slots := 0, locals := 13 } : Room).slots) := by
  refine MetFree.of_bodySF (plainFor_of_name pn_2) hisR ?_
  intro p e s m args below meth c s₁ Bd hml0 hP hK
  obtain ⟨rfl, hZ, hh⟩ := hP
  have hx := Bd.exec
  have hby := Bd.bytes
  have hml : c.maxLocals = 2 := hml0
  have hown : s.vm.findClass "java/lang/AbstractStringBuilder" = some m.cls := findClass_of_methodNamed Bd.named
  have hnm := (name_of_methodNamed Bd.named Bd.method).1
  have X0 : Stand p l e ({ frames := 1, cells := 0, slots := 0, locals := 13 } : Room) s m #[(.ref sb), (.ref xs)] below meth c s₁ [] 0 0 := Stand.of_body Bd
  have e0 : s₁.heap = h0 := by rw [← hh, Bd.state]; rfl
  have N0 := Fr.nil n0
  obtain ⟨s0, hs0⟩ : ∃ z, z = (s₁.setTop (entryFrame m #[(.ref sb), (.ref xs)] 2)) := ⟨_, rfl⟩
  have P0 : ∀ tt_, GG p e below s₁ (mkF m 0 #[.val (.ref sb), .val (.ref xs)] []) tt_ → Steps p.tables e below s0 tt_ := fun tt_ kk_ => by rw [hs0]; exact castTop (ef_infl m sb xs) kk_
  obtain ⟨T1, X1, e1, st1⟩ := getS2 X0 hx hZ hown (host := "") (Or.inl (ww hw 133 rfl)) Via.refl e0 (S_COMPACT_STRINGS.ext OL.2) (g := (mkF m 0 #[.val (.ref sb), .val (.ref xs)] [])) rfl (hb hby d_inflateIfNeededFor_0)
  have P2 : ∀ tt_, GG p e below T1 (mkF m 3 #[.val (.ref sb), .val (.ref xs)] [(.int G1)]) tt_ → Steps p.tables e below s0 tt_ := fun tt_ kk_ => P0 tt_ (st1 _ kk_)
  have P3 : ∀ tt_, GG p e below T1 (mkF m 7 #[.val (.ref sb), .val (.ref xs)] [(.ref sb)]) tt_ → Steps p.tables e below s0 tt_ := fun tt_ kk_ => P2 tt_ (by
    refine XS.ifNo X1.here hx rfl (hb hby d_inflateIfNeededFor_3) rfl ((if0 _ _).trans (feq (hz : ¬ (G1 = (0 : Int32)))).1) ?_
    refine XS.aloadN X1.here hx rfl (hb hby d_inflateIfNeededFor_6) rfl rfl ?_
    exact kk_)
  obtain ⟨T4, X4, e4, st4⟩ := getF X1 hx hZ hown (host := "") (Or.inl (ww hw 136 rfl)) Via.refl e1 F_coder_sb (g := (mkF m 7 #[.val (.ref sb), .val (.ref xs)] [(.ref sb)])) rfl rfl (hb hby d_inflateIfNeededFor_7)
  have P5 : ∀ tt_, GG p e below T4 (mkF m 10 #[.val (.ref sb), .val (.ref xs)] [(.int (0 : Int32))]) tt_ → Steps p.tables e below s0 tt_ := fun tt_ kk_ => P3 tt_ (st4 _ kk_)
  have P6 : ∀ tt_, GG p e below T4 (mkF m 11 #[.val (.ref sb), .val (.ref xs)] [(.ref xs), (.int (0 : Int32))]) tt_ → Steps p.tables e below s0 tt_ := fun tt_ kk_ => P5 tt_ (by
    refine XS.aloadN X4.here hx rfl (hb hby d_inflateIfNeededFor_10) rfl rfl ?_
    exact kk_)
  obtain ⟨cq7, kq7, q7a, q7b, q7c⟩ := isOf hZ e4 E_xs
  obtain ⟨_, _, ⟨T7, L7, k7, n7⟩, -, X7, ⟨Lc7, hQ7, l7, y7, z7⟩, st7⟩ := X4.virtualBack hx (y := mn_4) (z := mn_4) hown (mw hZ hw 175 rfl) (mw hZ hw 154 rfl) (notFace_of_selects (args := #[]) (mw hZ hw 156 rfl)) (mw hZ hw 156 rfl) (mw hZ hw 155 rfl) (by decide) (backOf (W := 1) (rm_sCoder l Z a0 hw [] xs G1 h0 n0 (Nat.le_trans Z0 (Nat.le_refl h0.size)) F_coder_xs S_COMPACT_STRINGS OL hz) hZ (ww hw 157 rfl) (ww hw 2 rfl) (by decide) (by decide)) q7a q7c (g := (mkF m 11 #[.val (.ref sb), .val (.ref xs)] [(.ref xs), (.int (0 : Int32))])) rfl (by rw [hml]; rfl) (Steps.refl _) (argsL := []) (rest := [(.int (0 : Int32))]) (lenOf pd_4 rfl) rfl (by show 2 * 0 + _ ≤ _; exact Nat.le_of_eq rfl) (hb hby d_inflateIfNeededFor_11) (fun _ _ => ⟨rfl, e4, (by decide : 0 + 0 ≤ _), (by decide : 0 + 0 ≤ _)⟩)
  dsimp only [Pt.U, Pt.locs, Pt.cells, Pt.slots] at X7 l7 y7 z7 st7 hQ7
  subst l7 y7 z7
  obtain ⟨rfl, N7q, e7⟩ := hQ7
  have N7 := Fr.app N0 N7q
  have P8 : ∀ tt_, GG p e below T7 (mkF m 14 #[.val (.ref sb), .val (.ref xs)] [(.int (0 : Int32)), (.int (0 : Int32))]) tt_ → Steps p.tables e below s0 tt_ := fun tt_ kk_ => P6 tt_ (st7.trans kk_)
  have P9 : ∀ tt_, GG p e below T7 (mkF m 21 #[.val (.ref sb), .val (.ref xs)] []) tt_ → Steps p.tables e below s0 tt_ := fun tt_ kk_ => P8 tt_ (by
    refine XS.icmpYes X7.here hx rfl (pc0 := 14) (pc' := 21) rfl (hb hby d_inflateIfNeededFor_14) rfl (teq (rfl : (0 : Int32) = (0 : Int32))).1 (by decide) (by decide) ?_
    exact kk_)
  subst hs0
  obtain ⟨fs, hr, hrun, hended, hW, hsame⟩ := X7.leave (v := none) (fun _ => rfl)
  refine ⟨_, _, P9 _ ?_, hrun, hended, _, _, rfl, ?_, ⟨_, rfl⟩, hW, hsame.mono (by decide) (by decide)⟩
  · show GG p e below T7 (mkF m 21 #[.val (.ref sb), .val (.ref xs)] []) _
    exact X7.returnOut hx Bd.returns (hb hby d_inflateIfNeededFor_21) hr
  · show Q_infl Z sb xs G1 h0 n0 _ T7.heap _
    rw [e7]
    exact ⟨rfl, N7, rfl⟩
theorem ef_getB (m : MethodId) (x0 : Addr) (x1 : Addr) (x2 : Int32) : entryFrame m #[(.ref x0), (.ref x1), (.int x2), (.int (0 : Int32))] 4 = mkF m 0 #[.val (.ref x0), .val (.ref x1), .val (.int x2), .val (.int (0 : Int32))] [] := by first | (simp [entryFrame, mkF, argsToLocals, Value.category]; done) | rfl
theorem d_getBytes_0 : decode jdk_42_method_147_code 0 = .ok (.aload_n 0, 1) := by decide +kernel
theorem d_getBytes_1 : decode jdk_42_method_147_code 1 = .ok (.invokevirtual 335, 3) := by decide +kernel
theorem d_getBytes_4 : decode jdk_42_method_147_code 4 = .ok (.iload_n 3, 1) := by decide +kernel
theorem d_getBytes_5 : decode jdk_42_method_147_code 5 = .ok (.if_icmp .ne 23, 3) := by decide +kernel
theorem d_getBytes_8 : decode jdk_42_method_147_code 8 = .ok (.aload_n 0, 1) := by decide +kernel
theorem d_getBytes_9 : decode jdk_42_method_147_code 9 = .ok (.getfield 9, 3) := by decide +kernel
theorem d_getBytes_12 : decode jdk_42_method_147_code 12 = .ok (.iconst 0, 1) := by decide +kernel
theorem d_getBytes_13 : decode jdk_42_method_147_code 13 = .ok (.aload_n 1, 1) := by decide +kernel
theorem d_getBytes_14 : decode jdk_42_method_147_code 14 = .ok (.iload_n 2, 1) := by decide +kernel
theorem d_getBytes_15 : decode jdk_42_method_147_code 15 = .ok (.iload_n 3, 1) := by decide +kernel
theorem d_getBytes_16 : decode jdk_42_method_147_code 16 = .ok (.ishl, 1) := by decide +kernel
theorem d_getBytes_17 : decode jdk_42_method_147_code 17 = .ok (.aload_n 0, 1) := by decide +kernel
theorem d_getBytes_18 : decode jdk_42_method_147_code 18 = .ok (.getfield 9, 3) := by decide +kernel
theorem d_getBytes_21 : decode jdk_42_method_147_code 21 = .ok (.arraylength, 1) := by decide +kernel
theorem d_getBytes_22 : decode jdk_42_method_147_code 22 = .ok (.invokestatic 212, 3) := by decide +kernel
theorem d_getBytes_25 : decode jdk_42_method_147_code 25 = .ok (.goto 18, 3) := by decide +kernel
theorem d_getBytes_43 : decode jdk_42_method_147_code 43 = .ok (.return_, 1) := by decide +kernel
def Q_getB (Z : State) (xs : Addr) (ts : Addr) (ks : ClassId) (ss : List Value) (t : Addr) (kb : ClassId) (bs : List Value) (G1 : Int32) (h0 : Heap) (n0 : Nat) (v : Option Value) (h : Heap) (L : List Loc) : Prop := v = none ∧ Fr n0 L ∧ Keep h0 h [t] ∧ (Arv Z h t kb .byte (16 : Int32) (bs ++ ss) (.int (0 : Int32)))
set_option maxRecDepth 65536 in
set_option maxHeartbeats 40000000 in
theorem rm_getB (l : Launch) (Z : State) (a0 : Array Value) (hw : ∀ d ∈ tables_1, d.before a0 Z = true) (ws : List Jvm.Cond) (xs : Addr) (ts : Addr) (ks : ClassId) (ss : List Value) (t : Addr) (kb : ClassId) (bs : List Value) (G1 : Int32) (h0 : Heap) (n0 : Nat) (Z0 : n0 ≤ h0.size) (E_xs : Exa Z h0 xs "java/lang/String") (F_value_xs : Fld Z h0 xs "java/lang/String" "value" "[B" (.ref ts)) (F_coder_xs : Fld Z h0 xs "java/lang/String" "coder" "B" (.int (0 : Int32))) (V_ts : Arv Z h0 ts ks .byte (Int32.ofNat ss.length) ss (.int (0 : Int32))) (V_t : Arv Z h0 t kb .byte (16 : Int32) bs (.int (0 : Int32))) (g_t : n0 ≤ t) (ne_xs_t : xs ≠ t) (ne_ts_t : ts ≠ t) (S_COMPACT_STRINGS : Sta Z Z.heap "java/lang/String" "COMPACT_STRINGS" "Z" (.int G1)) (OL : Old Z n0 h0) (hz : ¬ G1 = 0) (hle : bs.length + ss.length ≤ 16) :
    MetFree l (⟨"java/lang/String", "getBytes", "([BIB)V"⟩ : MethodName) (head1 (Jvm.Cond.code (⟨"java/lang/String", "getBytes", "([BIB)V"⟩ : MethodName) jdk_42_method_147_code 4 none :: ws) ({ frames := 1, cells := 0, slots := 0, locals := 18 } : Room)) (fun a U => a = #[(.ref xs), (.ref t), (.int (Int32.ofNat bs.length)), (.int (0 : Int32))] ∧ Z.Warmed39 U.vm ∧ U.heap = h0) (fun _ _ _ _ _ => True) (fun _ U o U' => ∃ v L, o = .returned v ∧ Q_getB Z xs ts ks ss t kb bs G1 h0 n0 v U'.heap L ∧ FrameEnd U o U' L ({ frames := 1, cells := 0, slots := 0, locals := 18 } : Room).cells ({ frames := 1, cells := 0, slots := 0, locals := 18 } : Room).slots) := by
  refine MetFree.of_bodySF (plainFor_of_name pn_1) hisR ?_
  intro p e s m args below meth c s₁ Bd hml0 hP hK
  obtain ⟨rfl, hZ, hh⟩ := hP
  have hx := Bd.exec
  have hby := Bd.bytes
  have hml : c.maxLocals = 4 := hml0
  have hown : s.vm.findClass "java/lang/String" = some m.cls := findClass_of_methodNamed Bd.named
  have hnm := (name_of_methodNamed Bd.named Bd.method).1
  have X0 : Stand p l e ({ frames := 1, cells := 0, slots := 0, locals := 18 } : Room) s m #[(.ref xs), (.ref t), (.int (Int32.ofNat bs.length)), (.int (0 : Int32))] below meth c s₁ [] 0 0 := Stand.of_body Bd
  have e0 : s₁.heap = h0 := by rw [← hh, Bd.state]; rfl
  have N0 := Fr.nil n0
  obtain ⟨s0, hs0⟩ : ∃ z, z = (s₁.setTop (entryFrame m #[(.ref xs), (.ref t), (.int (Int32.ofNat bs.length)), (.int (0 : Int32))] 4)) := ⟨_, rfl⟩
  have P0 : ∀ tt_, GG p e below s₁ (mkF m 0 #[.val (.ref xs), .val (.ref t), .val (.int (Int32.ofNat bs.length)), .val (.int (0 : Int32))] []) tt_ → Steps p.tables e below s0 tt_ := fun tt_ kk_ => by rw [hs0]; exact castTop (ef_getB m xs t (Int32.ofNat bs.length)) kk_
  have P1 : ∀ tt_, GG p e below s₁ (mkF m 1 #[.val (.ref xs), .val (.ref t), .val (.int (Int32.ofNat bs.length)), .val (.int (0 : Int32))] [(.ref xs)]) tt_ → Steps p.tables e below s0 tt_ := fun tt_ kk_ => P0 tt_ (by
    refine XS.aloadN X0.here hx rfl (hb hby d_getBytes_0) rfl rfl ?_
    exact kk_)
  obtain ⟨cq2, kq2, q2a, q2b, q2c⟩ := isOf hZ e0 E_xs
  obtain ⟨_, _, ⟨T2, L2, k2, n2⟩, -, X2, ⟨Lc2, hQ2, l2, y2, z2⟩, st2⟩ := X0.virtualBack hx (y := mn_4) (z := mn_4) hown (mw hZ hw 153 rfl) (mw hZ hw 154 rfl) (notFace_of_selects (args := #[]) (mw hZ hw 156 rfl)) (mw hZ hw 156 rfl) (mw hZ hw 155 rfl) (by decide) (backOf (W := 0) (rm_sCoder l Z a0 hw [] xs G1 h0 n0 (Nat.le_trans Z0 (Nat.le_refl h0.size)) F_coder_xs S_COMPACT_STRINGS OL hz) hZ (ww hw 157 rfl) (ww hw 2 rfl) (by decide) (by decide)) q2a q2c (g := (mkF m 1 #[.val (.ref xs), .val (.ref t), .val (.int (Int32.ofNat bs.length)), .val (.int (0 : Int32))] [(.ref xs)])) rfl (by rw [hml]; rfl) (Steps.refl _) (argsL := []) (rest := []) (lenOf pd_4 rfl) rfl (by show 2 * 0 + _ ≤ _; exact Nat.le_of_eq rfl) (hb hby d_getBytes_1) (fun _ _ => ⟨rfl, e0, (by decide : 0 + 0 ≤ _), (by decide : 0 + 0 ≤ _)⟩)
  dsimp only [Pt.U, Pt.locs, Pt.cells, Pt.slots] at X2 l2 y2 z2 st2 hQ2
  subst l2 y2 z2
  obtain ⟨rfl, N2q, e2⟩ := hQ2
  have N2 := Fr.app N0 N2q
  have P3 : ∀ tt_, GG p e below T2 (mkF m 4 #[.val (.ref xs), .val (.ref t), .val (.int (Int32.ofNat bs.length)), .val (.int (0 : Int32))] [(.int (0 : Int32))]) tt_ → Steps p.tables e below s0 tt_ := fun tt_ kk_ => P1 tt_ (st2.trans kk_)
  have P4 : ∀ tt_, GG p e below T2 (mkF m 9 #[.val (.ref xs), .val (.ref t), .val (.int (Int32.ofNat bs.length)), .val (.int (0 : Int32))] [(.ref xs)]) tt_ → Steps p.tables e below s0 tt_ := fun tt_ kk_ => P3 tt_ (by
    refine XS.iloadN X2.here hx rfl (hb hby d_getBytes_4) rfl ?_
    refine XS.icmpNo X2.here hx rfl (hb hby d_getBytes_5) rfl (teq (rfl : (0 : Int32) = (0 : Int32))).2 ?_
    refine XS.aloadN X2.here hx rfl (hb hby d_getBytes_8) rfl rfl ?_
    exact kk_)
  obtain ⟨T5, X5, e5, st5⟩ := getF X2 hx hZ hown (host := "") (Or.inl (ww hw 28 rfl)) Via.refl e2 F_value_xs (g := (mkF m 9 #[.val (.ref xs), .val (.ref t), .val (.int (Int32.ofNat bs.length)), .val (.int (0 : Int32))] [(.ref xs)])) rfl rfl (hb hby d_getBytes_9)
  have P6 : ∀ tt_, GG p e below T5 (mkF m 12 #[.val (.ref xs), .val (.ref t), .val (.int (Int32.ofNat bs.length)), .val (.int (0 : Int32))] [(.ref ts)]) tt_ → Steps p.tables e below s0 tt_ := fun tt_ kk_ => P4 tt_ (st5 _ kk_)
  have P7 : ∀ tt_, GG p e below T5 (mkF m 17 #[.val (.ref xs), .val (.ref t), .val (.int (Int32.ofNat bs.length)), .val (.int (0 : Int32))] [(.int ((Int32.ofNat bs.length) <<< ((0 : Int32) &&& 31))), (.ref t), (.int (0 : Int32)), (.ref ts)]) tt_ → Steps p.tables e below s0 tt_ := fun tt_ kk_ => P6 tt_ (by
    refine XS.iconst X5.here hx rfl (hb hby d_getBytes_12) ?_
    refine XS.aloadN X5.here hx rfl (hb hby d_getBytes_13) rfl rfl ?_
    refine XS.iloadN X5.here hx rfl (hb hby d_getBytes_14) rfl ?_
    refine XS.iloadN X5.here hx rfl (hb hby d_getBytes_15) rfl ?_
    refine XS.ishl X5.here hx rfl (hb hby d_getBytes_16) rfl ?_
    exact kk_)
  have P8 : ∀ tt_, GG p e below T5 (mkF m 17 #[.val (.ref xs), .val (.ref t), .val (.int (Int32.ofNat bs.length)), .val (.int (0 : Int32))] [(.int (Int32.ofNat bs.length)), (.ref t), (.int (0 : Int32)), (.ref ts)]) tt_ → Steps p.tables e below s0 tt_ := fun tt_ kk_ => P7 tt_ (by rw [own_shl0]; exact kk_)
  have P9 : ∀ tt_, GG p e below T5 (mkF m 18 #[.val (.ref xs), .val (.ref t), .val (.int (Int32.ofNat bs.length)), .val (.int (0 : Int32))] [(.ref xs), (.int (Int32.ofNat bs.length)), (.ref t), (.int (0 : Int32)), (.ref ts)]) tt_ → Steps p.tables e below s0 tt_ := fun tt_ kk_ => P8 tt_ (by
    refine XS.aloadN X5.here hx rfl (hb hby d_getBytes_17) rfl rfl ?_
    exact kk_)
  obtain ⟨T10, X10, e10, st10⟩ := getF X5 hx hZ hown (host := "") (Or.inl (ww hw 28 rfl)) Via.refl e5 F_value_xs (g := (mkF m 18 #[.val (.ref xs), .val (.ref t), .val (.int (Int32.ofNat bs.length)), .val (.int (0 : Int32))] [(.ref xs), (.int (Int32.ofNat bs.length)), (.ref t), (.int (0 : Int32)), (.ref ts)])) rfl rfl (hb hby d_getBytes_18)
  have P11 : ∀ tt_, GG p e below T10 (mkF m 21 #[.val (.ref xs), .val (.ref t), .val (.int (Int32.ofNat bs.length)), .val (.int (0 : Int32))] [(.ref ts), (.int (Int32.ofNat bs.length)), (.ref t), (.int (0 : Int32)), (.ref ts)]) tt_ → Steps p.tables e below s0 tt_ := fun tt_ kk_ => P9 tt_ (st10 _ kk_)
  obtain ⟨cl12, Ar12, -, S12, M12, -, -⟩ := id V_ts
  have P13 : ∀ tt_, GG p e below T10 (mkF m 22 #[.val (.ref xs), .val (.ref t), .val (.int (Int32.ofNat bs.length)), .val (.int (0 : Int32))] [(.int (Int32.ofNat ss.length)), (.int (Int32.ofNat bs.length)), (.ref t), (.int (0 : Int32)), (.ref ts)]) tt_ → Steps p.tables e below s0 tt_ := fun tt_ kk_ => P11 tt_ (by
    refine X10.arraylength hx (by rw [e10]; exact Ar12.1) (State.isArrayOf_alike hZ.alike Ar12.2.1) (g := (mkF m 21 #[.val (.ref xs), .val (.ref t), .val (.int (Int32.ofNat bs.length)), .val (.int (0 : Int32))] [(.ref ts), (.int (Int32.ofNat bs.length)), (.ref t), (.int (0 : Int32)), (.ref ts)])) rfl rfl (hb hby d_getBytes_21) _ ?_
    rw [len_of S12 M12]
    exact kk_)
  replace V_t : Arv Z h0 t kb .byte (16 : Int32) (bs ++ List.replicate ss.length (.int (0 : Int32))) (.int (0 : Int32)) := V_t.pad (pad_rep bs (.int (0 : Int32)) ss.length)
  obtain ⟨T14, h14, L14, X14, e14, N14, Kc14, Va14, st14⟩ := cpA X10 hx hZ hown (ww hw 181 rfl) (ww hw 184 rfl) (ww hw 182 rfl) (ww hw 183 rfl) e10 V_ts V_t (us := ss) (Or.inl ⟨rfl, rfl⟩) (by decide) (own_nn _ (by omega)) (own_nn _ (by omega)) (by rw [own_cl _ (by omega)]; show 0 + _ ≤ _; omega) (by rw [own_cl _ (by omega), own_cl _ (by omega)]; show _ ≤ 16; omega) (by rw [own_cl _ (by omega)]; exact own_us ss _) (by rw [own_cl _ (by omega), own_cl _ (by omega)]; simp) N2 g_t (g := (mkF m 22 #[.val (.ref xs), .val (.ref t), .val (.int (Int32.ofNat bs.length)), .val (.int (0 : Int32))] [(.int (Int32.ofNat ss.length)), (.int (Int32.ofNat bs.length)), (.ref t), (.int (0 : Int32)), (.ref ts)])) rfl (by rw [hml]; rfl) rfl (hb hby d_getBytes_22) (by decide) (W := 0) (by show 2 * 0 + _ ≤ _; exact Nat.le_of_eq rfl) (by decide)
  have P15 : ∀ tt_, GG p e below T14 (mkF m 25 #[.val (.ref xs), .val (.ref t), .val (.int (Int32.ofNat bs.length)), .val (.int (0 : Int32))] []) tt_ → Steps p.tables e below s0 tt_ := fun tt_ kk_ => P13 tt_ (st14 _ kk_)
  replace E_xs : Exa Z h14 xs "java/lang/String" := E_xs.keep Kc14
  replace F_value_xs : Fld Z h14 xs "java/lang/String" "value" "[B" (.ref ts) := F_value_xs.keep Kc14 (ninS ne_xs_t nin0)
  replace F_coder_xs : Fld Z h14 xs "java/lang/String" "coder" "B" (.int (0 : Int32)) := F_coder_xs.keep Kc14 (ninS ne_xs_t nin0)
  replace V_ts : Arv Z h14 ts ks .byte (Int32.ofNat ss.length) ss (.int (0 : Int32)) := V_ts.keep Kc14 (ninS ne_ts_t nin0)
  replace OL : Old Z n0 h14 := OL.keep Kc14 (allS g_t all0)
  have K14 : Keep h0 h14 [t] := (Keep.refl h0 [t]).trans Kc14 (allS (P := fun x => x ∈ [t] ∨ h0.size ≤ x) (Or.inl (List.mem_of_getElem? (i := 0) rfl)) all0)
  have V_t : Arv Z h14 t kb .byte (16 : Int32) (bs ++ ss) (.int (0 : Int32)) := by
    have q := Va14
    rw [own_cl _ (by omega), own_cl _ (by omega), own_cp bs ss _ (by simp)] at q
    exact q
  have P16 : ∀ tt_, GG p e below T14 (mkF m 43 #[.val (.ref xs), .val (.ref t), .val (.int (Int32.ofNat bs.length)), .val (.int (0 : Int32))] []) tt_ → Steps p.tables e below s0 tt_ := fun tt_ kk_ => P15 tt_ (by
    refine XS.goto X14.here hx rfl (pc0 := 25) (pc' := 43) rfl (hb hby d_getBytes_25) (by decide) (by decide) ?_
    exact kk_)
  subst hs0
  obtain ⟨fs, hr, hrun, hended, hW, hsame⟩ := X14.leave (v := none) (fun _ => rfl)
  refine ⟨_, _, P16 _ ?_, hrun, hended, _, _, rfl, ?_, ⟨_, rfl⟩, hW, hsame.mono (by decide) (by decide)⟩
  · show GG p e below T14 (mkF m 43 #[.val (.ref xs), .val (.ref t), .val (.int (Int32.ofNat bs.length)), .val (.int (0 : Int32))] []) _
    exact X14.returnOut hx Bd.returns (hb hby d_getBytes_43) hr
  · show Q_getB Z xs ts ks ss t kb bs G1 h0 n0 _ T14.heap _
    rw [e14]
    exact ⟨rfl, N14, K14, V_t⟩
theorem ef_putStr (m : MethodId) (x0 : Addr) (x1 : Int32) (x2 : Addr) : entryFrame m #[(.ref x0), (.int x1), (.ref x2)] 3 = mkF m 0 #[.val (.ref x0), .val (.int x1), .val (.ref x2)] [] := by first | (simp [entryFrame, mkF, argsToLocals, Value.category]; done) | rfl
theorem d_putStringAt_0 : decode jdk_68_method_73_code 0 = .ok (.aload_n 0, 1) := by decide +kernel
theorem d_putStringAt_1 : decode jdk_68_method_73_code 1 = .ok (.aload_n 2, 1) := by decide +kernel
theorem pd_5 : parseMethodDescriptor "(Ljava/lang/String;)V" = some ⟨[(.object "java/lang/String")], none⟩ := by decide +kernel
theorem d_putStringAt_2 : decode jdk_68_method_73_code 2 = .ok (.invokevirtual 397, 3) := by decide +kernel
abbrev mn_5 : MethodName := ⟨"java/lang/AbstractStringBuilder", "inflateIfNeededFor", "(Ljava/lang/String;)V"⟩
theorem d_putStringAt_5 : decode jdk_68_method_73_code 5 = .ok (.aload_n 2, 1) := by decide +kernel
theorem d_putStringAt_6 : decode jdk_68_method_73_code 6 = .ok (.aload_n 0, 1) := by decide +kernel
theorem d_putStringAt_7 : decode jdk_68_method_73_code 7 = .ok (.getfield 15, 3) := by decide +kernel
theorem d_putStringAt_10 : decode jdk_68_method_73_code 10 = .ok (.iload_n 1, 1) := by decide +kernel
theorem d_putStringAt_11 : decode jdk_68_method_73_code 11 = .ok (.aload_n 0, 1) := by decide +kernel
theorem d_putStringAt_12 : decode jdk_68_method_73_code 12 = .ok (.getfield 22, 3) := by decide +kernel
theorem pd_6 : parseMethodDescriptor "([BIB)V" = some ⟨[(.array .byte), .int, .byte], none⟩ := by decide +kernel
theorem d_putStringAt_15 : decode jdk_68_method_73_code 15 = .ok (.invokevirtual 399, 3) := by decide +kernel
abbrev mn_6 : MethodName := ⟨"java/lang/String", "getBytes", "([BIB)V"⟩
theorem d_putStringAt_18 : decode jdk_68_method_73_code 18 = .ok (.return_, 1) := by decide +kernel
def Q_putStr (Z : State) (sb : Addr) (t : Addr) (kb : ClassId) (bs : List Value) (G1 : Int32) (xs : Addr) (ts : Addr) (ks : ClassId) (ss : List Value) (h0 : Heap) (n0 : Nat) (v : Option Value) (h : Heap) (L : List Loc) : Prop := v = none ∧ Fr n0 L ∧ Keep h0 h [t] ∧ (Arv Z h t kb .byte (16 : Int32) (bs ++ ss) (.int (0 : Int32)))
set_option maxRecDepth 65536 in
set_option maxHeartbeats 40000000 in
theorem rm_putStr (l : Launch) (Z : State) (a0 : Array Value) (hw : ∀ d ∈ tables_1, d.before a0 Z = true) (ws : List Jvm.Cond) (sb : Addr) (t : Addr) (kb : ClassId) (bs : List Value) (G1 : Int32) (xs : Addr) (ts : Addr) (ks : ClassId) (ss : List Value) (h0 : Heap) (n0 : Nat) (Z0 : n0 ≤ h0.size) (E_sb : Exa Z h0 sb "java/lang/StringBuilder") (F_value_sb : Fld Z h0 sb "java/lang/AbstractStringBuilder" "value" "[B" (.ref t)) (F_coder_sb : Fld Z h0 sb "java/lang/AbstractStringBuilder" "coder" "B" (.int (0 : Int32))) (F_count_sb : Fld Z h0 sb "java/lang/AbstractStringBuilder" "count" "I" (.int (Int32.ofNat bs.length))) (V_t : Arv Z h0 t kb .byte (16 : Int32) bs (.int (0 : Int32))) (E_t : Exa Z h0 t "[B") (E_xs : Exa Z h0 xs "java/lang/String") (F_value_xs : Fld Z h0 xs "java/lang/String" "value" "[B" (.ref ts)) (F_coder_xs : Fld Z h0 xs "java/lang/String" "coder" "B" (.int (0 : Int32))) (V_ts : Arv Z h0 ts ks .byte (Int32.ofNat ss.length) ss (.int (0 : Int32))) (g_t : n0 ≤ t) (g_sb : n0 ≤ sb) (ne_xs_t : xs ≠ t) (ne_ts_t : ts ≠ t) (ne_sb_t : sb ≠ t) (ne_xs_sb : xs ≠ sb) (ne_ts_sb : ts ≠ sb) (S_COMPACT_STRINGS : Sta Z Z.heap "java/lang/String" "COMPACT_STRINGS" "Z" (.int G1)) (OL : Old Z n0 h0) (hz : ¬ G1 = 0) (hle : bs.length + ss.length ≤ 16) :
    MetFree l (⟨"java/lang/AbstractStringBuilder", "putStringAt", "(ILjava/lang/String;)V"⟩ : MethodName) (head1 (Jvm.Cond.code (⟨"java/lang/AbstractStringBuilder", "putStringAt", "(ILjava/lang/String;)V"⟩ : MethodName) jdk_68_method_73_code 3 none :: ws) ({ frames := 2, cells := 0, slots := 0, locals := 33 } : Room)) (fun a U => a = #[(.ref sb), (.int (Int32.ofNat bs.length)), (.ref xs)] ∧ Z.Warmed39 U.vm ∧ U.heap = h0) (fun _ _ _ _ _ => True) (fun _ U o U' => ∃ v L, o = .returned v ∧ Q_putStr Z sb t kb bs G1 xs ts ks ss h0 n0 v U'.heap L ∧ FrameEnd U o U' L ({ frames := 2, cells := 0, slots := 0, locals := 33 } : Room).cells ({ frames := 2, cells := 0, slots := 0, locals := 33 } : Room).slots) := by
  refine MetFree.of_bodySF (plainFor_of_name pn_2) hisR ?_
  intro p e s m args below meth c s₁ Bd hml0 hP hK
  obtain ⟨rfl, hZ, hh⟩ := hP
  have hx := Bd.exec
  have hby := Bd.bytes
  have hml : c.maxLocals = 3 := hml0
  have hown : s.vm.findClass "java/lang/AbstractStringBuilder" = some m.cls := findClass_of_methodNamed Bd.named
  have hnm := (name_of_methodNamed Bd.named Bd.method).1
  have X0 : Stand p l e ({ frames := 2, cells := 0, slots := 0, locals := 33 } : Room) s m #[(.ref sb), (.int (Int32.ofNat bs.length)), (.ref xs)] below meth c s₁ [] 0 0 := Stand.of_body Bd
  have e0 : s₁.heap = h0 := by rw [← hh, Bd.state]; rfl
  have N0 := Fr.nil n0
  obtain ⟨s0, hs0⟩ : ∃ z, z = (s₁.setTop (entryFrame m #[(.ref sb), (.int (Int32.ofNat bs.length)), (.ref xs)] 3)) := ⟨_, rfl⟩
  have P0 : ∀ tt_, GG p e below s₁ (mkF m 0 #[.val (.ref sb), .val (.int (Int32.ofNat bs.length)), .val (.ref xs)] []) tt_ → Steps p.tables e below s0 tt_ := fun tt_ kk_ => by rw [hs0]; exact castTop (ef_putStr m sb (Int32.ofNat bs.length) xs) kk_
  have P1 : ∀ tt_, GG p e below s₁ (mkF m 2 #[.val (.ref sb), .val (.int (Int32.ofNat bs.length)), .val (.ref xs)] [(.ref xs), (.ref sb)]) tt_ → Steps p.tables e below s0 tt_ := fun tt_ kk_ => P0 tt_ (by
    refine XS.aloadN X0.here hx rfl (hb hby d_putStringAt_0) rfl rfl ?_
    refine XS.aloadN X0.here hx rfl (hb hby d_putStringAt_1) rfl rfl ?_
    exact kk_)
  obtain ⟨cq2, kq2, q2a, q2b, q2c⟩ := isOf hZ e0 E_sb
  obtain ⟨_, _, ⟨T2, L2, k2, n2⟩, -, X2, ⟨Lc2, hQ2, l2, y2, z2⟩, st2⟩ := X0.virtualBack hx (y := mn_5) (z := mn_5) hown (mw hZ hw 170 rfl) (mvT hZ (own_decl (y := mn_5) (ww hw 171 rfl) (ww hw 174 rfl))) (notFace_of_selects (args := #[]) (mw hZ hw 173 rfl)) (mw hZ hw 173 rfl) (mw hZ hw 171 rfl) (by decide) (backOf (W := 0) (rm_infl l Z a0 hw [] sb xs G1 h0 n0 (Nat.le_trans Z0 (Nat.le_refl h0.size)) F_coder_sb E_xs F_coder_xs S_COMPACT_STRINGS OL hz) hZ (ww hw 174 rfl) (ww hw 130 rfl) (by decide) (by decide)) q2a q2c (g := (mkF m 2 #[.val (.ref sb), .val (.int (Int32.ofNat bs.length)), .val (.ref xs)] [(.ref xs), (.ref sb)])) rfl (by rw [hml]; rfl) (Steps.refl _) (argsL := [(.ref xs)]) (rest := []) (lenOf pd_5 rfl) rfl (by show 2 * 0 + _ ≤ _; exact Nat.le_of_eq rfl) (hb hby d_putStringAt_2) (fun _ _ => ⟨rfl, e0, (by decide : 0 + 0 ≤ _), (by decide : 0 + 0 ≤ _)⟩)
  dsimp only [Pt.U, Pt.locs, Pt.cells, Pt.slots] at X2 l2 y2 z2 st2 hQ2
  subst l2 y2 z2
  obtain ⟨rfl, N2q, e2⟩ := hQ2
  have N2 := Fr.app N0 N2q
  have P3 : ∀ tt_, GG p e below T2 (mkF m 5 #[.val (.ref sb), .val (.int (Int32.ofNat bs.length)), .val (.ref xs)] []) tt_ → Steps p.tables e below s0 tt_ := fun tt_ kk_ => P1 tt_ (st2.trans kk_)
  have P4 : ∀ tt_, GG p e below T2 (mkF m 7 #[.val (.ref sb), .val (.int (Int32.ofNat bs.length)), .val (.ref xs)] [(.ref sb), (.ref xs)]) tt_ → Steps p.tables e below s0 tt_ := fun tt_ kk_ => P3 tt_ (by
    refine XS.aloadN X2.here hx rfl (hb hby d_putStringAt_5) rfl rfl ?_
    refine XS.aloadN X2.here hx rfl (hb hby d_putStringAt_6) rfl rfl ?_
    exact kk_)
  obtain ⟨T5, X5, e5, st5⟩ := getF X2 hx hZ hown (host := "") (Or.inl (ww hw 134 rfl)) Via.refl e2 F_value_sb (g := (mkF m 7 #[.val (.ref sb), .val (.int (Int32.ofNat bs.length)), .val (.ref xs)] [(.ref sb), (.ref xs)])) rfl rfl (hb hby d_putStringAt_7)
  have P6 : ∀ tt_, GG p e below T5 (mkF m 10 #[.val (.ref sb), .val (.int (Int32.ofNat bs.length)), .val (.ref xs)] [(.ref t), (.ref xs)]) tt_ → Steps p.tables e below s0 tt_ := fun tt_ kk_ => P4 tt_ (st5 _ kk_)
  have P7 : ∀ tt_, GG p e below T5 (mkF m 12 #[.val (.ref sb), .val (.int (Int32.ofNat bs.length)), .val (.ref xs)] [(.ref sb), (.int (Int32.ofNat bs.length)), (.ref t), (.ref xs)]) tt_ → Steps p.tables e below s0 tt_ := fun tt_ kk_ => P6 tt_ (by
    refine XS.iloadN X5.here hx rfl (hb hby d_putStringAt_10) rfl ?_
    refine XS.aloadN X5.here hx rfl (hb hby d_putStringAt_11) rfl rfl ?_
    exact kk_)
  obtain ⟨T8, X8, e8, st8⟩ := getF X5 hx hZ hown (host := "") (Or.inl (ww hw 136 rfl)) Via.refl e5 F_coder_sb (g := (mkF m 12 #[.val (.ref sb), .val (.int (Int32.ofNat bs.length)), .val (.ref xs)] [(.ref sb), (.int (Int32.ofNat bs.length)), (.ref t), (.ref xs)])) rfl rfl (hb hby d_putStringAt_12)
  have P9 : ∀ tt_, GG p e below T8 (mkF m 15 #[.val (.ref sb), .val (.int (Int32.ofNat bs.length)), .val (.ref xs)] [(.int (0 : Int32)), (.int (Int32.ofNat bs.length)), (.ref t), (.ref xs)]) tt_ → Steps p.tables e below s0 tt_ := fun tt_ kk_ => P7 tt_ (st8 _ kk_)
  obtain ⟨cq10, kq10, q10a, q10b, q10c⟩ := isOf hZ e8 E_xs
  obtain ⟨_, _, ⟨T10, L10, k10, n10⟩, -, X10, ⟨Lc10, hQ10, l10, y10, z10⟩, st10⟩ := X8.virtualBack hx (y := mn_6) (z := mn_6) hown (mw hZ hw 176 rfl) (mw hZ hw 177 rfl) (notFace_of_selects (args := #[]) (mw hZ hw 179 rfl)) (mw hZ hw 179 rfl) (mw hZ hw 178 rfl) (by decide) (backOf (W := 0) (rm_getB l Z a0 hw [] xs ts ks ss t kb bs G1 h0 n0 (Nat.le_trans Z0 (Nat.le_refl h0.size)) E_xs F_value_xs F_coder_xs V_ts V_t g_t ne_xs_t ne_ts_t S_COMPACT_STRINGS OL hz hle) hZ (ww hw 180 rfl) (ww hw 2 rfl) (by decide) (by decide)) q10a q10c (g := (mkF m 15 #[.val (.ref sb), .val (.int (Int32.ofNat bs.length)), .val (.ref xs)] [(.int (0 : Int32)), (.int (Int32.ofNat bs.length)), (.ref t), (.ref xs)])) rfl (by rw [hml]; rfl) (Steps.refl _) (argsL := [(.ref t), (.int (Int32.ofNat bs.length)), (.int (0 : Int32))]) (rest := []) (lenOf pd_6 rfl) rfl (by show 2 * 0 + _ ≤ _; exact Nat.le_of_eq rfl) (hb hby d_putStringAt_15) (fun _ _ => ⟨rfl, e8, (by decide : 0 + 0 ≤ _), (by decide : 0 + 0 ≤ _)⟩)
  dsimp only [Pt.U, Pt.locs, Pt.cells, Pt.slots] at X10 l10 y10 z10 st10 hQ10
  subst l10 y10 z10
  obtain ⟨rfl, N10q, Kc10, po10_0⟩ := hQ10
  have N10 := Fr.app N2 N10q
  obtain ⟨Lf11, X10, N11⟩ : ∃ Lf, Stand p l e ({ frames := 2, cells := 0, slots := 0, locals := 33 } : Room) s m #[(.ref sb), (.int (Int32.ofNat bs.length)), (.ref xs)] below meth c T10 Lf 0 0 ∧ Fr n0 Lf := ⟨_, X10, N10⟩
  have P12 : ∀ tt_, GG p e below T10 (mkF m 18 #[.val (.ref sb), .val (.int (Int32.ofNat bs.length)), .val (.ref xs)] []) tt_ → Steps p.tables e below s0 tt_ := fun tt_ kk_ => P9 tt_ (st10.trans kk_)
  replace E_sb : Exa Z T10.heap sb "java/lang/StringBuilder" := E_sb.keep Kc10
  replace F_value_sb : Fld Z T10.heap sb "java/lang/AbstractStringBuilder" "value" "[B" (.ref t) := F_value_sb.keep Kc10 (ninS ne_sb_t nin0)
  replace F_coder_sb : Fld Z T10.heap sb "java/lang/AbstractStringBuilder" "coder" "B" (.int (0 : Int32)) := F_coder_sb.keep Kc10 (ninS ne_sb_t nin0)
  replace F_count_sb : Fld Z T10.heap sb "java/lang/AbstractStringBuilder" "count" "I" (.int (Int32.ofNat bs.length)) := F_count_sb.keep Kc10 (ninS ne_sb_t nin0)
  replace E_t : Exa Z T10.heap t "[B" := E_t.keep Kc10
  replace E_xs : Exa Z T10.heap xs "java/lang/String" := E_xs.keep Kc10
  replace F_value_xs : Fld Z T10.heap xs "java/lang/String" "value" "[B" (.ref ts) := F_value_xs.keep Kc10 (ninS ne_xs_t nin0)
  replace F_coder_xs : Fld Z T10.heap xs "java/lang/String" "coder" "B" (.int (0 : Int32)) := F_coder_xs.keep Kc10 (ninS ne_xs_t nin0)
  replace V_ts : Arv Z T10.heap ts ks .byte (Int32.ofNat ss.length) ss (.int (0 : Int32)) := V_ts.keep Kc10 (ninS ne_ts_t nin0)
  replace OL : Old Z n0 T10.heap := OL.keep Kc10 (allS g_t all0)
  have K10 : Keep h0 T10.heap [t] := (Keep.refl h0 [t]).trans Kc10 (allS (P := fun x => x ∈ [t] ∨ h0.size ≤ x) (Or.inl (List.mem_of_getElem? (i := 0) rfl)) all0)
  have V_t : Arv Z T10.heap t kb .byte (16 : Int32) (bs ++ ss) (.int (0 : Int32)) := po10_0
  subst hs0
  obtain ⟨fs, hr, hrun, hended, hW, hsame⟩ := X10.leave (v := none) (fun _ => rfl)
  refine ⟨_, _, P12 _ ?_, hrun, hended, _, _, rfl, ?_, ⟨_, rfl⟩, hW, hsame.mono (by decide) (by decide)⟩
  · show GG p e below T10 (mkF m 18 #[.val (.ref sb), .val (.int (Int32.ofNat bs.length)), .val (.ref xs)] []) _
    exact X10.returnOut hx Bd.returns (hb hby d_putStringAt_18) hr
  · show Q_putStr Z sb t kb bs G1 xs ts ks ss h0 n0 _ T10.heap _
    exact ⟨rfl, N11, K10, V_t⟩
theorem ef_asbApp (m : MethodId) (x0 : Addr) (x1 : Addr) : entryFrame m #[(.ref x0), (.ref x1)] 3 = mkF m 0 #[.val (.ref x0), .val (.ref x1), .unset] [] := by first | (simp [entryFrame, mkF, argsToLocals, Value.category]; done) | rfl
theorem d_append_0 : decode jdk_68_method_22_code 0 = .ok (.aload_n 1, 1) := by decide +kernel
theorem d_append_1 : decode jdk_68_method_22_code 1 = .ok (.ifnonnull 8, 3) := by decide +kernel
theorem d_append_9 : decode jdk_68_method_22_code 9 = .ok (.aload_n 1, 1) := by decide +kernel
theorem pd_7 : parseMethodDescriptor "()I" = some ⟨[], some .int⟩ := by decide +kernel
theorem d_append_10 : decode jdk_68_method_22_code 10 = .ok (.invokevirtual 32, 3) := by decide +kernel
abbrev mn_7 : MethodName := ⟨"java/lang/String", "length", "()I"⟩
theorem d_append_13 : decode jdk_68_method_22_code 13 = .ok (.istore_n 2, 1) := by decide +kernel
theorem d_append_14 : decode jdk_68_method_22_code 14 = .ok (.aload_n 0, 1) := by decide +kernel
theorem d_append_15 : decode jdk_68_method_22_code 15 = .ok (.aload_n 0, 1) := by decide +kernel
theorem d_append_16 : decode jdk_68_method_22_code 16 = .ok (.getfield 79, 3) := by decide +kernel
theorem d_append_19 : decode jdk_68_method_22_code 19 = .ok (.iload_n 2, 1) := by decide +kernel
theorem d_append_20 : decode jdk_68_method_22_code 20 = .ok (.iadd, 1) := by decide +kernel
theorem d_append_21 : decode jdk_68_method_22_code 21 = .ok (.invokevirtual 100, 3) := by decide +kernel
abbrev mn_8 : MethodName := ⟨"java/lang/AbstractStringBuilder", "ensureCapacityInternal", "(I)V"⟩
theorem d_append_24 : decode jdk_68_method_22_code 24 = .ok (.aload_n 0, 1) := by decide +kernel
theorem d_append_25 : decode jdk_68_method_22_code 25 = .ok (.aload_n 0, 1) := by decide +kernel
theorem d_append_26 : decode jdk_68_method_22_code 26 = .ok (.getfield 79, 3) := by decide +kernel
theorem d_append_29 : decode jdk_68_method_22_code 29 = .ok (.aload_n 1, 1) := by decide +kernel
theorem pd_8 : parseMethodDescriptor "(ILjava/lang/String;)V" = some ⟨[.int, (.object "java/lang/String")], none⟩ := by decide +kernel
theorem d_append_30 : decode jdk_68_method_22_code 30 = .ok (.invokevirtual 208, 3) := by decide +kernel
abbrev mn_9 : MethodName := ⟨"java/lang/AbstractStringBuilder", "putStringAt", "(ILjava/lang/String;)V"⟩
theorem d_append_33 : decode jdk_68_method_22_code 33 = .ok (.aload_n 0, 1) := by decide +kernel
theorem d_append_34 : decode jdk_68_method_22_code 34 = .ok (.dup, 1) := by decide +kernel
theorem d_append_35 : decode jdk_68_method_22_code 35 = .ok (.getfield 79, 3) := by decide +kernel
theorem d_append_38 : decode jdk_68_method_22_code 38 = .ok (.iload_n 2, 1) := by decide +kernel
theorem d_append_39 : decode jdk_68_method_22_code 39 = .ok (.iadd, 1) := by decide +kernel
theorem d_append_40 : decode jdk_68_method_22_code 40 = .ok (.putfield 79, 3) := by decide +kernel
theorem d_append_43 : decode jdk_68_method_22_code 43 = .ok (.aload_n 0, 1) := by decide +kernel
theorem d_append_44 : decode jdk_68_method_22_code 44 = .ok (.areturn, 1) := by decide +kernel
def Q_asbApp (Z : State) (sb : Addr) (t : Addr) (kb : ClassId) (bs : List Value) (G1 : Int32) (xs : Addr) (ts : Addr) (ks : ClassId) (ss : List Value) (h0 : Heap) (n0 : Nat) (v : Option Value) (h : Heap) (L : List Loc) : Prop := v = some (.ref sb) ∧ Fr n0 L ∧ Keep h0 h [sb, t] ∧ (Exa Z h sb "java/lang/StringBuilder") ∧ (Fld Z h sb "java/lang/AbstractStringBuilder" "value" "[B" (.ref t)) ∧ (Fld Z h sb "java/lang/AbstractStringBuilder" "coder" "B" (.int (0 : Int32))) ∧ (Fld Z h sb "java/lang/AbstractStringBuilder" "count" "I" (.int (Int32.ofNat (bs ++ ss).length))) ∧ (Arv Z h t kb .byte (16 : Int32) (bs ++ ss) (.int (0 : Int32))) ∧ (Exa Z h t "[B")
set_option maxRecDepth 65536 in
set_option maxHeartbeats 40000000 in
theorem rm_asbApp (l : Launch) (Z : State) (a0 : Array Value) (hw : ∀ d ∈ tables_1, d.before a0 Z = true) (ws : List Jvm.Cond) (sb : Addr) (t : Addr) (kb : ClassId) (bs : List Value) (G1 : Int32) (xs : Addr) (ts : Addr) (ks : ClassId) (ss : List Value) (h0 : Heap) (n0 : Nat) (Z0 : n0 ≤ h0.size) (E_sb : Exa Z h0 sb "java/lang/StringBuilder") (F_value_sb : Fld Z h0 sb "java/lang/AbstractStringBuilder" "value" "[B" (.ref t)) (F_coder_sb : Fld Z h0 sb "java/lang/AbstractStringBuilder" "coder" "B" (.int (0 : Int32))) (F_count_sb : Fld Z h0 sb "java/lang/AbstractStringBuilder" "count" "I" (.int (Int32.ofNat bs.length))) (V_t : Arv Z h0 t kb .byte (16 : Int32) bs (.int (0 : Int32))) (E_t : Exa Z h0 t "[B") (E_xs : Exa Z h0 xs "java/lang/String") (F_value_xs : Fld Z h0 xs "java/lang/String" "value" "[B" (.ref ts)) (F_coder_xs : Fld Z h0 xs "java/lang/String" "coder" "B" (.int (0 : Int32))) (V_ts : Arv Z h0 ts ks .byte (Int32.ofNat ss.length) ss (.int (0 : Int32))) (g_t : n0 ≤ t) (g_sb : n0 ≤ sb) (ne_xs_t : xs ≠ t) (ne_ts_t : ts ≠ t) (ne_sb_t : sb ≠ t) (ne_xs_sb : xs ≠ sb) (ne_ts_sb : ts ≠ sb) (S_COMPACT_STRINGS : Sta Z Z.heap "java/lang/String" "COMPACT_STRINGS" "Z" (.int G1)) (OL : Old Z n0 h0) (hz : ¬ G1 = 0) (hle : bs.length + ss.length ≤ 16) :
    MetFree l (⟨"java/lang/AbstractStringBuilder", "append", "(Ljava/lang/String;)Ljava/lang/AbstractStringBuilder;"⟩ : MethodName) (head1 (Jvm.Cond.code (⟨"java/lang/AbstractStringBuilder", "append", "(Ljava/lang/String;)Ljava/lang/AbstractStringBuilder;"⟩ : MethodName) jdk_68_method_22_code 3 (some (.object "java/lang/AbstractStringBuilder")) :: ws) ({ frames := 3, cells := 0, slots := 0, locals := 47 } : Room)) (fun a U => a = #[(.ref sb), (.ref xs)] ∧ Z.Warmed39 U.vm ∧ U.heap = h0) (fun _ _ _ _ _ => True) (fun _ U o U' => ∃ v L, o = .returned v ∧ Q_asbApp Z sb t kb bs G1 xs ts ks ss h0 n0 v U'.heap L ∧ FrameEnd U o U' L ({ frames := 3, cells := 0, slots := 0, locals := 47 } : Room).cells ({ frames := 3, cells := 0, slots := 0, locals := 47 } : Room).slots) := by
  refine MetFree.of_bodySF (plainFor_of_name pn_2) hisR ?_
  intro p e s m args below meth c s₁ Bd hml0 hP hK
  obtain ⟨rfl, hZ, hh⟩ := hP
  have hx := Bd.exec
  have hby := Bd.bytes
  have hml : c.maxLocals = 3 := hml0
  have hown : s.vm.findClass "java/lang/AbstractStringBuilder" = some m.cls := findClass_of_methodNamed Bd.named
  have hnm := (name_of_methodNamed Bd.named Bd.method).1
  have X0 : Stand p l e ({ frames := 3, cells := 0, slots := 0, locals := 47 } : Room) s m #[(.ref sb), (.ref xs)] below meth c s₁ [] 0 0 := Stand.of_body Bd
  have e0 : s₁.heap = h0 := by rw [← hh, Bd.state]; rfl
  have N0 := Fr.nil n0
  obtain ⟨s0, hs0⟩ : ∃ z, z = (s₁.setTop (entryFrame m #[(.ref sb), (.ref xs)] 3)) := ⟨_, rfl⟩
  have P0 : ∀ tt_, GG p e below s₁ (mkF m 0 #[.val (.ref sb), .val (.ref xs), .unset] []) tt_ → Steps p.tables e below s0 tt_ := fun tt_ kk_ => by rw [hs0]; exact castTop (ef_asbApp m sb xs) kk_
  have P1 : ∀ tt_, GG p e below s₁ (mkF m 10 #[.val (.ref sb), .val (.ref xs), .unset] [(.ref xs)]) tt_ → Steps p.tables e below s0 tt_ := fun tt_ kk_ => P0 tt_ (by
    refine XS.aloadN X0.here hx rfl (hb hby d_append_0) rfl rfl ?_
    refine XS.ifnonnullYes X0.here hx rfl (pc0 := 1) (pc' := 9) rfl (hb hby d_append_1) rfl (by decide) (by decide) ?_
    refine XS.aloadN X0.here hx rfl (hb hby d_append_9) rfl rfl ?_
    exact kk_)
  obtain ⟨cq2, kq2, q2a, q2b, q2c⟩ := isOf hZ e0 E_xs
  obtain ⟨_, _, ⟨T2, L2, k2, n2⟩, -, X2, ⟨Lc2, hQ2, l2, y2, z2⟩, st2⟩ := X0.virtualBack hx (y := mn_7) (z := mn_7) hown (mw hZ hw 148 rfl) (mw hZ hw 149 rfl) (notFace_of_selects (args := #[]) (mw hZ hw 151 rfl)) (mw hZ hw 151 rfl) (mw hZ hw 150 rfl) (by decide) (backOf (W := 0) (rm_sLen l Z a0 hw [] xs ts ks ss G1 h0 n0 (Nat.le_trans Z0 (Nat.le_refl h0.size)) E_xs F_value_xs F_coder_xs V_ts S_COMPACT_STRINGS OL hz) hZ (ww hw 152 rfl) (ww hw 2 rfl) (by decide) (by decide)) q2a q2c (g := (mkF m 10 #[.val (.ref sb), .val (.ref xs), .unset] [(.ref xs)])) rfl (by rw [hml]; rfl) (Steps.refl _) (argsL := []) (rest := []) (lenOf pd_7 rfl) rfl (by show 2 * 0 + _ ≤ _; exact Nat.le_of_eq rfl) (hb hby d_append_10) (fun _ _ => ⟨rfl, e0, (by decide : 0 + 0 ≤ _), (by decide : 0 + 0 ≤ _)⟩)
  dsimp only [Pt.U, Pt.locs, Pt.cells, Pt.slots] at X2 l2 y2 z2 st2 hQ2
  subst l2 y2 z2
  obtain ⟨rfl, N2q, e2⟩ := hQ2
  have N2 := Fr.app N0 N2q
  have P3 : ∀ tt_, GG p e below T2 (mkF m 13 #[.val (.ref sb), .val (.ref xs), .unset] [(.int (Int32.ofNat ss.length))]) tt_ → Steps p.tables e below s0 tt_ := fun tt_ kk_ => P1 tt_ (st2.trans kk_)
  have P4 : ∀ tt_, GG p e below T2 (mkF m 16 #[.val (.ref sb), .val (.ref xs), .val (.int (Int32.ofNat ss.length))] [(.ref sb), (.ref sb)]) tt_ → Steps p.tables e below s0 tt_ := fun tt_ kk_ => P3 tt_ (by
    refine XS.istoreN X2.here hx rfl (hb hby d_append_13) rfl (l' := #[.val (.ref sb), .val (.ref xs), .val (.int (Int32.ofNat ss.length))]) rfl ?_
    refine XS.aloadN X2.here hx rfl (hb hby d_append_14) rfl rfl ?_
    refine XS.aloadN X2.here hx rfl (hb hby d_append_15) rfl rfl ?_
    exact kk_)
  obtain ⟨T5, X5, e5, st5⟩ := getF X2 hx hZ hown (host := "") (Or.inl (ww hw 158 rfl)) Via.refl e2 F_count_sb (g := (mkF m 16 #[.val (.ref sb), .val (.ref xs), .val (.int (Int32.ofNat ss.length))] [(.ref sb), (.ref sb)])) rfl rfl (hb hby d_append_16)
  have P6 : ∀ tt_, GG p e below T5 (mkF m 19 #[.val (.ref sb), .val (.ref xs), .val (.int (Int32.ofNat ss.length))] [(.int (Int32.ofNat bs.length)), (.ref sb)]) tt_ → Steps p.tables e below s0 tt_ := fun tt_ kk_ => P4 tt_ (st5 _ kk_)
  have P7 : ∀ tt_, GG p e below T5 (mkF m 21 #[.val (.ref sb), .val (.ref xs), .val (.int (Int32.ofNat ss.length))] [(.int ((Int32.ofNat bs.length) + (Int32.ofNat ss.length))), (.ref sb)]) tt_ → Steps p.tables e below s0 tt_ := fun tt_ kk_ => P6 tt_ (by
    refine XS.iloadN X5.here hx rfl (hb hby d_append_19) rfl ?_
    refine XS.iadd X5.here hx rfl (hb hby d_append_20) rfl ?_
    exact kk_)
  have P8 : ∀ tt_, GG p e below T5 (mkF m 21 #[.val (.ref sb), .val (.ref xs), .val (.int (Int32.ofNat ss.length))] [(.int (Int32.ofNat (bs.length + ss.length))), (.ref sb)]) tt_ → Steps p.tables e below s0 tt_ := fun tt_ kk_ => P7 tt_ (by rw [own_add]; exact kk_)
  obtain ⟨cq9, kq9, q9a, q9b, q9c⟩ := isOf hZ e5 E_sb
  obtain ⟨_, _, ⟨T9, L9, k9, n9⟩, -, X9, ⟨Lc9, hQ9, l9, y9, z9⟩, st9⟩ := X5.virtualBack hx (y := mn_8) (z := mn_8) hown (mw hZ hw 160 rfl) (mvT hZ (own_decl (y := mn_8) (ww hw 161 rfl) (ww hw 164 rfl))) (notFace_of_selects (args := #[]) (mw hZ hw 163 rfl)) (mw hZ hw 163 rfl) (mw hZ hw 161 rfl) (by decide) (backOf (W := 0) (rm_ensCap l Z a0 hw [] sb t kb bs (bs.length + ss.length) h0 n0 (Nat.le_trans Z0 (Nat.le_refl h0.size)) E_sb F_value_sb F_coder_sb F_count_sb V_t E_t hle) hZ (ww hw 164 rfl) (ww hw 130 rfl) (by decide) (by decide)) q9a q9c (g := (mkF m 21 #[.val (.ref sb), .val (.ref xs), .val (.int (Int32.ofNat ss.length))] [(.int (Int32.ofNat (bs.length + ss.length))), (.ref sb)])) rfl (by rw [hml]; rfl) (Steps.refl _) (argsL := [(.int (Int32.ofNat (bs.length + ss.length)))]) (rest := []) (lenOf pd_3 rfl) rfl (by show 2 * 0 + _ ≤ _; exact Nat.le_of_eq rfl) (hb hby d_append_21) (fun _ _ => ⟨rfl, e5, (by decide : 0 + 0 ≤ _), (by decide : 0 + 0 ≤ _)⟩)
  dsimp only [Pt.U, Pt.locs, Pt.cells, Pt.slots] at X9 l9 y9 z9 st9 hQ9
  subst l9 y9 z9
  obtain ⟨rfl, N9q, e9⟩ := hQ9
  have N9 := Fr.app N2 N9q
  have P10 : ∀ tt_, GG p e below T9 (mkF m 24 #[.val (.ref sb), .val (.ref xs), .val (.int (Int32.ofNat ss.length))] []) tt_ → Steps p.tables e below s0 tt_ := fun tt_ kk_ => P8 tt_ (st9.trans kk_)
  have P11 : ∀ tt_, GG p e below T9 (mkF m 26 #[.val (.ref sb), .val (.ref xs), .val (.int (Int32.ofNat ss.length))] [(.ref sb), (.ref sb)]) tt_ → Steps p.tables e below s0 tt_ := fun tt_ kk_ => P10 tt_ (by
    refine XS.aloadN X9.here hx rfl (hb hby d_append_24) rfl rfl ?_
    refine XS.aloadN X9.here hx rfl (hb hby d_append_25) rfl rfl ?_
    exact kk_)
  obtain ⟨T12, X12, e12, st12⟩ := getF X9 hx hZ hown (host := "") (Or.inl (ww hw 158 rfl)) Via.refl e9 F_count_sb (g := (mkF m 26 #[.val (.ref sb), .val (.ref xs), .val (.int (Int32.ofNat ss.length))] [(.ref sb), (.ref sb)])) rfl rfl (hb hby d_append_26)
  have P13 : ∀ tt_, GG p e below T12 (mkF m 29 #[.val (.ref sb), .val (.ref xs), .val (.int (Int32.ofNat ss.length))] [(.int (Int32.ofNat bs.length)), (.ref sb)]) tt_ → Steps p.tables e below s0 tt_ := fun tt_ kk_ => P11 tt_ (st12 _ kk_)
  have P14 : ∀ tt_, GG p e below T12 (mkF m 30 #[.val (.ref sb), .val (.ref xs), .val (.int (Int32.ofNat ss.length))] [(.ref xs), (.int (Int32.ofNat bs.length)), (.ref sb)]) tt_ → Steps p.tables e below s0 tt_ := fun tt_ kk_ => P13 tt_ (by
    refine XS.aloadN X12.here hx rfl (hb hby d_append_29) rfl rfl ?_
    exact kk_)
  obtain ⟨cq15, kq15, q15a, q15b, q15c⟩ := isOf hZ e12 E_sb
  obtain ⟨_, _, ⟨T15, L15, k15, n15⟩, -, X15, ⟨Lc15, hQ15, l15, y15, z15⟩, st15⟩ := X12.virtualBack hx (y := mn_9) (z := mn_9) hown (mw hZ hw 165 rfl) (mvT hZ (own_decl (y := mn_9) (ww hw 166 rfl) (ww hw 169 rfl))) (notFace_of_selects (args := #[]) (mw hZ hw 168 rfl)) (mw hZ hw 168 rfl) (mw hZ hw 166 rfl) (by decide) (backOf (W := 0) (rm_putStr l Z a0 hw [] sb t kb bs G1 xs ts ks ss h0 n0 (Nat.le_trans Z0 (Nat.le_refl h0.size)) E_sb F_value_sb F_coder_sb F_count_sb V_t E_t E_xs F_value_xs F_coder_xs V_ts g_t g_sb ne_xs_t ne_ts_t ne_sb_t ne_xs_sb ne_ts_sb S_COMPACT_STRINGS OL hz hle) hZ (ww hw 169 rfl) (ww hw 130 rfl) (by decide) (by decide)) q15a q15c (g := (mkF m 30 #[.val (.ref sb), .val (.ref xs), .val (.int (Int32.ofNat ss.length))] [(.ref xs), (.int (Int32.ofNat bs.length)), (.ref sb)])) rfl (by rw [hml]; rfl) (Steps.refl _) (argsL := [(.int (Int32.ofNat bs.length)), (.ref xs)]) (rest := []) (lenOf pd_8 rfl) rfl (by show 2 * 0 + _ ≤ _; exact Nat.le_of_eq rfl) (hb hby d_append_30) (fun _ _ => ⟨rfl, e12, (by decide : 0 + 0 ≤ _), (by decide : 0 + 0 ≤ _)⟩)
  dsimp only [Pt.U, Pt.locs, Pt.cells, Pt.slots] at X15 l15 y15 z15 st15 hQ15
  subst l15 y15 z15
  obtain ⟨rfl, N15q, Kc15, po15_0⟩ := hQ15
  have N15 := Fr.app N9 N15q
  obtain ⟨Lf16, X15, N16⟩ : ∃ Lf, Stand p l e ({ frames := 3, cells := 0, slots := 0, locals := 47 } : Room) s m #[(.ref sb), (.ref xs)] below meth c T15 Lf 0 0 ∧ Fr n0 Lf := ⟨_, X15, N15⟩
  have P17 : ∀ tt_, GG p e below T15 (mkF m 33 #[.val (.ref sb), .val (.ref xs), .val (.int (Int32.ofNat ss.length))] []) tt_ → Steps p.tables e below s0 tt_ := fun tt_ kk_ => P14 tt_ (st15.trans kk_)
  replace E_sb : Exa Z T15.heap sb "java/lang/StringBuilder" := E_sb.keep Kc15
  replace F_value_sb : Fld Z T15.heap sb "java/lang/AbstractStringBuilder" "value" "[B" (.ref t) := F_value_sb.keep Kc15 (ninS ne_sb_t nin0)
  replace F_coder_sb : Fld Z T15.heap sb "java/lang/AbstractStringBuilder" "coder" "B" (.int (0 : Int32)) := F_coder_sb.keep Kc15 (ninS ne_sb_t nin0)
  replace F_count_sb : Fld Z T15.heap sb "java/lang/AbstractStringBuilder" "count" "I" (.int (Int32.ofNat bs.length)) := F_count_sb.keep Kc15 (ninS ne_sb_t nin0)
  replace E_t : Exa Z T15.heap t "[B" := E_t.keep Kc15
  replace E_xs : Exa Z T15.heap xs "java/lang/String" := E_xs.keep Kc15
  replace F_value_xs : Fld Z T15.heap xs "java/lang/String" "value" "[B" (.ref ts) := F_value_xs.keep Kc15 (ninS ne_xs_t nin0)
  replace F_coder_xs : Fld Z T15.heap xs "java/lang/String" "coder" "B" (.int (0 : Int32)) := F_coder_xs.keep Kc15 (ninS ne_xs_t nin0)
  replace V_ts : Arv Z T15.heap ts ks .byte (Int32.ofNat ss.length) ss (.int (0 : Int32)) := V_ts.keep Kc15 (ninS ne_ts_t nin0)
  replace OL : Old Z n0 T15.heap := OL.keep Kc15 (allS g_t all0)
  have K15 : Keep h0 T15.heap [sb, t] := (Keep.refl h0 [sb, t]).trans Kc15 (allS (P := fun x => x ∈ [sb, t] ∨ h0.size ≤ x) (Or.inl (List.mem_of_getElem? (i := 1) rfl)) all0)
  have V_t : Arv Z T15.heap t kb .byte (16 : Int32) (bs ++ ss) (.int (0 : Int32)) := po15_0
  have P18 : ∀ tt_, GG p e below T15 (mkF m 35 #[.val (.ref sb), .val (.ref xs), .val (.int (Int32.ofNat ss.length))] [(.ref sb), (.ref sb)]) tt_ → Steps p.tables e below s0 tt_ := fun tt_ kk_ => P17 tt_ (by
    refine XS.aloadN X15.here hx rfl (hb hby d_append_33) rfl rfl ?_
    refine XS.dup X15.here hx rfl (hb hby d_append_34) rfl rfl ?_
    exact kk_)
  obtain ⟨T19, X19, e19, st19⟩ := getF X15 hx hZ hown (host := "") (Or.inl (ww hw 158 rfl)) Via.refl rfl F_count_sb (g := (mkF m 35 #[.val (.ref sb), .val (.ref xs), .val (.int (Int32.ofNat ss.length))] [(.ref sb), (.ref sb)])) rfl rfl (hb hby d_append_35)
  have P20 : ∀ tt_, GG p e below T19 (mkF m 38 #[.val (.ref sb), .val (.ref xs), .val (.int (Int32.ofNat ss.length))] [(.int (Int32.ofNat bs.length)), (.ref sb)]) tt_ → Steps p.tables e below s0 tt_ := fun tt_ kk_ => P18 tt_ (st19 _ kk_)
  have P21 : ∀ tt_, GG p e below T19 (mkF m 40 #[.val (.ref sb), .val (.ref xs), .val (.int (Int32.ofNat ss.length))] [(.int ((Int32.ofNat bs.length) + (Int32.ofNat ss.length))), (.ref sb)]) tt_ → Steps p.tables e below s0 tt_ := fun tt_ kk_ => P20 tt_ (by
    refine XS.iloadN X19.here hx rfl (hb hby d_append_38) rfl ?_
    refine XS.iadd X19.here hx rfl (hb hby d_append_39) rfl ?_
    exact kk_)
  have P22 : ∀ tt_, GG p e below T19 (mkF m 40 #[.val (.ref sb), .val (.ref xs), .val (.int (Int32.ofNat ss.length))] [(.int (Int32.ofNat (bs ++ ss).length)), (.ref sb)]) tt_ → Steps p.tables e below s0 tt_ := fun tt_ kk_ => P21 tt_ (by rw [show Int32.ofNat bs.length + Int32.ofNat ss.length = Int32.ofNat (bs ++ ss).length by rw [own_add, List.length_append]]; exact kk_)
  obtain ⟨T23, h23, X23, e23, W23, st23⟩ := putF X19 hx hZ hown (host := "") (Or.inl (ww hw 158 rfl)) Via.refl e19 F_count_sb E_sb (Or.inl (ww hw 159 rfl)) (ww hw 121 rfl) (ty := .int) (by decide) rfl rfl (g := (mkF m 40 #[.val (.ref sb), .val (.ref xs), .val (.int (Int32.ofNat ss.length))] [(.int (Int32.ofNat (bs ++ ss).length)), (.ref sb)])) rfl rfl (hb hby d_append_40)
  have P24 : ∀ tt_, GG p e below T23 (mkF m 43 #[.val (.ref sb), .val (.ref xs), .val (.int (Int32.ofNat ss.length))] []) tt_ → Steps p.tables e below s0 tt_ := fun tt_ kk_ => P22 tt_ (st23 _ kk_)
  have N23 := Fr.snoc X23 N16 g_sb
  have K23 : Keep h0 h23 [sb, t] := K15.wr W23 (Or.inl (List.mem_of_getElem? (i := 0) rfl))
  replace E_sb : Exa Z h23 sb "java/lang/StringBuilder" := E_sb.wr W23
  replace F_value_sb : Fld Z h23 sb "java/lang/AbstractStringBuilder" "value" "[B" (.ref t) := F_value_sb.other W23 (Or.inr (slot_ne (Or.inl (ww hw 135 rfl)) (Or.inl (ww hw 159 rfl)) (by decide) (t := (.array .byte)) (t' := .int) (by decide) (by decide)))
  replace F_coder_sb : Fld Z h23 sb "java/lang/AbstractStringBuilder" "coder" "B" (.int (0 : Int32)) := F_coder_sb.other W23 (Or.inr (slot_ne (Or.inl (ww hw 137 rfl)) (Or.inl (ww hw 159 rfl)) (by decide) (t := .byte) (t' := .int) (by decide) (by decide)))
  replace F_count_sb : Fld Z h23 sb "java/lang/AbstractStringBuilder" "count" "I" (.int (Int32.ofNat (bs ++ ss).length)) := F_count_sb.same W23
  replace E_t : Exa Z h23 t "[B" := E_t.wr W23
  replace E_xs : Exa Z h23 xs "java/lang/String" := E_xs.wr W23
  replace F_value_xs : Fld Z h23 xs "java/lang/String" "value" "[B" (.ref ts) := F_value_xs.other W23 (Or.inl ne_xs_sb)
  replace F_coder_xs : Fld Z h23 xs "java/lang/String" "coder" "B" (.int (0 : Int32)) := F_coder_xs.other W23 (Or.inl ne_xs_sb)
  replace V_ts : Arv Z h23 ts ks .byte (Int32.ofNat ss.length) ss (.int (0 : Int32)) := V_ts.other W23 ne_ts_sb
  replace OL : Old Z n0 h23 := OL.wr W23 g_sb
  replace V_t : Arv Z h23 t kb .byte (16 : Int32) (bs ++ ss) (.int (0 : Int32)) := V_t.other W23 (Ne.symm ne_sb_t)
  have P25 : ∀ tt_, GG p e below T23 (mkF m 44 #[.val (.ref sb), .val (.ref xs), .val (.int (Int32.ofNat ss.length))] [(.ref sb)]) tt_ → Steps p.tables e below s0 tt_ := fun tt_ kk_ => P24 tt_ (by
    refine XS.aloadN X23.here hx rfl (hb hby d_append_43) rfl rfl ?_
    exact kk_)
  subst hs0
  obtain ⟨fs, hr, hrun, hended, hW, hsame⟩ := X23.leave (v := some (.ref sb)) (fun h => by rw [Bd.returns] at h; cases h)
  refine ⟨_, _, P25 _ ?_, hrun, hended, _, _, rfl, ?_, ⟨_, rfl⟩, hW, hsame.mono (by decide) (by decide)⟩
  · show GG p e below T23 (mkF m 44 #[.val (.ref sb), .val (.ref xs), .val (.int (Int32.ofNat ss.length))] [(.ref sb)]) _
    jvm_step X23.here [X23.here.top, hx, (hb hby d_append_44), X23.method', Bd.returns, Value.isRef, FieldType.isReference]
    first | (intro acts; rw [hr _ acts rfl rfl rfl]) | rw [hr _ _ rfl rfl rfl]
    exact Steps.refl _
  · show Q_asbApp Z sb t kb bs G1 xs ts ks ss h0 n0 _ T23.heap _
    rw [e23]
    exact ⟨rfl, N23, K23, E_sb, F_value_sb, F_coder_sb, F_count_sb, V_t, E_t⟩
theorem ef_sbApp (m : MethodId) (x0 : Addr) (x1 : Addr) : entryFrame m #[(.ref x0), (.ref x1)] 2 = mkF m 0 #[.val (.ref x0), .val (.ref x1)] [] := by first | (simp [entryFrame, mkF, argsToLocals, Value.category]; done) | rfl
theorem d_append2_0 : decode jdk_67_method_7_code 0 = .ok (.aload_n 0, 1) := by decide +kernel
theorem d_append2_1 : decode jdk_67_method_7_code 1 = .ok (.aload_n 1, 1) := by decide +kernel
theorem pd_9 : parseMethodDescriptor "(Ljava/lang/String;)Ljava/lang/AbstractStringBuilder;" = some ⟨[(.object "java/lang/String")], some (.object "java/lang/AbstractStringBuilder")⟩ := by decide +kernel
theorem d_append2_2 : decode jdk_67_method_7_code 2 = .ok (.invokespecial 29, 3) := by decide +kernel
abbrev mn_10 : MethodName := ⟨"java/lang/AbstractStringBuilder", "append", "(Ljava/lang/String;)Ljava/lang/AbstractStringBuilder;"⟩
theorem d_append2_5 : decode jdk_67_method_7_code 5 = .ok (.pop, 1) := by decide +kernel
theorem d_append2_6 : decode jdk_67_method_7_code 6 = .ok (.aload_n 0, 1) := by decide +kernel
theorem d_append2_7 : decode jdk_67_method_7_code 7 = .ok (.areturn, 1) := by decide +kernel
def Q_sbApp (Z : State) (sb : Addr) (t : Addr) (kb : ClassId) (bs : List Value) (G1 : Int32) (xs : Addr) (ts : Addr) (ks : ClassId) (ss : List Value) (h0 : Heap) (n0 : Nat) (v : Option Value) (h : Heap) (L : List Loc) : Prop := v = some (.ref sb) ∧ Fr n0 L ∧ Keep h0 h [sb, t] ∧ (Exa Z h sb "java/lang/StringBuilder") ∧ (Fld Z h sb "java/lang/AbstractStringBuilder" "value" "[B" (.ref t)) ∧ (Fld Z h sb "java/lang/AbstractStringBuilder" "coder" "B" (.int (0 : Int32))) ∧ (Fld Z h sb "java/lang/AbstractStringBuilder" "count" "I" (.int (Int32.ofNat (bs ++ ss).length))) ∧ (Arv Z h t kb .byte (16 : Int32) (bs ++ ss) (.int (0 : Int32))) ∧ (Exa Z h t "[B")
set_option maxRecDepth 65536 in
set_option maxHeartbeats 40000000 in
theorem rm_sbApp (l : Launch) (Z : State) (a0 : Array Value) (hw : ∀ d ∈ tables_1, d.before a0 Z = true) (ws : List Jvm.Cond) (sb : Addr) (t : Addr) (kb : ClassId) (bs : List Value) (G1 : Int32) (xs : Addr) (ts : Addr) (ks : ClassId) (ss : List Value) (h0 : Heap) (n0 : Nat) (Z0 : n0 ≤ h0.size) (E_sb : Exa Z h0 sb "java/lang/StringBuilder") (F_value_sb : Fld Z h0 sb "java/lang/AbstractStringBuilder" "value" "[B" (.ref t)) (F_coder_sb : Fld Z h0 sb "java/lang/AbstractStringBuilder" "coder" "B" (.int (0 : Int32))) (F_count_sb : Fld Z h0 sb "java/lang/AbstractStringBuilder" "count" "I" (.int (Int32.ofNat bs.length))) (V_t : Arv Z h0 t kb .byte (16 : Int32) bs (.int (0 : Int32))) (E_t : Exa Z h0 t "[B") (E_xs : Exa Z h0 xs "java/lang/String") (F_value_xs : Fld Z h0 xs "java/lang/String" "value" "[B" (.ref ts)) (F_coder_xs : Fld Z h0 xs "java/lang/String" "coder" "B" (.int (0 : Int32))) (V_ts : Arv Z h0 ts ks .byte (Int32.ofNat ss.length) ss (.int (0 : Int32))) (g_t : n0 ≤ t) (g_sb : n0 ≤ sb) (ne_xs_t : xs ≠ t) (ne_ts_t : ts ≠ t) (ne_sb_t : sb ≠ t) (ne_xs_sb : xs ≠ sb) (ne_ts_sb : ts ≠ sb) (S_COMPACT_STRINGS : Sta Z Z.heap "java/lang/String" "COMPACT_STRINGS" "Z" (.int G1)) (OL : Old Z n0 h0) (hz : ¬ G1 = 0) (hle : bs.length + ss.length ≤ 16) :
    MetFree l (⟨"java/lang/StringBuilder", "append", "(Ljava/lang/String;)Ljava/lang/StringBuilder;"⟩ : MethodName) (head1 (Jvm.Cond.code (⟨"java/lang/StringBuilder", "append", "(Ljava/lang/String;)Ljava/lang/StringBuilder;"⟩ : MethodName) jdk_67_method_7_code 2 (some (.object "java/lang/StringBuilder")) :: ws) ({ frames := 4, cells := 0, slots := 0, locals := 61 } : Room)) (fun a U => a = #[(.ref sb), (.ref xs)] ∧ Z.Warmed39 U.vm ∧ U.heap = h0) (fun _ _ _ _ _ => True) (fun _ U o U' => ∃ v L, o = .returned v ∧ Q_sbApp Z sb t kb bs G1 xs ts ks ss h0 n0 v U'.heap L ∧ FrameEnd U o U' L ({ frames := 4, cells := 0, slots := 0, locals := 61 } : Room).cells ({ frames := 4, cells := 0, slots := 0, locals := 61 } : Room).slots) := by
  refine MetFree.of_bodySF (plainFor_of_name pn_3) hisR ?_
  intro p e s m args below meth c s₁ Bd hml0 hP hK
  obtain ⟨rfl, hZ, hh⟩ := hP
  have hx := Bd.exec
  have hby := Bd.bytes
  have hml : c.maxLocals = 2 := hml0
  have hown : s.vm.findClass "java/lang/StringBuilder" = some m.cls := findClass_of_methodNamed Bd.named
  have hnm := (name_of_methodNamed Bd.named Bd.method).1
  have X0 : Stand p l e ({ frames := 4, cells := 0, slots := 0, locals := 61 } : Room) s m #[(.ref sb), (.ref xs)] below meth c s₁ [] 0 0 := Stand.of_body Bd
  have e0 : s₁.heap = h0 := by rw [← hh, Bd.state]; rfl
  have N0 := Fr.nil n0
  obtain ⟨s0, hs0⟩ : ∃ z, z = (s₁.setTop (entryFrame m #[(.ref sb), (.ref xs)] 2)) := ⟨_, rfl⟩
  have P0 : ∀ tt_, GG p e below s₁ (mkF m 0 #[.val (.ref sb), .val (.ref xs)] []) tt_ → Steps p.tables e below s0 tt_ := fun tt_ kk_ => by rw [hs0]; exact castTop (ef_sbApp m sb xs) kk_
  have P1 : ∀ tt_, GG p e below s₁ (mkF m 2 #[.val (.ref sb), .val (.ref xs)] [(.ref xs), (.ref sb)]) tt_ → Steps p.tables e below s0 tt_ := fun tt_ kk_ => P0 tt_ (by
    refine XS.aloadN X0.here hx rfl (hb hby d_append2_0) rfl rfl ?_
    refine XS.aloadN X0.here hx rfl (hb hby d_append2_1) rfl rfl ?_
    exact kk_)
  obtain ⟨_, _, ⟨T2, L2, k2, n2⟩, -, X2, ⟨Lc2, hQ2, l2, y2, z2⟩, st2⟩ := superBack X0 hx hZ (y := mn_10) hown (ww hw 143 rfl) (own_same (y := mn_10) (ww hw 146 rfl) (ww hw 163 rfl) rfl (by decide)) (ww hw 144 rfl) (ww hw 145 rfl) (by decide) (backOf (W := 0) (rm_asbApp l Z a0 hw [] sb t kb bs G1 xs ts ks ss h0 n0 (Nat.le_trans Z0 (Nat.le_refl h0.size)) E_sb F_value_sb F_coder_sb F_count_sb V_t E_t E_xs F_value_xs F_coder_xs V_ts g_t g_sb ne_xs_t ne_ts_t ne_sb_t ne_xs_sb ne_ts_sb S_COMPACT_STRINGS OL hz hle) hZ (ww hw 147 rfl) (ww hw 130 rfl) (by decide) (by decide)) e0 (Ins.self E_sb) (g := (mkF m 2 #[.val (.ref sb), .val (.ref xs)] [(.ref xs), (.ref sb)])) rfl (by rw [hml]; rfl) (ww hw 147 rfl) (argsL := [(.ref xs)]) (rest := []) (lenOf pd_9 rfl) rfl (by show 2 * 0 + _ ≤ _; exact Nat.le_of_eq rfl) (hb hby d_append2_2) (fun _ _ => ⟨rfl, e0, (by decide : 0 + 0 ≤ _), (by decide : 0 + 0 ≤ _)⟩)
  dsimp only [Pt.U, Pt.locs, Pt.cells, Pt.slots] at X2 l2 y2 z2 st2 hQ2
  subst l2 y2 z2
  obtain ⟨rfl, N2q, Kc2, po2_0, po2_1, po2_2, po2_3, po2_4, po2_5⟩ := hQ2
  have N2 := Fr.app N0 N2q
  obtain ⟨Lf3, X2, N3⟩ : ∃ Lf, Stand p l e ({ frames := 4, cells := 0, slots := 0, locals := 61 } : Room) s m #[(.ref sb), (.ref xs)] below meth c T2 Lf 0 0 ∧ Fr n0 Lf := ⟨_, X2, N2⟩
  have P4 : ∀ tt_, GG p e below T2 (mkF m 5 #[.val (.ref sb), .val (.ref xs)] [(.ref sb)]) tt_ → Steps p.tables e below s0 tt_ := fun tt_ kk_ => P1 tt_ (st2.trans kk_)
  replace E_sb : Exa Z T2.heap sb "java/lang/StringBuilder" := E_sb.keep Kc2
  replace E_t : Exa Z T2.heap t "[B" := E_t.keep Kc2
  replace E_xs : Exa Z T2.heap xs "java/lang/String" := E_xs.keep Kc2
  replace F_value_xs : Fld Z T2.heap xs "java/lang/String" "value" "[B" (.ref ts) := F_value_xs.keep Kc2 (ninS ne_xs_sb (ninS ne_xs_t nin0))
  replace F_coder_xs : Fld Z T2.heap xs "java/lang/String" "coder" "B" (.int (0 : Int32)) := F_coder_xs.keep Kc2 (ninS ne_xs_sb (ninS ne_xs_t nin0))
  replace V_ts : Arv Z T2.heap ts ks .byte (Int32.ofNat ss.length) ss (.int (0 : Int32)) := V_ts.keep Kc2 (ninS ne_ts_sb (ninS ne_ts_t nin0))
  replace OL : Old Z n0 T2.heap := OL.keep Kc2 (allS g_sb (allS g_t all0))
  have K2 : Keep h0 T2.heap [sb, t] := (Keep.refl h0 [sb, t]).trans Kc2 (allS (P := fun x => x ∈ [sb, t] ∨ h0.size ≤ x) (Or.inl (List.mem_of_getElem? (i := 0) rfl)) (allS (P := fun x => x ∈ [sb, t] ∨ h0.size ≤ x) (Or.inl (List.mem_of_getElem? (i := 1) rfl)) all0))
  have E_sb : Exa Z T2.heap sb "java/lang/StringBuilder" := po2_0
  have F_value_sb : Fld Z T2.heap sb "java/lang/AbstractStringBuilder" "value" "[B" (.ref t) := po2_1
  have F_coder_sb : Fld Z T2.heap sb "java/lang/AbstractStringBuilder" "coder" "B" (.int (0 : Int32)) := po2_2
  have F_count_sb : Fld Z T2.heap sb "java/lang/AbstractStringBuilder" "count" "I" (.int (Int32.ofNat (bs ++ ss).length)) := po2_3
  have V_t : Arv Z T2.heap t kb .byte (16 : Int32) (bs ++ ss) (.int (0 : Int32)) := po2_4
  have E_t : Exa Z T2.heap t "[B" := po2_5
  have P5 : ∀ tt_, GG p e below T2 (mkF m 7 #[.val (.ref sb), .val (.ref xs)] [(.ref sb)]) tt_ → Steps p.tables e below s0 tt_ := fun tt_ kk_ => P4 tt_ (by
    refine XS.pop X2.here hx rfl (hb hby d_append2_5) rfl rfl ?_
    refine XS.aloadN X2.here hx rfl (hb hby d_append2_6) rfl rfl ?_
    exact kk_)
  subst hs0
  obtain ⟨fs, hr, hrun, hended, hW, hsame⟩ := X2.leave (v := some (.ref sb)) (fun h => by rw [Bd.returns] at h; cases h)
  refine ⟨_, _, P5 _ ?_, hrun, hended, _, _, rfl, ?_, ⟨_, rfl⟩, hW, hsame.mono (by decide) (by decide)⟩
  · show GG p e below T2 (mkF m 7 #[.val (.ref sb), .val (.ref xs)] [(.ref sb)]) _
    jvm_step X2.here [X2.here.top, hx, (hb hby d_append2_7), X2.method', Bd.returns, Value.isRef, FieldType.isReference]
    first | (intro acts; rw [hr _ acts rfl rfl rfl]) | rw [hr _ _ rfl rfl rfl]
    exact Steps.refl _
  · show Q_sbApp Z sb t kb bs G1 xs ts ks ss h0 n0 _ T2.heap _
    exact ⟨rfl, N3, K2, E_sb, F_value_sb, F_coder_sb, F_count_sb, V_t, E_t⟩
theorem ef_getVal (m : MethodId) (x0 : Addr) : entryFrame m #[(.ref x0)] 1 = mkF m 0 #[.val (.ref x0)] [] := by first | (simp [entryFrame, mkF, argsToLocals, Value.category]; done) | rfl
theorem d_getValue_0 : decode jdk_68_method_64_code 0 = .ok (.aload_n 0, 1) := by decide +kernel
theorem d_getValue_1 : decode jdk_68_method_64_code 1 = .ok (.getfield 15, 3) := by decide +kernel
theorem d_getValue_4 : decode jdk_68_method_64_code 4 = .ok (.areturn, 1) := by decide +kernel
def Q_getVal (Z : State) (sb : Addr) (t : Addr) (h0 : Heap) (n0 : Nat) (v : Option Value) (h : Heap) (L : List Loc) : Prop := v = some (.ref t) ∧ Fr n0 L ∧ h = h0
set_option maxRecDepth 65536 in
set_option maxHeartbeats 40000000 in
theorem rm_getVal (l : Launch) (Z : State) (a0 : Array Value) (hw : ∀ d ∈ tables_1, d.before a0 Z = true) (ws : List Jvm.Cond) (sb : Addr) (t : Addr) (h0 : Heap) (n0 : Nat) (Z0 : n0 ≤ h0.size) (F_value_sb : Fld Z h0 sb "java/lang/AbstractStringBuilder" "value" "[B" (.ref t)) :
    MetFree l (⟨"java/lang/AbstractStringBuilder", "getValue", "()[B"⟩ : MethodName) (head1 (Jvm.Cond.code (⟨"java/lang/AbstractStringBuilder", "getValue", "()[B"⟩ : MethodName) jdk_68_method_64_code 1 (some (.array .byte)) :: ws) ({ frames := 0, cells := 0, slots := 0, locals := 0 } : Room)) (fun a U => a = #[(.ref sb)] ∧ Z.Warmed39 U.vm ∧ U.heap = h0) (fun _ _ _ _ _ => True) (fun _ U o U' => ∃ v L, o = .returned v ∧ Q_getVal Z sb t h0 n0 v U'.heap L ∧ FrameEnd U o U' L ({ frames := 0, cells := 0, slots := 0, locals := 0 } : Room).cells ({ frames := 0, cells := 0, slots := 0, locals := 0 } : Room).slots) := by
  refine MetFree.of_bodySF (plainFor_of_name pn_2) hisR ?_
  intro p e s m args below meth c s₁ Bd hml0 hP hK
  obtain ⟨rfl, hZ, hh⟩ := hP
  have hx := Bd.exec
  have hby := Bd.bytes
  have hml : c.maxLocals = 1 := hml0
  have hown : s.vm.findClass "java/lang/AbstractStringBuilder" = some m.cls := findClass_of_methodNamed Bd.named
  have hnm := (name_of_methodNamed Bd.named Bd.method).1
  have X0 : Stand p l e ({ frames := 0, cells := 0, slots := 0, locals := 0 } : Room) s m #[(.ref sb)] below meth c s₁ [] 0 0 := Stand.of_body Bd
  have e0 : s₁.heap = h0 := by rw [← hh, Bd.state]; rfl
  have N0 := Fr.nil n0
  obtain ⟨s0, hs0⟩ : ∃ z, z = (s₁.setTop (entryFrame m #[(.ref sb)] 1)) := ⟨_, rfl⟩
  have P0 : ∀ tt_, GG p e below s₁ (mkF m 0 #[.val (.ref sb)] []) tt_ → Steps p.tables e below s0 tt_ := fun tt_ kk_ => by rw [hs0]; exact castTop (ef_getVal m sb) kk_
  have P1 : ∀ tt_, GG p e below s₁ (mkF m 1 #[.val (.ref sb)] [(.ref sb)]) tt_ → Steps p.tables e below s0 tt_ := fun tt_ kk_ => P0 tt_ (by
    refine XS.aloadN X0.here hx rfl (hb hby d_getValue_0) rfl rfl ?_
    exact kk_)
  obtain ⟨T2, X2, e2, st2⟩ := getF X0 hx hZ hown (host := "") (Or.inl (ww hw 134 rfl)) Via.refl e0 F_value_sb (g := (mkF m 1 #[.val (.ref sb)] [(.ref sb)])) rfl rfl (hb hby d_getValue_1)
  have P3 : ∀ tt_, GG p e below T2 (mkF m 4 #[.val (.ref sb)] [(.ref t)]) tt_ → Steps p.tables e below s0 tt_ := fun tt_ kk_ => P1 tt_ (st2 _ kk_)
  subst hs0
  obtain ⟨fs, hr, hrun, hended, hW, hsame⟩ := X2.leave (v := some (.ref t)) (fun h => by rw [Bd.returns] at h; cases h)
  refine ⟨_, _, P3 _ ?_, hrun, hended, _, _, rfl, ?_, ⟨_, rfl⟩, hW, hsame.mono (by decide) (by decide)⟩
  · show GG p e below T2 (mkF m 4 #[.val (.ref sb)] [(.ref t)]) _
    jvm_step X2.here [X2.here.top, hx, (hb hby d_getValue_4), X2.method', Bd.returns, Value.isRef, FieldType.isReference]
    first | (intro acts; rw [hr _ acts rfl rfl rfl]) | rw [hr _ _ rfl rfl rfl]
    exact Steps.refl _
  · show Q_getVal Z sb t h0 n0 _ T2.heap _
    rw [e2]
    exact ⟨rfl, N0, rfl⟩
theorem ef_asbLen (m : MethodId) (x0 : Addr) : entryFrame m #[(.ref x0)] 1 = mkF m 0 #[.val (.ref x0)] [] := by first | (simp [entryFrame, mkF, argsToLocals, Value.category]; done) | rfl
theorem d_length2_0 : decode jdk_68_method_6_code 0 = .ok (.aload_n 0, 1) := by decide +kernel
theorem d_length2_1 : decode jdk_68_method_6_code 1 = .ok (.getfield 79, 3) := by decide +kernel
theorem d_length2_4 : decode jdk_68_method_6_code 4 = .ok (.ireturn, 1) := by decide +kernel
def Q_asbLen (Z : State) (sb : Addr) (cn : Int32) (h0 : Heap) (n0 : Nat) (v : Option Value) (h : Heap) (L : List Loc) : Prop := v = some (.int cn) ∧ Fr n0 L ∧ h = h0
set_option maxRecDepth 65536 in
set_option maxHeartbeats 40000000 in
theorem rm_asbLen (l : Launch) (Z : State) (a0 : Array Value) (hw : ∀ d ∈ tables_1, d.before a0 Z = true) (ws : List Jvm.Cond) (sb : Addr) (cn : Int32) (h0 : Heap) (n0 : Nat) (Z0 : n0 ≤ h0.size) (F_count_sb : Fld Z h0 sb "java/lang/AbstractStringBuilder" "count" "I" (.int cn)) :
    MetFree l (⟨"java/lang/AbstractStringBuilder", "length", "()I"⟩ : MethodName) (head1 (Jvm.Cond.code (⟨"java/lang/AbstractStringBuilder", "length", "()I"⟩ : MethodName) jdk_68_method_6_code 1 (some .int) :: ws) ({ frames := 0, cells := 0, slots := 0, locals := 0 } : Room)) (fun a U => a = #[(.ref sb)] ∧ Z.Warmed39 U.vm ∧ U.heap = h0) (fun _ _ _ _ _ => True) (fun _ U o U' => ∃ v L, o = .returned v ∧ Q_asbLen Z sb cn h0 n0 v U'.heap L ∧ FrameEnd U o U' L ({ frames := 0, cells := 0, slots := 0, locals := 0 } : Room).cells ({ frames := 0, cells := 0, slots := 0, locals := 0 } : Room).slots) := by
  refine MetFree.of_bodySF (plainFor_of_name pn_2) hisR ?_
  intro p e s m args below meth c s₁ Bd hml0 hP hK
  obtain ⟨rfl, hZ, hh⟩ := hP
  have hx := Bd.exec
  have hby := Bd.bytes
  have hml : c.maxLocals = 1 := hml0
  have hown : s.vm.findClass "java/lang/AbstractStringBuilder" = some m.cls := findClass_of_methodNamed Bd.named
  have hnm := (name_of_methodNamed Bd.named Bd.method).1
  have X0 : Stand p l e ({ frames := 0, cells := 0, slots := 0, locals := 0 } : Room) s m #[(.ref sb)] below meth c s₁ [] 0 0 := Stand.of_body Bd
  have e0 : s₁.heap = h0 := by rw [← hh, Bd.state]; rfl
  have N0 := Fr.nil n0
  obtain ⟨s0, hs0⟩ : ∃ z, z = (s₁.setTop (entryFrame m #[(.ref sb)] 1)) := ⟨_, rfl⟩
  have P0 : ∀ tt_, GG p e below s₁ (mkF m 0 #[.val (.ref sb)] []) tt_ → Steps p.tables e below s0 tt_ := fun tt_ kk_ => by rw [hs0]; exact castTop (ef_asbLen m sb) kk_
  have P1 : ∀ tt_, GG p e below s₁ (mkF m 1 #[.val (.ref sb)] [(.ref sb)]) tt_ → Steps p.tables e below s0 tt_ := fun tt_ kk_ => P0 tt_ (by
    refine XS.aloadN X0.here hx rfl (hb hby d_length2_0) rfl rfl ?_
    exact kk_)
  obtain ⟨T2, X2, e2, st2⟩ := getF X0 hx hZ hown (host := "") (Or.inl (ww hw 158 rfl)) Via.refl e0 F_count_sb (g := (mkF m 1 #[.val (.ref sb)] [(.ref sb)])) rfl rfl (hb hby d_length2_1)
  have P3 : ∀ tt_, GG p e below T2 (mkF m 4 #[.val (.ref sb)] [(.int cn)]) tt_ → Steps p.tables e below s0 tt_ := fun tt_ kk_ => P1 tt_ (st2 _ kk_)
  subst hs0
  obtain ⟨fs, hr, hrun, hended, hW, hsame⟩ := X2.leave (v := some (.int cn)) (fun h => by rw [Bd.returns] at h; cases h)
  refine ⟨_, _, P3 _ ?_, hrun, hended, _, _, rfl, ?_, ⟨_, rfl⟩, hW, hsame.mono (by decide) (by decide)⟩
  · show GG p e below T2 (mkF m 4 #[.val (.ref sb)] [(.int cn)]) _
    exact retI X2 hx Bd.returns (hb hby d_length2_4) hr
  · show Q_asbLen Z sb cn h0 n0 _ T2.heap _
    rw [e2]
    exact ⟨rfl, N0, rfl⟩
theorem ef_sbLen (m : MethodId) (x0 : Addr) : entryFrame m #[(.ref x0)] 1 = mkF m 0 #[.val (.ref x0)] [] := by first | (simp [entryFrame, mkF, argsToLocals, Value.category]; done) | rfl
theorem d_length3_0 : decode jdk_67_method_93_code 0 = .ok (.aload_n 0, 1) := by decide +kernel
theorem d_length3_1 : decode jdk_67_method_93_code 1 = .ok (.invokespecial 343, 3) := by decide +kernel
abbrev mn_11 : MethodName := ⟨"java/lang/AbstractStringBuilder", "length", "()I"⟩
theorem d_length3_4 : decode jdk_67_method_93_code 4 = .ok (.ireturn, 1) := by decide +kernel
def Q_sbLen (Z : State) (sb : Addr) (cn : Int32) (h0 : Heap) (n0 : Nat) (v : Option Value) (h : Heap) (L : List Loc) : Prop := v = some (.int cn) ∧ Fr n0 L ∧ h = h0
set_option maxRecDepth 65536 in
set_option maxHeartbeats 40000000 in
theorem rm_sbLen (l : Launch) (Z : State) (a0 : Array Value) (hw : ∀ d ∈ tables_1, d.before a0 Z = true) (ws : List Jvm.Cond) (sb : Addr) (cn : Int32) (h0 : Heap) (n0 : Nat) (Z0 : n0 ≤ h0.size) (E_sb : Exa Z h0 sb "java/lang/StringBuilder") (F_count_sb : Fld Z h0 sb "java/lang/AbstractStringBuilder" "count" "I" (.int cn)) :
    MetFree l (⟨"java/lang/StringBuilder", "length", "()I"⟩ : MethodName) (head1 (Jvm.Cond.code (⟨"java/lang/StringBuilder", "length", "()I"⟩ : MethodName) jdk_67_method_93_code 1 (some .int) :: ws) ({ frames := 1, cells := 0, slots := 0, locals := 12 } : Room)) (fun a U => a = #[(.ref sb)] ∧ Z.Warmed39 U.vm ∧ U.heap = h0) (fun _ _ _ _ _ => True) (fun _ U o U' => ∃ v L, o = .returned v ∧ Q_sbLen Z sb cn h0 n0 v U'.heap L ∧ FrameEnd U o U' L ({ frames := 1, cells := 0, slots := 0, locals := 12 } : Room).cells ({ frames := 1, cells := 0, slots := 0, locals := 12 } : Room).slots) := by
  refine MetFree.of_bodySF (plainFor_of_name pn_3) hisR ?_
  intro p e s m args below meth c s₁ Bd hml0 hP hK
  obtain ⟨rfl, hZ, hh⟩ := hP
  have hx := Bd.exec
  have hby := Bd.bytes
  have hml : c.maxLocals = 1 := hml0
  have hown : s.vm.findClass "java/lang/StringBuilder" = some m.cls := findClass_of_methodNamed Bd.named
  have hnm := (name_of_methodNamed Bd.named Bd.method).1
  have X0 : Stand p l e ({ frames := 1, cells := 0, slots := 0, locals := 12 } : Room) s m #[(.ref sb)] below meth c s₁ [] 0 0 := Stand.of_body Bd
  have e0 : s₁.heap = h0 := by rw [← hh, Bd.state]; rfl
  have N0 := Fr.nil n0
  obtain ⟨s0, hs0⟩ : ∃ z, z = (s₁.setTop (entryFrame m #[(.ref sb)] 1)) := ⟨_, rfl⟩
  have P0 : ∀ tt_, GG p e below s₁ (mkF m 0 #[.val (.ref sb)] []) tt_ → Steps p.tables e below s0 tt_ := fun tt_ kk_ => by rw [hs0]; exact castTop (ef_sbLen m sb) kk_
  have P1 : ∀ tt_, GG p e below s₁ (mkF m 1 #[.val (.ref sb)] [(.ref sb)]) tt_ → Steps p.tables e below s0 tt_ := fun tt_ kk_ => P0 tt_ (by
    refine XS.aloadN X0.here hx rfl (hb hby d_length3_0) rfl rfl ?_
    exact kk_)
  obtain ⟨_, _, ⟨T2, L2, k2, n2⟩, -, X2, ⟨Lc2, hQ2, l2, y2, z2⟩, st2⟩ := superBack X0 hx hZ (y := mn_11) hown (ww hw 210 rfl) (own_same (y := mn_11) (ww hw 205 rfl) (ww hw 163 rfl) rfl (by decide)) (ww hw 206 rfl) (ww hw 145 rfl) (by decide) (backOf (W := 0) (rm_asbLen l Z a0 hw [] sb cn h0 n0 (Nat.le_trans Z0 (Nat.le_refl h0.size)) F_count_sb) hZ (ww hw 211 rfl) (ww hw 130 rfl) (by decide) (by decide)) e0 (Ins.self E_sb) (g := (mkF m 1 #[.val (.ref sb)] [(.ref sb)])) rfl (by rw [hml]; rfl) (ww hw 211 rfl) (argsL := []) (rest := []) (lenOf pd_7 rfl) rfl (by show 2 * 0 + _ ≤ _; exact Nat.le_of_eq rfl) (hb hby d_length3_1) (fun _ _ => ⟨rfl, e0, (by decide : 0 + 0 ≤ _), (by decide : 0 + 0 ≤ _)⟩)
  dsimp only [Pt.U, Pt.locs, Pt.cells, Pt.slots] at X2 l2 y2 z2 st2 hQ2
  subst l2 y2 z2
  obtain ⟨rfl, N2q, e2⟩ := hQ2
  have N2 := Fr.app N0 N2q
  have P3 : ∀ tt_, GG p e below T2 (mkF m 4 #[.val (.ref sb)] [(.int cn)]) tt_ → Steps p.tables e below s0 tt_ := fun tt_ kk_ => P1 tt_ (st2.trans kk_)
  subst hs0
  obtain ⟨fs, hr, hrun, hended, hW, hsame⟩ := X2.leave (v := some (.int cn)) (fun h => by rw [Bd.returns] at h; cases h)
  refine ⟨_, _, P3 _ ?_, hrun, hended, _, _, rfl, ?_, ⟨_, rfl⟩, hW, hsame.mono (by decide) (by decide)⟩
  · show GG p e below T2 (mkF m 4 #[.val (.ref sb)] [(.int cn)]) _
    exact retI X2 hx Bd.returns (hb hby d_length3_4) hr
  · show Q_sbLen Z sb cn h0 n0 _ T2.heap _
    rw [e2]
    exact ⟨rfl, N2, rfl⟩
theorem ef_asbLat (m : MethodId) (x0 : Addr) : entryFrame m #[(.ref x0)] 1 = mkF m 0 #[.val (.ref x0)] [] := by first | (simp [entryFrame, mkF, argsToLocals, Value.category]; done) | rfl
theorem d_isLatin1_0 : decode jdk_68_method_68_code 0 = .ok (.getstatic 18, 3) := by decide +kernel
theorem d_isLatin1_3 : decode jdk_68_method_68_code 3 = .ok (.ifCond .eq 14, 3) := by decide +kernel
theorem d_isLatin1_6 : decode jdk_68_method_68_code 6 = .ok (.aload_n 0, 1) := by decide +kernel
theorem d_isLatin1_7 : decode jdk_68_method_68_code 7 = .ok (.getfield 22, 3) := by decide +kernel
theorem d_isLatin1_10 : decode jdk_68_method_68_code 10 = .ok (.ifCond .ne 7, 3) := by decide +kernel
theorem d_isLatin1_13 : decode jdk_68_method_68_code 13 = .ok (.iconst 1, 1) := by decide +kernel
theorem d_isLatin1_14 : decode jdk_68_method_68_code 14 = .ok (.goto 4, 3) := by decide +kernel
theorem d_isLatin1_18 : decode jdk_68_method_68_code 18 = .ok (.ireturn, 1) := by decide +kernel
def Q_asbLat (Z : State) (sb : Addr) (G1 : Int32) (h0 : Heap) (n0 : Nat) (v : Option Value) (h : Heap) (L : List Loc) : Prop := v = some (.int (1 : Int32)) ∧ Fr n0 L ∧ h = h0
set_option maxRecDepth 65536 in
set_option maxHeartbeats 40000000 in
theorem rm_asbLat (l : Launch) (Z : State) (a0 : Array Value) (hw : ∀ d ∈ tables_1, d.before a0 Z = true) (ws : List Jvm.Cond) (sb : Addr) (G1 : Int32) (h0 : Heap) (n0 : Nat) (Z0 : n0 ≤ h0.size) (F_coder_sb : Fld Z h0 sb "java/lang/AbstractStringBuilder" "coder" "B" (.int (0 : Int32))) (S_COMPACT_STRINGS : Sta Z Z.heap "java/lang/String" "COMPACT_STRINGS" "Z" (.int G1)) (OL : Old Z n0 h0) (hz : ¬ G1 = 0) :
    MetFree l (⟨"java/lang/AbstractStringBuilder", "isLatin1", "()Z"⟩ : MethodName) (head1 (Jvm.Cond.code (⟨"java/lang/AbstractStringBuilder", "isLatin1", "()Z"⟩ : MethodName) jdk_68_method_68_code 1 (some .boolean) :: ws) ({ frames := 0, cells := 0, slots := 0, locals := 0 } : Room)) (fun a U => a = #[(.ref sb)] ∧ Z.Warmed39 U.vm ∧ U.heap = h0) (fun _ _ _ _ _ => True) (fun _ U o U' => ∃ v L, o = .returned v ∧ Q_asbLat Z sb G1 h0 n0 v U'.heap L ∧ FrameEnd U o U' L ({ frames := 0, cells := 0, slots := 0, locals := 0 } : Room).cells ({ frames := 0, cells := 0, slots := 0, locals := 0 } : Room).slots) := by
  refine MetFree.of_bodySF (plainFor_of_name pn_2) hisR ?_
  intro p e s m args below meth c s₁ Bd hml0 hP hK
  obtain ⟨rfl, hZ, hh⟩ := hP
  have hx := Bd.exec
  have hby := Bd.bytes
  have hml : c.maxLocals = 1 := hml0
  have hown : s.vm.findClass "java/lang/AbstractStringBuilder" = some m.cls := findClass_of_methodNamed Bd.named
  have hnm := (name_of_methodNamed Bd.named Bd.method).1
  have X0 : Stand p l e ({ frames := 0, cells := 0, slots := 0, locals := 0 } : Room) s m #[(.ref sb)] below meth c s₁ [] 0 0 := Stand.of_body Bd
  have e0 : s₁.heap = h0 := by rw [← hh, Bd.state]; rfl
  have N0 := Fr.nil n0
  obtain ⟨s0, hs0⟩ : ∃ z, z = (s₁.setTop (entryFrame m #[(.ref sb)] 1)) := ⟨_, rfl⟩
  have P0 : ∀ tt_, GG p e below s₁ (mkF m 0 #[.val (.ref sb)] []) tt_ → Steps p.tables e below s0 tt_ := fun tt_ kk_ => by rw [hs0]; exact castTop (ef_asbLat m sb) kk_
  obtain ⟨T1, X1, e1, st1⟩ := getS2 X0 hx hZ hown (host := "") (Or.inl (ww hw 133 rfl)) Via.refl e0 (S_COMPACT_STRINGS.ext OL.2) (g := (mkF m 0 #[.val (.ref sb)] [])) rfl (hb hby d_isLatin1_0)
  have P2 : ∀ tt_, GG p e below T1 (mkF m 3 #[.val (.ref sb)] [(.int G1)]) tt_ → Steps p.tables e below s0 tt_ := fun tt_ kk_ => P0 tt_ (st1 _ kk_)
  have P3 : ∀ tt_, GG p e below T1 (mkF m 7 #[.val (.ref sb)] [(.ref sb)]) tt_ → Steps p.tables e below s0 tt_ := fun tt_ kk_ => P2 tt_ (by
    refine XS.ifNo X1.here hx rfl (hb hby d_isLatin1_3) rfl ((if0 _ _).trans (feq (hz : ¬ (G1 = (0 : Int32)))).1) ?_
    refine XS.aloadN X1.here hx rfl (hb hby d_isLatin1_6) rfl rfl ?_
    exact kk_)
  obtain ⟨T4, X4, e4, st4⟩ := getF X1 hx hZ hown (host := "") (Or.inl (ww hw 136 rfl)) Via.refl e1 F_coder_sb (g := (mkF m 7 #[.val (.ref sb)] [(.ref sb)])) rfl rfl (hb hby d_isLatin1_7)
  have P5 : ∀ tt_, GG p e below T4 (mkF m 10 #[.val (.ref sb)] [(.int (0 : Int32))]) tt_ → Steps p.tables e below s0 tt_ := fun tt_ kk_ => P3 tt_ (st4 _ kk_)
  have P6 : ∀ tt_, GG p e below T4 (mkF m 18 #[.val (.ref sb)] [(.int (1 : Int32))]) tt_ → Steps p.tables e below s0 tt_ := fun tt_ kk_ => P5 tt_ (by
    refine XS.ifNo X4.here hx rfl (hb hby d_isLatin1_10) rfl ((if0 _ _).trans (teq ((by decide) : (0 : Int32) = (0 : Int32))).2) ?_
    refine XS.iconst X4.here hx rfl (hb hby d_isLatin1_13) ?_
    refine XS.goto X4.here hx rfl (pc0 := 14) (pc' := 18) rfl (hb hby d_isLatin1_14) (by decide) (by decide) ?_
    exact kk_)
  subst hs0
  obtain ⟨fs, hr, hrun, hended, hW, hsame⟩ := X4.leave (v := some (.int (nar .boolean (1 : Int32)))) (fun h => by rw [Bd.returns] at h; cases h)
  refine ⟨_, _, P6 _ ?_, hrun, hended, _, _, rfl, ?_, ⟨_, rfl⟩, hW, hsame.mono (by decide) (by decide)⟩
  · show GG p e below T4 (mkF m 18 #[.val (.ref sb)] [(.int (1 : Int32))]) _
    exact retN X4 hx (t := .boolean) Bd.returns (by simp) (hb hby d_isLatin1_18) hr
  · show Q_asbLat Z sb G1 h0 n0 _ T4.heap _
    rw [e4]
    exact ⟨rfl, N0, rfl⟩
theorem ef_cpRange (m : MethodId) (x0 : Addr) : entryFrame m #[(.ref x0), (.int (0 : Int32)), (.int (16 : Int32))] 3 = mkF m 0 #[.val (.ref x0), .val (.int (0 : Int32)), .val (.int (16 : Int32))] [] := by first | (simp [entryFrame, mkF, argsToLocals, Value.category]; done) | rfl
theorem pn_4 : plainName "java/util/Arrays" = true := by first | (simp [plainName, overriddenIn]; done) | decide +kernel
theorem d_copyOfRange_0 : decode jdk_65_method_132_code 0 = .ok (.iload_n 1, 1) := by decide +kernel
theorem d_copyOfRange_1 : decode jdk_65_method_132_code 1 = .ok (.ifCond .ne 9, 3) := by decide +kernel
theorem d_copyOfRange_4 : decode jdk_65_method_132_code 4 = .ok (.iload_n 2, 1) := by decide +kernel
theorem d_copyOfRange_5 : decode jdk_65_method_132_code 5 = .ok (.aload_n 0, 1) := by decide +kernel
theorem d_copyOfRange_6 : decode jdk_65_method_132_code 6 = .ok (.arraylength, 1) := by decide +kernel
theorem d_copyOfRange_7 : decode jdk_65_method_132_code 7 = .ok (.if_icmp .eq 10, 3) := by decide +kernel
theorem d_copyOfRange_17 : decode jdk_65_method_132_code 17 = .ok (.aload_n 0, 1) := by decide +kernel
theorem d_copyOfRange_18 : decode jdk_65_method_132_code 18 = .ok (.invokevirtual 310, 3) := by decide +kernel
theorem d_copyOfRange_21 : decode jdk_65_method_132_code 21 = .ok (.checkcast 311, 3) := by decide +kernel
theorem d_copyOfRange_24 : decode jdk_65_method_132_code 24 = .ok (.areturn, 1) := by decide +kernel
def Q_cpRange (Z : State) (t : Addr) (kb : ClassId) (vs : List Value) (h0 : Heap) (n0 : Nat) (v : Option Value) (h : Heap) (L : List Loc) : Prop := ∃ (tn : Addr), v = some (.ref tn) ∧ Fr n0 L ∧ Keep h0 h [] ∧ (h0.size ≤ tn) ∧ (Arv Z h tn kb .byte (16 : Int32) vs (.int (0 : Int32)))
set_option maxRecDepth 65536 in
set_option maxHeartbeats 40000000 in
theorem rm_cpRange (l : Launch) (Z : State) (a0 : Array Value) (hw : ∀ d ∈ tables_1, d.before a0 Z = true) (ws : List Jvm.Cond) (t : Addr) (kb : ClassId) (vs : List Value) (h0 : Heap) (n0 : Nat) (Z0 : n0 ≤ h0.size) (V_t : Arv Z h0 t kb .byte (16 : Int32) vs (.int (0 : Int32))) (E_t : Exa Z h0 t "[B") :
    MetFree l (⟨"java/util/Arrays", "copyOfRange", "([BII)[B"⟩ : MethodName) (head1 (Jvm.Cond.code (⟨"java/util/Arrays", "copyOfRange", "([BII)[B"⟩ : MethodName) jdk_65_method_132_code 3 (some (.array .byte)) :: ws) ({ frames := 1, cells := 1, slots := 16, locals := 14 } : Room)) (fun a U => a = #[(.ref t), (.int (0 : Int32)), (.int (16 : Int32))] ∧ Z.Warmed39 U.vm ∧ U.heap = h0) (fun _ _ _ _ _ => True) (fun _ U o U' => ∃ v L, o = .returned v ∧ Q_cpRange Z t kb vs h0 n0 v U'.heap L ∧ FrameEnd U o U' L ({ frames := 1, cells := 1, slots := 16, locals := 14 } : Room).cells ({ frames := 1, cells := 1, slots := 16, locals := 14 } : Room).slots) := by
  refine MetFree.of_bodySF (plainFor_of_name pn_4) hisR ?_
  intro p e s m args below meth c s₁ Bd hml0 hP hK
  obtain ⟨rfl, hZ, hh⟩ := hP
  have hx := Bd.exec
  have hby := Bd.bytes
  have hml : c.maxLocals = 3 := hml0
  have hown : s.vm.findClass "java/util/Arrays" = some m.cls := findClass_of_methodNamed Bd.named
  have hnm := (name_of_methodNamed Bd.named Bd.method).1
  have X0 : Stand p l e ({ frames := 1, cells := 1, slots := 16, locals := 14 } : Room) s m #[(.ref t), (.int (0 : Int32)), (.int (16 : Int32))] below meth c s₁ [] 0 0 := Stand.of_body Bd
  have e0 : s₁.heap = h0 := by rw [← hh, Bd.state]; rfl
  have N0 := Fr.nil n0
  obtain ⟨s0, hs0⟩ : ∃ z, z = (s₁.setTop (entryFrame m #[(.ref t), (.int (0 : Int32)), (.int (16 : Int32))] 3)) := ⟨_, rfl⟩
  have P0 : ∀ tt_, GG p e below s₁ (mkF m 0 #[.val (.ref t), .val (.int (0 : Int32)), .val (.int (16 : Int32))] []) tt_ → Steps p.tables e below s0 tt_ := fun tt_ kk_ => by rw [hs0]; exact castTop (ef_cpRange m t) kk_
  have P1 : ∀ tt_, GG p e below s₁ (mkF m 6 #[.val (.ref t), .val (.int (0 : Int32)), .val (.int (16 : Int32))] [(.ref t), (.int (16 : Int32))]) tt_ → Steps p.tables e below s0 tt_ := fun tt_ kk_ => P0 tt_ (by
    refine XS.iloadN X0.here hx rfl (hb hby d_copyOfRange_0) rfl ?_
    refine XS.ifNo X0.here hx rfl (hb hby d_copyOfRange_1) rfl ((if0 _ _).trans (teq ((by decide) : (0 : Int32) = (0 : Int32))).2) ?_
    refine XS.iloadN X0.here hx rfl (hb hby d_copyOfRange_4) rfl ?_
    refine XS.aloadN X0.here hx rfl (hb hby d_copyOfRange_5) rfl rfl ?_
    exact kk_)
  obtain ⟨cl2, Ar2, -, S2, M2, -, -⟩ := id V_t
  have P3 : ∀ tt_, GG p e below s₁ (mkF m 7 #[.val (.ref t), .val (.int (0 : Int32)), .val (.int (16 : Int32))] [(.int (16 : Int32)), (.int (16 : Int32))]) tt_ → Steps p.tables e below s0 tt_ := fun tt_ kk_ => P1 tt_ (by
    refine X0.arraylength hx (by rw [e0]; exact Ar2.1) (State.isArrayOf_alike hZ.alike Ar2.2.1) (g := (mkF m 6 #[.val (.ref t), .val (.int (0 : Int32)), .val (.int (16 : Int32))] [(.ref t), (.int (16 : Int32))])) rfl rfl (hb hby d_copyOfRange_6) _ ?_
    rw [len_of S2 M2]
    exact kk_)
  have P4 : ∀ tt_, GG p e below s₁ (mkF m 18 #[.val (.ref t), .val (.int (0 : Int32)), .val (.int (16 : Int32))] [(.ref t)]) tt_ → Steps p.tables e below s0 tt_ := fun tt_ kk_ => P3 tt_ (by
    refine XS.icmpYes X0.here hx rfl (pc0 := 7) (pc' := 17) rfl (hb hby d_copyOfRange_7) rfl (teq (rfl : (16 : Int32) = (16 : Int32))).1 (by decide) (by decide) ?_
    refine XS.aloadN X0.here hx rfl (hb hby d_copyOfRange_17) rfl rfl ?_
    exact kk_)
  obtain ⟨T5, h5, X5, e5, E5, A5, B5, st5⟩ := cloneH X0 hx hZ hown (ww hw 221 rfl) (ww hw 222 rfl) (ww hw 226 rfl) (ww hw 224 rfl) (ww hw 225 rfl) (ww hw 227 rfl) e0 V_t.arh E_t (g := (mkF m 18 #[.val (.ref t), .val (.int (0 : Int32)), .val (.int (16 : Int32))] [(.ref t)])) rfl (by rw [hml]; rfl) rfl (hb hby d_copyOfRange_18) (by decide) (W := 0) (cap := 16) (by show 2 * 0 + _ ≤ _; exact Nat.le_of_eq rfl) (by decide) (by decide) (by decide) (by decide)
  obtain ⟨b5, g5⟩ : ∃ z, z = h0.size := ⟨_, rfl⟩
  rw [← g5] at A5 B5 st5
  have P6 : ∀ tt_, GG p e below T5 (mkF m 21 #[.val (.ref t), .val (.int (0 : Int32)), .val (.int (16 : Int32))] [(.ref b5)]) tt_ → Steps p.tables e below s0 tt_ := fun tt_ kk_ => P4 tt_ (st5 _ kk_)
  have ne_t_b5 : t ≠ b5 := Nat.ne_of_lt (Nat.lt_of_lt_of_le V_t.lt (Nat.le_of_eq g5.symm))
  have sz_b5 : h0.size ≤ b5 := Nat.le_trans (Nat.le_refl h0.size) (Nat.le_of_eq g5.symm)
  replace V_t : Arv Z h5 t kb .byte (16 : Int32) vs (.int (0 : Int32)) := V_t.ext E5
  replace E_t : Exa Z h5 t "[B" := E_t.ext E5
  have K5 : Keep h0 h5 [] := (Keep.refl h0 []).ext E5
  obtain ⟨Lf7, X5, N7⟩ : ∃ Lf, Stand p l e ({ frames := 1, cells := 1, slots := 16, locals := 14 } : Room) s m #[(.ref t), (.int (0 : Int32)), (.int (16 : Int32))] below meth c T5 Lf 1 16 ∧ Fr n0 Lf := ⟨_, X5, N0⟩
  have V_b5 : Arv Z h5 b5 kb .byte (16 : Int32) vs (.int (0 : Int32)) := A5
  have E_b5 : Exa Z h5 b5 "[B" := B5
  obtain ⟨T8, X8, e8, st8⟩ := castY X5 hx hZ hown (ww hw 228 rfl) e5 (Ins.self E_b5) (g := (mkF m 21 #[.val (.ref t), .val (.int (0 : Int32)), .val (.int (16 : Int32))] [(.ref b5)])) rfl rfl (hb hby d_copyOfRange_21)
  have P9 : ∀ tt_, GG p e below T8 (mkF m 24 #[.val (.ref t), .val (.int (0 : Int32)), .val (.int (16 : Int32))] [(.ref b5)]) tt_ → Steps p.tables e below s0 tt_ := fun tt_ kk_ => P6 tt_ (st8 _ kk_)
  subst hs0
  obtain ⟨fs, hr, hrun, hended, hW, hsame⟩ := X8.leave (v := some (.ref b5)) (fun h => by rw [Bd.returns] at h; cases h)
  refine ⟨_, _, P9 _ ?_, hrun, hended, _, _, rfl, ?_, ⟨_, rfl⟩, hW, hsame.mono (by decide) (by decide)⟩
  · show GG p e below T8 (mkF m 24 #[.val (.ref t), .val (.int (0 : Int32)), .val (.int (16 : Int32))] [(.ref b5)]) _
    jvm_step X8.here [X8.here.top, hx, (hb hby d_copyOfRange_24), X8.method', Bd.returns, Value.isRef, FieldType.isReference]
    first | (intro acts; rw [hr _ acts rfl rfl rfl]) | rw [hr _ _ rfl rfl rfl]
    exact Steps.refl _
  · show Q_cpRange Z t kb vs h0 n0 _ T8.heap _
    rw [e8]
    exact ⟨b5, rfl, N7, K5, sz_b5, V_b5⟩
theorem ef_sInitA (m : MethodId) (x0 : Addr) (x1 : Addr) : entryFrame m #[(.ref x0), (.ref x1), .null] 5 = mkF m 0 #[.val (.ref x0), .val (.ref x1), .val .null, .unset, .unset] [] := by first | (simp [entryFrame, mkF, argsToLocals, Value.category]; done) | rfl
theorem d_init4_0 : decode jdk_42_method_150_code 0 = .ok (.aload_n 0, 1) := by decide +kernel
theorem d_init4_1 : decode jdk_42_method_150_code 1 = .ok (.invokespecial 1, 3) := by decide +kernel
theorem d_init4_4 : decode jdk_42_method_150_code 4 = .ok (.aload_n 1, 1) := by decide +kernel
theorem pd_10 : parseMethodDescriptor "()[B" = some ⟨[], some (.array .byte)⟩ := by decide +kernel
theorem d_init4_5 : decode jdk_42_method_150_code 5 = .ok (.invokevirtual 552, 3) := by decide +kernel
abbrev mn_12 : MethodName := ⟨"java/lang/AbstractStringBuilder", "getValue", "()[B"⟩
theorem d_init4_8 : decode jdk_42_method_150_code 8 = .ok (.astore_n 3, 1) := by decide +kernel
theorem d_init4_9 : decode jdk_42_method_150_code 9 = .ok (.aload_n 1, 1) := by decide +kernel
theorem d_init4_10 : decode jdk_42_method_150_code 10 = .ok (.invokevirtual 549, 3) := by decide +kernel
abbrev mn_13 : MethodName := ⟨"java/lang/StringBuilder", "length", "()I"⟩
theorem d_init4_13 : decode jdk_42_method_150_code 13 = .ok (.istore 4, 2) := by decide +kernel
theorem d_init4_15 : decode jdk_42_method_150_code 15 = .ok (.aload_n 1, 1) := by decide +kernel
theorem pd_11 : parseMethodDescriptor "()Z" = some ⟨[], some .boolean⟩ := by decide +kernel
theorem d_init4_16 : decode jdk_42_method_150_code 16 = .ok (.invokevirtual 1047, 3) := by decide +kernel
abbrev mn_14 : MethodName := ⟨"java/lang/AbstractStringBuilder", "isLatin1", "()Z"⟩
theorem d_init4_19 : decode jdk_42_method_150_code 19 = .ok (.ifCond .eq 22, 3) := by decide +kernel
theorem d_init4_22 : decode jdk_42_method_150_code 22 = .ok (.aload_n 0, 1) := by decide +kernel
theorem d_init4_23 : decode jdk_42_method_150_code 23 = .ok (.iconst 0, 1) := by decide +kernel
theorem d_init4_24 : decode jdk_42_method_150_code 24 = .ok (.putfield 15, 3) := by decide +kernel
theorem d_init4_27 : decode jdk_42_method_150_code 27 = .ok (.aload_n 0, 1) := by decide +kernel
theorem d_init4_28 : decode jdk_42_method_150_code 28 = .ok (.aload_n 3, 1) := by decide +kernel
theorem d_init4_29 : decode jdk_42_method_150_code 29 = .ok (.iconst 0, 1) := by decide +kernel
theorem d_init4_30 : decode jdk_42_method_150_code 30 = .ok (.iload 4, 2) := by decide +kernel
theorem pd_12 : parseMethodDescriptor "([BII)[B" = some ⟨[(.array .byte), .int, .int], some (.array .byte)⟩ := by decide +kernel
theorem d_init4_32 : decode jdk_42_method_150_code 32 = .ok (.invokestatic 54, 3) := by decide +kernel
abbrev mn_15 : MethodName := ⟨"java/util/Arrays", "copyOfRange", "([BII)[B"⟩
theorem d_init4_35 : decode jdk_42_method_150_code 35 = .ok (.putfield 9, 3) := by decide +kernel
theorem d_init4_38 : decode jdk_42_method_150_code 38 = .ok (.goto 59, 3) := by decide +kernel
theorem d_init4_97 : decode jdk_42_method_150_code 97 = .ok (.return_, 1) := by decide +kernel
def Q_sInitA (Z : State) (xs : Addr) (sb : Addr) (t : Addr) (kb : ClassId) (vs : List Value) (u1 : Value) (u2 : Value) (G1 : Int32) (h0 : Heap) (n0 : Nat) (v : Option Value) (h : Heap) (L : List Loc) : Prop := ∃ (tn : Addr), v = none ∧ Fr n0 L ∧ Keep h0 h [xs] ∧ (h0.size ≤ tn) ∧ (Exa Z h xs "java/lang/String") ∧ (Fld Z h xs "java/lang/String" "value" "[B" (.ref tn)) ∧ (Fld Z h xs "java/lang/String" "coder" "B" (.int (0 : Int32))) ∧ (Arv Z h tn kb .byte (16 : Int32) vs (.int (0 : Int32)))
set_option maxRecDepth 65536 in
set_option maxHeartbeats 40000000 in
theorem rm_sInitA (l : Launch) (Z : State) (a0 : Array Value) (hw : ∀ d ∈ tables_1, d.before a0 Z = true) (ws : List Jvm.Cond) (xs : Addr) (sb : Addr) (t : Addr) (kb : ClassId) (vs : List Value) (u1 : Value) (u2 : Value) (G1 : Int32) (h0 : Heap) (n0 : Nat) (Z0 : n0 ≤ h0.size) (E_sb : Exa Z h0 sb "java/lang/StringBuilder") (F_value_sb : Fld Z h0 sb "java/lang/AbstractStringBuilder" "value" "[B" (.ref t)) (F_coder_sb : Fld Z h0 sb "java/lang/AbstractStringBuilder" "coder" "B" (.int (0 : Int32))) (F_count_sb : Fld Z h0 sb "java/lang/AbstractStringBuilder" "count" "I" (.int (16 : Int32))) (V_t : Arv Z h0 t kb .byte (16 : Int32) vs (.int (0 : Int32))) (E_t : Exa Z h0 t "[B") (E_xs : Exa Z h0 xs "java/lang/String") (F_value_xs : Fld Z h0 xs "java/lang/String" "value" "[B" u1) (F_coder_xs : Fld Z h0 xs "java/lang/String" "coder" "B" u2) (g_xs : n0 ≤ xs) (ne_xs_sb : xs ≠ sb) (ne_t_xs : t ≠ xs) (S_COMPACT_STRINGS : Sta Z Z.heap "java/lang/String" "COMPACT_STRINGS" "Z" (.int G1)) (OL : Old Z n0 h0) (hz : ¬ G1 = 0) :
    MetFree l (⟨"java/lang/String", "<init>", "(Ljava/lang/AbstractStringBuilder;Ljava/lang/Void;)V"⟩ : MethodName) (head1 (Jvm.Cond.code (⟨"java/lang/String", "<init>", "(Ljava/lang/AbstractStringBuilder;Ljava/lang/Void;)V"⟩ : MethodName) jdk_42_method_150_code 5 none :: ws) ({ frames := 2, cells := 1, slots := 16, locals := 29 } : Room)) (fun a U => a = #[(.ref xs), (.ref sb), .null] ∧ Z.Warmed39 U.vm ∧ U.heap = h0) (fun _ _ _ _ _ => True) (fun _ U o U' => ∃ v L, o = .returned v ∧ Q_sInitA Z xs sb t kb vs u1 u2 G1 h0 n0 v U'.heap L ∧ FrameEnd U o U' L ({ frames := 2, cells := 1, slots := 16, locals := 29 } : Room).cells ({ frames := 2, cells := 1, slots := 16, locals := 29 } : Room).slots) := by
  refine MetFree.of_bodySF (plainFor_of_name pn_1) hisR ?_
  intro p e s m args below meth c s₁ Bd hml0 hP hK
  obtain ⟨rfl, hZ, hh⟩ := hP
  have hx := Bd.exec
  have hby := Bd.bytes
  have hml : c.maxLocals = 5 := hml0
  have hown : s.vm.findClass "java/lang/String" = some m.cls := findClass_of_methodNamed Bd.named
  have hnm := (name_of_methodNamed Bd.named Bd.method).1
  have X0 : Stand p l e ({ frames := 2, cells := 1, slots := 16, locals := 29 } : Room) s m #[(.ref xs), (.ref sb), .null] below meth c s₁ [] 0 0 := Stand.of_body Bd
  have e0 : s₁.heap = h0 := by rw [← hh, Bd.state]; rfl
  have N0 := Fr.nil n0
  obtain ⟨s0, hs0⟩ : ∃ z, z = (s₁.setTop (entryFrame m #[(.ref xs), (.ref sb), .null] 5)) := ⟨_, rfl⟩
  have P0 : ∀ tt_, GG p e below s₁ (mkF m 0 #[.val (.ref xs), .val (.ref sb), .val .null, .unset, .unset] []) tt_ → Steps p.tables e below s0 tt_ := fun tt_ kk_ => by rw [hs0]; exact castTop (ef_sInitA m xs sb) kk_
  have P1 : ∀ tt_, GG p e below s₁ (mkF m 1 #[.val (.ref xs), .val (.ref sb), .val .null, .unset, .unset] [(.ref xs)]) tt_ → Steps p.tables e below s0 tt_ := fun tt_ kk_ => P0 tt_ (by
    refine XS.aloadN X0.here hx rfl (hb hby d_init4_0) rfl rfl ?_
    exact kk_)
  obtain ⟨T2, X2, e2, st2⟩ := initO X0 hx hZ hown (ww hw 11 rfl) (ww hw 12 rfl) (ww hw 13 rfl) e0 (g := (mkF m 1 #[.val (.ref xs), .val (.ref sb), .val .null, .unset, .unset] [(.ref xs)])) rfl (by rw [hml]; rfl) rfl (hb hby d_init4_1) (by decide) (W := 0) (by show 2 * 0 + _ ≤ _; exact Nat.le_of_eq rfl) (by decide)
  have P3 : ∀ tt_, GG p e below T2 (mkF m 4 #[.val (.ref xs), .val (.ref sb), .val .null, .unset, .unset] []) tt_ → Steps p.tables e below s0 tt_ := fun tt_ kk_ => P1 tt_ (st2 _ kk_)
  have P4 : ∀ tt_, GG p e below T2 (mkF m 5 #[.val (.ref xs), .val (.ref sb), .val .null, .unset, .unset] [(.ref sb)]) tt_ → Steps p.tables e below s0 tt_ := fun tt_ kk_ => P3 tt_ (by
    refine XS.aloadN X2.here hx rfl (hb hby d_init4_4) rfl rfl ?_
    exact kk_)
  obtain ⟨cq5, kq5, q5a, q5b, q5c⟩ := isOf hZ e2 E_sb
  obtain ⟨_, _, ⟨T5, L5, k5, n5⟩, -, X5, ⟨Lc5, hQ5, l5, y5, z5⟩, st5⟩ := X2.virtualBack hx (y := mn_12) (z := mn_12) hown (mw hZ hw 199 rfl) (mw hZ hw 200 rfl) (notFace_of_selects (args := #[]) (mw hZ hw 202 rfl)) (mw hZ hw 202 rfl) (mw hZ hw 201 rfl) (by decide) (backOf (W := 0) (rm_getVal l Z a0 hw [] sb t h0 n0 (Nat.le_trans Z0 (Nat.le_refl h0.size)) F_value_sb) hZ (ww hw 203 rfl) (ww hw 130 rfl) (by decide) (by decide)) q5a q5c (g := (mkF m 5 #[.val (.ref xs), .val (.ref sb), .val .null, .unset, .unset] [(.ref sb)])) rfl (by rw [hml]; rfl) (Steps.refl _) (argsL := []) (rest := []) (lenOf pd_10 rfl) rfl (by show 2 * 0 + _ ≤ _; exact Nat.le_of_eq rfl) (hb hby d_init4_5) (fun _ _ => ⟨rfl, e2, (by decide : 0 + 0 ≤ _), (by decide : 0 + 0 ≤ _)⟩)
  dsimp only [Pt.U, Pt.locs, Pt.cells, Pt.slots] at X5 l5 y5 z5 st5 hQ5
  subst l5 y5 z5
  obtain ⟨rfl, N5q, e5⟩ := hQ5
  have N5 := Fr.app N0 N5q
  have P6 : ∀ tt_, GG p e below T5 (mkF m 8 #[.val (.ref xs), .val (.ref sb), .val .null, .unset, .unset] [(.ref t)]) tt_ → Steps p.tables e below s0 tt_ := fun tt_ kk_ => P4 tt_ (st5.trans kk_)
  have P7 : ∀ tt_, GG p e below T5 (mkF m 10 #[.val (.ref xs), .val (.ref sb), .val .null, .val (.ref t), .unset] [(.ref sb)]) tt_ → Steps p.tables e below s0 tt_ := fun tt_ kk_ => P6 tt_ (by
    refine XS.astoreN X5.here hx rfl (hb hby d_init4_8) rfl rfl (l' := #[.val (.ref xs), .val (.ref sb), .val .null, .val (.ref t), .unset]) rfl ?_
    refine XS.aloadN X5.here hx rfl (hb hby d_init4_9) rfl rfl ?_
    exact kk_)
  obtain ⟨cq8, kq8, q8a, q8b, q8c⟩ := isOf hZ e5 E_sb
  obtain ⟨_, _, ⟨T8, L8, k8, n8⟩, -, X8, ⟨Lc8, hQ8, l8, y8, z8⟩, st8⟩ := X5.virtualBack hx (y := mn_11) (z := mn_13) hown (mw hZ hw 204 rfl) (mw hZ hw 205 rfl) (own_nf (args := #[]) (mw hZ hw 163 rfl) rfl) (mw hZ hw 207 rfl) (mw hZ hw 208 rfl) (by decide) (backOf (W := 0) (rm_sbLen l Z a0 hw [] sb (16 : Int32) h0 n0 (Nat.le_trans Z0 (Nat.le_refl h0.size)) E_sb F_count_sb) hZ (ww hw 209 rfl) (ww hw 122 rfl) (by decide) (by decide)) q8a q8c (g := (mkF m 10 #[.val (.ref xs), .val (.ref sb), .val .null, .val (.ref t), .unset] [(.ref sb)])) rfl (by rw [hml]; rfl) (Steps.refl _) (argsL := []) (rest := []) (lenOf pd_7 rfl) rfl (by show 2 * 0 + _ ≤ _; exact Nat.le_of_eq rfl) (hb hby d_init4_10) (fun _ _ => ⟨rfl, e5, (by decide : 0 + 0 ≤ _), (by decide : 0 + 0 ≤ _)⟩)
  dsimp only [Pt.U, Pt.locs, Pt.cells, Pt.slots] at X8 l8 y8 z8 st8 hQ8
  subst l8 y8 z8
  obtain ⟨rfl, N8q, e8⟩ := hQ8
  have N8 := Fr.app N5 N8q
  have P9 : ∀ tt_, GG p e below T8 (mkF m 13 #[.val (.ref xs), .val (.ref sb), .val .null, .val (.ref t), .unset] [(.int (16 : Int32))]) tt_ → Steps p.tables e below s0 tt_ := fun tt_ kk_ => P7 tt_ (st8.trans kk_)
  have P10 : ∀ tt_, GG p e below T8 (mkF m 16 #[.val (.ref xs), .val (.ref sb), .val .null, .val (.ref t), .val (.int (16 : Int32))] [(.ref sb)]) tt_ → Steps p.tables e below s0 tt_ := fun tt_ kk_ => P9 tt_ (by
    refine XS.istore X8.here hx rfl (hb hby d_init4_13) rfl (l' := #[.val (.ref xs), .val (.ref sb), .val .null, .val (.ref t), .val (.int (16 : Int32))]) rfl ?_
    refine XS.aloadN X8.here hx rfl (hb hby d_init4_15) rfl rfl ?_
    exact kk_)
  obtain ⟨cq11, kq11, q11a, q11b, q11c⟩ := isOf hZ e8 E_sb
  obtain ⟨_, _, ⟨T11, L11, k11, n11⟩, -, X11, ⟨Lc11, hQ11, l11, y11, z11⟩, st11⟩ := X8.virtualBack hx (y := mn_14) (z := mn_14) hown (mw hZ hw 212 rfl) (mw hZ hw 213 rfl) (notFace_of_selects (args := #[]) (mw hZ hw 215 rfl)) (mw hZ hw 215 rfl) (mw hZ hw 214 rfl) (by decide) (backOf (W := 0) (rm_asbLat l Z a0 hw [] sb G1 h0 n0 (Nat.le_trans Z0 (Nat.le_refl h0.size)) F_coder_sb S_COMPACT_STRINGS OL hz) hZ (ww hw 216 rfl) (ww hw 130 rfl) (by decide) (by decide)) q11a q11c (g := (mkF m 16 #[.val (.ref xs), .val (.ref sb), .val .null, .val (.ref t), .val (.int (16 : Int32))] [(.ref sb)])) rfl (by rw [hml]; rfl) (Steps.refl _) (argsL := []) (rest := []) (lenOf pd_11 rfl) rfl (by show 2 * 0 + _ ≤ _; exact Nat.le_of_eq rfl) (hb hby d_init4_16) (fun _ _ => ⟨rfl, e8, (by decide : 0 + 0 ≤ _), (by decide : 0 + 0 ≤ _)⟩)
  dsimp only [Pt.U, Pt.locs, Pt.cells, Pt.slots] at X11 l11 y11 z11 st11 hQ11
  subst l11 y11 z11
  obtain ⟨rfl, N11q, e11⟩ := hQ11
  have N11 := Fr.app N8 N11q
  have P12 : ∀ tt_, GG p e below T11 (mkF m 19 #[.val (.ref xs), .val (.ref sb), .val .null, .val (.ref t), .val (.int (16 : Int32))] [(.int (1 : Int32))]) tt_ → Steps p.tables e below s0 tt_ := fun tt_ kk_ => P10 tt_ (st11.trans kk_)
  have P13 : ∀ tt_, GG p e below T11 (mkF m 24 #[.val (.ref xs), .val (.ref sb), .val .null, .val (.ref t), .val (.int (16 : Int32))] [(.int (0 : Int32)), (.ref xs)]) tt_ → Steps p.tables e below s0 tt_ := fun tt_ kk_ => P12 tt_ (by
    refine XS.ifNo X11.here hx rfl (hb hby d_init4_19) rfl ((if0 _ _).trans (feq ((by decide) : ¬ ((1 : Int32) = (0 : Int32)))).1) ?_
    refine XS.aloadN X11.here hx rfl (hb hby d_init4_22) rfl rfl ?_
    refine XS.iconst X11.here hx rfl (hb hby d_init4_23) ?_
    exact kk_)
  obtain ⟨T14, h14, X14, e14, W14, st14⟩ := putFN X11 hx hZ hown (ww hw 26 rfl) Via.refl e11 F_coder_xs E_xs (Or.inr ⟨(ww hw 27 rfl), rfl, hnm⟩) (ww hw 1 rfl) (ty := .byte) (v' := (.int (0 : Int32))) (by decide) rfl (rfl) (g := (mkF m 24 #[.val (.ref xs), .val (.ref sb), .val .null, .val (.ref t), .val (.int (16 : Int32))] [(.int (0 : Int32)), (.ref xs)])) rfl rfl (hb hby d_init4_24)
  have P15 : ∀ tt_, GG p e below T14 (mkF m 27 #[.val (.ref xs), .val (.ref sb), .val .null, .val (.ref t), .val (.int (16 : Int32))] []) tt_ → Steps p.tables e below s0 tt_ := fun tt_ kk_ => P13 tt_ (st14 _ kk_)
  have N14 := Fr.snoc X14 N11 g_xs
  have K14 : Keep h0 h14 [xs] := (Keep.refl h0 [xs]).wr W14 (Or.inl (List.mem_of_getElem? (i := 0) rfl))
  replace E_sb : Exa Z h14 sb "java/lang/StringBuilder" := E_sb.wr W14
  replace F_value_sb : Fld Z h14 sb "java/lang/AbstractStringBuilder" "value" "[B" (.ref t) := F_value_sb.other W14 (Or.inl (Ne.symm ne_xs_sb))
  replace F_coder_sb : Fld Z h14 sb "java/lang/AbstractStringBuilder" "coder" "B" (.int (0 : Int32)) := F_coder_sb.other W14 (Or.inl (Ne.symm ne_xs_sb))
  replace F_count_sb : Fld Z h14 sb "java/lang/AbstractStringBuilder" "count" "I" (.int (16 : Int32)) := F_count_sb.other W14 (Or.inl (Ne.symm ne_xs_sb))
  replace V_t : Arv Z h14 t kb .byte (16 : Int32) vs (.int (0 : Int32)) := V_t.other W14 ne_t_xs
  replace E_t : Exa Z h14 t "[B" := E_t.wr W14
  replace E_xs : Exa Z h14 xs "java/lang/String" := E_xs.wr W14
  replace F_value_xs : Fld Z h14 xs "java/lang/String" "value" "[B" u1 := F_value_xs.other W14 (Or.inr (slot_ne (Or.inr (ww hw 29 rfl)) (Or.inr (ww hw 27 rfl)) (by decide) (t := (.array .byte)) (t' := .byte) (by decide) (by decide)))
  replace F_coder_xs : Fld Z h14 xs "java/lang/String" "coder" "B" (.int (0 : Int32)) := F_coder_xs.same W14
  replace OL : Old Z n0 h14 := OL.wr W14 g_xs
  have P16 : ∀ tt_, GG p e below T14 (mkF m 32 #[.val (.ref xs), .val (.ref sb), .val .null, .val (.ref t), .val (.int (16 : Int32))] [(.int (16 : Int32)), (.int (0 : Int32)), (.ref t), (.ref xs)]) tt_ → Steps p.tables e below s0 tt_ := fun tt_ kk_ => P15 tt_ (by
    refine XS.aloadN X14.here hx rfl (hb hby d_init4_27) rfl rfl ?_
    refine XS.aloadN X14.here hx rfl (hb hby d_init4_28) rfl rfl ?_
    refine XS.iconst X14.here hx rfl (hb hby d_init4_29) ?_
    refine XS.iload X14.here hx rfl (hb hby d_init4_30) rfl ?_
    exact kk_)
  obtain ⟨_, _, ⟨T17, L17, k17, n17⟩, -, X17, ⟨Lc17, hQ17, l17, y17, z17⟩, st17⟩ := Jvm.LawKit.callS X14 hx (y := mn_15) hown (mw hZ hw 217 rfl) (mw hZ hw 218 rfl) (mw hZ hw 219 rfl) (mw hZ hw 220 rfl) (by decide) (backOf (W := 1) (rm_cpRange l Z a0 hw [] t kb vs h14 n0 (Nat.le_trans Z0 K14.1) V_t E_t) hZ (ww hw 220 rfl) (ww hw 219 rfl) (by decide) (by decide)) (g := (mkF m 32 #[.val (.ref xs), .val (.ref sb), .val .null, .val (.ref t), .val (.int (16 : Int32))] [(.int (16 : Int32)), (.int (0 : Int32)), (.ref t), (.ref xs)])) rfl (by rw [hml]; rfl) (argsL := [(.ref t), (.int (0 : Int32)), (.int (16 : Int32))]) (rest := [(.ref xs)]) (lenOf pd_12 rfl) rfl (by show 2 * 0 + _ ≤ _; exact Nat.le_of_eq rfl) (hb hby d_init4_32) (fun _ _ => ⟨rfl, e14, (by decide : 0 + 1 ≤ _), (by decide : 0 + 16 ≤ _)⟩)
  dsimp only [Pt.U, Pt.locs, Pt.cells, Pt.slots] at X17 l17 y17 z17 st17 hQ17
  subst l17 y17 z17
  obtain ⟨tn_17, rfl, N17q, Kc17, po17_0, po17_1⟩ := hQ17
  have N17 := Fr.app N14 N17q
  obtain ⟨Lf18, X17, N18⟩ : ∃ Lf, Stand p l e ({ frames := 2, cells := 1, slots := 16, locals := 29 } : Room) s m #[(.ref xs), (.ref sb), .null] below meth c T17 Lf 1 16 ∧ Fr n0 Lf := ⟨_, X17, N17⟩
  have P19 : ∀ tt_, GG p e below T17 (mkF m 35 #[.val (.ref xs), .val (.ref sb), .val .null, .val (.ref t), .val (.int (16 : Int32))] [(.ref tn_17), (.ref xs)]) tt_ → Steps p.tables e below s0 tt_ := fun tt_ kk_ => P16 tt_ (st17 _ kk_)
  have ne_sb_tn_17 : sb ≠ tn_17 := Nat.ne_of_lt (Nat.lt_of_lt_of_le E_sb.lt po17_0)
  have ne_t_tn_17 : t ≠ tn_17 := Nat.ne_of_lt (Nat.lt_of_lt_of_le V_t.lt po17_0)
  have ne_xs_tn_17 : xs ≠ tn_17 := Nat.ne_of_lt (Nat.lt_of_lt_of_le E_xs.lt po17_0)
  have sz_tn_17 : h0.size ≤ tn_17 := Nat.le_trans K14.1 po17_0
  replace E_sb : Exa Z T17.heap sb "java/lang/StringBuilder" := E_sb.keep Kc17
  replace F_value_sb : Fld Z T17.heap sb "java/lang/AbstractStringBuilder" "value" "[B" (.ref t) := F_value_sb.keep Kc17 nin0
  replace F_coder_sb : Fld Z T17.heap sb "java/lang/AbstractStringBuilder" "coder" "B" (.int (0 : Int32)) := F_coder_sb.keep Kc17 nin0
  replace F_count_sb : Fld Z T17.heap sb "java/lang/AbstractStringBuilder" "count" "I" (.int (16 : Int32)) := F_count_sb.keep Kc17 nin0
  replace V_t : Arv Z T17.heap t kb .byte (16 : Int32) vs (.int (0 : Int32)) := V_t.keep Kc17 nin0
  replace E_t : Exa Z T17.heap t "[B" := E_t.keep Kc17
  replace E_xs : Exa Z T17.heap xs "java/lang/String" := E_xs.keep Kc17
  replace F_value_xs : Fld Z T17.heap xs "java/lang/String" "value" "[B" u1 := F_value_xs.keep Kc17 nin0
  replace F_coder_xs : Fld Z T17.heap xs "java/lang/String" "coder" "B" (.int (0 : Int32)) := F_coder_xs.keep Kc17 nin0
  replace OL : Old Z n0 T17.heap := OL.keep Kc17 all0
  have K17 : Keep h0 T17.heap [xs] := K14.trans Kc17 all0
  have V_tn_17 : Arv Z T17.heap tn_17 kb .byte (16 : Int32) vs (.int (0 : Int32)) := po17_1
  obtain ⟨T20, h20, X20, e20, W20, st20⟩ := putF X17 hx hZ hown (host := "") (Or.inl (ww hw 28 rfl)) Via.refl rfl F_value_xs E_xs (Or.inr ⟨(ww hw 29 rfl), rfl, hnm⟩) (ww hw 1 rfl) (ty := (.array .byte)) (by decide) rfl rfl (g := (mkF m 35 #[.val (.ref xs), .val (.ref sb), .val .null, .val (.ref t), .val (.int (16 : Int32))] [(.ref tn_17), (.ref xs)])) rfl rfl (hb hby d_init4_35)
  have P21 : ∀ tt_, GG p e below T20 (mkF m 38 #[.val (.ref xs), .val (.ref sb), .val .null, .val (.ref t), .val (.int (16 : Int32))] []) tt_ → Steps p.tables e below s0 tt_ := fun tt_ kk_ => P19 tt_ (st20 _ kk_)
  have N20 := Fr.snoc X20 N18 g_xs
  have K20 : Keep h0 h20 [xs] := K17.wr W20 (Or.inl (List.mem_of_getElem? (i := 0) rfl))
  replace E_sb : Exa Z h20 sb "java/lang/StringBuilder" := E_sb.wr W20
  replace F_value_sb : Fld Z h20 sb "java/lang/AbstractStringBuilder" "value" "[B" (.ref t) := F_value_sb.other W20 (Or.inl (Ne.symm ne_xs_sb))
  replace F_coder_sb : Fld Z h20 sb "java/lang/AbstractStringBuilder" "coder" "B" (.int (0 : Int32)) := F_coder_sb.other W20 (Or.inl (Ne.symm ne_xs_sb))
  replace F_count_sb : Fld Z h20 sb "java/lang/AbstractStringBuilder" "count" "I" (.int (16 : Int32)) := F_count_sb.other W20 (Or.inl (Ne.symm ne_xs_sb))
  replace V_t : Arv Z h20 t kb .byte (16 : Int32) vs (.int (0 : Int32)) := V_t.other W20 ne_t_xs
  replace E_t : Exa Z h20 t "[B" := E_t.wr W20
  replace E_xs : Exa Z h20 xs "java/lang/String" := E_xs.wr W20
  replace F_value_xs : Fld Z h20 xs "java/lang/String" "value" "[B" (.ref tn_17) := F_value_xs.same W20
  replace F_coder_xs : Fld Z h20 xs "java/lang/String" "coder" "B" (.int (0 : Int32)) := F_coder_xs.other W20 (Or.inr (slot_ne (Or.inr (ww hw 27 rfl)) (Or.inr (ww hw 29 rfl)) (by decide) (t := .byte) (t' := (.array .byte)) (by decide) (by decide)))
  replace OL : Old Z n0 h20 := OL.wr W20 g_xs
  replace V_tn_17 : Arv Z h20 tn_17 kb .byte (16 : Int32) vs (.int (0 : Int32)) := V_tn_17.other W20 (Ne.symm ne_xs_tn_17)
  have P22 : ∀ tt_, GG p e below T20 (mkF m 97 #[.val (.ref xs), .val (.ref sb), .val .null, .val (.ref t), .val (.int (16 : Int32))] []) tt_ → Steps p.tables e below s0 tt_ := fun tt_ kk_ => P21 tt_ (by
    refine XS.goto X20.here hx rfl (pc0 := 38) (pc' := 97) rfl (hb hby d_init4_38) (by decide) (by decide) ?_
    exact kk_)
  subst hs0
  obtain ⟨fs, hr, hrun, hended, hW, hsame⟩ := X20.leave (v := none) (fun _ => rfl)
  refine ⟨_, _, P22 _ ?_, hrun, hended, _, _, rfl, ?_, ⟨_, rfl⟩, hW, hsame.mono (by decide) (by decide)⟩
  · show GG p e below T20 (mkF m 97 #[.val (.ref xs), .val (.ref sb), .val .null, .val (.ref t), .val (.int (16 : Int32))] []) _
    exact X20.returnOut hx Bd.returns (hb hby d_init4_97) hr
  · show Q_sInitA Z xs sb t kb vs u1 u2 G1 h0 n0 _ T20.heap _
    rw [e20]
    exact ⟨tn_17, rfl, N20, K20, sz_tn_17, E_xs, F_value_xs, F_coder_xs, V_tn_17⟩
theorem ef_sInitB (m : MethodId) (x0 : Addr) (x1 : Addr) : entryFrame m #[(.ref x0), (.ref x1)] 2 = mkF m 0 #[.val (.ref x0), .val (.ref x1)] [] := by first | (simp [entryFrame, mkF, argsToLocals, Value.category]; done) | rfl
theorem d_init5_0 : decode jdk_42_method_53_code 0 = .ok (.aload_n 0, 1) := by decide +kernel
theorem d_init5_1 : decode jdk_42_method_53_code 1 = .ok (.aload_n 1, 1) := by decide +kernel
theorem d_init5_2 : decode jdk_42_method_53_code 2 = .ok (.aconst_null, 1) := by decide +kernel
theorem pd_13 : parseMethodDescriptor "(Ljava/lang/AbstractStringBuilder;Ljava/lang/Void;)V" = some ⟨[(.object "java/lang/AbstractStringBuilder"), (.object "java/lang/Void")], none⟩ := by decide +kernel
theorem d_init5_3 : decode jdk_42_method_53_code 3 = .ok (.invokespecial 489, 3) := by decide +kernel
abbrev mn_16 : MethodName := ⟨"java/lang/String", "<init>", "(Ljava/lang/AbstractStringBuilder;Ljava/lang/Void;)V"⟩
theorem d_init5_6 : decode jdk_42_method_53_code 6 = .ok (.return_, 1) := by decide +kernel
def Q_sInitB (Z : State) (xs : Addr) (sb : Addr) (t : Addr) (kb : ClassId) (vs : List Value) (u1 : Value) (u2 : Value) (G1 : Int32) (h0 : Heap) (n0 : Nat) (v : Option Value) (h : Heap) (L : List Loc) : Prop := ∃ (tn : Addr), v = none ∧ Fr n0 L ∧ Keep h0 h [xs] ∧ (h0.size ≤ tn) ∧ (Exa Z h xs "java/lang/String") ∧ (Fld Z h xs "java/lang/String" "value" "[B" (.ref tn)) ∧ (Fld Z h xs "java/lang/String" "coder" "B" (.int (0 : Int32))) ∧ (Arv Z h tn kb .byte (16 : Int32) vs (.int (0 : Int32)))
set_option maxRecDepth 65536 in
set_option maxHeartbeats 40000000 in
theorem rm_sInitB (l : Launch) (Z : State) (a0 : Array Value) (hw : ∀ d ∈ tables_1, d.before a0 Z = true) (ws : List Jvm.Cond) (xs : Addr) (sb : Addr) (t : Addr) (kb : ClassId) (vs : List Value) (u1 : Value) (u2 : Value) (G1 : Int32) (h0 : Heap) (n0 : Nat) (Z0 : n0 ≤ h0.size) (E_sb : Exa Z h0 sb "java/lang/StringBuilder") (F_value_sb : Fld Z h0 sb "java/lang/AbstractStringBuilder" "value" "[B" (.ref t)) (F_coder_sb : Fld Z h0 sb "java/lang/AbstractStringBuilder" "coder" "B" (.int (0 : Int32))) (F_count_sb : Fld Z h0 sb "java/lang/AbstractStringBuilder" "count" "I" (.int (16 : Int32))) (V_t : Arv Z h0 t kb .byte (16 : Int32) vs (.int (0 : Int32))) (E_t : Exa Z h0 t "[B") (E_xs : Exa Z h0 xs "java/lang/String") (F_value_xs : Fld Z h0 xs "java/lang/String" "value" "[B" u1) (F_coder_xs : Fld Z h0 xs "java/lang/String" "coder" "B" u2) (g_xs : n0 ≤ xs) (ne_xs_sb : xs ≠ sb) (ne_t_xs : t ≠ xs) (S_COMPACT_STRINGS : Sta Z Z.heap "java/lang/String" "COMPACT_STRINGS" "Z" (.int G1)) (OL : Old Z n0 h0) (hz : ¬ G1 = 0) :
    MetFree l (⟨"java/lang/String", "<init>", "(Ljava/lang/StringBuilder;)V"⟩ : MethodName) (head1 (Jvm.Cond.code (⟨"java/lang/String", "<init>", "(Ljava/lang/StringBuilder;)V"⟩ : MethodName) jdk_42_method_53_code 2 none :: ws) ({ frames := 3, cells := 1, slots := 16, locals := 45 } : Room)) (fun a U => a = #[(.ref xs), (.ref sb)] ∧ Z.Warmed39 U.vm ∧ U.heap = h0) (fun _ _ _ _ _ => True) (fun _ U o U' => ∃ v L, o = .returned v ∧ Q_sInitB Z xs sb t kb vs u1 u2 G1 h0 n0 v U'.heap L ∧ FrameEnd U o U' L ({ frames := 3, cells := 1, slots := 16, locals := 45 } : Room).cells ({ frames := 3, cells := 1, slots := 16, locals := 45 } : Room).slots) := by
  refine MetFree.of_bodySF (plainFor_of_name pn_1) hisR ?_
  intro p e s m args below meth c s₁ Bd hml0 hP hK
  obtain ⟨rfl, hZ, hh⟩ := hP
  have hx := Bd.exec
  have hby := Bd.bytes
  have hml : c.maxLocals = 2 := hml0
  have hown : s.vm.findClass "java/lang/String" = some m.cls := findClass_of_methodNamed Bd.named
  have hnm := (name_of_methodNamed Bd.named Bd.method).1
  have X0 : Stand p l e ({ frames := 3, cells := 1, slots := 16, locals := 45 } : Room) s m #[(.ref xs), (.ref sb)] below meth c s₁ [] 0 0 := Stand.of_body Bd
  have e0 : s₁.heap = h0 := by rw [← hh, Bd.state]; rfl
  have N0 := Fr.nil n0
  obtain ⟨s0, hs0⟩ : ∃ z, z = (s₁.setTop (entryFrame m #[(.ref xs), (.ref sb)] 2)) := ⟨_, rfl⟩
  have P0 : ∀ tt_, GG p e below s₁ (mkF m 0 #[.val (.ref xs), .val (.ref sb)] []) tt_ → Steps p.tables e below s0 tt_ := fun tt_ kk_ => by rw [hs0]; exact castTop (ef_sInitB m xs sb) kk_
  have P1 : ∀ tt_, GG p e below s₁ (mkF m 3 #[.val (.ref xs), .val (.ref sb)] [.null, (.ref sb), (.ref xs)]) tt_ → Steps p.tables e below s0 tt_ := fun tt_ kk_ => P0 tt_ (by
    refine XS.aloadN X0.here hx rfl (hb hby d_init5_0) rfl rfl ?_
    refine XS.aloadN X0.here hx rfl (hb hby d_init5_1) rfl rfl ?_
    refine XS.aconstNull X0.here hx rfl (hb hby d_init5_2) ?_
    exact kk_)
  obtain ⟨_, _, ⟨T2, L2, k2, n2⟩, -, X2, ⟨Lc2, hQ2, l2, y2, z2⟩, st2⟩ := X0.specialBack hx (y := mn_16) rfl hown (mw hZ hw 196 rfl) (mw hZ hw 197 rfl) (mw hZ hw 198 rfl) (by decide) (backOf (W := 0) (rm_sInitA l Z a0 hw [] xs sb t kb vs u1 u2 G1 h0 n0 (Nat.le_trans Z0 (Nat.le_refl h0.size)) E_sb F_value_sb F_coder_sb F_count_sb V_t E_t E_xs F_value_xs F_coder_xs g_xs ne_xs_sb ne_t_xs S_COMPACT_STRINGS OL hz) hZ (ww hw 198 rfl) (ww hw 2 rfl) (by decide) (by decide)) (g := (mkF m 3 #[.val (.ref xs), .val (.ref sb)] [.null, (.ref sb), (.ref xs)])) rfl (by rw [hml]; rfl) (Steps.refl _) (a := xs) (argsL := [(.ref sb), .null]) (rest := []) (lenOf pd_13 rfl) rfl (by show 2 * 0 + _ ≤ _; exact Nat.le_of_eq rfl) (hb hby d_init5_3) (fun _ _ => ⟨rfl, e0, (by decide : 0 + 1 ≤ _), (by decide : 0 + 16 ≤ _)⟩)
  dsimp only [Pt.U, Pt.locs, Pt.cells, Pt.slots] at X2 l2 y2 z2 st2 hQ2
  subst l2 y2 z2
  obtain ⟨tn_2, rfl, N2q, Kc2, po2_0, po2_1, po2_2, po2_3, po2_4⟩ := hQ2
  have N2 := Fr.app N0 N2q
  obtain ⟨Lf3, X2, N3⟩ : ∃ Lf, Stand p l e ({ frames := 3, cells := 1, slots := 16, locals := 45 } : Room) s m #[(.ref xs), (.ref sb)] below meth c T2 Lf 1 16 ∧ Fr n0 Lf := ⟨_, X2, N2⟩
  have P4 : ∀ tt_, GG p e below T2 (mkF m 6 #[.val (.ref xs), .val (.ref sb)] []) tt_ → Steps p.tables e below s0 tt_ := fun tt_ kk_ => P1 tt_ (st2.trans kk_)
  have ne_sb_tn_2 : sb ≠ tn_2 := Nat.ne_of_lt (Nat.lt_of_lt_of_le E_sb.lt po2_0)
  have ne_t_tn_2 : t ≠ tn_2 := Nat.ne_of_lt (Nat.lt_of_lt_of_le V_t.lt po2_0)
  have ne_xs_tn_2 : xs ≠ tn_2 := Nat.ne_of_lt (Nat.lt_of_lt_of_le E_xs.lt po2_0)
  have sz_tn_2 : h0.size ≤ tn_2 := Nat.le_trans (Nat.le_refl h0.size) po2_0
  replace E_sb : Exa Z T2.heap sb "java/lang/StringBuilder" := E_sb.keep Kc2
  replace F_value_sb : Fld Z T2.heap sb "java/lang/AbstractStringBuilder" "value" "[B" (.ref t) := F_value_sb.keep Kc2 (ninS (Ne.symm ne_xs_sb) nin0)
  replace F_coder_sb : Fld Z T2.heap sb "java/lang/AbstractStringBuilder" "coder" "B" (.int (0 : Int32)) := F_coder_sb.keep Kc2 (ninS (Ne.symm ne_xs_sb) nin0)
  replace F_count_sb : Fld Z T2.heap sb "java/lang/AbstractStringBuilder" "count" "I" (.int (16 : Int32)) := F_count_sb.keep Kc2 (ninS (Ne.symm ne_xs_sb) nin0)
  replace V_t : Arv Z T2.heap t kb .byte (16 : Int32) vs (.int (0 : Int32)) := V_t.keep Kc2 (ninS ne_t_xs nin0)
  replace E_t : Exa Z T2.heap t "[B" := E_t.keep Kc2
  replace E_xs : Exa Z T2.heap xs "java/lang/String" := E_xs.keep Kc2
  replace OL : Old Z n0 T2.heap := OL.keep Kc2 (allS g_xs all0)
  have K2 : Keep h0 T2.heap [xs] := (Keep.refl h0 [xs]).trans Kc2 (allS (P := fun x => x ∈ [xs] ∨ h0.size ≤ x) (Or.inl (List.mem_of_getElem? (i := 0) rfl)) all0)
  have E_xs : Exa Z T2.heap xs "java/lang/String" := po2_1
  have F_value_xs : Fld Z T2.heap xs "java/lang/String" "value" "[B" (.ref tn_2) := po2_2
  have F_coder_xs : Fld Z T2.heap xs "java/lang/String" "coder" "B" (.int (0 : Int32)) := po2_3
  have V_tn_2 : Arv Z T2.heap tn_2 kb .byte (16 : Int32) vs (.int (0 : Int32)) := po2_4
  subst hs0
  obtain ⟨fs, hr, hrun, hended, hW, hsame⟩ := X2.leave (v := none) (fun _ => rfl)
  refine ⟨_, _, P4 _ ?_, hrun, hended, _, _, rfl, ?_, ⟨_, rfl⟩, hW, hsame.mono (by decide) (by decide)⟩
  · show GG p e below T2 (mkF m 6 #[.val (.ref xs), .val (.ref sb)] []) _
    exact X2.returnOut hx Bd.returns (hb hby d_init5_6) hr
  · show Q_sInitB Z xs sb t kb vs u1 u2 G1 h0 n0 _ T2.heap _
    exact ⟨tn_2, rfl, N3, K2, sz_tn_2, E_xs, F_value_xs, F_coder_xs, V_tn_2⟩
theorem ef_sbStr (m : MethodId) (x0 : Addr) : entryFrame m #[(.ref x0)] 1 = mkF m 0 #[.val (.ref x0)] [] := by first | (simp [entryFrame, mkF, argsToLocals, Value.category]; done) | rfl
theorem d_toString_0 : decode jdk_67_method_42_code 0 = .ok (.new 18, 3) := by decide +kernel
theorem d_toString_3 : decode jdk_67_method_42_code 3 = .ok (.dup, 1) := by decide +kernel
theorem d_toString_4 : decode jdk_67_method_42_code 4 = .ok (.aload_n 0, 1) := by decide +kernel
theorem pd_14 : parseMethodDescriptor "(Ljava/lang/StringBuilder;)V" = some ⟨[(.object "java/lang/StringBuilder")], none⟩ := by decide +kernel
theorem d_toString_5 : decode jdk_67_method_42_code 5 = .ok (.invokespecial 137, 3) := by decide +kernel
abbrev mn_17 : MethodName := ⟨"java/lang/String", "<init>", "(Ljava/lang/StringBuilder;)V"⟩
theorem d_toString_8 : decode jdk_67_method_42_code 8 = .ok (.areturn, 1) := by decide +kernel
def Q_sbStr (Z : State) (sb : Addr) (t : Addr) (kb : ClassId) (vs : List Value) (G1 : Int32) (h0 : Heap) (n0 : Nat) (v : Option Value) (h : Heap) (L : List Loc) : Prop := ∃ (xs : Addr) (tn : Addr), v = some (.ref xs) ∧ Fr n0 L ∧ Keep h0 h [] ∧ (h0.size ≤ xs) ∧ (h0.size ≤ tn) ∧ (Exa Z h xs "java/lang/String") ∧ (Fld Z h xs "java/lang/String" "value" "[B" (.ref tn)) ∧ (Fld Z h xs "java/lang/String" "coder" "B" (.int (0 : Int32))) ∧ (Arv Z h tn kb .byte (16 : Int32) vs (.int (0 : Int32)))
set_option maxRecDepth 65536 in
set_option maxHeartbeats 40000000 in
theorem rm_sbStr (l : Launch) (Z : State) (a0 : Array Value) (hw : ∀ d ∈ tables_1, d.before a0 Z = true) (ws : List Jvm.Cond) (sb : Addr) (t : Addr) (kb : ClassId) (vs : List Value) (G1 : Int32) (h0 : Heap) (n0 : Nat) (Z0 : n0 ≤ h0.size) (E_sb : Exa Z h0 sb "java/lang/StringBuilder") (F_value_sb : Fld Z h0 sb "java/lang/AbstractStringBuilder" "value" "[B" (.ref t)) (F_coder_sb : Fld Z h0 sb "java/lang/AbstractStringBuilder" "coder" "B" (.int (0 : Int32))) (F_count_sb : Fld Z h0 sb "java/lang/AbstractStringBuilder" "count" "I" (.int (16 : Int32))) (V_t : Arv Z h0 t kb .byte (16 : Int32) vs (.int (0 : Int32))) (E_t : Exa Z h0 t "[B") (S_COMPACT_STRINGS : Sta Z Z.heap "java/lang/String" "COMPACT_STRINGS" "Z" (.int G1)) (OL : Old Z n0 h0) (hz : ¬ G1 = 0) :
    MetFree l (⟨"java/lang/StringBuilder", "toString", "()Ljava/lang/String;"⟩ : MethodName) (head1 (Jvm.Cond.code (⟨"java/lang/StringBuilder", "toString", "()Ljava/lang/String;"⟩ : MethodName) jdk_67_method_42_code 1 (some (.object "java/lang/String")) :: ws) ({ frames := 4, cells := 2, slots := 20, locals := 59 } : Room)) (fun a U => a = #[(.ref sb)] ∧ Z.Warmed39 U.vm ∧ U.heap = h0) (fun _ _ _ _ _ => True) (fun _ U o U' => ∃ v L, o = .returned v ∧ Q_sbStr Z sb t kb vs G1 h0 n0 v U'.heap L ∧ FrameEnd U o U' L ({ frames := 4, cells := 2, slots := 20, locals := 59 } : Room).cells ({ frames := 4, cells := 2, slots := 20, locals := 59 } : Room).slots) := by
  refine MetFree.of_bodySF (plainFor_of_name pn_3) hisR ?_
  intro p e s m args below meth c s₁ Bd hml0 hP hK
  obtain ⟨rfl, hZ, hh⟩ := hP
  have hx := Bd.exec
  have hby := Bd.bytes
  have hml : c.maxLocals = 1 := hml0
  have hown : s.vm.findClass "java/lang/StringBuilder" = some m.cls := findClass_of_methodNamed Bd.named
  have hnm := (name_of_methodNamed Bd.named Bd.method).1
  have X0 : Stand p l e ({ frames := 4, cells := 2, slots := 20, locals := 59 } : Room) s m #[(.ref sb)] below meth c s₁ [] 0 0 := Stand.of_body Bd
  have e0 : s₁.heap = h0 := by rw [← hh, Bd.state]; rfl
  have N0 := Fr.nil n0
  obtain ⟨s0, hs0⟩ : ∃ z, z = (s₁.setTop (entryFrame m #[(.ref sb)] 1)) := ⟨_, rfl⟩
  have P0 : ∀ tt_, GG p e below s₁ (mkF m 0 #[.val (.ref sb)] []) tt_ → Steps p.tables e below s0 tt_ := fun tt_ kk_ => by rw [hs0]; exact castTop (ef_sbStr m sb) kk_
  obtain ⟨T1, h1, X1, e1, E1, A1, D1, -, st1⟩ := newO X0 hx hZ hown (ww hw 192 rfl) (ww hw 1 rfl) (ww hw 2 rfl) e0 (g := (mkF m 0 #[.val (.ref sb)] [])) rfl (hb hby d_toString_0) (by decide) (by decide)
  obtain ⟨b1, g1⟩ : ∃ z, z = h0.size := ⟨_, rfl⟩
  rw [← g1] at A1 D1 st1
  have P2 : ∀ tt_, GG p e below T1 (mkF m 3 #[.val (.ref sb)] [(.ref b1)]) tt_ → Steps p.tables e below s0 tt_ := fun tt_ kk_ => P0 tt_ (st1 _ kk_)
  have ne_sb_b1 : sb ≠ b1 := Nat.ne_of_lt (Nat.lt_of_lt_of_le E_sb.lt (Nat.le_of_eq g1.symm))
  have ne_t_b1 : t ≠ b1 := Nat.ne_of_lt (Nat.lt_of_lt_of_le V_t.lt (Nat.le_of_eq g1.symm))
  have sz_b1 : h0.size ≤ b1 := Nat.le_trans (Nat.le_refl h0.size) (Nat.le_of_eq g1.symm)
  replace E_sb : Exa Z h1 sb "java/lang/StringBuilder" := E_sb.ext E1
  replace F_value_sb : Fld Z h1 sb "java/lang/AbstractStringBuilder" "value" "[B" (.ref t) := F_value_sb.ext E1
  replace F_coder_sb : Fld Z h1 sb "java/lang/AbstractStringBuilder" "coder" "B" (.int (0 : Int32)) := F_coder_sb.ext E1
  replace F_count_sb : Fld Z h1 sb "java/lang/AbstractStringBuilder" "count" "I" (.int (16 : Int32)) := F_count_sb.ext E1
  replace V_t : Arv Z h1 t kb .byte (16 : Int32) vs (.int (0 : Int32)) := V_t.ext E1
  replace E_t : Exa Z h1 t "[B" := E_t.ext E1
  replace OL : Old Z n0 h1 := OL.ext E1
  have K1 : Keep h0 h1 [] := (Keep.refl h0 []).ext E1
  obtain ⟨Lf3, X1, N3⟩ : ∃ Lf, Stand p l e ({ frames := 4, cells := 2, slots := 20, locals := 59 } : Room) s m #[(.ref sb)] below meth c T1 Lf 1 4 ∧ Fr n0 Lf := ⟨_, X1, N0⟩
  have E_b1 : Exa Z h1 b1 "java/lang/String" := A1
  have F_coder_b1 : Fld Z h1 b1 "java/lang/String" "coder" "B" (.int (0 : Int32)) := D1 (Or.inr (ww hw 27 rfl)) (ty := .byte) (by decide)
  have F_value_b1 : Fld Z h1 b1 "java/lang/String" "value" "[B" .null := D1 (Or.inr (ww hw 29 rfl)) (ty := (.array .byte)) (by decide)
  have P4 : ∀ tt_, GG p e below T1 (mkF m 5 #[.val (.ref sb)] [(.ref sb), (.ref b1), (.ref b1)]) tt_ → Steps p.tables e below s0 tt_ := fun tt_ kk_ => P2 tt_ (by
    refine XS.dup X1.here hx rfl (hb hby d_toString_3) rfl rfl ?_
    refine XS.aloadN X1.here hx rfl (hb hby d_toString_4) rfl rfl ?_
    exact kk_)
  obtain ⟨_, _, ⟨T5, L5, k5, n5⟩, -, X5, ⟨Lc5, hQ5, l5, y5, z5⟩, st5⟩ := X1.specialBack hx (y := mn_17) rfl hown (mw hZ hw 193 rfl) (mw hZ hw 194 rfl) (mw hZ hw 195 rfl) (by decide) (backOf (W := 1) (rm_sInitB l Z a0 hw [] b1 sb t kb vs .null (.int (0 : Int32)) G1 h1 n0 (Nat.le_trans Z0 K1.1) E_sb F_value_sb F_coder_sb F_count_sb V_t E_t E_b1 F_value_b1 F_coder_b1 (Nat.le_trans Z0 sz_b1) (Ne.symm ne_sb_b1) ne_t_b1 S_COMPACT_STRINGS OL hz) hZ (ww hw 195 rfl) (ww hw 2 rfl) (by decide) (by decide)) (g := (mkF m 5 #[.val (.ref sb)] [(.ref sb), (.ref b1), (.ref b1)])) rfl (by rw [hml]; rfl) (Steps.refl _) (a := b1) (argsL := [(.ref sb)]) (rest := [(.ref b1)]) (lenOf pd_14 rfl) rfl (by show 2 * 0 + _ ≤ _; exact Nat.le_of_eq rfl) (hb hby d_toString_5) (fun _ _ => ⟨rfl, e1, (by decide : 1 + 1 ≤ _), (by decide : 4 + 16 ≤ _)⟩)
  dsimp only [Pt.U, Pt.locs, Pt.cells, Pt.slots] at X5 l5 y5 z5 st5 hQ5
  subst l5 y5 z5
  obtain ⟨tn_5, rfl, N5q, Kc5, po5_0, po5_1, po5_2, po5_3, po5_4⟩ := hQ5
  have N5 := Fr.app N3 N5q
  obtain ⟨Lf6, X5, N6⟩ : ∃ Lf, Stand p l e ({ frames := 4, cells := 2, slots := 20, locals := 59 } : Room) s m #[(.ref sb)] below meth c T5 Lf 2 20 ∧ Fr n0 Lf := ⟨_, X5, N5⟩
  have P7 : ∀ tt_, GG p e below T5 (mkF m 8 #[.val (.ref sb)] [(.ref b1)]) tt_ → Steps p.tables e below s0 tt_ := fun tt_ kk_ => P4 tt_ (st5.trans kk_)
  have ne_sb_tn_5 : sb ≠ tn_5 := Nat.ne_of_lt (Nat.lt_of_lt_of_le E_sb.lt po5_0)
  have ne_t_tn_5 : t ≠ tn_5 := Nat.ne_of_lt (Nat.lt_of_lt_of_le V_t.lt po5_0)
  have ne_b1_tn_5 : b1 ≠ tn_5 := Nat.ne_of_lt (Nat.lt_of_lt_of_le E_b1.lt po5_0)
  have sz_tn_5 : h0.size ≤ tn_5 := Nat.le_trans K1.1 po5_0
  replace E_sb : Exa Z T5.heap sb "java/lang/StringBuilder" := E_sb.keep Kc5
  replace F_value_sb : Fld Z T5.heap sb "java/lang/AbstractStringBuilder" "value" "[B" (.ref t) := F_value_sb.keep Kc5 (ninS ne_sb_b1 nin0)
  replace F_coder_sb : Fld Z T5.heap sb "java/lang/AbstractStringBuilder" "coder" "B" (.int (0 : Int32)) := F_coder_sb.keep Kc5 (ninS ne_sb_b1 nin0)
  replace F_count_sb : Fld Z T5.heap sb "java/lang/AbstractStringBuilder" "count" "I" (.int (16 : Int32)) := F_count_sb.keep Kc5 (ninS ne_sb_b1 nin0)
  replace V_t : Arv Z T5.heap t kb .byte (16 : Int32) vs (.int (0 : Int32)) := V_t.keep Kc5 (ninS ne_t_b1 nin0)
  replace E_t : Exa Z T5.heap t "[B" := E_t.keep Kc5
  replace OL : Old Z n0 T5.heap := OL.keep Kc5 (allS (Nat.le_trans Z0 sz_b1) all0)
  replace E_b1 : Exa Z T5.heap b1 "java/lang/String" := E_b1.keep Kc5
  have K5 : Keep h0 T5.heap [] := K1.trans Kc5 (allS (P := fun x => x ∈ [] ∨ h0.size ≤ x) (Or.inr sz_b1) all0)
  have E_b1 : Exa Z T5.heap b1 "java/lang/String" := po5_1
  have F_value_b1 : Fld Z T5.heap b1 "java/lang/String" "value" "[B" (.ref tn_5) := po5_2
  have F_coder_b1 : Fld Z T5.heap b1 "java/lang/String" "coder" "B" (.int (0 : Int32)) := po5_3
  have V_tn_5 : Arv Z T5.heap tn_5 kb .byte (16 : Int32) vs (.int (0 : Int32)) := po5_4
  subst hs0
  obtain ⟨fs, hr, hrun, hended, hW, hsame⟩ := X5.leave (v := some (.ref b1)) (fun h => by rw [Bd.returns] at h; cases h)
  refine ⟨_, _, P7 _ ?_, hrun, hended, _, _, rfl, ?_, ⟨_, rfl⟩, hW, hsame.mono (by decide) (by decide)⟩
  · show GG p e below T5 (mkF m 8 #[.val (.ref sb)] [(.ref b1)]) _
    jvm_step X5.here [X5.here.top, hx, (hb hby d_toString_8), X5.method', Bd.returns, Value.isRef, FieldType.isReference]
    first | (intro acts; rw [hr _ acts rfl rfl rfl]) | rw [hr _ _ rfl rfl rfl]
    exact Steps.refl _
  · show Q_sbStr Z sb t kb vs G1 h0 n0 _ T5.heap _
    exact ⟨b1, tn_5, rfl, N6, K5, sz_b1, sz_tn_5, E_b1, F_value_b1, F_coder_b1, V_tn_5⟩
abbrev ELs : List (String × Nat) := [("com/example/ngazi/ngazi/cli/CommandOption", 54), ("com/example/ngazi/ngazi/cli/CommandOption", 56)]
theorem own_wS {a0 : Array Value} {Z : State} (hw : ∀ d ∈ tables_1, d.before a0 Z = true) : ∀ d ∈ Bundle.stringAtoms, d.before a0 Z = true := fun d hd => hw d ((by decide +kernel : ∀ d ∈ Bundle.stringAtoms, d ∈ tables_1) d hd)
theorem own_wNew {a0 : Array Value} {Z : State} (hw : ∀ d ∈ tables_1, d.before a0 Z = true) : ∀ d ∈ StrChars.Road.words, d.before a0 Z = true := fun d hd => hw d ((by decide +kernel : ∀ d ∈ StrChars.Road.words, d ∈ tables_1) d hd)
theorem own_wEq {a0 : Array Value} {Z : State} (hw : ∀ d ∈ tables_1, d.before a0 Z = true) : ∀ d ∈ StrChars.Road.wordsEq, d.before a0 Z = true := fun d hd => hw d ((by decide +kernel : ∀ d ∈ StrChars.Road.wordsEq, d ∈ tables_1) d hd)
theorem own_l8 (x : Int32) : ∃ z : Int32, (¬ z < 0 ∧ ¬ (255 : Int32) < z) ∧ nar .char z = z ∧ ((x &&& (255 : Int32)).toUInt32.toUInt16.toUInt32.toInt32) = z := by
  have t : ∀ k : Fin 256, (¬ ((Int32.ofNat k.val).toUInt32.toUInt16.toUInt32.toInt32) < 0 ∧ ¬ (255 : Int32) < ((Int32.ofNat k.val).toUInt32.toUInt16.toUInt32.toInt32)) ∧ nar .char ((Int32.ofNat k.val).toUInt32.toUInt16.toUInt32.toInt32) = ((Int32.ofNat k.val).toUInt32.toUInt16.toUInt32.toInt32) := by decide +kernel
  have h : (x &&& 255).toBitVec.toNat < 256 := by
    simp only [Int32.toBitVec_and, BitVec.toNat_and]
    exact Nat.lt_succ_of_le Nat.and_le_right
  have e : (x &&& 255) = Int32.ofNat (x &&& 255).toBitVec.toNat := by
    apply Int32.toBitVec_inj.mp
    show _ = BitVec.ofNat 32 _
    rw [BitVec.ofNat_toNat]; simp
  rw [e]
  exact ⟨_, (t ⟨_, h⟩).1, (t ⟨_, h⟩).2, rfl⟩
theorem own_up (cs : List Int32) (h : ∀ c ∈ cs, ¬ c < 0 ∧ ¬ (255 : Int32) < c) : ∀ c ∈ cs, ¬ c < 0 ∧ ¬ (65535 : Int32) < c := fun c hc => ⟨(h c hc).1, fun q => (h c hc).2 (by rw [Int32.lt_iff_toInt_lt] at q ⊢; have e1 : (65535 : Int32).toInt = 65535 := rfl; have e2 : (255 : Int32).toInt = 255 := rfl; omega)⟩

theorem ef_requireNonNull (m : MethodId) (x0 : Addr) (x1 : Addr) : entryFrame m #[(.ref x0), (.ref x1)] 2 = mkF m 0 #[.val (.ref x0), .val (.ref x1)] [] := by first | (simp [entryFrame, mkF, argsToLocals, Value.category]; done) | rfl
theorem pn_5 : plainName "java/util/Objects" = true := by first | (simp [plainName, overriddenIn]; done) | decide +kernel
theorem d_requireNonNull_0 : decode jdk_31_method_11_code 0 = .ok (.aload_n 0, 1) := by decide +kernel
theorem d_requireNonNull_1 : decode jdk_31_method_11_code 1 = .ok (.ifnonnull 12, 3) := by decide +kernel
theorem d_requireNonNull_13 : decode jdk_31_method_11_code 13 = .ok (.aload_n 0, 1) := by decide +kernel
theorem d_requireNonNull_14 : decode jdk_31_method_11_code 14 = .ok (.areturn, 1) := by decide +kernel
def Q_requireNonNull (Z : State) (ao : Addr) (am : Addr) (h0 : Heap) (n0 : Nat) (v : Option Value) (h : Heap) (L : List Loc) : Prop := v = some (.ref ao) ∧ Fr n0 L ∧ h = h0
set_option maxRecDepth 65536 in
set_option maxHeartbeats 40000000 in
theorem rm_requireNonNull (l : Launch) (Z : State) (a0 : Array Value) (hw : ∀ d ∈ tables_1, d.before a0 Z = true) (ws : List Jvm.Cond) (ao : Addr) (am : Addr) (h0 : Heap) (n0 : Nat) (Z0 : n0 ≤ h0.size) :
    MetFree l (⟨"java/util/Objects", "requireNonNull", "(Ljava/lang/Object;Ljava/lang/String;)Ljava/lang/Object;"⟩ : MethodName) (head1 (Jvm.Cond.code (⟨"java/util/Objects", "requireNonNull", "(Ljava/lang/Object;Ljava/lang/String;)Ljava/lang/Object;"⟩ : MethodName) jdk_31_method_11_code 2 (some (.object "java/lang/Object")) :: ws) ({ frames := 0, cells := 0, slots := 0, locals := 0 } : Room)) (fun a U => a = #[(.ref ao), (.ref am)] ∧ Z.Warmed39 U.vm ∧ U.heap = h0) (fun _ _ _ _ _ => True) (fun _ U o U' => ∃ v L, o = .returned v ∧ Q_requireNonNull Z ao am h0 n0 v U'.heap L ∧ FrameEnd U o U' L ({ frames := 0, cells := 0, slots := 0, locals := 0 } : Room).cells ({ frames := 0, cells := 0, slots := 0, locals := 0 } : Room).slots) := by
  refine MetFree.of_bodySF (plainFor_of_name pn_5) hisR ?_
  intro p e s m args below meth c s₁ Bd hml0 hP hK
  obtain ⟨rfl, hZ, hh⟩ := hP
  have hx := Bd.exec
  have hby := Bd.bytes
  have hml : c.maxLocals = 2 := hml0
  have hown : s.vm.findClass "java/util/Objects" = some m.cls := findClass_of_methodNamed Bd.named
  have hnm := (name_of_methodNamed Bd.named Bd.method).1
  have X0 : Stand p l e ({ frames := 0, cells := 0, slots := 0, locals := 0 } : Room) s m #[(.ref ao), (.ref am)] below meth c s₁ [] 0 0 := Stand.of_body Bd
  have e0 : s₁.heap = h0 := by rw [← hh, Bd.state]; rfl
  have N0 := Fr.nil n0
  obtain ⟨s0, hs0⟩ : ∃ z, z = (s₁.setTop (entryFrame m #[(.ref ao), (.ref am)] 2)) := ⟨_, rfl⟩
  have P0 : ∀ tt_, GG p e below s₁ (mkF m 0 #[.val (.ref ao), .val (.ref am)] []) tt_ → Steps p.tables e below s0 tt_ := fun tt_ kk_ => by rw [hs0]; exact castTop (ef_requireNonNull m ao am) kk_
  have P1 : ∀ tt_, GG p e below s₁ (mkF m 14 #[.val (.ref ao), .val (.ref am)] [(.ref ao)]) tt_ → Steps p.tables e below s0 tt_ := fun tt_ kk_ => P0 tt_ (by
    refine XS.aloadN X0.here hx rfl (hb hby d_requireNonNull_0) rfl rfl ?_
    refine XS.ifnonnullYes X0.here hx rfl (pc0 := 1) (pc' := 13) rfl (hb hby d_requireNonNull_1) rfl (by decide) (by decide) ?_
    refine XS.aloadN X0.here hx rfl (hb hby d_requireNonNull_13) rfl rfl ?_
    exact kk_)
  subst hs0
  obtain ⟨fs, hr, hrun, hended, hW, hsame⟩ := X0.leave (v := some (.ref ao)) (fun h => by rw [Bd.returns] at h; cases h)
  refine ⟨_, _, P1 _ ?_, hrun, hended, _, _, rfl, ?_, ⟨_, rfl⟩, hW, hsame.mono (by decide) (by decide)⟩
  · show GG p e below s₁ (mkF m 14 #[.val (.ref ao), .val (.ref am)] [(.ref ao)]) _
    jvm_step X0.here [X0.here.top, hx, (hb hby d_requireNonNull_14), X0.method', Bd.returns, Value.isRef, FieldType.isReference]
    first | (intro acts; rw [hr _ acts rfl rfl rfl]) | rw [hr _ _ rfl rfl rfl]
    exact Steps.refl _
  · show Q_requireNonNull Z ao am h0 n0 _ s₁.heap _
    rw [e0]
    exact ⟨rfl, N0, rfl⟩
theorem ef_recInit (m : MethodId) (x0 : Addr) : entryFrame m #[(.ref x0)] 1 = mkF m 0 #[.val (.ref x0)] [] := by first | (simp [entryFrame, mkF, argsToLocals, Value.category]; done) | rfl
theorem pn_6 : plainName "java/lang/Record" = true := by first | (simp [plainName, overriddenIn]; done) | decide +kernel
theorem d_init6_0 : decode jdk_30_method_1_code 0 = .ok (.aload_n 0, 1) := by decide +kernel
theorem d_init6_1 : decode jdk_30_method_1_code 1 = .ok (.invokespecial 1, 3) := by decide +kernel
theorem d_init6_4 : decode jdk_30_method_1_code 4 = .ok (.return_, 1) := by decide +kernel
def Q_recInit (Z : State) (ao : Addr) (h0 : Heap) (n0 : Nat) (v : Option Value) (h : Heap) (L : List Loc) : Prop := v = none ∧ Fr n0 L ∧ h = h0
set_option maxRecDepth 65536 in
set_option maxHeartbeats 40000000 in
theorem rm_recInit (l : Launch) (Z : State) (a0 : Array Value) (hw : ∀ d ∈ tables_1, d.before a0 Z = true) (ws : List Jvm.Cond) (ao : Addr) (h0 : Heap) (n0 : Nat) (Z0 : n0 ≤ h0.size) :
    MetFree l (⟨"java/lang/Record", "<init>", "()V"⟩ : MethodName) (head1 (Jvm.Cond.code (⟨"java/lang/Record", "<init>", "()V"⟩ : MethodName) jdk_30_method_1_code 1 none :: ws) ({ frames := 1, cells := 0, slots := 0, locals := 12 } : Room)) (fun a U => a = #[(.ref ao)] ∧ Z.Warmed39 U.vm ∧ U.heap = h0) (fun _ _ _ _ _ => True) (fun _ U o U' => ∃ v L, o = .returned v ∧ Q_recInit Z ao h0 n0 v U'.heap L ∧ FrameEnd U o U' L ({ frames := 1, cells := 0, slots := 0, locals := 12 } : Room).cells ({ frames := 1, cells := 0, slots := 0, locals := 12 } : Room).slots) := by
  refine MetFree.of_bodySF (plainFor_of_name pn_6) hisR ?_
  intro p e s m args below meth c s₁ Bd hml0 hP hK
  obtain ⟨rfl, hZ, hh⟩ := hP
  have hx := Bd.exec
  have hby := Bd.bytes
  have hml : c.maxLocals = 1 := hml0
  have hown : s.vm.findClass "java/lang/Record" = some m.cls := findClass_of_methodNamed Bd.named
  have hnm := (name_of_methodNamed Bd.named Bd.method).1
  have X0 : Stand p l e ({ frames := 1, cells := 0, slots := 0, locals := 12 } : Room) s m #[(.ref ao)] below meth c s₁ [] 0 0 := Stand.of_body Bd
  have e0 : s₁.heap = h0 := by rw [← hh, Bd.state]; rfl
  have N0 := Fr.nil n0
  obtain ⟨s0, hs0⟩ : ∃ z, z = (s₁.setTop (entryFrame m #[(.ref ao)] 1)) := ⟨_, rfl⟩
  have P0 : ∀ tt_, GG p e below s₁ (mkF m 0 #[.val (.ref ao)] []) tt_ → Steps p.tables e below s0 tt_ := fun tt_ kk_ => by rw [hs0]; exact castTop (ef_recInit m ao) kk_
  have P1 : ∀ tt_, GG p e below s₁ (mkF m 1 #[.val (.ref ao)] [(.ref ao)]) tt_ → Steps p.tables e below s0 tt_ := fun tt_ kk_ => P0 tt_ (by
    refine XS.aloadN X0.here hx rfl (hb hby d_init6_0) rfl rfl ?_
    exact kk_)
  obtain ⟨T2, X2, e2, st2⟩ := initO X0 hx hZ hown (ww hw 58 rfl) (ww hw 12 rfl) (ww hw 13 rfl) e0 (g := (mkF m 1 #[.val (.ref ao)] [(.ref ao)])) rfl (by rw [hml]; rfl) rfl (hb hby d_init6_1) (by decide) (W := 0) (by show 2 * 0 + _ ≤ _; exact Nat.le_of_eq rfl) (by decide)
  have P3 : ∀ tt_, GG p e below T2 (mkF m 4 #[.val (.ref ao)] []) tt_ → Steps p.tables e below s0 tt_ := fun tt_ kk_ => P1 tt_ (st2 _ kk_)
  subst hs0
  obtain ⟨fs, hr, hrun, hended, hW, hsame⟩ := X2.leave (v := none) (fun _ => rfl)
  refine ⟨_, _, P3 _ ?_, hrun, hended, _, _, rfl, ?_, ⟨_, rfl⟩, hW, hsame.mono (by decide) (by decide)⟩
  · show GG p e below T2 (mkF m 4 #[.val (.ref ao)] []) _
    exact X2.returnOut hx Bd.returns (hb hby d_init6_4) hr
  · show Q_recInit Z ao h0 n0 _ T2.heap _
    rw [e2]
    exact ⟨rfl, N0, rfl⟩
theorem ef_coInitE (m : MethodId) (x0 : Addr) (x1 : Addr) (x2 : Addr) (x3 : Addr) (x5 : Addr) : entryFrame m #[(.ref x0), (.ref x1), (.ref x2), (.ref x3), (.int (0 : Int32)), (.ref x5), .null] 7 = mkF m 0 #[.val (.ref x0), .val (.ref x1), .val (.ref x2), .val (.ref x3), .val (.int (0 : Int32)), .val (.ref x5), .val .null] [] := by first | (simp [entryFrame, mkF, argsToLocals, Value.category]; done) | rfl
theorem pn_7 : plainName "com/example/ngazi/ngazi/cli/CommandOption" = true := by first | (simp [plainName, overriddenIn]; done) | decide +kernel
theorem d_init7_0 : decode prog_5_method_1_code 0 = .ok (.aload_n 0, 1) := by decide +kernel
theorem pd_15 : parseMethodDescriptor "()V" = some ⟨[], none⟩ := by decide +kernel
theorem d_init7_1 : decode prog_5_method_1_code 1 = .ok (.invokespecial 1, 3) := by decide +kernel
abbrev mn_18 : MethodName := ⟨"java/lang/Record", "<init>", "()V"⟩
theorem d_init7_4 : decode prog_5_method_1_code 4 = .ok (.aload_n 1, 1) := by decide +kernel
theorem d_init7_5 : decode prog_5_method_1_code 5 = .ok (.ldc 7, 2) := by decide +kernel
theorem pd_16 : parseMethodDescriptor "(Ljava/lang/Object;Ljava/lang/String;)Ljava/lang/Object;" = some ⟨[(.object "java/lang/Object"), (.object "java/lang/String")], some (.object "java/lang/Object")⟩ := by decide +kernel
theorem d_init7_7 : decode prog_5_method_1_code 7 = .ok (.invokestatic 9, 3) := by decide +kernel
abbrev mn_19 : MethodName := ⟨"java/util/Objects", "requireNonNull", "(Ljava/lang/Object;Ljava/lang/String;)Ljava/lang/Object;"⟩
theorem d_init7_10 : decode prog_5_method_1_code 10 = .ok (.pop, 1) := by decide +kernel
theorem d_init7_11 : decode prog_5_method_1_code 11 = .ok (.aload_n 2, 1) := by decide +kernel
theorem d_init7_12 : decode prog_5_method_1_code 12 = .ok (.ldc 15, 2) := by decide +kernel
theorem d_init7_14 : decode prog_5_method_1_code 14 = .ok (.invokestatic 9, 3) := by decide +kernel
theorem d_init7_17 : decode prog_5_method_1_code 17 = .ok (.pop, 1) := by decide +kernel
theorem d_init7_18 : decode prog_5_method_1_code 18 = .ok (.aload_n 3, 1) := by decide +kernel
theorem d_init7_19 : decode prog_5_method_1_code 19 = .ok (.ldc 17, 2) := by decide +kernel
theorem d_init7_21 : decode prog_5_method_1_code 21 = .ok (.invokestatic 9, 3) := by decide +kernel
theorem d_init7_24 : decode prog_5_method_1_code 24 = .ok (.pop, 1) := by decide +kernel
theorem d_init7_25 : decode prog_5_method_1_code 25 = .ok (.aload_n 0, 1) := by decide +kernel
theorem d_init7_26 : decode prog_5_method_1_code 26 = .ok (.aload_n 1, 1) := by decide +kernel
theorem d_init7_27 : decode prog_5_method_1_code 27 = .ok (.putfield 19, 3) := by decide +kernel
theorem d_init7_30 : decode prog_5_method_1_code 30 = .ok (.aload_n 0, 1) := by decide +kernel
theorem d_init7_31 : decode prog_5_method_1_code 31 = .ok (.aload_n 2, 1) := by decide +kernel
theorem d_init7_32 : decode prog_5_method_1_code 32 = .ok (.putfield 24, 3) := by decide +kernel
theorem d_init7_35 : decode prog_5_method_1_code 35 = .ok (.aload_n 0, 1) := by decide +kernel
theorem d_init7_36 : decode prog_5_method_1_code 36 = .ok (.aload_n 3, 1) := by decide +kernel
theorem d_init7_37 : decode prog_5_method_1_code 37 = .ok (.putfield 26, 3) := by decide +kernel
theorem d_init7_40 : decode prog_5_method_1_code 40 = .ok (.aload_n 0, 1) := by decide +kernel
theorem d_init7_41 : decode prog_5_method_1_code 41 = .ok (.iload 4, 2) := by decide +kernel
theorem d_init7_43 : decode prog_5_method_1_code 43 = .ok (.putfield 28, 3) := by decide +kernel
theorem d_init7_46 : decode prog_5_method_1_code 46 = .ok (.aload_n 0, 1) := by decide +kernel
theorem d_init7_47 : decode prog_5_method_1_code 47 = .ok (.aload 5, 2) := by decide +kernel
theorem d_init7_49 : decode prog_5_method_1_code 49 = .ok (.putfield 32, 3) := by decide +kernel
theorem d_init7_52 : decode prog_5_method_1_code 52 = .ok (.aload_n 0, 1) := by decide +kernel
theorem d_init7_53 : decode prog_5_method_1_code 53 = .ok (.aload 6, 2) := by decide +kernel
theorem d_init7_55 : decode prog_5_method_1_code 55 = .ok (.putfield 35, 3) := by decide +kernel
theorem d_init7_58 : decode prog_5_method_1_code 58 = .ok (.return_, 1) := by decide +kernel
def Q_coInitE (Z : State) (co : Addr) (a1 : Addr) (a2 : Addr) (a3 : Addr) (a4 : Addr) (u0 : Value) (u1 : Value) (u2 : Value) (u3 : Value) (u4 : Value) (u5 : Value) (h0 : Heap) (n0 : Nat) (v : Option Value) (h : Heap) (L : List Loc) : Prop := v = none ∧ Fr n0 L ∧ Keep h0 h [co] ∧ (Exa Z h co "com/example/ngazi/ngazi/cli/CommandOption") ∧ (Fld Z h co "com/example/ngazi/ngazi/cli/CommandOption" "name" "Ljava/lang/String;" (.ref a1)) ∧ (Fld Z h co "com/example/ngazi/ngazi/cli/CommandOption" "label" "Ljava/lang/String;" (.ref a2)) ∧ (Fld Z h co "com/example/ngazi/ngazi/cli/CommandOption" "description" "Ljava/lang/String;" (.ref a3)) ∧ (Fld Z h co "com/example/ngazi/ngazi/cli/CommandOption" "required" "Z" (.int (0 : Int32))) ∧ (Fld Z h co "com/example/ngazi/ngazi/cli/CommandOption" "environmentVariable" "Ljava/lang/String;" (.ref a4)) ∧ (Fld Z h co "com/example/ngazi/ngazi/cli/CommandOption" "defaultValue" "Ljava/lang/String;" .null)
set_option maxRecDepth 65536 in
set_option maxHeartbeats 40000000 in
theorem rm_coInitE (l : Launch) (Z : State) (a0 : Array Value) (hw : ∀ d ∈ tables_1, d.before a0 Z = true) (hEL : EW Z a0 ELs) (ws : List Jvm.Cond) (co : Addr) (a1 : Addr) (a2 : Addr) (a3 : Addr) (a4 : Addr) (u0 : Value) (u1 : Value) (u2 : Value) (u3 : Value) (u4 : Value) (u5 : Value) (h0 : Heap) (n0 : Nat) (Z0 : n0 ≤ h0.size) (E_co : Exa Z h0 co "com/example/ngazi/ngazi/cli/CommandOption") (F_name_co : Fld Z h0 co "com/example/ngazi/ngazi/cli/CommandOption" "name" "Ljava/lang/String;" u0) (F_label_co : Fld Z h0 co "com/example/ngazi/ngazi/cli/CommandOption" "label" "Ljava/lang/String;" u1) (F_description_co : Fld Z h0 co "com/example/ngazi/ngazi/cli/CommandOption" "description" "Ljava/lang/String;" u2) (F_required_co : Fld Z h0 co "com/example/ngazi/ngazi/cli/CommandOption" "required" "Z" u3) (F_environmentVariable_co : Fld Z h0 co "com/example/ngazi/ngazi/cli/CommandOption" "environmentVariable" "Ljava/lang/String;" u4) (F_defaultValue_co : Fld Z h0 co "com/example/ngazi/ngazi/cli/CommandOption" "defaultValue" "Ljava/lang/String;" u5) (g_co : n0 ≤ co) :
    MetFree l (⟨"com/example/ngazi/ngazi/cli/CommandOption", "<init>", "(Ljava/lang/String;Ljava/lang/String;Ljava/lang/String;ZLjava/lang/String;Ljava/lang/String;)V"⟩ : MethodName) (head1 (Jvm.Cond.code (⟨"com/example/ngazi/ngazi/cli/CommandOption", "<init>", "(Ljava/lang/String;Ljava/lang/String;Ljava/lang/String;ZLjava/lang/String;Ljava/lang/String;)V"⟩ : MethodName) prog_5_method_1_code 7 none :: ws) ({ frames := 2, cells := 6, slots := 92, locals := 24 } : Room)) (fun a U => a = #[(.ref co), (.ref a1), (.ref a2), (.ref a3), (.int (0 : Int32)), (.ref a4), .null] ∧ Z.Warmed39 U.vm ∧ U.heap = h0 ∧ CHv Z ELs U.vm h0) (fun _ _ _ _ _ => True) (fun _ U o U' => ∃ v L, o = .returned v ∧ Q_coInitE Z co a1 a2 a3 a4 u0 u1 u2 u3 u4 u5 h0 n0 v U'.heap L ∧ CHr Z ELs U.vm U.heap U'.vm U'.heap ∧ ReturnedEndW U o U' L ({ frames := 2, cells := 6, slots := 92, locals := 24 } : Room).cells ({ frames := 2, cells := 6, slots := 92, locals := 24 } : Room).slots) := by
  refine MetFree.of_bodySF (plainFor_of_name pn_7) hisR ?_
  intro p e s m args below meth c s₁ Bd hml0 hP hK
  obtain ⟨rfl, hZ, hh, hCH⟩ := hP
  have hx := Bd.exec
  have hby := Bd.bytes
  have hml : c.maxLocals = 7 := hml0
  have hown : s.vm.findClass "com/example/ngazi/ngazi/cli/CommandOption" = some m.cls := findClass_of_methodNamed Bd.named
  have hnm := (name_of_methodNamed Bd.named Bd.method).1
  have X0 : Stand p l e ({ frames := 2, cells := 6, slots := 92, locals := 24 } : Room) (s.setVm s.vm) m #[(.ref co), (.ref a1), (.ref a2), (.ref a3), (.int (0 : Int32)), (.ref a4), .null] below meth c s₁ [] 0 0 := Stand.of_body Bd
  replace hZ : Z.Warmed39 (s.setVm s.vm).vm := hZ
  replace hown : (s.setVm s.vm).vm.findClass "com/example/ngazi/ngazi/cli/CommandOption" = some m.cls := hown
  have hS : s.Since s.vm 0 := (State.WarmedH.refl s).since 0
  have hk : 0 ≤ h0.size := Nat.zero_le _
  have CR : CHr Z ELs s.vm h0 s.vm h0 := CHr.refl hCH
  have e0 : s₁.heap = h0 := by rw [← hh, Bd.state]; rfl
  have N0 := Fr.nil n0
  obtain ⟨s0, hs0⟩ : ∃ z, z = (s₁.setTop (entryFrame m #[(.ref co), (.ref a1), (.ref a2), (.ref a3), (.int (0 : Int32)), (.ref a4), .null] 7)) := ⟨_, rfl⟩
  have P0 : ∀ tt_, GG p e below s₁ (mkF m 0 #[.val (.ref co), .val (.ref a1), .val (.ref a2), .val (.ref a3), .val (.int (0 : Int32)), .val (.ref a4), .val .null] []) tt_ → Steps p.tables e below s0 tt_ := fun tt_ kk_ => by rw [hs0]; exact castTop (ef_coInitE m co a1 a2 a3 a4) kk_
  have P1 : ∀ tt_, GG p e below s₁ (mkF m 1 #[.val (.ref co), .val (.ref a1), .val (.ref a2), .val (.ref a3), .val (.int (0 : Int32)), .val (.ref a4), .val .null] [(.ref co)]) tt_ → Steps p.tables e below s0 tt_ := fun tt_ kk_ => P0 tt_ (by
    refine XS.aloadN X0.here hx rfl (hb hby d_init7_0) rfl rfl ?_
    exact kk_)
  obtain ⟨_, _, ⟨T2, L2, k2, n2⟩, -, X2, ⟨Lc2, hQ2, l2, y2, z2⟩, st2⟩ := X0.specialBack hx (y := mn_18) rfl hown (mw hZ hw 53 rfl) (mw hZ hw 54 rfl) (mw hZ hw 57 rfl) (by decide) (backOf (W := 0) (rm_recInit l Z a0 hw [] co h0 n0 (Nat.le_trans Z0 (Nat.le_refl h0.size))) hZ (ww hw 57 rfl) (ww hw 56 rfl) (by decide) (by decide)) (g := (mkF m 1 #[.val (.ref co), .val (.ref a1), .val (.ref a2), .val (.ref a3), .val (.int (0 : Int32)), .val (.ref a4), .val .null] [(.ref co)])) rfl (by rw [hml]; rfl) (Steps.refl _) (a := co) (argsL := []) (rest := []) (lenOf pd_15 rfl) rfl (by show 2 * 0 + _ ≤ _; exact Nat.le_of_eq rfl) (hb hby d_init7_1) (fun _ _ => ⟨rfl, e0, (by decide : 0 + 0 ≤ _), (by decide : 0 + 0 ≤ _)⟩)
  dsimp only [Pt.U, Pt.locs, Pt.cells, Pt.slots] at X2 l2 y2 z2 st2 hQ2
  subst l2 y2 z2
  obtain ⟨rfl, N2q, e2⟩ := hQ2
  have N2 := Fr.app N0 N2q
  have P3 : ∀ tt_, GG p e below T2 (mkF m 4 #[.val (.ref co), .val (.ref a1), .val (.ref a2), .val (.ref a3), .val (.int (0 : Int32)), .val (.ref a4), .val .null] []) tt_ → Steps p.tables e below s0 tt_ := fun tt_ kk_ => P1 tt_ (st2.trans kk_)
  have P4 : ∀ tt_, GG p e below T2 (mkF m 5 #[.val (.ref co), .val (.ref a1), .val (.ref a2), .val (.ref a3), .val (.int (0 : Int32)), .val (.ref a4), .val .null] [(.ref a1)]) tt_ → Steps p.tables e below s0 tt_ := fun tt_ kk_ => P3 tt_ (by
    refine XS.aloadN X2.here hx rfl (hb hby d_init7_4) rfl rfl ?_
    exact kk_)
  obtain ⟨b5, T5, h5, ki5, X5, e5, E5, hS, hk, hZ, hown, cC5, -, st5⟩ := ldcOH X2 hx hZ hown (ww hw 59 rfl) (own_wS hw) e2 hS hk hEL CR.1 (g := (mkF m 5 #[.val (.ref co), .val (.ref a1), .val (.ref a2), .val (.ref a3), .val (.int (0 : Int32)), .val (.ref a4), .val .null] [(.ref a1)])) rfl (hb hby d_init7_5) (n := 16) (by decide) (by decide) (by decide) (by decide)
  have P6 : ∀ tt_, GG p e below T5 (mkF m 7 #[.val (.ref co), .val (.ref a1), .val (.ref a2), .val (.ref a3), .val (.int (0 : Int32)), .val (.ref a4), .val .null] [(.ref b5), (.ref a1)]) tt_ → Steps p.tables e below s0 tt_ := fun tt_ kk_ => P4 tt_ (st5 _ kk_)
  replace E_co : Exa Z h5 co "com/example/ngazi/ngazi/cli/CommandOption" := E_co.ext E5
  replace F_name_co : Fld Z h5 co "com/example/ngazi/ngazi/cli/CommandOption" "name" "Ljava/lang/String;" u0 := F_name_co.ext E5
  replace F_label_co : Fld Z h5 co "com/example/ngazi/ngazi/cli/CommandOption" "label" "Ljava/lang/String;" u1 := F_label_co.ext E5
  replace F_description_co : Fld Z h5 co "com/example/ngazi/ngazi/cli/CommandOption" "description" "Ljava/lang/String;" u2 := F_description_co.ext E5
  replace F_required_co : Fld Z h5 co "com/example/ngazi/ngazi/cli/CommandOption" "required" "Z" u3 := F_required_co.ext E5
  replace F_environmentVariable_co : Fld Z h5 co "com/example/ngazi/ngazi/cli/CommandOption" "environmentVariable" "Ljava/lang/String;" u4 := F_environmentVariable_co.ext E5
  replace F_defaultValue_co : Fld Z h5 co "com/example/ngazi/ngazi/cli/CommandOption" "defaultValue" "Ljava/lang/String;" u5 := F_defaultValue_co.ext E5
  replace CR : CHr Z ELs s.vm h0 T5.vm h5 := CR.trans cC5
  have K5 : Keep h0 h5 [co] := (Keep.refl h0 [co]).ext E5
  obtain ⟨Lf7, X5, N7⟩ : ∃ Lf, Stand p l e ({ frames := 2, cells := 6, slots := 92, locals := 24 } : Room) (s.setVm T5.vm) m #[(.ref co), (.ref a1), (.ref a2), (.ref a3), (.int (0 : Int32)), (.ref a4), .null] below meth c T5 Lf 2 20 ∧ Fr n0 Lf := ⟨_, X5, N2⟩
  obtain ⟨_, _, ⟨T8, L8, k8, n8⟩, -, X8, ⟨Lc8, hQ8, l8, y8, z8⟩, st8⟩ := Jvm.LawKit.callS X5 hx (y := mn_19) hown (mw hZ hw 62 rfl) (mw hZ hw 63 rfl) (mw hZ hw 64 rfl) (mw hZ hw 65 rfl) (by decide) (backOf (W := 0) (rm_requireNonNull l Z a0 hw [] a1 b5 h5 n0 (Nat.le_trans Z0 K5.1)) hZ (ww hw 65 rfl) (ww hw 64 rfl) (by decide) (by decide)) (g := (mkF m 7 #[.val (.ref co), .val (.ref a1), .val (.ref a2), .val (.ref a3), .val (.int (0 : Int32)), .val (.ref a4), .val .null] [(.ref b5), (.ref a1)])) rfl (by rw [hml]; rfl) (argsL := [(.ref a1), (.ref b5)]) (rest := []) (lenOf pd_16 rfl) rfl (by show 2 * 0 + _ ≤ _; exact Nat.le_of_eq rfl) (hb hby d_init7_7) (fun _ _ => ⟨rfl, e5, (by decide : 2 + 0 ≤ _), (by decide : 20 + 0 ≤ _)⟩)
  dsimp only [Pt.U, Pt.locs, Pt.cells, Pt.slots] at X8 l8 y8 z8 st8 hQ8
  subst l8 y8 z8
  obtain ⟨rfl, N8q, e8⟩ := hQ8
  have N8 := Fr.app N7 N8q
  have P9 : ∀ tt_, GG p e below T8 (mkF m 10 #[.val (.ref co), .val (.ref a1), .val (.ref a2), .val (.ref a3), .val (.int (0 : Int32)), .val (.ref a4), .val .null] [(.ref a1)]) tt_ → Steps p.tables e below s0 tt_ := fun tt_ kk_ => P6 tt_ (st8 _ kk_)
  have P10 : ∀ tt_, GG p e below T8 (mkF m 12 #[.val (.ref co), .val (.ref a1), .val (.ref a2), .val (.ref a3), .val (.int (0 : Int32)), .val (.ref a4), .val .null] [(.ref a2)]) tt_ → Steps p.tables e below s0 tt_ := fun tt_ kk_ => P9 tt_ (by
    refine XS.pop X8.here hx rfl (hb hby d_init7_10) rfl rfl ?_
    refine XS.aloadN X8.here hx rfl (hb hby d_init7_11) rfl rfl ?_
    exact kk_)
  obtain ⟨b11, T11, h11, ki11, X11, e11, E11, hS, hk, hZ, hown, cC11, -, st11⟩ := ldcOH X8 hx hZ hown (ww hw 66 rfl) (own_wS hw) e8 hS hk hEL CR.1 (g := (mkF m 12 #[.val (.ref co), .val (.ref a1), .val (.ref a2), .val (.ref a3), .val (.int (0 : Int32)), .val (.ref a4), .val .null] [(.ref a2)])) rfl (hb hby d_init7_12) (n := 20) (by decide) (by decide) (by decide) (by decide)
  have P12 : ∀ tt_, GG p e below T11 (mkF m 14 #[.val (.ref co), .val (.ref a1), .val (.ref a2), .val (.ref a3), .val (.int (0 : Int32)), .val (.ref a4), .val .null] [(.ref b11), (.ref a2)]) tt_ → Steps p.tables e below s0 tt_ := fun tt_ kk_ => P10 tt_ (st11 _ kk_)
  replace E_co : Exa Z h11 co "com/example/ngazi/ngazi/cli/CommandOption" := E_co.ext E11
  replace F_name_co : Fld Z h11 co "com/example/ngazi/ngazi/cli/CommandOption" "name" "Ljava/lang/String;" u0 := F_name_co.ext E11
  replace F_label_co : Fld Z h11 co "com/example/ngazi/ngazi/cli/CommandOption" "label" "Ljava/lang/String;" u1 := F_label_co.ext E11
  replace F_description_co : Fld Z h11 co "com/example/ngazi/ngazi/cli/CommandOption" "description" "Ljava/lang/String;" u2 := F_description_co.ext E11
  replace F_required_co : Fld Z h11 co "com/example/ngazi/ngazi/cli/CommandOption" "required" "Z" u3 := F_required_co.ext E11
  replace F_environmentVariable_co : Fld Z h11 co "com/example/ngazi/ngazi/cli/CommandOption" "environmentVariable" "Ljava/lang/String;" u4 := F_environmentVariable_co.ext E11
  replace F_defaultValue_co : Fld Z h11 co "com/example/ngazi/ngazi/cli/CommandOption" "defaultValue" "Ljava/lang/String;" u5 := F_defaultValue_co.ext E11
  replace CR : CHr Z ELs s.vm h0 T11.vm h11 := CR.trans cC11
  have K11 : Keep h0 h11 [co] := K5.ext E11
  obtain ⟨Lf13, X11, N13⟩ : ∃ Lf, Stand p l e ({ frames := 2, cells := 6, slots := 92, locals := 24 } : Room) (s.setVm T11.vm) m #[(.ref co), (.ref a1), (.ref a2), (.ref a3), (.int (0 : Int32)), (.ref a4), .null] below meth c T11 Lf 4 44 ∧ Fr n0 Lf := ⟨_, X11, N8⟩
  obtain ⟨_, _, ⟨T14, L14, k14, n14⟩, -, X14, ⟨Lc14, hQ14, l14, y14, z14⟩, st14⟩ := Jvm.LawKit.callS X11 hx (y := mn_19) hown (mw hZ hw 62 rfl) (mw hZ hw 63 rfl) (mw hZ hw 64 rfl) (mw hZ hw 65 rfl) (by decide) (backOf (W := 0) (rm_requireNonNull l Z a0 hw [] a2 b11 h11 n0 (Nat.le_trans Z0 K11.1)) hZ (ww hw 65 rfl) (ww hw 64 rfl) (by decide) (by decide)) (g := (mkF m 14 #[.val (.ref co), .val (.ref a1), .val (.ref a2), .val (.ref a3), .val (.int (0 : Int32)), .val (.ref a4), .val .null] [(.ref b11), (.ref a2)])) rfl (by rw [hml]; rfl) (argsL := [(.ref a2), (.ref b11)]) (rest := []) (lenOf pd_16 rfl) rfl (by show 2 * 0 + _ ≤ _; exact Nat.le_of_eq rfl) (hb hby d_init7_14) (fun _ _ => ⟨rfl, e11, (by decide : 4 + 0 ≤ _), (by decide : 44 + 0 ≤ _)⟩)
  dsimp only [Pt.U, Pt.locs, Pt.cells, Pt.slots] at X14 l14 y14 z14 st14 hQ14
  subst l14 y14 z14
  obtain ⟨rfl, N14q, e14⟩ := hQ14
  have N14 := Fr.app N13 N14q
  have P15 : ∀ tt_, GG p e below T14 (mkF m 17 #[.val (.ref co), .val (.ref a1), .val (.ref a2), .val (.ref a3), .val (.int (0 : Int32)), .val (.ref a4), .val .null] [(.ref a2)]) tt_ → Steps p.tables e below s0 tt_ := fun tt_ kk_ => P12 tt_ (st14 _ kk_)
  have P16 : ∀ tt_, GG p e below T14 (mkF m 19 #[.val (.ref co), .val (.ref a1), .val (.ref a2), .val (.ref a3), .val (.int (0 : Int32)), .val (.ref a4), .val .null] [(.ref a3)]) tt_ → Steps p.tables e below s0 tt_ := fun tt_ kk_ => P15 tt_ (by
    refine XS.pop X14.here hx rfl (hb hby d_init7_17) rfl rfl ?_
    refine XS.aloadN X14.here hx rfl (hb hby d_init7_18) rfl rfl ?_
    exact kk_)
  obtain ⟨b17, T17, h17, ki17, X17, e17, E17, hS, hk, hZ, hown, cC17, -, st17⟩ := ldcOH X14 hx hZ hown (ww hw 67 rfl) (own_wS hw) e14 hS hk hEL CR.1 (g := (mkF m 19 #[.val (.ref co), .val (.ref a1), .val (.ref a2), .val (.ref a3), .val (.int (0 : Int32)), .val (.ref a4), .val .null] [(.ref a3)])) rfl (hb hby d_init7_19) (n := 44) (by decide) (by decide) (by decide) (by decide)
  have P18 : ∀ tt_, GG p e below T17 (mkF m 21 #[.val (.ref co), .val (.ref a1), .val (.ref a2), .val (.ref a3), .val (.int (0 : Int32)), .val (.ref a4), .val .null] [(.ref b17), (.ref a3)]) tt_ → Steps p.tables e below s0 tt_ := fun tt_ kk_ => P16 tt_ (st17 _ kk_)
  replace E_co : Exa Z h17 co "com/example/ngazi/ngazi/cli/CommandOption" := E_co.ext E17
  replace F_name_co : Fld Z h17 co "com/example/ngazi/ngazi/cli/CommandOption" "name" "Ljava/lang/String;" u0 := F_name_co.ext E17
  replace F_label_co : Fld Z h17 co "com/example/ngazi/ngazi/cli/CommandOption" "label" "Ljava/lang/String;" u1 := F_label_co.ext E17
  replace F_description_co : Fld Z h17 co "com/example/ngazi/ngazi/cli/CommandOption" "description" "Ljava/lang/String;" u2 := F_description_co.ext E17
  replace F_required_co : Fld Z h17 co "com/example/ngazi/ngazi/cli/CommandOption" "required" "Z" u3 := F_required_co.ext E17
  replace F_environmentVariable_co : Fld Z h17 co "com/example/ngazi/ngazi/cli/CommandOption" "environmentVariable" "Ljava/lang/String;" u4 := F_environmentVariable_co.ext E17
  replace F_defaultValue_co : Fld Z h17 co "com/example/ngazi/ngazi/cli/CommandOption" "defaultValue" "Ljava/lang/String;" u5 := F_defaultValue_co.ext E17
  replace CR : CHr Z ELs s.vm h0 T17.vm h17 := CR.trans cC17
  have K17 : Keep h0 h17 [co] := K11.ext E17
  obtain ⟨Lf19, X17, N19⟩ : ∃ Lf, Stand p l e ({ frames := 2, cells := 6, slots := 92, locals := 24 } : Room) (s.setVm T17.vm) m #[(.ref co), (.ref a1), (.ref a2), (.ref a3), (.int (0 : Int32)), (.ref a4), .null] below meth c T17 Lf 6 92 ∧ Fr n0 Lf := ⟨_, X17, N14⟩
  obtain ⟨_, _, ⟨T20, L20, k20, n20⟩, -, X20, ⟨Lc20, hQ20, l20, y20, z20⟩, st20⟩ := Jvm.LawKit.callS X17 hx (y := mn_19) hown (mw hZ hw 62 rfl) (mw hZ hw 63 rfl) (mw hZ hw 64 rfl) (mw hZ hw 65 rfl) (by decide) (backOf (W := 0) (rm_requireNonNull l Z a0 hw [] a3 b17 h17 n0 (Nat.le_trans Z0 K17.1)) hZ (ww hw 65 rfl) (ww hw 64 rfl) (by decide) (by decide)) (g := (mkF m 21 #[.val (.ref co), .val (.ref a1), .val (.ref a2), .val (.ref a3), .val (.int (0 : Int32)), .val (.ref a4), .val .null] [(.ref b17), (.ref a3)])) rfl (by rw [hml]; rfl) (argsL := [(.ref a3), (.ref b17)]) (rest := []) (lenOf pd_16 rfl) rfl (by show 2 * 0 + _ ≤ _; exact Nat.le_of_eq rfl) (hb hby d_init7_21) (fun _ _ => ⟨rfl, e17, (by decide : 6 + 0 ≤ _), (by decide : 92 + 0 ≤ _)⟩)
  dsimp only [Pt.U, Pt.locs, Pt.cells, Pt.slots] at X20 l20 y20 z20 st20 hQ20
  subst l20 y20 z20
  obtain ⟨rfl, N20q, e20⟩ := hQ20
  have N20 := Fr.app N19 N20q
  have P21 : ∀ tt_, GG p e below T20 (mkF m 24 #[.val (.ref co), .val (.ref a1), .val (.ref a2), .val (.ref a3), .val (.int (0 : Int32)), .val (.ref a4), .val .null] [(.ref a3)]) tt_ → Steps p.tables e below s0 tt_ := fun tt_ kk_ => P18 tt_ (st20 _ kk_)
  have P22 : ∀ tt_, GG p e below T20 (mkF m 27 #[.val (.ref co), .val (.ref a1), .val (.ref a2), .val (.ref a3), .val (.int (0 : Int32)), .val (.ref a4), .val .null] [(.ref a1), (.ref co)]) tt_ → Steps p.tables e below s0 tt_ := fun tt_ kk_ => P21 tt_ (by
    refine XS.pop X20.here hx rfl (hb hby d_init7_24) rfl rfl ?_
    refine XS.aloadN X20.here hx rfl (hb hby d_init7_25) rfl rfl ?_
    refine XS.aloadN X20.here hx rfl (hb hby d_init7_26) rfl rfl ?_
    exact kk_)
  obtain ⟨T23, h23, X23, e23, W23, st23⟩ := putF X20 hx hZ hown (host := "") (Or.inl (ww hw 68 rfl)) Via.refl e20 F_name_co E_co (Or.inr ⟨(ww hw 69 rfl), rfl, hnm⟩) (ww hw 49 rfl) (ty := (.object "java/lang/String")) (by decide) rfl rfl (g := (mkF m 27 #[.val (.ref co), .val (.ref a1), .val (.ref a2), .val (.ref a3), .val (.int (0 : Int32)), .val (.ref a4), .val .null] [(.ref a1), (.ref co)])) rfl rfl (hb hby d_init7_27)
  have P24 : ∀ tt_, GG p e below T23 (mkF m 30 #[.val (.ref co), .val (.ref a1), .val (.ref a2), .val (.ref a3), .val (.int (0 : Int32)), .val (.ref a4), .val .null] []) tt_ → Steps p.tables e below s0 tt_ := fun tt_ kk_ => P22 tt_ (st23 _ kk_)
  have N23 := Fr.snoc X23 N20 g_co
  have K23 : Keep h0 h23 [co] := K17.wr W23 (Or.inl (List.mem_of_getElem? (i := 0) rfl))
  have sfw23 : Safe Z ELs T17.vm h17 co := (Safe.exa hZ.alike E_co (by decide) (by decide))
  replace E_co : Exa Z h23 co "com/example/ngazi/ngazi/cli/CommandOption" := E_co.wr W23
  replace F_name_co : Fld Z h23 co "com/example/ngazi/ngazi/cli/CommandOption" "name" "Ljava/lang/String;" (.ref a1) := F_name_co.same W23
  replace F_label_co : Fld Z h23 co "com/example/ngazi/ngazi/cli/CommandOption" "label" "Ljava/lang/String;" u1 := F_label_co.other W23 (Or.inr (slot_ne (Or.inr (ww hw 71 rfl)) (Or.inr (ww hw 69 rfl)) (by decide) (t := (.object "java/lang/String")) (t' := (.object "java/lang/String")) (by decide) (by decide)))
  replace F_description_co : Fld Z h23 co "com/example/ngazi/ngazi/cli/CommandOption" "description" "Ljava/lang/String;" u2 := F_description_co.other W23 (Or.inr (slot_ne (Or.inr (ww hw 73 rfl)) (Or.inr (ww hw 69 rfl)) (by decide) (t := (.object "java/lang/String")) (t' := (.object "java/lang/String")) (by decide) (by decide)))
  replace F_required_co : Fld Z h23 co "com/example/ngazi/ngazi/cli/CommandOption" "required" "Z" u3 := F_required_co.other W23 (Or.inr (slot_ne (Or.inr (ww hw 75 rfl)) (Or.inr (ww hw 69 rfl)) (by decide) (t := .boolean) (t' := (.object "java/lang/String")) (by decide) (by decide)))
  replace F_environmentVariable_co : Fld Z h23 co "com/example/ngazi/ngazi/cli/CommandOption" "environmentVariable" "Ljava/lang/String;" u4 := F_environmentVariable_co.other W23 (Or.inr (slot_ne (Or.inr (ww hw 77 rfl)) (Or.inr (ww hw 69 rfl)) (by decide) (t := (.object "java/lang/String")) (t' := (.object "java/lang/String")) (by decide) (by decide)))
  replace F_defaultValue_co : Fld Z h23 co "com/example/ngazi/ngazi/cli/CommandOption" "defaultValue" "Ljava/lang/String;" u5 := F_defaultValue_co.other W23 (Or.inr (slot_ne (Or.inr (ww hw 79 rfl)) (Or.inr (ww hw 69 rfl)) (by decide) (t := (.object "java/lang/String")) (t' := (.object "java/lang/String")) (by decide) (by decide)))
  replace CR : CHr Z ELs s.vm h0 T17.vm h23 := CR.trans (CHr.wr W23 sfw23 CR.1)
  replace hk := Nat.le_trans hk (Keep.of_wr W23).1
  have P25 : ∀ tt_, GG p e below T23 (mkF m 32 #[.val (.ref co), .val (.ref a1), .val (.ref a2), .val (.ref a3), .val (.int (0 : Int32)), .val (.ref a4), .val .null] [(.ref a2), (.ref co)]) tt_ → Steps p.tables e below s0 tt_ := fun tt_ kk_ => P24 tt_ (by
    refine XS.aloadN X23.here hx rfl (hb hby d_init7_30) rfl rfl ?_
    refine XS.aloadN X23.here hx rfl (hb hby d_init7_31) rfl rfl ?_
    exact kk_)
  obtain ⟨T26, h26, X26, e26, W26, st26⟩ := putF X23 hx hZ hown (host := "") (Or.inl (ww hw 70 rfl)) Via.refl e23 F_label_co E_co (Or.inr ⟨(ww hw 71 rfl), rfl, hnm⟩) (ww hw 49 rfl) (ty := (.object "java/lang/String")) (by decide) rfl rfl (g := (mkF m 32 #[.val (.ref co), .val (.ref a1), .val (.ref a2), .val (.ref a3), .val (.int (0 : Int32)), .val (.ref a4), .val .null] [(.ref a2), (.ref co)])) rfl rfl (hb hby d_init7_32)
  have P27 : ∀ tt_, GG p e below T26 (mkF m 35 #[.val (.ref co), .val (.ref a1), .val (.ref a2), .val (.ref a3), .val (.int (0 : Int32)), .val (.ref a4), .val .null] []) tt_ → Steps p.tables e below s0 tt_ := fun tt_ kk_ => P25 tt_ (st26 _ kk_)
  have N26 := Fr.snoc X26 N23 g_co
  have K26 : Keep h0 h26 [co] := K23.wr W26 (Or.inl (List.mem_of_getElem? (i := 0) rfl))
  have sfw26 : Safe Z ELs T17.vm h23 co := (Safe.exa hZ.alike E_co (by decide) (by decide))
  replace E_co : Exa Z h26 co "com/example/ngazi/ngazi/cli/CommandOption" := E_co.wr W26
  replace F_name_co : Fld Z h26 co "com/example/ngazi/ngazi/cli/CommandOption" "name" "Ljava/lang/String;" (.ref a1) := F_name_co.other W26 (Or.inr (slot_ne (Or.inr (ww hw 69 rfl)) (Or.inr (ww hw 71 rfl)) (by decide) (t := (.object "java/lang/String")) (t' := (.object "java/lang/String")) (by decide) (by decide)))
  replace F_label_co : Fld Z h26 co "com/example/ngazi/ngazi/cli/CommandOption" "label" "Ljava/lang/String;" (.ref a2) := F_label_co.same W26
  replace F_description_co : Fld Z h26 co "com/example/ngazi/ngazi/cli/CommandOption" "description" "Ljava/lang/String;" u2 := F_description_co.other W26 (Or.inr (slot_ne (Or.inr (ww hw 73 rfl)) (Or.inr (ww hw 71 rfl)) (by decide) (t := (.object "java/lang/String")) (t' := (.object "java/lang/String")) (by decide) (by decide)))
  replace F_required_co : Fld Z h26 co "com/example/ngazi/ngazi/cli/CommandOption" "required" "Z" u3 := F_required_co.other W26 (Or.inr (slot_ne (Or.inr (ww hw 75 rfl)) (Or.inr (ww hw 71 rfl)) (by decide) (t := .boolean) (t' := (.object "java/lang/String")) (by decide) (by decide)))
  replace F_environmentVariable_co : Fld Z h26 co "com/example/ngazi/ngazi/cli/CommandOption" "environmentVariable" "Ljava/lang/String;" u4 := F_environmentVariable_co.other W26 (Or.inr (slot_ne (Or.inr (ww hw 77 rfl)) (Or.inr (ww hw 71 rfl)) (by decide) (t := (.object "java/lang/String")) (t' := (.object "java/lang/String")) (by decide) (by decide)))
  replace F_defaultValue_co : Fld Z h26 co "com/example/ngazi/ngazi/cli/CommandOption" "defaultValue" "Ljava/lang/String;" u5 := F_defaultValue_co.other W26 (Or.inr (slot_ne (Or.inr (ww hw 79 rfl)) (Or.inr (ww hw 71 rfl)) (by decide) (t := (.object "java/lang/String")) (t' := (.object "java/lang/String")) (by decide) (by decide)))
  replace CR : CHr Z ELs s.vm h0 T17.vm h26 := CR.trans (CHr.wr W26 sfw26 CR.1)
  replace hk := Nat.le_trans hk (Keep.of_wr W26).1
  have P28 : ∀ tt_, GG p e below T26 (mkF m 37 #[.val (.ref co), .val (.ref a1), .val (.ref a2), .val (.ref a3), .val (.int (0 : Int32)), .val (.ref a4), .val .null] [(.ref a3), (.ref co)]) tt_ → Steps p.tables e below s0 tt_ := fun tt_ kk_ => P27 tt_ (by
    refine XS.aloadN X26.here hx rfl (hb hby d_init7_35) rfl rfl ?_
    refine XS.aloadN X26.here hx rfl (hb hby d_init7_36) rfl rfl ?_
    exact kk_)
  obtain ⟨T29, h29, X29, e29, W29, st29⟩ := putF X26 hx hZ hown (host := "") (Or.inl (ww hw 72 rfl)) Via.refl e26 F_description_co E_co (Or.inr ⟨(ww hw 73 rfl), rfl, hnm⟩) (ww hw 49 rfl) (ty := (.object "java/lang/String")) (by decide) rfl rfl (g := (mkF m 37 #[.val (.ref co), .val (.ref a1), .val (.ref a2), .val (.ref a3), .val (.int (0 : Int32)), .val (.ref a4), .val .null] [(.ref a3), (.ref co)])) rfl rfl (hb hby d_init7_37)
  have P30 : ∀ tt_, GG p e below T29 (mkF m 40 #[.val (.ref co), .val (.ref a1), .val (.ref a2), .val (.ref a3), .val (.int (0 : Int32)), .val (.ref a4), .val .null] []) tt_ → Steps p.tables e below s0 tt_ := fun tt_ kk_ => P28 tt_ (st29 _ kk_)
  have N29 := Fr.snoc X29 N26 g_co
  have K29 : Keep h0 h29 [co] := K26.wr W29 (Or.inl (List.mem_of_getElem? (i := 0) rfl))
  have sfw29 : Safe Z ELs T17.vm h26 co := (Safe.exa hZ.alike E_co (by decide) (by decide))
  replace E_co : Exa Z h29 co "com/example/ngazi/ngazi/cli/CommandOption" := E_co.wr W29
  replace F_name_co : Fld Z h29 co "com/example/ngazi/ngazi/cli/CommandOption" "name" "Ljava/lang/String;" (.ref a1) := F_name_co.other W29 (Or.inr (slot_ne (Or.inr (ww hw 69 rfl)) (Or.inr (ww hw 73 rfl)) (by decide) (t := (.object "java/lang/String")) (t' := (.object "java/lang/String")) (by decide) (by decide)))
  replace F_label_co : Fld Z h29 co "com/example/ngazi/ngazi/cli/CommandOption" "label" "Ljava/lang/String;" (.ref a2) := F_label_co.other W29 (Or.inr (slot_ne (Or.inr (ww hw 71 rfl)) (Or.inr (ww hw 73 rfl)) (by decide) (t := (.object "java/lang/String")) (t' := (.object "java/lang/String")) (by decide) (by decide)))
  replace F_description_co : Fld Z h29 co "com/example/ngazi/ngazi/cli/CommandOption" "description" "Ljava/lang/String;" (.ref a3) := F_description_co.same W29
  replace F_required_co : Fld Z h29 co "com/example/ngazi/ngazi/cli/CommandOption" "required" "Z" u3 := F_required_co.other W29 (Or.inr (slot_ne (Or.inr (ww hw 75 rfl)) (Or.inr (ww hw 73 rfl)) (by decide) (t := .boolean) (t' := (.object "java/lang/String")) (by decide) (by decide)))
  replace F_environmentVariable_co : Fld Z h29 co "com/example/ngazi/ngazi/cli/CommandOption" "environmentVariable" "Ljava/lang/String;" u4 := F_environmentVariable_co.other W29 (Or.inr (slot_ne (Or.inr (ww hw 77 rfl)) (Or.inr (ww hw 73 rfl)) (by decide) (t := (.object "java/lang/String")) (t' := (.object "java/lang/String")) (by decide) (by decide)))
  replace F_defaultValue_co : Fld Z h29 co "com/example/ngazi/ngazi/cli/CommandOption" "defaultValue" "Ljava/lang/String;" u5 := F_defaultValue_co.other W29 (Or.inr (slot_ne (Or.inr (ww hw 79 rfl)) (Or.inr (ww hw 73 rfl)) (by decide) (t := (.object "java/lang/String")) (t' := (.object "java/lang/String")) (by decide) (by decide)))
  replace CR : CHr Z ELs s.vm h0 T17.vm h29 := CR.trans (CHr.wr W29 sfw29 CR.1)
  replace hk := Nat.le_trans hk (Keep.of_wr W29).1
  have P31 : ∀ tt_, GG p e below T29 (mkF m 43 #[.val (.ref co), .val (.ref a1), .val (.ref a2), .val (.ref a3), .val (.int (0 : Int32)), .val (.ref a4), .val .null] [(.int (0 : Int32)), (.ref co)]) tt_ → Steps p.tables e below s0 tt_ := fun tt_ kk_ => P30 tt_ (by
    refine XS.aloadN X29.here hx rfl (hb hby d_init7_40) rfl rfl ?_
    refine XS.iload X29.here hx rfl (hb hby d_init7_41) rfl ?_
    exact kk_)
  obtain ⟨T32, h32, X32, e32, W32, st32⟩ := putFN X29 hx hZ hown (ww hw 74 rfl) Via.refl e29 F_required_co E_co (Or.inr ⟨(ww hw 75 rfl), rfl, hnm⟩) (ww hw 49 rfl) (ty := .boolean) (v' := (.int (0 : Int32))) (by decide) rfl (rfl) (g := (mkF m 43 #[.val (.ref co), .val (.ref a1), .val (.ref a2), .val (.ref a3), .val (.int (0 : Int32)), .val (.ref a4), .val .null] [(.int (0 : Int32)), (.ref co)])) rfl rfl (hb hby d_init7_43)
  have P33 : ∀ tt_, GG p e below T32 (mkF m 46 #[.val (.ref co), .val (.ref a1), .val (.ref a2), .val (.ref a3), .val (.int (0 : Int32)), .val (.ref a4), .val .null] []) tt_ → Steps p.tables e below s0 tt_ := fun tt_ kk_ => P31 tt_ (st32 _ kk_)
  have N32 := Fr.snoc X32 N29 g_co
  have K32 : Keep h0 h32 [co] := K29.wr W32 (Or.inl (List.mem_of_getElem? (i := 0) rfl))
  have sfw32 : Safe Z ELs T17.vm h29 co := (Safe.exa hZ.alike E_co (by decide) (by decide))
  replace E_co : Exa Z h32 co "com/example/ngazi/ngazi/cli/CommandOption" := E_co.wr W32
  replace F_name_co : Fld Z h32 co "com/example/ngazi/ngazi/cli/CommandOption" "name" "Ljava/lang/String;" (.ref a1) := F_name_co.other W32 (Or.inr (slot_ne (Or.inr (ww hw 69 rfl)) (Or.inr (ww hw 75 rfl)) (by decide) (t := (.object "java/lang/String")) (t' := .boolean) (by decide) (by decide)))
  replace F_label_co : Fld Z h32 co "com/example/ngazi/ngazi/cli/CommandOption" "label" "Ljava/lang/String;" (.ref a2) := F_label_co.other W32 (Or.inr (slot_ne (Or.inr (ww hw 71 rfl)) (Or.inr (ww hw 75 rfl)) (by decide) (t := (.object "java/lang/String")) (t' := .boolean) (by decide) (by decide)))
  replace F_description_co : Fld Z h32 co "com/example/ngazi/ngazi/cli/CommandOption" "description" "Ljava/lang/String;" (.ref a3) := F_description_co.other W32 (Or.inr (slot_ne (Or.inr (ww hw 73 rfl)) (Or.inr (ww hw 75 rfl)) (by decide) (t := (.object "java/lang/String")) (t' := .boolean) (by decide) (by decide)))
  replace F_required_co : Fld Z h32 co "com/example/ngazi/ngazi/cli/CommandOption" "required" "Z" (.int (0 : Int32)) := F_required_co.same W32
  replace F_environmentVariable_co : Fld Z h32 co "com/example/ngazi/ngazi/cli/CommandOption" "environmentVariable" "Ljava/lang/String;" u4 := F_environmentVariable_co.other W32 (Or.inr (slot_ne (Or.inr (ww hw 77 rfl)) (Or.inr (ww hw 75 rfl)) (by decide) (t := (.object "java/lang/String")) (t' := .boolean) (by decide) (by decide)))
  replace F_defaultValue_co : Fld Z h32 co "com/example/ngazi/ngazi/cli/CommandOption" "defaultValue" "Ljava/lang/String;" u5 := F_defaultValue_co.other W32 (Or.inr (slot_ne (Or.inr (ww hw 79 rfl)) (Or.inr (ww hw 75 rfl)) (by decide) (t := (.object "java/lang/String")) (t' := .boolean) (by decide) (by decide)))
  replace CR : CHr Z ELs s.vm h0 T17.vm h32 := CR.trans (CHr.wr W32 sfw32 CR.1)
  replace hk := Nat.le_trans hk (Keep.of_wr W32).1
  have P34 : ∀ tt_, GG p e below T32 (mkF m 49 #[.val (.ref co), .val (.ref a1), .val (.ref a2), .val (.ref a3), .val (.int (0 : Int32)), .val (.ref a4), .val .null] [(.ref a4), (.ref co)]) tt_ → Steps p.tables e below s0 tt_ := fun tt_ kk_ => P33 tt_ (by
    refine XS.aloadN X32.here hx rfl (hb hby d_init7_46) rfl rfl ?_
    refine XS.aload X32.here hx rfl (hb hby d_init7_47) rfl rfl ?_
    exact kk_)
  obtain ⟨T35, h35, X35, e35, W35, st35⟩ := putF X32 hx hZ hown (host := "") (Or.inl (ww hw 76 rfl)) Via.refl e32 F_environmentVariable_co E_co (Or.inr ⟨(ww hw 77 rfl), rfl, hnm⟩) (ww hw 49 rfl) (ty := (.object "java/lang/String")) (by decide) rfl rfl (g := (mkF m 49 #[.val (.ref co), .val (.ref a1), .val (.ref a2), .val (.ref a3), .val (.int (0 : Int32)), .val (.ref a4), .val .null] [(.ref a4), (.ref co)])) rfl rfl (hb hby d_init7_49)
  have P36 : ∀ tt_, GG p e below T35 (mkF m 52 #[.val (.ref co), .val (.ref a1), .val (.ref a2), .val (.ref a3), .val (.int (0 : Int32)), .val (.ref a4), .val .null] []) tt_ → Steps p.tables e below s0 tt_ := fun tt_ kk_ => P34 tt_ (st35 _ kk_)
  have N35 := Fr.snoc X35 N32 g_co
  have K35 : Keep h0 h35 [co] := K32.wr W35 (Or.inl (List.mem_of_getElem? (i := 0) rfl))
  have sfw35 : Safe Z ELs T17.vm h32 co := (Safe.exa hZ.alike E_co (by decide) (by decide))
  replace E_co : Exa Z h35 co "com/example/ngazi/ngazi/cli/CommandOption" := E_co.wr W35
  replace F_name_co : Fld Z h35 co "com/example/ngazi/ngazi/cli/CommandOption" "name" "Ljava/lang/String;" (.ref a1) := F_name_co.other W35 (Or.inr (slot_ne (Or.inr (ww hw 69 rfl)) (Or.inr (ww hw 77 rfl)) (by decide) (t := (.object "java/lang/String")) (t' := (.object "java/lang/String")) (by decide) (by decide)))
  replace F_label_co : Fld Z h35 co "com/example/ngazi/ngazi/cli/CommandOption" "label" "Ljava/lang/String;" (.ref a2) := F_label_co.other W35 (Or.inr (slot_ne (Or.inr (ww hw 71 rfl)) (Or.inr (ww hw 77 rfl)) (by decide) (t := (.object "java/lang/String")) (t' := (.object "java/lang/String")) (by decide) (by decide)))
  replace F_description_co : Fld Z h35 co "com/example/ngazi/ngazi/cli/CommandOption" "description" "Ljava/lang/String;" (.ref a3) := F_description_co.other W35 (Or.inr (slot_ne (Or.inr (ww hw 73 rfl)) (Or.inr (ww hw 77 rfl)) (by decide) (t := (.object "java/lang/String")) (t' := (.object "java/lang/String")) (by decide) (by decide)))
  replace F_required_co : Fld Z h35 co "com/example/ngazi/ngazi/cli/CommandOption" "required" "Z" (.int (0 : Int32)) := F_required_co.other W35 (Or.inr (slot_ne (Or.inr (ww hw 75 rfl)) (Or.inr (ww hw 77 rfl)) (by decide) (t := .boolean) (t' := (.object "java/lang/String")) (by decide) (by decide)))
  replace F_environmentVariable_co : Fld Z h35 co "com/example/ngazi/ngazi/cli/CommandOption" "environmentVariable" "Ljava/lang/String;" (.ref a4) := F_environmentVariable_co.same W35
  replace F_defaultValue_co : Fld Z h35 co "com/example/ngazi/ngazi/cli/CommandOption" "defaultValue" "Ljava/lang/String;" u5 := F_defaultValue_co.other W35 (Or.inr (slot_ne (Or.inr (ww hw 79 rfl)) (Or.inr (ww hw 77 rfl)) (by decide) (t := (.object "java/lang/String")) (t' := (.object "java/lang/String")) (by decide) (by decide)))
  replace CR : CHr Z ELs s.vm h0 T17.vm h35 := CR.trans (CHr.wr W35 sfw35 CR.1)
  replace hk := Nat.le_trans hk (Keep.of_wr W35).1
  have P37 : ∀ tt_, GG p e below T35 (mkF m 55 #[.val (.ref co), .val (.ref a1), .val (.ref a2), .val (.ref a3), .val (.int (0 : Int32)), .val (.ref a4), .val .null] [.null, (.ref co)]) tt_ → Steps p.tables e below s0 tt_ := fun tt_ kk_ => P36 tt_ (by
    refine XS.aloadN X35.here hx rfl (hb hby d_init7_52) rfl rfl ?_
    refine XS.aload X35.here hx rfl (hb hby d_init7_53) rfl rfl ?_
    exact kk_)
  obtain ⟨T38, h38, X38, e38, W38, st38⟩ := putF X35 hx hZ hown (host := "") (Or.inl (ww hw 78 rfl)) Via.refl e35 F_defaultValue_co E_co (Or.inr ⟨(ww hw 79 rfl), rfl, hnm⟩) (ww hw 49 rfl) (ty := (.object "java/lang/String")) (by decide) rfl rfl (g := (mkF m 55 #[.val (.ref co), .val (.ref a1), .val (.ref a2), .val (.ref a3), .val (.int (0 : Int32)), .val (.ref a4), .val .null] [.null, (.ref co)])) rfl rfl (hb hby d_init7_55)
  have P39 : ∀ tt_, GG p e below T38 (mkF m 58 #[.val (.ref co), .val (.ref a1), .val (.ref a2), .val (.ref a3), .val (.int (0 : Int32)), .val (.ref a4), .val .null] []) tt_ → Steps p.tables e below s0 tt_ := fun tt_ kk_ => P37 tt_ (st38 _ kk_)
  have N38 := Fr.snoc X38 N35 g_co
  have K38 : Keep h0 h38 [co] := K35.wr W38 (Or.inl (List.mem_of_getElem? (i := 0) rfl))
  have sfw38 : Safe Z ELs T17.vm h35 co := (Safe.exa hZ.alike E_co (by decide) (by decide))
  replace E_co : Exa Z h38 co "com/example/ngazi/ngazi/cli/CommandOption" := E_co.wr W38
  replace F_name_co : Fld Z h38 co "com/example/ngazi/ngazi/cli/CommandOption" "name" "Ljava/lang/String;" (.ref a1) := F_name_co.other W38 (Or.inr (slot_ne (Or.inr (ww hw 69 rfl)) (Or.inr (ww hw 79 rfl)) (by decide) (t := (.object "java/lang/String")) (t' := (.object "java/lang/String")) (by decide) (by decide)))
  replace F_label_co : Fld Z h38 co "com/example/ngazi/ngazi/cli/CommandOption" "label" "Ljava/lang/String;" (.ref a2) := F_label_co.other W38 (Or.inr (slot_ne (Or.inr (ww hw 71 rfl)) (Or.inr (ww hw 79 rfl)) (by decide) (t := (.object "java/lang/String")) (t' := (.object "java/lang/String")) (by decide) (by decide)))
  replace F_description_co : Fld Z h38 co "com/example/ngazi/ngazi/cli/CommandOption" "description" "Ljava/lang/String;" (.ref a3) := F_description_co.other W38 (Or.inr (slot_ne (Or.inr (ww hw 73 rfl)) (Or.inr (ww hw 79 rfl)) (by decide) (t := (.object "java/lang/String")) (t' := (.object "java/lang/String")) (by decide) (by decide)))
  replace F_required_co : Fld Z h38 co "com/example/ngazi/ngazi/cli/CommandOption" "required" "Z" (.int (0 : Int32)) := F_required_co.other W38 (Or.inr (slot_ne (Or.inr (ww hw 75 rfl)) (Or.inr (ww hw 79 rfl)) (by decide) (t := .boolean) (t' := (.object "java/lang/String")) (by decide) (by decide)))
  replace F_environmentVariable_co : Fld Z h38 co "com/example/ngazi/ngazi/cli/CommandOption" "environmentVariable" "Ljava/lang/String;" (.ref a4) := F_environmentVariable_co.other W38 (Or.inr (slot_ne (Or.inr (ww hw 77 rfl)) (Or.inr (ww hw 79 rfl)) (by decide) (t := (.object "java/lang/String")) (t' := (.object "java/lang/String")) (by decide) (by decide)))
  replace F_defaultValue_co : Fld Z h38 co "com/example/ngazi/ngazi/cli/CommandOption" "defaultValue" "Ljava/lang/String;" .null := F_defaultValue_co.same W38
  replace CR : CHr Z ELs s.vm h0 T17.vm h38 := CR.trans (CHr.wr W38 sfw38 CR.1)
  replace hk := Nat.le_trans hk (Keep.of_wr W38).1
  subst hs0
  obtain ⟨fs, hr, hrun, hended, hREW⟩ := X38.leaveW hS (by rw [e38]; exact hk) (v := none) (fun _ => rfl)
  have CRT := CR.trans (CHv.at X38 hZ hEL CR.1)
  refine ⟨_, _, P39 _ ?_, hrun, hended, _, _, rfl, ?_, ?_, hREW.1, hREW.2.1, hREW.2.2.1, hREW.2.2.2.mono (by decide) (by decide)⟩
  · show GG p e below T38 (mkF m 58 #[.val (.ref co), .val (.ref a1), .val (.ref a2), .val (.ref a3), .val (.int (0 : Int32)), .val (.ref a4), .val .null] []) _
    exact X38.returnOut hx Bd.returns (hb hby d_init7_58) hr
  · show Q_coInitE Z co a1 a2 a3 a4 u0 u1 u2 u3 u4 u5 h0 n0 _ T38.heap _
    rw [e38]
    exact ⟨rfl, N38, K38, E_co, F_name_co, F_label_co, F_description_co, F_required_co, F_environmentVariable_co, F_defaultValue_co⟩
  · show CHr Z ELs s.vm s.heap T38.vm T38.heap
    rw [hh, e38]
    exact CRT
theorem ef_coFromE (m : MethodId) (x0 : Addr) (x1 : Addr) (x2 : Addr) (x3 : Addr) : entryFrame m #[(.ref x0), (.ref x1), (.ref x2), (.ref x3)] 4 = mkF m 0 #[.val (.ref x0), .val (.ref x1), .val (.ref x2), .val (.ref x3)] [] := by first | (simp [entryFrame, mkF, argsToLocals, Value.category]; done) | rfl
theorem d_fromEnvironment_0 : decode prog_5_method_4_code 0 = .ok (.new 20, 3) := by decide +kernel
theorem d_fromEnvironment_3 : decode prog_5_method_4_code 3 = .ok (.dup, 1) := by decide +kernel
theorem d_fromEnvironment_4 : decode prog_5_method_4_code 4 = .ok (.aload_n 0, 1) := by decide +kernel
theorem d_fromEnvironment_5 : decode prog_5_method_4_code 5 = .ok (.aload_n 1, 1) := by decide +kernel
theorem d_fromEnvironment_6 : decode prog_5_method_4_code 6 = .ok (.aload_n 2, 1) := by decide +kernel
theorem d_fromEnvironment_7 : decode prog_5_method_4_code 7 = .ok (.iconst 0, 1) := by decide +kernel
theorem d_fromEnvironment_8 : decode prog_5_method_4_code 8 = .ok (.aload_n 3, 1) := by decide +kernel
theorem d_fromEnvironment_9 : decode prog_5_method_4_code 9 = .ok (.aconst_null, 1) := by decide +kernel
theorem pd_17 : parseMethodDescriptor "(Ljava/lang/String;Ljava/lang/String;Ljava/lang/String;ZLjava/lang/String;Ljava/lang/String;)V" = some ⟨[(.object "java/lang/String"), (.object "java/lang/String"), (.object "java/lang/String"), .boolean, (.object "java/lang/String"), (.object "java/lang/String")], none⟩ := by decide +kernel
theorem d_fromEnvironment_10 : decode prog_5_method_4_code 10 = .ok (.invokespecial 38, 3) := by decide +kernel
abbrev mn_20 : MethodName := ⟨"com/example/ngazi/ngazi/cli/CommandOption", "<init>", "(Ljava/lang/String;Ljava/lang/String;Ljava/lang/String;ZLjava/lang/String;Ljava/lang/String;)V"⟩
theorem d_fromEnvironment_13 : decode prog_5_method_4_code 13 = .ok (.areturn, 1) := by decide +kernel
def Q_coFromE (Z : State) (a1 : Addr) (a2 : Addr) (a3 : Addr) (a4 : Addr) (h0 : Heap) (n0 : Nat) (v : Option Value) (h : Heap) (L : List Loc) : Prop := ∃ (co : Addr), v = some (.ref co) ∧ Fr n0 L ∧ Keep h0 h [] ∧ (h0.size ≤ co) ∧ (Exa Z h co "com/example/ngazi/ngazi/cli/CommandOption") ∧ (Fld Z h co "com/example/ngazi/ngazi/cli/CommandOption" "name" "Ljava/lang/String;" (.ref a1)) ∧ (Fld Z h co "com/example/ngazi/ngazi/cli/CommandOption" "label" "Ljava/lang/String;" (.ref a2)) ∧ (Fld Z h co "com/example/ngazi/ngazi/cli/CommandOption" "description" "Ljava/lang/String;" (.ref a3)) ∧ (Fld Z h co "com/example/ngazi/ngazi/cli/CommandOption" "required" "Z" (.int (0 : Int32))) ∧ (Fld Z h co "com/example/ngazi/ngazi/cli/CommandOption" "environmentVariable" "Ljava/lang/String;" (.ref a4)) ∧ (Fld Z h co "com/example/ngazi/ngazi/cli/CommandOption" "defaultValue" "Ljava/lang/String;" .null)
set_option maxRecDepth 65536 in
set_option maxHeartbeats 40000000 in
theorem rm_coFromE (l : Launch) (Z : State) (a0 : Array Value) (hw : ∀ d ∈ tables_1, d.before a0 Z = true) (hEL : EW Z a0 ELs) (ws : List Jvm.Cond) (a1 : Addr) (a2 : Addr) (a3 : Addr) (a4 : Addr) (h0 : Heap) (n0 : Nat) (Z0 : n0 ≤ h0.size) :
    MetFree l (⟨"com/example/ngazi/ngazi/cli/CommandOption", "fromEnvironment", "(Ljava/lang/String;Ljava/lang/String;Ljava/lang/String;Ljava/lang/String;)Lcom/example/ngazi/ngazi/cli/CommandOption;"⟩ : MethodName) (head1 (Jvm.Cond.code (⟨"com/example/ngazi/ngazi/cli/CommandOption", "fromEnvironment", "(Ljava/lang/String;Ljava/lang/String;Ljava/lang/String;Ljava/lang/String;)Lcom/example/ngazi/ngazi/cli/CommandOption;"⟩ : MethodName) prog_5_method_4_code 4 (some (.object "com/example/ngazi/ngazi/cli/CommandOption")) :: ws) ({ frames := 3, cells := 7, slots := 98, locals := 43 } : Room)) (fun a U => a = #[(.ref a1), (.ref a2), (.ref a3), (.ref a4)] ∧ Z.Warmed39 U.vm ∧ U.heap = h0 ∧ CHv Z ELs U.vm h0) (fun _ _ _ _ _ => True) (fun _ U o U' => ∃ v L, o = .returned v ∧ Q_coFromE Z a1 a2 a3 a4 h0 n0 v U'.heap L ∧ CHr Z ELs U.vm U.heap U'.vm U'.heap ∧ ReturnedEndW U o U' L ({ frames := 3, cells := 7, slots := 98, locals := 43 } : Room).cells ({ frames := 3, cells := 7, slots := 98, locals := 43 } : Room).slots) := by
  refine MetFree.of_bodySF (plainFor_of_name pn_7) hisR ?_
  intro p e s m args below meth c s₁ Bd hml0 hP hK
  obtain ⟨rfl, hZ, hh, hCH⟩ := hP
  have hx := Bd.exec
  have hby := Bd.bytes
  have hml : c.maxLocals = 4 := hml0
  have hown : s.vm.findClass "com/example/ngazi/ngazi/cli/CommandOption" = some m.cls := findClass_of_methodNamed Bd.named
  have hnm := (name_of_methodNamed Bd.named Bd.method).1
  have X0 : Stand p l e ({ frames := 3, cells := 7, slots := 98, locals := 43 } : Room) (s.setVm s.vm) m #[(.ref a1), (.ref a2), (.ref a3), (.ref a4)] below meth c s₁ [] 0 0 := Stand.of_body Bd
  replace hZ : Z.Warmed39 (s.setVm s.vm).vm := hZ
  replace hown : (s.setVm s.vm).vm.findClass "com/example/ngazi/ngazi/cli/CommandOption" = some m.cls := hown
  have hS : s.Since s.vm 0 := (State.WarmedH.refl s).since 0
  have hk : 0 ≤ h0.size := Nat.zero_le _
  have CR : CHr Z ELs s.vm h0 s.vm h0 := CHr.refl hCH
  have e0 : s₁.heap = h0 := by rw [← hh, Bd.state]; rfl
  have N0 := Fr.nil n0
  obtain ⟨s0, hs0⟩ : ∃ z, z = (s₁.setTop (entryFrame m #[(.ref a1), (.ref a2), (.ref a3), (.ref a4)] 4)) := ⟨_, rfl⟩
  have P0 : ∀ tt_, GG p e below s₁ (mkF m 0 #[.val (.ref a1), .val (.ref a2), .val (.ref a3), .val (.ref a4)] []) tt_ → Steps p.tables e below s0 tt_ := fun tt_ kk_ => by rw [hs0]; exact castTop (ef_coFromE m a1 a2 a3 a4) kk_
  obtain ⟨T1, h1, X1, e1, E1, A1, D1, -, st1⟩ := newO X0 hx hZ hown (ww hw 48 rfl) (ww hw 49 rfl) (ww hw 46 rfl) e0 (g := (mkF m 0 #[.val (.ref a1), .val (.ref a2), .val (.ref a3), .val (.ref a4)] [])) rfl (hb hby d_fromEnvironment_0) (by decide) (by decide)
  obtain ⟨b1, g1⟩ : ∃ z, z = h0.size := ⟨_, rfl⟩
  rw [← g1] at A1 D1 st1
  have P2 : ∀ tt_, GG p e below T1 (mkF m 3 #[.val (.ref a1), .val (.ref a2), .val (.ref a3), .val (.ref a4)] [(.ref b1)]) tt_ → Steps p.tables e below s0 tt_ := fun tt_ kk_ => P0 tt_ (st1 _ kk_)
  have sz_b1 : h0.size ≤ b1 := Nat.le_trans (Nat.le_refl h0.size) (Nat.le_of_eq g1.symm)
  have sf_b1 : Safe Z ELs s.vm h0 b1 := Safe.new (Nat.le_of_eq g1.symm)
  replace sf_b1 : Safe Z ELs s.vm h1 b1 := Safe.ext E1 CR.1 sf_b1
  replace CR : CHr Z ELs s.vm h0 s.vm h1 := CR.trans (CHr.ext E1 CR.1)
  replace hk := Nat.le_trans hk E1.1
  have K1 : Keep h0 h1 [] := (Keep.refl h0 []).ext E1
  obtain ⟨Lf3, X1, N3⟩ : ∃ Lf, Stand p l e ({ frames := 3, cells := 7, slots := 98, locals := 43 } : Room) (s.setVm s.vm) m #[(.ref a1), (.ref a2), (.ref a3), (.ref a4)] below meth c T1 Lf 1 6 ∧ Fr n0 Lf := ⟨_, X1, N0⟩
  have E_b1 : Exa Z h1 b1 "com/example/ngazi/ngazi/cli/CommandOption" := A1
  have F_name_b1 : Fld Z h1 b1 "com/example/ngazi/ngazi/cli/CommandOption" "name" "Ljava/lang/String;" .null := D1 (Or.inr (ww hw 69 rfl)) (ty := (.object "java/lang/String")) (by decide)
  have F_label_b1 : Fld Z h1 b1 "com/example/ngazi/ngazi/cli/CommandOption" "label" "Ljava/lang/String;" .null := D1 (Or.inr (ww hw 71 rfl)) (ty := (.object "java/lang/String")) (by decide)
  have F_description_b1 : Fld Z h1 b1 "com/example/ngazi/ngazi/cli/CommandOption" "description" "Ljava/lang/String;" .null := D1 (Or.inr (ww hw 73 rfl)) (ty := (.object "java/lang/String")) (by decide)
  have F_required_b1 : Fld Z h1 b1 "com/example/ngazi/ngazi/cli/CommandOption" "required" "Z" (.int (0 : Int32)) := D1 (Or.inr (ww hw 75 rfl)) (ty := .boolean) (by decide)
  have F_environmentVariable_b1 : Fld Z h1 b1 "com/example/ngazi/ngazi/cli/CommandOption" "environmentVariable" "Ljava/lang/String;" .null := D1 (Or.inr (ww hw 77 rfl)) (ty := (.object "java/lang/String")) (by decide)
  have F_defaultValue_b1 : Fld Z h1 b1 "com/example/ngazi/ngazi/cli/CommandOption" "defaultValue" "Ljava/lang/String;" .null := D1 (Or.inr (ww hw 79 rfl)) (ty := (.object "java/lang/String")) (by decide)
  have P4 : ∀ tt_, GG p e below T1 (mkF m 10 #[.val (.ref a1), .val (.ref a2), .val (.ref a3), .val (.ref a4)] [.null, (.ref a4), (.int (0 : Int32)), (.ref a3), (.ref a2), (.ref a1), (.ref b1), (.ref b1)]) tt_ → Steps p.tables e below s0 tt_ := fun tt_ kk_ => P2 tt_ (by
    refine XS.dup X1.here hx rfl (hb hby d_fromEnvironment_3) rfl rfl ?_
    refine XS.aloadN X1.here hx rfl (hb hby d_fromEnvironment_4) rfl rfl ?_
    refine XS.aloadN X1.here hx rfl (hb hby d_fromEnvironment_5) rfl rfl ?_
    refine XS.aloadN X1.here hx rfl (hb hby d_fromEnvironment_6) rfl rfl ?_
    refine XS.iconst X1.here hx rfl (hb hby d_fromEnvironment_7) ?_
    refine XS.aloadN X1.here hx rfl (hb hby d_fromEnvironment_8) rfl rfl ?_
    refine XS.aconstNull X1.here hx rfl (hb hby d_fromEnvironment_9) ?_
    exact kk_)
  obtain ⟨_, _, ⟨T5, L5, k5, n5⟩, -, X5, hS5, hg5, ⟨Lc5, hQ5, l5, y5, z5, cC5⟩, st5⟩ := X1.specialBackS hx (y := mn_20) rfl hown (mw hZ hw 50 rfl) (mw hZ hw 51 rfl) (mw hZ hw 52 rfl) (by decide) (backOfSH (W := 1) (rm_coInitE l Z a0 hw hEL [] b1 a1 a2 a3 a4 .null .null .null (.int (0 : Int32)) .null .null h1 n0 (Nat.le_trans Z0 K1.1) E_b1 F_name_b1 F_label_b1 F_description_b1 F_required_b1 F_environmentVariable_b1 F_defaultValue_b1 (Nat.le_trans Z0 sz_b1)) hZ (ww hw 52 rfl) (ww hw 46 rfl) (by decide) (by decide) hEL CR.1) (g := (mkF m 10 #[.val (.ref a1), .val (.ref a2), .val (.ref a3), .val (.ref a4)] [.null, (.ref a4), (.int (0 : Int32)), (.ref a3), (.ref a2), (.ref a1), (.ref b1), (.ref b1)])) rfl (by rw [hml]; rfl) (Steps.refl _) (a := b1) (argsL := [(.ref a1), (.ref a2), (.ref a3), (.int (0 : Int32)), (.ref a4), .null]) (rest := [(.ref b1)]) (lenOf pd_17 rfl) rfl (by show 2 * 0 + _ ≤ _; exact Nat.le_of_eq rfl) (hb hby d_fromEnvironment_10) (fun _ _ => ⟨rfl, e1, (by decide : 1 + 6 ≤ _), (by decide : 6 + 92 ≤ _)⟩)
  dsimp only [Pt.U, Pt.locs, Pt.cells, Pt.slots] at X5 l5 y5 z5 st5 hQ5 hS5 hg5 cC5
  subst l5 y5 z5
  obtain ⟨X5, hS, hZ, hown⟩ := rebS hS (by rw [e1]; exact hk) X5 hS5 hg5 hZ hown
  have hk : T5.heap.size ≤ T5.heap.size := Nat.le_refl _
  obtain ⟨rfl, N5q, Kc5, po5_0, po5_1, po5_2, po5_3, po5_4, po5_5, po5_6⟩ := hQ5
  have N5 := Fr.app N3 N5q
  obtain ⟨Lf6, X5, N6⟩ : ∃ Lf, Stand p l e ({ frames := 3, cells := 7, slots := 98, locals := 43 } : Room) (s.setVm T5.vm) m #[(.ref a1), (.ref a2), (.ref a3), (.ref a4)] below meth c T5 Lf 7 98 ∧ Fr n0 Lf := ⟨_, X5, N5⟩
  have P7 : ∀ tt_, GG p e below T5 (mkF m 13 #[.val (.ref a1), .val (.ref a2), .val (.ref a3), .val (.ref a4)] [(.ref b1)]) tt_ → Steps p.tables e below s0 tt_ := fun tt_ kk_ => P4 tt_ (st5.trans kk_)
  replace sf_b1 : Safe Z ELs T5.vm T5.heap b1 := cC5.safe E_b1.lt sf_b1
  replace E_b1 : Exa Z T5.heap b1 "com/example/ngazi/ngazi/cli/CommandOption" := E_b1.keep Kc5
  replace CR : CHr Z ELs s.vm h0 T5.vm T5.heap := CR.trans cC5
  have K5 : Keep h0 T5.heap [] := K1.trans Kc5 (allS (P := fun x => x ∈ [] ∨ h0.size ≤ x) (Or.inr sz_b1) all0)
  have E_b1 : Exa Z T5.heap b1 "com/example/ngazi/ngazi/cli/CommandOption" := po5_0
  have F_name_b1 : Fld Z T5.heap b1 "com/example/ngazi/ngazi/cli/CommandOption" "name" "Ljava/lang/String;" (.ref a1) := po5_1
  have F_label_b1 : Fld Z T5.heap b1 "com/example/ngazi/ngazi/cli/CommandOption" "label" "Ljava/lang/String;" (.ref a2) := po5_2
  have F_description_b1 : Fld Z T5.heap b1 "com/example/ngazi/ngazi/cli/CommandOption" "description" "Ljava/lang/String;" (.ref a3) := po5_3
  have F_required_b1 : Fld Z T5.heap b1 "com/example/ngazi/ngazi/cli/CommandOption" "required" "Z" (.int (0 : Int32)) := po5_4
  have F_environmentVariable_b1 : Fld Z T5.heap b1 "com/example/ngazi/ngazi/cli/CommandOption" "environmentVariable" "Ljava/lang/String;" (.ref a4) := po5_5
  have F_defaultValue_b1 : Fld Z T5.heap b1 "com/example/ngazi/ngazi/cli/CommandOption" "defaultValue" "Ljava/lang/String;" .null := po5_6
  subst hs0
  obtain ⟨fs, hr, hrun, hended, hREW⟩ := X5.leaveW hS hk (v := some (.ref b1)) (fun h => by rw [Bd.returns] at h; cases h)
  have CRT := CR.trans (CHv.at X5 hZ hEL CR.1)
  refine ⟨_, _, P7 _ ?_, hrun, hended, _, _, rfl, ?_, ?_, hREW.1, hREW.2.1, hREW.2.2.1, hREW.2.2.2.mono (by decide) (by decide)⟩
  · show GG p e below T5 (mkF m 13 #[.val (.ref a1), .val (.ref a2), .val (.ref a3), .val (.ref a4)] [(.ref b1)]) _
    jvm_step X5.here [X5.here.top, hx, (hb hby d_fromEnvironment_13), X5.method', Bd.returns, Value.isRef, FieldType.isReference]
    first | (intro acts; rw [hr _ acts rfl rfl rfl]) | rw [hr _ _ rfl rfl rfl]
    exact Steps.refl _
  · show Q_coFromE Z a1 a2 a3 a4 h0 n0 _ T5.heap _
    exact ⟨b1, rfl, N6, K5, sz_b1, E_b1, F_name_b1, F_label_b1, F_description_b1, F_required_b1, F_environmentVariable_b1, F_defaultValue_b1⟩
  · show CHr Z ELs s.vm s.heap T5.vm T5.heap
    rw [hh]
    exact CRT
theorem ef_coInitN (m : MethodId) (x0 : Addr) (x1 : Addr) (x2 : Addr) (x3 : Addr) : entryFrame m #[(.ref x0), (.ref x1), (.ref x2), (.ref x3), (.int (0 : Int32)), .null, .null] 7 = mkF m 0 #[.val (.ref x0), .val (.ref x1), .val (.ref x2), .val (.ref x3), .val (.int (0 : Int32)), .val .null, .val .null] [] := by first | (simp [entryFrame, mkF, argsToLocals, Value.category]; done) | rfl
def Q_coInitN (Z : State) (co : Addr) (a1 : Addr) (a2 : Addr) (a3 : Addr) (u0 : Value) (u1 : Value) (u2 : Value) (u3 : Value) (u4 : Value) (u5 : Value) (h0 : Heap) (n0 : Nat) (v : Option Value) (h : Heap) (L : List Loc) : Prop := v = none ∧ Fr n0 L ∧ Keep h0 h [co] ∧ (Exa Z h co "com/example/ngazi/ngazi/cli/CommandOption") ∧ (Fld Z h co "com/example/ngazi/ngazi/cli/CommandOption" "name" "Ljava/lang/String;" (.ref a1)) ∧ (Fld Z h co "com/example/ngazi/ngazi/cli/CommandOption" "label" "Ljava/lang/String;" (.ref a2)) ∧ (Fld Z h co "com/example/ngazi/ngazi/cli/CommandOption" "description" "Ljava/lang/String;" (.ref a3)) ∧ (Fld Z h co "com/example/ngazi/ngazi/cli/CommandOption" "required" "Z" (.int (0 : Int32))) ∧ (Fld Z h co "com/example/ngazi/ngazi/cli/CommandOption" "environmentVariable" "Ljava/lang/String;" .null) ∧ (Fld Z h co "com/example/ngazi/ngazi/cli/CommandOption" "defaultValue" "Ljava/lang/String;" .null)
set_option maxRecDepth 65536 in
set_option maxHeartbeats 40000000 in
theorem rm_coInitN (l : Launch) (Z : State) (a0 : Array Value) (hw : ∀ d ∈ tables_1, d.before a0 Z = true) (hEL : EW Z a0 ELs) (ws : List Jvm.Cond) (co : Addr) (a1 : Addr) (a2 : Addr) (a3 : Addr) (u0 : Value) (u1 : Value) (u2 : Value) (u3 : Value) (u4 : Value) (u5 : Value) (h0 : Heap) (n0 : Nat) (Z0 : n0 ≤ h0.size) (E_co : Exa Z h0 co "com/example/ngazi/ngazi/cli/CommandOption") (F_name_co : Fld Z h0 co "com/example/ngazi/ngazi/cli/CommandOption" "name" "Ljava/lang/String;" u0) (F_label_co : Fld Z h0 co "com/example/ngazi/ngazi/cli/CommandOption" "label" "Ljava/lang/String;" u1) (F_description_co : Fld Z h0 co "com/example/ngazi/ngazi/cli/CommandOption" "description" "Ljava/lang/String;" u2) (F_required_co : Fld Z h0 co "com/example/ngazi/ngazi/cli/CommandOption" "required" "Z" u3) (F_environmentVariable_co : Fld Z h0 co "com/example/ngazi/ngazi/cli/CommandOption" "environmentVariable" "Ljava/lang/String;" u4) (F_defaultValue_co : Fld Z h0 co "com/example/ngazi/ngazi/cli/CommandOption" "defaultValue" "Ljava/lang/String;" u5) (g_co : n0 ≤ co) :
    MetFree l (⟨"com/example/ngazi/ngazi/cli/CommandOption", "<init>", "(Ljava/lang/String;Ljava/lang/String;Ljava/lang/String;ZLjava/lang/String;Ljava/lang/String;)V"⟩ : MethodName) (head1 (Jvm.Cond.code (⟨"com/example/ngazi/ngazi/cli/CommandOption", "<init>", "(Ljava/lang/String;Ljava/lang/String;Ljava/lang/String;ZLjava/lang/String;Ljava/lang/String;)V"⟩ : MethodName) prog_5_method_1_code 7 none :: ws) ({ frames := 2, cells := 6, slots := 92, locals := 24 } : Room)) (fun a U => a = #[(.ref co), (.ref a1), (.ref a2), (.ref a3), (.int (0 : Int32)), .null, .null] ∧ Z.Warmed39 U.vm ∧ U.heap = h0 ∧ CHv Z ELs U.vm h0) (fun _ _ _ _ _ => True) (fun _ U o U' => ∃ v L, o = .returned v ∧ Q_coInitN Z co a1 a2 a3 u0 u1 u2 u3 u4 u5 h0 n0 v U'.heap L ∧ CHr Z ELs U.vm U.heap U'.vm U'.heap ∧ ReturnedEndW U o U' L ({ frames := 2, cells := 6, slots := 92, locals := 24 } : Room).cells ({ frames := 2, cells := 6, slots := 92, locals := 24 } : Room).slots) := by
  refine MetFree.of_bodySF (plainFor_of_name pn_7) hisR ?_
  intro p e s m args below meth c s₁ Bd hml0 hP hK
  obtain ⟨rfl, hZ, hh, hCH⟩ := hP
  have hx := Bd.exec
  have hby := Bd.bytes
  have hml : c.maxLocals = 7 := hml0
  have hown : s.vm.findClass "com/example/ngazi/ngazi/cli/CommandOption" = some m.cls := findClass_of_methodNamed Bd.named
  have hnm := (name_of_methodNamed Bd.named Bd.method).1
  have X0 : Stand p l e ({ frames := 2, cells := 6, slots := 92, locals := 24 } : Room) (s.setVm s.vm) m #[(.ref co), (.ref a1), (.ref a2), (.ref a3), (.int (0 : Int32)), .null, .null] below meth c s₁ [] 0 0 := Stand.of_body Bd
  replace hZ : Z.Warmed39 (s.setVm s.vm).vm := hZ
  replace hown : (s.setVm s.vm).vm.findClass "com/example/ngazi/ngazi/cli/CommandOption" = some m.cls := hown
  have hS : s.Since s.vm 0 := (State.WarmedH.refl s).since 0
  have hk : 0 ≤ h0.size := Nat.zero_le _
  have CR : CHr Z ELs s.vm h0 s.vm h0 := CHr.refl hCH
  have e0 : s₁.heap = h0 := by rw [← hh, Bd.state]; rfl
  have N0 := Fr.nil n0
  obtain ⟨s0, hs0⟩ : ∃ z, z = (s₁.setTop (entryFrame m #[(.ref co), (.ref a1), (.ref a2), (.ref a3), (.int (0 : Int32)), .null, .null] 7)) := ⟨_, rfl⟩
  have P0 : ∀ tt_, GG p e below s₁ (mkF m 0 #[.val (.ref co), .val (.ref a1), .val (.ref a2), .val (.ref a3), .val (.int (0 : Int32)), .val .null, .val .null] []) tt_ → Steps p.tables e below s0 tt_ := fun tt_ kk_ => by rw [hs0]; exact castTop (ef_coInitN m co a1 a2 a3) kk_
  have P1 : ∀ tt_, GG p e below s₁ (mkF m 1 #[.val (.ref co), .val (.ref a1), .val (.ref a2), .val (.ref a3), .val (.int (0 : Int32)), .val .null, .val .null] [(.ref co)]) tt_ → Steps p.tables e below s0 tt_ := fun tt_ kk_ => P0 tt_ (by
    refine XS.aloadN X0.here hx rfl (hb hby d_init7_0) rfl rfl ?_
    exact kk_)
  obtain ⟨_, _, ⟨T2, L2, k2, n2⟩, -, X2, ⟨Lc2, hQ2, l2, y2, z2⟩, st2⟩ := X0.specialBack hx (y := mn_18) rfl hown (mw hZ hw 53 rfl) (mw hZ hw 54 rfl) (mw hZ hw 57 rfl) (by decide) (backOf (W := 0) (rm_recInit l Z a0 hw [] co h0 n0 (Nat.le_trans Z0 (Nat.le_refl h0.size))) hZ (ww hw 57 rfl) (ww hw 56 rfl) (by decide) (by decide)) (g := (mkF m 1 #[.val (.ref co), .val (.ref a1), .val (.ref a2), .val (.ref a3), .val (.int (0 : Int32)), .val .null, .val .null] [(.ref co)])) rfl (by rw [hml]; rfl) (Steps.refl _) (a := co) (argsL := []) (rest := []) (lenOf pd_15 rfl) rfl (by show 2 * 0 + _ ≤ _; exact Nat.le_of_eq rfl) (hb hby d_init7_1) (fun _ _ => ⟨rfl, e0, (by decide : 0 + 0 ≤ _), (by decide : 0 + 0 ≤ _)⟩)
  dsimp only [Pt.U, Pt.locs, Pt.cells, Pt.slots] at X2 l2 y2 z2 st2 hQ2
  subst l2 y2 z2
  obtain ⟨rfl, N2q, e2⟩ := hQ2
  have N2 := Fr.app N0 N2q
  have P3 : ∀ tt_, GG p e below T2 (mkF m 4 #[.val (.ref co), .val (.ref a1), .val (.ref a2), .val (.ref a3), .val (.int (0 : Int32)), .val .null, .val .null] []) tt_ → Steps p.tables e below s0 tt_ := fun tt_ kk_ => P1 tt_ (st2.trans kk_)
  have P4 : ∀ tt_, GG p e below T2 (mkF m 5 #[.val (.ref co), .val (.ref a1), .val (.ref a2), .val (.ref a3), .val (.int (0 : Int32)), .val .null, .val .null] [(.ref a1)]) tt_ → Steps p.tables e below s0 tt_ := fun tt_ kk_ => P3 tt_ (by
    refine XS.aloadN X2.here hx rfl (hb hby d_init7_4) rfl rfl ?_
    exact kk_)
  obtain ⟨b5, T5, h5, ki5, X5, e5, E5, hS, hk, hZ, hown, cC5, -, st5⟩ := ldcOH X2 hx hZ hown (ww hw 59 rfl) (own_wS hw) e2 hS hk hEL CR.1 (g := (mkF m 5 #[.val (.ref co), .val (.ref a1), .val (.ref a2), .val (.ref a3), .val (.int (0 : Int32)), .val .null, .val .null] [(.ref a1)])) rfl (hb hby d_init7_5) (n := 16) (by decide) (by decide) (by decide) (by decide)
  have P6 : ∀ tt_, GG p e below T5 (mkF m 7 #[.val (.ref co), .val (.ref a1), .val (.ref a2), .val (.ref a3), .val (.int (0 : Int32)), .val .null, .val .null] [(.ref b5), (.ref a1)]) tt_ → Steps p.tables e below s0 tt_ := fun tt_ kk_ => P4 tt_ (st5 _ kk_)
  replace E_co : Exa Z h5 co "com/example/ngazi/ngazi/cli/CommandOption" := E_co.ext E5
  replace F_name_co : Fld Z h5 co "com/example/ngazi/ngazi/cli/CommandOption" "name" "Ljava/lang/String;" u0 := F_name_co.ext E5
  replace F_label_co : Fld Z h5 co "com/example/ngazi/ngazi/cli/CommandOption" "label" "Ljava/lang/String;" u1 := F_label_co.ext E5
  replace F_description_co : Fld Z h5 co "com/example/ngazi/ngazi/cli/CommandOption" "description" "Ljava/lang/String;" u2 := F_description_co.ext E5
  replace F_required_co : Fld Z h5 co "com/example/ngazi/ngazi/cli/CommandOption" "required" "Z" u3 := F_required_co.ext E5
  replace F_environmentVariable_co : Fld Z h5 co "com/example/ngazi/ngazi/cli/CommandOption" "environmentVariable" "Ljava/lang/String;" u4 := F_environmentVariable_co.ext E5
  replace F_defaultValue_co : Fld Z h5 co "com/example/ngazi/ngazi/cli/CommandOption" "defaultValue" "Ljava/lang/String;" u5 := F_defaultValue_co.ext E5
  replace CR : CHr Z ELs s.vm h0 T5.vm h5 := CR.trans cC5
  have K5 : Keep h0 h5 [co] := (Keep.refl h0 [co]).ext E5
  obtain ⟨Lf7, X5, N7⟩ : ∃ Lf, Stand p l e ({ frames := 2, cells := 6, slots := 92, locals := 24 } : Room) (s.setVm T5.vm) m #[(.ref co), (.ref a1), (.ref a2), (.ref a3), (.int (0 : Int32)), .null, .null] below meth c T5 Lf 2 20 ∧ Fr n0 Lf := ⟨_, X5, N2⟩
  obtain ⟨_, _, ⟨T8, L8, k8, n8⟩, -, X8, ⟨Lc8, hQ8, l8, y8, z8⟩, st8⟩ := Jvm.LawKit.callS X5 hx (y := mn_19) hown (mw hZ hw 62 rfl) (mw hZ hw 63 rfl) (mw hZ hw 64 rfl) (mw hZ hw 65 rfl) (by decide) (backOf (W := 0) (rm_requireNonNull l Z a0 hw [] a1 b5 h5 n0 (Nat.le_trans Z0 K5.1)) hZ (ww hw 65 rfl) (ww hw 64 rfl) (by decide) (by decide)) (g := (mkF m 7 #[.val (.ref co), .val (.ref a1), .val (.ref a2), .val (.ref a3), .val (.int (0 : Int32)), .val .null, .val .null] [(.ref b5), (.ref a1)])) rfl (by rw [hml]; rfl) (argsL := [(.ref a1), (.ref b5)]) (rest := []) (lenOf pd_16 rfl) rfl (by show 2 * 0 + _ ≤ _; exact Nat.le_of_eq rfl) (hb hby d_init7_7) (fun _ _ => ⟨rfl, e5, (by decide : 2 + 0 ≤ _), (by decide : 20 + 0 ≤ _)⟩)
  dsimp only [Pt.U, Pt.locs, Pt.cells, Pt.slots] at X8 l8 y8 z8 st8 hQ8
  subst l8 y8 z8
  obtain ⟨rfl, N8q, e8⟩ := hQ8
  have N8 := Fr.app N7 N8q
  have P9 : ∀ tt_, GG p e below T8 (mkF m 10 #[.val (.ref co), .val (.ref a1), .val (.ref a2), .val (.ref a3), .val (.int (0 : Int32)), .val .null, .val .null] [(.ref a1)]) tt_ → Steps p.tables e below s0 tt_ := fun tt_ kk_ => P6 tt_ (st8 _ kk_)
  have P10 : ∀ tt_, GG p e below T8 (mkF m 12 #[.val (.ref co), .val (.ref a1), .val (.ref a2), .val (.ref a3), .val (.int (0 : Int32)), .val .null, .val .null] [(.ref a2)]) tt_ → Steps p.tables e below s0 tt_ := fun tt_ kk_ => P9 tt_ (by
    refine XS.pop X8.here hx rfl (hb hby d_init7_10) rfl rfl ?_
    refine XS.aloadN X8.here hx rfl (hb hby d_init7_11) rfl rfl ?_
    exact kk_)
  obtain ⟨b11, T11, h11, ki11, X11, e11, E11, hS, hk, hZ, hown, cC11, -, st11⟩ := ldcOH X8 hx hZ hown (ww hw 66 rfl) (own_wS hw) e8 hS hk hEL CR.1 (g := (mkF m 12 #[.val (.ref co), .val (.ref a1), .val (.ref a2), .val (.ref a3), .val (.int (0 : Int32)), .val .null, .val .null] [(.ref a2)])) rfl (hb hby d_init7_12) (n := 20) (by decide) (by decide) (by decide) (by decide)
  have P12 : ∀ tt_, GG p e below T11 (mkF m 14 #[.val (.ref co), .val (.ref a1), .val (.ref a2), .val (.ref a3), .val (.int (0 : Int32)), .val .null, .val .null] [(.ref b11), (.ref a2)]) tt_ → Steps p.tables e below s0 tt_ := fun tt_ kk_ => P10 tt_ (st11 _ kk_)
  replace E_co : Exa Z h11 co "com/example/ngazi/ngazi/cli/CommandOption" := E_co.ext E11
  replace F_name_co : Fld Z h11 co "com/example/ngazi/ngazi/cli/CommandOption" "name" "Ljava/lang/String;" u0 := F_name_co.ext E11
  replace F_label_co : Fld Z h11 co "com/example/ngazi/ngazi/cli/CommandOption" "label" "Ljava/lang/String;" u1 := F_label_co.ext E11
  replace F_description_co : Fld Z h11 co "com/example/ngazi/ngazi/cli/CommandOption" "description" "Ljava/lang/String;" u2 := F_description_co.ext E11
  replace F_required_co : Fld Z h11 co "com/example/ngazi/ngazi/cli/CommandOption" "required" "Z" u3 := F_required_co.ext E11
  replace F_environmentVariable_co : Fld Z h11 co "com/example/ngazi/ngazi/cli/CommandOption" "environmentVariable" "Ljava/lang/String;" u4 := F_environmentVariable_co.ext E11
  replace F_defaultValue_co : Fld Z h11 co "com/example/ngazi/ngazi/cli/CommandOption" "defaultValue" "Ljava/lang/String;" u5 := F_defaultValue_co.ext E11
  replace CR : CHr Z ELs s.vm h0 T11.vm h11 := CR.trans cC11
  have K11 : Keep h0 h11 [co] := K5.ext E11
  obtain ⟨Lf13, X11, N13⟩ : ∃ Lf, Stand p l e ({ frames := 2, cells := 6, slots := 92, locals := 24 } : Room) (s.setVm T11.vm) m #[(.ref co), (.ref a1), (.ref a2), (.ref a3), (.int (0 : Int32)), .null, .null] below meth c T11 Lf 4 44 ∧ Fr n0 Lf := ⟨_, X11, N8⟩
  obtain ⟨_, _, ⟨T14, L14, k14, n14⟩, -, X14, ⟨Lc14, hQ14, l14, y14, z14⟩, st14⟩ := Jvm.LawKit.callS X11 hx (y := mn_19) hown (mw hZ hw 62 rfl) (mw hZ hw 63 rfl) (mw hZ hw 64 rfl) (mw hZ hw 65 rfl) (by decide) (backOf (W := 0) (rm_requireNonNull l Z a0 hw [] a2 b11 h11 n0 (Nat.le_trans Z0 K11.1)) hZ (ww hw 65 rfl) (ww hw 64 rfl) (by decide) (by decide)) (g := (mkF m 14 #[.val (.ref co), .val (.ref a1), .val (.ref a2), .val (.ref a3), .val (.int (0 : Int32)), .val .null, .val .null] [(.ref b11), (.ref a2)])) rfl (by rw [hml]; rfl) (argsL := [(.ref a2), (.ref b11)]) (rest := []) (lenOf pd_16 rfl) rfl (by show 2 * 0 + _ ≤ _; exact Nat.le_of_eq rfl) (hb hby d_init7_14) (fun _ _ => ⟨rfl, e11, (by decide : 4 + 0 ≤ _), (by decide : 44 + 0 ≤ _)⟩)
  dsimp only [Pt.U, Pt.locs, Pt.cells, Pt.slots] at X14 l14 y14 z14 st14 hQ14
  subst l14 y14 z14
  obtain ⟨rfl, N14q, e14⟩ := hQ14
  have N14 := Fr.app N13 N14q
  have P15 : ∀ tt_, GG p e below T14 (mkF m 17 #[.val (.ref co), .val (.ref a1), .val (.ref a2), .val (.ref a3), .val (.int (0 : Int32)), .val .null, .val .null] [(.ref a2)]) tt_ → Steps p.tables e below s0 tt_ := fun tt_ kk_ => P12 tt_ (st14 _ kk_)
  have P16 : ∀ tt_, GG p e below T14 (mkF m 19 #[.val (.ref co), .val (.ref a1), .val (.ref a2), .val (.ref a3), .val (.int (0 : Int32)), .val .null, .val .null] [(.ref a3)]) tt_ → Steps p.tables e below s0 tt_ := fun tt_ kk_ => P15 tt_ (by
    refine XS.pop X14.here hx rfl (hb hby d_init7_17) rfl rfl ?_
    refine XS.aloadN X14.here hx rfl (hb hby d_init7_18) rfl rfl ?_
    exact kk_)
  obtain ⟨b17, T17, h17, ki17, X17, e17, E17, hS, hk, hZ, hown, cC17, -, st17⟩ := ldcOH X14 hx hZ hown (ww hw 67 rfl) (own_wS hw) e14 hS hk hEL CR.1 (g := (mkF m 19 #[.val (.ref co), .val (.ref a1), .val (.ref a2), .val (.ref a3), .val (.int (0 : Int32)), .val .null, .val .null] [(.ref a3)])) rfl (hb hby d_init7_19) (n := 44) (by decide) (by decide) (by decide) (by decide)
  have P18 : ∀ tt_, GG p e below T17 (mkF m 21 #[.val (.ref co), .val (.ref a1), .val (.ref a2), .val (.ref a3), .val (.int (0 : Int32)), .val .null, .val .null] [(.ref b17), (.ref a3)]) tt_ → Steps p.tables e below s0 tt_ := fun tt_ kk_ => P16 tt_ (st17 _ kk_)
  replace E_co : Exa Z h17 co "com/example/ngazi/ngazi/cli/CommandOption" := E_co.ext E17
  replace F_name_co : Fld Z h17 co "com/example/ngazi/ngazi/cli/CommandOption" "name" "Ljava/lang/String;" u0 := F_name_co.ext E17
  replace F_label_co : Fld Z h17 co "com/example/ngazi/ngazi/cli/CommandOption" "label" "Ljava/lang/String;" u1 := F_label_co.ext E17
  replace F_description_co : Fld Z h17 co "com/example/ngazi/ngazi/cli/CommandOption" "description" "Ljava/lang/String;" u2 := F_description_co.ext E17
  replace F_required_co : Fld Z h17 co "com/example/ngazi/ngazi/cli/CommandOption" "required" "Z" u3 := F_required_co.ext E17
  replace F_environmentVariable_co : Fld Z h17 co "com/example/ngazi/ngazi/cli/CommandOption" "environmentVariable" "Ljava/lang/String;" u4 := F_environmentVariable_co.ext E17
  replace F_defaultValue_co : Fld Z h17 co "com/example/ngazi/ngazi/cli/CommandOption" "defaultValue" "Ljava/lang/String;" u5 := F_defaultValue_co.ext E17
  replace CR : CHr Z ELs s.vm h0 T17.vm h17 := CR.trans cC17
  have K17 : Keep h0 h17 [co] := K11.ext E17
  obtain ⟨Lf19, X17, N19⟩ : ∃ Lf, Stand p l e ({ frames := 2, cells := 6, slots := 92, locals := 24 } : Room) (s.setVm T17.vm) m #[(.ref co), (.ref a1), (.ref a2), (.ref a3), (.int (0 : Int32)), .null, .null] below meth c T17 Lf 6 92 ∧ Fr n0 Lf := ⟨_, X17, N14⟩
  obtain ⟨_, _, ⟨T20, L20, k20, n20⟩, -, X20, ⟨Lc20, hQ20, l20, y20, z20⟩, st20⟩ := Jvm.LawKit.callS X17 hx (y := mn_19) hown (mw hZ hw 62 rfl) (mw hZ hw 63 rfl) (mw hZ hw 64 rfl) (mw hZ hw 65 rfl) (by decide) (backOf (W := 0) (rm_requireNonNull l Z a0 hw [] a3 b17 h17 n0 (Nat.le_trans Z0 K17.1)) hZ (ww hw 65 rfl) (ww hw 64 rfl) (by decide) (by decide)) (g := (mkF m 21 #[.val (.ref co), .val (.ref a1), .val (.ref a2), .val (.ref a3), .val (.int (0 : Int32)), .val .null, .val .null] [(.ref b17), (.ref a3)])) rfl (by rw [hml]; rfl) (argsL := [(.ref a3), (.ref b17)]) (rest := []) (lenOf pd_16 rfl) rfl (by show 2 * 0 + _ ≤ _; exact Nat.le_of_eq rfl) (hb hby d_init7_21) (fun _ _ => ⟨rfl, e17, (by decide : 6 + 0 ≤ _), (by decide : 92 + 0 ≤ _)⟩)
  dsimp only [Pt.U, Pt.locs, Pt.cells, Pt.slots] at X20 l20 y20 z20 st20 hQ20
  subst l20 y20 z20
  obtain ⟨rfl, N20q, e20⟩ := hQ20
  have N20 := Fr.app N19 N20q
  have P21 : ∀ tt_, GG p e below T20 (mkF m 24 #[.val (.ref co), .val (.ref a1), .val (.ref a2), .val (.ref a3), .val (.int (0 : Int32)), .val .null, .val .null] [(.ref a3)]) tt_ → Steps p.tables e below s0 tt_ := fun tt_ kk_ => P18 tt_ (st20 _ kk_)
  have P22 : ∀ tt_, GG p e below T20 (mkF m 27 #[.val (.ref co), .val (.ref a1), .val (.ref a2), .val (.ref a3), .val (.int (0 : Int32)), .val .null, .val .null] [(.ref a1), (.ref co)]) tt_ → Steps p.tables e below s0 tt_ := fun tt_ kk_ => P21 tt_ (by
    refine XS.pop X20.here hx rfl (hb hby d_init7_24) rfl rfl ?_
    refine XS.aloadN X20.here hx rfl (hb hby d_init7_25) rfl rfl ?_
    refine XS.aloadN X20.here hx rfl (hb hby d_init7_26) rfl rfl ?_
    exact kk_)
  obtain ⟨T23, h23, X23, e23, W23, st23⟩ := putF X20 hx hZ hown (host := "") (Or.inl (ww hw 68 rfl)) Via.refl e20 F_name_co E_co (Or.inr ⟨(ww hw 69 rfl), rfl, hnm⟩) (ww hw 49 rfl) (ty := (.object "java/lang/String")) (by decide) rfl rfl (g := (mkF m 27 #[.val (.ref co), .val (.ref a1), .val (.ref a2), .val (.ref a3), .val (.int (0 : Int32)), .val .null, .val .null] [(.ref a1), (.ref co)])) rfl rfl (hb hby d_init7_27)
  have P24 : ∀ tt_, GG p e below T23 (mkF m 30 #[.val (.ref co), .val (.ref a1), .val (.ref a2), .val (.ref a3), .val (.int (0 : Int32)), .val .null, .val .null] []) tt_ → Steps p.tables e below s0 tt_ := fun tt_ kk_ => P22 tt_ (st23 _ kk_)
  have N23 := Fr.snoc X23 N20 g_co
  have K23 : Keep h0 h23 [co] := K17.wr W23 (Or.inl (List.mem_of_getElem? (i := 0) rfl))
  have sfw23 : Safe Z ELs T17.vm h17 co := (Safe.exa hZ.alike E_co (by decide) (by decide))
  replace E_co : Exa Z h23 co "com/example/ngazi/ngazi/cli/CommandOption" := E_co.wr W23
  replace F_name_co : Fld Z h23 co "com/example/ngazi/ngazi/cli/CommandOption" "name" "Ljava/lang/String;" (.ref a1) := F_name_co.same W23
  replace F_label_co : Fld Z h23 co "com/example/ngazi/ngazi/cli/CommandOption" "label" "Ljava/lang/String;" u1 := F_label_co.other W23 (Or.inr (slot_ne (Or.inr (ww hw 71 rfl)) (Or.inr (ww hw 69 rfl)) (by decide) (t := (.object "java/lang/String")) (t' := (.object "java/lang/String")) (by decide) (by decide)))
  replace F_description_co : Fld Z h23 co "com/example/ngazi/ngazi/cli/CommandOption" "description" "Ljava/lang/String;" u2 := F_description_co.other W23 (Or.inr (slot_ne (Or.inr (ww hw 73 rfl)) (Or.inr (ww hw 69 rfl)) (by decide) (t := (.object "java/lang/String")) (t' := (.object "java/lang/String")) (by decide) (by decide)))
  replace F_required_co : Fld Z h23 co "com/example/ngazi/ngazi/cli/CommandOption" "required" "Z" u3 := F_required_co.other W23 (Or.inr (slot_ne (Or.inr (ww hw 75 rfl)) (Or.inr (ww hw 69 rfl)) (by decide) (t := .boolean) (t' := (.object "java/lang/String")) (by decide) (by decide)))
  replace F_environmentVariable_co : Fld Z h23 co "com/example/ngazi/ngazi/cli/CommandOption" "environmentVariable" "Ljava/lang/String;" u4 := F_environmentVariable_co.other W23 (Or.inr (slot_ne (Or.inr (ww hw 77 rfl)) (Or.inr (ww hw 69 rfl)) (by decide) (t := (.object "java/lang/String")) (t' := (.object "java/lang/String")) (by decide) (by decide)))
  replace F_defaultValue_co : Fld Z h23 co "com/example/ngazi/ngazi/cli/CommandOption" "defaultValue" "Ljava/lang/String;" u5 := F_defaultValue_co.other W23 (Or.inr (slot_ne (Or.inr (ww hw 79 rfl)) (Or.inr (ww hw 69 rfl)) (by decide) (t := (.object "java/lang/String")) (t' := (.object "java/lang/String")) (by decide) (by decide)))
  replace CR : CHr Z ELs s.vm h0 T17.vm h23 := CR.trans (CHr.wr W23 sfw23 CR.1)
  replace hk := Nat.le_trans hk (Keep.of_wr W23).1
  have P25 : ∀ tt_, GG p e below T23 (mkF m 32 #[.val (.ref co), .val (.ref a1), .val (.ref a2), .val (.ref a3), .val (.int (0 : Int32)), .val .null, .val .null] [(.ref a2), (.ref co)]) tt_ → Steps p.tables e below s0 tt_ := fun tt_ kk_ => P24 tt_ (by
    refine XS.aloadN X23.here hx rfl (hb hby d_init7_30) rfl rfl ?_
    refine XS.aloadN X23.here hx rfl (hb hby d_init7_31) rfl rfl ?_
    exact kk_)
  obtain ⟨T26, h26, X26, e26, W26, st26⟩ := putF X23 hx hZ hown (host := "") (Or.inl (ww hw 70 rfl)) Via.refl e23 F_label_co E_co (Or.inr ⟨(ww hw 71 rfl), rfl, hnm⟩) (ww hw 49 rfl) (ty := (.object "java/lang/String")) (by decide) rfl rfl (g := (mkF m 32 #[.val (.ref co), .val (.ref a1), .val (.ref a2), .val (.ref a3), .val (.int (0 : Int32)), .val .null, .val .null] [(.ref a2), (.ref co)])) rfl rfl (hb hby d_init7_32)
  have P27 : ∀ tt_, GG p e below T26 (mkF m 35 #[.val (.ref co), .val (.ref a1), .val (.ref a2), .val (.ref a3), .val (.int (0 : Int32)), .val .null, .val .null] []) tt_ → Steps p.tables e below s0 tt_ := fun tt_ kk_ => P25 tt_ (st26 _ kk_)
  have N26 := Fr.snoc X26 N23 g_co
  have K26 : Keep h0 h26 [co] := K23.wr W26 (Or.inl (List.mem_of_getElem? (i := 0) rfl))
  have sfw26 : Safe Z ELs T17.vm h23 co := (Safe.exa hZ.alike E_co (by decide) (by decide))
  replace E_co : Exa Z h26 co "com/example/ngazi/ngazi/cli/CommandOption" := E_co.wr W26
  replace F_name_co : Fld Z h26 co "com/example/ngazi/ngazi/cli/CommandOption" "name" "Ljava/lang/String;" (.ref a1) := F_name_co.other W26 (Or.inr (slot_ne (Or.inr (ww hw 69 rfl)) (Or.inr (ww hw 71 rfl)) (by decide) (t := (.object "java/lang/String")) (t' := (.object "java/lang/String")) (by decide) (by decide)))
  replace F_label_co : Fld Z h26 co "com/example/ngazi/ngazi/cli/CommandOption" "label" "Ljava/lang/String;" (.ref a2) := F_label_co.same W26
  replace F_description_co : Fld Z h26 co "com/example/ngazi/ngazi/cli/CommandOption" "description" "Ljava/lang/String;" u2 := F_description_co.other W26 (Or.inr (slot_ne (Or.inr (ww hw 73 rfl)) (Or.inr (ww hw 71 rfl)) (by decide) (t := (.object "java/lang/String")) (t' := (.object "java/lang/String")) (by decide) (by decide)))
  replace F_required_co : Fld Z h26 co "com/example/ngazi/ngazi/cli/CommandOption" "required" "Z" u3 := F_required_co.other W26 (Or.inr (slot_ne (Or.inr (ww hw 75 rfl)) (Or.inr (ww hw 71 rfl)) (by decide) (t := .boolean) (t' := (.object "java/lang/String")) (by decide) (by decide)))
  replace F_environmentVariable_co : Fld Z h26 co "com/example/ngazi/ngazi/cli/CommandOption" "environmentVariable" "Ljava/lang/String;" u4 := F_environmentVariable_co.other W26 (Or.inr (slot_ne (Or.inr (ww hw 77 rfl)) (Or.inr (ww hw 71 rfl)) (by decide) (t := (.object "java/lang/String")) (t' := (.object "java/lang/String")) (by decide) (by decide)))
  replace F_defaultValue_co : Fld Z h26 co "com/example/ngazi/ngazi/cli/CommandOption" "defaultValue" "Ljava/lang/String;" u5 := F_defaultValue_co.other W26 (Or.inr (slot_ne (Or.inr (ww hw 79 rfl)) (Or.inr (ww hw 71 rfl)) (by decide) (t := (.object "java/lang/String")) (t' := (.object "java/lang/String")) (by decide) (by decide)))
  replace CR : CHr Z ELs s.vm h0 T17.vm h26 := CR.trans (CHr.wr W26 sfw26 CR.1)
  replace hk := Nat.le_trans hk (Keep.of_wr W26).1
  have P28 : ∀ tt_, GG p e below T26 (mkF m 37 #[.val (.ref co), .val (.ref a1), .val (.ref a2), .val (.ref a3), .val (.int (0 : Int32)), .val .null, .val .null] [(.ref a3), (.ref co)]) tt_ → Steps p.tables e below s0 tt_ := fun tt_ kk_ => P27 tt_ (by
    refine XS.aloadN X26.here hx rfl (hb hby d_init7_35) rfl rfl ?_
    refine XS.aloadN X26.here hx rfl (hb hby d_init7_36) rfl rfl ?_
    exact kk_)
  obtain ⟨T29, h29, X29, e29, W29, st29⟩ := putF X26 hx hZ hown (host := "") (Or.inl (ww hw 72 rfl)) Via.refl e26 F_description_co E_co (Or.inr ⟨(ww hw 73 rfl), rfl, hnm⟩) (ww hw 49 rfl) (ty := (.object "java/lang/String")) (by decide) rfl rfl (g := (mkF m 37 #[.val (.ref co), .val (.ref a1), .val (.ref a2), .val (.ref a3), .val (.int (0 : Int32)), .val .null, .val .null] [(.ref a3), (.ref co)])) rfl rfl (hb hby d_init7_37)
  have P30 : ∀ tt_, GG p e below T29 (mkF m 40 #[.val (.ref co), .val (.ref a1), .val (.ref a2), .val (.ref a3), .val (.int (0 : Int32)), .val .null, .val .null] []) tt_ → Steps p.tables e below s0 tt_ := fun tt_ kk_ => P28 tt_ (st29 _ kk_)
  have N29 := Fr.snoc X29 N26 g_co
  have K29 : Keep h0 h29 [co] := K26.wr W29 (Or.inl (List.mem_of_getElem? (i := 0) rfl))
  have sfw29 : Safe Z ELs T17.vm h26 co := (Safe.exa hZ.alike E_co (by decide) (by decide))
  replace E_co : Exa Z h29 co "com/example/ngazi/ngazi/cli/CommandOption" := E_co.wr W29
  replace F_name_co : Fld Z h29 co "com/example/ngazi/ngazi/cli/CommandOption" "name" "Ljava/lang/String;" (.ref a1) := F_name_co.other W29 (Or.inr (slot_ne (Or.inr (ww hw 69 rfl)) (Or.inr (ww hw 73 rfl)) (by decide) (t := (.object "java/lang/String")) (t' := (.object "java/lang/String")) (by decide) (by decide)))
  replace F_label_co : Fld Z h29 co "com/example/ngazi/ngazi/cli/CommandOption" "label" "Ljava/lang/String;" (.ref a2) := F_label_co.other W29 (Or.inr (slot_ne (Or.inr (ww hw 71 rfl)) (Or.inr (ww hw 73 rfl)) (by decide) (t := (.object "java/lang/String")) (t' := (.object "java/lang/String")) (by decide) (by decide)))
  replace F_description_co : Fld Z h29 co "com/example/ngazi/ngazi/cli/CommandOption" "description" "Ljava/lang/String;" (.ref a3) := F_description_co.same W29
  replace F_required_co : Fld Z h29 co "com/example/ngazi/ngazi/cli/CommandOption" "required" "Z" u3 := F_required_co.other W29 (Or.inr (slot_ne (Or.inr (ww hw 75 rfl)) (Or.inr (ww hw 73 rfl)) (by decide) (t := .boolean) (t' := (.object "java/lang/String")) (by decide) (by decide)))
  replace F_environmentVariable_co : Fld Z h29 co "com/example/ngazi/ngazi/cli/CommandOption" "environmentVariable" "Ljava/lang/String;" u4 := F_environmentVariable_co.other W29 (Or.inr (slot_ne (Or.inr (ww hw 77 rfl)) (Or.inr (ww hw 73 rfl)) (by decide) (t := (.object "java/lang/String")) (t' := (.object "java/lang/String")) (by decide) (by decide)))
  replace F_defaultValue_co : Fld Z h29 co "com/example/ngazi/ngazi/cli/CommandOption" "defaultValue" "Ljava/lang/String;" u5 := F_defaultValue_co.other W29 (Or.inr (slot_ne (Or.inr (ww hw 79 rfl)) (Or.inr (ww hw 73 rfl)) (by decide) (t := (.object "java/lang/String")) (t' := (.object "java/lang/String")) (by decide) (by decide)))
  replace CR : CHr Z ELs s.vm h0 T17.vm h29 := CR.trans (CHr.wr W29 sfw29 CR.1)
  replace hk := Nat.le_trans hk (Keep.of_wr W29).1
  have P31 : ∀ tt_, GG p e below T29 (mkF m 43 #[.val (.ref co), .val (.ref a1), .val (.ref a2), .val (.ref a3), .val (.int (0 : Int32)), .val .null, .val .null] [(.int (0 : Int32)), (.ref co)]) tt_ → Steps p.tables e below s0 tt_ := fun tt_ kk_ => P30 tt_ (by
    refine XS.aloadN X29.here hx rfl (hb hby d_init7_40) rfl rfl ?_
    refine XS.iload X29.here hx rfl (hb hby d_init7_41) rfl ?_
    exact kk_)
  obtain ⟨T32, h32, X32, e32, W32, st32⟩ := putFN X29 hx hZ hown (ww hw 74 rfl) Via.refl e29 F_required_co E_co (Or.inr ⟨(ww hw 75 rfl), rfl, hnm⟩) (ww hw 49 rfl) (ty := .boolean) (v' := (.int (0 : Int32))) (by decide) rfl (rfl) (g := (mkF m 43 #[.val (.ref co), .val (.ref a1), .val (.ref a2), .val (.ref a3), .val (.int (0 : Int32)), .val .null, .val .null] [(.int (0 : Int32)), (.ref co)])) rfl rfl (hb hby d_init7_43)
  have P33 : ∀ tt_, GG p e below T32 (mkF m 46 #[.val (.ref co), .val (.ref a1), .val (.ref a2), .val (.ref a3), .val (.int (0 : Int32)), .val .null, .val .null] []) tt_ → Steps p.tables e below s0 tt_ := fun tt_ kk_ => P31 tt_ (st32 _ kk_)
  have N32 := Fr.snoc X32 N29 g_co
  have K32 : Keep h0 h32 [co] := K29.wr W32 (Or.inl (List.mem_of_getElem? (i := 0) rfl))
  have sfw32 : Safe Z ELs T17.vm h29 co := (Safe.exa hZ.alike E_co (by decide) (by decide))
  replace E_co : Exa Z h32 co "com/example/ngazi/ngazi/cli/CommandOption" := E_co.wr W32
  replace F_name_co : Fld Z h32 co "com/example/ngazi/ngazi/cli/CommandOption" "name" "Ljava/lang/String;" (.ref a1) := F_name_co.other W32 (Or.inr (slot_ne (Or.inr (ww hw 69 rfl)) (Or.inr (ww hw 75 rfl)) (by decide) (t := (.object "java/lang/String")) (t' := .boolean) (by decide) (by decide)))
  replace F_label_co : Fld Z h32 co "com/example/ngazi/ngazi/cli/CommandOption" "label" "Ljava/lang/String;" (.ref a2) := F_label_co.other W32 (Or.inr (slot_ne (Or.inr (ww hw 71 rfl)) (Or.inr (ww hw 75 rfl)) (by decide) (t := (.object "java/lang/String")) (t' := .boolean) (by decide) (by decide)))
  replace F_description_co : Fld Z h32 co "com/example/ngazi/ngazi/cli/CommandOption" "description" "Ljava/lang/String;" (.ref a3) := F_description_co.other W32 (Or.inr (slot_ne (Or.inr (ww hw 73 rfl)) (Or.inr (ww hw 75 rfl)) (by decide) (t := (.object "java/lang/String")) (t' := .boolean) (by decide) (by decide)))
  replace F_required_co : Fld Z h32 co "com/example/ngazi/ngazi/cli/CommandOption" "required" "Z" (.int (0 : Int32)) := F_required_co.same W32
  replace F_environmentVariable_co : Fld Z h32 co "com/example/ngazi/ngazi/cli/CommandOption" "environmentVariable" "Ljava/lang/String;" u4 := F_environmentVariable_co.other W32 (Or.inr (slot_ne (Or.inr (ww hw 77 rfl)) (Or.inr (ww hw 75 rfl)) (by decide) (t := (.object "java/lang/String")) (t' := .boolean) (by decide) (by decide)))
  replace F_defaultValue_co : Fld Z h32 co "com/example/ngazi/ngazi/cli/CommandOption" "defaultValue" "Ljava/lang/String;" u5 := F_defaultValue_co.other W32 (Or.inr (slot_ne (Or.inr (ww hw 79 rfl)) (Or.inr (ww hw 75 rfl)) (by decide) (t := (.object "java/lang/String")) (t' := .boolean) (by decide) (by decide)))
  replace CR : CHr Z ELs s.vm h0 T17.vm h32 := CR.trans (CHr.wr W32 sfw32 CR.1)
  replace hk := Nat.le_trans hk (Keep.of_wr W32).1
  have P34 : ∀ tt_, GG p e below T32 (mkF m 49 #[.val (.ref co), .val (.ref a1), .val (.ref a2), .val (.ref a3), .val (.int (0 : Int32)), .val .null, .val .null] [.null, (.ref co)]) tt_ → Steps p.tables e below s0 tt_ := fun tt_ kk_ => P33 tt_ (by
    refine XS.aloadN X32.here hx rfl (hb hby d_init7_46) rfl rfl ?_
    refine XS.aload X32.here hx rfl (hb hby d_init7_47) rfl rfl ?_
    exact kk_)
  obtain ⟨T35, h35, X35, e35, W35, st35⟩ := putF X32 hx hZ hown (host := "") (Or.inl (ww hw 76 rfl)) Via.refl e32 F_environmentVariable_co E_co (Or.inr ⟨(ww hw 77 rfl), rfl, hnm⟩) (ww hw 49 rfl) (ty := (.object "java/lang/String")) (by decide) rfl rfl (g := (mkF m 49 #[.val (.ref co), .val (.ref a1), .val (.ref a2), .val (.ref a3), .val (.int (0 : Int32)), .val .null, .val .null] [.null, (.ref co)])) rfl rfl (hb hby d_init7_49)
  have P36 : ∀ tt_, GG p e below T35 (mkF m 52 #[.val (.ref co), .val (.ref a1), .val (.ref a2), .val (.ref a3), .val (.int (0 : Int32)), .val .null, .val .null] []) tt_ → Steps p.tables e below s0 tt_ := fun tt_ kk_ => P34 tt_ (st35 _ kk_)
  have N35 := Fr.snoc X35 N32 g_co
  have K35 : Keep h0 h35 [co] := K32.wr W35 (Or.inl (List.mem_of_getElem? (i := 0) rfl))
  have sfw35 : Safe Z ELs T17.vm h32 co := (Safe.exa hZ.alike E_co (by decide) (by decide))
  replace E_co : Exa Z h35 co "com/example/ngazi/ngazi/cli/CommandOption" := E_co.wr W35
  replace F_name_co : Fld Z h35 co "com/example/ngazi/ngazi/cli/CommandOption" "name" "Ljava/lang/String;" (.ref a1) := F_name_co.other W35 (Or.inr (slot_ne (Or.inr (ww hw 69 rfl)) (Or.inr (ww hw 77 rfl)) (by decide) (t := (.object "java/lang/String")) (t' := (.object "java/lang/String")) (by decide) (by decide)))
  replace F_label_co : Fld Z h35 co "com/example/ngazi/ngazi/cli/CommandOption" "label" "Ljava/lang/String;" (.ref a2) := F_label_co.other W35 (Or.inr (slot_ne (Or.inr (ww hw 71 rfl)) (Or.inr (ww hw 77 rfl)) (by decide) (t := (.object "java/lang/String")) (t' := (.object "java/lang/String")) (by decide) (by decide)))
  replace F_description_co : Fld Z h35 co "com/example/ngazi/ngazi/cli/CommandOption" "description" "Ljava/lang/String;" (.ref a3) := F_description_co.other W35 (Or.inr (slot_ne (Or.inr (ww hw 73 rfl)) (Or.inr (ww hw 77 rfl)) (by decide) (t := (.object "java/lang/String")) (t' := (.object "java/lang/String")) (by decide) (by decide)))
  replace F_required_co : Fld Z h35 co "com/example/ngazi/ngazi/cli/CommandOption" "required" "Z" (.int (0 : Int32)) := F_required_co.other W35 (Or.inr (slot_ne (Or.inr (ww hw 75 rfl)) (Or.inr (ww hw 77 rfl)) (by decide) (t := .boolean) (t' := (.object "java/lang/String")) (by decide) (by decide)))
  replace F_environmentVariable_co : Fld Z h35 co "com/example/ngazi/ngazi/cli/CommandOption" "environmentVariable" "Ljava/lang/String;" .null := F_environmentVariable_co.same W35
  replace F_defaultValue_co : Fld Z h35 co "com/example/ngazi/ngazi/cli/CommandOption" "defaultValue" "Ljava/lang/String;" u5 := F_defaultValue_co.other W35 (Or.inr (slot_ne (Or.inr (ww hw 79 rfl)) (Or.inr (ww hw 77 rfl)) (by decide) (t := (.object "java/lang/String")) (t' := (.object "java/lang/String")) (by decide) (by decide)))
  replace CR : CHr Z ELs s.vm h0 T17.vm h35 := CR.trans (CHr.wr W35 sfw35 CR.1)
  replace hk := Nat.le_trans hk (Keep.of_wr W35).1
  have P37 : ∀ tt_, GG p e below T35 (mkF m 55 #[.val (.ref co), .val (.ref a1), .val (.ref a2), .val (.ref a3), .val (.int (0 : Int32)), .val .null, .val .null] [.null, (.ref co)]) tt_ → Steps p.tables e below s0 tt_ := fun tt_ kk_ => P36 tt_ (by
    refine XS.aloadN X35.here hx rfl (hb hby d_init7_52) rfl rfl ?_
    refine XS.aload X35.here hx rfl (hb hby d_init7_53) rfl rfl ?_
    exact kk_)
  obtain ⟨T38, h38, X38, e38, W38, st38⟩ := putF X35 hx hZ hown (host := "") (Or.inl (ww hw 78 rfl)) Via.refl e35 F_defaultValue_co E_co (Or.inr ⟨(ww hw 79 rfl), rfl, hnm⟩) (ww hw 49 rfl) (ty := (.object "java/lang/String")) (by decide) rfl rfl (g := (mkF m 55 #[.val (.ref co), .val (.ref a1), .val (.ref a2), .val (.ref a3), .val (.int (0 : Int32)), .val .null, .val .null] [.null, (.ref co)])) rfl rfl (hb hby d_init7_55)
  have P39 : ∀ tt_, GG p e below T38 (mkF m 58 #[.val (.ref co), .val (.ref a1), .val (.ref a2), .val (.ref a3), .val (.int (0 : Int32)), .val .null, .val .null] []) tt_ → Steps p.tables e below s0 tt_ := fun tt_ kk_ => P37 tt_ (st38 _ kk_)
  have N38 := Fr.snoc X38 N35 g_co
  have K38 : Keep h0 h38 [co] := K35.wr W38 (Or.inl (List.mem_of_getElem? (i := 0) rfl))
  have sfw38 : Safe Z ELs T17.vm h35 co := (Safe.exa hZ.alike E_co (by decide) (by decide))
  replace E_co : Exa Z h38 co "com/example/ngazi/ngazi/cli/CommandOption" := E_co.wr W38
  replace F_name_co : Fld Z h38 co "com/example/ngazi/ngazi/cli/CommandOption" "name" "Ljava/lang/String;" (.ref a1) := F_name_co.other W38 (Or.inr (slot_ne (Or.inr (ww hw 69 rfl)) (Or.inr (ww hw 79 rfl)) (by decide) (t := (.object "java/lang/String")) (t' := (.object "java/lang/String")) (by decide) (by decide)))
  replace F_label_co : Fld Z h38 co "com/example/ngazi/ngazi/cli/CommandOption" "label" "Ljava/lang/String;" (.ref a2) := F_label_co.other W38 (Or.inr (slot_ne (Or.inr (ww hw 71 rfl)) (Or.inr (ww hw 79 rfl)) (by decide) (t := (.object "java/lang/String")) (t' := (.object "java/lang/String")) (by decide) (by decide)))
  replace F_description_co : Fld Z h38 co "com/example/ngazi/ngazi/cli/CommandOption" "description" "Ljava/lang/String;" (.ref a3) := F_description_co.other W38 (Or.inr (slot_ne (Or.inr (ww hw 73 rfl)) (Or.inr (ww hw 79 rfl)) (by decide) (t := (.object "java/lang/String")) (t' := (.object "java/lang/String")) (by decide) (by decide)))
  replace F_required_co : Fld Z h38 co "com/example/ngazi/ngazi/cli/CommandOption" "required" "Z" (.int (0 : Int32)) := F_required_co.other W38 (Or.inr (slot_ne (Or.inr (ww hw 75 rfl)) (Or.inr (ww hw 79 rfl)) (by decide) (t := .boolean) (t' := (.object "java/lang/String")) (by decide) (by decide)))
  replace F_environmentVariable_co : Fld Z h38 co "com/example/ngazi/ngazi/cli/CommandOption" "environmentVariable" "Ljava/lang/String;" .null := F_environmentVariable_co.other W38 (Or.inr (slot_ne (Or.inr (ww hw 77 rfl)) (Or.inr (ww hw 79 rfl)) (by decide) (t := (.object "java/lang/String")) (t' := (.object "java/lang/String")) (by decide) (by decide)))
  replace F_defaultValue_co : Fld Z h38 co "com/example/ngazi/ngazi/cli/CommandOption" "defaultValue" "Ljava/lang/String;" .null := F_defaultValue_co.same W38
  replace CR : CHr Z ELs s.vm h0 T17.vm h38 := CR.trans (CHr.wr W38 sfw38 CR.1)
  replace hk := Nat.le_trans hk (Keep.of_wr W38).1
  subst hs0
  obtain ⟨fs, hr, hrun, hended, hREW⟩ := X38.leaveW hS (by rw [e38]; exact hk) (v := none) (fun _ => rfl)
  have CRT := CR.trans (CHv.at X38 hZ hEL CR.1)
  refine ⟨_, _, P39 _ ?_, hrun, hended, _, _, rfl, ?_, ?_, hREW.1, hREW.2.1, hREW.2.2.1, hREW.2.2.2.mono (by decide) (by decide)⟩
  · show GG p e below T38 (mkF m 58 #[.val (.ref co), .val (.ref a1), .val (.ref a2), .val (.ref a3), .val (.int (0 : Int32)), .val .null, .val .null] []) _
    exact X38.returnOut hx Bd.returns (hb hby d_init7_58) hr
  · show Q_coInitN Z co a1 a2 a3 u0 u1 u2 u3 u4 u5 h0 n0 _ T38.heap _
    rw [e38]
    exact ⟨rfl, N38, K38, E_co, F_name_co, F_label_co, F_description_co, F_required_co, F_environmentVariable_co, F_defaultValue_co⟩
  · show CHr Z ELs s.vm s.heap T38.vm T38.heap
    rw [hh, e38]
    exact CRT
theorem ef_coFromN (m : MethodId) (x0 : Addr) (x1 : Addr) (x2 : Addr) : entryFrame m #[(.ref x0), (.ref x1), (.ref x2), .null] 4 = mkF m 0 #[.val (.ref x0), .val (.ref x1), .val (.ref x2), .val .null] [] := by first | (simp [entryFrame, mkF, argsToLocals, Value.category]; done) | rfl
def Q_coFromN (Z : State) (a1 : Addr) (a2 : Addr) (a3 : Addr) (h0 : Heap) (n0 : Nat) (v : Option Value) (h : Heap) (L : List Loc) : Prop := ∃ (co : Addr), v = some (.ref co) ∧ Fr n0 L ∧ Keep h0 h [] ∧ (h0.size ≤ co) ∧ (Exa Z h co "com/example/ngazi/ngazi/cli/CommandOption") ∧ (Fld Z h co "com/example/ngazi/ngazi/cli/CommandOption" "name" "Ljava/lang/String;" (.ref a1)) ∧ (Fld Z h co "com/example/ngazi/ngazi/cli/CommandOption" "label" "Ljava/lang/String;" (.ref a2)) ∧ (Fld Z h co "com/example/ngazi/ngazi/cli/CommandOption" "description" "Ljava/lang/String;" (.ref a3)) ∧ (Fld Z h co "com/example/ngazi/ngazi/cli/CommandOption" "required" "Z" (.int (0 : Int32))) ∧ (Fld Z h co "com/example/ngazi/ngazi/cli/CommandOption" "environmentVariable" "Ljava/lang/String;" .null) ∧ (Fld Z h co "com/example/ngazi/ngazi/cli/CommandOption" "defaultValue" "Ljava/lang/String;" .null)
set_option maxRecDepth 65536 in
set_option maxHeartbeats 40000000 in
theorem rm_coFromN (l : Launch) (Z : State) (a0 : Array Value) (hw : ∀ d ∈ tables_1, d.before a0 Z = true) (hEL : EW Z a0 ELs) (ws : List Jvm.Cond) (a1 : Addr) (a2 : Addr) (a3 : Addr) (h0 : Heap) (n0 : Nat) (Z0 : n0 ≤ h0.size) :
    MetFree l (⟨"com/example/ngazi/ngazi/cli/CommandOption", "fromEnvironment", "(Ljava/lang/String;Ljava/lang/String;Ljava/lang/String;Ljava/lang/String;)Lcom/example/ngazi/ngazi/cli/CommandOption;"⟩ : MethodName) (head1 (Jvm.Cond.code (⟨"com/example/ngazi/ngazi/cli/CommandOption", "fromEnvironment", "(Ljava/lang/String;Ljava/lang/String;Ljava/lang/String;Ljava/lang/String;)Lcom/example/ngazi/ngazi/cli/CommandOption;"⟩ : MethodName) prog_5_method_4_code 4 (some (.object "com/example/ngazi/ngazi/cli/CommandOption")) :: ws) ({ frames := 3, cells := 7, slots := 98, locals := 43 } : Room)) (fun a U => a = #[(.ref a1), (.ref a2), (.ref a3), .null] ∧ Z.Warmed39 U.vm ∧ U.heap = h0 ∧ CHv Z ELs U.vm h0) (fun _ _ _ _ _ => True) (fun _ U o U' => ∃ v L, o = .returned v ∧ Q_coFromN Z a1 a2 a3 h0 n0 v U'.heap L ∧ CHr Z ELs U.vm U.heap U'.vm U'.heap ∧ ReturnedEndW U o U' L ({ frames := 3, cells := 7, slots := 98, locals := 43 } : Room).cells ({ frames := 3, cells := 7, slots := 98, locals := 43 } : Room).slots) := by
  refine MetFree.of_bodySF (plainFor_of_name pn_7) hisR ?_
  intro p e s m args below meth c s₁ Bd hml0 hP hK
  obtain ⟨rfl, hZ, hh, hCH⟩ := hP
  have hx := Bd.exec
  have hby := Bd.bytes
  have hml : c.maxLocals = 4 := hml0
  have hown : s.vm.findClass "com/example/ngazi/ngazi/cli/CommandOption" = some m.cls := findClass_of_methodNamed Bd.named
  have hnm := (name_of_methodNamed Bd.named Bd.method).1
  have X0 : Stand p l e ({ frames := 3, cells := 7, slots := 98, locals := 43 } : Room) (s.setVm s.vm) m #[(.ref a1), (.ref a2), (.ref a3), .null] below meth c s₁ [] 0 0 := Stand.of_body Bd
  replace hZ : Z.Warmed39 (s.setVm s.vm).vm := hZ
  replace hown : (s.setVm s.vm).vm.findClass "com/example/ngazi/ngazi/cli/CommandOption" = some m.cls := hown
  have hS : s.Since s.vm 0 := (State.WarmedH.refl s).since 0
  have hk : 0 ≤ h0.size := Nat.zero_le _
  have CR : CHr Z ELs s.vm h0 s.vm h0 := CHr.refl hCH
  have e0 : s₁.heap = h0 := by rw [← hh, Bd.state]; rfl
  have N0 := Fr.nil n0
  obtain ⟨s0, hs0⟩ : ∃ z, z = (s₁.setTop (entryFrame m #[(.ref a1), (.ref a2), (.ref a3), .null] 4)) := ⟨_, rfl⟩
  have P0 : ∀ tt_, GG p e below s₁ (mkF m 0 #[.val (.ref a1), .val (.ref a2), .val (.ref a3), .val .null] []) tt_ → Steps p.tables e below s0 tt_ := fun tt_ kk_ => by rw [hs0]; exact castTop (ef_coFromN m a1 a2 a3) kk_
  obtain ⟨T1, h1, X1, e1, E1, A1, D1, -, st1⟩ := newO X0 hx hZ hown (ww hw 48 rfl) (ww hw 49 rfl) (ww hw 46 rfl) e0 (g := (mkF m 0 #[.val (.ref a1), .val (.ref a2), .val (.ref a3), .val .null] [])) rfl (hb hby d_fromEnvironment_0) (by decide) (by decide)
  obtain ⟨b1, g1⟩ : ∃ z, z = h0.size := ⟨_, rfl⟩
  rw [← g1] at A1 D1 st1
  have P2 : ∀ tt_, GG p e below T1 (mkF m 3 #[.val (.ref a1), .val (.ref a2), .val (.ref a3), .val .null] [(.ref b1)]) tt_ → Steps p.tables e below s0 tt_ := fun tt_ kk_ => P0 tt_ (st1 _ kk_)
  have sz_b1 : h0.size ≤ b1 := Nat.le_trans (Nat.le_refl h0.size) (Nat.le_of_eq g1.symm)
  have sf_b1 : Safe Z ELs s.vm h0 b1 := Safe.new (Nat.le_of_eq g1.symm)
  replace sf_b1 : Safe Z ELs s.vm h1 b1 := Safe.ext E1 CR.1 sf_b1
  replace CR : CHr Z ELs s.vm h0 s.vm h1 := CR.trans (CHr.ext E1 CR.1)
  replace hk := Nat.le_trans hk E1.1
  have K1 : Keep h0 h1 [] := (Keep.refl h0 []).ext E1
  obtain ⟨Lf3, X1, N3⟩ : ∃ Lf, Stand p l e ({ frames := 3, cells := 7, slots := 98, locals := 43 } : Room) (s.setVm s.vm) m #[(.ref a1), (.ref a2), (.ref a3), .null] below meth c T1 Lf 1 6 ∧ Fr n0 Lf := ⟨_, X1, N0⟩
  have E_b1 : Exa Z h1 b1 "com/example/ngazi/ngazi/cli/CommandOption" := A1
  have F_name_b1 : Fld Z h1 b1 "com/example/ngazi/ngazi/cli/CommandOption" "name" "Ljava/lang/String;" .null := D1 (Or.inr (ww hw 69 rfl)) (ty := (.object "java/lang/String")) (by decide)
  have F_label_b1 : Fld Z h1 b1 "com/example/ngazi/ngazi/cli/CommandOption" "label" "Ljava/lang/String;" .null := D1 (Or.inr (ww hw 71 rfl)) (ty := (.object "java/lang/String")) (by decide)
  have F_description_b1 : Fld Z h1 b1 "com/example/ngazi/ngazi/cli/CommandOption" "description" "Ljava/lang/String;" .null := D1 (Or.inr (ww hw 73 rfl)) (ty := (.object "java/lang/String")) (by decide)
  have F_required_b1 : Fld Z h1 b1 "com/example/ngazi/ngazi/cli/CommandOption" "required" "Z" (.int (0 : Int32)) := D1 (Or.inr (ww hw 75 rfl)) (ty := .boolean) (by decide)
  have F_environmentVariable_b1 : Fld Z h1 b1 "com/example/ngazi/ngazi/cli/CommandOption" "environmentVariable" "Ljava/lang/String;" .null := D1 (Or.inr (ww hw 77 rfl)) (ty := (.object "java/lang/String")) (by decide)
  have F_defaultValue_b1 : Fld Z h1 b1 "com/example/ngazi/ngazi/cli/CommandOption" "defaultValue" "Ljava/lang/String;" .null := D1 (Or.inr (ww hw 79 rfl)) (ty := (.object "java/lang/String")) (by decide)
  have P4 : ∀ tt_, GG p e below T1 (mkF m 10 #[.val (.ref a1), .val (.ref a2), .val (.ref a3), .val .null] [.null, .null, (.int (0 : Int32)), (.ref a3), (.ref a2), (.ref a1), (.ref b1), (.ref b1)]) tt_ → Steps p.tables e below s0 tt_ := fun tt_ kk_ => P2 tt_ (by
    refine XS.dup X1.here hx rfl (hb hby d_fromEnvironment_3) rfl rfl ?_
    refine XS.aloadN X1.here hx rfl (hb hby d_fromEnvironment_4) rfl rfl ?_
    refine XS.aloadN X1.here hx rfl (hb hby d_fromEnvironment_5) rfl rfl ?_
    refine XS.aloadN X1.here hx rfl (hb hby d_fromEnvironment_6) rfl rfl ?_
    refine XS.iconst X1.here hx rfl (hb hby d_fromEnvironment_7) ?_
    refine XS.aloadN X1.here hx rfl (hb hby d_fromEnvironment_8) rfl rfl ?_
    refine XS.aconstNull X1.here hx rfl (hb hby d_fromEnvironment_9) ?_
    exact kk_)
  obtain ⟨_, _, ⟨T5, L5, k5, n5⟩, -, X5, hS5, hg5, ⟨Lc5, hQ5, l5, y5, z5, cC5⟩, st5⟩ := X1.specialBackS hx (y := mn_20) rfl hown (mw hZ hw 50 rfl) (mw hZ hw 51 rfl) (mw hZ hw 52 rfl) (by decide) (backOfSH (W := 1) (rm_coInitN l Z a0 hw hEL [] b1 a1 a2 a3 .null .null .null (.int (0 : Int32)) .null .null h1 n0 (Nat.le_trans Z0 K1.1) E_b1 F_name_b1 F_label_b1 F_description_b1 F_required_b1 F_environmentVariable_b1 F_defaultValue_b1 (Nat.le_trans Z0 sz_b1)) hZ (ww hw 52 rfl) (ww hw 46 rfl) (by decide) (by decide) hEL CR.1) (g := (mkF m 10 #[.val (.ref a1), .val (.ref a2), .val (.ref a3), .val .null] [.null, .null, (.int (0 : Int32)), (.ref a3), (.ref a2), (.ref a1), (.ref b1), (.ref b1)])) rfl (by rw [hml]; rfl) (Steps.refl _) (a := b1) (argsL := [(.ref a1), (.ref a2), (.ref a3), (.int (0 : Int32)), .null, .null]) (rest := [(.ref b1)]) (lenOf pd_17 rfl) rfl (by show 2 * 0 + _ ≤ _; exact Nat.le_of_eq rfl) (hb hby d_fromEnvironment_10) (fun _ _ => ⟨rfl, e1, (by decide : 1 + 6 ≤ _), (by decide : 6 + 92 ≤ _)⟩)
  dsimp only [Pt.U, Pt.locs, Pt.cells, Pt.slots] at X5 l5 y5 z5 st5 hQ5 hS5 hg5 cC5
  subst l5 y5 z5
  obtain ⟨X5, hS, hZ, hown⟩ := rebS hS (by rw [e1]; exact hk) X5 hS5 hg5 hZ hown
  have hk : T5.heap.size ≤ T5.heap.size := Nat.le_refl _
  obtain ⟨rfl, N5q, Kc5, po5_0, po5_1, po5_2, po5_3, po5_4, po5_5, po5_6⟩ := hQ5
  have N5 := Fr.app N3 N5q
  obtain ⟨Lf6, X5, N6⟩ : ∃ Lf, Stand p l e ({ frames := 3, cells := 7, slots := 98, locals := 43 } : Room) (s.setVm T5.vm) m #[(.ref a1), (.ref a2), (.ref a3), .null] below meth c T5 Lf 7 98 ∧ Fr n0 Lf := ⟨_, X5, N5⟩
  have P7 : ∀ tt_, GG p e below T5 (mkF m 13 #[.val (.ref a1), .val (.ref a2), .val (.ref a3), .val .null] [(.ref b1)]) tt_ → Steps p.tables e below s0 tt_ := fun tt_ kk_ => P4 tt_ (st5.trans kk_)
  replace sf_b1 : Safe Z ELs T5.vm T5.heap b1 := cC5.safe E_b1.lt sf_b1
  replace E_b1 : Exa Z T5.heap b1 "com/example/ngazi/ngazi/cli/CommandOption" := E_b1.keep Kc5
  replace CR : CHr Z ELs s.vm h0 T5.vm T5.heap := CR.trans cC5
  have K5 : Keep h0 T5.heap [] := K1.trans Kc5 (allS (P := fun x => x ∈ [] ∨ h0.size ≤ x) (Or.inr sz_b1) all0)
  have E_b1 : Exa Z T5.heap b1 "com/example/ngazi/ngazi/cli/CommandOption" := po5_0
  have F_name_b1 : Fld Z T5.heap b1 "com/example/ngazi/ngazi/cli/CommandOption" "name" "Ljava/lang/String;" (.ref a1) := po5_1
  have F_label_b1 : Fld Z T5.heap b1 "com/example/ngazi/ngazi/cli/CommandOption" "label" "Ljava/lang/String;" (.ref a2) := po5_2
  have F_description_b1 : Fld Z T5.heap b1 "com/example/ngazi/ngazi/cli/CommandOption" "description" "Ljava/lang/String;" (.ref a3) := po5_3
  have F_required_b1 : Fld Z T5.heap b1 "com/example/ngazi/ngazi/cli/CommandOption" "required" "Z" (.int (0 : Int32)) := po5_4
  have F_environmentVariable_b1 : Fld Z T5.heap b1 "com/example/ngazi/ngazi/cli/CommandOption" "environmentVariable" "Ljava/lang/String;" .null := po5_5
  have F_defaultValue_b1 : Fld Z T5.heap b1 "com/example/ngazi/ngazi/cli/CommandOption" "defaultValue" "Ljava/lang/String;" .null := po5_6
  subst hs0
  obtain ⟨fs, hr, hrun, hended, hREW⟩ := X5.leaveW hS hk (v := some (.ref b1)) (fun h => by rw [Bd.returns] at h; cases h)
  have CRT := CR.trans (CHv.at X5 hZ hEL CR.1)
  refine ⟨_, _, P7 _ ?_, hrun, hended, _, _, rfl, ?_, ?_, hREW.1, hREW.2.1, hREW.2.2.1, hREW.2.2.2.mono (by decide) (by decide)⟩
  · show GG p e below T5 (mkF m 13 #[.val (.ref a1), .val (.ref a2), .val (.ref a3), .val .null] [(.ref b1)]) _
    jvm_step X5.here [X5.here.top, hx, (hb hby d_fromEnvironment_13), X5.method', Bd.returns, Value.isRef, FieldType.isReference]
    first | (intro acts; rw [hr _ acts rfl rfl rfl]) | rw [hr _ _ rfl rfl rfl]
    exact Steps.refl _
  · show Q_coFromN Z a1 a2 a3 h0 n0 _ T5.heap _
    exact ⟨b1, rfl, N6, K5, sz_b1, E_b1, F_name_b1, F_label_b1, F_description_b1, F_required_b1, F_environmentVariable_b1, F_defaultValue_b1⟩
  · show CHr Z ELs s.vm s.heap T5.vm T5.heap
    rw [hh]
    exact CRT
theorem ef_get_nameE (m : MethodId) (x0 : Addr) : entryFrame m #[(.ref x0)] 1 = mkF m 0 #[.val (.ref x0)] [] := by first | (simp [entryFrame, mkF, argsToLocals, Value.category]; done) | rfl
theorem d_name_0 : decode prog_5_method_11_code 0 = .ok (.aload_n 0, 1) := by decide +kernel
theorem d_name_1 : decode prog_5_method_11_code 1 = .ok (.getfield 19, 3) := by decide +kernel
theorem d_name_4 : decode prog_5_method_11_code 4 = .ok (.areturn, 1) := by decide +kernel
def Q_get_nameE (Z : State) (co : Addr) (av : Addr) (h0 : Heap) (n0 : Nat) (v : Option Value) (h : Heap) (L : List Loc) : Prop := v = some (.ref av) ∧ Fr n0 L ∧ h = h0
set_option maxRecDepth 65536 in
set_option maxHeartbeats 40000000 in
theorem rm_get_nameE (l : Launch) (Z : State) (a0 : Array Value) (hw : ∀ d ∈ tables_1, d.before a0 Z = true) (ws : List Jvm.Cond) (co : Addr) (av : Addr) (h0 : Heap) (n0 : Nat) (Z0 : n0 ≤ h0.size) (F_name_co : Fld Z h0 co "com/example/ngazi/ngazi/cli/CommandOption" "name" "Ljava/lang/String;" (.ref av)) :
    MetFree l (⟨"com/example/ngazi/ngazi/cli/CommandOption", "name", "()Ljava/lang/String;"⟩ : MethodName) (head1 (Jvm.Cond.code (⟨"com/example/ngazi/ngazi/cli/CommandOption", "name", "()Ljava/lang/String;"⟩ : MethodName) prog_5_method_11_code 1 (some (.object "java/lang/String")) :: ws) ({ frames := 0, cells := 0, slots := 0, locals := 0 } : Room)) (fun a U => a = #[(.ref co)] ∧ Z.Warmed39 U.vm ∧ U.heap = h0) (fun _ _ _ _ _ => True) (fun _ U o U' => ∃ v L, o = .returned v ∧ Q_get_nameE Z co av h0 n0 v U'.heap L ∧ FrameEnd U o U' L ({ frames := 0, cells := 0, slots := 0, locals := 0 } : Room).cells ({ frames := 0, cells := 0, slots := 0, locals := 0 } : Room).slots) := by
  refine MetFree.of_bodySF (plainFor_of_name pn_7) hisR ?_
  intro p e s m args below meth c s₁ Bd hml0 hP hK
  obtain ⟨rfl, hZ, hh⟩ := hP
  have hx := Bd.exec
  have hby := Bd.bytes
  have hml : c.maxLocals = 1 := hml0
  have hown : s.vm.findClass "com/example/ngazi/ngazi/cli/CommandOption" = some m.cls := findClass_of_methodNamed Bd.named
  have hnm := (name_of_methodNamed Bd.named Bd.method).1
  have X0 : Stand p l e ({ frames := 0, cells := 0, slots := 0, locals := 0 } : Room) s m #[(.ref co)] below meth c s₁ [] 0 0 := Stand.of_body Bd
  have e0 : s₁.heap = h0 := by rw [← hh, Bd.state]; rfl
  have N0 := Fr.nil n0
  obtain ⟨s0, hs0⟩ : ∃ z, z = (s₁.setTop (entryFrame m #[(.ref co)] 1)) := ⟨_, rfl⟩
  have P0 : ∀ tt_, GG p e below s₁ (mkF m 0 #[.val (.ref co)] []) tt_ → Steps p.tables e below s0 tt_ := fun tt_ kk_ => by rw [hs0]; exact castTop (ef_get_nameE m co) kk_
  have P1 : ∀ tt_, GG p e below s₁ (mkF m 1 #[.val (.ref co)] [(.ref co)]) tt_ → Steps p.tables e below s0 tt_ := fun tt_ kk_ => P0 tt_ (by
    refine XS.aloadN X0.here hx rfl (hb hby d_name_0) rfl rfl ?_
    exact kk_)
  obtain ⟨T2, X2, e2, st2⟩ := getF X0 hx hZ hown (host := "") (Or.inl (ww hw 68 rfl)) Via.refl e0 F_name_co (g := (mkF m 1 #[.val (.ref co)] [(.ref co)])) rfl rfl (hb hby d_name_1)
  have P3 : ∀ tt_, GG p e below T2 (mkF m 4 #[.val (.ref co)] [(.ref av)]) tt_ → Steps p.tables e below s0 tt_ := fun tt_ kk_ => P1 tt_ (st2 _ kk_)
  subst hs0
  obtain ⟨fs, hr, hrun, hended, hW, hsame⟩ := X2.leave (v := some (.ref av)) (fun h => by rw [Bd.returns] at h; cases h)
  refine ⟨_, _, P3 _ ?_, hrun, hended, _, _, rfl, ?_, ⟨_, rfl⟩, hW, hsame.mono (by decide) (by decide)⟩
  · show GG p e below T2 (mkF m 4 #[.val (.ref co)] [(.ref av)]) _
    jvm_step X2.here [X2.here.top, hx, (hb hby d_name_4), X2.method', Bd.returns, Value.isRef, FieldType.isReference]
    first | (intro acts; rw [hr _ acts rfl rfl rfl]) | rw [hr _ _ rfl rfl rfl]
    exact Steps.refl _
  · show Q_get_nameE Z co av h0 n0 _ T2.heap _
    rw [e2]
    exact ⟨rfl, N0, rfl⟩
theorem ef_get_labelE (m : MethodId) (x0 : Addr) : entryFrame m #[(.ref x0)] 1 = mkF m 0 #[.val (.ref x0)] [] := by first | (simp [entryFrame, mkF, argsToLocals, Value.category]; done) | rfl
theorem d_label_0 : decode prog_5_method_12_code 0 = .ok (.aload_n 0, 1) := by decide +kernel
theorem d_label_1 : decode prog_5_method_12_code 1 = .ok (.getfield 24, 3) := by decide +kernel
theorem d_label_4 : decode prog_5_method_12_code 4 = .ok (.areturn, 1) := by decide +kernel
def Q_get_labelE (Z : State) (co : Addr) (av : Addr) (h0 : Heap) (n0 : Nat) (v : Option Value) (h : Heap) (L : List Loc) : Prop := v = some (.ref av) ∧ Fr n0 L ∧ h = h0
set_option maxRecDepth 65536 in
set_option maxHeartbeats 40000000 in
theorem rm_get_labelE (l : Launch) (Z : State) (a0 : Array Value) (hw : ∀ d ∈ tables_1, d.before a0 Z = true) (ws : List Jvm.Cond) (co : Addr) (av : Addr) (h0 : Heap) (n0 : Nat) (Z0 : n0 ≤ h0.size) (F_label_co : Fld Z h0 co "com/example/ngazi/ngazi/cli/CommandOption" "label" "Ljava/lang/String;" (.ref av)) :
    MetFree l (⟨"com/example/ngazi/ngazi/cli/CommandOption", "label", "()Ljava/lang/String;"⟩ : MethodName) (head1 (Jvm.Cond.code (⟨"com/example/ngazi/ngazi/cli/CommandOption", "label", "()Ljava/lang/String;"⟩ : MethodName) prog_5_method_12_code 1 (some (.object "java/lang/String")) :: ws) ({ frames := 0, cells := 0, slots := 0, locals := 0 } : Room)) (fun a U => a = #[(.ref co)] ∧ Z.Warmed39 U.vm ∧ U.heap = h0) (fun _ _ _ _ _ => True) (fun _ U o U' => ∃ v L, o = .returned v ∧ Q_get_labelE Z co av h0 n0 v U'.heap L ∧ FrameEnd U o U' L ({ frames := 0, cells := 0, slots := 0, locals := 0 } : Room).cells ({ frames := 0, cells := 0, slots := 0, locals := 0 } : Room).slots) := by
  refine MetFree.of_bodySF (plainFor_of_name pn_7) hisR ?_
  intro p e s m args below meth c s₁ Bd hml0 hP hK
  obtain ⟨rfl, hZ, hh⟩ := hP
  have hx := Bd.exec
  have hby := Bd.bytes
  have hml : c.maxLocals = 1 := hml0
  have hown : s.vm.findClass "com/example/ngazi/ngazi/cli/CommandOption" = some m.cls := findClass_of_methodNamed Bd.named
  have hnm := (name_of_methodNamed Bd.named Bd.method).1
  have X0 : Stand p l e ({ frames := 0, cells := 0, slots := 0, locals := 0 } : Room) s m #[(.ref co)] below meth c s₁ [] 0 0 := Stand.of_body Bd
  have e0 : s₁.heap = h0 := by rw [← hh, Bd.state]; rfl
  have N0 := Fr.nil n0
  obtain ⟨s0, hs0⟩ : ∃ z, z = (s₁.setTop (entryFrame m #[(.ref co)] 1)) := ⟨_, rfl⟩
  have P0 : ∀ tt_, GG p e below s₁ (mkF m 0 #[.val (.ref co)] []) tt_ → Steps p.tables e below s0 tt_ := fun tt_ kk_ => by rw [hs0]; exact castTop (ef_get_labelE m co) kk_
  have P1 : ∀ tt_, GG p e below s₁ (mkF m 1 #[.val (.ref co)] [(.ref co)]) tt_ → Steps p.tables e below s0 tt_ := fun tt_ kk_ => P0 tt_ (by
    refine XS.aloadN X0.here hx rfl (hb hby d_label_0) rfl rfl ?_
    exact kk_)
  obtain ⟨T2, X2, e2, st2⟩ := getF X0 hx hZ hown (host := "") (Or.inl (ww hw 70 rfl)) Via.refl e0 F_label_co (g := (mkF m 1 #[.val (.ref co)] [(.ref co)])) rfl rfl (hb hby d_label_1)
  have P3 : ∀ tt_, GG p e below T2 (mkF m 4 #[.val (.ref co)] [(.ref av)]) tt_ → Steps p.tables e below s0 tt_ := fun tt_ kk_ => P1 tt_ (st2 _ kk_)
  subst hs0
  obtain ⟨fs, hr, hrun, hended, hW, hsame⟩ := X2.leave (v := some (.ref av)) (fun h => by rw [Bd.returns] at h; cases h)
  refine ⟨_, _, P3 _ ?_, hrun, hended, _, _, rfl, ?_, ⟨_, rfl⟩, hW, hsame.mono (by decide) (by decide)⟩
  · show GG p e below T2 (mkF m 4 #[.val (.ref co)] [(.ref av)]) _
    jvm_step X2.here [X2.here.top, hx, (hb hby d_label_4), X2.method', Bd.returns, Value.isRef, FieldType.isReference]
    first | (intro acts; rw [hr _ acts rfl rfl rfl]) | rw [hr _ _ rfl rfl rfl]
    exact Steps.refl _
  · show Q_get_labelE Z co av h0 n0 _ T2.heap _
    rw [e2]
    exact ⟨rfl, N0, rfl⟩
theorem ef_get_descriptionE (m : MethodId) (x0 : Addr) : entryFrame m #[(.ref x0)] 1 = mkF m 0 #[.val (.ref x0)] [] := by first | (simp [entryFrame, mkF, argsToLocals, Value.category]; done) | rfl
theorem d_description_0 : decode prog_5_method_13_code 0 = .ok (.aload_n 0, 1) := by decide +kernel
theorem d_description_1 : decode prog_5_method_13_code 1 = .ok (.getfield 26, 3) := by decide +kernel
theorem d_description_4 : decode prog_5_method_13_code 4 = .ok (.areturn, 1) := by decide +kernel
def Q_get_descriptionE (Z : State) (co : Addr) (av : Addr) (h0 : Heap) (n0 : Nat) (v : Option Value) (h : Heap) (L : List Loc) : Prop := v = some (.ref av) ∧ Fr n0 L ∧ h = h0
set_option maxRecDepth 65536 in
set_option maxHeartbeats 40000000 in
theorem rm_get_descriptionE (l : Launch) (Z : State) (a0 : Array Value) (hw : ∀ d ∈ tables_1, d.before a0 Z = true) (ws : List Jvm.Cond) (co : Addr) (av : Addr) (h0 : Heap) (n0 : Nat) (Z0 : n0 ≤ h0.size) (F_description_co : Fld Z h0 co "com/example/ngazi/ngazi/cli/CommandOption" "description" "Ljava/lang/String;" (.ref av)) :
    MetFree l (⟨"com/example/ngazi/ngazi/cli/CommandOption", "description", "()Ljava/lang/String;"⟩ : MethodName) (head1 (Jvm.Cond.code (⟨"com/example/ngazi/ngazi/cli/CommandOption", "description", "()Ljava/lang/String;"⟩ : MethodName) prog_5_method_13_code 1 (some (.object "java/lang/String")) :: ws) ({ frames := 0, cells := 0, slots := 0, locals := 0 } : Room)) (fun a U => a = #[(.ref co)] ∧ Z.Warmed39 U.vm ∧ U.heap = h0) (fun _ _ _ _ _ => True) (fun _ U o U' => ∃ v L, o = .returned v ∧ Q_get_descriptionE Z co av h0 n0 v U'.heap L ∧ FrameEnd U o U' L ({ frames := 0, cells := 0, slots := 0, locals := 0 } : Room).cells ({ frames := 0, cells := 0, slots := 0, locals := 0 } : Room).slots) := by
  refine MetFree.of_bodySF (plainFor_of_name pn_7) hisR ?_
  intro p e s m args below meth c s₁ Bd hml0 hP hK
  obtain ⟨rfl, hZ, hh⟩ := hP
  have hx := Bd.exec
  have hby := Bd.bytes
  have hml : c.maxLocals = 1 := hml0
  have hown : s.vm.findClass "com/example/ngazi/ngazi/cli/CommandOption" = some m.cls := findClass_of_methodNamed Bd.named
  have hnm := (name_of_methodNamed Bd.named Bd.method).1
  have X0 : Stand p l e ({ frames := 0, cells := 0, slots := 0, locals := 0 } : Room) s m #[(.ref co)] below meth c s₁ [] 0 0 := Stand.of_body Bd
  have e0 : s₁.heap = h0 := by rw [← hh, Bd.state]; rfl
  have N0 := Fr.nil n0
  obtain ⟨s0, hs0⟩ : ∃ z, z = (s₁.setTop (entryFrame m #[(.ref co)] 1)) := ⟨_, rfl⟩
  have P0 : ∀ tt_, GG p e below s₁ (mkF m 0 #[.val (.ref co)] []) tt_ → Steps p.tables e below s0 tt_ := fun tt_ kk_ => by rw [hs0]; exact castTop (ef_get_descriptionE m co) kk_
  have P1 : ∀ tt_, GG p e below s₁ (mkF m 1 #[.val (.ref co)] [(.ref co)]) tt_ → Steps p.tables e below s0 tt_ := fun tt_ kk_ => P0 tt_ (by
    refine XS.aloadN X0.here hx rfl (hb hby d_description_0) rfl rfl ?_
    exact kk_)
  obtain ⟨T2, X2, e2, st2⟩ := getF X0 hx hZ hown (host := "") (Or.inl (ww hw 72 rfl)) Via.refl e0 F_description_co (g := (mkF m 1 #[.val (.ref co)] [(.ref co)])) rfl rfl (hb hby d_description_1)
  have P3 : ∀ tt_, GG p e below T2 (mkF m 4 #[.val (.ref co)] [(.ref av)]) tt_ → Steps p.tables e below s0 tt_ := fun tt_ kk_ => P1 tt_ (st2 _ kk_)
  subst hs0
  obtain ⟨fs, hr, hrun, hended, hW, hsame⟩ := X2.leave (v := some (.ref av)) (fun h => by rw [Bd.returns] at h; cases h)
  refine ⟨_, _, P3 _ ?_, hrun, hended, _, _, rfl, ?_, ⟨_, rfl⟩, hW, hsame.mono (by decide) (by decide)⟩
  · show GG p e below T2 (mkF m 4 #[.val (.ref co)] [(.ref av)]) _
    jvm_step X2.here [X2.here.top, hx, (hb hby d_description_4), X2.method', Bd.returns, Value.isRef, FieldType.isReference]
    first | (intro acts; rw [hr _ acts rfl rfl rfl]) | rw [hr _ _ rfl rfl rfl]
    exact Steps.refl _
  · show Q_get_descriptionE Z co av h0 n0 _ T2.heap _
    rw [e2]
    exact ⟨rfl, N0, rfl⟩
theorem ef_get_required (m : MethodId) (x0 : Addr) : entryFrame m #[(.ref x0)] 1 = mkF m 0 #[.val (.ref x0)] [] := by first | (simp [entryFrame, mkF, argsToLocals, Value.category]; done) | rfl
theorem d_required_0 : decode prog_5_method_14_code 0 = .ok (.aload_n 0, 1) := by decide +kernel
theorem d_required_1 : decode prog_5_method_14_code 1 = .ok (.getfield 28, 3) := by decide +kernel
theorem d_required_4 : decode prog_5_method_14_code 4 = .ok (.ireturn, 1) := by decide +kernel
def Q_get_required (Z : State) (co : Addr) (h0 : Heap) (n0 : Nat) (v : Option Value) (h : Heap) (L : List Loc) : Prop := v = some (.int (0 : Int32)) ∧ Fr n0 L ∧ h = h0
set_option maxRecDepth 65536 in
set_option maxHeartbeats 40000000 in
theorem rm_get_required (l : Launch) (Z : State) (a0 : Array Value) (hw : ∀ d ∈ tables_1, d.before a0 Z = true) (ws : List Jvm.Cond) (co : Addr) (h0 : Heap) (n0 : Nat) (Z0 : n0 ≤ h0.size) (F_required_co : Fld Z h0 co "com/example/ngazi/ngazi/cli/CommandOption" "required" "Z" (.int (0 : Int32))) :
    MetFree l (⟨"com/example/ngazi/ngazi/cli/CommandOption", "required", "()Z"⟩ : MethodName) (head1 (Jvm.Cond.code (⟨"com/example/ngazi/ngazi/cli/CommandOption", "required", "()Z"⟩ : MethodName) prog_5_method_14_code 1 (some .boolean) :: ws) ({ frames := 0, cells := 0, slots := 0, locals := 0 } : Room)) (fun a U => a = #[(.ref co)] ∧ Z.Warmed39 U.vm ∧ U.heap = h0) (fun _ _ _ _ _ => True) (fun _ U o U' => ∃ v L, o = .returned v ∧ Q_get_required Z co h0 n0 v U'.heap L ∧ FrameEnd U o U' L ({ frames := 0, cells := 0, slots := 0, locals := 0 } : Room).cells ({ frames := 0, cells := 0, slots := 0, locals := 0 } : Room).slots) := by
  refine MetFree.of_bodySF (plainFor_of_name pn_7) hisR ?_
  intro p e s m args below meth c s₁ Bd hml0 hP hK
  obtain ⟨rfl, hZ, hh⟩ := hP
  have hx := Bd.exec
  have hby := Bd.bytes
  have hml : c.maxLocals = 1 := hml0
  have hown : s.vm.findClass "com/example/ngazi/ngazi/cli/CommandOption" = some m.cls := findClass_of_methodNamed Bd.named
  have hnm := (name_of_methodNamed Bd.named Bd.method).1
  have X0 : Stand p l e ({ frames := 0, cells := 0, slots := 0, locals := 0 } : Room) s m #[(.ref co)] below meth c s₁ [] 0 0 := Stand.of_body Bd
  have e0 : s₁.heap = h0 := by rw [← hh, Bd.state]; rfl
  have N0 := Fr.nil n0
  obtain ⟨s0, hs0⟩ : ∃ z, z = (s₁.setTop (entryFrame m #[(.ref co)] 1)) := ⟨_, rfl⟩
  have P0 : ∀ tt_, GG p e below s₁ (mkF m 0 #[.val (.ref co)] []) tt_ → Steps p.tables e below s0 tt_ := fun tt_ kk_ => by rw [hs0]; exact castTop (ef_get_required m co) kk_
  have P1 : ∀ tt_, GG p e below s₁ (mkF m 1 #[.val (.ref co)] [(.ref co)]) tt_ → Steps p.tables e below s0 tt_ := fun tt_ kk_ => P0 tt_ (by
    refine XS.aloadN X0.here hx rfl (hb hby d_required_0) rfl rfl ?_
    exact kk_)
  obtain ⟨T2, X2, e2, st2⟩ := getF X0 hx hZ hown (host := "") (Or.inl (ww hw 74 rfl)) Via.refl e0 F_required_co (g := (mkF m 1 #[.val (.ref co)] [(.ref co)])) rfl rfl (hb hby d_required_1)
  have P3 : ∀ tt_, GG p e below T2 (mkF m 4 #[.val (.ref co)] [(.int (0 : Int32))]) tt_ → Steps p.tables e below s0 tt_ := fun tt_ kk_ => P1 tt_ (st2 _ kk_)
  subst hs0
  obtain ⟨fs, hr, hrun, hended, hW, hsame⟩ := X2.leave (v := some (.int (nar .boolean (0 : Int32)))) (fun h => by rw [Bd.returns] at h; cases h)
  refine ⟨_, _, P3 _ ?_, hrun, hended, _, _, rfl, ?_, ⟨_, rfl⟩, hW, hsame.mono (by decide) (by decide)⟩
  · show GG p e below T2 (mkF m 4 #[.val (.ref co)] [(.int (0 : Int32))]) _
    exact retN X2 hx (t := .boolean) Bd.returns (by simp) (hb hby d_required_4) hr
  · show Q_get_required Z co h0 n0 _ T2.heap _
    rw [e2]
    exact ⟨rfl, N0, rfl⟩
theorem ef_get_environmentVariableE (m : MethodId) (x0 : Addr) : entryFrame m #[(.ref x0)] 1 = mkF m 0 #[.val (.ref x0)] [] := by first | (simp [entryFrame, mkF, argsToLocals, Value.category]; done) | rfl
theorem d_environmentVariable_0 : decode prog_5_method_15_code 0 = .ok (.aload_n 0, 1) := by decide +kernel
theorem d_environmentVariable_1 : decode prog_5_method_15_code 1 = .ok (.getfield 32, 3) := by decide +kernel
theorem d_environmentVariable_4 : decode prog_5_method_15_code 4 = .ok (.areturn, 1) := by decide +kernel
def Q_get_environmentVariableE (Z : State) (co : Addr) (av : Addr) (h0 : Heap) (n0 : Nat) (v : Option Value) (h : Heap) (L : List Loc) : Prop := v = some (.ref av) ∧ Fr n0 L ∧ h = h0
set_option maxRecDepth 65536 in
set_option maxHeartbeats 40000000 in
theorem rm_get_environmentVariableE (l : Launch) (Z : State) (a0 : Array Value) (hw : ∀ d ∈ tables_1, d.before a0 Z = true) (ws : List Jvm.Cond) (co : Addr) (av : Addr) (h0 : Heap) (n0 : Nat) (Z0 : n0 ≤ h0.size) (F_environmentVariable_co : Fld Z h0 co "com/example/ngazi/ngazi/cli/CommandOption" "environmentVariable" "Ljava/lang/String;" (.ref av)) :
    MetFree l (⟨"com/example/ngazi/ngazi/cli/CommandOption", "environmentVariable", "()Ljava/lang/String;"⟩ : MethodName) (head1 (Jvm.Cond.code (⟨"com/example/ngazi/ngazi/cli/CommandOption", "environmentVariable", "()Ljava/lang/String;"⟩ : MethodName) prog_5_method_15_code 1 (some (.object "java/lang/String")) :: ws) ({ frames := 0, cells := 0, slots := 0, locals := 0 } : Room)) (fun a U => a = #[(.ref co)] ∧ Z.Warmed39 U.vm ∧ U.heap = h0) (fun _ _ _ _ _ => True) (fun _ U o U' => ∃ v L, o = .returned v ∧ Q_get_environmentVariableE Z co av h0 n0 v U'.heap L ∧ FrameEnd U o U' L ({ frames := 0, cells := 0, slots := 0, locals := 0 } : Room).cells ({ frames := 0, cells := 0, slots := 0, locals := 0 } : Room).slots) := by
  refine MetFree.of_bodySF (plainFor_of_name pn_7) hisR ?_
  intro p e s m args below meth c s₁ Bd hml0 hP hK
  obtain ⟨rfl, hZ, hh⟩ := hP
  have hx := Bd.exec
  have hby := Bd.bytes
  have hml : c.maxLocals = 1 := hml0
  have hown : s.vm.findClass "com/example/ngazi/ngazi/cli/CommandOption" = some m.cls := findClass_of_methodNamed Bd.named
  have hnm := (name_of_methodNamed Bd.named Bd.method).1
  have X0 : Stand p l e ({ frames := 0, cells := 0, slots := 0, locals := 0 } : Room) s m #[(.ref co)] below meth c s₁ [] 0 0 := Stand.of_body Bd
  have e0 : s₁.heap = h0 := by rw [← hh, Bd.state]; rfl
  have N0 := Fr.nil n0
  obtain ⟨s0, hs0⟩ : ∃ z, z = (s₁.setTop (entryFrame m #[(.ref co)] 1)) := ⟨_, rfl⟩
  have P0 : ∀ tt_, GG p e below s₁ (mkF m 0 #[.val (.ref co)] []) tt_ → Steps p.tables e below s0 tt_ := fun tt_ kk_ => by rw [hs0]; exact castTop (ef_get_environmentVariableE m co) kk_
  have P1 : ∀ tt_, GG p e below s₁ (mkF m 1 #[.val (.ref co)] [(.ref co)]) tt_ → Steps p.tables e below s0 tt_ := fun tt_ kk_ => P0 tt_ (by
    refine XS.aloadN X0.here hx rfl (hb hby d_environmentVariable_0) rfl rfl ?_
    exact kk_)
  obtain ⟨T2, X2, e2, st2⟩ := getF X0 hx hZ hown (host := "") (Or.inl (ww hw 76 rfl)) Via.refl e0 F_environmentVariable_co (g := (mkF m 1 #[.val (.ref co)] [(.ref co)])) rfl rfl (hb hby d_environmentVariable_1)
  have P3 : ∀ tt_, GG p e below T2 (mkF m 4 #[.val (.ref co)] [(.ref av)]) tt_ → Steps p.tables e below s0 tt_ := fun tt_ kk_ => P1 tt_ (st2 _ kk_)
  subst hs0
  obtain ⟨fs, hr, hrun, hended, hW, hsame⟩ := X2.leave (v := some (.ref av)) (fun h => by rw [Bd.returns] at h; cases h)
  refine ⟨_, _, P3 _ ?_, hrun, hended, _, _, rfl, ?_, ⟨_, rfl⟩, hW, hsame.mono (by decide) (by decide)⟩
  · show GG p e below T2 (mkF m 4 #[.val (.ref co)] [(.ref av)]) _
    jvm_step X2.here [X2.here.top, hx, (hb hby d_environmentVariable_4), X2.method', Bd.returns, Value.isRef, FieldType.isReference]
    first | (intro acts; rw [hr _ acts rfl rfl rfl]) | rw [hr _ _ rfl rfl rfl]
    exact Steps.refl _
  · show Q_get_environmentVariableE Z co av h0 n0 _ T2.heap _
    rw [e2]
    exact ⟨rfl, N0, rfl⟩
theorem ef_get_environmentVariableN (m : MethodId) (x0 : Addr) : entryFrame m #[(.ref x0)] 1 = mkF m 0 #[.val (.ref x0)] [] := by first | (simp [entryFrame, mkF, argsToLocals, Value.category]; done) | rfl
def Q_get_environmentVariableN (Z : State) (co : Addr) (h0 : Heap) (n0 : Nat) (v : Option Value) (h : Heap) (L : List Loc) : Prop := v = some .null ∧ Fr n0 L ∧ h = h0
set_option maxRecDepth 65536 in
set_option maxHeartbeats 40000000 in
theorem rm_get_environmentVariableN (l : Launch) (Z : State) (a0 : Array Value) (hw : ∀ d ∈ tables_1, d.before a0 Z = true) (ws : List Jvm.Cond) (co : Addr) (h0 : Heap) (n0 : Nat) (Z0 : n0 ≤ h0.size) (F_environmentVariable_co : Fld Z h0 co "com/example/ngazi/ngazi/cli/CommandOption" "environmentVariable" "Ljava/lang/String;" .null) :
    MetFree l (⟨"com/example/ngazi/ngazi/cli/CommandOption", "environmentVariable", "()Ljava/lang/String;"⟩ : MethodName) (head1 (Jvm.Cond.code (⟨"com/example/ngazi/ngazi/cli/CommandOption", "environmentVariable", "()Ljava/lang/String;"⟩ : MethodName) prog_5_method_15_code 1 (some (.object "java/lang/String")) :: ws) ({ frames := 0, cells := 0, slots := 0, locals := 0 } : Room)) (fun a U => a = #[(.ref co)] ∧ Z.Warmed39 U.vm ∧ U.heap = h0) (fun _ _ _ _ _ => True) (fun _ U o U' => ∃ v L, o = .returned v ∧ Q_get_environmentVariableN Z co h0 n0 v U'.heap L ∧ FrameEnd U o U' L ({ frames := 0, cells := 0, slots := 0, locals := 0 } : Room).cells ({ frames := 0, cells := 0, slots := 0, locals := 0 } : Room).slots) := by
  refine MetFree.of_bodySF (plainFor_of_name pn_7) hisR ?_
  intro p e s m args below meth c s₁ Bd hml0 hP hK
  obtain ⟨rfl, hZ, hh⟩ := hP
  have hx := Bd.exec
  have hby := Bd.bytes
  have hml : c.maxLocals = 1 := hml0
  have hown : s.vm.findClass "com/example/ngazi/ngazi/cli/CommandOption" = some m.cls := findClass_of_methodNamed Bd.named
  have hnm := (name_of_methodNamed Bd.named Bd.method).1
  have X0 : Stand p l e ({ frames := 0, cells := 0, slots := 0, locals := 0 } : Room) s m #[(.ref co)] below meth c s₁ [] 0 0 := Stand.of_body Bd
  have e0 : s₁.heap = h0 := by rw [← hh, Bd.state]; rfl
  have N0 := Fr.nil n0
  obtain ⟨s0, hs0⟩ : ∃ z, z = (s₁.setTop (entryFrame m #[(.ref co)] 1)) := ⟨_, rfl⟩
  have P0 : ∀ tt_, GG p e below s₁ (mkF m 0 #[.val (.ref co)] []) tt_ → Steps p.tables e below s0 tt_ := fun tt_ kk_ => by rw [hs0]; exact castTop (ef_get_environmentVariableN m co) kk_
  have P1 : ∀ tt_, GG p e below s₁ (mkF m 1 #[.val (.ref co)] [(.ref co)]) tt_ → Steps p.tables e below s0 tt_ := fun tt_ kk_ => P0 tt_ (by
    refine XS.aloadN X0.here hx rfl (hb hby d_environmentVariable_0) rfl rfl ?_
    exact kk_)
  obtain ⟨T2, X2, e2, st2⟩ := getF X0 hx hZ hown (host := "") (Or.inl (ww hw 76 rfl)) Via.refl e0 F_environmentVariable_co (g := (mkF m 1 #[.val (.ref co)] [(.ref co)])) rfl rfl (hb hby d_environmentVariable_1)
  have P3 : ∀ tt_, GG p e below T2 (mkF m 4 #[.val (.ref co)] [.null]) tt_ → Steps p.tables e below s0 tt_ := fun tt_ kk_ => P1 tt_ (st2 _ kk_)
  subst hs0
  obtain ⟨fs, hr, hrun, hended, hW, hsame⟩ := X2.leave (v := some .null) (fun h => by rw [Bd.returns] at h; cases h)
  refine ⟨_, _, P3 _ ?_, hrun, hended, _, _, rfl, ?_, ⟨_, rfl⟩, hW, hsame.mono (by decide) (by decide)⟩
  · show GG p e below T2 (mkF m 4 #[.val (.ref co)] [.null]) _
    jvm_step X2.here [X2.here.top, hx, (hb hby d_environmentVariable_4), X2.method', Bd.returns, Value.isRef, FieldType.isReference]
    first | (intro acts; rw [hr _ acts rfl rfl rfl]) | rw [hr _ _ rfl rfl rfl]
    exact Steps.refl _
  · show Q_get_environmentVariableN Z co h0 n0 _ T2.heap _
    rw [e2]
    exact ⟨rfl, N0, rfl⟩
theorem ef_get_defaultValueN (m : MethodId) (x0 : Addr) : entryFrame m #[(.ref x0)] 1 = mkF m 0 #[.val (.ref x0)] [] := by first | (simp [entryFrame, mkF, argsToLocals, Value.category]; done) | rfl
theorem d_defaultValue_0 : decode prog_5_method_16_code 0 = .ok (.aload_n 0, 1) := by decide +kernel
theorem d_defaultValue_1 : decode prog_5_method_16_code 1 = .ok (.getfield 35, 3) := by decide +kernel
theorem d_defaultValue_4 : decode prog_5_method_16_code 4 = .ok (.areturn, 1) := by decide +kernel
def Q_get_defaultValueN (Z : State) (co : Addr) (h0 : Heap) (n0 : Nat) (v : Option Value) (h : Heap) (L : List Loc) : Prop := v = some .null ∧ Fr n0 L ∧ h = h0
set_option maxRecDepth 65536 in
set_option maxHeartbeats 40000000 in
theorem rm_get_defaultValueN (l : Launch) (Z : State) (a0 : Array Value) (hw : ∀ d ∈ tables_1, d.before a0 Z = true) (ws : List Jvm.Cond) (co : Addr) (h0 : Heap) (n0 : Nat) (Z0 : n0 ≤ h0.size) (F_defaultValue_co : Fld Z h0 co "com/example/ngazi/ngazi/cli/CommandOption" "defaultValue" "Ljava/lang/String;" .null) :
    MetFree l (⟨"com/example/ngazi/ngazi/cli/CommandOption", "defaultValue", "()Ljava/lang/String;"⟩ : MethodName) (head1 (Jvm.Cond.code (⟨"com/example/ngazi/ngazi/cli/CommandOption", "defaultValue", "()Ljava/lang/String;"⟩ : MethodName) prog_5_method_16_code 1 (some (.object "java/lang/String")) :: ws) ({ frames := 0, cells := 0, slots := 0, locals := 0 } : Room)) (fun a U => a = #[(.ref co)] ∧ Z.Warmed39 U.vm ∧ U.heap = h0) (fun _ _ _ _ _ => True) (fun _ U o U' => ∃ v L, o = .returned v ∧ Q_get_defaultValueN Z co h0 n0 v U'.heap L ∧ FrameEnd U o U' L ({ frames := 0, cells := 0, slots := 0, locals := 0 } : Room).cells ({ frames := 0, cells := 0, slots := 0, locals := 0 } : Room).slots) := by
  refine MetFree.of_bodySF (plainFor_of_name pn_7) hisR ?_
  intro p e s m args below meth c s₁ Bd hml0 hP hK
  obtain ⟨rfl, hZ, hh⟩ := hP
  have hx := Bd.exec
  have hby := Bd.bytes
  have hml : c.maxLocals = 1 := hml0
  have hown : s.vm.findClass "com/example/ngazi/ngazi/cli/CommandOption" = some m.cls := findClass_of_methodNamed Bd.named
  have hnm := (name_of_methodNamed Bd.named Bd.method).1
  have X0 : Stand p l e ({ frames := 0, cells := 0, slots := 0, locals := 0 } : Room) s m #[(.ref co)] below meth c s₁ [] 0 0 := Stand.of_body Bd
  have e0 : s₁.heap = h0 := by rw [← hh, Bd.state]; rfl
  have N0 := Fr.nil n0
  obtain ⟨s0, hs0⟩ : ∃ z, z = (s₁.setTop (entryFrame m #[(.ref co)] 1)) := ⟨_, rfl⟩
  have P0 : ∀ tt_, GG p e below s₁ (mkF m 0 #[.val (.ref co)] []) tt_ → Steps p.tables e below s0 tt_ := fun tt_ kk_ => by rw [hs0]; exact castTop (ef_get_defaultValueN m co) kk_
  have P1 : ∀ tt_, GG p e below s₁ (mkF m 1 #[.val (.ref co)] [(.ref co)]) tt_ → Steps p.tables e below s0 tt_ := fun tt_ kk_ => P0 tt_ (by
    refine XS.aloadN X0.here hx rfl (hb hby d_defaultValue_0) rfl rfl ?_
    exact kk_)
  obtain ⟨T2, X2, e2, st2⟩ := getF X0 hx hZ hown (host := "") (Or.inl (ww hw 78 rfl)) Via.refl e0 F_defaultValue_co (g := (mkF m 1 #[.val (.ref co)] [(.ref co)])) rfl rfl (hb hby d_defaultValue_1)
  have P3 : ∀ tt_, GG p e below T2 (mkF m 4 #[.val (.ref co)] [.null]) tt_ → Steps p.tables e below s0 tt_ := fun tt_ kk_ => P1 tt_ (st2 _ kk_)
  subst hs0
  obtain ⟨fs, hr, hrun, hended, hW, hsame⟩ := X2.leave (v := some .null) (fun h => by rw [Bd.returns] at h; cases h)
  refine ⟨_, _, P3 _ ?_, hrun, hended, _, _, rfl, ?_, ⟨_, rfl⟩, hW, hsame.mono (by decide) (by decide)⟩
  · show GG p e below T2 (mkF m 4 #[.val (.ref co)] [.null]) _
    jvm_step X2.here [X2.here.top, hx, (hb hby d_defaultValue_4), X2.method', Bd.returns, Value.isRef, FieldType.isReference]
    first | (intro acts; rw [hr _ acts rfl rfl rfl]) | rw [hr _ _ rfl rfl rfl]
    exact Steps.refl _
  · show Q_get_defaultValueN Z co h0 n0 _ T2.heap _
    rw [e2]
    exact ⟨rfl, N0, rfl⟩
theorem ef_helpN (m : MethodId) (x0 : Addr) : entryFrame m #[(.ref x0)] 2 = mkF m 0 #[.val (.ref x0), .unset] [] := by first | (simp [entryFrame, mkF, argsToLocals, Value.category]; done) | rfl
theorem d_help_0 : decode prog_5_method_7_code 0 = .ok (.aload_n 0, 1) := by decide +kernel
theorem d_help_1 : decode prog_5_method_7_code 1 = .ok (.getfield 32, 3) := by decide +kernel
theorem d_help_4 : decode prog_5_method_7_code 4 = .ok (.ifnull 41, 3) := by decide +kernel
theorem d_help_45 : decode prog_5_method_7_code 45 = .ok (.aload_n 0, 1) := by decide +kernel
theorem d_help_46 : decode prog_5_method_7_code 46 = .ok (.getfield 35, 3) := by decide +kernel
theorem d_help_49 : decode prog_5_method_7_code 49 = .ok (.ifnull 41, 3) := by decide +kernel
theorem d_help_90 : decode prog_5_method_7_code 90 = .ok (.aload_n 0, 1) := by decide +kernel
theorem d_help_91 : decode prog_5_method_7_code 91 = .ok (.getfield 26, 3) := by decide +kernel
theorem d_help_94 : decode prog_5_method_7_code 94 = .ok (.astore_n 1, 1) := by decide +kernel
theorem d_help_95 : decode prog_5_method_7_code 95 = .ok (.aload_n 1, 1) := by decide +kernel
theorem d_help_96 : decode prog_5_method_7_code 96 = .ok (.areturn, 1) := by decide +kernel
def Q_helpN (Z : State) (co : Addr) (a3 : Addr) (h0 : Heap) (n0 : Nat) (v : Option Value) (h : Heap) (L : List Loc) : Prop := v = some (.ref a3) ∧ Fr n0 L ∧ h = h0
set_option maxRecDepth 65536 in
set_option maxHeartbeats 40000000 in
theorem rm_helpN (l : Launch) (Z : State) (a0 : Array Value) (hw : ∀ d ∈ tables_1, d.before a0 Z = true) (ws : List Jvm.Cond) (co : Addr) (a3 : Addr) (h0 : Heap) (n0 : Nat) (Z0 : n0 ≤ h0.size) (F_environmentVariable_co : Fld Z h0 co "com/example/ngazi/ngazi/cli/CommandOption" "environmentVariable" "Ljava/lang/String;" .null) (F_defaultValue_co : Fld Z h0 co "com/example/ngazi/ngazi/cli/CommandOption" "defaultValue" "Ljava/lang/String;" .null) (F_description_co : Fld Z h0 co "com/example/ngazi/ngazi/cli/CommandOption" "description" "Ljava/lang/String;" (.ref a3)) :
    MetFree l (⟨"com/example/ngazi/ngazi/cli/CommandOption", "help", "()Ljava/lang/String;"⟩ : MethodName) (head1 (Jvm.Cond.code (⟨"com/example/ngazi/ngazi/cli/CommandOption", "help", "()Ljava/lang/String;"⟩ : MethodName) prog_5_method_7_code 2 (some (.object "java/lang/String")) :: ws) ({ frames := 0, cells := 0, slots := 0, locals := 0 } : Room)) (fun a U => a = #[(.ref co)] ∧ Z.Warmed39 U.vm ∧ U.heap = h0) (fun _ _ _ _ _ => True) (fun _ U o U' => ∃ v L, o = .returned v ∧ Q_helpN Z co a3 h0 n0 v U'.heap L ∧ FrameEnd U o U' L ({ frames := 0, cells := 0, slots := 0, locals := 0 } : Room).cells ({ frames := 0, cells := 0, slots := 0, locals := 0 } : Room).slots) := by
  refine MetFree.of_bodySF (plainFor_of_name pn_7) hisR ?_
  intro p e s m args below meth c s₁ Bd hml0 hP hK
  obtain ⟨rfl, hZ, hh⟩ := hP
  have hx := Bd.exec
  have hby := Bd.bytes
  have hml : c.maxLocals = 2 := hml0
  have hown : s.vm.findClass "com/example/ngazi/ngazi/cli/CommandOption" = some m.cls := findClass_of_methodNamed Bd.named
  have hnm := (name_of_methodNamed Bd.named Bd.method).1
  have X0 : Stand p l e ({ frames := 0, cells := 0, slots := 0, locals := 0 } : Room) s m #[(.ref co)] below meth c s₁ [] 0 0 := Stand.of_body Bd
  have e0 : s₁.heap = h0 := by rw [← hh, Bd.state]; rfl
  have N0 := Fr.nil n0
  obtain ⟨s0, hs0⟩ : ∃ z, z = (s₁.setTop (entryFrame m #[(.ref co)] 2)) := ⟨_, rfl⟩
  have P0 : ∀ tt_, GG p e below s₁ (mkF m 0 #[.val (.ref co), .unset] []) tt_ → Steps p.tables e below s0 tt_ := fun tt_ kk_ => by rw [hs0]; exact castTop (ef_helpN m co) kk_
  have P1 : ∀ tt_, GG p e below s₁ (mkF m 1 #[.val (.ref co), .unset] [(.ref co)]) tt_ → Steps p.tables e below s0 tt_ := fun tt_ kk_ => P0 tt_ (by
    refine XS.aloadN X0.here hx rfl (hb hby d_help_0) rfl rfl ?_
    exact kk_)
  obtain ⟨T2, X2, e2, st2⟩ := getF X0 hx hZ hown (host := "") (Or.inl (ww hw 76 rfl)) Via.refl e0 F_environmentVariable_co (g := (mkF m 1 #[.val (.ref co), .unset] [(.ref co)])) rfl rfl (hb hby d_help_1)
  have P3 : ∀ tt_, GG p e below T2 (mkF m 4 #[.val (.ref co), .unset] [.null]) tt_ → Steps p.tables e below s0 tt_ := fun tt_ kk_ => P1 tt_ (st2 _ kk_)
  have P4 : ∀ tt_, GG p e below T2 (mkF m 46 #[.val (.ref co), .unset] [(.ref co)]) tt_ → Steps p.tables e below s0 tt_ := fun tt_ kk_ => P3 tt_ (by
    refine XS.ifnullYes X2.here hx rfl (pc0 := 4) (pc' := 45) rfl (hb hby d_help_4) rfl (by decide) (by decide) ?_
    refine XS.aloadN X2.here hx rfl (hb hby d_help_45) rfl rfl ?_
    exact kk_)
  obtain ⟨T5, X5, e5, st5⟩ := getF X2 hx hZ hown (host := "") (Or.inl (ww hw 78 rfl)) Via.refl e2 F_defaultValue_co (g := (mkF m 46 #[.val (.ref co), .unset] [(.ref co)])) rfl rfl (hb hby d_help_46)
  have P6 : ∀ tt_, GG p e below T5 (mkF m 49 #[.val (.ref co), .unset] [.null]) tt_ → Steps p.tables e below s0 tt_ := fun tt_ kk_ => P4 tt_ (st5 _ kk_)
  have P7 : ∀ tt_, GG p e below T5 (mkF m 91 #[.val (.ref co), .unset] [(.ref co)]) tt_ → Steps p.tables e below s0 tt_ := fun tt_ kk_ => P6 tt_ (by
    refine XS.ifnullYes X5.here hx rfl (pc0 := 49) (pc' := 90) rfl (hb hby d_help_49) rfl (by decide) (by decide) ?_
    refine XS.aloadN X5.here hx rfl (hb hby d_help_90) rfl rfl ?_
    exact kk_)
  obtain ⟨T8, X8, e8, st8⟩ := getF X5 hx hZ hown (host := "") (Or.inl (ww hw 72 rfl)) Via.refl e5 F_description_co (g := (mkF m 91 #[.val (.ref co), .unset] [(.ref co)])) rfl rfl (hb hby d_help_91)
  have P9 : ∀ tt_, GG p e below T8 (mkF m 94 #[.val (.ref co), .unset] [(.ref a3)]) tt_ → Steps p.tables e below s0 tt_ := fun tt_ kk_ => P7 tt_ (st8 _ kk_)
  have P10 : ∀ tt_, GG p e below T8 (mkF m 96 #[.val (.ref co), .val (.ref a3)] [(.ref a3)]) tt_ → Steps p.tables e below s0 tt_ := fun tt_ kk_ => P9 tt_ (by
    refine XS.astoreN X8.here hx rfl (hb hby d_help_94) rfl rfl (l' := #[.val (.ref co), .val (.ref a3)]) rfl ?_
    refine XS.aloadN X8.here hx rfl (hb hby d_help_95) rfl rfl ?_
    exact kk_)
  subst hs0
  obtain ⟨fs, hr, hrun, hended, hW, hsame⟩ := X8.leave (v := some (.ref a3)) (fun h => by rw [Bd.returns] at h; cases h)
  refine ⟨_, _, P10 _ ?_, hrun, hended, _, _, rfl, ?_, ⟨_, rfl⟩, hW, hsame.mono (by decide) (by decide)⟩
  · show GG p e below T8 (mkF m 96 #[.val (.ref co), .val (.ref a3)] [(.ref a3)]) _
    jvm_step X8.here [X8.here.top, hx, (hb hby d_help_96), X8.method', Bd.returns, Value.isRef, FieldType.isReference]
    first | (intro acts; rw [hr _ acts rfl rfl rfl]) | rw [hr _ _ rfl rfl rfl]
    exact Steps.refl _
  · show Q_helpN Z co a3 h0 n0 _ T8.heap _
    rw [e8]
    exact ⟨rfl, N0, rfl⟩
theorem ef_helpE (m : MethodId) (x0 : Addr) : entryFrame m #[(.ref x0)] 2 = mkF m 0 #[.val (.ref x0), .unset] [] := by first | (simp [entryFrame, mkF, argsToLocals, Value.category]; done) | rfl
theorem d_help_7 : decode prog_5_method_7_code 7 = .ok (.new 41, 3) := by decide +kernel
theorem d_help_10 : decode prog_5_method_7_code 10 = .ok (.dup, 1) := by decide +kernel
theorem d_help_11 : decode prog_5_method_7_code 11 = .ok (.invokespecial 43, 3) := by decide +kernel
abbrev mn_21 : MethodName := ⟨"java/lang/StringBuilder", "<init>", "()V"⟩
theorem d_help_14 : decode prog_5_method_7_code 14 = .ok (.aload_n 0, 1) := by decide +kernel
theorem d_help_15 : decode prog_5_method_7_code 15 = .ok (.getfield 26, 3) := by decide +kernel
theorem pd_18 : parseMethodDescriptor "(Ljava/lang/String;)Ljava/lang/StringBuilder;" = some ⟨[(.object "java/lang/String")], some (.object "java/lang/StringBuilder")⟩ := by decide +kernel
theorem d_help_18 : decode prog_5_method_7_code 18 = .ok (.invokevirtual 44, 3) := by decide +kernel
abbrev mn_22 : MethodName := ⟨"java/lang/StringBuilder", "append", "(Ljava/lang/String;)Ljava/lang/StringBuilder;"⟩
theorem d_help_21 : decode prog_5_method_7_code 21 = .ok (.ldc 54, 2) := by decide +kernel
theorem d_help_23 : decode prog_5_method_7_code 23 = .ok (.invokevirtual 44, 3) := by decide +kernel
theorem d_help_26 : decode prog_5_method_7_code 26 = .ok (.aload_n 0, 1) := by decide +kernel
theorem d_help_27 : decode prog_5_method_7_code 27 = .ok (.getfield 32, 3) := by decide +kernel
theorem d_help_30 : decode prog_5_method_7_code 30 = .ok (.invokevirtual 44, 3) := by decide +kernel
theorem d_help_33 : decode prog_5_method_7_code 33 = .ok (.ldc 56, 2) := by decide +kernel
theorem d_help_35 : decode prog_5_method_7_code 35 = .ok (.invokevirtual 44, 3) := by decide +kernel
theorem pd_19 : parseMethodDescriptor "()Ljava/lang/String;" = some ⟨[], some (.object "java/lang/String")⟩ := by decide +kernel
theorem d_help_38 : decode prog_5_method_7_code 38 = .ok (.invokevirtual 50, 3) := by decide +kernel
abbrev mn_23 : MethodName := ⟨"java/lang/StringBuilder", "toString", "()Ljava/lang/String;"⟩
theorem d_help_41 : decode prog_5_method_7_code 41 = .ok (.astore_n 1, 1) := by decide +kernel
theorem d_help_42 : decode prog_5_method_7_code 42 = .ok (.goto 53, 3) := by decide +kernel
def Q_helpE (Z : State) (co : Addr) (a3 : Addr) (tq3 : Addr) (kq3 : ClassId) (a4 : Addr) (tq4 : Addr) (kq4 : ClassId) (dc0 : Int32) (dc1 : Int32) (ec0 : Int32) (ec1 : Int32) (G1 : Int32) (h0 : Heap) (n0 : Nat) (v : Option Value) (h : Heap) (L : List Loc) : Prop := ∃ (xs : Addr) (tn : Addr) (kn : ClassId), v = some (.ref xs) ∧ Fr n0 L ∧ Keep h0 h [] ∧ (h0.size ≤ xs) ∧ (h0.size ≤ tn) ∧ (Exa Z h xs "java/lang/String") ∧ (Fld Z h xs "java/lang/String" "value" "[B" (.ref tn)) ∧ (Fld Z h xs "java/lang/String" "coder" "B" (.int (0 : Int32))) ∧ (Arv Z h tn kn .byte (16 : Int32) [(.int dc0), (.int dc1), (.int (32 : Int32)), (.int (68 : Int32)), (.int (101 : Int32)), (.int (102 : Int32)), (.int (97 : Int32)), (.int (117 : Int32)), (.int (108 : Int32)), (.int (116 : Int32)), (.int (58 : Int32)), (.int (32 : Int32)), (.int (36 : Int32)), (.int ec0), (.int ec1), (.int (46 : Int32))] (.int (0 : Int32)))
set_option maxRecDepth 65536 in
set_option maxHeartbeats 40000000 in
theorem rm_helpE (l : Launch) (Z : State) (a0 : Array Value) (hw : ∀ d ∈ tables_1, d.before a0 Z = true) (hEL : EW Z a0 ELs) (ws : List Jvm.Cond) (co : Addr) (a3 : Addr) (tq3 : Addr) (kq3 : ClassId) (a4 : Addr) (tq4 : Addr) (kq4 : ClassId) (dc0 : Int32) (dc1 : Int32) (ec0 : Int32) (ec1 : Int32) (G1 : Int32) (h0 : Heap) (n0 : Nat) (Z0 : n0 ≤ h0.size) (F_environmentVariable_co : Fld Z h0 co "com/example/ngazi/ngazi/cli/CommandOption" "environmentVariable" "Ljava/lang/String;" (.ref a4)) (F_description_co : Fld Z h0 co "com/example/ngazi/ngazi/cli/CommandOption" "description" "Ljava/lang/String;" (.ref a3)) (E_a3 : Exa Z h0 a3 "java/lang/String") (F_value_a3 : Fld Z h0 a3 "java/lang/String" "value" "[B" (.ref tq3)) (F_coder_a3 : Fld Z h0 a3 "java/lang/String" "coder" "B" (.int (0 : Int32))) (V_tq3 : Arv Z h0 tq3 kq3 .byte (2 : Int32) [(.int dc0), (.int dc1)] (.int (0 : Int32))) (E_a4 : Exa Z h0 a4 "java/lang/String") (F_value_a4 : Fld Z h0 a4 "java/lang/String" "value" "[B" (.ref tq4)) (F_coder_a4 : Fld Z h0 a4 "java/lang/String" "coder" "B" (.int (0 : Int32))) (V_tq4 : Arv Z h0 tq4 kq4 .byte (2 : Int32) [(.int ec0), (.int ec1)] (.int (0 : Int32))) (S_COMPACT_STRINGS : Sta Z Z.heap "java/lang/String" "COMPACT_STRINGS" "Z" (.int G1)) (OL : Old Z n0 h0) (hz : ¬ G1 = 0) :
    MetFree l (⟨"com/example/ngazi/ngazi/cli/CommandOption", "help", "()Ljava/lang/String;"⟩ : MethodName) (head1 (Jvm.Cond.code (⟨"com/example/ngazi/ngazi/cli/CommandOption", "help", "()Ljava/lang/String;"⟩ : MethodName) prog_5_method_7_code 2 (some (.object "java/lang/String")) :: ws) ({ frames := 5, cells := 8, slots := 96, locals := 74 } : Room)) (fun a U => a = #[(.ref co)] ∧ Z.Warmed39 U.vm ∧ U.heap = h0 ∧ CHv Z ELs U.vm h0) (fun _ _ _ _ _ => True) (fun _ U o U' => ∃ v L, o = .returned v ∧ Q_helpE Z co a3 tq3 kq3 a4 tq4 kq4 dc0 dc1 ec0 ec1 G1 h0 n0 v U'.heap L ∧ CHr Z ELs U.vm U.heap U'.vm U'.heap ∧ ReturnedEndW U o U' L ({ frames := 5, cells := 8, slots := 96, locals := 74 } : Room).cells ({ frames := 5, cells := 8, slots := 96, locals := 74 } : Room).slots) := by
  refine MetFree.of_bodySF (plainFor_of_name pn_7) hisR ?_
  intro p e s m args below meth c s₁ Bd hml0 hP hK
  obtain ⟨rfl, hZ, hh, hCH⟩ := hP
  have hx := Bd.exec
  have hby := Bd.bytes
  have hml : c.maxLocals = 2 := hml0
  have hown : s.vm.findClass "com/example/ngazi/ngazi/cli/CommandOption" = some m.cls := findClass_of_methodNamed Bd.named
  have hnm := (name_of_methodNamed Bd.named Bd.method).1
  have X0 : Stand p l e ({ frames := 5, cells := 8, slots := 96, locals := 74 } : Room) (s.setVm s.vm) m #[(.ref co)] below meth c s₁ [] 0 0 := Stand.of_body Bd
  replace hZ : Z.Warmed39 (s.setVm s.vm).vm := hZ
  replace hown : (s.setVm s.vm).vm.findClass "com/example/ngazi/ngazi/cli/CommandOption" = some m.cls := hown
  have hS : s.Since s.vm 0 := (State.WarmedH.refl s).since 0
  have hk : 0 ≤ h0.size := Nat.zero_le _
  have CR : CHr Z ELs s.vm h0 s.vm h0 := CHr.refl hCH
  have e0 : s₁.heap = h0 := by rw [← hh, Bd.state]; rfl
  have N0 := Fr.nil n0
  obtain ⟨s0, hs0⟩ : ∃ z, z = (s₁.setTop (entryFrame m #[(.ref co)] 2)) := ⟨_, rfl⟩
  have P0 : ∀ tt_, GG p e below s₁ (mkF m 0 #[.val (.ref co), .unset] []) tt_ → Steps p.tables e below s0 tt_ := fun tt_ kk_ => by rw [hs0]; exact castTop (ef_helpE m co) kk_
  have P1 : ∀ tt_, GG p e below s₁ (mkF m 1 #[.val (.ref co), .unset] [(.ref co)]) tt_ → Steps p.tables e below s0 tt_ := fun tt_ kk_ => P0 tt_ (by
    refine XS.aloadN X0.here hx rfl (hb hby d_help_0) rfl rfl ?_
    exact kk_)
  obtain ⟨T2, X2, e2, st2⟩ := getF X0 hx hZ hown (host := "") (Or.inl (ww hw 76 rfl)) Via.refl e0 F_environmentVariable_co (g := (mkF m 1 #[.val (.ref co), .unset] [(.ref co)])) rfl rfl (hb hby d_help_1)
  have P3 : ∀ tt_, GG p e below T2 (mkF m 4 #[.val (.ref co), .unset] [(.ref a4)]) tt_ → Steps p.tables e below s0 tt_ := fun tt_ kk_ => P1 tt_ (st2 _ kk_)
  have P4 : ∀ tt_, GG p e below T2 (mkF m 7 #[.val (.ref co), .unset] []) tt_ → Steps p.tables e below s0 tt_ := fun tt_ kk_ => P3 tt_ (by
    refine XS.ifnullNo X2.here hx rfl (hb hby d_help_4) rfl ?_
    exact kk_)
  obtain ⟨T5, h5, X5, e5, E5, A5, D5, -, st5⟩ := newO X2 hx hZ hown (ww hw 120 rfl) (ww hw 121 rfl) (ww hw 122 rfl) e2 (g := (mkF m 7 #[.val (.ref co), .unset] [])) rfl (hb hby d_help_7) (by decide) (by decide)
  obtain ⟨b5, g5⟩ : ∃ z, z = h0.size := ⟨_, rfl⟩
  rw [← g5] at A5 D5 st5
  have P6 : ∀ tt_, GG p e below T5 (mkF m 10 #[.val (.ref co), .unset] [(.ref b5)]) tt_ → Steps p.tables e below s0 tt_ := fun tt_ kk_ => P4 tt_ (st5 _ kk_)
  have ne_co_b5 : co ≠ b5 := Nat.ne_of_lt (Nat.lt_of_lt_of_le F_environmentVariable_co.lt (Nat.le_of_eq g5.symm))
  have ne_a3_b5 : a3 ≠ b5 := Nat.ne_of_lt (Nat.lt_of_lt_of_le E_a3.lt (Nat.le_of_eq g5.symm))
  have ne_tq3_b5 : tq3 ≠ b5 := Nat.ne_of_lt (Nat.lt_of_lt_of_le V_tq3.lt (Nat.le_of_eq g5.symm))
  have ne_a4_b5 : a4 ≠ b5 := Nat.ne_of_lt (Nat.lt_of_lt_of_le E_a4.lt (Nat.le_of_eq g5.symm))
  have ne_tq4_b5 : tq4 ≠ b5 := Nat.ne_of_lt (Nat.lt_of_lt_of_le V_tq4.lt (Nat.le_of_eq g5.symm))
  have sz_b5 : h0.size ≤ b5 := Nat.le_trans (Nat.le_refl h0.size) (Nat.le_of_eq g5.symm)
  have sf_b5 : Safe Z ELs s.vm h0 b5 := Safe.new (Nat.le_of_eq g5.symm)
  replace sf_b5 : Safe Z ELs s.vm h5 b5 := Safe.ext E5 CR.1 sf_b5
  replace F_environmentVariable_co : Fld Z h5 co "com/example/ngazi/ngazi/cli/CommandOption" "environmentVariable" "Ljava/lang/String;" (.ref a4) := F_environmentVariable_co.ext E5
  replace F_description_co : Fld Z h5 co "com/example/ngazi/ngazi/cli/CommandOption" "description" "Ljava/lang/String;" (.ref a3) := F_description_co.ext E5
  replace E_a3 : Exa Z h5 a3 "java/lang/String" := E_a3.ext E5
  replace F_value_a3 : Fld Z h5 a3 "java/lang/String" "value" "[B" (.ref tq3) := F_value_a3.ext E5
  replace F_coder_a3 : Fld Z h5 a3 "java/lang/String" "coder" "B" (.int (0 : Int32)) := F_coder_a3.ext E5
  replace V_tq3 : Arv Z h5 tq3 kq3 .byte (2 : Int32) [(.int dc0), (.int dc1)] (.int (0 : Int32)) := V_tq3.ext E5
  replace E_a4 : Exa Z h5 a4 "java/lang/String" := E_a4.ext E5
  replace F_value_a4 : Fld Z h5 a4 "java/lang/String" "value" "[B" (.ref tq4) := F_value_a4.ext E5
  replace F_coder_a4 : Fld Z h5 a4 "java/lang/String" "coder" "B" (.int (0 : Int32)) := F_coder_a4.ext E5
  replace V_tq4 : Arv Z h5 tq4 kq4 .byte (2 : Int32) [(.int ec0), (.int ec1)] (.int (0 : Int32)) := V_tq4.ext E5
  replace OL : Old Z n0 h5 := OL.ext E5
  replace CR : CHr Z ELs s.vm h0 s.vm h5 := CR.trans (CHr.ext E5 CR.1)
  replace hk := Nat.le_trans hk E5.1
  have K5 : Keep h0 h5 [] := (Keep.refl h0 []).ext E5
  obtain ⟨Lf7, X5, N7⟩ : ∃ Lf, Stand p l e ({ frames := 5, cells := 8, slots := 96, locals := 74 } : Room) (s.setVm s.vm) m #[(.ref co)] below meth c T5 Lf 1 4 ∧ Fr n0 Lf := ⟨_, X5, N0⟩
  have E_b5 : Exa Z h5 b5 "java/lang/StringBuilder" := A5
  have F_value_b5 : Fld Z h5 b5 "java/lang/AbstractStringBuilder" "value" "[B" .null := D5 (Or.inl (ww hw 135 rfl)) (ty := (.array .byte)) (by decide)
  have F_coder_b5 : Fld Z h5 b5 "java/lang/AbstractStringBuilder" "coder" "B" (.int (0 : Int32)) := D5 (Or.inl (ww hw 137 rfl)) (ty := .byte) (by decide)
  have F_count_b5 : Fld Z h5 b5 "java/lang/AbstractStringBuilder" "count" "I" (.int (0 : Int32)) := D5 (Or.inl (ww hw 159 rfl)) (ty := .int) (by decide)
  have P8 : ∀ tt_, GG p e below T5 (mkF m 11 #[.val (.ref co), .unset] [(.ref b5), (.ref b5)]) tt_ → Steps p.tables e below s0 tt_ := fun tt_ kk_ => P6 tt_ (by
    refine XS.dup X5.here hx rfl (hb hby d_help_10) rfl rfl ?_
    exact kk_)
  obtain ⟨_, _, ⟨T9, L9, k9, n9⟩, -, X9, ⟨Lc9, hQ9, l9, y9, z9⟩, st9⟩ := X5.specialBack hx (y := mn_21) rfl hown (mw hZ hw 123 rfl) (mw hZ hw 124 rfl) (mw hZ hw 125 rfl) (by decide) (backOf (W := 1) (rm_sbInit l Z a0 hw [] b5 .null (.int (0 : Int32)) G1 h5 n0 (Nat.le_trans Z0 K5.1) E_b5 F_value_b5 F_coder_b5 F_count_b5 (Nat.le_trans Z0 sz_b5) S_COMPACT_STRINGS OL hz) hZ (ww hw 125 rfl) (ww hw 122 rfl) (by decide) (by decide)) (g := (mkF m 11 #[.val (.ref co), .unset] [(.ref b5), (.ref b5)])) rfl (by rw [hml]; rfl) (Steps.refl _) (a := b5) (argsL := []) (rest := [(.ref b5)]) (lenOf pd_15 rfl) rfl (by show 2 * 0 + _ ≤ _; exact Nat.le_of_eq rfl) (hb hby d_help_11) (fun _ _ => ⟨rfl, e5, (by decide : 1 + 1 ≤ _), (by decide : 4 + 16 ≤ _)⟩)
  dsimp only [Pt.U, Pt.locs, Pt.cells, Pt.slots] at X9 l9 y9 z9 st9 hQ9
  subst l9 y9 z9
  obtain ⟨t_9, kb_9, rfl, N9q, Kc9, po9_0, po9_1, po9_2, po9_3, po9_4, po9_5, po9_6⟩ := hQ9
  have N9 := Fr.app N7 N9q
  obtain ⟨Lf10, X9, N10⟩ : ∃ Lf, Stand p l e ({ frames := 5, cells := 8, slots := 96, locals := 74 } : Room) (s.setVm s.vm) m #[(.ref co)] below meth c T9 Lf 2 20 ∧ Fr n0 Lf := ⟨_, X9, N9⟩
  have P11 : ∀ tt_, GG p e below T9 (mkF m 14 #[.val (.ref co), .unset] [(.ref b5)]) tt_ → Steps p.tables e below s0 tt_ := fun tt_ kk_ => P8 tt_ (st9.trans kk_)
  have ne_co_t_9 : co ≠ t_9 := Nat.ne_of_lt (Nat.lt_of_lt_of_le F_environmentVariable_co.lt po9_0)
  have ne_a3_t_9 : a3 ≠ t_9 := Nat.ne_of_lt (Nat.lt_of_lt_of_le E_a3.lt po9_0)
  have ne_tq3_t_9 : tq3 ≠ t_9 := Nat.ne_of_lt (Nat.lt_of_lt_of_le V_tq3.lt po9_0)
  have ne_a4_t_9 : a4 ≠ t_9 := Nat.ne_of_lt (Nat.lt_of_lt_of_le E_a4.lt po9_0)
  have ne_tq4_t_9 : tq4 ≠ t_9 := Nat.ne_of_lt (Nat.lt_of_lt_of_le V_tq4.lt po9_0)
  have ne_b5_t_9 : b5 ≠ t_9 := Nat.ne_of_lt (Nat.lt_of_lt_of_le E_b5.lt po9_0)
  have sz_t_9 : h0.size ≤ t_9 := Nat.le_trans K5.1 po9_0
  have sf_t_9 : Safe Z ELs s.vm h5 t_9 := Safe.new po9_0
  have sfk9 := ((sfS sf_b5 sf0) : ∀ x ∈ [b5], Safe Z ELs s.vm h5 x)
  replace sf_b5 : Safe Z ELs s.vm T9.heap b5 := Safe.keep Kc9 sfk9 CR.1 sf_b5
  replace sf_t_9 : Safe Z ELs s.vm T9.heap t_9 := Safe.keep Kc9 sfk9 CR.1 sf_t_9
  replace F_environmentVariable_co : Fld Z T9.heap co "com/example/ngazi/ngazi/cli/CommandOption" "environmentVariable" "Ljava/lang/String;" (.ref a4) := F_environmentVariable_co.keep Kc9 (ninS ne_co_b5 nin0)
  replace F_description_co : Fld Z T9.heap co "com/example/ngazi/ngazi/cli/CommandOption" "description" "Ljava/lang/String;" (.ref a3) := F_description_co.keep Kc9 (ninS ne_co_b5 nin0)
  replace E_a3 : Exa Z T9.heap a3 "java/lang/String" := E_a3.keep Kc9
  replace F_value_a3 : Fld Z T9.heap a3 "java/lang/String" "value" "[B" (.ref tq3) := F_value_a3.keep Kc9 (ninS ne_a3_b5 nin0)
  replace F_coder_a3 : Fld Z T9.heap a3 "java/lang/String" "coder" "B" (.int (0 : Int32)) := F_coder_a3.keep Kc9 (ninS ne_a3_b5 nin0)
  replace V_tq3 : Arv Z T9.heap tq3 kq3 .byte (2 : Int32) [(.int dc0), (.int dc1)] (.int (0 : Int32)) := V_tq3.keep Kc9 (ninS ne_tq3_b5 nin0)
  replace E_a4 : Exa Z T9.heap a4 "java/lang/String" := E_a4.keep Kc9
  replace F_value_a4 : Fld Z T9.heap a4 "java/lang/String" "value" "[B" (.ref tq4) := F_value_a4.keep Kc9 (ninS ne_a4_b5 nin0)
  replace F_coder_a4 : Fld Z T9.heap a4 "java/lang/String" "coder" "B" (.int (0 : Int32)) := F_coder_a4.keep Kc9 (ninS ne_a4_b5 nin0)
  replace V_tq4 : Arv Z T9.heap tq4 kq4 .byte (2 : Int32) [(.int ec0), (.int ec1)] (.int (0 : Int32)) := V_tq4.keep Kc9 (ninS ne_tq4_b5 nin0)
  replace OL : Old Z n0 T9.heap := OL.keep Kc9 (allS (Nat.le_trans Z0 sz_b5) all0)
  replace E_b5 : Exa Z T9.heap b5 "java/lang/StringBuilder" := E_b5.keep Kc9
  replace CR : CHr Z ELs s.vm h0 s.vm T9.heap := CR.trans (CHr.keep Kc9 sfk9 CR.1)
  replace hk := Nat.le_trans hk Kc9.1
  have K9 : Keep h0 T9.heap [] := K5.trans Kc9 (allS (P := fun x => x ∈ [] ∨ h0.size ≤ x) (Or.inr sz_b5) all0)
  have E_b5 : Exa Z T9.heap b5 "java/lang/StringBuilder" := po9_1
  have F_value_b5 : Fld Z T9.heap b5 "java/lang/AbstractStringBuilder" "value" "[B" (.ref t_9) := po9_2
  have F_coder_b5 : Fld Z T9.heap b5 "java/lang/AbstractStringBuilder" "coder" "B" (.int (0 : Int32)) := po9_3
  have F_count_b5 : Fld Z T9.heap b5 "java/lang/AbstractStringBuilder" "count" "I" (.int (0 : Int32)) := po9_4
  have V_t_9 : Arv Z T9.heap t_9 kb_9 .byte (16 : Int32) [] (.int (0 : Int32)) := po9_5
  have E_t_9 : Exa Z T9.heap t_9 "[B" := po9_6
  have P12 : ∀ tt_, GG p e below T9 (mkF m 15 #[.val (.ref co), .unset] [(.ref co), (.ref b5)]) tt_ → Steps p.tables e below s0 tt_ := fun tt_ kk_ => P11 tt_ (by
    refine XS.aloadN X9.here hx rfl (hb hby d_help_14) rfl rfl ?_
    exact kk_)
  obtain ⟨T13, X13, e13, st13⟩ := getF X9 hx hZ hown (host := "") (Or.inl (ww hw 72 rfl)) Via.refl rfl F_description_co (g := (mkF m 15 #[.val (.ref co), .unset] [(.ref co), (.ref b5)])) rfl rfl (hb hby d_help_15)
  have P14 : ∀ tt_, GG p e below T13 (mkF m 18 #[.val (.ref co), .unset] [(.ref a3), (.ref b5)]) tt_ → Steps p.tables e below s0 tt_ := fun tt_ kk_ => P12 tt_ (st13 _ kk_)
  obtain ⟨cq15, kq15, q15a, q15b, q15c⟩ := isOf hZ e13 E_b5
  obtain ⟨_, _, ⟨T15, L15, k15, n15⟩, -, X15, ⟨Lc15, hQ15, l15, y15, z15⟩, st15⟩ := X13.virtualBack hx (y := mn_22) (z := mn_22) hown (mw hZ hw 138 rfl) (mw hZ hw 139 rfl) (notFace_of_selects (args := #[]) (mw hZ hw 141 rfl)) (mw hZ hw 141 rfl) (mw hZ hw 140 rfl) (by decide) (backOf (W := 0) (rm_sbApp l Z a0 hw [] b5 t_9 kb_9 ([] : List Value) G1 a3 tq3 kq3 ([(.int dc0), (.int dc1)] : List Value) T9.heap n0 (Nat.le_trans Z0 K9.1) E_b5 F_value_b5 F_coder_b5 F_count_b5 V_t_9 E_t_9 E_a3 F_value_a3 F_coder_a3 V_tq3 (Nat.le_trans Z0 sz_t_9) (Nat.le_trans Z0 sz_b5) ne_a3_t_9 ne_tq3_t_9 ne_b5_t_9 ne_a3_b5 ne_tq3_b5 S_COMPACT_STRINGS OL hz (Nat.le_of_ble_eq_true rfl)) hZ (ww hw 142 rfl) (ww hw 122 rfl) (by decide) (by decide)) q15a q15c (g := (mkF m 18 #[.val (.ref co), .unset] [(.ref a3), (.ref b5)])) rfl (by rw [hml]; rfl) (Steps.refl _) (argsL := [(.ref a3)]) (rest := []) (lenOf pd_18 rfl) rfl (by show 2 * 0 + _ ≤ _; exact Nat.le_of_eq rfl) (hb hby d_help_18) (fun _ _ => ⟨rfl, e13, (by decide : 2 + 0 ≤ _), (by decide : 20 + 0 ≤ _)⟩)
  dsimp only [Pt.U, Pt.locs, Pt.cells, Pt.slots] at X15 l15 y15 z15 st15 hQ15
  subst l15 y15 z15
  obtain ⟨rfl, N15q, Kc15, po15_0, po15_1, po15_2, po15_3, po15_4, po15_5⟩ := hQ15
  have N15 := Fr.app N10 N15q
  obtain ⟨Lf16, X15, N16⟩ : ∃ Lf, Stand p l e ({ frames := 5, cells := 8, slots := 96, locals := 74 } : Room) (s.setVm s.vm) m #[(.ref co)] below meth c T15 Lf 2 20 ∧ Fr n0 Lf := ⟨_, X15, N15⟩
  have P17 : ∀ tt_, GG p e below T15 (mkF m 21 #[.val (.ref co), .unset] [(.ref b5)]) tt_ → Steps p.tables e below s0 tt_ := fun tt_ kk_ => P14 tt_ (st15.trans kk_)
  have sfk15 := ((sfS sf_b5 (sfS sf_t_9 sf0)) : ∀ x ∈ [b5, t_9], Safe Z ELs s.vm T9.heap x)
  replace sf_b5 : Safe Z ELs s.vm T15.heap b5 := Safe.keep Kc15 sfk15 CR.1 sf_b5
  replace sf_t_9 : Safe Z ELs s.vm T15.heap t_9 := Safe.keep Kc15 sfk15 CR.1 sf_t_9
  replace F_environmentVariable_co : Fld Z T15.heap co "com/example/ngazi/ngazi/cli/CommandOption" "environmentVariable" "Ljava/lang/String;" (.ref a4) := F_environmentVariable_co.keep Kc15 (ninS ne_co_b5 (ninS ne_co_t_9 nin0))
  replace F_description_co : Fld Z T15.heap co "com/example/ngazi/ngazi/cli/CommandOption" "description" "Ljava/lang/String;" (.ref a3) := F_description_co.keep Kc15 (ninS ne_co_b5 (ninS ne_co_t_9 nin0))
  replace E_a3 : Exa Z T15.heap a3 "java/lang/String" := E_a3.keep Kc15
  replace F_value_a3 : Fld Z T15.heap a3 "java/lang/String" "value" "[B" (.ref tq3) := F_value_a3.keep Kc15 (ninS ne_a3_b5 (ninS ne_a3_t_9 nin0))
  replace F_coder_a3 : Fld Z T15.heap a3 "java/lang/String" "coder" "B" (.int (0 : Int32)) := F_coder_a3.keep Kc15 (ninS ne_a3_b5 (ninS ne_a3_t_9 nin0))
  replace V_tq3 : Arv Z T15.heap tq3 kq3 .byte (2 : Int32) [(.int dc0), (.int dc1)] (.int (0 : Int32)) := V_tq3.keep Kc15 (ninS ne_tq3_b5 (ninS ne_tq3_t_9 nin0))
  replace E_a4 : Exa Z T15.heap a4 "java/lang/String" := E_a4.keep Kc15
  replace F_value_a4 : Fld Z T15.heap a4 "java/lang/String" "value" "[B" (.ref tq4) := F_value_a4.keep Kc15 (ninS ne_a4_b5 (ninS ne_a4_t_9 nin0))
  replace F_coder_a4 : Fld Z T15.heap a4 "java/lang/String" "coder" "B" (.int (0 : Int32)) := F_coder_a4.keep Kc15 (ninS ne_a4_b5 (ninS ne_a4_t_9 nin0))
  replace V_tq4 : Arv Z T15.heap tq4 kq4 .byte (2 : Int32) [(.int ec0), (.int ec1)] (.int (0 : Int32)) := V_tq4.keep Kc15 (ninS ne_tq4_b5 (ninS ne_tq4_t_9 nin0))
  replace OL : Old Z n0 T15.heap := OL.keep Kc15 (allS (Nat.le_trans Z0 sz_b5) (allS (Nat.le_trans Z0 sz_t_9) all0))
  replace E_b5 : Exa Z T15.heap b5 "java/lang/StringBuilder" := E_b5.keep Kc15
  replace E_t_9 : Exa Z T15.heap t_9 "[B" := E_t_9.keep Kc15
  replace CR : CHr Z ELs s.vm h0 s.vm T15.heap := CR.trans (CHr.keep Kc15 sfk15 CR.1)
  replace hk := Nat.le_trans hk Kc15.1
  have K15 : Keep h0 T15.heap [] := K9.trans Kc15 (allS (P := fun x => x ∈ [] ∨ h0.size ≤ x) (Or.inr sz_b5) (allS (P := fun x => x ∈ [] ∨ h0.size ≤ x) (Or.inr sz_t_9) all0))
  have E_b5 : Exa Z T15.heap b5 "java/lang/StringBuilder" := po15_0
  have F_value_b5 : Fld Z T15.heap b5 "java/lang/AbstractStringBuilder" "value" "[B" (.ref t_9) := po15_1
  have F_coder_b5 : Fld Z T15.heap b5 "java/lang/AbstractStringBuilder" "coder" "B" (.int (0 : Int32)) := po15_2
  have F_count_b5 : Fld Z T15.heap b5 "java/lang/AbstractStringBuilder" "count" "I" (.int (Int32.ofNat (([] : List Value) ++ ([(.int dc0), (.int dc1)] : List Value)).length)) := po15_3
  have V_t_9 : Arv Z T15.heap t_9 kb_9 .byte (16 : Int32) (([] : List Value) ++ ([(.int dc0), (.int dc1)] : List Value)) (.int (0 : Int32)) := po15_4
  have E_t_9 : Exa Z T15.heap t_9 "[B" := po15_5
  obtain ⟨b18, T18, h18, ki18, bb18, kb18, X18, e18, E18, hS, hk, hZ, hown, lA18, lC18, lV18, lB18, la18, lb18, cC18, -, hsf18, st18⟩ := ldcCH X15 hx hZ hown (ww hw 185 rfl) (own_wS hw) rfl hS hk hEL (by decide) CR.1 (vs := [(.int (32 : Int32)), (.int (68 : Int32)), (.int (101 : Int32)), (.int (102 : Int32)), (.int (97 : Int32)), (.int (117 : Int32)), (.int (108 : Int32)), (.int (116 : Int32)), (.int (58 : Int32)), (.int (32 : Int32)), (.int (36 : Int32))]) (z := (11 : Int32)) ⟨by decide, rfl⟩ (by decide) (by decide) (g := (mkF m 21 #[.val (.ref co), .unset] [(.ref b5)])) rfl (hb hby d_help_21) (n := 44) (by decide) (by decide) (by decide) (by decide)
  have P19 : ∀ tt_, GG p e below T18 (mkF m 23 #[.val (.ref co), .unset] [(.ref b18), (.ref b5)]) tt_ → Steps p.tables e below s0 tt_ := fun tt_ kk_ => P17 tt_ (st18 _ kk_)
  replace sf_b5 : Safe Z ELs T18.vm h18 b5 := cC18.safe E_b5.lt sf_b5
  replace sf_t_9 : Safe Z ELs T18.vm h18 t_9 := cC18.safe E_t_9.lt sf_t_9
  replace F_environmentVariable_co : Fld Z h18 co "com/example/ngazi/ngazi/cli/CommandOption" "environmentVariable" "Ljava/lang/String;" (.ref a4) := F_environmentVariable_co.ext E18
  replace F_description_co : Fld Z h18 co "com/example/ngazi/ngazi/cli/CommandOption" "description" "Ljava/lang/String;" (.ref a3) := F_description_co.ext E18
  replace E_a3 : Exa Z h18 a3 "java/lang/String" := E_a3.ext E18
  replace F_value_a3 : Fld Z h18 a3 "java/lang/String" "value" "[B" (.ref tq3) := F_value_a3.ext E18
  replace F_coder_a3 : Fld Z h18 a3 "java/lang/String" "coder" "B" (.int (0 : Int32)) := F_coder_a3.ext E18
  replace V_tq3 : Arv Z h18 tq3 kq3 .byte (2 : Int32) [(.int dc0), (.int dc1)] (.int (0 : Int32)) := V_tq3.ext E18
  replace E_a4 : Exa Z h18 a4 "java/lang/String" := E_a4.ext E18
  replace F_value_a4 : Fld Z h18 a4 "java/lang/String" "value" "[B" (.ref tq4) := F_value_a4.ext E18
  replace F_coder_a4 : Fld Z h18 a4 "java/lang/String" "coder" "B" (.int (0 : Int32)) := F_coder_a4.ext E18
  replace V_tq4 : Arv Z h18 tq4 kq4 .byte (2 : Int32) [(.int ec0), (.int ec1)] (.int (0 : Int32)) := V_tq4.ext E18
  replace OL : Old Z n0 h18 := OL.ext E18
  replace E_b5 : Exa Z h18 b5 "java/lang/StringBuilder" := E_b5.ext E18
  replace E_t_9 : Exa Z h18 t_9 "[B" := E_t_9.ext E18
  replace F_value_b5 : Fld Z h18 b5 "java/lang/AbstractStringBuilder" "value" "[B" (.ref t_9) := F_value_b5.ext E18
  replace F_coder_b5 : Fld Z h18 b5 "java/lang/AbstractStringBuilder" "coder" "B" (.int (0 : Int32)) := F_coder_b5.ext E18
  replace F_count_b5 : Fld Z h18 b5 "java/lang/AbstractStringBuilder" "count" "I" (.int (Int32.ofNat (([] : List Value) ++ ([(.int dc0), (.int dc1)] : List Value)).length)) := F_count_b5.ext E18
  replace V_t_9 : Arv Z h18 t_9 kb_9 .byte (16 : Int32) (([] : List Value) ++ ([(.int dc0), (.int dc1)] : List Value)) (.int (0 : Int32)) := V_t_9.ext E18
  replace CR : CHr Z ELs s.vm h0 T18.vm h18 := CR.trans cC18
  have K18 : Keep h0 h18 [] := K15.ext E18
  obtain ⟨Lf20, X18, N20⟩ : ∃ Lf, Stand p l e ({ frames := 5, cells := 8, slots := 96, locals := 74 } : Room) (s.setVm T18.vm) m #[(.ref co)] below meth c T18 Lf 4 68 ∧ Fr n0 Lf := ⟨_, X18, N16⟩
  have E_b18 : Exa Z h18 b18 "java/lang/String" := lA18
  have F_coder_b18 : Fld Z h18 b18 "java/lang/String" "coder" "B" (.int (0 : Int32)) := lC18
  have F_value_b18 : Fld Z h18 b18 "java/lang/String" "value" "[B" (.ref bb18) := lV18
  have V_bb18 : Arv Z h18 bb18 kb18 .byte (11 : Int32) [(.int (32 : Int32)), (.int (68 : Int32)), (.int (101 : Int32)), (.int (102 : Int32)), (.int (97 : Int32)), (.int (117 : Int32)), (.int (108 : Int32)), (.int (116 : Int32)), (.int (58 : Int32)), (.int (32 : Int32)), (.int (36 : Int32))] (.int (0 : Int32)) := lB18
  have ne_b5_b18 : b5 ≠ b18 := (hsf18 _ sf_b5).1
  have ne_b5_bb18 : b5 ≠ bb18 := (hsf18 _ sf_b5).2
  have ne_t_9_b18 : t_9 ≠ b18 := (hsf18 _ sf_t_9).1
  have ne_t_9_bb18 : t_9 ≠ bb18 := (hsf18 _ sf_t_9).2
  obtain ⟨cq21, kq21, q21a, q21b, q21c⟩ := isOf hZ e18 E_b5
  obtain ⟨_, _, ⟨T21, L21, k21, n21⟩, -, X21, ⟨Lc21, hQ21, l21, y21, z21⟩, st21⟩ := X18.virtualBack hx (y := mn_22) (z := mn_22) hown (mw hZ hw 138 rfl) (mw hZ hw 139 rfl) (notFace_of_selects (args := #[]) (mw hZ hw 141 rfl)) (mw hZ hw 141 rfl) (mw hZ hw 140 rfl) (by decide) (backOf (W := 0) (rm_sbApp l Z a0 hw [] b5 t_9 kb_9 (([] : List Value) ++ ([(.int dc0), (.int dc1)] : List Value)) G1 b18 bb18 kb18 ([(.int (32 : Int32)), (.int (68 : Int32)), (.int (101 : Int32)), (.int (102 : Int32)), (.int (97 : Int32)), (.int (117 : Int32)), (.int (108 : Int32)), (.int (116 : Int32)), (.int (58 : Int32)), (.int (32 : Int32)), (.int (36 : Int32))] : List Value) h18 n0 (Nat.le_trans Z0 K18.1) E_b5 F_value_b5 F_coder_b5 F_count_b5 V_t_9 E_t_9 E_b18 F_value_b18 F_coder_b18 V_bb18 (Nat.le_trans Z0 sz_t_9) (Nat.le_trans Z0 sz_b5) (Ne.symm ne_t_9_b18) (Ne.symm ne_t_9_bb18) ne_b5_t_9 (Ne.symm ne_b5_b18) (Ne.symm ne_b5_bb18) S_COMPACT_STRINGS OL hz (Nat.le_of_ble_eq_true rfl)) hZ (ww hw 142 rfl) (ww hw 122 rfl) (by decide) (by decide)) q21a q21c (g := (mkF m 23 #[.val (.ref co), .unset] [(.ref b18), (.ref b5)])) rfl (by rw [hml]; rfl) (Steps.refl _) (argsL := [(.ref b18)]) (rest := []) (lenOf pd_18 rfl) rfl (by show 2 * 0 + _ ≤ _; exact Nat.le_of_eq rfl) (hb hby d_help_23) (fun _ _ => ⟨rfl, e18, (by decide : 4 + 0 ≤ _), (by decide : 68 + 0 ≤ _)⟩)
  dsimp only [Pt.U, Pt.locs, Pt.cells, Pt.slots] at X21 l21 y21 z21 st21 hQ21
  subst l21 y21 z21
  obtain ⟨rfl, N21q, Kc21, po21_0, po21_1, po21_2, po21_3, po21_4, po21_5⟩ := hQ21
  have N21 := Fr.app N20 N21q
  obtain ⟨Lf22, X21, N22⟩ : ∃ Lf, Stand p l e ({ frames := 5, cells := 8, slots := 96, locals := 74 } : Room) (s.setVm T18.vm) m #[(.ref co)] below meth c T21 Lf 4 68 ∧ Fr n0 Lf := ⟨_, X21, N21⟩
  have P23 : ∀ tt_, GG p e below T21 (mkF m 26 #[.val (.ref co), .unset] [(.ref b5)]) tt_ → Steps p.tables e below s0 tt_ := fun tt_ kk_ => P19 tt_ (st21.trans kk_)
  have sfk21 := ((sfS sf_b5 (sfS sf_t_9 sf0)) : ∀ x ∈ [b5, t_9], Safe Z ELs T18.vm h18 x)
  replace sf_b5 : Safe Z ELs T18.vm T21.heap b5 := Safe.keep Kc21 sfk21 CR.1 sf_b5
  replace sf_t_9 : Safe Z ELs T18.vm T21.heap t_9 := Safe.keep Kc21 sfk21 CR.1 sf_t_9
  replace F_environmentVariable_co : Fld Z T21.heap co "com/example/ngazi/ngazi/cli/CommandOption" "environmentVariable" "Ljava/lang/String;" (.ref a4) := F_environmentVariable_co.keep Kc21 (ninS ne_co_b5 (ninS ne_co_t_9 nin0))
  replace F_description_co : Fld Z T21.heap co "com/example/ngazi/ngazi/cli/CommandOption" "description" "Ljava/lang/String;" (.ref a3) := F_description_co.keep Kc21 (ninS ne_co_b5 (ninS ne_co_t_9 nin0))
  replace E_a3 : Exa Z T21.heap a3 "java/lang/String" := E_a3.keep Kc21
  replace F_value_a3 : Fld Z T21.heap a3 "java/lang/String" "value" "[B" (.ref tq3) := F_value_a3.keep Kc21 (ninS ne_a3_b5 (ninS ne_a3_t_9 nin0))
  replace F_coder_a3 : Fld Z T21.heap a3 "java/lang/String" "coder" "B" (.int (0 : Int32)) := F_coder_a3.keep Kc21 (ninS ne_a3_b5 (ninS ne_a3_t_9 nin0))
  replace V_tq3 : Arv Z T21.heap tq3 kq3 .byte (2 : Int32) [(.int dc0), (.int dc1)] (.int (0 : Int32)) := V_tq3.keep Kc21 (ninS ne_tq3_b5 (ninS ne_tq3_t_9 nin0))
  replace E_a4 : Exa Z T21.heap a4 "java/lang/String" := E_a4.keep Kc21
  replace F_value_a4 : Fld Z T21.heap a4 "java/lang/String" "value" "[B" (.ref tq4) := F_value_a4.keep Kc21 (ninS ne_a4_b5 (ninS ne_a4_t_9 nin0))
  replace F_coder_a4 : Fld Z T21.heap a4 "java/lang/String" "coder" "B" (.int (0 : Int32)) := F_coder_a4.keep Kc21 (ninS ne_a4_b5 (ninS ne_a4_t_9 nin0))
  replace V_tq4 : Arv Z T21.heap tq4 kq4 .byte (2 : Int32) [(.int ec0), (.int ec1)] (.int (0 : Int32)) := V_tq4.keep Kc21 (ninS ne_tq4_b5 (ninS ne_tq4_t_9 nin0))
  replace OL : Old Z n0 T21.heap := OL.keep Kc21 (allS (Nat.le_trans Z0 sz_b5) (allS (Nat.le_trans Z0 sz_t_9) all0))
  replace E_b5 : Exa Z T21.heap b5 "java/lang/StringBuilder" := E_b5.keep Kc21
  replace E_t_9 : Exa Z T21.heap t_9 "[B" := E_t_9.keep Kc21
  replace E_b18 : Exa Z T21.heap b18 "java/lang/String" := E_b18.keep Kc21
  replace F_coder_b18 : Fld Z T21.heap b18 "java/lang/String" "coder" "B" (.int (0 : Int32)) := F_coder_b18.keep Kc21 (ninS (Ne.symm ne_b5_b18) (ninS (Ne.symm ne_t_9_b18) nin0))
  replace F_value_b18 : Fld Z T21.heap b18 "java/lang/String" "value" "[B" (.ref bb18) := F_value_b18.keep Kc21 (ninS (Ne.symm ne_b5_b18) (ninS (Ne.symm ne_t_9_b18) nin0))
  replace V_bb18 : Arv Z T21.heap bb18 kb18 .byte (11 : Int32) [(.int (32 : Int32)), (.int (68 : Int32)), (.int (101 : Int32)), (.int (102 : Int32)), (.int (97 : Int32)), (.int (117 : Int32)), (.int (108 : Int32)), (.int (116 : Int32)), (.int (58 : Int32)), (.int (32 : Int32)), (.int (36 : Int32))] (.int (0 : Int32)) := V_bb18.keep Kc21 (ninS (Ne.symm ne_b5_bb18) (ninS (Ne.symm ne_t_9_bb18) nin0))
  replace CR : CHr Z ELs s.vm h0 T18.vm T21.heap := CR.trans (CHr.keep Kc21 sfk21 CR.1)
  replace hk := Nat.le_trans hk Kc21.1
  have K21 : Keep h0 T21.heap [] := K18.trans Kc21 (allS (P := fun x => x ∈ [] ∨ h0.size ≤ x) (Or.inr sz_b5) (allS (P := fun x => x ∈ [] ∨ h0.size ≤ x) (Or.inr sz_t_9) all0))
  have E_b5 : Exa Z T21.heap b5 "java/lang/StringBuilder" := po21_0
  have F_value_b5 : Fld Z T21.heap b5 "java/lang/AbstractStringBuilder" "value" "[B" (.ref t_9) := po21_1
  have F_coder_b5 : Fld Z T21.heap b5 "java/lang/AbstractStringBuilder" "coder" "B" (.int (0 : Int32)) := po21_2
  have F_count_b5 : Fld Z T21.heap b5 "java/lang/AbstractStringBuilder" "count" "I" (.int (Int32.ofNat ((([] : List Value) ++ ([(.int dc0), (.int dc1)] : List Value)) ++ ([(.int (32 : Int32)), (.int (68 : Int32)), (.int (101 : Int32)), (.int (102 : Int32)), (.int (97 : Int32)), (.int (117 : Int32)), (.int (108 : Int32)), (.int (116 : Int32)), (.int (58 : Int32)), (.int (32 : Int32)), (.int (36 : Int32))] : List Value)).length)) := po21_3
  have V_t_9 : Arv Z T21.heap t_9 kb_9 .byte (16 : Int32) ((([] : List Value) ++ ([(.int dc0), (.int dc1)] : List Value)) ++ ([(.int (32 : Int32)), (.int (68 : Int32)), (.int (101 : Int32)), (.int (102 : Int32)), (.int (97 : Int32)), (.int (117 : Int32)), (.int (108 : Int32)), (.int (116 : Int32)), (.int (58 : Int32)), (.int (32 : Int32)), (.int (36 : Int32))] : List Value)) (.int (0 : Int32)) := po21_4
  have E_t_9 : Exa Z T21.heap t_9 "[B" := po21_5
  have P24 : ∀ tt_, GG p e below T21 (mkF m 27 #[.val (.ref co), .unset] [(.ref co), (.ref b5)]) tt_ → Steps p.tables e below s0 tt_ := fun tt_ kk_ => P23 tt_ (by
    refine XS.aloadN X21.here hx rfl (hb hby d_help_26) rfl rfl ?_
    exact kk_)
  obtain ⟨T25, X25, e25, st25⟩ := getF X21 hx hZ hown (host := "") (Or.inl (ww hw 76 rfl)) Via.refl rfl F_environmentVariable_co (g := (mkF m 27 #[.val (.ref co), .unset] [(.ref co), (.ref b5)])) rfl rfl (hb hby d_help_27)
  have P26 : ∀ tt_, GG p e below T25 (mkF m 30 #[.val (.ref co), .unset] [(.ref a4), (.ref b5)]) tt_ → Steps p.tables e below s0 tt_ := fun tt_ kk_ => P24 tt_ (st25 _ kk_)
  obtain ⟨cq27, kq27, q27a, q27b, q27c⟩ := isOf hZ e25 E_b5
  obtain ⟨_, _, ⟨T27, L27, k27, n27⟩, -, X27, ⟨Lc27, hQ27, l27, y27, z27⟩, st27⟩ := X25.virtualBack hx (y := mn_22) (z := mn_22) hown (mw hZ hw 138 rfl) (mw hZ hw 139 rfl) (notFace_of_selects (args := #[]) (mw hZ hw 141 rfl)) (mw hZ hw 141 rfl) (mw hZ hw 140 rfl) (by decide) (backOf (W := 0) (rm_sbApp l Z a0 hw [] b5 t_9 kb_9 ((([] : List Value) ++ ([(.int dc0), (.int dc1)] : List Value)) ++ ([(.int (32 : Int32)), (.int (68 : Int32)), (.int (101 : Int32)), (.int (102 : Int32)), (.int (97 : Int32)), (.int (117 : Int32)), (.int (108 : Int32)), (.int (116 : Int32)), (.int (58 : Int32)), (.int (32 : Int32)), (.int (36 : Int32))] : List Value)) G1 a4 tq4 kq4 ([(.int ec0), (.int ec1)] : List Value) T21.heap n0 (Nat.le_trans Z0 K21.1) E_b5 F_value_b5 F_coder_b5 F_count_b5 V_t_9 E_t_9 E_a4 F_value_a4 F_coder_a4 V_tq4 (Nat.le_trans Z0 sz_t_9) (Nat.le_trans Z0 sz_b5) ne_a4_t_9 ne_tq4_t_9 ne_b5_t_9 ne_a4_b5 ne_tq4_b5 S_COMPACT_STRINGS OL hz (Nat.le_of_ble_eq_true rfl)) hZ (ww hw 142 rfl) (ww hw 122 rfl) (by decide) (by decide)) q27a q27c (g := (mkF m 30 #[.val (.ref co), .unset] [(.ref a4), (.ref b5)])) rfl (by rw [hml]; rfl) (Steps.refl _) (argsL := [(.ref a4)]) (rest := []) (lenOf pd_18 rfl) rfl (by show 2 * 0 + _ ≤ _; exact Nat.le_of_eq rfl) (hb hby d_help_30) (fun _ _ => ⟨rfl, e25, (by decide : 4 + 0 ≤ _), (by decide : 68 + 0 ≤ _)⟩)
  dsimp only [Pt.U, Pt.locs, Pt.cells, Pt.slots] at X27 l27 y27 z27 st27 hQ27
  subst l27 y27 z27
  obtain ⟨rfl, N27q, Kc27, po27_0, po27_1, po27_2, po27_3, po27_4, po27_5⟩ := hQ27
  have N27 := Fr.app N22 N27q
  obtain ⟨Lf28, X27, N28⟩ : ∃ Lf, Stand p l e ({ frames := 5, cells := 8, slots := 96, locals := 74 } : Room) (s.setVm T18.vm) m #[(.ref co)] below meth c T27 Lf 4 68 ∧ Fr n0 Lf := ⟨_, X27, N27⟩
  have P29 : ∀ tt_, GG p e below T27 (mkF m 33 #[.val (.ref co), .unset] [(.ref b5)]) tt_ → Steps p.tables e below s0 tt_ := fun tt_ kk_ => P26 tt_ (st27.trans kk_)
  have sfk27 := ((sfS sf_b5 (sfS sf_t_9 sf0)) : ∀ x ∈ [b5, t_9], Safe Z ELs T18.vm T21.heap x)
  replace sf_b5 : Safe Z ELs T18.vm T27.heap b5 := Safe.keep Kc27 sfk27 CR.1 sf_b5
  replace sf_t_9 : Safe Z ELs T18.vm T27.heap t_9 := Safe.keep Kc27 sfk27 CR.1 sf_t_9
  replace F_environmentVariable_co : Fld Z T27.heap co "com/example/ngazi/ngazi/cli/CommandOption" "environmentVariable" "Ljava/lang/String;" (.ref a4) := F_environmentVariable_co.keep Kc27 (ninS ne_co_b5 (ninS ne_co_t_9 nin0))
  replace F_description_co : Fld Z T27.heap co "com/example/ngazi/ngazi/cli/CommandOption" "description" "Ljava/lang/String;" (.ref a3) := F_description_co.keep Kc27 (ninS ne_co_b5 (ninS ne_co_t_9 nin0))
  replace E_a3 : Exa Z T27.heap a3 "java/lang/String" := E_a3.keep Kc27
  replace F_value_a3 : Fld Z T27.heap a3 "java/lang/String" "value" "[B" (.ref tq3) := F_value_a3.keep Kc27 (ninS ne_a3_b5 (ninS ne_a3_t_9 nin0))
  replace F_coder_a3 : Fld Z T27.heap a3 "java/lang/String" "coder" "B" (.int (0 : Int32)) := F_coder_a3.keep Kc27 (ninS ne_a3_b5 (ninS ne_a3_t_9 nin0))
  replace V_tq3 : Arv Z T27.heap tq3 kq3 .byte (2 : Int32) [(.int dc0), (.int dc1)] (.int (0 : Int32)) := V_tq3.keep Kc27 (ninS ne_tq3_b5 (ninS ne_tq3_t_9 nin0))
  replace E_a4 : Exa Z T27.heap a4 "java/lang/String" := E_a4.keep Kc27
  replace F_value_a4 : Fld Z T27.heap a4 "java/lang/String" "value" "[B" (.ref tq4) := F_value_a4.keep Kc27 (ninS ne_a4_b5 (ninS ne_a4_t_9 nin0))
  replace F_coder_a4 : Fld Z T27.heap a4 "java/lang/String" "coder" "B" (.int (0 : Int32)) := F_coder_a4.keep Kc27 (ninS ne_a4_b5 (ninS ne_a4_t_9 nin0))
  replace V_tq4 : Arv Z T27.heap tq4 kq4 .byte (2 : Int32) [(.int ec0), (.int ec1)] (.int (0 : Int32)) := V_tq4.keep Kc27 (ninS ne_tq4_b5 (ninS ne_tq4_t_9 nin0))
  replace OL : Old Z n0 T27.heap := OL.keep Kc27 (allS (Nat.le_trans Z0 sz_b5) (allS (Nat.le_trans Z0 sz_t_9) all0))
  replace E_b5 : Exa Z T27.heap b5 "java/lang/StringBuilder" := E_b5.keep Kc27
  replace E_t_9 : Exa Z T27.heap t_9 "[B" := E_t_9.keep Kc27
  replace E_b18 : Exa Z T27.heap b18 "java/lang/String" := E_b18.keep Kc27
  replace F_coder_b18 : Fld Z T27.heap b18 "java/lang/String" "coder" "B" (.int (0 : Int32)) := F_coder_b18.keep Kc27 (ninS (Ne.symm ne_b5_b18) (ninS (Ne.symm ne_t_9_b18) nin0))
  replace F_value_b18 : Fld Z T27.heap b18 "java/lang/String" "value" "[B" (.ref bb18) := F_value_b18.keep Kc27 (ninS (Ne.symm ne_b5_b18) (ninS (Ne.symm ne_t_9_b18) nin0))
  replace V_bb18 : Arv Z T27.heap bb18 kb18 .byte (11 : Int32) [(.int (32 : Int32)), (.int (68 : Int32)), (.int (101 : Int32)), (.int (102 : Int32)), (.int (97 : Int32)), (.int (117 : Int32)), (.int (108 : Int32)), (.int (116 : Int32)), (.int (58 : Int32)), (.int (32 : Int32)), (.int (36 : Int32))] (.int (0 : Int32)) := V_bb18.keep Kc27 (ninS (Ne.symm ne_b5_bb18) (ninS (Ne.symm ne_t_9_bb18) nin0))
  replace CR : CHr Z ELs s.vm h0 T18.vm T27.heap := CR.trans (CHr.keep Kc27 sfk27 CR.1)
  replace hk := Nat.le_trans hk Kc27.1
  have K27 : Keep h0 T27.heap [] := K21.trans Kc27 (allS (P := fun x => x ∈ [] ∨ h0.size ≤ x) (Or.inr sz_b5) (allS (P := fun x => x ∈ [] ∨ h0.size ≤ x) (Or.inr sz_t_9) all0))
  have E_b5 : Exa Z T27.heap b5 "java/lang/StringBuilder" := po27_0
  have F_value_b5 : Fld Z T27.heap b5 "java/lang/AbstractStringBuilder" "value" "[B" (.ref t_9) := po27_1
  have F_coder_b5 : Fld Z T27.heap b5 "java/lang/AbstractStringBuilder" "coder" "B" (.int (0 : Int32)) := po27_2
  have F_count_b5 : Fld Z T27.heap b5 "java/lang/AbstractStringBuilder" "count" "I" (.int (Int32.ofNat (((([] : List Value) ++ ([(.int dc0), (.int dc1)] : List Value)) ++ ([(.int (32 : Int32)), (.int (68 : Int32)), (.int (101 : Int32)), (.int (102 : Int32)), (.int (97 : Int32)), (.int (117 : Int32)), (.int (108 : Int32)), (.int (116 : Int32)), (.int (58 : Int32)), (.int (32 : Int32)), (.int (36 : Int32))] : List Value)) ++ ([(.int ec0), (.int ec1)] : List Value)).length)) := po27_3
  have V_t_9 : Arv Z T27.heap t_9 kb_9 .byte (16 : Int32) (((([] : List Value) ++ ([(.int dc0), (.int dc1)] : List Value)) ++ ([(.int (32 : Int32)), (.int (68 : Int32)), (.int (101 : Int32)), (.int (102 : Int32)), (.int (97 : Int32)), (.int (117 : Int32)), (.int (108 : Int32)), (.int (116 : Int32)), (.int (58 : Int32)), (.int (32 : Int32)), (.int (36 : Int32))] : List Value)) ++ ([(.int ec0), (.int ec1)] : List Value)) (.int (0 : Int32)) := po27_4
  have E_t_9 : Exa Z T27.heap t_9 "[B" := po27_5
  obtain ⟨b30, T30, h30, ki30, bb30, kb30, X30, e30, E30, hS, hk, hZ, hown, lA30, lC30, lV30, lB30, la30, lb30, cC30, -, hsf30, st30⟩ := ldcCH X27 hx hZ hown (ww hw 186 rfl) (own_wS hw) rfl hS hk hEL (by decide) CR.1 (vs := [(.int (46 : Int32))]) (z := (1 : Int32)) ⟨by decide, rfl⟩ (by decide) (by decide) (g := (mkF m 33 #[.val (.ref co), .unset] [(.ref b5)])) rfl (hb hby d_help_33) (n := 4) (by decide) (by decide) (by decide) (by decide)
  have P31 : ∀ tt_, GG p e below T30 (mkF m 35 #[.val (.ref co), .unset] [(.ref b30), (.ref b5)]) tt_ → Steps p.tables e below s0 tt_ := fun tt_ kk_ => P29 tt_ (st30 _ kk_)
  replace sf_b5 : Safe Z ELs T30.vm h30 b5 := cC30.safe E_b5.lt sf_b5
  replace sf_t_9 : Safe Z ELs T30.vm h30 t_9 := cC30.safe E_t_9.lt sf_t_9
  replace F_environmentVariable_co : Fld Z h30 co "com/example/ngazi/ngazi/cli/CommandOption" "environmentVariable" "Ljava/lang/String;" (.ref a4) := F_environmentVariable_co.ext E30
  replace F_description_co : Fld Z h30 co "com/example/ngazi/ngazi/cli/CommandOption" "description" "Ljava/lang/String;" (.ref a3) := F_description_co.ext E30
  replace E_a3 : Exa Z h30 a3 "java/lang/String" := E_a3.ext E30
  replace F_value_a3 : Fld Z h30 a3 "java/lang/String" "value" "[B" (.ref tq3) := F_value_a3.ext E30
  replace F_coder_a3 : Fld Z h30 a3 "java/lang/String" "coder" "B" (.int (0 : Int32)) := F_coder_a3.ext E30
  replace V_tq3 : Arv Z h30 tq3 kq3 .byte (2 : Int32) [(.int dc0), (.int dc1)] (.int (0 : Int32)) := V_tq3.ext E30
  replace E_a4 : Exa Z h30 a4 "java/lang/String" := E_a4.ext E30
  replace F_value_a4 : Fld Z h30 a4 "java/lang/String" "value" "[B" (.ref tq4) := F_value_a4.ext E30
  replace F_coder_a4 : Fld Z h30 a4 "java/lang/String" "coder" "B" (.int (0 : Int32)) := F_coder_a4.ext E30
  replace V_tq4 : Arv Z h30 tq4 kq4 .byte (2 : Int32) [(.int ec0), (.int ec1)] (.int (0 : Int32)) := V_tq4.ext E30
  replace OL : Old Z n0 h30 := OL.ext E30
  replace E_b5 : Exa Z h30 b5 "java/lang/StringBuilder" := E_b5.ext E30
  replace E_t_9 : Exa Z h30 t_9 "[B" := E_t_9.ext E30
  replace E_b18 : Exa Z h30 b18 "java/lang/String" := E_b18.ext E30
  replace F_coder_b18 : Fld Z h30 b18 "java/lang/String" "coder" "B" (.int (0 : Int32)) := F_coder_b18.ext E30
  replace F_value_b18 : Fld Z h30 b18 "java/lang/String" "value" "[B" (.ref bb18) := F_value_b18.ext E30
  replace V_bb18 : Arv Z h30 bb18 kb18 .byte (11 : Int32) [(.int (32 : Int32)), (.int (68 : Int32)), (.int (101 : Int32)), (.int (102 : Int32)), (.int (97 : Int32)), (.int (117 : Int32)), (.int (108 : Int32)), (.int (116 : Int32)), (.int (58 : Int32)), (.int (32 : Int32)), (.int (36 : Int32))] (.int (0 : Int32)) := V_bb18.ext E30
  replace F_value_b5 : Fld Z h30 b5 "java/lang/AbstractStringBuilder" "value" "[B" (.ref t_9) := F_value_b5.ext E30
  replace F_coder_b5 : Fld Z h30 b5 "java/lang/AbstractStringBuilder" "coder" "B" (.int (0 : Int32)) := F_coder_b5.ext E30
  replace F_count_b5 : Fld Z h30 b5 "java/lang/AbstractStringBuilder" "count" "I" (.int (Int32.ofNat (((([] : List Value) ++ ([(.int dc0), (.int dc1)] : List Value)) ++ ([(.int (32 : Int32)), (.int (68 : Int32)), (.int (101 : Int32)), (.int (102 : Int32)), (.int (97 : Int32)), (.int (117 : Int32)), (.int (108 : Int32)), (.int (116 : Int32)), (.int (58 : Int32)), (.int (32 : Int32)), (.int (36 : Int32))] : List Value)) ++ ([(.int ec0), (.int ec1)] : List Value)).length)) := F_count_b5.ext E30
  replace V_t_9 : Arv Z h30 t_9 kb_9 .byte (16 : Int32) (((([] : List Value) ++ ([(.int dc0), (.int dc1)] : List Value)) ++ ([(.int (32 : Int32)), (.int (68 : Int32)), (.int (101 : Int32)), (.int (102 : Int32)), (.int (97 : Int32)), (.int (117 : Int32)), (.int (108 : Int32)), (.int (116 : Int32)), (.int (58 : Int32)), (.int (32 : Int32)), (.int (36 : Int32))] : List Value)) ++ ([(.int ec0), (.int ec1)] : List Value)) (.int (0 : Int32)) := V_t_9.ext E30
  replace CR : CHr Z ELs s.vm h0 T30.vm h30 := CR.trans cC30
  have K30 : Keep h0 h30 [] := K27.ext E30
  obtain ⟨Lf32, X30, N32⟩ : ∃ Lf, Stand p l e ({ frames := 5, cells := 8, slots := 96, locals := 74 } : Room) (s.setVm T30.vm) m #[(.ref co)] below meth c T30 Lf 6 76 ∧ Fr n0 Lf := ⟨_, X30, N28⟩
  have E_b30 : Exa Z h30 b30 "java/lang/String" := lA30
  have F_coder_b30 : Fld Z h30 b30 "java/lang/String" "coder" "B" (.int (0 : Int32)) := lC30
  have F_value_b30 : Fld Z h30 b30 "java/lang/String" "value" "[B" (.ref bb30) := lV30
  have V_bb30 : Arv Z h30 bb30 kb30 .byte (1 : Int32) [(.int (46 : Int32))] (.int (0 : Int32)) := lB30
  have ne_b5_b30 : b5 ≠ b30 := (hsf30 _ sf_b5).1
  have ne_b5_bb30 : b5 ≠ bb30 := (hsf30 _ sf_b5).2
  have ne_t_9_b30 : t_9 ≠ b30 := (hsf30 _ sf_t_9).1
  have ne_t_9_bb30 : t_9 ≠ bb30 := (hsf30 _ sf_t_9).2
  obtain ⟨cq33, kq33, q33a, q33b, q33c⟩ := isOf hZ e30 E_b5
  obtain ⟨_, _, ⟨T33, L33, k33, n33⟩, -, X33, ⟨Lc33, hQ33, l33, y33, z33⟩, st33⟩ := X30.virtualBack hx (y := mn_22) (z := mn_22) hown (mw hZ hw 138 rfl) (mw hZ hw 139 rfl) (notFace_of_selects (args := #[]) (mw hZ hw 141 rfl)) (mw hZ hw 141 rfl) (mw hZ hw 140 rfl) (by decide) (backOf (W := 0) (rm_sbApp l Z a0 hw [] b5 t_9 kb_9 (((([] : List Value) ++ ([(.int dc0), (.int dc1)] : List Value)) ++ ([(.int (32 : Int32)), (.int (68 : Int32)), (.int (101 : Int32)), (.int (102 : Int32)), (.int (97 : Int32)), (.int (117 : Int32)), (.int (108 : Int32)), (.int (116 : Int32)), (.int (58 : Int32)), (.int (32 : Int32)), (.int (36 : Int32))] : List Value)) ++ ([(.int ec0), (.int ec1)] : List Value)) G1 b30 bb30 kb30 ([(.int (46 : Int32))] : List Value) h30 n0 (Nat.le_trans Z0 K30.1) E_b5 F_value_b5 F_coder_b5 F_count_b5 V_t_9 E_t_9 E_b30 F_value_b30 F_coder_b30 V_bb30 (Nat.le_trans Z0 sz_t_9) (Nat.le_trans Z0 sz_b5) (Ne.symm ne_t_9_b30) (Ne.symm ne_t_9_bb30) ne_b5_t_9 (Ne.symm ne_b5_b30) (Ne.symm ne_b5_bb30) S_COMPACT_STRINGS OL hz (Nat.le_of_ble_eq_true rfl)) hZ (ww hw 142 rfl) (ww hw 122 rfl) (by decide) (by decide)) q33a q33c (g := (mkF m 35 #[.val (.ref co), .unset] [(.ref b30), (.ref b5)])) rfl (by rw [hml]; rfl) (Steps.refl _) (argsL := [(.ref b30)]) (rest := []) (lenOf pd_18 rfl) rfl (by show 2 * 0 + _ ≤ _; exact Nat.le_of_eq rfl) (hb hby d_help_35) (fun _ _ => ⟨rfl, e30, (by decide : 6 + 0 ≤ _), (by decide : 76 + 0 ≤ _)⟩)
  dsimp only [Pt.U, Pt.locs, Pt.cells, Pt.slots] at X33 l33 y33 z33 st33 hQ33
  subst l33 y33 z33
  obtain ⟨rfl, N33q, Kc33, po33_0, po33_1, po33_2, po33_3, po33_4, po33_5⟩ := hQ33
  have N33 := Fr.app N32 N33q
  obtain ⟨Lf34, X33, N34⟩ : ∃ Lf, Stand p l e ({ frames := 5, cells := 8, slots := 96, locals := 74 } : Room) (s.setVm T30.vm) m #[(.ref co)] below meth c T33 Lf 6 76 ∧ Fr n0 Lf := ⟨_, X33, N33⟩
  have P35 : ∀ tt_, GG p e below T33 (mkF m 38 #[.val (.ref co), .unset] [(.ref b5)]) tt_ → Steps p.tables e below s0 tt_ := fun tt_ kk_ => P31 tt_ (st33.trans kk_)
  have sfk33 := ((sfS sf_b5 (sfS sf_t_9 sf0)) : ∀ x ∈ [b5, t_9], Safe Z ELs T30.vm h30 x)
  replace sf_b5 : Safe Z ELs T30.vm T33.heap b5 := Safe.keep Kc33 sfk33 CR.1 sf_b5
  replace sf_t_9 : Safe Z ELs T30.vm T33.heap t_9 := Safe.keep Kc33 sfk33 CR.1 sf_t_9
  replace F_environmentVariable_co : Fld Z T33.heap co "com/example/ngazi/ngazi/cli/CommandOption" "environmentVariable" "Ljava/lang/String;" (.ref a4) := F_environmentVariable_co.keep Kc33 (ninS ne_co_b5 (ninS ne_co_t_9 nin0))
  replace F_description_co : Fld Z T33.heap co "com/example/ngazi/ngazi/cli/CommandOption" "description" "Ljava/lang/String;" (.ref a3) := F_description_co.keep Kc33 (ninS ne_co_b5 (ninS ne_co_t_9 nin0))
  replace E_a3 : Exa Z T33.heap a3 "java/lang/String" := E_a3.keep Kc33
  replace F_value_a3 : Fld Z T33.heap a3 "java/lang/String" "value" "[B" (.ref tq3) := F_value_a3.keep Kc33 (ninS ne_a3_b5 (ninS ne_a3_t_9 nin0))
  replace F_coder_a3 : Fld Z T33.heap a3 "java/lang/String" "coder" "B" (.int (0 : Int32)) := F_coder_a3.keep Kc33 (ninS ne_a3_b5 (ninS ne_a3_t_9 nin0))
  replace V_tq3 : Arv Z T33.heap tq3 kq3 .byte (2 : Int32) [(.int dc0), (.int dc1)] (.int (0 : Int32)) := V_tq3.keep Kc33 (ninS ne_tq3_b5 (ninS ne_tq3_t_9 nin0))
  replace E_a4 : Exa Z T33.heap a4 "java/lang/String" := E_a4.keep Kc33
  replace F_value_a4 : Fld Z T33.heap a4 "java/lang/String" "value" "[B" (.ref tq4) := F_value_a4.keep Kc33 (ninS ne_a4_b5 (ninS ne_a4_t_9 nin0))
  replace F_coder_a4 : Fld Z T33.heap a4 "java/lang/String" "coder" "B" (.int (0 : Int32)) := F_coder_a4.keep Kc33 (ninS ne_a4_b5 (ninS ne_a4_t_9 nin0))
  replace V_tq4 : Arv Z T33.heap tq4 kq4 .byte (2 : Int32) [(.int ec0), (.int ec1)] (.int (0 : Int32)) := V_tq4.keep Kc33 (ninS ne_tq4_b5 (ninS ne_tq4_t_9 nin0))
  replace OL : Old Z n0 T33.heap := OL.keep Kc33 (allS (Nat.le_trans Z0 sz_b5) (allS (Nat.le_trans Z0 sz_t_9) all0))
  replace E_b5 : Exa Z T33.heap b5 "java/lang/StringBuilder" := E_b5.keep Kc33
  replace E_t_9 : Exa Z T33.heap t_9 "[B" := E_t_9.keep Kc33
  replace E_b18 : Exa Z T33.heap b18 "java/lang/String" := E_b18.keep Kc33
  replace F_coder_b18 : Fld Z T33.heap b18 "java/lang/String" "coder" "B" (.int (0 : Int32)) := F_coder_b18.keep Kc33 (ninS (Ne.symm ne_b5_b18) (ninS (Ne.symm ne_t_9_b18) nin0))
  replace F_value_b18 : Fld Z T33.heap b18 "java/lang/String" "value" "[B" (.ref bb18) := F_value_b18.keep Kc33 (ninS (Ne.symm ne_b5_b18) (ninS (Ne.symm ne_t_9_b18) nin0))
  replace V_bb18 : Arv Z T33.heap bb18 kb18 .byte (11 : Int32) [(.int (32 : Int32)), (.int (68 : Int32)), (.int (101 : Int32)), (.int (102 : Int32)), (.int (97 : Int32)), (.int (117 : Int32)), (.int (108 : Int32)), (.int (116 : Int32)), (.int (58 : Int32)), (.int (32 : Int32)), (.int (36 : Int32))] (.int (0 : Int32)) := V_bb18.keep Kc33 (ninS (Ne.symm ne_b5_bb18) (ninS (Ne.symm ne_t_9_bb18) nin0))
  replace E_b30 : Exa Z T33.heap b30 "java/lang/String" := E_b30.keep Kc33
  replace F_coder_b30 : Fld Z T33.heap b30 "java/lang/String" "coder" "B" (.int (0 : Int32)) := F_coder_b30.keep Kc33 (ninS (Ne.symm ne_b5_b30) (ninS (Ne.symm ne_t_9_b30) nin0))
  replace F_value_b30 : Fld Z T33.heap b30 "java/lang/String" "value" "[B" (.ref bb30) := F_value_b30.keep Kc33 (ninS (Ne.symm ne_b5_b30) (ninS (Ne.symm ne_t_9_b30) nin0))
  replace V_bb30 : Arv Z T33.heap bb30 kb30 .byte (1 : Int32) [(.int (46 : Int32))] (.int (0 : Int32)) := V_bb30.keep Kc33 (ninS (Ne.symm ne_b5_bb30) (ninS (Ne.symm ne_t_9_bb30) nin0))
  replace CR : CHr Z ELs s.vm h0 T30.vm T33.heap := CR.trans (CHr.keep Kc33 sfk33 CR.1)
  replace hk := Nat.le_trans hk Kc33.1
  have K33 : Keep h0 T33.heap [] := K30.trans Kc33 (allS (P := fun x => x ∈ [] ∨ h0.size ≤ x) (Or.inr sz_b5) (allS (P := fun x => x ∈ [] ∨ h0.size ≤ x) (Or.inr sz_t_9) all0))
  have E_b5 : Exa Z T33.heap b5 "java/lang/StringBuilder" := po33_0
  have F_value_b5 : Fld Z T33.heap b5 "java/lang/AbstractStringBuilder" "value" "[B" (.ref t_9) := po33_1
  have F_coder_b5 : Fld Z T33.heap b5 "java/lang/AbstractStringBuilder" "coder" "B" (.int (0 : Int32)) := po33_2
  have F_count_b5 : Fld Z T33.heap b5 "java/lang/AbstractStringBuilder" "count" "I" (.int (Int32.ofNat ((((([] : List Value) ++ ([(.int dc0), (.int dc1)] : List Value)) ++ ([(.int (32 : Int32)), (.int (68 : Int32)), (.int (101 : Int32)), (.int (102 : Int32)), (.int (97 : Int32)), (.int (117 : Int32)), (.int (108 : Int32)), (.int (116 : Int32)), (.int (58 : Int32)), (.int (32 : Int32)), (.int (36 : Int32))] : List Value)) ++ ([(.int ec0), (.int ec1)] : List Value)) ++ ([(.int (46 : Int32))] : List Value)).length)) := po33_3
  have V_t_9 : Arv Z T33.heap t_9 kb_9 .byte (16 : Int32) ((((([] : List Value) ++ ([(.int dc0), (.int dc1)] : List Value)) ++ ([(.int (32 : Int32)), (.int (68 : Int32)), (.int (101 : Int32)), (.int (102 : Int32)), (.int (97 : Int32)), (.int (117 : Int32)), (.int (108 : Int32)), (.int (116 : Int32)), (.int (58 : Int32)), (.int (32 : Int32)), (.int (36 : Int32))] : List Value)) ++ ([(.int ec0), (.int ec1)] : List Value)) ++ ([(.int (46 : Int32))] : List Value)) (.int (0 : Int32)) := po33_4
  have E_t_9 : Exa Z T33.heap t_9 "[B" := po33_5
  obtain ⟨cq36, kq36, q36a, q36b, q36c⟩ := isOf hZ rfl E_b5
  obtain ⟨_, _, ⟨T36, L36, k36, n36⟩, -, X36, ⟨Lc36, hQ36, l36, y36, z36⟩, st36⟩ := X33.virtualBack hx (y := mn_23) (z := mn_23) hown (mw hZ hw 187 rfl) (mw hZ hw 188 rfl) (notFace_of_selects (args := #[]) (mw hZ hw 190 rfl)) (mw hZ hw 190 rfl) (mw hZ hw 189 rfl) (by decide) (backOf (W := 0) (rm_sbStr l Z a0 hw [] b5 t_9 kb_9 ((((([] : List Value) ++ ([(.int dc0), (.int dc1)] : List Value)) ++ ([(.int (32 : Int32)), (.int (68 : Int32)), (.int (101 : Int32)), (.int (102 : Int32)), (.int (97 : Int32)), (.int (117 : Int32)), (.int (108 : Int32)), (.int (116 : Int32)), (.int (58 : Int32)), (.int (32 : Int32)), (.int (36 : Int32))] : List Value)) ++ ([(.int ec0), (.int ec1)] : List Value)) ++ ([(.int (46 : Int32))] : List Value)) G1 T33.heap n0 (Nat.le_trans Z0 K33.1) E_b5 F_value_b5 F_coder_b5 F_count_b5 V_t_9 E_t_9 S_COMPACT_STRINGS OL hz) hZ (ww hw 191 rfl) (ww hw 122 rfl) (by decide) (by decide)) q36a q36c (g := (mkF m 38 #[.val (.ref co), .unset] [(.ref b5)])) rfl (by rw [hml]; rfl) (Steps.refl _) (argsL := []) (rest := []) (lenOf pd_19 rfl) rfl (by show 2 * 0 + _ ≤ _; exact Nat.le_of_eq rfl) (hb hby d_help_38) (fun _ _ => ⟨rfl, rfl, (by decide : 6 + 2 ≤ _), (by decide : 76 + 20 ≤ _)⟩)
  dsimp only [Pt.U, Pt.locs, Pt.cells, Pt.slots] at X36 l36 y36 z36 st36 hQ36
  subst l36 y36 z36
  obtain ⟨xs_36, tn_36, rfl, N36q, Kc36, po36_0, po36_1, po36_2, po36_3, po36_4, po36_5⟩ := hQ36
  have N36 := Fr.app N34 N36q
  obtain ⟨Lf37, X36, N37⟩ : ∃ Lf, Stand p l e ({ frames := 5, cells := 8, slots := 96, locals := 74 } : Room) (s.setVm T30.vm) m #[(.ref co)] below meth c T36 Lf 8 96 ∧ Fr n0 Lf := ⟨_, X36, N36⟩
  have P38 : ∀ tt_, GG p e below T36 (mkF m 41 #[.val (.ref co), .unset] [(.ref xs_36)]) tt_ → Steps p.tables e below s0 tt_ := fun tt_ kk_ => P35 tt_ (st36.trans kk_)
  have ne_co_xs_36 : co ≠ xs_36 := Nat.ne_of_lt (Nat.lt_of_lt_of_le F_environmentVariable_co.lt po36_0)
  have ne_a3_xs_36 : a3 ≠ xs_36 := Nat.ne_of_lt (Nat.lt_of_lt_of_le E_a3.lt po36_0)
  have ne_tq3_xs_36 : tq3 ≠ xs_36 := Nat.ne_of_lt (Nat.lt_of_lt_of_le V_tq3.lt po36_0)
  have ne_a4_xs_36 : a4 ≠ xs_36 := Nat.ne_of_lt (Nat.lt_of_lt_of_le E_a4.lt po36_0)
  have ne_tq4_xs_36 : tq4 ≠ xs_36 := Nat.ne_of_lt (Nat.lt_of_lt_of_le V_tq4.lt po36_0)
  have ne_b5_xs_36 : b5 ≠ xs_36 := Nat.ne_of_lt (Nat.lt_of_lt_of_le E_b5.lt po36_0)
  have ne_t_9_xs_36 : t_9 ≠ xs_36 := Nat.ne_of_lt (Nat.lt_of_lt_of_le E_t_9.lt po36_0)
  have ne_b18_xs_36 : b18 ≠ xs_36 := Nat.ne_of_lt (Nat.lt_of_lt_of_le E_b18.lt po36_0)
  have ne_bb18_xs_36 : bb18 ≠ xs_36 := Nat.ne_of_lt (Nat.lt_of_lt_of_le V_bb18.lt po36_0)
  have ne_b30_xs_36 : b30 ≠ xs_36 := Nat.ne_of_lt (Nat.lt_of_lt_of_le E_b30.lt po36_0)
  have ne_bb30_xs_36 : bb30 ≠ xs_36 := Nat.ne_of_lt (Nat.lt_of_lt_of_le V_bb30.lt po36_0)
  have sz_xs_36 : h0.size ≤ xs_36 := Nat.le_trans K33.1 po36_0
  have sf_xs_36 : Safe Z ELs T30.vm T33.heap xs_36 := Safe.new po36_0
  have ne_co_tn_36 : co ≠ tn_36 := Nat.ne_of_lt (Nat.lt_of_lt_of_le F_environmentVariable_co.lt po36_1)
  have ne_a3_tn_36 : a3 ≠ tn_36 := Nat.ne_of_lt (Nat.lt_of_lt_of_le E_a3.lt po36_1)
  have ne_tq3_tn_36 : tq3 ≠ tn_36 := Nat.ne_of_lt (Nat.lt_of_lt_of_le V_tq3.lt po36_1)
  have ne_a4_tn_36 : a4 ≠ tn_36 := Nat.ne_of_lt (Nat.lt_of_lt_of_le E_a4.lt po36_1)
  have ne_tq4_tn_36 : tq4 ≠ tn_36 := Nat.ne_of_lt (Nat.lt_of_lt_of_le V_tq4.lt po36_1)
  have ne_b5_tn_36 : b5 ≠ tn_36 := Nat.ne_of_lt (Nat.lt_of_lt_of_le E_b5.lt po36_1)
  have ne_t_9_tn_36 : t_9 ≠ tn_36 := Nat.ne_of_lt (Nat.lt_of_lt_of_le E_t_9.lt po36_1)
  have ne_b18_tn_36 : b18 ≠ tn_36 := Nat.ne_of_lt (Nat.lt_of_lt_of_le E_b18.lt po36_1)
  have ne_bb18_tn_36 : bb18 ≠ tn_36 := Nat.ne_of_lt (Nat.lt_of_lt_of_le V_bb18.lt po36_1)
  have ne_b30_tn_36 : b30 ≠ tn_36 := Nat.ne_of_lt (Nat.lt_of_lt_of_le E_b30.lt po36_1)
  have ne_bb30_tn_36 : bb30 ≠ tn_36 := Nat.ne_of_lt (Nat.lt_of_lt_of_le V_bb30.lt po36_1)
  have sz_tn_36 : h0.size ≤ tn_36 := Nat.le_trans K33.1 po36_1
  have sf_tn_36 : Safe Z ELs T30.vm T33.heap tn_36 := Safe.new po36_1
  have sfk36 := (sf0 : ∀ x ∈ [], Safe Z ELs T30.vm T33.heap x)
  replace sf_b5 : Safe Z ELs T30.vm T36.heap b5 := Safe.keep Kc36 sfk36 CR.1 sf_b5
  replace sf_t_9 : Safe Z ELs T30.vm T36.heap t_9 := Safe.keep Kc36 sfk36 CR.1 sf_t_9
  replace sf_xs_36 : Safe Z ELs T30.vm T36.heap xs_36 := Safe.keep Kc36 sfk36 CR.1 sf_xs_36
  replace sf_tn_36 : Safe Z ELs T30.vm T36.heap tn_36 := Safe.keep Kc36 sfk36 CR.1 sf_tn_36
  replace F_environmentVariable_co : Fld Z T36.heap co "com/example/ngazi/ngazi/cli/CommandOption" "environmentVariable" "Ljava/lang/String;" (.ref a4) := F_environmentVariable_co.keep Kc36 nin0
  replace F_description_co : Fld Z T36.heap co "com/example/ngazi/ngazi/cli/CommandOption" "description" "Ljava/lang/String;" (.ref a3) := F_description_co.keep Kc36 nin0
  replace E_a3 : Exa Z T36.heap a3 "java/lang/String" := E_a3.keep Kc36
  replace F_value_a3 : Fld Z T36.heap a3 "java/lang/String" "value" "[B" (.ref tq3) := F_value_a3.keep Kc36 nin0
  replace F_coder_a3 : Fld Z T36.heap a3 "java/lang/String" "coder" "B" (.int (0 : Int32)) := F_coder_a3.keep Kc36 nin0
  replace V_tq3 : Arv Z T36.heap tq3 kq3 .byte (2 : Int32) [(.int dc0), (.int dc1)] (.int (0 : Int32)) := V_tq3.keep Kc36 nin0
  replace E_a4 : Exa Z T36.heap a4 "java/lang/String" := E_a4.keep Kc36
  replace F_value_a4 : Fld Z T36.heap a4 "java/lang/String" "value" "[B" (.ref tq4) := F_value_a4.keep Kc36 nin0
  replace F_coder_a4 : Fld Z T36.heap a4 "java/lang/String" "coder" "B" (.int (0 : Int32)) := F_coder_a4.keep Kc36 nin0
  replace V_tq4 : Arv Z T36.heap tq4 kq4 .byte (2 : Int32) [(.int ec0), (.int ec1)] (.int (0 : Int32)) := V_tq4.keep Kc36 nin0
  replace OL : Old Z n0 T36.heap := OL.keep Kc36 all0
  replace E_b5 : Exa Z T36.heap b5 "java/lang/StringBuilder" := E_b5.keep Kc36
  replace E_t_9 : Exa Z T36.heap t_9 "[B" := E_t_9.keep Kc36
  replace E_b18 : Exa Z T36.heap b18 "java/lang/String" := E_b18.keep Kc36
  replace F_coder_b18 : Fld Z T36.heap b18 "java/lang/String" "coder" "B" (.int (0 : Int32)) := F_coder_b18.keep Kc36 nin0
  replace F_value_b18 : Fld Z T36.heap b18 "java/lang/String" "value" "[B" (.ref bb18) := F_value_b18.keep Kc36 nin0
  replace V_bb18 : Arv Z T36.heap bb18 kb18 .byte (11 : Int32) [(.int (32 : Int32)), (.int (68 : Int32)), (.int (101 : Int32)), (.int (102 : Int32)), (.int (97 : Int32)), (.int (117 : Int32)), (.int (108 : Int32)), (.int (116 : Int32)), (.int (58 : Int32)), (.int (32 : Int32)), (.int (36 : Int32))] (.int (0 : Int32)) := V_bb18.keep Kc36 nin0
  replace E_b30 : Exa Z T36.heap b30 "java/lang/String" := E_b30.keep Kc36
  replace F_coder_b30 : Fld Z T36.heap b30 "java/lang/String" "coder" "B" (.int (0 : Int32)) := F_coder_b30.keep Kc36 nin0
  replace F_value_b30 : Fld Z T36.heap b30 "java/lang/String" "value" "[B" (.ref bb30) := F_value_b30.keep Kc36 nin0
  replace V_bb30 : Arv Z T36.heap bb30 kb30 .byte (1 : Int32) [(.int (46 : Int32))] (.int (0 : Int32)) := V_bb30.keep Kc36 nin0
  replace F_value_b5 : Fld Z T36.heap b5 "java/lang/AbstractStringBuilder" "value" "[B" (.ref t_9) := F_value_b5.keep Kc36 nin0
  replace F_coder_b5 : Fld Z T36.heap b5 "java/lang/AbstractStringBuilder" "coder" "B" (.int (0 : Int32)) := F_coder_b5.keep Kc36 nin0
  replace F_count_b5 : Fld Z T36.heap b5 "java/lang/AbstractStringBuilder" "count" "I" (.int (Int32.ofNat ((((([] : List Value) ++ ([(.int dc0), (.int dc1)] : List Value)) ++ ([(.int (32 : Int32)), (.int (68 : Int32)), (.int (101 : Int32)), (.int (102 : Int32)), (.int (97 : Int32)), (.int (117 : Int32)), (.int (108 : Int32)), (.int (116 : Int32)), (.int (58 : Int32)), (.int (32 : Int32)), (.int (36 : Int32))] : List Value)) ++ ([(.int ec0), (.int ec1)] : List Value)) ++ ([(.int (46 : Int32))] : List Value)).length)) := F_count_b5.keep Kc36 nin0
  replace V_t_9 : Arv Z T36.heap t_9 kb_9 .byte (16 : Int32) ((((([] : List Value) ++ ([(.int dc0), (.int dc1)] : List Value)) ++ ([(.int (32 : Int32)), (.int (68 : Int32)), (.int (101 : Int32)), (.int (102 : Int32)), (.int (97 : Int32)), (.int (117 : Int32)), (.int (108 : Int32)), (.int (116 : Int32)), (.int (58 : Int32)), (.int (32 : Int32)), (.int (36 : Int32))] : List Value)) ++ ([(.int ec0), (.int ec1)] : List Value)) ++ ([(.int (46 : Int32))] : List Value)) (.int (0 : Int32)) := V_t_9.keep Kc36 nin0
  replace CR : CHr Z ELs s.vm h0 T30.vm T36.heap := CR.trans (CHr.keep Kc36 sfk36 CR.1)
  replace hk := Nat.le_trans hk Kc36.1
  have K36 : Keep h0 T36.heap [] := K33.trans Kc36 all0
  have E_xs_36 : Exa Z T36.heap xs_36 "java/lang/String" := po36_2
  have F_value_xs_36 : Fld Z T36.heap xs_36 "java/lang/String" "value" "[B" (.ref tn_36) := po36_3
  have F_coder_xs_36 : Fld Z T36.heap xs_36 "java/lang/String" "coder" "B" (.int (0 : Int32)) := po36_4
  have V_tn_36 : Arv Z T36.heap tn_36 kb_9 .byte (16 : Int32) ((((([] : List Value) ++ ([(.int dc0), (.int dc1)] : List Value)) ++ ([(.int (32 : Int32)), (.int (68 : Int32)), (.int (101 : Int32)), (.int (102 : Int32)), (.int (97 : Int32)), (.int (117 : Int32)), (.int (108 : Int32)), (.int (116 : Int32)), (.int (58 : Int32)), (.int (32 : Int32)), (.int (36 : Int32))] : List Value)) ++ ([(.int ec0), (.int ec1)] : List Value)) ++ ([(.int (46 : Int32))] : List Value)) (.int (0 : Int32)) := po36_5
  have P39 : ∀ tt_, GG p e below T36 (mkF m 96 #[.val (.ref co), .val (.ref xs_36)] [(.ref xs_36)]) tt_ → Steps p.tables e below s0 tt_ := fun tt_ kk_ => P38 tt_ (by
    refine XS.astoreN X36.here hx rfl (hb hby d_help_41) rfl rfl (l' := #[.val (.ref co), .val (.ref xs_36)]) rfl ?_
    refine XS.goto X36.here hx rfl (pc0 := 42) (pc' := 95) rfl (hb hby d_help_42) (by decide) (by decide) ?_
    refine XS.aloadN X36.here hx rfl (hb hby d_help_95) rfl rfl ?_
    exact kk_)
  subst hs0
  obtain ⟨fs, hr, hrun, hended, hREW⟩ := X36.leaveW hS hk (v := some (.ref xs_36)) (fun h => by rw [Bd.returns] at h; cases h)
  have CRT := CR.trans (CHv.at X36 hZ hEL CR.1)
  refine ⟨_, _, P39 _ ?_, hrun, hended, _, _, rfl, ?_, ?_, hREW.1, hREW.2.1, hREW.2.2.1, hREW.2.2.2.mono (by decide) (by decide)⟩
  · show GG p e below T36 (mkF m 96 #[.val (.ref co), .val (.ref xs_36)] [(.ref xs_36)]) _
    jvm_step X36.here [X36.here.top, hx, (hb hby d_help_96), X36.method', Bd.returns, Value.isRef, FieldType.isReference]
    first | (intro acts; rw [hr _ acts rfl rfl rfl]) | rw [hr _ _ rfl rfl rfl]
    exact Steps.refl _
  · show Q_helpE Z co a3 tq3 kq3 a4 tq4 kq4 dc0 dc1 ec0 ec1 G1 h0 n0 _ T36.heap _
    exact ⟨xs_36, tn_36, kb_9, rfl, N37, K36, sz_xs_36, sz_tn_36, E_xs_36, F_value_xs_36, F_coder_xs_36, V_tn_36⟩
  · show CHr Z ELs s.vm s.heap T36.vm T36.heap
    rw [hh]
    exact CRT
theorem ef_law (m : MethodId) (x0 : Int32) (x1 : Int32) (x2 : Int32) (x3 : Int32) : entryFrame m #[(.int x0), (.int x1), (.int x2), (.int x3)] maxLocals = mkF m 0 #[.val (.int x0), .val (.int x1), .val (.int x2), .val (.int x3), .unset, .unset, .unset, .unset, .unset, .unset, .unset, .unset, .unset, .unset, .unset, .unset, .unset, .unset, .unset, .unset] [] := by first | (simp [entryFrame, mkF, argsToLocals, Value.category, maxLocals]; done) | rfl
theorem pn_8 : plainName "com/example/ngazi/ngazi/cli/CommandOptionFromEnvironmentPinLaw" = true := by first | (simp [plainName, overriddenIn]; done) | decide +kernel
theorem pd_20 : parseMethodDescriptor "([C)V" = some ⟨[(.array .char)], none⟩ := by decide +kernel
abbrev mn_24 : MethodName := ⟨"java/lang/String", "<init>", "([C)V"⟩
theorem pd_21 : parseMethodDescriptor "(C)Ljava/lang/String;" = some ⟨[.char], some (.object "java/lang/String")⟩ := by decide +kernel
abbrev mn_25 : MethodName := ⟨"java/lang/String", "valueOf", "(C)Ljava/lang/String;"⟩
theorem pd_22 : parseMethodDescriptor "(Ljava/lang/String;Ljava/lang/String;Ljava/lang/String;Ljava/lang/String;)Lcom/example/ngazi/ngazi/cli/CommandOption;" = some ⟨[(.object "java/lang/String"), (.object "java/lang/String"), (.object "java/lang/String"), (.object "java/lang/String")], some (.object "com/example/ngazi/ngazi/cli/CommandOption")⟩ := by decide +kernel
abbrev mn_26 : MethodName := ⟨"com/example/ngazi/ngazi/cli/CommandOption", "fromEnvironment", "(Ljava/lang/String;Ljava/lang/String;Ljava/lang/String;Ljava/lang/String;)Lcom/example/ngazi/ngazi/cli/CommandOption;"⟩
abbrev mn_27 : MethodName := ⟨"com/example/ngazi/ngazi/cli/CommandOption", "name", "()Ljava/lang/String;"⟩
theorem pd_23 : parseMethodDescriptor "(Ljava/lang/Object;)Z" = some ⟨[(.object "java/lang/Object")], some .boolean⟩ := by decide +kernel
abbrev mn_28 : MethodName := ⟨"java/lang/String", "equals", "(Ljava/lang/Object;)Z"⟩
abbrev mn_29 : MethodName := ⟨"com/example/ngazi/ngazi/cli/CommandOption", "label", "()Ljava/lang/String;"⟩
abbrev mn_30 : MethodName := ⟨"com/example/ngazi/ngazi/cli/CommandOption", "description", "()Ljava/lang/String;"⟩
abbrev mn_31 : MethodName := ⟨"com/example/ngazi/ngazi/cli/CommandOption", "required", "()Z"⟩
abbrev mn_32 : MethodName := ⟨"com/example/ngazi/ngazi/cli/CommandOption", "defaultValue", "()Ljava/lang/String;"⟩
abbrev mn_33 : MethodName := ⟨"com/example/ngazi/ngazi/cli/CommandOption", "help", "()Ljava/lang/String;"⟩
abbrev mn_34 : MethodName := ⟨"com/example/ngazi/ngazi/cli/CommandOption", "environmentVariable", "()Ljava/lang/String;"⟩
def Q_law (Z : State) (pa : Int32) (pb : Int32) (pc_ : Int32) (pd_ : Int32) (G1 : Int32) (h0 : Heap) (n0 : Nat) (v : Option Value) (h : Heap) (L : List Loc) : Prop := v = some (.int (1 : Int32)) ∧ Fr n0 L ∧ Keep h0 h []
set_option maxRecDepth 65536 in
set_option maxHeartbeats 40000000 in
theorem rm_law (l : Launch) (Z : State) (a0 : Array Value) (hw : ∀ d ∈ tables_1, d.before a0 Z = true) (hEL : EW Z a0 ELs) (ws : List Jvm.Cond) (pa : Int32) (pb : Int32) (pc_ : Int32) (pd_ : Int32) (G1 : Int32) (h0 : Heap) (n0 : Nat) (Z0 : n0 ≤ h0.size) (S_COMPACT_STRINGS : Sta Z Z.heap "java/lang/String" "COMPACT_STRINGS" "Z" (.int G1)) (OL : Old Z n0 h0) (hz : ¬ G1 = 0) :
    MetFree l x (head1 (Jvm.Cond.code x code maxLocals ret :: ws) room_1) (fun a U => a = #[(.int pa), (.int pb), (.int pc_), (.int pd_)] ∧ Z.Warmed39 U.vm ∧ U.heap = h0 ∧ CHv Z ELs U.vm h0) (fun _ _ _ _ _ => True) (fun _ U o U' => ∃ v L, o = .returned v ∧ Q_law Z pa pb pc_ pd_ G1 h0 n0 v U'.heap L ∧ CHr Z ELs U.vm U.heap U'.vm U'.heap ∧ ReturnedEndW U o U' L room_1.cells room_1.slots) := by
  refine MetFree.of_bodySF (plainFor_of_name pn_8) hisR ?_
  intro p e s m args below meth c s₁ Bd hml0 hP hK
  obtain ⟨rfl, hZ, hh, hCH⟩ := hP
  have hx := Bd.exec
  have hby := Bd.bytes
  have hml : c.maxLocals = 20 := hml0
  have hown : s.vm.findClass "com/example/ngazi/ngazi/cli/CommandOptionFromEnvironmentPinLaw" = some m.cls := findClass_of_methodNamed Bd.named
  have hnm := (name_of_methodNamed Bd.named Bd.method).1
  have X0 : Stand p l e room_1 (s.setVm s.vm) m #[(.int pa), (.int pb), (.int pc_), (.int pd_)] below meth c s₁ [] 0 0 := Stand.of_body Bd
  replace hZ : Z.Warmed39 (s.setVm s.vm).vm := hZ
  replace hown : (s.setVm s.vm).vm.findClass "com/example/ngazi/ngazi/cli/CommandOptionFromEnvironmentPinLaw" = some m.cls := hown
  have hS : s.Since s.vm 0 := (State.WarmedH.refl s).since 0
  have hk : 0 ≤ h0.size := Nat.zero_le _
  have CR : CHr Z ELs s.vm h0 s.vm h0 := CHr.refl hCH
  have e0 : s₁.heap = h0 := by rw [← hh, Bd.state]; rfl
  have N0 := Fr.nil n0
  obtain ⟨s0, hs0⟩ : ∃ z, z = (s₁.setTop (entryFrame m #[(.int pa), (.int pb), (.int pc_), (.int pd_)] maxLocals)) := ⟨_, rfl⟩
  have P0 : ∀ tt_, GG p e below s₁ (mkF m 0 #[.val (.int pa), .val (.int pb), .val (.int pc_), .val (.int pd_), .unset, .unset, .unset, .unset, .unset, .unset, .unset, .unset, .unset, .unset, .unset, .unset, .unset, .unset, .unset, .unset] []) tt_ → Steps p.tables e below s0 tt_ := fun tt_ kk_ => by rw [hs0]; exact castTop (ef_law m pa pb pc_ pd_) kk_
  have P1 : ∀ tt_, GG p e below s₁ (mkF m 6 #[.val (.int pa), .val (.int pb), .val (.int pc_), .val (.int pd_), .unset, .unset, .unset, .unset, .unset, .unset, .unset, .unset, .unset, .unset, .unset, .unset, .unset, .unset, .unset, .unset] [(.int ((pa &&& (255 : Int32)).toUInt32.toUInt16.toUInt32.toInt32))]) tt_ → Steps p.tables e below s0 tt_ := fun tt_ kk_ => P0 tt_ (by
    refine XS.iloadN X0.here hx rfl (hb hby at_0) rfl ?_
    refine XS.sipush X0.here hx rfl (hb hby at_1) ?_
    refine XS.iand X0.here hx rfl (hb hby at_4) rfl ?_
    refine XS.i2c X0.here hx rfl (hb hby at_5) rfl ?_
    exact kk_)
  obtain ⟨n0_, ok_n0_, na_n0_, eq_n0_⟩ := own_l8 pa
  have P2 : ∀ tt_, GG p e below s₁ (mkF m 6 #[.val (.int pa), .val (.int pb), .val (.int pc_), .val (.int pd_), .unset, .unset, .unset, .unset, .unset, .unset, .unset, .unset, .unset, .unset, .unset, .unset, .unset, .unset, .unset, .unset] [(.int n0_)]) tt_ → Steps p.tables e below s0 tt_ := fun tt_ kk_ => P1 tt_ (by rw [eq_n0_]; exact kk_)
  have P3 : ∀ tt_, GG p e below s₁ (mkF m 17 #[.val (.int pa), .val (.int pb), .val (.int pc_), .val (.int pd_), .val (.int n0_), .unset, .unset, .unset, .unset, .unset, .unset, .unset, .unset, .unset, .unset, .unset, .unset, .unset, .unset, .unset] [(.int ((((pa.toUInt32 >>> ((8 : Int32) &&& 31).toUInt32).toInt32) &&& (255 : Int32)).toUInt32.toUInt16.toUInt32.toInt32))]) tt_ → Steps p.tables e below s0 tt_ := fun tt_ kk_ => P2 tt_ (by
    refine XS.istore X0.here hx rfl (hb hby at_6) rfl (l' := #[.val (.int pa), .val (.int pb), .val (.int pc_), .val (.int pd_), .val (.int n0_), .unset, .unset, .unset, .unset, .unset, .unset, .unset, .unset, .unset, .unset, .unset, .unset, .unset, .unset, .unset]) rfl ?_
    refine XS.iloadN X0.here hx rfl (hb hby at_8) rfl ?_
    refine XS.bipush X0.here hx rfl (hb hby at_9) ?_
    refine XS.iushr X0.here hx rfl (hb hby at_11) rfl ?_
    refine XS.sipush X0.here hx rfl (hb hby at_12) ?_
    refine XS.iand X0.here hx rfl (hb hby at_15) rfl ?_
    refine XS.i2c X0.here hx rfl (hb hby at_16) rfl ?_
    exact kk_)
  obtain ⟨n1_, ok_n1_, na_n1_, eq_n1_⟩ := own_l8 ((pa.toUInt32 >>> ((8 : Int32) &&& 31).toUInt32).toInt32)
  have P4 : ∀ tt_, GG p e below s₁ (mkF m 17 #[.val (.int pa), .val (.int pb), .val (.int pc_), .val (.int pd_), .val (.int n0_), .unset, .unset, .unset, .unset, .unset, .unset, .unset, .unset, .unset, .unset, .unset, .unset, .unset, .unset, .unset] [(.int n1_)]) tt_ → Steps p.tables e below s0 tt_ := fun tt_ kk_ => P3 tt_ (by rw [eq_n1_]; exact kk_)
  have P5 : ∀ tt_, GG p e below s₁ (mkF m 28 #[.val (.int pa), .val (.int pb), .val (.int pc_), .val (.int pd_), .val (.int n0_), .val (.int n1_), .unset, .unset, .unset, .unset, .unset, .unset, .unset, .unset, .unset, .unset, .unset, .unset, .unset, .unset] [(.int ((((pa.toUInt32 >>> ((16 : Int32) &&& 31).toUInt32).toInt32) &&& (255 : Int32)).toUInt32.toUInt16.toUInt32.toInt32))]) tt_ → Steps p.tables e below s0 tt_ := fun tt_ kk_ => P4 tt_ (by
    refine XS.istore X0.here hx rfl (hb hby at_17) rfl (l' := #[.val (.int pa), .val (.int pb), .val (.int pc_), .val (.int pd_), .val (.int n0_), .val (.int n1_), .unset, .unset, .unset, .unset, .unset, .unset, .unset, .unset, .unset, .unset, .unset, .unset, .unset, .unset]) rfl ?_
    refine XS.iloadN X0.here hx rfl (hb hby at_19) rfl ?_
    refine XS.bipush X0.here hx rfl (hb hby at_20) ?_
    refine XS.iushr X0.here hx rfl (hb hby at_22) rfl ?_
    refine XS.sipush X0.here hx rfl (hb hby at_23) ?_
    refine XS.iand X0.here hx rfl (hb hby at_26) rfl ?_
    refine XS.i2c X0.here hx rfl (hb hby at_27) rfl ?_
    exact kk_)
  obtain ⟨l0_, ok_l0_, na_l0_, eq_l0_⟩ := own_l8 ((pa.toUInt32 >>> ((16 : Int32) &&& 31).toUInt32).toInt32)
  have P6 : ∀ tt_, GG p e below s₁ (mkF m 28 #[.val (.int pa), .val (.int pb), .val (.int pc_), .val (.int pd_), .val (.int n0_), .val (.int n1_), .unset, .unset, .unset, .unset, .unset, .unset, .unset, .unset, .unset, .unset, .unset, .unset, .unset, .unset] [(.int l0_)]) tt_ → Steps p.tables e below s0 tt_ := fun tt_ kk_ => P5 tt_ (by rw [eq_l0_]; exact kk_)
  have P7 : ∀ tt_, GG p e below s₁ (mkF m 36 #[.val (.int pa), .val (.int pb), .val (.int pc_), .val (.int pd_), .val (.int n0_), .val (.int n1_), .val (.int l0_), .unset, .unset, .unset, .unset, .unset, .unset, .unset, .unset, .unset, .unset, .unset, .unset, .unset] [(.int ((pb &&& (255 : Int32)).toUInt32.toUInt16.toUInt32.toInt32))]) tt_ → Steps p.tables e below s0 tt_ := fun tt_ kk_ => P6 tt_ (by
    refine XS.istore X0.here hx rfl (hb hby at_28) rfl (l' := #[.val (.int pa), .val (.int pb), .val (.int pc_), .val (.int pd_), .val (.int n0_), .val (.int n1_), .val (.int l0_), .unset, .unset, .unset, .unset, .unset, .unset, .unset, .unset, .unset, .unset, .unset, .unset, .unset]) rfl ?_
    refine XS.iloadN X0.here hx rfl (hb hby at_30) rfl ?_
    refine XS.sipush X0.here hx rfl (hb hby at_31) ?_
    refine XS.iand X0.here hx rfl (hb hby at_34) rfl ?_
    refine XS.i2c X0.here hx rfl (hb hby at_35) rfl ?_
    exact kk_)
  obtain ⟨d0_, ok_d0_, na_d0_, eq_d0_⟩ := own_l8 pb
  have P8 : ∀ tt_, GG p e below s₁ (mkF m 36 #[.val (.int pa), .val (.int pb), .val (.int pc_), .val (.int pd_), .val (.int n0_), .val (.int n1_), .val (.int l0_), .unset, .unset, .unset, .unset, .unset, .unset, .unset, .unset, .unset, .unset, .unset, .unset, .unset] [(.int d0_)]) tt_ → Steps p.tables e below s0 tt_ := fun tt_ kk_ => P7 tt_ (by rw [eq_d0_]; exact kk_)
  have P9 : ∀ tt_, GG p e below s₁ (mkF m 47 #[.val (.int pa), .val (.int pb), .val (.int pc_), .val (.int pd_), .val (.int n0_), .val (.int n1_), .val (.int l0_), .val (.int d0_), .unset, .unset, .unset, .unset, .unset, .unset, .unset, .unset, .unset, .unset, .unset, .unset] [(.int ((((pb.toUInt32 >>> ((8 : Int32) &&& 31).toUInt32).toInt32) &&& (255 : Int32)).toUInt32.toUInt16.toUInt32.toInt32))]) tt_ → Steps p.tables e below s0 tt_ := fun tt_ kk_ => P8 tt_ (by
    refine XS.istore X0.here hx rfl (hb hby at_36) rfl (l' := #[.val (.int pa), .val (.int pb), .val (.int pc_), .val (.int pd_), .val (.int n0_), .val (.int n1_), .val (.int l0_), .val (.int d0_), .unset, .unset, .unset, .unset, .unset, .unset, .unset, .unset, .unset, .unset, .unset, .unset]) rfl ?_
    refine XS.iloadN X0.here hx rfl (hb hby at_38) rfl ?_
    refine XS.bipush X0.here hx rfl (hb hby at_39) ?_
    refine XS.iushr X0.here hx rfl (hb hby at_41) rfl ?_
    refine XS.sipush X0.here hx rfl (hb hby at_42) ?_
    refine XS.iand X0.here hx rfl (hb hby at_45) rfl ?_
    refine XS.i2c X0.here hx rfl (hb hby at_46) rfl ?_
    exact kk_)
  obtain ⟨d1_, ok_d1_, na_d1_, eq_d1_⟩ := own_l8 ((pb.toUInt32 >>> ((8 : Int32) &&& 31).toUInt32).toInt32)
  have P10 : ∀ tt_, GG p e below s₁ (mkF m 47 #[.val (.int pa), .val (.int pb), .val (.int pc_), .val (.int pd_), .val (.int n0_), .val (.int n1_), .val (.int l0_), .val (.int d0_), .unset, .unset, .unset, .unset, .unset, .unset, .unset, .unset, .unset, .unset, .unset, .unset] [(.int d1_)]) tt_ → Steps p.tables e below s0 tt_ := fun tt_ kk_ => P9 tt_ (by rw [eq_d1_]; exact kk_)
  have P11 : ∀ tt_, GG p e below s₁ (mkF m 55 #[.val (.int pa), .val (.int pb), .val (.int pc_), .val (.int pd_), .val (.int n0_), .val (.int n1_), .val (.int l0_), .val (.int d0_), .val (.int d1_), .unset, .unset, .unset, .unset, .unset, .unset, .unset, .unset, .unset, .unset, .unset] [(.int ((pc_ &&& (255 : Int32)).toUInt32.toUInt16.toUInt32.toInt32))]) tt_ → Steps p.tables e below s0 tt_ := fun tt_ kk_ => P10 tt_ (by
    refine XS.istore X0.here hx rfl (hb hby at_47) rfl (l' := #[.val (.int pa), .val (.int pb), .val (.int pc_), .val (.int pd_), .val (.int n0_), .val (.int n1_), .val (.int l0_), .val (.int d0_), .val (.int d1_), .unset, .unset, .unset, .unset, .unset, .unset, .unset, .unset, .unset, .unset, .unset]) rfl ?_
    refine XS.iloadN X0.here hx rfl (hb hby at_49) rfl ?_
    refine XS.sipush X0.here hx rfl (hb hby at_50) ?_
    refine XS.iand X0.here hx rfl (hb hby at_53) rfl ?_
    refine XS.i2c X0.here hx rfl (hb hby at_54) rfl ?_
    exact kk_)
  obtain ⟨e0_, ok_e0_, na_e0_, eq_e0_⟩ := own_l8 pc_
  have P12 : ∀ tt_, GG p e below s₁ (mkF m 55 #[.val (.int pa), .val (.int pb), .val (.int pc_), .val (.int pd_), .val (.int n0_), .val (.int n1_), .val (.int l0_), .val (.int d0_), .val (.int d1_), .unset, .unset, .unset, .unset, .unset, .unset, .unset, .unset, .unset, .unset, .unset] [(.int e0_)]) tt_ → Steps p.tables e below s0 tt_ := fun tt_ kk_ => P11 tt_ (by rw [eq_e0_]; exact kk_)
  have P13 : ∀ tt_, GG p e below s₁ (mkF m 66 #[.val (.int pa), .val (.int pb), .val (.int pc_), .val (.int pd_), .val (.int n0_), .val (.int n1_), .val (.int l0_), .val (.int d0_), .val (.int d1_), .val (.int e0_), .unset, .unset, .unset, .unset, .unset, .unset, .unset, .unset, .unset, .unset] [(.int ((((pc_.toUInt32 >>> ((8 : Int32) &&& 31).toUInt32).toInt32) &&& (255 : Int32)).toUInt32.toUInt16.toUInt32.toInt32))]) tt_ → Steps p.tables e below s0 tt_ := fun tt_ kk_ => P12 tt_ (by
    refine XS.istore X0.here hx rfl (hb hby at_55) rfl (l' := #[.val (.int pa), .val (.int pb), .val (.int pc_), .val (.int pd_), .val (.int n0_), .val (.int n1_), .val (.int l0_), .val (.int d0_), .val (.int d1_), .val (.int e0_), .unset, .unset, .unset, .unset, .unset, .unset, .unset, .unset, .unset, .unset]) rfl ?_
    refine XS.iloadN X0.here hx rfl (hb hby at_57) rfl ?_
    refine XS.bipush X0.here hx rfl (hb hby at_58) ?_
    refine XS.iushr X0.here hx rfl (hb hby at_60) rfl ?_
    refine XS.sipush X0.here hx rfl (hb hby at_61) ?_
    refine XS.iand X0.here hx rfl (hb hby at_64) rfl ?_
    refine XS.i2c X0.here hx rfl (hb hby at_65) rfl ?_
    exact kk_)
  obtain ⟨e1_, ok_e1_, na_e1_, eq_e1_⟩ := own_l8 ((pc_.toUInt32 >>> ((8 : Int32) &&& 31).toUInt32).toInt32)
  have P14 : ∀ tt_, GG p e below s₁ (mkF m 66 #[.val (.int pa), .val (.int pb), .val (.int pc_), .val (.int pd_), .val (.int n0_), .val (.int n1_), .val (.int l0_), .val (.int d0_), .val (.int d1_), .val (.int e0_), .unset, .unset, .unset, .unset, .unset, .unset, .unset, .unset, .unset, .unset] [(.int e1_)]) tt_ → Steps p.tables e below s0 tt_ := fun tt_ kk_ => P13 tt_ (by rw [eq_e1_]; exact kk_)
  have P15 : ∀ tt_, GG p e below s₁ (mkF m 71 #[.val (.int pa), .val (.int pb), .val (.int pc_), .val (.int pd_), .val (.int n0_), .val (.int n1_), .val (.int l0_), .val (.int d0_), .val (.int d1_), .val (.int e0_), .val (.int e1_), .unset, .unset, .unset, .unset, .unset, .unset, .unset, .unset, .unset] [(.int (pd_ &&& (1 : Int32)))]) tt_ → Steps p.tables e below s0 tt_ := fun tt_ kk_ => P14 tt_ (by
    refine XS.istore X0.here hx rfl (hb hby at_66) rfl (l' := #[.val (.int pa), .val (.int pb), .val (.int pc_), .val (.int pd_), .val (.int n0_), .val (.int n1_), .val (.int l0_), .val (.int d0_), .val (.int d1_), .val (.int e0_), .val (.int e1_), .unset, .unset, .unset, .unset, .unset, .unset, .unset, .unset, .unset]) rfl ?_
    refine XS.iloadN X0.here hx rfl (hb hby at_68) rfl ?_
    refine XS.iconst X0.here hx rfl (hb hby at_69) ?_
    refine XS.iand X0.here hx rfl (hb hby at_70) rfl ?_
    exact kk_)
  by_cases hc71_16 : (pd_ &&& (1 : Int32)) = (0 : Int32)
  ·
    have P17 : ∀ tt_, GG p e below s₁ (mkF m 81 #[.val (.int pa), .val (.int pb), .val (.int pc_), .val (.int pd_), .val (.int n0_), .val (.int n1_), .val (.int l0_), .val (.int d0_), .val (.int d1_), .val (.int e0_), .val (.int e1_), .val (.int (0 : Int32)), .unset, .unset, .unset, .unset, .unset, .unset, .unset, .unset] []) tt_ → Steps p.tables e below s0 tt_ := fun tt_ kk_ => P15 tt_ (by
      refine XS.ifYes X0.here hx rfl (pc0 := 71) (pc' := 78) rfl (hb hby at_71) rfl ((if0 _ _).trans (teq (hc71_16 : (pd_ &&& (1 : Int32)) = (0 : Int32))).1) (by decide) (by decide) ?_
      refine XS.iconst X0.here hx rfl (hb hby at_78) ?_
      refine XS.istore X0.here hx rfl (hb hby at_79) rfl (l' := #[.val (.int pa), .val (.int pb), .val (.int pc_), .val (.int pd_), .val (.int n0_), .val (.int n1_), .val (.int l0_), .val (.int d0_), .val (.int d1_), .val (.int e0_), .val (.int e1_), .val (.int (0 : Int32)), .unset, .unset, .unset, .unset, .unset, .unset, .unset, .unset]) rfl ?_
      exact kk_)
    obtain ⟨T18, h18, X18, e18, E18, A18, D18, -, st18⟩ := newO X0 hx hZ hown (ww hw 0 rfl) (ww hw 1 rfl) (ww hw 2 rfl) e0 (g := (mkF m 81 #[.val (.int pa), .val (.int pb), .val (.int pc_), .val (.int pd_), .val (.int n0_), .val (.int n1_), .val (.int l0_), .val (.int d0_), .val (.int d1_), .val (.int e0_), .val (.int e1_), .val (.int (0 : Int32)), .unset, .unset, .unset, .unset, .unset, .unset, .unset, .unset] [])) rfl (hb hby at_81) (by decide) (by decide)
    obtain ⟨b18, g18⟩ : ∃ z, z = h0.size := ⟨_, rfl⟩
    rw [← g18] at A18 D18 st18
    have P19 : ∀ tt_, GG p e below T18 (mkF m 84 #[.val (.int pa), .val (.int pb), .val (.int pc_), .val (.int pd_), .val (.int n0_), .val (.int n1_), .val (.int l0_), .val (.int d0_), .val (.int d1_), .val (.int e0_), .val (.int e1_), .val (.int (0 : Int32)), .unset, .unset, .unset, .unset, .unset, .unset, .unset, .unset] [(.ref b18)]) tt_ → Steps p.tables e below s0 tt_ := fun tt_ kk_ => P17 tt_ (st18 _ kk_)
    have sz_b18 : h0.size ≤ b18 := Nat.le_trans (Nat.le_refl h0.size) (Nat.le_of_eq g18.symm)
    have sf_b18 : Safe Z ELs s.vm h0 b18 := Safe.new (Nat.le_of_eq g18.symm)
    replace sf_b18 : Safe Z ELs s.vm h18 b18 := Safe.ext E18 CR.1 sf_b18
    replace OL : Old Z n0 h18 := OL.ext E18
    replace CR : CHr Z ELs s.vm h0 s.vm h18 := CR.trans (CHr.ext E18 CR.1)
    replace hk := Nat.le_trans hk E18.1
    have K18 : Keep h0 h18 [] := (Keep.refl h0 []).ext E18
    obtain ⟨Lf20, X18, N20⟩ : ∃ Lf, Stand p l e room_1 (s.setVm s.vm) m #[(.int pa), (.int pb), (.int pc_), (.int pd_)] below meth c T18 Lf 1 4 ∧ Fr n0 Lf := ⟨_, X18, N0⟩
    have E_b18 : Exa Z h18 b18 "java/lang/String" := A18
    have F_coder_b18 : Fld Z h18 b18 "java/lang/String" "coder" "B" (.int (0 : Int32)) := D18 (Or.inr (ww hw 27 rfl)) (ty := .byte) (by decide)
    have F_value_b18 : Fld Z h18 b18 "java/lang/String" "value" "[B" .null := D18 (Or.inr (ww hw 29 rfl)) (ty := (.array .byte)) (by decide)
    have P21 : ∀ tt_, GG p e below T18 (mkF m 86 #[.val (.int pa), .val (.int pb), .val (.int pc_), .val (.int pd_), .val (.int n0_), .val (.int n1_), .val (.int l0_), .val (.int d0_), .val (.int d1_), .val (.int e0_), .val (.int e1_), .val (.int (0 : Int32)), .unset, .unset, .unset, .unset, .unset, .unset, .unset, .unset] [(.int (2 : Int32)), (.ref b18), (.ref b18)]) tt_ → Steps p.tables e below s0 tt_ := fun tt_ kk_ => P19 tt_ (by
      refine XS.dup X18.here hx rfl (hb hby at_84) rfl rfl ?_
      refine XS.iconst X18.here hx rfl (hb hby at_85) ?_
      exact kk_)
    have CRb22 := CR
    obtain ⟨T23, h23, k23, X23, e23, E23, A23, st23⟩ := newP X18 hx hZ (ww hw 3 rfl) e18 (g := (mkF m 86 #[.val (.int pa), .val (.int pb), .val (.int pc_), .val (.int pd_), .val (.int n0_), .val (.int n1_), .val (.int l0_), .val (.int d0_), .val (.int d1_), .val (.int e0_), .val (.int e1_), .val (.int (0 : Int32)), .unset, .unset, .unset, .unset, .unset, .unset, .unset, .unset] [(.int (2 : Int32)), (.ref b18), (.ref b18)])) rfl (hb hby at_86) rfl (by decide) (cap := 2) (by decide) (by decide) (by decide) (by decide)
    obtain ⟨b23, g23⟩ : ∃ z, z = h18.size := ⟨_, rfl⟩
    rw [← g23] at A23 st23
    have P24 : ∀ tt_, GG p e below T23 (mkF m 88 #[.val (.int pa), .val (.int pb), .val (.int pc_), .val (.int pd_), .val (.int n0_), .val (.int n1_), .val (.int l0_), .val (.int d0_), .val (.int d1_), .val (.int e0_), .val (.int e1_), .val (.int (0 : Int32)), .unset, .unset, .unset, .unset, .unset, .unset, .unset, .unset] [(.ref b23), (.ref b18), (.ref b18)]) tt_ → Steps p.tables e below s0 tt_ := fun tt_ kk_ => P21 tt_ (st23 _ kk_)
    have ne_b18_b23 : b18 ≠ b23 := Nat.ne_of_lt (Nat.lt_of_lt_of_le (Nat.lt_of_lt_of_le E_b18.lt (Keep.refl h18 []).1) (Nat.le_of_eq g23.symm))
    have sz_b23 : h0.size ≤ b23 := Nat.le_trans K18.1 (Nat.le_of_eq g23.symm)
    have szB_b23 : h18.size ≤ b23 := Nat.le_trans (Keep.refl h18 []).1 (Nat.le_of_eq g23.symm)
    have sf_b23 : Safe Z ELs s.vm h18 b23 := Safe.new (Nat.le_of_eq g23.symm)
    replace sf_b23 : Safe Z ELs s.vm h23 b23 := Safe.ext E23 CR.1 sf_b23
    replace CR : CHr Z ELs s.vm h0 s.vm h23 := CR.trans (CHr.ext E23 CR.1)
    replace hk := Nat.le_trans hk E23.1
    have K23 : Keep h0 h23 [] := K18.ext E23
    have KB23 : Keep h18 h23 [] := (Keep.refl h18 []).ext E23
    obtain ⟨Lf25, X23, N25⟩ : ∃ Lf, Stand p l e room_1 (s.setVm s.vm) m #[(.int pa), (.int pb), (.int pc_), (.int pd_)] below meth c T23 Lf 2 6 ∧ Fr n0 Lf := ⟨_, X23, N20⟩
    have V_b23 : Arv Z h23 b23 k23 .char (2 : Int32) [(.int (0 : Int32)), (.int (0 : Int32))] (.int (0 : Int32)) := (Arv.new A23 (by decide)).pad (pad_rep [] (.int (0 : Int32)) 2)
    have P26 : ∀ tt_, GG p e below T23 (mkF m 92 #[.val (.int pa), .val (.int pb), .val (.int pc_), .val (.int pd_), .val (.int n0_), .val (.int n1_), .val (.int l0_), .val (.int d0_), .val (.int d1_), .val (.int e0_), .val (.int e1_), .val (.int (0 : Int32)), .unset, .unset, .unset, .unset, .unset, .unset, .unset, .unset] [(.int n0_), (.int (0 : Int32)), (.ref b23), (.ref b23), (.ref b18), (.ref b18)]) tt_ → Steps p.tables e below s0 tt_ := fun tt_ kk_ => P24 tt_ (by
      refine XS.dup X23.here hx rfl (hb hby at_88) rfl rfl ?_
      refine XS.iconst X23.here hx rfl (hb hby at_89) ?_
      refine XS.iload X23.here hx rfl (hb hby at_90) rfl ?_
      exact kk_)
    obtain ⟨cl27, Ar27, q27, S27, M27, Hs27, G27⟩ := V_b23
    obtain ⟨T27, h27, X27, e27, W27, st27⟩ := stC X23 hx hZ e23 Ar27 (j := (0 : Int32)) (inb_of S27 ⟨by decide, by decide⟩) (g := (mkF m 92 #[.val (.int pa), .val (.int pb), .val (.int pc_), .val (.int pd_), .val (.int n0_), .val (.int n1_), .val (.int l0_), .val (.int d0_), .val (.int d1_), .val (.int e0_), .val (.int e1_), .val (.int (0 : Int32)), .unset, .unset, .unset, .unset, .unset, .unset, .unset, .unset] [(.int n0_), (.int (0 : Int32)), (.ref b23), (.ref b23), (.ref b18), (.ref b18)])) rfl rfl (hb hby at_92)
    have P28 : ∀ tt_, GG p e below T27 (mkF m 93 #[.val (.int pa), .val (.int pb), .val (.int pc_), .val (.int pd_), .val (.int n0_), .val (.int n1_), .val (.int l0_), .val (.int d0_), .val (.int d1_), .val (.int e0_), .val (.int e1_), .val (.int (0 : Int32)), .unset, .unset, .unset, .unset, .unset, .unset, .unset, .unset] [(.ref b23), (.ref b18), (.ref b18)]) tt_ → Steps p.tables e below s0 tt_ := fun tt_ kk_ => P26 tt_ (st27 _ kk_)
    have N27 := Fr.snoc X27 N25 (Nat.le_trans Z0 sz_b23)
    have K27 : Keep h0 h27 [] := K23.wr W27 (Or.inr sz_b23)
    have KB27 : Keep h18 h27 [] := KB23.wr W27 (Or.inr szB_b23)
    have sfw27 : Safe Z ELs s.vm h23 b23 := sf_b23
    replace sf_b23 : Safe Z ELs s.vm h27 b23 := Safe.wr W27 sfw27 CR.1 sf_b23
    replace CR : CHr Z ELs s.vm h0 s.vm h27 := CR.trans (CHr.wr W27 sfw27 CR.1)
    replace hk := Nat.le_trans hk (Keep.of_wr W27).1
    have V_b23 : Arv Z h27 b23 k23 .char (2 : Int32) [(.int (nar .char n0_)), (.int (0 : Int32))] (.int (0 : Int32)) := Arv.set Ar27 q27 S27 M27 Hs27 G27 (fits_nar_char _) W27 0 rfl (Nat.le_of_ble_eq_true rfl)
    have P29 : ∀ tt_, GG p e below T27 (mkF m 97 #[.val (.int pa), .val (.int pb), .val (.int pc_), .val (.int pd_), .val (.int n0_), .val (.int n1_), .val (.int l0_), .val (.int d0_), .val (.int d1_), .val (.int e0_), .val (.int e1_), .val (.int (0 : Int32)), .unset, .unset, .unset, .unset, .unset, .unset, .unset, .unset] [(.int n1_), (.int (1 : Int32)), (.ref b23), (.ref b23), (.ref b18), (.ref b18)]) tt_ → Steps p.tables e below s0 tt_ := fun tt_ kk_ => P28 tt_ (by
      refine XS.dup X27.here hx rfl (hb hby at_93) rfl rfl ?_
      refine XS.iconst X27.here hx rfl (hb hby at_94) ?_
      refine XS.iload X27.here hx rfl (hb hby at_95) rfl ?_
      exact kk_)
    obtain ⟨cl30, Ar30, q30, S30, M30, Hs30, G30⟩ := V_b23
    obtain ⟨T30, h30, X30, e30, W30, st30⟩ := stC X27 hx hZ e27 Ar30 (j := (1 : Int32)) (inb_of S30 ⟨by decide, by decide⟩) (g := (mkF m 97 #[.val (.int pa), .val (.int pb), .val (.int pc_), .val (.int pd_), .val (.int n0_), .val (.int n1_), .val (.int l0_), .val (.int d0_), .val (.int d1_), .val (.int e0_), .val (.int e1_), .val (.int (0 : Int32)), .unset, .unset, .unset, .unset, .unset, .unset, .unset, .unset] [(.int n1_), (.int (1 : Int32)), (.ref b23), (.ref b23), (.ref b18), (.ref b18)])) rfl rfl (hb hby at_97)
    have P31 : ∀ tt_, GG p e below T30 (mkF m 98 #[.val (.int pa), .val (.int pb), .val (.int pc_), .val (.int pd_), .val (.int n0_), .val (.int n1_), .val (.int l0_), .val (.int d0_), .val (.int d1_), .val (.int e0_), .val (.int e1_), .val (.int (0 : Int32)), .unset, .unset, .unset, .unset, .unset, .unset, .unset, .unset] [(.ref b23), (.ref b18), (.ref b18)]) tt_ → Steps p.tables e below s0 tt_ := fun tt_ kk_ => P29 tt_ (st30 _ kk_)
    have N30 := Fr.snoc X30 N27 (Nat.le_trans Z0 sz_b23)
    have K30 : Keep h0 h30 [] := K27.wr W30 (Or.inr sz_b23)
    have KB30 : Keep h18 h30 [] := KB27.wr W30 (Or.inr szB_b23)
    have sfw30 : Safe Z ELs s.vm h27 b23 := sf_b23
    replace sf_b23 : Safe Z ELs s.vm h30 b23 := Safe.wr W30 sfw30 CR.1 sf_b23
    replace CR : CHr Z ELs s.vm h0 s.vm h30 := CR.trans (CHr.wr W30 sfw30 CR.1)
    replace hk := Nat.le_trans hk (Keep.of_wr W30).1
    have V_b23 : Arv Z h30 b23 k23 .char (2 : Int32) [(.int (nar .char n0_)), (.int (nar .char n1_))] (.int (0 : Int32)) := Arv.set Ar30 q30 S30 M30 Hs30 G30 (fits_nar_char _) W30 1 rfl (Nat.le_of_ble_eq_true rfl)
    replace sf_b18 : Safe Z ELs s.vm h30 b18 := Safe.keep KB30 sf0 CRb22.1 sf_b18
    replace OL : Old Z n0 h30 := OL.keep KB30 all0
    replace E_b18 : Exa Z h30 b18 "java/lang/String" := E_b18.keep KB30
    replace F_coder_b18 : Fld Z h30 b18 "java/lang/String" "coder" "B" (.int (0 : Int32)) := F_coder_b18.keep KB30 nin0
    replace F_value_b18 : Fld Z h30 b18 "java/lang/String" "value" "[B" .null := F_value_b18.keep KB30 nin0
    replace V_b23 : Arv Z h30 b23 k23 .char (2 : Int32) (([n0_, n1_] : List Int32).map Value.int) (.int (0 : Int32)) := by
      have q := V_b23
      rw [na_n0_, na_n1_] at q
      exact q
    have hp32 : ∀ c ∈ ([n0_, n1_] : List Int32), ¬ c < 0 ∧ ¬ (255 : Int32) < c := by
      intro c hc
      simp only [List.mem_cons, List.not_mem_nil, or_false] at hc
      rcases hc with rfl | rfl
      · exact ok_n0_
      · exact ok_n1_
    obtain ⟨_, _, ⟨T33, L33, k33, n33⟩, -, X33, ⟨Lc33, hQ33, l33, y33, z33⟩, st33⟩ := X30.specialBack hx (y := mn_24) rfl hown (mw hZ hw 4 rfl) (mw hZ hw 5 rfl) (mw hZ hw 6 rfl) (by decide) (StrChars.Road.backV (W := 1) hZ (own_wNew hw) (kI := 4) (ww hw 1 rfl) (cs := ([n0_, n1_] : List Int32)) (bs := (([n0_, n1_] : List Int32)).map (fun c => c.toInt8.toInt32)) (n := 2) (Nat.le_trans Z0 sz_b18) (Nat.le_trans Z0 K30.1) E_b18 F_value_b18 F_coder_b18 V_b23 (S_COMPACT_STRINGS.ext OL.2) hz rfl rfl (by decide) (by decide) hp32 rfl (by decide) (by decide)) (g := (mkF m 98 #[.val (.int pa), .val (.int pb), .val (.int pc_), .val (.int pd_), .val (.int n0_), .val (.int n1_), .val (.int l0_), .val (.int d0_), .val (.int d1_), .val (.int e0_), .val (.int e1_), .val (.int (0 : Int32)), .unset, .unset, .unset, .unset, .unset, .unset, .unset, .unset] [(.ref b23), (.ref b18), (.ref b18)])) rfl (by rw [hml]; rfl) (Steps.refl _) (a := b18) (argsL := [(.ref b23)]) (rest := [(.ref b18)]) (lenOf pd_20 rfl) rfl (by show 2 * 0 + _ ≤ _; exact Nat.le_of_eq rfl) (hb hby at_98) (fun _ _ => ⟨rfl, e30, (by decide : 2 + 1 ≤ _), (by decide : 6 + 2 ≤ _)⟩)
    dsimp only [Pt.U, Pt.locs, Pt.cells, Pt.slots] at X33 l33 y33 z33 st33 hQ33
    subst l33 y33 z33
    obtain ⟨rfl, N33q, Kc33, po33_0, po33_1, t_33, kb_33, po33_2, po33_3, po33_4, po33_5, po33_6⟩ := hQ33
    have N33 := Fr.app N30 N33q
    obtain ⟨Lf34, X33, N34⟩ : ∃ Lf, Stand p l e room_1 (s.setVm s.vm) m #[(.int pa), (.int pb), (.int pc_), (.int pd_)] below meth c T33 Lf 3 8 ∧ Fr n0 Lf := ⟨_, X33, N33⟩
    have P35 : ∀ tt_, GG p e below T33 (mkF m 101 #[.val (.int pa), .val (.int pb), .val (.int pc_), .val (.int pd_), .val (.int n0_), .val (.int n1_), .val (.int l0_), .val (.int d0_), .val (.int d1_), .val (.int e0_), .val (.int e1_), .val (.int (0 : Int32)), .unset, .unset, .unset, .unset, .unset, .unset, .unset, .unset] [(.ref b18)]) tt_ → Steps p.tables e below s0 tt_ := fun tt_ kk_ => P31 tt_ (st33.trans kk_)
    have ne_b18_t_33 : b18 ≠ t_33 := Nat.ne_of_lt (Nat.lt_of_lt_of_le E_b18.lt po33_3)
    have ne_b23_t_33 : b23 ≠ t_33 := Nat.ne_of_lt (Nat.lt_of_lt_of_le V_b23.lt po33_3)
    have sz_t_33 : h0.size ≤ t_33 := Nat.le_trans K30.1 po33_3
    have sf_t_33 : Safe Z ELs s.vm h30 t_33 := Safe.new po33_3
    have sfk33 := ((sfS sf_b18 sf0) : ∀ x ∈ [b18], Safe Z ELs s.vm h30 x)
    replace sf_b18 : Safe Z ELs s.vm T33.heap b18 := Safe.keep Kc33 sfk33 CR.1 sf_b18
    replace sf_b23 : Safe Z ELs s.vm T33.heap b23 := Safe.keep Kc33 sfk33 CR.1 sf_b23
    replace sf_t_33 : Safe Z ELs s.vm T33.heap t_33 := Safe.keep Kc33 sfk33 CR.1 sf_t_33
    replace OL : Old Z n0 T33.heap := OL.keep Kc33 (allS (Nat.le_trans Z0 sz_b18) all0)
    replace E_b18 : Exa Z T33.heap b18 "java/lang/String" := E_b18.keep Kc33
    replace V_b23 : Arv Z T33.heap b23 k23 .char (2 : Int32) (([n0_, n1_] : List Int32).map Value.int) (.int (0 : Int32)) := V_b23.keep Kc33 (ninS (Ne.symm ne_b18_b23) nin0)
    replace CR : CHr Z ELs s.vm h0 s.vm T33.heap := CR.trans (CHr.keep Kc33 sfk33 CR.1)
    replace hk := Nat.le_trans hk Kc33.1
    have K33 : Keep h0 T33.heap [] := K30.trans Kc33 (allS (P := fun x => x ∈ [] ∨ h0.size ≤ x) (Or.inr sz_b18) all0)
    have E_b18 : Exa Z T33.heap b18 "java/lang/String" := po33_0
    have F_coder_b18 : Fld Z T33.heap b18 "java/lang/String" "coder" "B" (.int (0 : Int32)) := po33_1
    have nt_33 := po33_4
    have F_value_b18 : Fld Z T33.heap b18 "java/lang/String" "value" "[B" (.ref t_33) := po33_5
    have V_t_33 : Arv Z T33.heap t_33 kb_33 .byte (2 : Int32) (((([n0_, n1_] : List Int32)).map (fun c => c.toInt8.toInt32)).map Value.int) (.int (0 : Int32)) := po33_6
    have P36 : ∀ tt_, GG p e below T33 (mkF m 105 #[.val (.int pa), .val (.int pb), .val (.int pc_), .val (.int pd_), .val (.int n0_), .val (.int n1_), .val (.int l0_), .val (.int d0_), .val (.int d1_), .val (.int e0_), .val (.int e1_), .val (.int (0 : Int32)), .val (.ref b18), .unset, .unset, .unset, .unset, .unset, .unset, .unset] [(.int l0_)]) tt_ → Steps p.tables e below s0 tt_ := fun tt_ kk_ => P35 tt_ (by
      refine XS.astore X33.here hx rfl (hb hby at_101) rfl rfl (l' := #[.val (.int pa), .val (.int pb), .val (.int pc_), .val (.int pd_), .val (.int n0_), .val (.int n1_), .val (.int l0_), .val (.int d0_), .val (.int d1_), .val (.int e0_), .val (.int e1_), .val (.int (0 : Int32)), .val (.ref b18), .unset, .unset, .unset, .unset, .unset, .unset, .unset]) rfl ?_
      refine XS.iload X33.here hx rfl (hb hby at_103) rfl ?_
      exact kk_)
    obtain ⟨_, _, ⟨T37, L37, k37, n37⟩, -, X37, ⟨Lc37, hQ37, l37, y37, z37⟩, st37⟩ := Jvm.LawKit.callS X33 hx (y := mn_25) hown (mw hZ hw 30 rfl) (mw hZ hw 31 rfl) (mw hZ hw 2 rfl) (mw hZ hw 32 rfl) (by decide) (backOf (W := 0) (rm_valueOf l Z a0 hw [] l0_ G1 T33.heap n0 (Nat.le_trans Z0 K33.1) S_COMPACT_STRINGS OL hz ok_l0_.2) hZ (ww hw 32 rfl) (ww hw 2 rfl) (by decide) (by decide)) (g := (mkF m 105 #[.val (.int pa), .val (.int pb), .val (.int pc_), .val (.int pd_), .val (.int n0_), .val (.int n1_), .val (.int l0_), .val (.int d0_), .val (.int d1_), .val (.int e0_), .val (.int e1_), .val (.int (0 : Int32)), .val (.ref b18), .unset, .unset, .unset, .unset, .unset, .unset, .unset] [(.int l0_)])) rfl (by rw [hml]; rfl) (argsL := [(.int l0_)]) (rest := []) (lenOf pd_21 rfl) rfl (by show 2 * 0 + _ ≤ _; exact Nat.le_of_eq rfl) (hb hby at_105) (fun _ _ => ⟨rfl, rfl, (by decide : 3 + 2 ≤ _), (by decide : 8 + 5 ≤ _)⟩)
    dsimp only [Pt.U, Pt.locs, Pt.cells, Pt.slots] at X37 l37 y37 z37 st37 hQ37
    subst l37 y37 z37
    obtain ⟨xs_37, t_37, kb_37, rfl, N37q, Kc37, po37_0, po37_1, po37_2, po37_3, po37_4, po37_5⟩ := hQ37
    have N37 := Fr.app N34 N37q
    obtain ⟨Lf38, X37, N38⟩ : ∃ Lf, Stand p l e room_1 (s.setVm s.vm) m #[(.int pa), (.int pb), (.int pc_), (.int pd_)] below meth c T37 Lf 5 13 ∧ Fr n0 Lf := ⟨_, X37, N37⟩
    have P39 : ∀ tt_, GG p e below T37 (mkF m 108 #[.val (.int pa), .val (.int pb), .val (.int pc_), .val (.int pd_), .val (.int n0_), .val (.int n1_), .val (.int l0_), .val (.int d0_), .val (.int d1_), .val (.int e0_), .val (.int e1_), .val (.int (0 : Int32)), .val (.ref b18), .unset, .unset, .unset, .unset, .unset, .unset, .unset] [(.ref xs_37)]) tt_ → Steps p.tables e below s0 tt_ := fun tt_ kk_ => P36 tt_ (st37 _ kk_)
    have ne_b18_xs_37 : b18 ≠ xs_37 := Nat.ne_of_lt (Nat.lt_of_lt_of_le E_b18.lt po37_0)
    have ne_b23_xs_37 : b23 ≠ xs_37 := Nat.ne_of_lt (Nat.lt_of_lt_of_le V_b23.lt po37_0)
    have ne_t_33_xs_37 : t_33 ≠ xs_37 := Nat.ne_of_lt (Nat.lt_of_lt_of_le V_t_33.lt po37_0)
    have sz_xs_37 : h0.size ≤ xs_37 := Nat.le_trans K33.1 po37_0
    have sf_xs_37 : Safe Z ELs s.vm T33.heap xs_37 := Safe.new po37_0
    have ne_b18_t_37 : b18 ≠ t_37 := Nat.ne_of_lt (Nat.lt_of_lt_of_le E_b18.lt po37_1)
    have ne_b23_t_37 : b23 ≠ t_37 := Nat.ne_of_lt (Nat.lt_of_lt_of_le V_b23.lt po37_1)
    have ne_t_33_t_37 : t_33 ≠ t_37 := Nat.ne_of_lt (Nat.lt_of_lt_of_le V_t_33.lt po37_1)
    have sz_t_37 : h0.size ≤ t_37 := Nat.le_trans K33.1 po37_1
    have sf_t_37 : Safe Z ELs s.vm T33.heap t_37 := Safe.new po37_1
    have sfk37 := (sf0 : ∀ x ∈ [], Safe Z ELs s.vm T33.heap x)
    replace sf_b18 : Safe Z ELs s.vm T37.heap b18 := Safe.keep Kc37 sfk37 CR.1 sf_b18
    replace sf_b23 : Safe Z ELs s.vm T37.heap b23 := Safe.keep Kc37 sfk37 CR.1 sf_b23
    replace sf_t_33 : Safe Z ELs s.vm T37.heap t_33 := Safe.keep Kc37 sfk37 CR.1 sf_t_33
    replace sf_xs_37 : Safe Z ELs s.vm T37.heap xs_37 := Safe.keep Kc37 sfk37 CR.1 sf_xs_37
    replace sf_t_37 : Safe Z ELs s.vm T37.heap t_37 := Safe.keep Kc37 sfk37 CR.1 sf_t_37
    replace OL : Old Z n0 T37.heap := OL.keep Kc37 all0
    replace E_b18 : Exa Z T37.heap b18 "java/lang/String" := E_b18.keep Kc37
    replace V_b23 : Arv Z T37.heap b23 k23 .char (2 : Int32) (([n0_, n1_] : List Int32).map Value.int) (.int (0 : Int32)) := V_b23.keep Kc37 nin0
    replace F_coder_b18 : Fld Z T37.heap b18 "java/lang/String" "coder" "B" (.int (0 : Int32)) := F_coder_b18.keep Kc37 nin0
    replace F_value_b18 : Fld Z T37.heap b18 "java/lang/String" "value" "[B" (.ref t_33) := F_value_b18.keep Kc37 nin0
    replace V_t_33 : Arv Z T37.heap t_33 kb_33 .byte (2 : Int32) (((([n0_, n1_] : List Int32)).map (fun c => c.toInt8.toInt32)).map Value.int) (.int (0 : Int32)) := V_t_33.keep Kc37 nin0
    replace CR : CHr Z ELs s.vm h0 s.vm T37.heap := CR.trans (CHr.keep Kc37 sfk37 CR.1)
    replace hk := Nat.le_trans hk Kc37.1
    have K37 : Keep h0 T37.heap [] := K33.trans Kc37 all0
    have E_xs_37 : Exa Z T37.heap xs_37 "java/lang/String" := po37_2
    have F_value_xs_37 : Fld Z T37.heap xs_37 "java/lang/String" "value" "[B" (.ref t_37) := po37_3
    have F_coder_xs_37 : Fld Z T37.heap xs_37 "java/lang/String" "coder" "B" (.int (0 : Int32)) := po37_4
    have V_t_37 : Arv Z T37.heap t_37 kb_37 .byte (1 : Int32) [(.int (nar .byte (l0_.toInt8.toInt32)))] (.int (0 : Int32)) := po37_5
    have P40 : ∀ tt_, GG p e below T37 (mkF m 110 #[.val (.int pa), .val (.int pb), .val (.int pc_), .val (.int pd_), .val (.int n0_), .val (.int n1_), .val (.int l0_), .val (.int d0_), .val (.int d1_), .val (.int e0_), .val (.int e1_), .val (.int (0 : Int32)), .val (.ref b18), .val (.ref xs_37), .unset, .unset, .unset, .unset, .unset, .unset] []) tt_ → Steps p.tables e below s0 tt_ := fun tt_ kk_ => P39 tt_ (by
      refine XS.astore X37.here hx rfl (hb hby at_108) rfl rfl (l' := #[.val (.int pa), .val (.int pb), .val (.int pc_), .val (.int pd_), .val (.int n0_), .val (.int n1_), .val (.int l0_), .val (.int d0_), .val (.int d1_), .val (.int e0_), .val (.int e1_), .val (.int (0 : Int32)), .val (.ref b18), .val (.ref xs_37), .unset, .unset, .unset, .unset, .unset, .unset]) rfl ?_
      exact kk_)
    obtain ⟨T41, h41, X41, e41, E41, A41, D41, -, st41⟩ := newO X37 hx hZ hown (ww hw 0 rfl) (ww hw 1 rfl) (ww hw 2 rfl) rfl (g := (mkF m 110 #[.val (.int pa), .val (.int pb), .val (.int pc_), .val (.int pd_), .val (.int n0_), .val (.int n1_), .val (.int l0_), .val (.int d0_), .val (.int d1_), .val (.int e0_), .val (.int e1_), .val (.int (0 : Int32)), .val (.ref b18), .val (.ref xs_37), .unset, .unset, .unset, .unset, .unset, .unset] [])) rfl (hb hby at_110) (by decide) (by decide)
    obtain ⟨b41, g41⟩ : ∃ z, z = T37.heap.size := ⟨_, rfl⟩
    rw [← g41] at A41 D41 st41
    have P42 : ∀ tt_, GG p e below T41 (mkF m 113 #[.val (.int pa), .val (.int pb), .val (.int pc_), .val (.int pd_), .val (.int n0_), .val (.int n1_), .val (.int l0_), .val (.int d0_), .val (.int d1_), .val (.int e0_), .val (.int e1_), .val (.int (0 : Int32)), .val (.ref b18), .val (.ref xs_37), .unset, .unset, .unset, .unset, .unset, .unset] [(.ref b41)]) tt_ → Steps p.tables e below s0 tt_ := fun tt_ kk_ => P40 tt_ (st41 _ kk_)
    have ne_b18_b41 : b18 ≠ b41 := Nat.ne_of_lt (Nat.lt_of_lt_of_le E_b18.lt (Nat.le_of_eq g41.symm))
    have ne_b23_b41 : b23 ≠ b41 := Nat.ne_of_lt (Nat.lt_of_lt_of_le V_b23.lt (Nat.le_of_eq g41.symm))
    have ne_t_33_b41 : t_33 ≠ b41 := Nat.ne_of_lt (Nat.lt_of_lt_of_le V_t_33.lt (Nat.le_of_eq g41.symm))
    have ne_xs_37_b41 : xs_37 ≠ b41 := Nat.ne_of_lt (Nat.lt_of_lt_of_le E_xs_37.lt (Nat.le_of_eq g41.symm))
    have ne_t_37_b41 : t_37 ≠ b41 := Nat.ne_of_lt (Nat.lt_of_lt_of_le V_t_37.lt (Nat.le_of_eq g41.symm))
    have sz_b41 : h0.size ≤ b41 := Nat.le_trans K37.1 (Nat.le_of_eq g41.symm)
    have sf_b41 : Safe Z ELs s.vm T37.heap b41 := Safe.new (Nat.le_of_eq g41.symm)
    replace sf_b18 : Safe Z ELs s.vm h41 b18 := Safe.ext E41 CR.1 sf_b18
    replace sf_b23 : Safe Z ELs s.vm h41 b23 := Safe.ext E41 CR.1 sf_b23
    replace sf_t_33 : Safe Z ELs s.vm h41 t_33 := Safe.ext E41 CR.1 sf_t_33
    replace sf_xs_37 : Safe Z ELs s.vm h41 xs_37 := Safe.ext E41 CR.1 sf_xs_37
    replace sf_t_37 : Safe Z ELs s.vm h41 t_37 := Safe.ext E41 CR.1 sf_t_37
    replace sf_b41 : Safe Z ELs s.vm h41 b41 := Safe.ext E41 CR.1 sf_b41
    replace OL : Old Z n0 h41 := OL.ext E41
    replace E_b18 : Exa Z h41 b18 "java/lang/String" := E_b18.ext E41
    replace V_b23 : Arv Z h41 b23 k23 .char (2 : Int32) (([n0_, n1_] : List Int32).map Value.int) (.int (0 : Int32)) := V_b23.ext E41
    replace F_coder_b18 : Fld Z h41 b18 "java/lang/String" "coder" "B" (.int (0 : Int32)) := F_coder_b18.ext E41
    replace F_value_b18 : Fld Z h41 b18 "java/lang/String" "value" "[B" (.ref t_33) := F_value_b18.ext E41
    replace V_t_33 : Arv Z h41 t_33 kb_33 .byte (2 : Int32) (((([n0_, n1_] : List Int32)).map (fun c => c.toInt8.toInt32)).map Value.int) (.int (0 : Int32)) := V_t_33.ext E41
    replace E_xs_37 : Exa Z h41 xs_37 "java/lang/String" := E_xs_37.ext E41
    replace F_value_xs_37 : Fld Z h41 xs_37 "java/lang/String" "value" "[B" (.ref t_37) := F_value_xs_37.ext E41
    replace F_coder_xs_37 : Fld Z h41 xs_37 "java/lang/String" "coder" "B" (.int (0 : Int32)) := F_coder_xs_37.ext E41
    replace V_t_37 : Arv Z h41 t_37 kb_37 .byte (1 : Int32) [(.int (nar .byte (l0_.toInt8.toInt32)))] (.int (0 : Int32)) := V_t_37.ext E41
    replace CR : CHr Z ELs s.vm h0 s.vm h41 := CR.trans (CHr.ext E41 CR.1)
    replace hk := Nat.le_trans hk E41.1
    have K41 : Keep h0 h41 [] := K37.ext E41
    obtain ⟨Lf43, X41, N43⟩ : ∃ Lf, Stand p l e room_1 (s.setVm s.vm) m #[(.int pa), (.int pb), (.int pc_), (.int pd_)] below meth c T41 Lf 6 17 ∧ Fr n0 Lf := ⟨_, X41, N38⟩
    have E_b41 : Exa Z h41 b41 "java/lang/String" := A41
    have F_coder_b41 : Fld Z h41 b41 "java/lang/String" "coder" "B" (.int (0 : Int32)) := D41 (Or.inr (ww hw 27 rfl)) (ty := .byte) (by decide)
    have F_value_b41 : Fld Z h41 b41 "java/lang/String" "value" "[B" .null := D41 (Or.inr (ww hw 29 rfl)) (ty := (.array .byte)) (by decide)
    have P44 : ∀ tt_, GG p e below T41 (mkF m 115 #[.val (.int pa), .val (.int pb), .val (.int pc_), .val (.int pd_), .val (.int n0_), .val (.int n1_), .val (.int l0_), .val (.int d0_), .val (.int d1_), .val (.int e0_), .val (.int e1_), .val (.int (0 : Int32)), .val (.ref b18), .val (.ref xs_37), .unset, .unset, .unset, .unset, .unset, .unset] [(.int (2 : Int32)), (.ref b41), (.ref b41)]) tt_ → Steps p.tables e below s0 tt_ := fun tt_ kk_ => P42 tt_ (by
      refine XS.dup X41.here hx rfl (hb hby at_113) rfl rfl ?_
      refine XS.iconst X41.here hx rfl (hb hby at_114) ?_
      exact kk_)
    have CRb45 := CR
    obtain ⟨T46, h46, k46, X46, e46, E46, A46, st46⟩ := newP X41 hx hZ (ww hw 3 rfl) e41 (g := (mkF m 115 #[.val (.int pa), .val (.int pb), .val (.int pc_), .val (.int pd_), .val (.int n0_), .val (.int n1_), .val (.int l0_), .val (.int d0_), .val (.int d1_), .val (.int e0_), .val (.int e1_), .val (.int (0 : Int32)), .val (.ref b18), .val (.ref xs_37), .unset, .unset, .unset, .unset, .unset, .unset] [(.int (2 : Int32)), (.ref b41), (.ref b41)])) rfl (hb hby at_115) rfl (by decide) (cap := 2) (by decide) (by decide) (by decide) (by decide)
    obtain ⟨b46, g46⟩ : ∃ z, z = h41.size := ⟨_, rfl⟩
    rw [← g46] at A46 st46
    have P47 : ∀ tt_, GG p e below T46 (mkF m 117 #[.val (.int pa), .val (.int pb), .val (.int pc_), .val (.int pd_), .val (.int n0_), .val (.int n1_), .val (.int l0_), .val (.int d0_), .val (.int d1_), .val (.int e0_), .val (.int e1_), .val (.int (0 : Int32)), .val (.ref b18), .val (.ref xs_37), .unset, .unset, .unset, .unset, .unset, .unset] [(.ref b46), (.ref b41), (.ref b41)]) tt_ → Steps p.tables e below s0 tt_ := fun tt_ kk_ => P44 tt_ (st46 _ kk_)
    have ne_b18_b46 : b18 ≠ b46 := Nat.ne_of_lt (Nat.lt_of_lt_of_le (Nat.lt_of_lt_of_le E_b18.lt (Keep.refl h41 []).1) (Nat.le_of_eq g46.symm))
    have ne_b23_b46 : b23 ≠ b46 := Nat.ne_of_lt (Nat.lt_of_lt_of_le (Nat.lt_of_lt_of_le V_b23.lt (Keep.refl h41 []).1) (Nat.le_of_eq g46.symm))
    have ne_t_33_b46 : t_33 ≠ b46 := Nat.ne_of_lt (Nat.lt_of_lt_of_le (Nat.lt_of_lt_of_le V_t_33.lt (Keep.refl h41 []).1) (Nat.le_of_eq g46.symm))
    have ne_xs_37_b46 : xs_37 ≠ b46 := Nat.ne_of_lt (Nat.lt_of_lt_of_le (Nat.lt_of_lt_of_le E_xs_37.lt (Keep.refl h41 []).1) (Nat.le_of_eq g46.symm))
    have ne_t_37_b46 : t_37 ≠ b46 := Nat.ne_of_lt (Nat.lt_of_lt_of_le (Nat.lt_of_lt_of_le V_t_37.lt (Keep.refl h41 []).1) (Nat.le_of_eq g46.symm))
    have ne_b41_b46 : b41 ≠ b46 := Nat.ne_of_lt (Nat.lt_of_lt_of_le (Nat.lt_of_lt_of_le E_b41.lt (Keep.refl h41 []).1) (Nat.le_of_eq g46.symm))
    have sz_b46 : h0.size ≤ b46 := Nat.le_trans K41.1 (Nat.le_of_eq g46.symm)
    have szB_b46 : h41.size ≤ b46 := Nat.le_trans (Keep.refl h41 []).1 (Nat.le_of_eq g46.symm)
    have sf_b46 : Safe Z ELs s.vm h41 b46 := Safe.new (Nat.le_of_eq g46.symm)
    replace sf_b46 : Safe Z ELs s.vm h46 b46 := Safe.ext E46 CR.1 sf_b46
    replace CR : CHr Z ELs s.vm h0 s.vm h46 := CR.trans (CHr.ext E46 CR.1)
    replace hk := Nat.le_trans hk E46.1
    have K46 : Keep h0 h46 [] := K41.ext E46
    have KB46 : Keep h41 h46 [] := (Keep.refl h41 []).ext E46
    obtain ⟨Lf48, X46, N48⟩ : ∃ Lf, Stand p l e room_1 (s.setVm s.vm) m #[(.int pa), (.int pb), (.int pc_), (.int pd_)] below meth c T46 Lf 7 19 ∧ Fr n0 Lf := ⟨_, X46, N43⟩
    have V_b46 : Arv Z h46 b46 k46 .char (2 : Int32) [(.int (0 : Int32)), (.int (0 : Int32))] (.int (0 : Int32)) := (Arv.new A46 (by decide)).pad (pad_rep [] (.int (0 : Int32)) 2)
    have P49 : ∀ tt_, GG p e below T46 (mkF m 121 #[.val (.int pa), .val (.int pb), .val (.int pc_), .val (.int pd_), .val (.int n0_), .val (.int n1_), .val (.int l0_), .val (.int d0_), .val (.int d1_), .val (.int e0_), .val (.int e1_), .val (.int (0 : Int32)), .val (.ref b18), .val (.ref xs_37), .unset, .unset, .unset, .unset, .unset, .unset] [(.int d0_), (.int (0 : Int32)), (.ref b46), (.ref b46), (.ref b41), (.ref b41)]) tt_ → Steps p.tables e below s0 tt_ := fun tt_ kk_ => P47 tt_ (by
      refine XS.dup X46.here hx rfl (hb hby at_117) rfl rfl ?_
      refine XS.iconst X46.here hx rfl (hb hby at_118) ?_
      refine XS.iload X46.here hx rfl (hb hby at_119) rfl ?_
      exact kk_)
    obtain ⟨cl50, Ar50, q50, S50, M50, Hs50, G50⟩ := V_b46
    obtain ⟨T50, h50, X50, e50, W50, st50⟩ := stC X46 hx hZ e46 Ar50 (j := (0 : Int32)) (inb_of S50 ⟨by decide, by decide⟩) (g := (mkF m 121 #[.val (.int pa), .val (.int pb), .val (.int pc_), .val (.int pd_), .val (.int n0_), .val (.int n1_), .val (.int l0_), .val (.int d0_), .val (.int d1_), .val (.int e0_), .val (.int e1_), .val (.int (0 : Int32)), .val (.ref b18), .val (.ref xs_37), .unset, .unset, .unset, .unset, .unset, .unset] [(.int d0_), (.int (0 : Int32)), (.ref b46), (.ref b46), (.ref b41), (.ref b41)])) rfl rfl (hb hby at_121)
    have P51 : ∀ tt_, GG p e below T50 (mkF m 122 #[.val (.int pa), .val (.int pb), .val (.int pc_), .val (.int pd_), .val (.int n0_), .val (.int n1_), .val (.int l0_), .val (.int d0_), .val (.int d1_), .val (.int e0_), .val (.int e1_), .val (.int (0 : Int32)), .val (.ref b18), .val (.ref xs_37), .unset, .unset, .unset, .unset, .unset, .unset] [(.ref b46), (.ref b41), (.ref b41)]) tt_ → Steps p.tables e below s0 tt_ := fun tt_ kk_ => P49 tt_ (st50 _ kk_)
    have N50 := Fr.snoc X50 N48 (Nat.le_trans Z0 sz_b46)
    have K50 : Keep h0 h50 [] := K46.wr W50 (Or.inr sz_b46)
    have KB50 : Keep h41 h50 [] := KB46.wr W50 (Or.inr szB_b46)
    have sfw50 : Safe Z ELs s.vm h46 b46 := sf_b46
    replace sf_b46 : Safe Z ELs s.vm h50 b46 := Safe.wr W50 sfw50 CR.1 sf_b46
    replace CR : CHr Z ELs s.vm h0 s.vm h50 := CR.trans (CHr.wr W50 sfw50 CR.1)
    replace hk := Nat.le_trans hk (Keep.of_wr W50).1
    have V_b46 : Arv Z h50 b46 k46 .char (2 : Int32) [(.int (nar .char d0_)), (.int (0 : Int32))] (.int (0 : Int32)) := Arv.set Ar50 q50 S50 M50 Hs50 G50 (fits_nar_char _) W50 0 rfl (Nat.le_of_ble_eq_true rfl)
    have P52 : ∀ tt_, GG p e below T50 (mkF m 126 #[.val (.int pa), .val (.int pb), .val (.int pc_), .val (.int pd_), .val (.int n0_), .val (.int n1_), .val (.int l0_), .val (.int d0_), .val (.int d1_), .val (.int e0_), .val (.int e1_), .val (.int (0 : Int32)), .val (.ref b18), .val (.ref xs_37), .unset, .unset, .unset, .unset, .unset, .unset] [(.int d1_), (.int (1 : Int32)), (.ref b46), (.ref b46), (.ref b41), (.ref b41)]) tt_ → Steps p.tables e below s0 tt_ := fun tt_ kk_ => P51 tt_ (by
      refine XS.dup X50.here hx rfl (hb hby at_122) rfl rfl ?_
      refine XS.iconst X50.here hx rfl (hb hby at_123) ?_
      refine XS.iload X50.here hx rfl (hb hby at_124) rfl ?_
      exact kk_)
    obtain ⟨cl53, Ar53, q53, S53, M53, Hs53, G53⟩ := V_b46
    obtain ⟨T53, h53, X53, e53, W53, st53⟩ := stC X50 hx hZ e50 Ar53 (j := (1 : Int32)) (inb_of S53 ⟨by decide, by decide⟩) (g := (mkF m 126 #[.val (.int pa), .val (.int pb), .val (.int pc_), .val (.int pd_), .val (.int n0_), .val (.int n1_), .val (.int l0_), .val (.int d0_), .val (.int d1_), .val (.int e0_), .val (.int e1_), .val (.int (0 : Int32)), .val (.ref b18), .val (.ref xs_37), .unset, .unset, .unset, .unset, .unset, .unset] [(.int d1_), (.int (1 : Int32)), (.ref b46), (.ref b46), (.ref b41), (.ref b41)])) rfl rfl (hb hby at_126)
    have P54 : ∀ tt_, GG p e below T53 (mkF m 127 #[.val (.int pa), .val (.int pb), .val (.int pc_), .val (.int pd_), .val (.int n0_), .val (.int n1_), .val (.int l0_), .val (.int d0_), .val (.int d1_), .val (.int e0_), .val (.int e1_), .val (.int (0 : Int32)), .val (.ref b18), .val (.ref xs_37), .unset, .unset, .unset, .unset, .unset, .unset] [(.ref b46), (.ref b41), (.ref b41)]) tt_ → Steps p.tables e below s0 tt_ := fun tt_ kk_ => P52 tt_ (st53 _ kk_)
    have N53 := Fr.snoc X53 N50 (Nat.le_trans Z0 sz_b46)
    have K53 : Keep h0 h53 [] := K50.wr W53 (Or.inr sz_b46)
    have KB53 : Keep h41 h53 [] := KB50.wr W53 (Or.inr szB_b46)
    have sfw53 : Safe Z ELs s.vm h50 b46 := sf_b46
    replace sf_b46 : Safe Z ELs s.vm h53 b46 := Safe.wr W53 sfw53 CR.1 sf_b46
    replace CR : CHr Z ELs s.vm h0 s.vm h53 := CR.trans (CHr.wr W53 sfw53 CR.1)
    replace hk := Nat.le_trans hk (Keep.of_wr W53).1
    have V_b46 : Arv Z h53 b46 k46 .char (2 : Int32) [(.int (nar .char d0_)), (.int (nar .char d1_))] (.int (0 : Int32)) := Arv.set Ar53 q53 S53 M53 Hs53 G53 (fits_nar_char _) W53 1 rfl (Nat.le_of_ble_eq_true rfl)
    replace sf_b18 : Safe Z ELs s.vm h53 b18 := Safe.keep KB53 sf0 CRb45.1 sf_b18
    replace sf_b23 : Safe Z ELs s.vm h53 b23 := Safe.keep KB53 sf0 CRb45.1 sf_b23
    replace sf_t_33 : Safe Z ELs s.vm h53 t_33 := Safe.keep KB53 sf0 CRb45.1 sf_t_33
    replace sf_xs_37 : Safe Z ELs s.vm h53 xs_37 := Safe.keep KB53 sf0 CRb45.1 sf_xs_37
    replace sf_t_37 : Safe Z ELs s.vm h53 t_37 := Safe.keep KB53 sf0 CRb45.1 sf_t_37
    replace sf_b41 : Safe Z ELs s.vm h53 b41 := Safe.keep KB53 sf0 CRb45.1 sf_b41
    replace OL : Old Z n0 h53 := OL.keep KB53 all0
    replace E_b18 : Exa Z h53 b18 "java/lang/String" := E_b18.keep KB53
    replace V_b23 : Arv Z h53 b23 k23 .char (2 : Int32) (([n0_, n1_] : List Int32).map Value.int) (.int (0 : Int32)) := V_b23.keep KB53 nin0
    replace F_coder_b18 : Fld Z h53 b18 "java/lang/String" "coder" "B" (.int (0 : Int32)) := F_coder_b18.keep KB53 nin0
    replace F_value_b18 : Fld Z h53 b18 "java/lang/String" "value" "[B" (.ref t_33) := F_value_b18.keep KB53 nin0
    replace V_t_33 : Arv Z h53 t_33 kb_33 .byte (2 : Int32) (((([n0_, n1_] : List Int32)).map (fun c => c.toInt8.toInt32)).map Value.int) (.int (0 : Int32)) := V_t_33.keep KB53 nin0
    replace E_xs_37 : Exa Z h53 xs_37 "java/lang/String" := E_xs_37.keep KB53
    replace F_value_xs_37 : Fld Z h53 xs_37 "java/lang/String" "value" "[B" (.ref t_37) := F_value_xs_37.keep KB53 nin0
    replace F_coder_xs_37 : Fld Z h53 xs_37 "java/lang/String" "coder" "B" (.int (0 : Int32)) := F_coder_xs_37.keep KB53 nin0
    replace V_t_37 : Arv Z h53 t_37 kb_37 .byte (1 : Int32) [(.int (nar .byte (l0_.toInt8.toInt32)))] (.int (0 : Int32)) := V_t_37.keep KB53 nin0
    replace E_b41 : Exa Z h53 b41 "java/lang/String" := E_b41.keep KB53
    replace F_coder_b41 : Fld Z h53 b41 "java/lang/String" "coder" "B" (.int (0 : Int32)) := F_coder_b41.keep KB53 nin0
    replace F_value_b41 : Fld Z h53 b41 "java/lang/String" "value" "[B" .null := F_value_b41.keep KB53 nin0
    replace V_b46 : Arv Z h53 b46 k46 .char (2 : Int32) (([d0_, d1_] : List Int32).map Value.int) (.int (0 : Int32)) := by
      have q := V_b46
      rw [na_d0_, na_d1_] at q
      exact q
    have hp55 : ∀ c ∈ ([d0_, d1_] : List Int32), ¬ c < 0 ∧ ¬ (255 : Int32) < c := by
      intro c hc
      simp only [List.mem_cons, List.not_mem_nil, or_false] at hc
      rcases hc with rfl | rfl
      · exact ok_d0_
      · exact ok_d1_
    obtain ⟨_, _, ⟨T56, L56, k56, n56⟩, -, X56, ⟨Lc56, hQ56, l56, y56, z56⟩, st56⟩ := X53.specialBack hx (y := mn_24) rfl hown (mw hZ hw 4 rfl) (mw hZ hw 5 rfl) (mw hZ hw 6 rfl) (by decide) (StrChars.Road.backV (W := 1) hZ (own_wNew hw) (kI := 4) (ww hw 1 rfl) (cs := ([d0_, d1_] : List Int32)) (bs := (([d0_, d1_] : List Int32)).map (fun c => c.toInt8.toInt32)) (n := 2) (Nat.le_trans Z0 sz_b41) (Nat.le_trans Z0 K53.1) E_b41 F_value_b41 F_coder_b41 V_b46 (S_COMPACT_STRINGS.ext OL.2) hz rfl rfl (by decide) (by decide) hp55 rfl (by decide) (by decide)) (g := (mkF m 127 #[.val (.int pa), .val (.int pb), .val (.int pc_), .val (.int pd_), .val (.int n0_), .val (.int n1_), .val (.int l0_), .val (.int d0_), .val (.int d1_), .val (.int e0_), .val (.int e1_), .val (.int (0 : Int32)), .val (.ref b18), .val (.ref xs_37), .unset, .unset, .unset, .unset, .unset, .unset] [(.ref b46), (.ref b41), (.ref b41)])) rfl (by rw [hml]; rfl) (Steps.refl _) (a := b41) (argsL := [(.ref b46)]) (rest := [(.ref b41)]) (lenOf pd_20 rfl) rfl (by show 2 * 0 + _ ≤ _; exact Nat.le_of_eq rfl) (hb hby at_127) (fun _ _ => ⟨rfl, e53, (by decide : 7 + 1 ≤ _), (by decide : 19 + 2 ≤ _)⟩)
    dsimp only [Pt.U, Pt.locs, Pt.cells, Pt.slots] at X56 l56 y56 z56 st56 hQ56
    subst l56 y56 z56
    obtain ⟨rfl, N56q, Kc56, po56_0, po56_1, t_56, kb_56, po56_2, po56_3, po56_4, po56_5, po56_6⟩ := hQ56
    have N56 := Fr.app N53 N56q
    obtain ⟨Lf57, X56, N57⟩ : ∃ Lf, Stand p l e room_1 (s.setVm s.vm) m #[(.int pa), (.int pb), (.int pc_), (.int pd_)] below meth c T56 Lf 8 21 ∧ Fr n0 Lf := ⟨_, X56, N56⟩
    have P58 : ∀ tt_, GG p e below T56 (mkF m 130 #[.val (.int pa), .val (.int pb), .val (.int pc_), .val (.int pd_), .val (.int n0_), .val (.int n1_), .val (.int l0_), .val (.int d0_), .val (.int d1_), .val (.int e0_), .val (.int e1_), .val (.int (0 : Int32)), .val (.ref b18), .val (.ref xs_37), .unset, .unset, .unset, .unset, .unset, .unset] [(.ref b41)]) tt_ → Steps p.tables e below s0 tt_ := fun tt_ kk_ => P54 tt_ (st56.trans kk_)
    have ne_b18_t_56 : b18 ≠ t_56 := Nat.ne_of_lt (Nat.lt_of_lt_of_le E_b18.lt po56_3)
    have ne_b23_t_56 : b23 ≠ t_56 := Nat.ne_of_lt (Nat.lt_of_lt_of_le V_b23.lt po56_3)
    have ne_t_33_t_56 : t_33 ≠ t_56 := Nat.ne_of_lt (Nat.lt_of_lt_of_le V_t_33.lt po56_3)
    have ne_xs_37_t_56 : xs_37 ≠ t_56 := Nat.ne_of_lt (Nat.lt_of_lt_of_le E_xs_37.lt po56_3)
    have ne_t_37_t_56 : t_37 ≠ t_56 := Nat.ne_of_lt (Nat.lt_of_lt_of_le V_t_37.lt po56_3)
    have ne_b41_t_56 : b41 ≠ t_56 := Nat.ne_of_lt (Nat.lt_of_lt_of_le E_b41.lt po56_3)
    have ne_b46_t_56 : b46 ≠ t_56 := Nat.ne_of_lt (Nat.lt_of_lt_of_le V_b46.lt po56_3)
    have sz_t_56 : h0.size ≤ t_56 := Nat.le_trans K53.1 po56_3
    have sf_t_56 : Safe Z ELs s.vm h53 t_56 := Safe.new po56_3
    have sfk56 := ((sfS sf_b41 sf0) : ∀ x ∈ [b41], Safe Z ELs s.vm h53 x)
    replace sf_b18 : Safe Z ELs s.vm T56.heap b18 := Safe.keep Kc56 sfk56 CR.1 sf_b18
    replace sf_b23 : Safe Z ELs s.vm T56.heap b23 := Safe.keep Kc56 sfk56 CR.1 sf_b23
    replace sf_t_33 : Safe Z ELs s.vm T56.heap t_33 := Safe.keep Kc56 sfk56 CR.1 sf_t_33
    replace sf_xs_37 : Safe Z ELs s.vm T56.heap xs_37 := Safe.keep Kc56 sfk56 CR.1 sf_xs_37
    replace sf_t_37 : Safe Z ELs s.vm T56.heap t_37 := Safe.keep Kc56 sfk56 CR.1 sf_t_37
    replace sf_b41 : Safe Z ELs s.vm T56.heap b41 := Safe.keep Kc56 sfk56 CR.1 sf_b41
    replace sf_b46 : Safe Z ELs s.vm T56.heap b46 := Safe.keep Kc56 sfk56 CR.1 sf_b46
    replace sf_t_56 : Safe Z ELs s.vm T56.heap t_56 := Safe.keep Kc56 sfk56 CR.1 sf_t_56
    replace OL : Old Z n0 T56.heap := OL.keep Kc56 (allS (Nat.le_trans Z0 sz_b41) all0)
    replace E_b18 : Exa Z T56.heap b18 "java/lang/String" := E_b18.keep Kc56
    replace V_b23 : Arv Z T56.heap b23 k23 .char (2 : Int32) (([n0_, n1_] : List Int32).map Value.int) (.int (0 : Int32)) := V_b23.keep Kc56 (ninS ne_b23_b41 nin0)
    replace F_coder_b18 : Fld Z T56.heap b18 "java/lang/String" "coder" "B" (.int (0 : Int32)) := F_coder_b18.keep Kc56 (ninS ne_b18_b41 nin0)
    replace F_value_b18 : Fld Z T56.heap b18 "java/lang/String" "value" "[B" (.ref t_33) := F_value_b18.keep Kc56 (ninS ne_b18_b41 nin0)
    replace V_t_33 : Arv Z T56.heap t_33 kb_33 .byte (2 : Int32) (((([n0_, n1_] : List Int32)).map (fun c => c.toInt8.toInt32)).map Value.int) (.int (0 : Int32)) := V_t_33.keep Kc56 (ninS ne_t_33_b41 nin0)
    replace E_xs_37 : Exa Z T56.heap xs_37 "java/lang/String" := E_xs_37.keep Kc56
    replace F_value_xs_37 : Fld Z T56.heap xs_37 "java/lang/String" "value" "[B" (.ref t_37) := F_value_xs_37.keep Kc56 (ninS ne_xs_37_b41 nin0)
    replace F_coder_xs_37 : Fld Z T56.heap xs_37 "java/lang/String" "coder" "B" (.int (0 : Int32)) := F_coder_xs_37.keep Kc56 (ninS ne_xs_37_b41 nin0)
    replace V_t_37 : Arv Z T56.heap t_37 kb_37 .byte (1 : Int32) [(.int (nar .byte (l0_.toInt8.toInt32)))] (.int (0 : Int32)) := V_t_37.keep Kc56 (ninS ne_t_37_b41 nin0)
    replace E_b41 : Exa Z T56.heap b41 "java/lang/String" := E_b41.keep Kc56
    replace V_b46 : Arv Z T56.heap b46 k46 .char (2 : Int32) (([d0_, d1_] : List Int32).map Value.int) (.int (0 : Int32)) := V_b46.keep Kc56 (ninS (Ne.symm ne_b41_b46) nin0)
    replace CR : CHr Z ELs s.vm h0 s.vm T56.heap := CR.trans (CHr.keep Kc56 sfk56 CR.1)
    replace hk := Nat.le_trans hk Kc56.1
    have K56 : Keep h0 T56.heap [] := K53.trans Kc56 (allS (P := fun x => x ∈ [] ∨ h0.size ≤ x) (Or.inr sz_b41) all0)
    have E_b41 : Exa Z T56.heap b41 "java/lang/String" := po56_0
    have F_coder_b41 : Fld Z T56.heap b41 "java/lang/String" "coder" "B" (.int (0 : Int32)) := po56_1
    have nt_56 := po56_4
    have F_value_b41 : Fld Z T56.heap b41 "java/lang/String" "value" "[B" (.ref t_56) := po56_5
    have V_t_56 : Arv Z T56.heap t_56 kb_56 .byte (2 : Int32) (((([d0_, d1_] : List Int32)).map (fun c => c.toInt8.toInt32)).map Value.int) (.int (0 : Int32)) := po56_6
    have P59 : ∀ tt_, GG p e below T56 (mkF m 141 #[.val (.int pa), .val (.int pb), .val (.int pc_), .val (.int pd_), .val (.int n0_), .val (.int n1_), .val (.int l0_), .val (.int d0_), .val (.int d1_), .val (.int e0_), .val (.int e1_), .val (.int (0 : Int32)), .val (.ref b18), .val (.ref xs_37), .val (.ref b41), .unset, .unset, .unset, .unset, .unset] []) tt_ → Steps p.tables e below s0 tt_ := fun tt_ kk_ => P58 tt_ (by
      refine XS.astore X56.here hx rfl (hb hby at_130) rfl rfl (l' := #[.val (.int pa), .val (.int pb), .val (.int pc_), .val (.int pd_), .val (.int n0_), .val (.int n1_), .val (.int l0_), .val (.int d0_), .val (.int d1_), .val (.int e0_), .val (.int e1_), .val (.int (0 : Int32)), .val (.ref b18), .val (.ref xs_37), .val (.ref b41), .unset, .unset, .unset, .unset, .unset]) rfl ?_
      refine XS.iload X56.here hx rfl (hb hby at_132) rfl ?_
      refine XS.ifYes X56.here hx rfl (pc0 := 134) (pc' := 141) rfl (hb hby at_134) rfl ((if0 _ _).trans (teq ((by decide) : (0 : Int32) = (0 : Int32))).1) (by decide) (by decide) ?_
      exact kk_)
    obtain ⟨T60, h60, X60, e60, E60, A60, D60, -, st60⟩ := newO X56 hx hZ hown (ww hw 0 rfl) (ww hw 1 rfl) (ww hw 2 rfl) rfl (g := (mkF m 141 #[.val (.int pa), .val (.int pb), .val (.int pc_), .val (.int pd_), .val (.int n0_), .val (.int n1_), .val (.int l0_), .val (.int d0_), .val (.int d1_), .val (.int e0_), .val (.int e1_), .val (.int (0 : Int32)), .val (.ref b18), .val (.ref xs_37), .val (.ref b41), .unset, .unset, .unset, .unset, .unset] [])) rfl (hb hby at_141) (by decide) (by decide)
    obtain ⟨b60, g60⟩ : ∃ z, z = T56.heap.size := ⟨_, rfl⟩
    rw [← g60] at A60 D60 st60
    have P61 : ∀ tt_, GG p e below T60 (mkF m 144 #[.val (.int pa), .val (.int pb), .val (.int pc_), .val (.int pd_), .val (.int n0_), .val (.int n1_), .val (.int l0_), .val (.int d0_), .val (.int d1_), .val (.int e0_), .val (.int e1_), .val (.int (0 : Int32)), .val (.ref b18), .val (.ref xs_37), .val (.ref b41), .unset, .unset, .unset, .unset, .unset] [(.ref b60)]) tt_ → Steps p.tables e below s0 tt_ := fun tt_ kk_ => P59 tt_ (st60 _ kk_)
    have ne_b18_b60 : b18 ≠ b60 := Nat.ne_of_lt (Nat.lt_of_lt_of_le E_b18.lt (Nat.le_of_eq g60.symm))
    have ne_b23_b60 : b23 ≠ b60 := Nat.ne_of_lt (Nat.lt_of_lt_of_le V_b23.lt (Nat.le_of_eq g60.symm))
    have ne_t_33_b60 : t_33 ≠ b60 := Nat.ne_of_lt (Nat.lt_of_lt_of_le V_t_33.lt (Nat.le_of_eq g60.symm))
    have ne_xs_37_b60 : xs_37 ≠ b60 := Nat.ne_of_lt (Nat.lt_of_lt_of_le E_xs_37.lt (Nat.le_of_eq g60.symm))
    have ne_t_37_b60 : t_37 ≠ b60 := Nat.ne_of_lt (Nat.lt_of_lt_of_le V_t_37.lt (Nat.le_of_eq g60.symm))
    have ne_b41_b60 : b41 ≠ b60 := Nat.ne_of_lt (Nat.lt_of_lt_of_le E_b41.lt (Nat.le_of_eq g60.symm))
    have ne_b46_b60 : b46 ≠ b60 := Nat.ne_of_lt (Nat.lt_of_lt_of_le V_b46.lt (Nat.le_of_eq g60.symm))
    have ne_t_56_b60 : t_56 ≠ b60 := Nat.ne_of_lt (Nat.lt_of_lt_of_le V_t_56.lt (Nat.le_of_eq g60.symm))
    have sz_b60 : h0.size ≤ b60 := Nat.le_trans K56.1 (Nat.le_of_eq g60.symm)
    have sf_b60 : Safe Z ELs s.vm T56.heap b60 := Safe.new (Nat.le_of_eq g60.symm)
    replace sf_b18 : Safe Z ELs s.vm h60 b18 := Safe.ext E60 CR.1 sf_b18
    replace sf_b23 : Safe Z ELs s.vm h60 b23 := Safe.ext E60 CR.1 sf_b23
    replace sf_t_33 : Safe Z ELs s.vm h60 t_33 := Safe.ext E60 CR.1 sf_t_33
    replace sf_xs_37 : Safe Z ELs s.vm h60 xs_37 := Safe.ext E60 CR.1 sf_xs_37
    replace sf_t_37 : Safe Z ELs s.vm h60 t_37 := Safe.ext E60 CR.1 sf_t_37
    replace sf_b41 : Safe Z ELs s.vm h60 b41 := Safe.ext E60 CR.1 sf_b41
    replace sf_b46 : Safe Z ELs s.vm h60 b46 := Safe.ext E60 CR.1 sf_b46
    replace sf_t_56 : Safe Z ELs s.vm h60 t_56 := Safe.ext E60 CR.1 sf_t_56
    replace sf_b60 : Safe Z ELs s.vm h60 b60 := Safe.ext E60 CR.1 sf_b60
    replace OL : Old Z n0 h60 := OL.ext E60
    replace E_b18 : Exa Z h60 b18 "java/lang/String" := E_b18.ext E60
    replace V_b23 : Arv Z h60 b23 k23 .char (2 : Int32) (([n0_, n1_] : List Int32).map Value.int) (.int (0 : Int32)) := V_b23.ext E60
    replace F_coder_b18 : Fld Z h60 b18 "java/lang/String" "coder" "B" (.int (0 : Int32)) := F_coder_b18.ext E60
    replace F_value_b18 : Fld Z h60 b18 "java/lang/String" "value" "[B" (.ref t_33) := F_value_b18.ext E60
    replace V_t_33 : Arv Z h60 t_33 kb_33 .byte (2 : Int32) (((([n0_, n1_] : List Int32)).map (fun c => c.toInt8.toInt32)).map Value.int) (.int (0 : Int32)) := V_t_33.ext E60
    replace E_xs_37 : Exa Z h60 xs_37 "java/lang/String" := E_xs_37.ext E60
    replace F_value_xs_37 : Fld Z h60 xs_37 "java/lang/String" "value" "[B" (.ref t_37) := F_value_xs_37.ext E60
    replace F_coder_xs_37 : Fld Z h60 xs_37 "java/lang/String" "coder" "B" (.int (0 : Int32)) := F_coder_xs_37.ext E60
    replace V_t_37 : Arv Z h60 t_37 kb_37 .byte (1 : Int32) [(.int (nar .byte (l0_.toInt8.toInt32)))] (.int (0 : Int32)) := V_t_37.ext E60
    replace E_b41 : Exa Z h60 b41 "java/lang/String" := E_b41.ext E60
    replace V_b46 : Arv Z h60 b46 k46 .char (2 : Int32) (([d0_, d1_] : List Int32).map Value.int) (.int (0 : Int32)) := V_b46.ext E60
    replace F_coder_b41 : Fld Z h60 b41 "java/lang/String" "coder" "B" (.int (0 : Int32)) := F_coder_b41.ext E60
    replace F_value_b41 : Fld Z h60 b41 "java/lang/String" "value" "[B" (.ref t_56) := F_value_b41.ext E60
    replace V_t_56 : Arv Z h60 t_56 kb_56 .byte (2 : Int32) (((([d0_, d1_] : List Int32)).map (fun c => c.toInt8.toInt32)).map Value.int) (.int (0 : Int32)) := V_t_56.ext E60
    replace CR : CHr Z ELs s.vm h0 s.vm h60 := CR.trans (CHr.ext E60 CR.1)
    replace hk := Nat.le_trans hk E60.1
    have K60 : Keep h0 h60 [] := K56.ext E60
    obtain ⟨Lf62, X60, N62⟩ : ∃ Lf, Stand p l e room_1 (s.setVm s.vm) m #[(.int pa), (.int pb), (.int pc_), (.int pd_)] below meth c T60 Lf 9 25 ∧ Fr n0 Lf := ⟨_, X60, N57⟩
    have E_b60 : Exa Z h60 b60 "java/lang/String" := A60
    have F_coder_b60 : Fld Z h60 b60 "java/lang/String" "coder" "B" (.int (0 : Int32)) := D60 (Or.inr (ww hw 27 rfl)) (ty := .byte) (by decide)
    have F_value_b60 : Fld Z h60 b60 "java/lang/String" "value" "[B" .null := D60 (Or.inr (ww hw 29 rfl)) (ty := (.array .byte)) (by decide)
    have P63 : ∀ tt_, GG p e below T60 (mkF m 146 #[.val (.int pa), .val (.int pb), .val (.int pc_), .val (.int pd_), .val (.int n0_), .val (.int n1_), .val (.int l0_), .val (.int d0_), .val (.int d1_), .val (.int e0_), .val (.int e1_), .val (.int (0 : Int32)), .val (.ref b18), .val (.ref xs_37), .val (.ref b41), .unset, .unset, .unset, .unset, .unset] [(.int (2 : Int32)), (.ref b60), (.ref b60)]) tt_ → Steps p.tables e below s0 tt_ := fun tt_ kk_ => P61 tt_ (by
      refine XS.dup X60.here hx rfl (hb hby at_144) rfl rfl ?_
      refine XS.iconst X60.here hx rfl (hb hby at_145) ?_
      exact kk_)
    have CRb64 := CR
    obtain ⟨T65, h65, k65, X65, e65, E65, A65, st65⟩ := newP X60 hx hZ (ww hw 3 rfl) e60 (g := (mkF m 146 #[.val (.int pa), .val (.int pb), .val (.int pc_), .val (.int pd_), .val (.int n0_), .val (.int n1_), .val (.int l0_), .val (.int d0_), .val (.int d1_), .val (.int e0_), .val (.int e1_), .val (.int (0 : Int32)), .val (.ref b18), .val (.ref xs_37), .val (.ref b41), .unset, .unset, .unset, .unset, .unset] [(.int (2 : Int32)), (.ref b60), (.ref b60)])) rfl (hb hby at_146) rfl (by decide) (cap := 2) (by decide) (by decide) (by decide) (by decide)
    obtain ⟨b65, g65⟩ : ∃ z, z = h60.size := ⟨_, rfl⟩
    rw [← g65] at A65 st65
    have P66 : ∀ tt_, GG p e below T65 (mkF m 148 #[.val (.int pa), .val (.int pb), .val (.int pc_), .val (.int pd_), .val (.int n0_), .val (.int n1_), .val (.int l0_), .val (.int d0_), .val (.int d1_), .val (.int e0_), .val (.int e1_), .val (.int (0 : Int32)), .val (.ref b18), .val (.ref xs_37), .val (.ref b41), .unset, .unset, .unset, .unset, .unset] [(.ref b65), (.ref b60), (.ref b60)]) tt_ → Steps p.tables e below s0 tt_ := fun tt_ kk_ => P63 tt_ (st65 _ kk_)
    have ne_b18_b65 : b18 ≠ b65 := Nat.ne_of_lt (Nat.lt_of_lt_of_le (Nat.lt_of_lt_of_le E_b18.lt (Keep.refl h60 []).1) (Nat.le_of_eq g65.symm))
    have ne_b23_b65 : b23 ≠ b65 := Nat.ne_of_lt (Nat.lt_of_lt_of_le (Nat.lt_of_lt_of_le V_b23.lt (Keep.refl h60 []).1) (Nat.le_of_eq g65.symm))
    have ne_t_33_b65 : t_33 ≠ b65 := Nat.ne_of_lt (Nat.lt_of_lt_of_le (Nat.lt_of_lt_of_le V_t_33.lt (Keep.refl h60 []).1) (Nat.le_of_eq g65.symm))
    have ne_xs_37_b65 : xs_37 ≠ b65 := Nat.ne_of_lt (Nat.lt_of_lt_of_le (Nat.lt_of_lt_of_le E_xs_37.lt (Keep.refl h60 []).1) (Nat.le_of_eq g65.symm))
    have ne_t_37_b65 : t_37 ≠ b65 := Nat.ne_of_lt (Nat.lt_of_lt_of_le (Nat.lt_of_lt_of_le V_t_37.lt (Keep.refl h60 []).1) (Nat.le_of_eq g65.symm))
    have ne_b41_b65 : b41 ≠ b65 := Nat.ne_of_lt (Nat.lt_of_lt_of_le (Nat.lt_of_lt_of_le E_b41.lt (Keep.refl h60 []).1) (Nat.le_of_eq g65.symm))
    have ne_b46_b65 : b46 ≠ b65 := Nat.ne_of_lt (Nat.lt_of_lt_of_le (Nat.lt_of_lt_of_le V_b46.lt (Keep.refl h60 []).1) (Nat.le_of_eq g65.symm))
    have ne_t_56_b65 : t_56 ≠ b65 := Nat.ne_of_lt (Nat.lt_of_lt_of_le (Nat.lt_of_lt_of_le V_t_56.lt (Keep.refl h60 []).1) (Nat.le_of_eq g65.symm))
    have ne_b60_b65 : b60 ≠ b65 := Nat.ne_of_lt (Nat.lt_of_lt_of_le (Nat.lt_of_lt_of_le E_b60.lt (Keep.refl h60 []).1) (Nat.le_of_eq g65.symm))
    have sz_b65 : h0.size ≤ b65 := Nat.le_trans K60.1 (Nat.le_of_eq g65.symm)
    have szB_b65 : h60.size ≤ b65 := Nat.le_trans (Keep.refl h60 []).1 (Nat.le_of_eq g65.symm)
    have sf_b65 : Safe Z ELs s.vm h60 b65 := Safe.new (Nat.le_of_eq g65.symm)
    replace sf_b65 : Safe Z ELs s.vm h65 b65 := Safe.ext E65 CR.1 sf_b65
    replace CR : CHr Z ELs s.vm h0 s.vm h65 := CR.trans (CHr.ext E65 CR.1)
    replace hk := Nat.le_trans hk E65.1
    have K65 : Keep h0 h65 [] := K60.ext E65
    have KB65 : Keep h60 h65 [] := (Keep.refl h60 []).ext E65
    obtain ⟨Lf67, X65, N67⟩ : ∃ Lf, Stand p l e room_1 (s.setVm s.vm) m #[(.int pa), (.int pb), (.int pc_), (.int pd_)] below meth c T65 Lf 10 27 ∧ Fr n0 Lf := ⟨_, X65, N62⟩
    have V_b65 : Arv Z h65 b65 k65 .char (2 : Int32) [(.int (0 : Int32)), (.int (0 : Int32))] (.int (0 : Int32)) := (Arv.new A65 (by decide)).pad (pad_rep [] (.int (0 : Int32)) 2)
    have P68 : ∀ tt_, GG p e below T65 (mkF m 152 #[.val (.int pa), .val (.int pb), .val (.int pc_), .val (.int pd_), .val (.int n0_), .val (.int n1_), .val (.int l0_), .val (.int d0_), .val (.int d1_), .val (.int e0_), .val (.int e1_), .val (.int (0 : Int32)), .val (.ref b18), .val (.ref xs_37), .val (.ref b41), .unset, .unset, .unset, .unset, .unset] [(.int e0_), (.int (0 : Int32)), (.ref b65), (.ref b65), (.ref b60), (.ref b60)]) tt_ → Steps p.tables e below s0 tt_ := fun tt_ kk_ => P66 tt_ (by
      refine XS.dup X65.here hx rfl (hb hby at_148) rfl rfl ?_
      refine XS.iconst X65.here hx rfl (hb hby at_149) ?_
      refine XS.iload X65.here hx rfl (hb hby at_150) rfl ?_
      exact kk_)
    obtain ⟨cl69, Ar69, q69, S69, M69, Hs69, G69⟩ := V_b65
    obtain ⟨T69, h69, X69, e69, W69, st69⟩ := stC X65 hx hZ e65 Ar69 (j := (0 : Int32)) (inb_of S69 ⟨by decide, by decide⟩) (g := (mkF m 152 #[.val (.int pa), .val (.int pb), .val (.int pc_), .val (.int pd_), .val (.int n0_), .val (.int n1_), .val (.int l0_), .val (.int d0_), .val (.int d1_), .val (.int e0_), .val (.int e1_), .val (.int (0 : Int32)), .val (.ref b18), .val (.ref xs_37), .val (.ref b41), .unset, .unset, .unset, .unset, .unset] [(.int e0_), (.int (0 : Int32)), (.ref b65), (.ref b65), (.ref b60), (.ref b60)])) rfl rfl (hb hby at_152)
    have P70 : ∀ tt_, GG p e below T69 (mkF m 153 #[.val (.int pa), .val (.int pb), .val (.int pc_), .val (.int pd_), .val (.int n0_), .val (.int n1_), .val (.int l0_), .val (.int d0_), .val (.int d1_), .val (.int e0_), .val (.int e1_), .val (.int (0 : Int32)), .val (.ref b18), .val (.ref xs_37), .val (.ref b41), .unset, .unset, .unset, .unset, .unset] [(.ref b65), (.ref b60), (.ref b60)]) tt_ → Steps p.tables e below s0 tt_ := fun tt_ kk_ => P68 tt_ (st69 _ kk_)
    have N69 := Fr.snoc X69 N67 (Nat.le_trans Z0 sz_b65)
    have K69 : Keep h0 h69 [] := K65.wr W69 (Or.inr sz_b65)
    have KB69 : Keep h60 h69 [] := KB65.wr W69 (Or.inr szB_b65)
    have sfw69 : Safe Z ELs s.vm h65 b65 := sf_b65
    replace sf_b65 : Safe Z ELs s.vm h69 b65 := Safe.wr W69 sfw69 CR.1 sf_b65
    replace CR : CHr Z ELs s.vm h0 s.vm h69 := CR.trans (CHr.wr W69 sfw69 CR.1)
    replace hk := Nat.le_trans hk (Keep.of_wr W69).1
    have V_b65 : Arv Z h69 b65 k65 .char (2 : Int32) [(.int (nar .char e0_)), (.int (0 : Int32))] (.int (0 : Int32)) := Arv.set Ar69 q69 S69 M69 Hs69 G69 (fits_nar_char _) W69 0 rfl (Nat.le_of_ble_eq_true rfl)
    have P71 : ∀ tt_, GG p e below T69 (mkF m 157 #[.val (.int pa), .val (.int pb), .val (.int pc_), .val (.int pd_), .val (.int n0_), .val (.int n1_), .val (.int l0_), .val (.int d0_), .val (.int d1_), .val (.int e0_), .val (.int e1_), .val (.int (0 : Int32)), .val (.ref b18), .val (.ref xs_37), .val (.ref b41), .unset, .unset, .unset, .unset, .unset] [(.int e1_), (.int (1 : Int32)), (.ref b65), (.ref b65), (.ref b60), (.ref b60)]) tt_ → Steps p.tables e below s0 tt_ := fun tt_ kk_ => P70 tt_ (by
      refine XS.dup X69.here hx rfl (hb hby at_153) rfl rfl ?_
      refine XS.iconst X69.here hx rfl (hb hby at_154) ?_
      refine XS.iload X69.here hx rfl (hb hby at_155) rfl ?_
      exact kk_)
    obtain ⟨cl72, Ar72, q72, S72, M72, Hs72, G72⟩ := V_b65
    obtain ⟨T72, h72, X72, e72, W72, st72⟩ := stC X69 hx hZ e69 Ar72 (j := (1 : Int32)) (inb_of S72 ⟨by decide, by decide⟩) (g := (mkF m 157 #[.val (.int pa), .val (.int pb), .val (.int pc_), .val (.int pd_), .val (.int n0_), .val (.int n1_), .val (.int l0_), .val (.int d0_), .val (.int d1_), .val (.int e0_), .val (.int e1_), .val (.int (0 : Int32)), .val (.ref b18), .val (.ref xs_37), .val (.ref b41), .unset, .unset, .unset, .unset, .unset] [(.int e1_), (.int (1 : Int32)), (.ref b65), (.ref b65), (.ref b60), (.ref b60)])) rfl rfl (hb hby at_157)
    have P73 : ∀ tt_, GG p e below T72 (mkF m 158 #[.val (.int pa), .val (.int pb), .val (.int pc_), .val (.int pd_), .val (.int n0_), .val (.int n1_), .val (.int l0_), .val (.int d0_), .val (.int d1_), .val (.int e0_), .val (.int e1_), .val (.int (0 : Int32)), .val (.ref b18), .val (.ref xs_37), .val (.ref b41), .unset, .unset, .unset, .unset, .unset] [(.ref b65), (.ref b60), (.ref b60)]) tt_ → Steps p.tables e below s0 tt_ := fun tt_ kk_ => P71 tt_ (st72 _ kk_)
    have N72 := Fr.snoc X72 N69 (Nat.le_trans Z0 sz_b65)
    have K72 : Keep h0 h72 [] := K69.wr W72 (Or.inr sz_b65)
    have KB72 : Keep h60 h72 [] := KB69.wr W72 (Or.inr szB_b65)
    have sfw72 : Safe Z ELs s.vm h69 b65 := sf_b65
    replace sf_b65 : Safe Z ELs s.vm h72 b65 := Safe.wr W72 sfw72 CR.1 sf_b65
    replace CR : CHr Z ELs s.vm h0 s.vm h72 := CR.trans (CHr.wr W72 sfw72 CR.1)
    replace hk := Nat.le_trans hk (Keep.of_wr W72).1
    have V_b65 : Arv Z h72 b65 k65 .char (2 : Int32) [(.int (nar .char e0_)), (.int (nar .char e1_))] (.int (0 : Int32)) := Arv.set Ar72 q72 S72 M72 Hs72 G72 (fits_nar_char _) W72 1 rfl (Nat.le_of_ble_eq_true rfl)
    replace sf_b18 : Safe Z ELs s.vm h72 b18 := Safe.keep KB72 sf0 CRb64.1 sf_b18
    replace sf_b23 : Safe Z ELs s.vm h72 b23 := Safe.keep KB72 sf0 CRb64.1 sf_b23
    replace sf_t_33 : Safe Z ELs s.vm h72 t_33 := Safe.keep KB72 sf0 CRb64.1 sf_t_33
    replace sf_xs_37 : Safe Z ELs s.vm h72 xs_37 := Safe.keep KB72 sf0 CRb64.1 sf_xs_37
    replace sf_t_37 : Safe Z ELs s.vm h72 t_37 := Safe.keep KB72 sf0 CRb64.1 sf_t_37
    replace sf_b41 : Safe Z ELs s.vm h72 b41 := Safe.keep KB72 sf0 CRb64.1 sf_b41
    replace sf_b46 : Safe Z ELs s.vm h72 b46 := Safe.keep KB72 sf0 CRb64.1 sf_b46
    replace sf_t_56 : Safe Z ELs s.vm h72 t_56 := Safe.keep KB72 sf0 CRb64.1 sf_t_56
    replace sf_b60 : Safe Z ELs s.vm h72 b60 := Safe.keep KB72 sf0 CRb64.1 sf_b60
    replace OL : Old Z n0 h72 := OL.keep KB72 all0
    replace E_b18 : Exa Z h72 b18 "java/lang/String" := E_b18.keep KB72
    replace V_b23 : Arv Z h72 b23 k23 .char (2 : Int32) (([n0_, n1_] : List Int32).map Value.int) (.int (0 : Int32)) := V_b23.keep KB72 nin0
    replace F_coder_b18 : Fld Z h72 b18 "java/lang/String" "coder" "B" (.int (0 : Int32)) := F_coder_b18.keep KB72 nin0
    replace F_value_b18 : Fld Z h72 b18 "java/lang/String" "value" "[B" (.ref t_33) := F_value_b18.keep KB72 nin0
    replace V_t_33 : Arv Z h72 t_33 kb_33 .byte (2 : Int32) (((([n0_, n1_] : List Int32)).map (fun c => c.toInt8.toInt32)).map Value.int) (.int (0 : Int32)) := V_t_33.keep KB72 nin0
    replace E_xs_37 : Exa Z h72 xs_37 "java/lang/String" := E_xs_37.keep KB72
    replace F_value_xs_37 : Fld Z h72 xs_37 "java/lang/String" "value" "[B" (.ref t_37) := F_value_xs_37.keep KB72 nin0
    replace F_coder_xs_37 : Fld Z h72 xs_37 "java/lang/String" "coder" "B" (.int (0 : Int32)) := F_coder_xs_37.keep KB72 nin0
    replace V_t_37 : Arv Z h72 t_37 kb_37 .byte (1 : Int32) [(.int (nar .byte (l0_.toInt8.toInt32)))] (.int (0 : Int32)) := V_t_37.keep KB72 nin0
    replace E_b41 : Exa Z h72 b41 "java/lang/String" := E_b41.keep KB72
    replace V_b46 : Arv Z h72 b46 k46 .char (2 : Int32) (([d0_, d1_] : List Int32).map Value.int) (.int (0 : Int32)) := V_b46.keep KB72 nin0
    replace F_coder_b41 : Fld Z h72 b41 "java/lang/String" "coder" "B" (.int (0 : Int32)) := F_coder_b41.keep KB72 nin0
    replace F_value_b41 : Fld Z h72 b41 "java/lang/String" "value" "[B" (.ref t_56) := F_value_b41.keep KB72 nin0
    replace V_t_56 : Arv Z h72 t_56 kb_56 .byte (2 : Int32) (((([d0_, d1_] : List Int32)).map (fun c => c.toInt8.toInt32)).map Value.int) (.int (0 : Int32)) := V_t_56.keep KB72 nin0
    replace E_b60 : Exa Z h72 b60 "java/lang/String" := E_b60.keep KB72
    replace F_coder_b60 : Fld Z h72 b60 "java/lang/String" "coder" "B" (.int (0 : Int32)) := F_coder_b60.keep KB72 nin0
    replace F_value_b60 : Fld Z h72 b60 "java/lang/String" "value" "[B" .null := F_value_b60.keep KB72 nin0
    replace V_b65 : Arv Z h72 b65 k65 .char (2 : Int32) (([e0_, e1_] : List Int32).map Value.int) (.int (0 : Int32)) := by
      have q := V_b65
      rw [na_e0_, na_e1_] at q
      exact q
    have hp74 : ∀ c ∈ ([e0_, e1_] : List Int32), ¬ c < 0 ∧ ¬ (255 : Int32) < c := by
      intro c hc
      simp only [List.mem_cons, List.not_mem_nil, or_false] at hc
      rcases hc with rfl | rfl
      · exact ok_e0_
      · exact ok_e1_
    obtain ⟨_, _, ⟨T75, L75, k75, n75⟩, -, X75, ⟨Lc75, hQ75, l75, y75, z75⟩, st75⟩ := X72.specialBack hx (y := mn_24) rfl hown (mw hZ hw 4 rfl) (mw hZ hw 5 rfl) (mw hZ hw 6 rfl) (by decide) (StrChars.Road.backV (W := 1) hZ (own_wNew hw) (kI := 4) (ww hw 1 rfl) (cs := ([e0_, e1_] : List Int32)) (bs := (([e0_, e1_] : List Int32)).map (fun c => c.toInt8.toInt32)) (n := 2) (Nat.le_trans Z0 sz_b60) (Nat.le_trans Z0 K72.1) E_b60 F_value_b60 F_coder_b60 V_b65 (S_COMPACT_STRINGS.ext OL.2) hz rfl rfl (by decide) (by decide) hp74 rfl (by decide) (by decide)) (g := (mkF m 158 #[.val (.int pa), .val (.int pb), .val (.int pc_), .val (.int pd_), .val (.int n0_), .val (.int n1_), .val (.int l0_), .val (.int d0_), .val (.int d1_), .val (.int e0_), .val (.int e1_), .val (.int (0 : Int32)), .val (.ref b18), .val (.ref xs_37), .val (.ref b41), .unset, .unset, .unset, .unset, .unset] [(.ref b65), (.ref b60), (.ref b60)])) rfl (by rw [hml]; rfl) (Steps.refl _) (a := b60) (argsL := [(.ref b65)]) (rest := [(.ref b60)]) (lenOf pd_20 rfl) rfl (by show 2 * 0 + _ ≤ _; exact Nat.le_of_eq rfl) (hb hby at_158) (fun _ _ => ⟨rfl, e72, (by decide : 10 + 1 ≤ _), (by decide : 27 + 2 ≤ _)⟩)
    dsimp only [Pt.U, Pt.locs, Pt.cells, Pt.slots] at X75 l75 y75 z75 st75 hQ75
    subst l75 y75 z75
    obtain ⟨rfl, N75q, Kc75, po75_0, po75_1, t_75, kb_75, po75_2, po75_3, po75_4, po75_5, po75_6⟩ := hQ75
    have N75 := Fr.app N72 N75q
    obtain ⟨Lf76, X75, N76⟩ : ∃ Lf, Stand p l e room_1 (s.setVm s.vm) m #[(.int pa), (.int pb), (.int pc_), (.int pd_)] below meth c T75 Lf 11 29 ∧ Fr n0 Lf := ⟨_, X75, N75⟩
    have P77 : ∀ tt_, GG p e below T75 (mkF m 161 #[.val (.int pa), .val (.int pb), .val (.int pc_), .val (.int pd_), .val (.int n0_), .val (.int n1_), .val (.int l0_), .val (.int d0_), .val (.int d1_), .val (.int e0_), .val (.int e1_), .val (.int (0 : Int32)), .val (.ref b18), .val (.ref xs_37), .val (.ref b41), .unset, .unset, .unset, .unset, .unset] [(.ref b60)]) tt_ → Steps p.tables e below s0 tt_ := fun tt_ kk_ => P73 tt_ (st75.trans kk_)
    have ne_b18_t_75 : b18 ≠ t_75 := Nat.ne_of_lt (Nat.lt_of_lt_of_le E_b18.lt po75_3)
    have ne_b23_t_75 : b23 ≠ t_75 := Nat.ne_of_lt (Nat.lt_of_lt_of_le V_b23.lt po75_3)
    have ne_t_33_t_75 : t_33 ≠ t_75 := Nat.ne_of_lt (Nat.lt_of_lt_of_le V_t_33.lt po75_3)
    have ne_xs_37_t_75 : xs_37 ≠ t_75 := Nat.ne_of_lt (Nat.lt_of_lt_of_le E_xs_37.lt po75_3)
    have ne_t_37_t_75 : t_37 ≠ t_75 := Nat.ne_of_lt (Nat.lt_of_lt_of_le V_t_37.lt po75_3)
    have ne_b41_t_75 : b41 ≠ t_75 := Nat.ne_of_lt (Nat.lt_of_lt_of_le E_b41.lt po75_3)
    have ne_b46_t_75 : b46 ≠ t_75 := Nat.ne_of_lt (Nat.lt_of_lt_of_le V_b46.lt po75_3)
    have ne_t_56_t_75 : t_56 ≠ t_75 := Nat.ne_of_lt (Nat.lt_of_lt_of_le V_t_56.lt po75_3)
    have ne_b60_t_75 : b60 ≠ t_75 := Nat.ne_of_lt (Nat.lt_of_lt_of_le E_b60.lt po75_3)
    have ne_b65_t_75 : b65 ≠ t_75 := Nat.ne_of_lt (Nat.lt_of_lt_of_le V_b65.lt po75_3)
    have sz_t_75 : h0.size ≤ t_75 := Nat.le_trans K72.1 po75_3
    have sf_t_75 : Safe Z ELs s.vm h72 t_75 := Safe.new po75_3
    have sfk75 := ((sfS sf_b60 sf0) : ∀ x ∈ [b60], Safe Z ELs s.vm h72 x)
    replace sf_b18 : Safe Z ELs s.vm T75.heap b18 := Safe.keep Kc75 sfk75 CR.1 sf_b18
    replace sf_b23 : Safe Z ELs s.vm T75.heap b23 := Safe.keep Kc75 sfk75 CR.1 sf_b23
    replace sf_t_33 : Safe Z ELs s.vm T75.heap t_33 := Safe.keep Kc75 sfk75 CR.1 sf_t_33
    replace sf_xs_37 : Safe Z ELs s.vm T75.heap xs_37 := Safe.keep Kc75 sfk75 CR.1 sf_xs_37
    replace sf_t_37 : Safe Z ELs s.vm T75.heap t_37 := Safe.keep Kc75 sfk75 CR.1 sf_t_37
    replace sf_b41 : Safe Z ELs s.vm T75.heap b41 := Safe.keep Kc75 sfk75 CR.1 sf_b41
    replace sf_b46 : Safe Z ELs s.vm T75.heap b46 := Safe.keep Kc75 sfk75 CR.1 sf_b46
    replace sf_t_56 : Safe Z ELs s.vm T75.heap t_56 := Safe.keep Kc75 sfk75 CR.1 sf_t_56
    replace sf_b60 : Safe Z ELs s.vm T75.heap b60 := Safe.keep Kc75 sfk75 CR.1 sf_b60
    replace sf_b65 : Safe Z ELs s.vm T75.heap b65 := Safe.keep Kc75 sfk75 CR.1 sf_b65
    replace sf_t_75 : Safe Z ELs s.vm T75.heap t_75 := Safe.keep Kc75 sfk75 CR.1 sf_t_75
    replace OL : Old Z n0 T75.heap := OL.keep Kc75 (allS (Nat.le_trans Z0 sz_b60) all0)
    replace E_b18 : Exa Z T75.heap b18 "java/lang/String" := E_b18.keep Kc75
    replace V_b23 : Arv Z T75.heap b23 k23 .char (2 : Int32) (([n0_, n1_] : List Int32).map Value.int) (.int (0 : Int32)) := V_b23.keep Kc75 (ninS ne_b23_b60 nin0)
    replace F_coder_b18 : Fld Z T75.heap b18 "java/lang/String" "coder" "B" (.int (0 : Int32)) := F_coder_b18.keep Kc75 (ninS ne_b18_b60 nin0)
    replace F_value_b18 : Fld Z T75.heap b18 "java/lang/String" "value" "[B" (.ref t_33) := F_value_b18.keep Kc75 (ninS ne_b18_b60 nin0)
    replace V_t_33 : Arv Z T75.heap t_33 kb_33 .byte (2 : Int32) (((([n0_, n1_] : List Int32)).map (fun c => c.toInt8.toInt32)).map Value.int) (.int (0 : Int32)) := V_t_33.keep Kc75 (ninS ne_t_33_b60 nin0)
    replace E_xs_37 : Exa Z T75.heap xs_37 "java/lang/String" := E_xs_37.keep Kc75
    replace F_value_xs_37 : Fld Z T75.heap xs_37 "java/lang/String" "value" "[B" (.ref t_37) := F_value_xs_37.keep Kc75 (ninS ne_xs_37_b60 nin0)
    replace F_coder_xs_37 : Fld Z T75.heap xs_37 "java/lang/String" "coder" "B" (.int (0 : Int32)) := F_coder_xs_37.keep Kc75 (ninS ne_xs_37_b60 nin0)
    replace V_t_37 : Arv Z T75.heap t_37 kb_37 .byte (1 : Int32) [(.int (nar .byte (l0_.toInt8.toInt32)))] (.int (0 : Int32)) := V_t_37.keep Kc75 (ninS ne_t_37_b60 nin0)
    replace E_b41 : Exa Z T75.heap b41 "java/lang/String" := E_b41.keep Kc75
    replace V_b46 : Arv Z T75.heap b46 k46 .char (2 : Int32) (([d0_, d1_] : List Int32).map Value.int) (.int (0 : Int32)) := V_b46.keep Kc75 (ninS ne_b46_b60 nin0)
    replace F_coder_b41 : Fld Z T75.heap b41 "java/lang/String" "coder" "B" (.int (0 : Int32)) := F_coder_b41.keep Kc75 (ninS ne_b41_b60 nin0)
    replace F_value_b41 : Fld Z T75.heap b41 "java/lang/String" "value" "[B" (.ref t_56) := F_value_b41.keep Kc75 (ninS ne_b41_b60 nin0)
    replace V_t_56 : Arv Z T75.heap t_56 kb_56 .byte (2 : Int32) (((([d0_, d1_] : List Int32)).map (fun c => c.toInt8.toInt32)).map Value.int) (.int (0 : Int32)) := V_t_56.keep Kc75 (ninS ne_t_56_b60 nin0)
    replace E_b60 : Exa Z T75.heap b60 "java/lang/String" := E_b60.keep Kc75
    replace V_b65 : Arv Z T75.heap b65 k65 .char (2 : Int32) (([e0_, e1_] : List Int32).map Value.int) (.int (0 : Int32)) := V_b65.keep Kc75 (ninS (Ne.symm ne_b60_b65) nin0)
    replace CR : CHr Z ELs s.vm h0 s.vm T75.heap := CR.trans (CHr.keep Kc75 sfk75 CR.1)
    replace hk := Nat.le_trans hk Kc75.1
    have K75 : Keep h0 T75.heap [] := K72.trans Kc75 (allS (P := fun x => x ∈ [] ∨ h0.size ≤ x) (Or.inr sz_b60) all0)
    have E_b60 : Exa Z T75.heap b60 "java/lang/String" := po75_0
    have F_coder_b60 : Fld Z T75.heap b60 "java/lang/String" "coder" "B" (.int (0 : Int32)) := po75_1
    have nt_75 := po75_4
    have F_value_b60 : Fld Z T75.heap b60 "java/lang/String" "value" "[B" (.ref t_75) := po75_5
    have V_t_75 : Arv Z T75.heap t_75 kb_75 .byte (2 : Int32) (((([e0_, e1_] : List Int32)).map (fun c => c.toInt8.toInt32)).map Value.int) (.int (0 : Int32)) := po75_6
    have P78 : ∀ tt_, GG p e below T75 (mkF m 165 #[.val (.int pa), .val (.int pb), .val (.int pc_), .val (.int pd_), .val (.int n0_), .val (.int n1_), .val (.int l0_), .val (.int d0_), .val (.int d1_), .val (.int e0_), .val (.int e1_), .val (.int (0 : Int32)), .val (.ref b18), .val (.ref xs_37), .val (.ref b41), .val (.ref b60), .unset, .unset, .unset, .unset] [(.int (16 : Int32))]) tt_ → Steps p.tables e below s0 tt_ := fun tt_ kk_ => P77 tt_ (by
      refine XS.astore X75.here hx rfl (hb hby at_161) rfl rfl (l' := #[.val (.int pa), .val (.int pb), .val (.int pc_), .val (.int pd_), .val (.int n0_), .val (.int n1_), .val (.int l0_), .val (.int d0_), .val (.int d1_), .val (.int e0_), .val (.int e1_), .val (.int (0 : Int32)), .val (.ref b18), .val (.ref xs_37), .val (.ref b41), .val (.ref b60), .unset, .unset, .unset, .unset]) rfl ?_
      refine XS.bipush X75.here hx rfl (hb hby at_163) ?_
      exact kk_)
    have CRb79 := CR
    obtain ⟨T80, h80, k80, X80, e80, E80, A80, st80⟩ := newP X75 hx hZ (ww hw 3 rfl) rfl (g := (mkF m 165 #[.val (.int pa), .val (.int pb), .val (.int pc_), .val (.int pd_), .val (.int n0_), .val (.int n1_), .val (.int l0_), .val (.int d0_), .val (.int d1_), .val (.int e0_), .val (.int e1_), .val (.int (0 : Int32)), .val (.ref b18), .val (.ref xs_37), .val (.ref b41), .val (.ref b60), .unset, .unset, .unset, .unset] [(.int (16 : Int32))])) rfl (hb hby at_165) rfl (by decide) (cap := 16) (by decide) (by decide) (by decide) (by decide)
    obtain ⟨b80, g80⟩ : ∃ z, z = T75.heap.size := ⟨_, rfl⟩
    rw [← g80] at A80 st80
    have P81 : ∀ tt_, GG p e below T80 (mkF m 167 #[.val (.int pa), .val (.int pb), .val (.int pc_), .val (.int pd_), .val (.int n0_), .val (.int n1_), .val (.int l0_), .val (.int d0_), .val (.int d1_), .val (.int e0_), .val (.int e1_), .val (.int (0 : Int32)), .val (.ref b18), .val (.ref xs_37), .val (.ref b41), .val (.ref b60), .unset, .unset, .unset, .unset] [(.ref b80)]) tt_ → Steps p.tables e below s0 tt_ := fun tt_ kk_ => P78 tt_ (st80 _ kk_)
    have ne_b18_b80 : b18 ≠ b80 := Nat.ne_of_lt (Nat.lt_of_lt_of_le (Nat.lt_of_lt_of_le E_b18.lt (Keep.refl T75.heap []).1) (Nat.le_of_eq g80.symm))
    have ne_b23_b80 : b23 ≠ b80 := Nat.ne_of_lt (Nat.lt_of_lt_of_le (Nat.lt_of_lt_of_le V_b23.lt (Keep.refl T75.heap []).1) (Nat.le_of_eq g80.symm))
    have ne_t_33_b80 : t_33 ≠ b80 := Nat.ne_of_lt (Nat.lt_of_lt_of_le (Nat.lt_of_lt_of_le V_t_33.lt (Keep.refl T75.heap []).1) (Nat.le_of_eq g80.symm))
    have ne_xs_37_b80 : xs_37 ≠ b80 := Nat.ne_of_lt (Nat.lt_of_lt_of_le (Nat.lt_of_lt_of_le E_xs_37.lt (Keep.refl T75.heap []).1) (Nat.le_of_eq g80.symm))
    have ne_t_37_b80 : t_37 ≠ b80 := Nat.ne_of_lt (Nat.lt_of_lt_of_le (Nat.lt_of_lt_of_le V_t_37.lt (Keep.refl T75.heap []).1) (Nat.le_of_eq g80.symm))
    have ne_b41_b80 : b41 ≠ b80 := Nat.ne_of_lt (Nat.lt_of_lt_of_le (Nat.lt_of_lt_of_le E_b41.lt (Keep.refl T75.heap []).1) (Nat.le_of_eq g80.symm))
    have ne_b46_b80 : b46 ≠ b80 := Nat.ne_of_lt (Nat.lt_of_lt_of_le (Nat.lt_of_lt_of_le V_b46.lt (Keep.refl T75.heap []).1) (Nat.le_of_eq g80.symm))
    have ne_t_56_b80 : t_56 ≠ b80 := Nat.ne_of_lt (Nat.lt_of_lt_of_le (Nat.lt_of_lt_of_le V_t_56.lt (Keep.refl T75.heap []).1) (Nat.le_of_eq g80.symm))
    have ne_b60_b80 : b60 ≠ b80 := Nat.ne_of_lt (Nat.lt_of_lt_of_le (Nat.lt_of_lt_of_le E_b60.lt (Keep.refl T75.heap []).1) (Nat.le_of_eq g80.symm))
    have ne_b65_b80 : b65 ≠ b80 := Nat.ne_of_lt (Nat.lt_of_lt_of_le (Nat.lt_of_lt_of_le V_b65.lt (Keep.refl T75.heap []).1) (Nat.le_of_eq g80.symm))
    have ne_t_75_b80 : t_75 ≠ b80 := Nat.ne_of_lt (Nat.lt_of_lt_of_le (Nat.lt_of_lt_of_le V_t_75.lt (Keep.refl T75.heap []).1) (Nat.le_of_eq g80.symm))
    have sz_b80 : h0.size ≤ b80 := Nat.le_trans K75.1 (Nat.le_of_eq g80.symm)
    have szB_b80 : T75.heap.size ≤ b80 := Nat.le_trans (Keep.refl T75.heap []).1 (Nat.le_of_eq g80.symm)
    have sf_b80 : Safe Z ELs s.vm T75.heap b80 := Safe.new (Nat.le_of_eq g80.symm)
    replace sf_b80 : Safe Z ELs s.vm h80 b80 := Safe.ext E80 CR.1 sf_b80
    replace CR : CHr Z ELs s.vm h0 s.vm h80 := CR.trans (CHr.ext E80 CR.1)
    replace hk := Nat.le_trans hk E80.1
    have K80 : Keep h0 h80 [] := K75.ext E80
    have KB80 : Keep T75.heap h80 [] := (Keep.refl T75.heap []).ext E80
    obtain ⟨Lf82, X80, N82⟩ : ∃ Lf, Stand p l e room_1 (s.setVm s.vm) m #[(.int pa), (.int pb), (.int pc_), (.int pd_)] below meth c T80 Lf 12 45 ∧ Fr n0 Lf := ⟨_, X80, N76⟩
    have V_b80 : Arv Z h80 b80 k80 .char (16 : Int32) [(.int (0 : Int32)), (.int (0 : Int32)), (.int (0 : Int32)), (.int (0 : Int32)), (.int (0 : Int32)), (.int (0 : Int32)), (.int (0 : Int32)), (.int (0 : Int32)), (.int (0 : Int32)), (.int (0 : Int32)), (.int (0 : Int32)), (.int (0 : Int32)), (.int (0 : Int32)), (.int (0 : Int32)), (.int (0 : Int32)), (.int (0 : Int32))] (.int (0 : Int32)) := (Arv.new A80 (by decide)).pad (pad_rep [] (.int (0 : Int32)) 16)
    have P83 : ∀ tt_, GG p e below T80 (mkF m 171 #[.val (.int pa), .val (.int pb), .val (.int pc_), .val (.int pd_), .val (.int n0_), .val (.int n1_), .val (.int l0_), .val (.int d0_), .val (.int d1_), .val (.int e0_), .val (.int e1_), .val (.int (0 : Int32)), .val (.ref b18), .val (.ref xs_37), .val (.ref b41), .val (.ref b60), .unset, .unset, .unset, .unset] [(.int d0_), (.int (0 : Int32)), (.ref b80), (.ref b80)]) tt_ → Steps p.tables e below s0 tt_ := fun tt_ kk_ => P81 tt_ (by
      refine XS.dup X80.here hx rfl (hb hby at_167) rfl rfl ?_
      refine XS.iconst X80.here hx rfl (hb hby at_168) ?_
      refine XS.iload X80.here hx rfl (hb hby at_169) rfl ?_
      exact kk_)
    obtain ⟨cl84, Ar84, q84, S84, M84, Hs84, G84⟩ := V_b80
    obtain ⟨T84, h84, X84, e84, W84, st84⟩ := stC X80 hx hZ e80 Ar84 (j := (0 : Int32)) (inb_of S84 ⟨by decide, by decide⟩) (g := (mkF m 171 #[.val (.int pa), .val (.int pb), .val (.int pc_), .val (.int pd_), .val (.int n0_), .val (.int n1_), .val (.int l0_), .val (.int d0_), .val (.int d1_), .val (.int e0_), .val (.int e1_), .val (.int (0 : Int32)), .val (.ref b18), .val (.ref xs_37), .val (.ref b41), .val (.ref b60), .unset, .unset, .unset, .unset] [(.int d0_), (.int (0 : Int32)), (.ref b80), (.ref b80)])) rfl rfl (hb hby at_171)
    have P85 : ∀ tt_, GG p e below T84 (mkF m 172 #[.val (.int pa), .val (.int pb), .val (.int pc_), .val (.int pd_), .val (.int n0_), .val (.int n1_), .val (.int l0_), .val (.int d0_), .val (.int d1_), .val (.int e0_), .val (.int e1_), .val (.int (0 : Int32)), .val (.ref b18), .val (.ref xs_37), .val (.ref b41), .val (.ref b60), .unset, .unset, .unset, .unset] [(.ref b80)]) tt_ → Steps p.tables e below s0 tt_ := fun tt_ kk_ => P83 tt_ (st84 _ kk_)
    have N84 := Fr.snoc X84 N82 (Nat.le_trans Z0 sz_b80)
    have K84 : Keep h0 h84 [] := K80.wr W84 (Or.inr sz_b80)
    have KB84 : Keep T75.heap h84 [] := KB80.wr W84 (Or.inr szB_b80)
    have sfw84 : Safe Z ELs s.vm h80 b80 := sf_b80
    replace sf_b80 : Safe Z ELs s.vm h84 b80 := Safe.wr W84 sfw84 CR.1 sf_b80
    replace CR : CHr Z ELs s.vm h0 s.vm h84 := CR.trans (CHr.wr W84 sfw84 CR.1)
    replace hk := Nat.le_trans hk (Keep.of_wr W84).1
    have V_b80 : Arv Z h84 b80 k80 .char (16 : Int32) [(.int (nar .char d0_)), (.int (0 : Int32)), (.int (0 : Int32)), (.int (0 : Int32)), (.int (0 : Int32)), (.int (0 : Int32)), (.int (0 : Int32)), (.int (0 : Int32)), (.int (0 : Int32)), (.int (0 : Int32)), (.int (0 : Int32)), (.int (0 : Int32)), (.int (0 : Int32)), (.int (0 : Int32)), (.int (0 : Int32)), (.int (0 : Int32))] (.int (0 : Int32)) := Arv.set Ar84 q84 S84 M84 Hs84 G84 (fits_nar_char _) W84 0 rfl (Nat.le_of_ble_eq_true rfl)
    have P86 : ∀ tt_, GG p e below T84 (mkF m 176 #[.val (.int pa), .val (.int pb), .val (.int pc_), .val (.int pd_), .val (.int n0_), .val (.int n1_), .val (.int l0_), .val (.int d0_), .val (.int d1_), .val (.int e0_), .val (.int e1_), .val (.int (0 : Int32)), .val (.ref b18), .val (.ref xs_37), .val (.ref b41), .val (.ref b60), .unset, .unset, .unset, .unset] [(.int d1_), (.int (1 : Int32)), (.ref b80), (.ref b80)]) tt_ → Steps p.tables e below s0 tt_ := fun tt_ kk_ => P85 tt_ (by
      refine XS.dup X84.here hx rfl (hb hby at_172) rfl rfl ?_
      refine XS.iconst X84.here hx rfl (hb hby at_173) ?_
      refine XS.iload X84.here hx rfl (hb hby at_174) rfl ?_
      exact kk_)
    obtain ⟨cl87, Ar87, q87, S87, M87, Hs87, G87⟩ := V_b80
    obtain ⟨T87, h87, X87, e87, W87, st87⟩ := stC X84 hx hZ e84 Ar87 (j := (1 : Int32)) (inb_of S87 ⟨by decide, by decide⟩) (g := (mkF m 176 #[.val (.int pa), .val (.int pb), .val (.int pc_), .val (.int pd_), .val (.int n0_), .val (.int n1_), .val (.int l0_), .val (.int d0_), .val (.int d1_), .val (.int e0_), .val (.int e1_), .val (.int (0 : Int32)), .val (.ref b18), .val (.ref xs_37), .val (.ref b41), .val (.ref b60), .unset, .unset, .unset, .unset] [(.int d1_), (.int (1 : Int32)), (.ref b80), (.ref b80)])) rfl rfl (hb hby at_176)
    have P88 : ∀ tt_, GG p e below T87 (mkF m 177 #[.val (.int pa), .val (.int pb), .val (.int pc_), .val (.int pd_), .val (.int n0_), .val (.int n1_), .val (.int l0_), .val (.int d0_), .val (.int d1_), .val (.int e0_), .val (.int e1_), .val (.int (0 : Int32)), .val (.ref b18), .val (.ref xs_37), .val (.ref b41), .val (.ref b60), .unset, .unset, .unset, .unset] [(.ref b80)]) tt_ → Steps p.tables e below s0 tt_ := fun tt_ kk_ => P86 tt_ (st87 _ kk_)
    have N87 := Fr.snoc X87 N84 (Nat.le_trans Z0 sz_b80)
    have K87 : Keep h0 h87 [] := K84.wr W87 (Or.inr sz_b80)
    have KB87 : Keep T75.heap h87 [] := KB84.wr W87 (Or.inr szB_b80)
    have sfw87 : Safe Z ELs s.vm h84 b80 := sf_b80
    replace sf_b80 : Safe Z ELs s.vm h87 b80 := Safe.wr W87 sfw87 CR.1 sf_b80
    replace CR : CHr Z ELs s.vm h0 s.vm h87 := CR.trans (CHr.wr W87 sfw87 CR.1)
    replace hk := Nat.le_trans hk (Keep.of_wr W87).1
    have V_b80 : Arv Z h87 b80 k80 .char (16 : Int32) [(.int (nar .char d0_)), (.int (nar .char d1_)), (.int (0 : Int32)), (.int (0 : Int32)), (.int (0 : Int32)), (.int (0 : Int32)), (.int (0 : Int32)), (.int (0 : Int32)), (.int (0 : Int32)), (.int (0 : Int32)), (.int (0 : Int32)), (.int (0 : Int32)), (.int (0 : Int32)), (.int (0 : Int32)), (.int (0 : Int32)), (.int (0 : Int32))] (.int (0 : Int32)) := Arv.set Ar87 q87 S87 M87 Hs87 G87 (fits_nar_char _) W87 1 rfl (Nat.le_of_ble_eq_true rfl)
    have P89 : ∀ tt_, GG p e below T87 (mkF m 181 #[.val (.int pa), .val (.int pb), .val (.int pc_), .val (.int pd_), .val (.int n0_), .val (.int n1_), .val (.int l0_), .val (.int d0_), .val (.int d1_), .val (.int e0_), .val (.int e1_), .val (.int (0 : Int32)), .val (.ref b18), .val (.ref xs_37), .val (.ref b41), .val (.ref b60), .unset, .unset, .unset, .unset] [(.int (32 : Int32)), (.int (2 : Int32)), (.ref b80), (.ref b80)]) tt_ → Steps p.tables e below s0 tt_ := fun tt_ kk_ => P88 tt_ (by
      refine XS.dup X87.here hx rfl (hb hby at_177) rfl rfl ?_
      refine XS.iconst X87.here hx rfl (hb hby at_178) ?_
      refine XS.bipush X87.here hx rfl (hb hby at_179) ?_
      exact kk_)
    obtain ⟨cl90, Ar90, q90, S90, M90, Hs90, G90⟩ := V_b80
    obtain ⟨T90, h90, X90, e90, W90, st90⟩ := stC X87 hx hZ e87 Ar90 (j := (2 : Int32)) (inb_of S90 ⟨by decide, by decide⟩) (g := (mkF m 181 #[.val (.int pa), .val (.int pb), .val (.int pc_), .val (.int pd_), .val (.int n0_), .val (.int n1_), .val (.int l0_), .val (.int d0_), .val (.int d1_), .val (.int e0_), .val (.int e1_), .val (.int (0 : Int32)), .val (.ref b18), .val (.ref xs_37), .val (.ref b41), .val (.ref b60), .unset, .unset, .unset, .unset] [(.int (32 : Int32)), (.int (2 : Int32)), (.ref b80), (.ref b80)])) rfl rfl (hb hby at_181)
    have P91 : ∀ tt_, GG p e below T90 (mkF m 182 #[.val (.int pa), .val (.int pb), .val (.int pc_), .val (.int pd_), .val (.int n0_), .val (.int n1_), .val (.int l0_), .val (.int d0_), .val (.int d1_), .val (.int e0_), .val (.int e1_), .val (.int (0 : Int32)), .val (.ref b18), .val (.ref xs_37), .val (.ref b41), .val (.ref b60), .unset, .unset, .unset, .unset] [(.ref b80)]) tt_ → Steps p.tables e below s0 tt_ := fun tt_ kk_ => P89 tt_ (st90 _ kk_)
    have N90 := Fr.snoc X90 N87 (Nat.le_trans Z0 sz_b80)
    have K90 : Keep h0 h90 [] := K87.wr W90 (Or.inr sz_b80)
    have KB90 : Keep T75.heap h90 [] := KB87.wr W90 (Or.inr szB_b80)
    have sfw90 : Safe Z ELs s.vm h87 b80 := sf_b80
    replace sf_b80 : Safe Z ELs s.vm h90 b80 := Safe.wr W90 sfw90 CR.1 sf_b80
    replace CR : CHr Z ELs s.vm h0 s.vm h90 := CR.trans (CHr.wr W90 sfw90 CR.1)
    replace hk := Nat.le_trans hk (Keep.of_wr W90).1
    have V_b80 : Arv Z h90 b80 k80 .char (16 : Int32) [(.int (nar .char d0_)), (.int (nar .char d1_)), (.int (nar .char (32 : Int32))), (.int (0 : Int32)), (.int (0 : Int32)), (.int (0 : Int32)), (.int (0 : Int32)), (.int (0 : Int32)), (.int (0 : Int32)), (.int (0 : Int32)), (.int (0 : Int32)), (.int (0 : Int32)), (.int (0 : Int32)), (.int (0 : Int32)), (.int (0 : Int32)), (.int (0 : Int32))] (.int (0 : Int32)) := Arv.set Ar90 q90 S90 M90 Hs90 G90 (fits_nar_char _) W90 2 rfl (Nat.le_of_ble_eq_true rfl)
    have P92 : ∀ tt_, GG p e below T90 (mkF m 186 #[.val (.int pa), .val (.int pb), .val (.int pc_), .val (.int pd_), .val (.int n0_), .val (.int n1_), .val (.int l0_), .val (.int d0_), .val (.int d1_), .val (.int e0_), .val (.int e1_), .val (.int (0 : Int32)), .val (.ref b18), .val (.ref xs_37), .val (.ref b41), .val (.ref b60), .unset, .unset, .unset, .unset] [(.int (68 : Int32)), (.int (3 : Int32)), (.ref b80), (.ref b80)]) tt_ → Steps p.tables e below s0 tt_ := fun tt_ kk_ => P91 tt_ (by
      refine XS.dup X90.here hx rfl (hb hby at_182) rfl rfl ?_
      refine XS.iconst X90.here hx rfl (hb hby at_183) ?_
      refine XS.bipush X90.here hx rfl (hb hby at_184) ?_
      exact kk_)
    obtain ⟨cl93, Ar93, q93, S93, M93, Hs93, G93⟩ := V_b80
    obtain ⟨T93, h93, X93, e93, W93, st93⟩ := stC X90 hx hZ e90 Ar93 (j := (3 : Int32)) (inb_of S93 ⟨by decide, by decide⟩) (g := (mkF m 186 #[.val (.int pa), .val (.int pb), .val (.int pc_), .val (.int pd_), .val (.int n0_), .val (.int n1_), .val (.int l0_), .val (.int d0_), .val (.int d1_), .val (.int e0_), .val (.int e1_), .val (.int (0 : Int32)), .val (.ref b18), .val (.ref xs_37), .val (.ref b41), .val (.ref b60), .unset, .unset, .unset, .unset] [(.int (68 : Int32)), (.int (3 : Int32)), (.ref b80), (.ref b80)])) rfl rfl (hb hby at_186)
    have P94 : ∀ tt_, GG p e below T93 (mkF m 187 #[.val (.int pa), .val (.int pb), .val (.int pc_), .val (.int pd_), .val (.int n0_), .val (.int n1_), .val (.int l0_), .val (.int d0_), .val (.int d1_), .val (.int e0_), .val (.int e1_), .val (.int (0 : Int32)), .val (.ref b18), .val (.ref xs_37), .val (.ref b41), .val (.ref b60), .unset, .unset, .unset, .unset] [(.ref b80)]) tt_ → Steps p.tables e below s0 tt_ := fun tt_ kk_ => P92 tt_ (st93 _ kk_)
    have N93 := Fr.snoc X93 N90 (Nat.le_trans Z0 sz_b80)
    have K93 : Keep h0 h93 [] := K90.wr W93 (Or.inr sz_b80)
    have KB93 : Keep T75.heap h93 [] := KB90.wr W93 (Or.inr szB_b80)
    have sfw93 : Safe Z ELs s.vm h90 b80 := sf_b80
    replace sf_b80 : Safe Z ELs s.vm h93 b80 := Safe.wr W93 sfw93 CR.1 sf_b80
    replace CR : CHr Z ELs s.vm h0 s.vm h93 := CR.trans (CHr.wr W93 sfw93 CR.1)
    replace hk := Nat.le_trans hk (Keep.of_wr W93).1
    have V_b80 : Arv Z h93 b80 k80 .char (16 : Int32) [(.int (nar .char d0_)), (.int (nar .char d1_)), (.int (nar .char (32 : Int32))), (.int (nar .char (68 : Int32))), (.int (0 : Int32)), (.int (0 : Int32)), (.int (0 : Int32)), (.int (0 : Int32)), (.int (0 : Int32)), (.int (0 : Int32)), (.int (0 : Int32)), (.int (0 : Int32)), (.int (0 : Int32)), (.int (0 : Int32)), (.int (0 : Int32)), (.int (0 : Int32))] (.int (0 : Int32)) := Arv.set Ar93 q93 S93 M93 Hs93 G93 (fits_nar_char _) W93 3 rfl (Nat.le_of_ble_eq_true rfl)
    have P95 : ∀ tt_, GG p e below T93 (mkF m 191 #[.val (.int pa), .val (.int pb), .val (.int pc_), .val (.int pd_), .val (.int n0_), .val (.int n1_), .val (.int l0_), .val (.int d0_), .val (.int d1_), .val (.int e0_), .val (.int e1_), .val (.int (0 : Int32)), .val (.ref b18), .val (.ref xs_37), .val (.ref b41), .val (.ref b60), .unset, .unset, .unset, .unset] [(.int (101 : Int32)), (.int (4 : Int32)), (.ref b80), (.ref b80)]) tt_ → Steps p.tables e below s0 tt_ := fun tt_ kk_ => P94 tt_ (by
      refine XS.dup X93.here hx rfl (hb hby at_187) rfl rfl ?_
      refine XS.iconst X93.here hx rfl (hb hby at_188) ?_
      refine XS.bipush X93.here hx rfl (hb hby at_189) ?_
      exact kk_)
    obtain ⟨cl96, Ar96, q96, S96, M96, Hs96, G96⟩ := V_b80
    obtain ⟨T96, h96, X96, e96, W96, st96⟩ := stC X93 hx hZ e93 Ar96 (j := (4 : Int32)) (inb_of S96 ⟨by decide, by decide⟩) (g := (mkF m 191 #[.val (.int pa), .val (.int pb), .val (.int pc_), .val (.int pd_), .val (.int n0_), .val (.int n1_), .val (.int l0_), .val (.int d0_), .val (.int d1_), .val (.int e0_), .val (.int e1_), .val (.int (0 : Int32)), .val (.ref b18), .val (.ref xs_37), .val (.ref b41), .val (.ref b60), .unset, .unset, .unset, .unset] [(.int (101 : Int32)), (.int (4 : Int32)), (.ref b80), (.ref b80)])) rfl rfl (hb hby at_191)
    have P97 : ∀ tt_, GG p e below T96 (mkF m 192 #[.val (.int pa), .val (.int pb), .val (.int pc_), .val (.int pd_), .val (.int n0_), .val (.int n1_), .val (.int l0_), .val (.int d0_), .val (.int d1_), .val (.int e0_), .val (.int e1_), .val (.int (0 : Int32)), .val (.ref b18), .val (.ref xs_37), .val (.ref b41), .val (.ref b60), .unset, .unset, .unset, .unset] [(.ref b80)]) tt_ → Steps p.tables e below s0 tt_ := fun tt_ kk_ => P95 tt_ (st96 _ kk_)
    have N96 := Fr.snoc X96 N93 (Nat.le_trans Z0 sz_b80)
    have K96 : Keep h0 h96 [] := K93.wr W96 (Or.inr sz_b80)
    have KB96 : Keep T75.heap h96 [] := KB93.wr W96 (Or.inr szB_b80)
    have sfw96 : Safe Z ELs s.vm h93 b80 := sf_b80
    replace sf_b80 : Safe Z ELs s.vm h96 b80 := Safe.wr W96 sfw96 CR.1 sf_b80
    replace CR : CHr Z ELs s.vm h0 s.vm h96 := CR.trans (CHr.wr W96 sfw96 CR.1)
    replace hk := Nat.le_trans hk (Keep.of_wr W96).1
    have V_b80 : Arv Z h96 b80 k80 .char (16 : Int32) [(.int (nar .char d0_)), (.int (nar .char d1_)), (.int (nar .char (32 : Int32))), (.int (nar .char (68 : Int32))), (.int (nar .char (101 : Int32))), (.int (0 : Int32)), (.int (0 : Int32)), (.int (0 : Int32)), (.int (0 : Int32)), (.int (0 : Int32)), (.int (0 : Int32)), (.int (0 : Int32)), (.int (0 : Int32)), (.int (0 : Int32)), (.int (0 : Int32)), (.int (0 : Int32))] (.int (0 : Int32)) := Arv.set Ar96 q96 S96 M96 Hs96 G96 (fits_nar_char _) W96 4 rfl (Nat.le_of_ble_eq_true rfl)
    have P98 : ∀ tt_, GG p e below T96 (mkF m 196 #[.val (.int pa), .val (.int pb), .val (.int pc_), .val (.int pd_), .val (.int n0_), .val (.int n1_), .val (.int l0_), .val (.int d0_), .val (.int d1_), .val (.int e0_), .val (.int e1_), .val (.int (0 : Int32)), .val (.ref b18), .val (.ref xs_37), .val (.ref b41), .val (.ref b60), .unset, .unset, .unset, .unset] [(.int (102 : Int32)), (.int (5 : Int32)), (.ref b80), (.ref b80)]) tt_ → Steps p.tables e below s0 tt_ := fun tt_ kk_ => P97 tt_ (by
      refine XS.dup X96.here hx rfl (hb hby at_192) rfl rfl ?_
      refine XS.iconst X96.here hx rfl (hb hby at_193) ?_
      refine XS.bipush X96.here hx rfl (hb hby at_194) ?_
      exact kk_)
    obtain ⟨cl99, Ar99, q99, S99, M99, Hs99, G99⟩ := V_b80
    obtain ⟨T99, h99, X99, e99, W99, st99⟩ := stC X96 hx hZ e96 Ar99 (j := (5 : Int32)) (inb_of S99 ⟨by decide, by decide⟩) (g := (mkF m 196 #[.val (.int pa), .val (.int pb), .val (.int pc_), .val (.int pd_), .val (.int n0_), .val (.int n1_), .val (.int l0_), .val (.int d0_), .val (.int d1_), .val (.int e0_), .val (.int e1_), .val (.int (0 : Int32)), .val (.ref b18), .val (.ref xs_37), .val (.ref b41), .val (.ref b60), .unset, .unset, .unset, .unset] [(.int (102 : Int32)), (.int (5 : Int32)), (.ref b80), (.ref b80)])) rfl rfl (hb hby at_196)
    have P100 : ∀ tt_, GG p e below T99 (mkF m 197 #[.val (.int pa), .val (.int pb), .val (.int pc_), .val (.int pd_), .val (.int n0_), .val (.int n1_), .val (.int l0_), .val (.int d0_), .val (.int d1_), .val (.int e0_), .val (.int e1_), .val (.int (0 : Int32)), .val (.ref b18), .val (.ref xs_37), .val (.ref b41), .val (.ref b60), .unset, .unset, .unset, .unset] [(.ref b80)]) tt_ → Steps p.tables e below s0 tt_ := fun tt_ kk_ => P98 tt_ (st99 _ kk_)
    have N99 := Fr.snoc X99 N96 (Nat.le_trans Z0 sz_b80)
    have K99 : Keep h0 h99 [] := K96.wr W99 (Or.inr sz_b80)
    have KB99 : Keep T75.heap h99 [] := KB96.wr W99 (Or.inr szB_b80)
    have sfw99 : Safe Z ELs s.vm h96 b80 := sf_b80
    replace sf_b80 : Safe Z ELs s.vm h99 b80 := Safe.wr W99 sfw99 CR.1 sf_b80
    replace CR : CHr Z ELs s.vm h0 s.vm h99 := CR.trans (CHr.wr W99 sfw99 CR.1)
    replace hk := Nat.le_trans hk (Keep.of_wr W99).1
    have V_b80 : Arv Z h99 b80 k80 .char (16 : Int32) [(.int (nar .char d0_)), (.int (nar .char d1_)), (.int (nar .char (32 : Int32))), (.int (nar .char (68 : Int32))), (.int (nar .char (101 : Int32))), (.int (nar .char (102 : Int32))), (.int (0 : Int32)), (.int (0 : Int32)), (.int (0 : Int32)), (.int (0 : Int32)), (.int (0 : Int32)), (.int (0 : Int32)), (.int (0 : Int32)), (.int (0 : Int32)), (.int (0 : Int32)), (.int (0 : Int32))] (.int (0 : Int32)) := Arv.set Ar99 q99 S99 M99 Hs99 G99 (fits_nar_char _) W99 5 rfl (Nat.le_of_ble_eq_true rfl)
    have P101 : ∀ tt_, GG p e below T99 (mkF m 202 #[.val (.int pa), .val (.int pb), .val (.int pc_), .val (.int pd_), .val (.int n0_), .val (.int n1_), .val (.int l0_), .val (.int d0_), .val (.int d1_), .val (.int e0_), .val (.int e1_), .val (.int (0 : Int32)), .val (.ref b18), .val (.ref xs_37), .val (.ref b41), .val (.ref b60), .unset, .unset, .unset, .unset] [(.int (97 : Int32)), (.int (6 : Int32)), (.ref b80), (.ref b80)]) tt_ → Steps p.tables e below s0 tt_ := fun tt_ kk_ => P100 tt_ (by
      refine XS.dup X99.here hx rfl (hb hby at_197) rfl rfl ?_
      refine XS.bipush X99.here hx rfl (hb hby at_198) ?_
      refine XS.bipush X99.here hx rfl (hb hby at_200) ?_
      exact kk_)
    obtain ⟨cl102, Ar102, q102, S102, M102, Hs102, G102⟩ := V_b80
    obtain ⟨T102, h102, X102, e102, W102, st102⟩ := stC X99 hx hZ e99 Ar102 (j := (6 : Int32)) (inb_of S102 ⟨by decide, by decide⟩) (g := (mkF m 202 #[.val (.int pa), .val (.int pb), .val (.int pc_), .val (.int pd_), .val (.int n0_), .val (.int n1_), .val (.int l0_), .val (.int d0_), .val (.int d1_), .val (.int e0_), .val (.int e1_), .val (.int (0 : Int32)), .val (.ref b18), .val (.ref xs_37), .val (.ref b41), .val (.ref b60), .unset, .unset, .unset, .unset] [(.int (97 : Int32)), (.int (6 : Int32)), (.ref b80), (.ref b80)])) rfl rfl (hb hby at_202)
    have P103 : ∀ tt_, GG p e below T102 (mkF m 203 #[.val (.int pa), .val (.int pb), .val (.int pc_), .val (.int pd_), .val (.int n0_), .val (.int n1_), .val (.int l0_), .val (.int d0_), .val (.int d1_), .val (.int e0_), .val (.int e1_), .val (.int (0 : Int32)), .val (.ref b18), .val (.ref xs_37), .val (.ref b41), .val (.ref b60), .unset, .unset, .unset, .unset] [(.ref b80)]) tt_ → Steps p.tables e below s0 tt_ := fun tt_ kk_ => P101 tt_ (st102 _ kk_)
    have N102 := Fr.snoc X102 N99 (Nat.le_trans Z0 sz_b80)
    have K102 : Keep h0 h102 [] := K99.wr W102 (Or.inr sz_b80)
    have KB102 : Keep T75.heap h102 [] := KB99.wr W102 (Or.inr szB_b80)
    have sfw102 : Safe Z ELs s.vm h99 b80 := sf_b80
    replace sf_b80 : Safe Z ELs s.vm h102 b80 := Safe.wr W102 sfw102 CR.1 sf_b80
    replace CR : CHr Z ELs s.vm h0 s.vm h102 := CR.trans (CHr.wr W102 sfw102 CR.1)
    replace hk := Nat.le_trans hk (Keep.of_wr W102).1
    have V_b80 : Arv Z h102 b80 k80 .char (16 : Int32) [(.int (nar .char d0_)), (.int (nar .char d1_)), (.int (nar .char (32 : Int32))), (.int (nar .char (68 : Int32))), (.int (nar .char (101 : Int32))), (.int (nar .char (102 : Int32))), (.int (nar .char (97 : Int32))), (.int (0 : Int32)), (.int (0 : Int32)), (.int (0 : Int32)), (.int (0 : Int32)), (.int (0 : Int32)), (.int (0 : Int32)), (.int (0 : Int32)), (.int (0 : Int32)), (.int (0 : Int32))] (.int (0 : Int32)) := Arv.set Ar102 q102 S102 M102 Hs102 G102 (fits_nar_char _) W102 6 rfl (Nat.le_of_ble_eq_true rfl)
    have P104 : ∀ tt_, GG p e below T102 (mkF m 208 #[.val (.int pa), .val (.int pb), .val (.int pc_), .val (.int pd_), .val (.int n0_), .val (.int n1_), .val (.int l0_), .val (.int d0_), .val (.int d1_), .val (.int e0_), .val (.int e1_), .val (.int (0 : Int32)), .val (.ref b18), .val (.ref xs_37), .val (.ref b41), .val (.ref b60), .unset, .unset, .unset, .unset] [(.int (117 : Int32)), (.int (7 : Int32)), (.ref b80), (.ref b80)]) tt_ → Steps p.tables e below s0 tt_ := fun tt_ kk_ => P103 tt_ (by
      refine XS.dup X102.here hx rfl (hb hby at_203) rfl rfl ?_
      refine XS.bipush X102.here hx rfl (hb hby at_204) ?_
      refine XS.bipush X102.here hx rfl (hb hby at_206) ?_
      exact kk_)
    obtain ⟨cl105, Ar105, q105, S105, M105, Hs105, G105⟩ := V_b80
    obtain ⟨T105, h105, X105, e105, W105, st105⟩ := stC X102 hx hZ e102 Ar105 (j := (7 : Int32)) (inb_of S105 ⟨by decide, by decide⟩) (g := (mkF m 208 #[.val (.int pa), .val (.int pb), .val (.int pc_), .val (.int pd_), .val (.int n0_), .val (.int n1_), .val (.int l0_), .val (.int d0_), .val (.int d1_), .val (.int e0_), .val (.int e1_), .val (.int (0 : Int32)), .val (.ref b18), .val (.ref xs_37), .val (.ref b41), .val (.ref b60), .unset, .unset, .unset, .unset] [(.int (117 : Int32)), (.int (7 : Int32)), (.ref b80), (.ref b80)])) rfl rfl (hb hby at_208)
    have P106 : ∀ tt_, GG p e below T105 (mkF m 209 #[.val (.int pa), .val (.int pb), .val (.int pc_), .val (.int pd_), .val (.int n0_), .val (.int n1_), .val (.int l0_), .val (.int d0_), .val (.int d1_), .val (.int e0_), .val (.int e1_), .val (.int (0 : Int32)), .val (.ref b18), .val (.ref xs_37), .val (.ref b41), .val (.ref b60), .unset, .unset, .unset, .unset] [(.ref b80)]) tt_ → Steps p.tables e below s0 tt_ := fun tt_ kk_ => P104 tt_ (st105 _ kk_)
    have N105 := Fr.snoc X105 N102 (Nat.le_trans Z0 sz_b80)
    have K105 : Keep h0 h105 [] := K102.wr W105 (Or.inr sz_b80)
    have KB105 : Keep T75.heap h105 [] := KB102.wr W105 (Or.inr szB_b80)
    have sfw105 : Safe Z ELs s.vm h102 b80 := sf_b80
    replace sf_b80 : Safe Z ELs s.vm h105 b80 := Safe.wr W105 sfw105 CR.1 sf_b80
    replace CR : CHr Z ELs s.vm h0 s.vm h105 := CR.trans (CHr.wr W105 sfw105 CR.1)
    replace hk := Nat.le_trans hk (Keep.of_wr W105).1
    have V_b80 : Arv Z h105 b80 k80 .char (16 : Int32) [(.int (nar .char d0_)), (.int (nar .char d1_)), (.int (nar .char (32 : Int32))), (.int (nar .char (68 : Int32))), (.int (nar .char (101 : Int32))), (.int (nar .char (102 : Int32))), (.int (nar .char (97 : Int32))), (.int (nar .char (117 : Int32))), (.int (0 : Int32)), (.int (0 : Int32)), (.int (0 : Int32)), (.int (0 : Int32)), (.int (0 : Int32)), (.int (0 : Int32)), (.int (0 : Int32)), (.int (0 : Int32))] (.int (0 : Int32)) := Arv.set Ar105 q105 S105 M105 Hs105 G105 (fits_nar_char _) W105 7 rfl (Nat.le_of_ble_eq_true rfl)
    have P107 : ∀ tt_, GG p e below T105 (mkF m 214 #[.val (.int pa), .val (.int pb), .val (.int pc_), .val (.int pd_), .val (.int n0_), .val (.int n1_), .val (.int l0_), .val (.int d0_), .val (.int d1_), .val (.int e0_), .val (.int e1_), .val (.int (0 : Int32)), .val (.ref b18), .val (.ref xs_37), .val (.ref b41), .val (.ref b60), .unset, .unset, .unset, .unset] [(.int (108 : Int32)), (.int (8 : Int32)), (.ref b80), (.ref b80)]) tt_ → Steps p.tables e below s0 tt_ := fun tt_ kk_ => P106 tt_ (by
      refine XS.dup X105.here hx rfl (hb hby at_209) rfl rfl ?_
      refine XS.bipush X105.here hx rfl (hb hby at_210) ?_
      refine XS.bipush X105.here hx rfl (hb hby at_212) ?_
      exact kk_)
    obtain ⟨cl108, Ar108, q108, S108, M108, Hs108, G108⟩ := V_b80
    obtain ⟨T108, h108, X108, e108, W108, st108⟩ := stC X105 hx hZ e105 Ar108 (j := (8 : Int32)) (inb_of S108 ⟨by decide, by decide⟩) (g := (mkF m 214 #[.val (.int pa), .val (.int pb), .val (.int pc_), .val (.int pd_), .val (.int n0_), .val (.int n1_), .val (.int l0_), .val (.int d0_), .val (.int d1_), .val (.int e0_), .val (.int e1_), .val (.int (0 : Int32)), .val (.ref b18), .val (.ref xs_37), .val (.ref b41), .val (.ref b60), .unset, .unset, .unset, .unset] [(.int (108 : Int32)), (.int (8 : Int32)), (.ref b80), (.ref b80)])) rfl rfl (hb hby at_214)
    have P109 : ∀ tt_, GG p e below T108 (mkF m 215 #[.val (.int pa), .val (.int pb), .val (.int pc_), .val (.int pd_), .val (.int n0_), .val (.int n1_), .val (.int l0_), .val (.int d0_), .val (.int d1_), .val (.int e0_), .val (.int e1_), .val (.int (0 : Int32)), .val (.ref b18), .val (.ref xs_37), .val (.ref b41), .val (.ref b60), .unset, .unset, .unset, .unset] [(.ref b80)]) tt_ → Steps p.tables e below s0 tt_ := fun tt_ kk_ => P107 tt_ (st108 _ kk_)
    have N108 := Fr.snoc X108 N105 (Nat.le_trans Z0 sz_b80)
    have K108 : Keep h0 h108 [] := K105.wr W108 (Or.inr sz_b80)
    have KB108 : Keep T75.heap h108 [] := KB105.wr W108 (Or.inr szB_b80)
    have sfw108 : Safe Z ELs s.vm h105 b80 := sf_b80
    replace sf_b80 : Safe Z ELs s.vm h108 b80 := Safe.wr W108 sfw108 CR.1 sf_b80
    replace CR : CHr Z ELs s.vm h0 s.vm h108 := CR.trans (CHr.wr W108 sfw108 CR.1)
    replace hk := Nat.le_trans hk (Keep.of_wr W108).1
    have V_b80 : Arv Z h108 b80 k80 .char (16 : Int32) [(.int (nar .char d0_)), (.int (nar .char d1_)), (.int (nar .char (32 : Int32))), (.int (nar .char (68 : Int32))), (.int (nar .char (101 : Int32))), (.int (nar .char (102 : Int32))), (.int (nar .char (97 : Int32))), (.int (nar .char (117 : Int32))), (.int (nar .char (108 : Int32))), (.int (0 : Int32)), (.int (0 : Int32)), (.int (0 : Int32)), (.int (0 : Int32)), (.int (0 : Int32)), (.int (0 : Int32)), (.int (0 : Int32))] (.int (0 : Int32)) := Arv.set Ar108 q108 S108 M108 Hs108 G108 (fits_nar_char _) W108 8 rfl (Nat.le_of_ble_eq_true rfl)
    have P110 : ∀ tt_, GG p e below T108 (mkF m 220 #[.val (.int pa), .val (.int pb), .val (.int pc_), .val (.int pd_), .val (.int n0_), .val (.int n1_), .val (.int l0_), .val (.int d0_), .val (.int d1_), .val (.int e0_), .val (.int e1_), .val (.int (0 : Int32)), .val (.ref b18), .val (.ref xs_37), .val (.ref b41), .val (.ref b60), .unset, .unset, .unset, .unset] [(.int (116 : Int32)), (.int (9 : Int32)), (.ref b80), (.ref b80)]) tt_ → Steps p.tables e below s0 tt_ := fun tt_ kk_ => P109 tt_ (by
      refine XS.dup X108.here hx rfl (hb hby at_215) rfl rfl ?_
      refine XS.bipush X108.here hx rfl (hb hby at_216) ?_
      refine XS.bipush X108.here hx rfl (hb hby at_218) ?_
      exact kk_)
    obtain ⟨cl111, Ar111, q111, S111, M111, Hs111, G111⟩ := V_b80
    obtain ⟨T111, h111, X111, e111, W111, st111⟩ := stC X108 hx hZ e108 Ar111 (j := (9 : Int32)) (inb_of S111 ⟨by decide, by decide⟩) (g := (mkF m 220 #[.val (.int pa), .val (.int pb), .val (.int pc_), .val (.int pd_), .val (.int n0_), .val (.int n1_), .val (.int l0_), .val (.int d0_), .val (.int d1_), .val (.int e0_), .val (.int e1_), .val (.int (0 : Int32)), .val (.ref b18), .val (.ref xs_37), .val (.ref b41), .val (.ref b60), .unset, .unset, .unset, .unset] [(.int (116 : Int32)), (.int (9 : Int32)), (.ref b80), (.ref b80)])) rfl rfl (hb hby at_220)
    have P112 : ∀ tt_, GG p e below T111 (mkF m 221 #[.val (.int pa), .val (.int pb), .val (.int pc_), .val (.int pd_), .val (.int n0_), .val (.int n1_), .val (.int l0_), .val (.int d0_), .val (.int d1_), .val (.int e0_), .val (.int e1_), .val (.int (0 : Int32)), .val (.ref b18), .val (.ref xs_37), .val (.ref b41), .val (.ref b60), .unset, .unset, .unset, .unset] [(.ref b80)]) tt_ → Steps p.tables e below s0 tt_ := fun tt_ kk_ => P110 tt_ (st111 _ kk_)
    have N111 := Fr.snoc X111 N108 (Nat.le_trans Z0 sz_b80)
    have K111 : Keep h0 h111 [] := K108.wr W111 (Or.inr sz_b80)
    have KB111 : Keep T75.heap h111 [] := KB108.wr W111 (Or.inr szB_b80)
    have sfw111 : Safe Z ELs s.vm h108 b80 := sf_b80
    replace sf_b80 : Safe Z ELs s.vm h111 b80 := Safe.wr W111 sfw111 CR.1 sf_b80
    replace CR : CHr Z ELs s.vm h0 s.vm h111 := CR.trans (CHr.wr W111 sfw111 CR.1)
    replace hk := Nat.le_trans hk (Keep.of_wr W111).1
    have V_b80 : Arv Z h111 b80 k80 .char (16 : Int32) [(.int (nar .char d0_)), (.int (nar .char d1_)), (.int (nar .char (32 : Int32))), (.int (nar .char (68 : Int32))), (.int (nar .char (101 : Int32))), (.int (nar .char (102 : Int32))), (.int (nar .char (97 : Int32))), (.int (nar .char (117 : Int32))), (.int (nar .char (108 : Int32))), (.int (nar .char (116 : Int32))), (.int (0 : Int32)), (.int (0 : Int32)), (.int (0 : Int32)), (.int (0 : Int32)), (.int (0 : Int32)), (.int (0 : Int32))] (.int (0 : Int32)) := Arv.set Ar111 q111 S111 M111 Hs111 G111 (fits_nar_char _) W111 9 rfl (Nat.le_of_ble_eq_true rfl)
    have P113 : ∀ tt_, GG p e below T111 (mkF m 226 #[.val (.int pa), .val (.int pb), .val (.int pc_), .val (.int pd_), .val (.int n0_), .val (.int n1_), .val (.int l0_), .val (.int d0_), .val (.int d1_), .val (.int e0_), .val (.int e1_), .val (.int (0 : Int32)), .val (.ref b18), .val (.ref xs_37), .val (.ref b41), .val (.ref b60), .unset, .unset, .unset, .unset] [(.int (58 : Int32)), (.int (10 : Int32)), (.ref b80), (.ref b80)]) tt_ → Steps p.tables e below s0 tt_ := fun tt_ kk_ => P112 tt_ (by
      refine XS.dup X111.here hx rfl (hb hby at_221) rfl rfl ?_
      refine XS.bipush X111.here hx rfl (hb hby at_222) ?_
      refine XS.bipush X111.here hx rfl (hb hby at_224) ?_
      exact kk_)
    obtain ⟨cl114, Ar114, q114, S114, M114, Hs114, G114⟩ := V_b80
    obtain ⟨T114, h114, X114, e114, W114, st114⟩ := stC X111 hx hZ e111 Ar114 (j := (10 : Int32)) (inb_of S114 ⟨by decide, by decide⟩) (g := (mkF m 226 #[.val (.int pa), .val (.int pb), .val (.int pc_), .val (.int pd_), .val (.int n0_), .val (.int n1_), .val (.int l0_), .val (.int d0_), .val (.int d1_), .val (.int e0_), .val (.int e1_), .val (.int (0 : Int32)), .val (.ref b18), .val (.ref xs_37), .val (.ref b41), .val (.ref b60), .unset, .unset, .unset, .unset] [(.int (58 : Int32)), (.int (10 : Int32)), (.ref b80), (.ref b80)])) rfl rfl (hb hby at_226)
    have P115 : ∀ tt_, GG p e below T114 (mkF m 227 #[.val (.int pa), .val (.int pb), .val (.int pc_), .val (.int pd_), .val (.int n0_), .val (.int n1_), .val (.int l0_), .val (.int d0_), .val (.int d1_), .val (.int e0_), .val (.int e1_), .val (.int (0 : Int32)), .val (.ref b18), .val (.ref xs_37), .val (.ref b41), .val (.ref b60), .unset, .unset, .unset, .unset] [(.ref b80)]) tt_ → Steps p.tables e below s0 tt_ := fun tt_ kk_ => P113 tt_ (st114 _ kk_)
    have N114 := Fr.snoc X114 N111 (Nat.le_trans Z0 sz_b80)
    have K114 : Keep h0 h114 [] := K111.wr W114 (Or.inr sz_b80)
    have KB114 : Keep T75.heap h114 [] := KB111.wr W114 (Or.inr szB_b80)
    have sfw114 : Safe Z ELs s.vm h111 b80 := sf_b80
    replace sf_b80 : Safe Z ELs s.vm h114 b80 := Safe.wr W114 sfw114 CR.1 sf_b80
    replace CR : CHr Z ELs s.vm h0 s.vm h114 := CR.trans (CHr.wr W114 sfw114 CR.1)
    replace hk := Nat.le_trans hk (Keep.of_wr W114).1
    have V_b80 : Arv Z h114 b80 k80 .char (16 : Int32) [(.int (nar .char d0_)), (.int (nar .char d1_)), (.int (nar .char (32 : Int32))), (.int (nar .char (68 : Int32))), (.int (nar .char (101 : Int32))), (.int (nar .char (102 : Int32))), (.int (nar .char (97 : Int32))), (.int (nar .char (117 : Int32))), (.int (nar .char (108 : Int32))), (.int (nar .char (116 : Int32))), (.int (nar .char (58 : Int32))), (.int (0 : Int32)), (.int (0 : Int32)), (.int (0 : Int32)), (.int (0 : Int32)), (.int (0 : Int32))] (.int (0 : Int32)) := Arv.set Ar114 q114 S114 M114 Hs114 G114 (fits_nar_char _) W114 10 rfl (Nat.le_of_ble_eq_true rfl)
    have P116 : ∀ tt_, GG p e below T114 (mkF m 232 #[.val (.int pa), .val (.int pb), .val (.int pc_), .val (.int pd_), .val (.int n0_), .val (.int n1_), .val (.int l0_), .val (.int d0_), .val (.int d1_), .val (.int e0_), .val (.int e1_), .val (.int (0 : Int32)), .val (.ref b18), .val (.ref xs_37), .val (.ref b41), .val (.ref b60), .unset, .unset, .unset, .unset] [(.int (32 : Int32)), (.int (11 : Int32)), (.ref b80), (.ref b80)]) tt_ → Steps p.tables e below s0 tt_ := fun tt_ kk_ => P115 tt_ (by
      refine XS.dup X114.here hx rfl (hb hby at_227) rfl rfl ?_
      refine XS.bipush X114.here hx rfl (hb hby at_228) ?_
      refine XS.bipush X114.here hx rfl (hb hby at_230) ?_
      exact kk_)
    obtain ⟨cl117, Ar117, q117, S117, M117, Hs117, G117⟩ := V_b80
    obtain ⟨T117, h117, X117, e117, W117, st117⟩ := stC X114 hx hZ e114 Ar117 (j := (11 : Int32)) (inb_of S117 ⟨by decide, by decide⟩) (g := (mkF m 232 #[.val (.int pa), .val (.int pb), .val (.int pc_), .val (.int pd_), .val (.int n0_), .val (.int n1_), .val (.int l0_), .val (.int d0_), .val (.int d1_), .val (.int e0_), .val (.int e1_), .val (.int (0 : Int32)), .val (.ref b18), .val (.ref xs_37), .val (.ref b41), .val (.ref b60), .unset, .unset, .unset, .unset] [(.int (32 : Int32)), (.int (11 : Int32)), (.ref b80), (.ref b80)])) rfl rfl (hb hby at_232)
    have P118 : ∀ tt_, GG p e below T117 (mkF m 233 #[.val (.int pa), .val (.int pb), .val (.int pc_), .val (.int pd_), .val (.int n0_), .val (.int n1_), .val (.int l0_), .val (.int d0_), .val (.int d1_), .val (.int e0_), .val (.int e1_), .val (.int (0 : Int32)), .val (.ref b18), .val (.ref xs_37), .val (.ref b41), .val (.ref b60), .unset, .unset, .unset, .unset] [(.ref b80)]) tt_ → Steps p.tables e below s0 tt_ := fun tt_ kk_ => P116 tt_ (st117 _ kk_)
    have N117 := Fr.snoc X117 N114 (Nat.le_trans Z0 sz_b80)
    have K117 : Keep h0 h117 [] := K114.wr W117 (Or.inr sz_b80)
    have KB117 : Keep T75.heap h117 [] := KB114.wr W117 (Or.inr szB_b80)
    have sfw117 : Safe Z ELs s.vm h114 b80 := sf_b80
    replace sf_b80 : Safe Z ELs s.vm h117 b80 := Safe.wr W117 sfw117 CR.1 sf_b80
    replace CR : CHr Z ELs s.vm h0 s.vm h117 := CR.trans (CHr.wr W117 sfw117 CR.1)
    replace hk := Nat.le_trans hk (Keep.of_wr W117).1
    have V_b80 : Arv Z h117 b80 k80 .char (16 : Int32) [(.int (nar .char d0_)), (.int (nar .char d1_)), (.int (nar .char (32 : Int32))), (.int (nar .char (68 : Int32))), (.int (nar .char (101 : Int32))), (.int (nar .char (102 : Int32))), (.int (nar .char (97 : Int32))), (.int (nar .char (117 : Int32))), (.int (nar .char (108 : Int32))), (.int (nar .char (116 : Int32))), (.int (nar .char (58 : Int32))), (.int (nar .char (32 : Int32))), (.int (0 : Int32)), (.int (0 : Int32)), (.int (0 : Int32)), (.int (0 : Int32))] (.int (0 : Int32)) := Arv.set Ar117 q117 S117 M117 Hs117 G117 (fits_nar_char _) W117 11 rfl (Nat.le_of_ble_eq_true rfl)
    have P119 : ∀ tt_, GG p e below T117 (mkF m 238 #[.val (.int pa), .val (.int pb), .val (.int pc_), .val (.int pd_), .val (.int n0_), .val (.int n1_), .val (.int l0_), .val (.int d0_), .val (.int d1_), .val (.int e0_), .val (.int e1_), .val (.int (0 : Int32)), .val (.ref b18), .val (.ref xs_37), .val (.ref b41), .val (.ref b60), .unset, .unset, .unset, .unset] [(.int (36 : Int32)), (.int (12 : Int32)), (.ref b80), (.ref b80)]) tt_ → Steps p.tables e below s0 tt_ := fun tt_ kk_ => P118 tt_ (by
      refine XS.dup X117.here hx rfl (hb hby at_233) rfl rfl ?_
      refine XS.bipush X117.here hx rfl (hb hby at_234) ?_
      refine XS.bipush X117.here hx rfl (hb hby at_236) ?_
      exact kk_)
    obtain ⟨cl120, Ar120, q120, S120, M120, Hs120, G120⟩ := V_b80
    obtain ⟨T120, h120, X120, e120, W120, st120⟩ := stC X117 hx hZ e117 Ar120 (j := (12 : Int32)) (inb_of S120 ⟨by decide, by decide⟩) (g := (mkF m 238 #[.val (.int pa), .val (.int pb), .val (.int pc_), .val (.int pd_), .val (.int n0_), .val (.int n1_), .val (.int l0_), .val (.int d0_), .val (.int d1_), .val (.int e0_), .val (.int e1_), .val (.int (0 : Int32)), .val (.ref b18), .val (.ref xs_37), .val (.ref b41), .val (.ref b60), .unset, .unset, .unset, .unset] [(.int (36 : Int32)), (.int (12 : Int32)), (.ref b80), (.ref b80)])) rfl rfl (hb hby at_238)
    have P121 : ∀ tt_, GG p e below T120 (mkF m 239 #[.val (.int pa), .val (.int pb), .val (.int pc_), .val (.int pd_), .val (.int n0_), .val (.int n1_), .val (.int l0_), .val (.int d0_), .val (.int d1_), .val (.int e0_), .val (.int e1_), .val (.int (0 : Int32)), .val (.ref b18), .val (.ref xs_37), .val (.ref b41), .val (.ref b60), .unset, .unset, .unset, .unset] [(.ref b80)]) tt_ → Steps p.tables e below s0 tt_ := fun tt_ kk_ => P119 tt_ (st120 _ kk_)
    have N120 := Fr.snoc X120 N117 (Nat.le_trans Z0 sz_b80)
    have K120 : Keep h0 h120 [] := K117.wr W120 (Or.inr sz_b80)
    have KB120 : Keep T75.heap h120 [] := KB117.wr W120 (Or.inr szB_b80)
    have sfw120 : Safe Z ELs s.vm h117 b80 := sf_b80
    replace sf_b80 : Safe Z ELs s.vm h120 b80 := Safe.wr W120 sfw120 CR.1 sf_b80
    replace CR : CHr Z ELs s.vm h0 s.vm h120 := CR.trans (CHr.wr W120 sfw120 CR.1)
    replace hk := Nat.le_trans hk (Keep.of_wr W120).1
    have V_b80 : Arv Z h120 b80 k80 .char (16 : Int32) [(.int (nar .char d0_)), (.int (nar .char d1_)), (.int (nar .char (32 : Int32))), (.int (nar .char (68 : Int32))), (.int (nar .char (101 : Int32))), (.int (nar .char (102 : Int32))), (.int (nar .char (97 : Int32))), (.int (nar .char (117 : Int32))), (.int (nar .char (108 : Int32))), (.int (nar .char (116 : Int32))), (.int (nar .char (58 : Int32))), (.int (nar .char (32 : Int32))), (.int (nar .char (36 : Int32))), (.int (0 : Int32)), (.int (0 : Int32)), (.int (0 : Int32))] (.int (0 : Int32)) := Arv.set Ar120 q120 S120 M120 Hs120 G120 (fits_nar_char _) W120 12 rfl (Nat.le_of_ble_eq_true rfl)
    have P122 : ∀ tt_, GG p e below T120 (mkF m 244 #[.val (.int pa), .val (.int pb), .val (.int pc_), .val (.int pd_), .val (.int n0_), .val (.int n1_), .val (.int l0_), .val (.int d0_), .val (.int d1_), .val (.int e0_), .val (.int e1_), .val (.int (0 : Int32)), .val (.ref b18), .val (.ref xs_37), .val (.ref b41), .val (.ref b60), .unset, .unset, .unset, .unset] [(.int e0_), (.int (13 : Int32)), (.ref b80), (.ref b80)]) tt_ → Steps p.tables e below s0 tt_ := fun tt_ kk_ => P121 tt_ (by
      refine XS.dup X120.here hx rfl (hb hby at_239) rfl rfl ?_
      refine XS.bipush X120.here hx rfl (hb hby at_240) ?_
      refine XS.iload X120.here hx rfl (hb hby at_242) rfl ?_
      exact kk_)
    obtain ⟨cl123, Ar123, q123, S123, M123, Hs123, G123⟩ := V_b80
    obtain ⟨T123, h123, X123, e123, W123, st123⟩ := stC X120 hx hZ e120 Ar123 (j := (13 : Int32)) (inb_of S123 ⟨by decide, by decide⟩) (g := (mkF m 244 #[.val (.int pa), .val (.int pb), .val (.int pc_), .val (.int pd_), .val (.int n0_), .val (.int n1_), .val (.int l0_), .val (.int d0_), .val (.int d1_), .val (.int e0_), .val (.int e1_), .val (.int (0 : Int32)), .val (.ref b18), .val (.ref xs_37), .val (.ref b41), .val (.ref b60), .unset, .unset, .unset, .unset] [(.int e0_), (.int (13 : Int32)), (.ref b80), (.ref b80)])) rfl rfl (hb hby at_244)
    have P124 : ∀ tt_, GG p e below T123 (mkF m 245 #[.val (.int pa), .val (.int pb), .val (.int pc_), .val (.int pd_), .val (.int n0_), .val (.int n1_), .val (.int l0_), .val (.int d0_), .val (.int d1_), .val (.int e0_), .val (.int e1_), .val (.int (0 : Int32)), .val (.ref b18), .val (.ref xs_37), .val (.ref b41), .val (.ref b60), .unset, .unset, .unset, .unset] [(.ref b80)]) tt_ → Steps p.tables e below s0 tt_ := fun tt_ kk_ => P122 tt_ (st123 _ kk_)
    have N123 := Fr.snoc X123 N120 (Nat.le_trans Z0 sz_b80)
    have K123 : Keep h0 h123 [] := K120.wr W123 (Or.inr sz_b80)
    have KB123 : Keep T75.heap h123 [] := KB120.wr W123 (Or.inr szB_b80)
    have sfw123 : Safe Z ELs s.vm h120 b80 := sf_b80
    replace sf_b80 : Safe Z ELs s.vm h123 b80 := Safe.wr W123 sfw123 CR.1 sf_b80
    replace CR : CHr Z ELs s.vm h0 s.vm h123 := CR.trans (CHr.wr W123 sfw123 CR.1)
    replace hk := Nat.le_trans hk (Keep.of_wr W123).1
    have V_b80 : Arv Z h123 b80 k80 .char (16 : Int32) [(.int (nar .char d0_)), (.int (nar .char d1_)), (.int (nar .char (32 : Int32))), (.int (nar .char (68 : Int32))), (.int (nar .char (101 : Int32))), (.int (nar .char (102 : Int32))), (.int (nar .char (97 : Int32))), (.int (nar .char (117 : Int32))), (.int (nar .char (108 : Int32))), (.int (nar .char (116 : Int32))), (.int (nar .char (58 : Int32))), (.int (nar .char (32 : Int32))), (.int (nar .char (36 : Int32))), (.int (nar .char e0_)), (.int (0 : Int32)), (.int (0 : Int32))] (.int (0 : Int32)) := Arv.set Ar123 q123 S123 M123 Hs123 G123 (fits_nar_char _) W123 13 rfl (Nat.le_of_ble_eq_true rfl)
    have P125 : ∀ tt_, GG p e below T123 (mkF m 250 #[.val (.int pa), .val (.int pb), .val (.int pc_), .val (.int pd_), .val (.int n0_), .val (.int n1_), .val (.int l0_), .val (.int d0_), .val (.int d1_), .val (.int e0_), .val (.int e1_), .val (.int (0 : Int32)), .val (.ref b18), .val (.ref xs_37), .val (.ref b41), .val (.ref b60), .unset, .unset, .unset, .unset] [(.int e1_), (.int (14 : Int32)), (.ref b80), (.ref b80)]) tt_ → Steps p.tables e below s0 tt_ := fun tt_ kk_ => P124 tt_ (by
      refine XS.dup X123.here hx rfl (hb hby at_245) rfl rfl ?_
      refine XS.bipush X123.here hx rfl (hb hby at_246) ?_
      refine XS.iload X123.here hx rfl (hb hby at_248) rfl ?_
      exact kk_)
    obtain ⟨cl126, Ar126, q126, S126, M126, Hs126, G126⟩ := V_b80
    obtain ⟨T126, h126, X126, e126, W126, st126⟩ := stC X123 hx hZ e123 Ar126 (j := (14 : Int32)) (inb_of S126 ⟨by decide, by decide⟩) (g := (mkF m 250 #[.val (.int pa), .val (.int pb), .val (.int pc_), .val (.int pd_), .val (.int n0_), .val (.int n1_), .val (.int l0_), .val (.int d0_), .val (.int d1_), .val (.int e0_), .val (.int e1_), .val (.int (0 : Int32)), .val (.ref b18), .val (.ref xs_37), .val (.ref b41), .val (.ref b60), .unset, .unset, .unset, .unset] [(.int e1_), (.int (14 : Int32)), (.ref b80), (.ref b80)])) rfl rfl (hb hby at_250)
    have P127 : ∀ tt_, GG p e below T126 (mkF m 251 #[.val (.int pa), .val (.int pb), .val (.int pc_), .val (.int pd_), .val (.int n0_), .val (.int n1_), .val (.int l0_), .val (.int d0_), .val (.int d1_), .val (.int e0_), .val (.int e1_), .val (.int (0 : Int32)), .val (.ref b18), .val (.ref xs_37), .val (.ref b41), .val (.ref b60), .unset, .unset, .unset, .unset] [(.ref b80)]) tt_ → Steps p.tables e below s0 tt_ := fun tt_ kk_ => P125 tt_ (st126 _ kk_)
    have N126 := Fr.snoc X126 N123 (Nat.le_trans Z0 sz_b80)
    have K126 : Keep h0 h126 [] := K123.wr W126 (Or.inr sz_b80)
    have KB126 : Keep T75.heap h126 [] := KB123.wr W126 (Or.inr szB_b80)
    have sfw126 : Safe Z ELs s.vm h123 b80 := sf_b80
    replace sf_b80 : Safe Z ELs s.vm h126 b80 := Safe.wr W126 sfw126 CR.1 sf_b80
    replace CR : CHr Z ELs s.vm h0 s.vm h126 := CR.trans (CHr.wr W126 sfw126 CR.1)
    replace hk := Nat.le_trans hk (Keep.of_wr W126).1
    have V_b80 : Arv Z h126 b80 k80 .char (16 : Int32) [(.int (nar .char d0_)), (.int (nar .char d1_)), (.int (nar .char (32 : Int32))), (.int (nar .char (68 : Int32))), (.int (nar .char (101 : Int32))), (.int (nar .char (102 : Int32))), (.int (nar .char (97 : Int32))), (.int (nar .char (117 : Int32))), (.int (nar .char (108 : Int32))), (.int (nar .char (116 : Int32))), (.int (nar .char (58 : Int32))), (.int (nar .char (32 : Int32))), (.int (nar .char (36 : Int32))), (.int (nar .char e0_)), (.int (nar .char e1_)), (.int (0 : Int32))] (.int (0 : Int32)) := Arv.set Ar126 q126 S126 M126 Hs126 G126 (fits_nar_char _) W126 14 rfl (Nat.le_of_ble_eq_true rfl)
    have P128 : ∀ tt_, GG p e below T126 (mkF m 256 #[.val (.int pa), .val (.int pb), .val (.int pc_), .val (.int pd_), .val (.int n0_), .val (.int n1_), .val (.int l0_), .val (.int d0_), .val (.int d1_), .val (.int e0_), .val (.int e1_), .val (.int (0 : Int32)), .val (.ref b18), .val (.ref xs_37), .val (.ref b41), .val (.ref b60), .unset, .unset, .unset, .unset] [(.int (46 : Int32)), (.int (15 : Int32)), (.ref b80), (.ref b80)]) tt_ → Steps p.tables e below s0 tt_ := fun tt_ kk_ => P127 tt_ (by
      refine XS.dup X126.here hx rfl (hb hby at_251) rfl rfl ?_
      refine XS.bipush X126.here hx rfl (hb hby at_252) ?_
      refine XS.bipush X126.here hx rfl (hb hby at_254) ?_
      exact kk_)
    obtain ⟨cl129, Ar129, q129, S129, M129, Hs129, G129⟩ := V_b80
    obtain ⟨T129, h129, X129, e129, W129, st129⟩ := stC X126 hx hZ e126 Ar129 (j := (15 : Int32)) (inb_of S129 ⟨by decide, by decide⟩) (g := (mkF m 256 #[.val (.int pa), .val (.int pb), .val (.int pc_), .val (.int pd_), .val (.int n0_), .val (.int n1_), .val (.int l0_), .val (.int d0_), .val (.int d1_), .val (.int e0_), .val (.int e1_), .val (.int (0 : Int32)), .val (.ref b18), .val (.ref xs_37), .val (.ref b41), .val (.ref b60), .unset, .unset, .unset, .unset] [(.int (46 : Int32)), (.int (15 : Int32)), (.ref b80), (.ref b80)])) rfl rfl (hb hby at_256)
    have P130 : ∀ tt_, GG p e below T129 (mkF m 257 #[.val (.int pa), .val (.int pb), .val (.int pc_), .val (.int pd_), .val (.int n0_), .val (.int n1_), .val (.int l0_), .val (.int d0_), .val (.int d1_), .val (.int e0_), .val (.int e1_), .val (.int (0 : Int32)), .val (.ref b18), .val (.ref xs_37), .val (.ref b41), .val (.ref b60), .unset, .unset, .unset, .unset] [(.ref b80)]) tt_ → Steps p.tables e below s0 tt_ := fun tt_ kk_ => P128 tt_ (st129 _ kk_)
    have N129 := Fr.snoc X129 N126 (Nat.le_trans Z0 sz_b80)
    have K129 : Keep h0 h129 [] := K126.wr W129 (Or.inr sz_b80)
    have KB129 : Keep T75.heap h129 [] := KB126.wr W129 (Or.inr szB_b80)
    have sfw129 : Safe Z ELs s.vm h126 b80 := sf_b80
    replace sf_b80 : Safe Z ELs s.vm h129 b80 := Safe.wr W129 sfw129 CR.1 sf_b80
    replace CR : CHr Z ELs s.vm h0 s.vm h129 := CR.trans (CHr.wr W129 sfw129 CR.1)
    replace hk := Nat.le_trans hk (Keep.of_wr W129).1
    have V_b80 : Arv Z h129 b80 k80 .char (16 : Int32) [(.int (nar .char d0_)), (.int (nar .char d1_)), (.int (nar .char (32 : Int32))), (.int (nar .char (68 : Int32))), (.int (nar .char (101 : Int32))), (.int (nar .char (102 : Int32))), (.int (nar .char (97 : Int32))), (.int (nar .char (117 : Int32))), (.int (nar .char (108 : Int32))), (.int (nar .char (116 : Int32))), (.int (nar .char (58 : Int32))), (.int (nar .char (32 : Int32))), (.int (nar .char (36 : Int32))), (.int (nar .char e0_)), (.int (nar .char e1_)), (.int (nar .char (46 : Int32)))] (.int (0 : Int32)) := Arv.set Ar129 q129 S129 M129 Hs129 G129 (fits_nar_char _) W129 15 rfl (Nat.le_of_ble_eq_true rfl)
    have P131 : ∀ tt_, GG p e below T129 (mkF m 259 #[.val (.int pa), .val (.int pb), .val (.int pc_), .val (.int pd_), .val (.int n0_), .val (.int n1_), .val (.int l0_), .val (.int d0_), .val (.int d1_), .val (.int e0_), .val (.int e1_), .val (.int (0 : Int32)), .val (.ref b18), .val (.ref xs_37), .val (.ref b41), .val (.ref b60), .val (.ref b80), .unset, .unset, .unset] []) tt_ → Steps p.tables e below s0 tt_ := fun tt_ kk_ => P130 tt_ (by
      refine XS.astore X129.here hx rfl (hb hby at_257) rfl rfl (l' := #[.val (.int pa), .val (.int pb), .val (.int pc_), .val (.int pd_), .val (.int n0_), .val (.int n1_), .val (.int l0_), .val (.int d0_), .val (.int d1_), .val (.int e0_), .val (.int e1_), .val (.int (0 : Int32)), .val (.ref b18), .val (.ref xs_37), .val (.ref b41), .val (.ref b60), .val (.ref b80), .unset, .unset, .unset]) rfl ?_
      exact kk_)
    replace sf_b18 : Safe Z ELs s.vm h129 b18 := Safe.keep KB129 sf0 CRb79.1 sf_b18
    replace sf_b23 : Safe Z ELs s.vm h129 b23 := Safe.keep KB129 sf0 CRb79.1 sf_b23
    replace sf_t_33 : Safe Z ELs s.vm h129 t_33 := Safe.keep KB129 sf0 CRb79.1 sf_t_33
    replace sf_xs_37 : Safe Z ELs s.vm h129 xs_37 := Safe.keep KB129 sf0 CRb79.1 sf_xs_37
    replace sf_t_37 : Safe Z ELs s.vm h129 t_37 := Safe.keep KB129 sf0 CRb79.1 sf_t_37
    replace sf_b41 : Safe Z ELs s.vm h129 b41 := Safe.keep KB129 sf0 CRb79.1 sf_b41
    replace sf_b46 : Safe Z ELs s.vm h129 b46 := Safe.keep KB129 sf0 CRb79.1 sf_b46
    replace sf_t_56 : Safe Z ELs s.vm h129 t_56 := Safe.keep KB129 sf0 CRb79.1 sf_t_56
    replace sf_b60 : Safe Z ELs s.vm h129 b60 := Safe.keep KB129 sf0 CRb79.1 sf_b60
    replace sf_b65 : Safe Z ELs s.vm h129 b65 := Safe.keep KB129 sf0 CRb79.1 sf_b65
    replace sf_t_75 : Safe Z ELs s.vm h129 t_75 := Safe.keep KB129 sf0 CRb79.1 sf_t_75
    replace OL : Old Z n0 h129 := OL.keep KB129 all0
    replace E_b18 : Exa Z h129 b18 "java/lang/String" := E_b18.keep KB129
    replace V_b23 : Arv Z h129 b23 k23 .char (2 : Int32) (([n0_, n1_] : List Int32).map Value.int) (.int (0 : Int32)) := V_b23.keep KB129 nin0
    replace F_coder_b18 : Fld Z h129 b18 "java/lang/String" "coder" "B" (.int (0 : Int32)) := F_coder_b18.keep KB129 nin0
    replace F_value_b18 : Fld Z h129 b18 "java/lang/String" "value" "[B" (.ref t_33) := F_value_b18.keep KB129 nin0
    replace V_t_33 : Arv Z h129 t_33 kb_33 .byte (2 : Int32) (((([n0_, n1_] : List Int32)).map (fun c => c.toInt8.toInt32)).map Value.int) (.int (0 : Int32)) := V_t_33.keep KB129 nin0
    replace E_xs_37 : Exa Z h129 xs_37 "java/lang/String" := E_xs_37.keep KB129
    replace F_value_xs_37 : Fld Z h129 xs_37 "java/lang/String" "value" "[B" (.ref t_37) := F_value_xs_37.keep KB129 nin0
    replace F_coder_xs_37 : Fld Z h129 xs_37 "java/lang/String" "coder" "B" (.int (0 : Int32)) := F_coder_xs_37.keep KB129 nin0
    replace V_t_37 : Arv Z h129 t_37 kb_37 .byte (1 : Int32) [(.int (nar .byte (l0_.toInt8.toInt32)))] (.int (0 : Int32)) := V_t_37.keep KB129 nin0
    replace E_b41 : Exa Z h129 b41 "java/lang/String" := E_b41.keep KB129
    replace V_b46 : Arv Z h129 b46 k46 .char (2 : Int32) (([d0_, d1_] : List Int32).map Value.int) (.int (0 : Int32)) := V_b46.keep KB129 nin0
    replace F_coder_b41 : Fld Z h129 b41 "java/lang/String" "coder" "B" (.int (0 : Int32)) := F_coder_b41.keep KB129 nin0
    replace F_value_b41 : Fld Z h129 b41 "java/lang/String" "value" "[B" (.ref t_56) := F_value_b41.keep KB129 nin0
    replace V_t_56 : Arv Z h129 t_56 kb_56 .byte (2 : Int32) (((([d0_, d1_] : List Int32)).map (fun c => c.toInt8.toInt32)).map Value.int) (.int (0 : Int32)) := V_t_56.keep KB129 nin0
    replace E_b60 : Exa Z h129 b60 "java/lang/String" := E_b60.keep KB129
    replace V_b65 : Arv Z h129 b65 k65 .char (2 : Int32) (([e0_, e1_] : List Int32).map Value.int) (.int (0 : Int32)) := V_b65.keep KB129 nin0
    replace F_coder_b60 : Fld Z h129 b60 "java/lang/String" "coder" "B" (.int (0 : Int32)) := F_coder_b60.keep KB129 nin0
    replace F_value_b60 : Fld Z h129 b60 "java/lang/String" "value" "[B" (.ref t_75) := F_value_b60.keep KB129 nin0
    replace V_t_75 : Arv Z h129 t_75 kb_75 .byte (2 : Int32) (((([e0_, e1_] : List Int32)).map (fun c => c.toInt8.toInt32)).map Value.int) (.int (0 : Int32)) := V_t_75.keep KB129 nin0
    obtain ⟨T132, h132, X132, e132, E132, A132, D132, -, st132⟩ := newO X129 hx hZ hown (ww hw 0 rfl) (ww hw 1 rfl) (ww hw 2 rfl) e129 (g := (mkF m 259 #[.val (.int pa), .val (.int pb), .val (.int pc_), .val (.int pd_), .val (.int n0_), .val (.int n1_), .val (.int l0_), .val (.int d0_), .val (.int d1_), .val (.int e0_), .val (.int e1_), .val (.int (0 : Int32)), .val (.ref b18), .val (.ref xs_37), .val (.ref b41), .val (.ref b60), .val (.ref b80), .unset, .unset, .unset] [])) rfl (hb hby at_259) (by decide) (by decide)
    obtain ⟨b132, g132⟩ : ∃ z, z = h129.size := ⟨_, rfl⟩
    rw [← g132] at A132 D132 st132
    have P133 : ∀ tt_, GG p e below T132 (mkF m 262 #[.val (.int pa), .val (.int pb), .val (.int pc_), .val (.int pd_), .val (.int n0_), .val (.int n1_), .val (.int l0_), .val (.int d0_), .val (.int d1_), .val (.int e0_), .val (.int e1_), .val (.int (0 : Int32)), .val (.ref b18), .val (.ref xs_37), .val (.ref b41), .val (.ref b60), .val (.ref b80), .unset, .unset, .unset] [(.ref b132)]) tt_ → Steps p.tables e below s0 tt_ := fun tt_ kk_ => P131 tt_ (st132 _ kk_)
    have ne_b18_b132 : b18 ≠ b132 := Nat.ne_of_lt (Nat.lt_of_lt_of_le E_b18.lt (Nat.le_of_eq g132.symm))
    have ne_b23_b132 : b23 ≠ b132 := Nat.ne_of_lt (Nat.lt_of_lt_of_le V_b23.lt (Nat.le_of_eq g132.symm))
    have ne_t_33_b132 : t_33 ≠ b132 := Nat.ne_of_lt (Nat.lt_of_lt_of_le V_t_33.lt (Nat.le_of_eq g132.symm))
    have ne_xs_37_b132 : xs_37 ≠ b132 := Nat.ne_of_lt (Nat.lt_of_lt_of_le E_xs_37.lt (Nat.le_of_eq g132.symm))
    have ne_t_37_b132 : t_37 ≠ b132 := Nat.ne_of_lt (Nat.lt_of_lt_of_le V_t_37.lt (Nat.le_of_eq g132.symm))
    have ne_b41_b132 : b41 ≠ b132 := Nat.ne_of_lt (Nat.lt_of_lt_of_le E_b41.lt (Nat.le_of_eq g132.symm))
    have ne_b46_b132 : b46 ≠ b132 := Nat.ne_of_lt (Nat.lt_of_lt_of_le V_b46.lt (Nat.le_of_eq g132.symm))
    have ne_t_56_b132 : t_56 ≠ b132 := Nat.ne_of_lt (Nat.lt_of_lt_of_le V_t_56.lt (Nat.le_of_eq g132.symm))
    have ne_b60_b132 : b60 ≠ b132 := Nat.ne_of_lt (Nat.lt_of_lt_of_le E_b60.lt (Nat.le_of_eq g132.symm))
    have ne_b65_b132 : b65 ≠ b132 := Nat.ne_of_lt (Nat.lt_of_lt_of_le V_b65.lt (Nat.le_of_eq g132.symm))
    have ne_t_75_b132 : t_75 ≠ b132 := Nat.ne_of_lt (Nat.lt_of_lt_of_le V_t_75.lt (Nat.le_of_eq g132.symm))
    have ne_b80_b132 : b80 ≠ b132 := Nat.ne_of_lt (Nat.lt_of_lt_of_le V_b80.lt (Nat.le_of_eq g132.symm))
    have sz_b132 : h0.size ≤ b132 := Nat.le_trans K129.1 (Nat.le_of_eq g132.symm)
    have sf_b132 : Safe Z ELs s.vm h129 b132 := Safe.new (Nat.le_of_eq g132.symm)
    replace sf_b18 : Safe Z ELs s.vm h132 b18 := Safe.ext E132 CR.1 sf_b18
    replace sf_b23 : Safe Z ELs s.vm h132 b23 := Safe.ext E132 CR.1 sf_b23
    replace sf_t_33 : Safe Z ELs s.vm h132 t_33 := Safe.ext E132 CR.1 sf_t_33
    replace sf_xs_37 : Safe Z ELs s.vm h132 xs_37 := Safe.ext E132 CR.1 sf_xs_37
    replace sf_t_37 : Safe Z ELs s.vm h132 t_37 := Safe.ext E132 CR.1 sf_t_37
    replace sf_b41 : Safe Z ELs s.vm h132 b41 := Safe.ext E132 CR.1 sf_b41
    replace sf_b46 : Safe Z ELs s.vm h132 b46 := Safe.ext E132 CR.1 sf_b46
    replace sf_t_56 : Safe Z ELs s.vm h132 t_56 := Safe.ext E132 CR.1 sf_t_56
    replace sf_b60 : Safe Z ELs s.vm h132 b60 := Safe.ext E132 CR.1 sf_b60
    replace sf_b65 : Safe Z ELs s.vm h132 b65 := Safe.ext E132 CR.1 sf_b65
    replace sf_t_75 : Safe Z ELs s.vm h132 t_75 := Safe.ext E132 CR.1 sf_t_75
    replace sf_b80 : Safe Z ELs s.vm h132 b80 := Safe.ext E132 CR.1 sf_b80
    replace sf_b132 : Safe Z ELs s.vm h132 b132 := Safe.ext E132 CR.1 sf_b132
    replace OL : Old Z n0 h132 := OL.ext E132
    replace E_b18 : Exa Z h132 b18 "java/lang/String" := E_b18.ext E132
    replace V_b23 : Arv Z h132 b23 k23 .char (2 : Int32) (([n0_, n1_] : List Int32).map Value.int) (.int (0 : Int32)) := V_b23.ext E132
    replace F_coder_b18 : Fld Z h132 b18 "java/lang/String" "coder" "B" (.int (0 : Int32)) := F_coder_b18.ext E132
    replace F_value_b18 : Fld Z h132 b18 "java/lang/String" "value" "[B" (.ref t_33) := F_value_b18.ext E132
    replace V_t_33 : Arv Z h132 t_33 kb_33 .byte (2 : Int32) (((([n0_, n1_] : List Int32)).map (fun c => c.toInt8.toInt32)).map Value.int) (.int (0 : Int32)) := V_t_33.ext E132
    replace E_xs_37 : Exa Z h132 xs_37 "java/lang/String" := E_xs_37.ext E132
    replace F_value_xs_37 : Fld Z h132 xs_37 "java/lang/String" "value" "[B" (.ref t_37) := F_value_xs_37.ext E132
    replace F_coder_xs_37 : Fld Z h132 xs_37 "java/lang/String" "coder" "B" (.int (0 : Int32)) := F_coder_xs_37.ext E132
    replace V_t_37 : Arv Z h132 t_37 kb_37 .byte (1 : Int32) [(.int (nar .byte (l0_.toInt8.toInt32)))] (.int (0 : Int32)) := V_t_37.ext E132
    replace E_b41 : Exa Z h132 b41 "java/lang/String" := E_b41.ext E132
    replace V_b46 : Arv Z h132 b46 k46 .char (2 : Int32) (([d0_, d1_] : List Int32).map Value.int) (.int (0 : Int32)) := V_b46.ext E132
    replace F_coder_b41 : Fld Z h132 b41 "java/lang/String" "coder" "B" (.int (0 : Int32)) := F_coder_b41.ext E132
    replace F_value_b41 : Fld Z h132 b41 "java/lang/String" "value" "[B" (.ref t_56) := F_value_b41.ext E132
    replace V_t_56 : Arv Z h132 t_56 kb_56 .byte (2 : Int32) (((([d0_, d1_] : List Int32)).map (fun c => c.toInt8.toInt32)).map Value.int) (.int (0 : Int32)) := V_t_56.ext E132
    replace E_b60 : Exa Z h132 b60 "java/lang/String" := E_b60.ext E132
    replace V_b65 : Arv Z h132 b65 k65 .char (2 : Int32) (([e0_, e1_] : List Int32).map Value.int) (.int (0 : Int32)) := V_b65.ext E132
    replace F_coder_b60 : Fld Z h132 b60 "java/lang/String" "coder" "B" (.int (0 : Int32)) := F_coder_b60.ext E132
    replace F_value_b60 : Fld Z h132 b60 "java/lang/String" "value" "[B" (.ref t_75) := F_value_b60.ext E132
    replace V_t_75 : Arv Z h132 t_75 kb_75 .byte (2 : Int32) (((([e0_, e1_] : List Int32)).map (fun c => c.toInt8.toInt32)).map Value.int) (.int (0 : Int32)) := V_t_75.ext E132
    replace V_b80 : Arv Z h132 b80 k80 .char (16 : Int32) [(.int (nar .char d0_)), (.int (nar .char d1_)), (.int (nar .char (32 : Int32))), (.int (nar .char (68 : Int32))), (.int (nar .char (101 : Int32))), (.int (nar .char (102 : Int32))), (.int (nar .char (97 : Int32))), (.int (nar .char (117 : Int32))), (.int (nar .char (108 : Int32))), (.int (nar .char (116 : Int32))), (.int (nar .char (58 : Int32))), (.int (nar .char (32 : Int32))), (.int (nar .char (36 : Int32))), (.int (nar .char e0_)), (.int (nar .char e1_)), (.int (nar .char (46 : Int32)))] (.int (0 : Int32)) := V_b80.ext E132
    replace CR : CHr Z ELs s.vm h0 s.vm h132 := CR.trans (CHr.ext E132 CR.1)
    replace hk := Nat.le_trans hk E132.1
    have K132 : Keep h0 h132 [] := K129.ext E132
    obtain ⟨Lf134, X132, N134⟩ : ∃ Lf, Stand p l e room_1 (s.setVm s.vm) m #[(.int pa), (.int pb), (.int pc_), (.int pd_)] below meth c T132 Lf 13 49 ∧ Fr n0 Lf := ⟨_, X132, N129⟩
    have E_b132 : Exa Z h132 b132 "java/lang/String" := A132
    have F_coder_b132 : Fld Z h132 b132 "java/lang/String" "coder" "B" (.int (0 : Int32)) := D132 (Or.inr (ww hw 27 rfl)) (ty := .byte) (by decide)
    have F_value_b132 : Fld Z h132 b132 "java/lang/String" "value" "[B" .null := D132 (Or.inr (ww hw 29 rfl)) (ty := (.array .byte)) (by decide)
    have P135 : ∀ tt_, GG p e below T132 (mkF m 265 #[.val (.int pa), .val (.int pb), .val (.int pc_), .val (.int pd_), .val (.int n0_), .val (.int n1_), .val (.int l0_), .val (.int d0_), .val (.int d1_), .val (.int e0_), .val (.int e1_), .val (.int (0 : Int32)), .val (.ref b18), .val (.ref xs_37), .val (.ref b41), .val (.ref b60), .val (.ref b80), .unset, .unset, .unset] [(.ref b80), (.ref b132), (.ref b132)]) tt_ → Steps p.tables e below s0 tt_ := fun tt_ kk_ => P133 tt_ (by
      refine XS.dup X132.here hx rfl (hb hby at_262) rfl rfl ?_
      refine XS.aload X132.here hx rfl (hb hby at_263) rfl rfl ?_
      exact kk_)
    replace V_b80 : Arv Z h132 b80 k80 .char (16 : Int32) (([d0_, d1_, (32 : Int32), (68 : Int32), (101 : Int32), (102 : Int32), (97 : Int32), (117 : Int32), (108 : Int32), (116 : Int32), (58 : Int32), (32 : Int32), (36 : Int32), e0_, e1_, (46 : Int32)] : List Int32).map Value.int) (.int (0 : Int32)) := by
      have q := V_b80
      rw [na_d0_, na_d1_, na_e0_, na_e1_] at q
      exact q
    have hp136 : ∀ c ∈ ([d0_, d1_, (32 : Int32), (68 : Int32), (101 : Int32), (102 : Int32), (97 : Int32), (117 : Int32), (108 : Int32), (116 : Int32), (58 : Int32), (32 : Int32), (36 : Int32), e0_, e1_, (46 : Int32)] : List Int32), ¬ c < 0 ∧ ¬ (255 : Int32) < c := by
      intro c hc
      simp only [List.mem_cons, List.not_mem_nil, or_false] at hc
      rcases hc with rfl | rfl | rfl | rfl | rfl | rfl | rfl | rfl | rfl | rfl | rfl | rfl | rfl | rfl | rfl | rfl
      · exact ok_d0_
      · exact ok_d1_
      · exact ⟨by decide, by decide⟩
      · exact ⟨by decide, by decide⟩
      · exact ⟨by decide, by decide⟩
      · exact ⟨by decide, by decide⟩
      · exact ⟨by decide, by decide⟩
      · exact ⟨by decide, by decide⟩
      · exact ⟨by decide, by decide⟩
      · exact ⟨by decide, by decide⟩
      · exact ⟨by decide, by decide⟩
      · exact ⟨by decide, by decide⟩
      · exact ⟨by decide, by decide⟩
      · exact ok_e0_
      · exact ok_e1_
      · exact ⟨by decide, by decide⟩
    obtain ⟨_, _, ⟨T137, L137, k137, n137⟩, -, X137, ⟨Lc137, hQ137, l137, y137, z137⟩, st137⟩ := X132.specialBack hx (y := mn_24) rfl hown (mw hZ hw 4 rfl) (mw hZ hw 5 rfl) (mw hZ hw 6 rfl) (by decide) (StrChars.Road.backV (W := 1) hZ (own_wNew hw) (kI := 4) (ww hw 1 rfl) (cs := ([d0_, d1_, (32 : Int32), (68 : Int32), (101 : Int32), (102 : Int32), (97 : Int32), (117 : Int32), (108 : Int32), (116 : Int32), (58 : Int32), (32 : Int32), (36 : Int32), e0_, e1_, (46 : Int32)] : List Int32)) (bs := (([d0_, d1_, (32 : Int32), (68 : Int32), (101 : Int32), (102 : Int32), (97 : Int32), (117 : Int32), (108 : Int32), (116 : Int32), (58 : Int32), (32 : Int32), (36 : Int32), e0_, e1_, (46 : Int32)] : List Int32)).map (fun c => c.toInt8.toInt32)) (n := 16) (Nat.le_trans Z0 sz_b132) (Nat.le_trans Z0 K132.1) E_b132 F_value_b132 F_coder_b132 V_b80 (S_COMPACT_STRINGS.ext OL.2) hz rfl rfl (by decide) (by decide) hp136 rfl (by decide) (by decide)) (g := (mkF m 265 #[.val (.int pa), .val (.int pb), .val (.int pc_), .val (.int pd_), .val (.int n0_), .val (.int n1_), .val (.int l0_), .val (.int d0_), .val (.int d1_), .val (.int e0_), .val (.int e1_), .val (.int (0 : Int32)), .val (.ref b18), .val (.ref xs_37), .val (.ref b41), .val (.ref b60), .val (.ref b80), .unset, .unset, .unset] [(.ref b80), (.ref b132), (.ref b132)])) rfl (by rw [hml]; rfl) (Steps.refl _) (a := b132) (argsL := [(.ref b80)]) (rest := [(.ref b132)]) (lenOf pd_20 rfl) rfl (by show 2 * 0 + _ ≤ _; exact Nat.le_of_eq rfl) (hb hby at_265) (fun _ _ => ⟨rfl, e132, (by decide : 13 + 1 ≤ _), (by decide : 49 + 16 ≤ _)⟩)
    dsimp only [Pt.U, Pt.locs, Pt.cells, Pt.slots] at X137 l137 y137 z137 st137 hQ137
    subst l137 y137 z137
    obtain ⟨rfl, N137q, Kc137, po137_0, po137_1, t_137, kb_137, po137_2, po137_3, po137_4, po137_5, po137_6⟩ := hQ137
    have N137 := Fr.app N134 N137q
    obtain ⟨Lf138, X137, N138⟩ : ∃ Lf, Stand p l e room_1 (s.setVm s.vm) m #[(.int pa), (.int pb), (.int pc_), (.int pd_)] below meth c T137 Lf 14 65 ∧ Fr n0 Lf := ⟨_, X137, N137⟩
    have P139 : ∀ tt_, GG p e below T137 (mkF m 268 #[.val (.int pa), .val (.int pb), .val (.int pc_), .val (.int pd_), .val (.int n0_), .val (.int n1_), .val (.int l0_), .val (.int d0_), .val (.int d1_), .val (.int e0_), .val (.int e1_), .val (.int (0 : Int32)), .val (.ref b18), .val (.ref xs_37), .val (.ref b41), .val (.ref b60), .val (.ref b80), .unset, .unset, .unset] [(.ref b132)]) tt_ → Steps p.tables e below s0 tt_ := fun tt_ kk_ => P135 tt_ (st137.trans kk_)
    have ne_b18_t_137 : b18 ≠ t_137 := Nat.ne_of_lt (Nat.lt_of_lt_of_le E_b18.lt po137_3)
    have ne_b23_t_137 : b23 ≠ t_137 := Nat.ne_of_lt (Nat.lt_of_lt_of_le V_b23.lt po137_3)
    have ne_t_33_t_137 : t_33 ≠ t_137 := Nat.ne_of_lt (Nat.lt_of_lt_of_le V_t_33.lt po137_3)
    have ne_xs_37_t_137 : xs_37 ≠ t_137 := Nat.ne_of_lt (Nat.lt_of_lt_of_le E_xs_37.lt po137_3)
    have ne_t_37_t_137 : t_37 ≠ t_137 := Nat.ne_of_lt (Nat.lt_of_lt_of_le V_t_37.lt po137_3)
    have ne_b41_t_137 : b41 ≠ t_137 := Nat.ne_of_lt (Nat.lt_of_lt_of_le E_b41.lt po137_3)
    have ne_b46_t_137 : b46 ≠ t_137 := Nat.ne_of_lt (Nat.lt_of_lt_of_le V_b46.lt po137_3)
    have ne_t_56_t_137 : t_56 ≠ t_137 := Nat.ne_of_lt (Nat.lt_of_lt_of_le V_t_56.lt po137_3)
    have ne_b60_t_137 : b60 ≠ t_137 := Nat.ne_of_lt (Nat.lt_of_lt_of_le E_b60.lt po137_3)
    have ne_b65_t_137 : b65 ≠ t_137 := Nat.ne_of_lt (Nat.lt_of_lt_of_le V_b65.lt po137_3)
    have ne_t_75_t_137 : t_75 ≠ t_137 := Nat.ne_of_lt (Nat.lt_of_lt_of_le V_t_75.lt po137_3)
    have ne_b80_t_137 : b80 ≠ t_137 := Nat.ne_of_lt (Nat.lt_of_lt_of_le V_b80.lt po137_3)
    have ne_b132_t_137 : b132 ≠ t_137 := Nat.ne_of_lt (Nat.lt_of_lt_of_le E_b132.lt po137_3)
    have sz_t_137 : h0.size ≤ t_137 := Nat.le_trans K132.1 po137_3
    have sf_t_137 : Safe Z ELs s.vm h132 t_137 := Safe.new po137_3
    have sfk137 := ((sfS sf_b132 sf0) : ∀ x ∈ [b132], Safe Z ELs s.vm h132 x)
    replace sf_b18 : Safe Z ELs s.vm T137.heap b18 := Safe.keep Kc137 sfk137 CR.1 sf_b18
    replace sf_b23 : Safe Z ELs s.vm T137.heap b23 := Safe.keep Kc137 sfk137 CR.1 sf_b23
    replace sf_t_33 : Safe Z ELs s.vm T137.heap t_33 := Safe.keep Kc137 sfk137 CR.1 sf_t_33
    replace sf_xs_37 : Safe Z ELs s.vm T137.heap xs_37 := Safe.keep Kc137 sfk137 CR.1 sf_xs_37
    replace sf_t_37 : Safe Z ELs s.vm T137.heap t_37 := Safe.keep Kc137 sfk137 CR.1 sf_t_37
    replace sf_b41 : Safe Z ELs s.vm T137.heap b41 := Safe.keep Kc137 sfk137 CR.1 sf_b41
    replace sf_b46 : Safe Z ELs s.vm T137.heap b46 := Safe.keep Kc137 sfk137 CR.1 sf_b46
    replace sf_t_56 : Safe Z ELs s.vm T137.heap t_56 := Safe.keep Kc137 sfk137 CR.1 sf_t_56
    replace sf_b60 : Safe Z ELs s.vm T137.heap b60 := Safe.keep Kc137 sfk137 CR.1 sf_b60
    replace sf_b65 : Safe Z ELs s.vm T137.heap b65 := Safe.keep Kc137 sfk137 CR.1 sf_b65
    replace sf_t_75 : Safe Z ELs s.vm T137.heap t_75 := Safe.keep Kc137 sfk137 CR.1 sf_t_75
    replace sf_b80 : Safe Z ELs s.vm T137.heap b80 := Safe.keep Kc137 sfk137 CR.1 sf_b80
    replace sf_b132 : Safe Z ELs s.vm T137.heap b132 := Safe.keep Kc137 sfk137 CR.1 sf_b132
    replace sf_t_137 : Safe Z ELs s.vm T137.heap t_137 := Safe.keep Kc137 sfk137 CR.1 sf_t_137
    replace OL : Old Z n0 T137.heap := OL.keep Kc137 (allS (Nat.le_trans Z0 sz_b132) all0)
    replace E_b18 : Exa Z T137.heap b18 "java/lang/String" := E_b18.keep Kc137
    replace V_b23 : Arv Z T137.heap b23 k23 .char (2 : Int32) (([n0_, n1_] : List Int32).map Value.int) (.int (0 : Int32)) := V_b23.keep Kc137 (ninS ne_b23_b132 nin0)
    replace F_coder_b18 : Fld Z T137.heap b18 "java/lang/String" "coder" "B" (.int (0 : Int32)) := F_coder_b18.keep Kc137 (ninS ne_b18_b132 nin0)
    replace F_value_b18 : Fld Z T137.heap b18 "java/lang/String" "value" "[B" (.ref t_33) := F_value_b18.keep Kc137 (ninS ne_b18_b132 nin0)
    replace V_t_33 : Arv Z T137.heap t_33 kb_33 .byte (2 : Int32) (((([n0_, n1_] : List Int32)).map (fun c => c.toInt8.toInt32)).map Value.int) (.int (0 : Int32)) := V_t_33.keep Kc137 (ninS ne_t_33_b132 nin0)
    replace E_xs_37 : Exa Z T137.heap xs_37 "java/lang/String" := E_xs_37.keep Kc137
    replace F_value_xs_37 : Fld Z T137.heap xs_37 "java/lang/String" "value" "[B" (.ref t_37) := F_value_xs_37.keep Kc137 (ninS ne_xs_37_b132 nin0)
    replace F_coder_xs_37 : Fld Z T137.heap xs_37 "java/lang/String" "coder" "B" (.int (0 : Int32)) := F_coder_xs_37.keep Kc137 (ninS ne_xs_37_b132 nin0)
    replace V_t_37 : Arv Z T137.heap t_37 kb_37 .byte (1 : Int32) [(.int (nar .byte (l0_.toInt8.toInt32)))] (.int (0 : Int32)) := V_t_37.keep Kc137 (ninS ne_t_37_b132 nin0)
    replace E_b41 : Exa Z T137.heap b41 "java/lang/String" := E_b41.keep Kc137
    replace V_b46 : Arv Z T137.heap b46 k46 .char (2 : Int32) (([d0_, d1_] : List Int32).map Value.int) (.int (0 : Int32)) := V_b46.keep Kc137 (ninS ne_b46_b132 nin0)
    replace F_coder_b41 : Fld Z T137.heap b41 "java/lang/String" "coder" "B" (.int (0 : Int32)) := F_coder_b41.keep Kc137 (ninS ne_b41_b132 nin0)
    replace F_value_b41 : Fld Z T137.heap b41 "java/lang/String" "value" "[B" (.ref t_56) := F_value_b41.keep Kc137 (ninS ne_b41_b132 nin0)
    replace V_t_56 : Arv Z T137.heap t_56 kb_56 .byte (2 : Int32) (((([d0_, d1_] : List Int32)).map (fun c => c.toInt8.toInt32)).map Value.int) (.int (0 : Int32)) := V_t_56.keep Kc137 (ninS ne_t_56_b132 nin0)
    replace E_b60 : Exa Z T137.heap b60 "java/lang/String" := E_b60.keep Kc137
    replace V_b65 : Arv Z T137.heap b65 k65 .char (2 : Int32) (([e0_, e1_] : List Int32).map Value.int) (.int (0 : Int32)) := V_b65.keep Kc137 (ninS ne_b65_b132 nin0)
    replace F_coder_b60 : Fld Z T137.heap b60 "java/lang/String" "coder" "B" (.int (0 : Int32)) := F_coder_b60.keep Kc137 (ninS ne_b60_b132 nin0)
    replace F_value_b60 : Fld Z T137.heap b60 "java/lang/String" "value" "[B" (.ref t_75) := F_value_b60.keep Kc137 (ninS ne_b60_b132 nin0)
    replace V_t_75 : Arv Z T137.heap t_75 kb_75 .byte (2 : Int32) (((([e0_, e1_] : List Int32)).map (fun c => c.toInt8.toInt32)).map Value.int) (.int (0 : Int32)) := V_t_75.keep Kc137 (ninS ne_t_75_b132 nin0)
    replace V_b80 : Arv Z T137.heap b80 k80 .char (16 : Int32) (([d0_, d1_, (32 : Int32), (68 : Int32), (101 : Int32), (102 : Int32), (97 : Int32), (117 : Int32), (108 : Int32), (116 : Int32), (58 : Int32), (32 : Int32), (36 : Int32), e0_, e1_, (46 : Int32)] : List Int32).map Value.int) (.int (0 : Int32)) := V_b80.keep Kc137 (ninS ne_b80_b132 nin0)
    replace E_b132 : Exa Z T137.heap b132 "java/lang/String" := E_b132.keep Kc137
    replace CR : CHr Z ELs s.vm h0 s.vm T137.heap := CR.trans (CHr.keep Kc137 sfk137 CR.1)
    replace hk := Nat.le_trans hk Kc137.1
    have K137 : Keep h0 T137.heap [] := K132.trans Kc137 (allS (P := fun x => x ∈ [] ∨ h0.size ≤ x) (Or.inr sz_b132) all0)
    have E_b132 : Exa Z T137.heap b132 "java/lang/String" := po137_0
    have F_coder_b132 : Fld Z T137.heap b132 "java/lang/String" "coder" "B" (.int (0 : Int32)) := po137_1
    have nt_137 := po137_4
    have F_value_b132 : Fld Z T137.heap b132 "java/lang/String" "value" "[B" (.ref t_137) := po137_5
    have V_t_137 : Arv Z T137.heap t_137 kb_137 .byte (16 : Int32) (((([d0_, d1_, (32 : Int32), (68 : Int32), (101 : Int32), (102 : Int32), (97 : Int32), (117 : Int32), (108 : Int32), (116 : Int32), (58 : Int32), (32 : Int32), (36 : Int32), e0_, e1_, (46 : Int32)] : List Int32)).map (fun c => c.toInt8.toInt32)).map Value.int) (.int (0 : Int32)) := po137_6
    have P140 : ∀ tt_, GG p e below T137 (mkF m 278 #[.val (.int pa), .val (.int pb), .val (.int pc_), .val (.int pd_), .val (.int n0_), .val (.int n1_), .val (.int l0_), .val (.int d0_), .val (.int d1_), .val (.int e0_), .val (.int e1_), .val (.int (0 : Int32)), .val (.ref b18), .val (.ref xs_37), .val (.ref b41), .val (.ref b60), .val (.ref b80), .val (.ref b132), .unset, .unset] [(.ref b60), (.ref b41), (.ref xs_37), (.ref b18)]) tt_ → Steps p.tables e below s0 tt_ := fun tt_ kk_ => P139 tt_ (by
      refine XS.astore X137.here hx rfl (hb hby at_268) rfl rfl (l' := #[.val (.int pa), .val (.int pb), .val (.int pc_), .val (.int pd_), .val (.int n0_), .val (.int n1_), .val (.int l0_), .val (.int d0_), .val (.int d1_), .val (.int e0_), .val (.int e1_), .val (.int (0 : Int32)), .val (.ref b18), .val (.ref xs_37), .val (.ref b41), .val (.ref b60), .val (.ref b80), .val (.ref b132), .unset, .unset]) rfl ?_
      refine XS.aload X137.here hx rfl (hb hby at_270) rfl rfl ?_
      refine XS.aload X137.here hx rfl (hb hby at_272) rfl rfl ?_
      refine XS.aload X137.here hx rfl (hb hby at_274) rfl rfl ?_
      refine XS.aload X137.here hx rfl (hb hby at_276) rfl rfl ?_
      exact kk_)
    obtain ⟨_, _, ⟨T141, L141, k141, n141⟩, -, X141, hS141, hg141, ⟨Lc141, hQ141, l141, y141, z141, cC141⟩, st141⟩ := callSS X137 hx (y := mn_26) hown (mw hZ hw 44 rfl) (mw hZ hw 45 rfl) (mw hZ hw 46 rfl) (mw hZ hw 47 rfl) (by decide) (backOfSH (W := 0) (rm_coFromE l Z a0 hw hEL [] b18 xs_37 b41 b60 T137.heap n0 (Nat.le_trans Z0 K137.1)) hZ (ww hw 47 rfl) (ww hw 46 rfl) (by decide) (by decide) hEL CR.1) (g := (mkF m 278 #[.val (.int pa), .val (.int pb), .val (.int pc_), .val (.int pd_), .val (.int n0_), .val (.int n1_), .val (.int l0_), .val (.int d0_), .val (.int d1_), .val (.int e0_), .val (.int e1_), .val (.int (0 : Int32)), .val (.ref b18), .val (.ref xs_37), .val (.ref b41), .val (.ref b60), .val (.ref b80), .val (.ref b132), .unset, .unset] [(.ref b60), (.ref b41), (.ref xs_37), (.ref b18)])) rfl (by rw [hml]; rfl) (argsL := [(.ref b18), (.ref xs_37), (.ref b41), (.ref b60)]) (rest := []) (lenOf pd_22 rfl) rfl (by show 2 * 0 + _ ≤ _; exact Nat.le_of_eq rfl) (hb hby at_278) (fun _ _ => ⟨rfl, rfl, (by decide : 14 + 7 ≤ _), (by decide : 65 + 98 ≤ _)⟩)
    dsimp only [Pt.U, Pt.locs, Pt.cells, Pt.slots] at X141 l141 y141 z141 st141 hQ141 hS141 hg141 cC141
    subst l141 y141 z141
    obtain ⟨X141, hS, hZ, hown⟩ := rebS hS (hk) X141 hS141 hg141 hZ hown
    have hk : T141.heap.size ≤ T141.heap.size := Nat.le_refl _
    obtain ⟨co_141, rfl, N141q, Kc141, po141_0, po141_1, po141_2, po141_3, po141_4, po141_5, po141_6, po141_7⟩ := hQ141
    have N141 := Fr.app N138 N141q
    obtain ⟨Lf142, X141, N142⟩ : ∃ Lf, Stand p l e room_1 (s.setVm T141.vm) m #[(.int pa), (.int pb), (.int pc_), (.int pd_)] below meth c T141 Lf 21 163 ∧ Fr n0 Lf := ⟨_, X141, N141⟩
    have P143 : ∀ tt_, GG p e below T141 (mkF m 281 #[.val (.int pa), .val (.int pb), .val (.int pc_), .val (.int pd_), .val (.int n0_), .val (.int n1_), .val (.int l0_), .val (.int d0_), .val (.int d1_), .val (.int e0_), .val (.int e1_), .val (.int (0 : Int32)), .val (.ref b18), .val (.ref xs_37), .val (.ref b41), .val (.ref b60), .val (.ref b80), .val (.ref b132), .unset, .unset] [(.ref co_141)]) tt_ → Steps p.tables e below s0 tt_ := fun tt_ kk_ => P140 tt_ (st141.trans kk_)
    have ne_b18_co_141 : b18 ≠ co_141 := Nat.ne_of_lt (Nat.lt_of_lt_of_le E_b18.lt po141_0)
    have ne_b23_co_141 : b23 ≠ co_141 := Nat.ne_of_lt (Nat.lt_of_lt_of_le V_b23.lt po141_0)
    have ne_t_33_co_141 : t_33 ≠ co_141 := Nat.ne_of_lt (Nat.lt_of_lt_of_le V_t_33.lt po141_0)
    have ne_xs_37_co_141 : xs_37 ≠ co_141 := Nat.ne_of_lt (Nat.lt_of_lt_of_le E_xs_37.lt po141_0)
    have ne_t_37_co_141 : t_37 ≠ co_141 := Nat.ne_of_lt (Nat.lt_of_lt_of_le V_t_37.lt po141_0)
    have ne_b41_co_141 : b41 ≠ co_141 := Nat.ne_of_lt (Nat.lt_of_lt_of_le E_b41.lt po141_0)
    have ne_b46_co_141 : b46 ≠ co_141 := Nat.ne_of_lt (Nat.lt_of_lt_of_le V_b46.lt po141_0)
    have ne_t_56_co_141 : t_56 ≠ co_141 := Nat.ne_of_lt (Nat.lt_of_lt_of_le V_t_56.lt po141_0)
    have ne_b60_co_141 : b60 ≠ co_141 := Nat.ne_of_lt (Nat.lt_of_lt_of_le E_b60.lt po141_0)
    have ne_b65_co_141 : b65 ≠ co_141 := Nat.ne_of_lt (Nat.lt_of_lt_of_le V_b65.lt po141_0)
    have ne_t_75_co_141 : t_75 ≠ co_141 := Nat.ne_of_lt (Nat.lt_of_lt_of_le V_t_75.lt po141_0)
    have ne_b80_co_141 : b80 ≠ co_141 := Nat.ne_of_lt (Nat.lt_of_lt_of_le V_b80.lt po141_0)
    have ne_b132_co_141 : b132 ≠ co_141 := Nat.ne_of_lt (Nat.lt_of_lt_of_le E_b132.lt po141_0)
    have ne_t_137_co_141 : t_137 ≠ co_141 := Nat.ne_of_lt (Nat.lt_of_lt_of_le V_t_137.lt po141_0)
    have sz_co_141 : h0.size ≤ co_141 := Nat.le_trans K137.1 po141_0
    replace sf_b18 : Safe Z ELs T141.vm T141.heap b18 := cC141.safe E_b18.lt sf_b18
    replace sf_b23 : Safe Z ELs T141.vm T141.heap b23 := cC141.safe V_b23.lt sf_b23
    replace sf_t_33 : Safe Z ELs T141.vm T141.heap t_33 := cC141.safe V_t_33.lt sf_t_33
    replace sf_xs_37 : Safe Z ELs T141.vm T141.heap xs_37 := cC141.safe E_xs_37.lt sf_xs_37
    replace sf_t_37 : Safe Z ELs T141.vm T141.heap t_37 := cC141.safe V_t_37.lt sf_t_37
    replace sf_b41 : Safe Z ELs T141.vm T141.heap b41 := cC141.safe E_b41.lt sf_b41
    replace sf_b46 : Safe Z ELs T141.vm T141.heap b46 := cC141.safe V_b46.lt sf_b46
    replace sf_t_56 : Safe Z ELs T141.vm T141.heap t_56 := cC141.safe V_t_56.lt sf_t_56
    replace sf_b60 : Safe Z ELs T141.vm T141.heap b60 := cC141.safe E_b60.lt sf_b60
    replace sf_b65 : Safe Z ELs T141.vm T141.heap b65 := cC141.safe V_b65.lt sf_b65
    replace sf_t_75 : Safe Z ELs T141.vm T141.heap t_75 := cC141.safe V_t_75.lt sf_t_75
    replace sf_b80 : Safe Z ELs T141.vm T141.heap b80 := cC141.safe V_b80.lt sf_b80
    replace sf_b132 : Safe Z ELs T141.vm T141.heap b132 := cC141.safe E_b132.lt sf_b132
    replace sf_t_137 : Safe Z ELs T141.vm T141.heap t_137 := cC141.safe V_t_137.lt sf_t_137
    replace OL : Old Z n0 T141.heap := OL.keep Kc141 all0
    replace E_b18 : Exa Z T141.heap b18 "java/lang/String" := E_b18.keep Kc141
    replace V_b23 : Arv Z T141.heap b23 k23 .char (2 : Int32) (([n0_, n1_] : List Int32).map Value.int) (.int (0 : Int32)) := V_b23.keep Kc141 nin0
    replace F_coder_b18 : Fld Z T141.heap b18 "java/lang/String" "coder" "B" (.int (0 : Int32)) := F_coder_b18.keep Kc141 nin0
    replace F_value_b18 : Fld Z T141.heap b18 "java/lang/String" "value" "[B" (.ref t_33) := F_value_b18.keep Kc141 nin0
    replace V_t_33 : Arv Z T141.heap t_33 kb_33 .byte (2 : Int32) (((([n0_, n1_] : List Int32)).map (fun c => c.toInt8.toInt32)).map Value.int) (.int (0 : Int32)) := V_t_33.keep Kc141 nin0
    replace E_xs_37 : Exa Z T141.heap xs_37 "java/lang/String" := E_xs_37.keep Kc141
    replace F_value_xs_37 : Fld Z T141.heap xs_37 "java/lang/String" "value" "[B" (.ref t_37) := F_value_xs_37.keep Kc141 nin0
    replace F_coder_xs_37 : Fld Z T141.heap xs_37 "java/lang/String" "coder" "B" (.int (0 : Int32)) := F_coder_xs_37.keep Kc141 nin0
    replace V_t_37 : Arv Z T141.heap t_37 kb_37 .byte (1 : Int32) [(.int (nar .byte (l0_.toInt8.toInt32)))] (.int (0 : Int32)) := V_t_37.keep Kc141 nin0
    replace E_b41 : Exa Z T141.heap b41 "java/lang/String" := E_b41.keep Kc141
    replace V_b46 : Arv Z T141.heap b46 k46 .char (2 : Int32) (([d0_, d1_] : List Int32).map Value.int) (.int (0 : Int32)) := V_b46.keep Kc141 nin0
    replace F_coder_b41 : Fld Z T141.heap b41 "java/lang/String" "coder" "B" (.int (0 : Int32)) := F_coder_b41.keep Kc141 nin0
    replace F_value_b41 : Fld Z T141.heap b41 "java/lang/String" "value" "[B" (.ref t_56) := F_value_b41.keep Kc141 nin0
    replace V_t_56 : Arv Z T141.heap t_56 kb_56 .byte (2 : Int32) (((([d0_, d1_] : List Int32)).map (fun c => c.toInt8.toInt32)).map Value.int) (.int (0 : Int32)) := V_t_56.keep Kc141 nin0
    replace E_b60 : Exa Z T141.heap b60 "java/lang/String" := E_b60.keep Kc141
    replace V_b65 : Arv Z T141.heap b65 k65 .char (2 : Int32) (([e0_, e1_] : List Int32).map Value.int) (.int (0 : Int32)) := V_b65.keep Kc141 nin0
    replace F_coder_b60 : Fld Z T141.heap b60 "java/lang/String" "coder" "B" (.int (0 : Int32)) := F_coder_b60.keep Kc141 nin0
    replace F_value_b60 : Fld Z T141.heap b60 "java/lang/String" "value" "[B" (.ref t_75) := F_value_b60.keep Kc141 nin0
    replace V_t_75 : Arv Z T141.heap t_75 kb_75 .byte (2 : Int32) (((([e0_, e1_] : List Int32)).map (fun c => c.toInt8.toInt32)).map Value.int) (.int (0 : Int32)) := V_t_75.keep Kc141 nin0
    replace V_b80 : Arv Z T141.heap b80 k80 .char (16 : Int32) (([d0_, d1_, (32 : Int32), (68 : Int32), (101 : Int32), (102 : Int32), (97 : Int32), (117 : Int32), (108 : Int32), (116 : Int32), (58 : Int32), (32 : Int32), (36 : Int32), e0_, e1_, (46 : Int32)] : List Int32).map Value.int) (.int (0 : Int32)) := V_b80.keep Kc141 nin0
    replace E_b132 : Exa Z T141.heap b132 "java/lang/String" := E_b132.keep Kc141
    replace F_coder_b132 : Fld Z T141.heap b132 "java/lang/String" "coder" "B" (.int (0 : Int32)) := F_coder_b132.keep Kc141 nin0
    replace F_value_b132 : Fld Z T141.heap b132 "java/lang/String" "value" "[B" (.ref t_137) := F_value_b132.keep Kc141 nin0
    replace V_t_137 : Arv Z T141.heap t_137 kb_137 .byte (16 : Int32) (((([d0_, d1_, (32 : Int32), (68 : Int32), (101 : Int32), (102 : Int32), (97 : Int32), (117 : Int32), (108 : Int32), (116 : Int32), (58 : Int32), (32 : Int32), (36 : Int32), e0_, e1_, (46 : Int32)] : List Int32)).map (fun c => c.toInt8.toInt32)).map Value.int) (.int (0 : Int32)) := V_t_137.keep Kc141 nin0
    replace CR : CHr Z ELs s.vm h0 T141.vm T141.heap := CR.trans cC141
    have K141 : Keep h0 T141.heap [] := K137.trans Kc141 all0
    have E_co_141 : Exa Z T141.heap co_141 "com/example/ngazi/ngazi/cli/CommandOption" := po141_1
    have F_name_co_141 : Fld Z T141.heap co_141 "com/example/ngazi/ngazi/cli/CommandOption" "name" "Ljava/lang/String;" (.ref b18) := po141_2
    have F_label_co_141 : Fld Z T141.heap co_141 "com/example/ngazi/ngazi/cli/CommandOption" "label" "Ljava/lang/String;" (.ref xs_37) := po141_3
    have F_description_co_141 : Fld Z T141.heap co_141 "com/example/ngazi/ngazi/cli/CommandOption" "description" "Ljava/lang/String;" (.ref b41) := po141_4
    have F_required_co_141 : Fld Z T141.heap co_141 "com/example/ngazi/ngazi/cli/CommandOption" "required" "Z" (.int (0 : Int32)) := po141_5
    have F_environmentVariable_co_141 : Fld Z T141.heap co_141 "com/example/ngazi/ngazi/cli/CommandOption" "environmentVariable" "Ljava/lang/String;" (.ref b60) := po141_6
    have F_defaultValue_co_141 : Fld Z T141.heap co_141 "com/example/ngazi/ngazi/cli/CommandOption" "defaultValue" "Ljava/lang/String;" .null := po141_7
    have P144 : ∀ tt_, GG p e below T141 (mkF m 287 #[.val (.int pa), .val (.int pb), .val (.int pc_), .val (.int pd_), .val (.int n0_), .val (.int n1_), .val (.int l0_), .val (.int d0_), .val (.int d1_), .val (.int e0_), .val (.int e1_), .val (.int (0 : Int32)), .val (.ref b18), .val (.ref xs_37), .val (.ref b41), .val (.ref b60), .val (.ref b80), .val (.ref b132), .val (.ref co_141), .unset] [(.ref co_141), (.ref b18)]) tt_ → Steps p.tables e below s0 tt_ := fun tt_ kk_ => P143 tt_ (by
      refine XS.astore X141.here hx rfl (hb hby at_281) rfl rfl (l' := #[.val (.int pa), .val (.int pb), .val (.int pc_), .val (.int pd_), .val (.int n0_), .val (.int n1_), .val (.int l0_), .val (.int d0_), .val (.int d1_), .val (.int e0_), .val (.int e1_), .val (.int (0 : Int32)), .val (.ref b18), .val (.ref xs_37), .val (.ref b41), .val (.ref b60), .val (.ref b80), .val (.ref b132), .val (.ref co_141), .unset]) rfl ?_
      refine XS.aload X141.here hx rfl (hb hby at_283) rfl rfl ?_
      refine XS.aload X141.here hx rfl (hb hby at_285) rfl rfl ?_
      exact kk_)
    obtain ⟨cq145, kq145, q145a, q145b, q145c⟩ := isOf hZ rfl E_co_141
    obtain ⟨_, _, ⟨T145, L145, k145, n145⟩, -, X145, ⟨Lc145, hQ145, l145, y145, z145⟩, st145⟩ := X141.virtualBack hx (y := mn_27) (z := mn_27) hown (mw hZ hw 80 rfl) (mw hZ hw 81 rfl) (notFace_of_selects (args := #[]) (mw hZ hw 83 rfl)) (mw hZ hw 83 rfl) (mw hZ hw 82 rfl) (by decide) (backOf (W := 1) (rm_get_nameE l Z a0 hw [] co_141 b18 T141.heap n0 (Nat.le_trans Z0 K141.1) F_name_co_141) hZ (ww hw 84 rfl) (ww hw 46 rfl) (by decide) (by decide)) q145a q145c (g := (mkF m 287 #[.val (.int pa), .val (.int pb), .val (.int pc_), .val (.int pd_), .val (.int n0_), .val (.int n1_), .val (.int l0_), .val (.int d0_), .val (.int d1_), .val (.int e0_), .val (.int e1_), .val (.int (0 : Int32)), .val (.ref b18), .val (.ref xs_37), .val (.ref b41), .val (.ref b60), .val (.ref b80), .val (.ref b132), .val (.ref co_141), .unset] [(.ref co_141), (.ref b18)])) rfl (by rw [hml]; rfl) (Steps.refl _) (argsL := []) (rest := [(.ref b18)]) (lenOf pd_19 rfl) rfl (by show 2 * 0 + _ ≤ _; exact Nat.le_of_eq rfl) (hb hby at_287) (fun _ _ => ⟨rfl, rfl, (by decide : 21 + 0 ≤ _), (by decide : 163 + 0 ≤ _)⟩)
    dsimp only [Pt.U, Pt.locs, Pt.cells, Pt.slots] at X145 l145 y145 z145 st145 hQ145
    subst l145 y145 z145
    obtain ⟨rfl, N145q, e145⟩ := hQ145
    have N145 := Fr.app N142 N145q
    have P146 : ∀ tt_, GG p e below T145 (mkF m 290 #[.val (.int pa), .val (.int pb), .val (.int pc_), .val (.int pd_), .val (.int n0_), .val (.int n1_), .val (.int l0_), .val (.int d0_), .val (.int d1_), .val (.int e0_), .val (.int e1_), .val (.int (0 : Int32)), .val (.ref b18), .val (.ref xs_37), .val (.ref b41), .val (.ref b60), .val (.ref b80), .val (.ref b132), .val (.ref co_141), .unset] [(.ref b18), (.ref b18)]) tt_ → Steps p.tables e below s0 tt_ := fun tt_ kk_ => P144 tt_ (st145.trans kk_)
    obtain ⟨cq147, kq147, q147a, q147b, q147c⟩ := isOf hZ e145 E_b18
    obtain ⟨_, _, ⟨T147, L147, k147, n147⟩, -, X147, ⟨Lc147, hQ147, l147, y147, z147⟩, st147⟩ := X145.virtualBack hx (y := mn_28) (z := mn_28) hown (mw hZ hw 85 rfl) (mw hZ hw 86 rfl) (notFace_of_selects (args := #[]) (mw hZ hw 88 rfl)) (mw hZ hw 88 rfl) (mw hZ hw 87 rfl) (by decide) (backOf (W := 0) (rm_eqSame l Z a0 hw [] b18 T141.heap n0 (Nat.le_trans Z0 K141.1)) hZ (ww hw 89 rfl) (ww hw 2 rfl) (by decide) (by decide)) q147a q147c (g := (mkF m 290 #[.val (.int pa), .val (.int pb), .val (.int pc_), .val (.int pd_), .val (.int n0_), .val (.int n1_), .val (.int l0_), .val (.int d0_), .val (.int d1_), .val (.int e0_), .val (.int e1_), .val (.int (0 : Int32)), .val (.ref b18), .val (.ref xs_37), .val (.ref b41), .val (.ref b60), .val (.ref b80), .val (.ref b132), .val (.ref co_141), .unset] [(.ref b18), (.ref b18)])) rfl (by rw [hml]; rfl) (Steps.refl _) (argsL := [(.ref b18)]) (rest := []) (lenOf pd_23 rfl) rfl (by show 2 * 0 + _ ≤ _; exact Nat.le_of_eq rfl) (hb hby at_290) (fun _ _ => ⟨rfl, e145, (by decide : 21 + 0 ≤ _), (by decide : 163 + 0 ≤ _)⟩)
    dsimp only [Pt.U, Pt.locs, Pt.cells, Pt.slots] at X147 l147 y147 z147 st147 hQ147
    subst l147 y147 z147
    obtain ⟨rfl, N147q, e147⟩ := hQ147
    have N147 := Fr.app N145 N147q
    have P148 : ∀ tt_, GG p e below T147 (mkF m 293 #[.val (.int pa), .val (.int pb), .val (.int pc_), .val (.int pd_), .val (.int n0_), .val (.int n1_), .val (.int l0_), .val (.int d0_), .val (.int d1_), .val (.int e0_), .val (.int e1_), .val (.int (0 : Int32)), .val (.ref b18), .val (.ref xs_37), .val (.ref b41), .val (.ref b60), .val (.ref b80), .val (.ref b132), .val (.ref co_141), .unset] [(.int (1 : Int32))]) tt_ → Steps p.tables e below s0 tt_ := fun tt_ kk_ => P146 tt_ (st147.trans kk_)
    have P149 : ∀ tt_, GG p e below T147 (mkF m 302 #[.val (.int pa), .val (.int pb), .val (.int pc_), .val (.int pd_), .val (.int n0_), .val (.int n1_), .val (.int l0_), .val (.int d0_), .val (.int d1_), .val (.int e0_), .val (.int e1_), .val (.int (0 : Int32)), .val (.ref b18), .val (.ref xs_37), .val (.ref b41), .val (.ref b60), .val (.ref b80), .val (.ref b132), .val (.ref co_141), .unset] [(.ref co_141), (.ref xs_37)]) tt_ → Steps p.tables e below s0 tt_ := fun tt_ kk_ => P148 tt_ (by
      refine XS.ifYes X147.here hx rfl (pc0 := 293) (pc' := 298) rfl (hb hby at_293) rfl ((if0 _ _).trans (feq ((by decide) : ¬ ((1 : Int32) = (0 : Int32)))).2) (by decide) (by decide) ?_
      refine XS.aload X147.here hx rfl (hb hby at_298) rfl rfl ?_
      refine XS.aload X147.here hx rfl (hb hby at_300) rfl rfl ?_
      exact kk_)
    obtain ⟨cq150, kq150, q150a, q150b, q150c⟩ := isOf hZ e147 E_co_141
    obtain ⟨_, _, ⟨T150, L150, k150, n150⟩, -, X150, ⟨Lc150, hQ150, l150, y150, z150⟩, st150⟩ := X147.virtualBack hx (y := mn_29) (z := mn_29) hown (mw hZ hw 90 rfl) (mw hZ hw 91 rfl) (notFace_of_selects (args := #[]) (mw hZ hw 93 rfl)) (mw hZ hw 93 rfl) (mw hZ hw 92 rfl) (by decide) (backOf (W := 1) (rm_get_labelE l Z a0 hw [] co_141 xs_37 T141.heap n0 (Nat.le_trans Z0 K141.1) F_label_co_141) hZ (ww hw 94 rfl) (ww hw 46 rfl) (by decide) (by decide)) q150a q150c (g := (mkF m 302 #[.val (.int pa), .val (.int pb), .val (.int pc_), .val (.int pd_), .val (.int n0_), .val (.int n1_), .val (.int l0_), .val (.int d0_), .val (.int d1_), .val (.int e0_), .val (.int e1_), .val (.int (0 : Int32)), .val (.ref b18), .val (.ref xs_37), .val (.ref b41), .val (.ref b60), .val (.ref b80), .val (.ref b132), .val (.ref co_141), .unset] [(.ref co_141), (.ref xs_37)])) rfl (by rw [hml]; rfl) (Steps.refl _) (argsL := []) (rest := [(.ref xs_37)]) (lenOf pd_19 rfl) rfl (by show 2 * 0 + _ ≤ _; exact Nat.le_of_eq rfl) (hb hby at_302) (fun _ _ => ⟨rfl, e147, (by decide : 21 + 0 ≤ _), (by decide : 163 + 0 ≤ _)⟩)
    dsimp only [Pt.U, Pt.locs, Pt.cells, Pt.slots] at X150 l150 y150 z150 st150 hQ150
    subst l150 y150 z150
    obtain ⟨rfl, N150q, e150⟩ := hQ150
    have N150 := Fr.app N147 N150q
    have P151 : ∀ tt_, GG p e below T150 (mkF m 305 #[.val (.int pa), .val (.int pb), .val (.int pc_), .val (.int pd_), .val (.int n0_), .val (.int n1_), .val (.int l0_), .val (.int d0_), .val (.int d1_), .val (.int e0_), .val (.int e1_), .val (.int (0 : Int32)), .val (.ref b18), .val (.ref xs_37), .val (.ref b41), .val (.ref b60), .val (.ref b80), .val (.ref b132), .val (.ref co_141), .unset] [(.ref xs_37), (.ref xs_37)]) tt_ → Steps p.tables e below s0 tt_ := fun tt_ kk_ => P149 tt_ (st150.trans kk_)
    obtain ⟨cq152, kq152, q152a, q152b, q152c⟩ := isOf hZ e150 E_xs_37
    obtain ⟨_, _, ⟨T152, L152, k152, n152⟩, -, X152, ⟨Lc152, hQ152, l152, y152, z152⟩, st152⟩ := X150.virtualBack hx (y := mn_28) (z := mn_28) hown (mw hZ hw 85 rfl) (mw hZ hw 86 rfl) (notFace_of_selects (args := #[]) (mw hZ hw 88 rfl)) (mw hZ hw 88 rfl) (mw hZ hw 87 rfl) (by decide) (backOf (W := 0) (rm_eqSame l Z a0 hw [] xs_37 T141.heap n0 (Nat.le_trans Z0 K141.1)) hZ (ww hw 89 rfl) (ww hw 2 rfl) (by decide) (by decide)) q152a q152c (g := (mkF m 305 #[.val (.int pa), .val (.int pb), .val (.int pc_), .val (.int pd_), .val (.int n0_), .val (.int n1_), .val (.int l0_), .val (.int d0_), .val (.int d1_), .val (.int e0_), .val (.int e1_), .val (.int (0 : Int32)), .val (.ref b18), .val (.ref xs_37), .val (.ref b41), .val (.ref b60), .val (.ref b80), .val (.ref b132), .val (.ref co_141), .unset] [(.ref xs_37), (.ref xs_37)])) rfl (by rw [hml]; rfl) (Steps.refl _) (argsL := [(.ref xs_37)]) (rest := []) (lenOf pd_23 rfl) rfl (by show 2 * 0 + _ ≤ _; exact Nat.le_of_eq rfl) (hb hby at_305) (fun _ _ => ⟨rfl, e150, (by decide : 21 + 0 ≤ _), (by decide : 163 + 0 ≤ _)⟩)
    dsimp only [Pt.U, Pt.locs, Pt.cells, Pt.slots] at X152 l152 y152 z152 st152 hQ152
    subst l152 y152 z152
    obtain ⟨rfl, N152q, e152⟩ := hQ152
    have N152 := Fr.app N150 N152q
    have P153 : ∀ tt_, GG p e below T152 (mkF m 308 #[.val (.int pa), .val (.int pb), .val (.int pc_), .val (.int pd_), .val (.int n0_), .val (.int n1_), .val (.int l0_), .val (.int d0_), .val (.int d1_), .val (.int e0_), .val (.int e1_), .val (.int (0 : Int32)), .val (.ref b18), .val (.ref xs_37), .val (.ref b41), .val (.ref b60), .val (.ref b80), .val (.ref b132), .val (.ref co_141), .unset] [(.int (1 : Int32))]) tt_ → Steps p.tables e below s0 tt_ := fun tt_ kk_ => P151 tt_ (st152.trans kk_)
    have P154 : ∀ tt_, GG p e below T152 (mkF m 317 #[.val (.int pa), .val (.int pb), .val (.int pc_), .val (.int pd_), .val (.int n0_), .val (.int n1_), .val (.int l0_), .val (.int d0_), .val (.int d1_), .val (.int e0_), .val (.int e1_), .val (.int (0 : Int32)), .val (.ref b18), .val (.ref xs_37), .val (.ref b41), .val (.ref b60), .val (.ref b80), .val (.ref b132), .val (.ref co_141), .unset] [(.ref co_141), (.ref b41)]) tt_ → Steps p.tables e below s0 tt_ := fun tt_ kk_ => P153 tt_ (by
      refine XS.ifYes X152.here hx rfl (pc0 := 308) (pc' := 313) rfl (hb hby at_308) rfl ((if0 _ _).trans (feq ((by decide) : ¬ ((1 : Int32) = (0 : Int32)))).2) (by decide) (by decide) ?_
      refine XS.aload X152.here hx rfl (hb hby at_313) rfl rfl ?_
      refine XS.aload X152.here hx rfl (hb hby at_315) rfl rfl ?_
      exact kk_)
    obtain ⟨cq155, kq155, q155a, q155b, q155c⟩ := isOf hZ e152 E_co_141
    obtain ⟨_, _, ⟨T155, L155, k155, n155⟩, -, X155, ⟨Lc155, hQ155, l155, y155, z155⟩, st155⟩ := X152.virtualBack hx (y := mn_30) (z := mn_30) hown (mw hZ hw 95 rfl) (mw hZ hw 96 rfl) (notFace_of_selects (args := #[]) (mw hZ hw 98 rfl)) (mw hZ hw 98 rfl) (mw hZ hw 97 rfl) (by decide) (backOf (W := 1) (rm_get_descriptionE l Z a0 hw [] co_141 b41 T141.heap n0 (Nat.le_trans Z0 K141.1) F_description_co_141) hZ (ww hw 99 rfl) (ww hw 46 rfl) (by decide) (by decide)) q155a q155c (g := (mkF m 317 #[.val (.int pa), .val (.int pb), .val (.int pc_), .val (.int pd_), .val (.int n0_), .val (.int n1_), .val (.int l0_), .val (.int d0_), .val (.int d1_), .val (.int e0_), .val (.int e1_), .val (.int (0 : Int32)), .val (.ref b18), .val (.ref xs_37), .val (.ref b41), .val (.ref b60), .val (.ref b80), .val (.ref b132), .val (.ref co_141), .unset] [(.ref co_141), (.ref b41)])) rfl (by rw [hml]; rfl) (Steps.refl _) (argsL := []) (rest := [(.ref b41)]) (lenOf pd_19 rfl) rfl (by show 2 * 0 + _ ≤ _; exact Nat.le_of_eq rfl) (hb hby at_317) (fun _ _ => ⟨rfl, e152, (by decide : 21 + 0 ≤ _), (by decide : 163 + 0 ≤ _)⟩)
    dsimp only [Pt.U, Pt.locs, Pt.cells, Pt.slots] at X155 l155 y155 z155 st155 hQ155
    subst l155 y155 z155
    obtain ⟨rfl, N155q, e155⟩ := hQ155
    have N155 := Fr.app N152 N155q
    have P156 : ∀ tt_, GG p e below T155 (mkF m 320 #[.val (.int pa), .val (.int pb), .val (.int pc_), .val (.int pd_), .val (.int n0_), .val (.int n1_), .val (.int l0_), .val (.int d0_), .val (.int d1_), .val (.int e0_), .val (.int e1_), .val (.int (0 : Int32)), .val (.ref b18), .val (.ref xs_37), .val (.ref b41), .val (.ref b60), .val (.ref b80), .val (.ref b132), .val (.ref co_141), .unset] [(.ref b41), (.ref b41)]) tt_ → Steps p.tables e below s0 tt_ := fun tt_ kk_ => P154 tt_ (st155.trans kk_)
    obtain ⟨cq157, kq157, q157a, q157b, q157c⟩ := isOf hZ e155 E_b41
    obtain ⟨_, _, ⟨T157, L157, k157, n157⟩, -, X157, ⟨Lc157, hQ157, l157, y157, z157⟩, st157⟩ := X155.virtualBack hx (y := mn_28) (z := mn_28) hown (mw hZ hw 85 rfl) (mw hZ hw 86 rfl) (notFace_of_selects (args := #[]) (mw hZ hw 88 rfl)) (mw hZ hw 88 rfl) (mw hZ hw 87 rfl) (by decide) (backOf (W := 0) (rm_eqSame l Z a0 hw [] b41 T141.heap n0 (Nat.le_trans Z0 K141.1)) hZ (ww hw 89 rfl) (ww hw 2 rfl) (by decide) (by decide)) q157a q157c (g := (mkF m 320 #[.val (.int pa), .val (.int pb), .val (.int pc_), .val (.int pd_), .val (.int n0_), .val (.int n1_), .val (.int l0_), .val (.int d0_), .val (.int d1_), .val (.int e0_), .val (.int e1_), .val (.int (0 : Int32)), .val (.ref b18), .val (.ref xs_37), .val (.ref b41), .val (.ref b60), .val (.ref b80), .val (.ref b132), .val (.ref co_141), .unset] [(.ref b41), (.ref b41)])) rfl (by rw [hml]; rfl) (Steps.refl _) (argsL := [(.ref b41)]) (rest := []) (lenOf pd_23 rfl) rfl (by show 2 * 0 + _ ≤ _; exact Nat.le_of_eq rfl) (hb hby at_320) (fun _ _ => ⟨rfl, e155, (by decide : 21 + 0 ≤ _), (by decide : 163 + 0 ≤ _)⟩)
    dsimp only [Pt.U, Pt.locs, Pt.cells, Pt.slots] at X157 l157 y157 z157 st157 hQ157
    subst l157 y157 z157
    obtain ⟨rfl, N157q, e157⟩ := hQ157
    have N157 := Fr.app N155 N157q
    have P158 : ∀ tt_, GG p e below T157 (mkF m 323 #[.val (.int pa), .val (.int pb), .val (.int pc_), .val (.int pd_), .val (.int n0_), .val (.int n1_), .val (.int l0_), .val (.int d0_), .val (.int d1_), .val (.int e0_), .val (.int e1_), .val (.int (0 : Int32)), .val (.ref b18), .val (.ref xs_37), .val (.ref b41), .val (.ref b60), .val (.ref b80), .val (.ref b132), .val (.ref co_141), .unset] [(.int (1 : Int32))]) tt_ → Steps p.tables e below s0 tt_ := fun tt_ kk_ => P156 tt_ (st157.trans kk_)
    have P159 : ∀ tt_, GG p e below T157 (mkF m 330 #[.val (.int pa), .val (.int pb), .val (.int pc_), .val (.int pd_), .val (.int n0_), .val (.int n1_), .val (.int l0_), .val (.int d0_), .val (.int d1_), .val (.int e0_), .val (.int e1_), .val (.int (0 : Int32)), .val (.ref b18), .val (.ref xs_37), .val (.ref b41), .val (.ref b60), .val (.ref b80), .val (.ref b132), .val (.ref co_141), .unset] [(.ref co_141)]) tt_ → Steps p.tables e below s0 tt_ := fun tt_ kk_ => P158 tt_ (by
      refine XS.ifYes X157.here hx rfl (pc0 := 323) (pc' := 328) rfl (hb hby at_323) rfl ((if0 _ _).trans (feq ((by decide) : ¬ ((1 : Int32) = (0 : Int32)))).2) (by decide) (by decide) ?_
      refine XS.aload X157.here hx rfl (hb hby at_328) rfl rfl ?_
      exact kk_)
    obtain ⟨cq160, kq160, q160a, q160b, q160c⟩ := isOf hZ e157 E_co_141
    obtain ⟨_, _, ⟨T160, L160, k160, n160⟩, -, X160, ⟨Lc160, hQ160, l160, y160, z160⟩, st160⟩ := X157.virtualBack hx (y := mn_31) (z := mn_31) hown (mw hZ hw 100 rfl) (mw hZ hw 101 rfl) (notFace_of_selects (args := #[]) (mw hZ hw 103 rfl)) (mw hZ hw 103 rfl) (mw hZ hw 102 rfl) (by decide) (backOf (W := 0) (rm_get_required l Z a0 hw [] co_141 T141.heap n0 (Nat.le_trans Z0 K141.1) F_required_co_141) hZ (ww hw 104 rfl) (ww hw 46 rfl) (by decide) (by decide)) q160a q160c (g := (mkF m 330 #[.val (.int pa), .val (.int pb), .val (.int pc_), .val (.int pd_), .val (.int n0_), .val (.int n1_), .val (.int l0_), .val (.int d0_), .val (.int d1_), .val (.int e0_), .val (.int e1_), .val (.int (0 : Int32)), .val (.ref b18), .val (.ref xs_37), .val (.ref b41), .val (.ref b60), .val (.ref b80), .val (.ref b132), .val (.ref co_141), .unset] [(.ref co_141)])) rfl (by rw [hml]; rfl) (Steps.refl _) (argsL := []) (rest := []) (lenOf pd_11 rfl) rfl (by show 2 * 0 + _ ≤ _; exact Nat.le_of_eq rfl) (hb hby at_330) (fun _ _ => ⟨rfl, e157, (by decide : 21 + 0 ≤ _), (by decide : 163 + 0 ≤ _)⟩)
    dsimp only [Pt.U, Pt.locs, Pt.cells, Pt.slots] at X160 l160 y160 z160 st160 hQ160
    subst l160 y160 z160
    obtain ⟨rfl, N160q, e160⟩ := hQ160
    have N160 := Fr.app N157 N160q
    have P161 : ∀ tt_, GG p e below T160 (mkF m 333 #[.val (.int pa), .val (.int pb), .val (.int pc_), .val (.int pd_), .val (.int n0_), .val (.int n1_), .val (.int l0_), .val (.int d0_), .val (.int d1_), .val (.int e0_), .val (.int e1_), .val (.int (0 : Int32)), .val (.ref b18), .val (.ref xs_37), .val (.ref b41), .val (.ref b60), .val (.ref b80), .val (.ref b132), .val (.ref co_141), .unset] [(.int (0 : Int32))]) tt_ → Steps p.tables e below s0 tt_ := fun tt_ kk_ => P159 tt_ (st160.trans kk_)
    have P162 : ∀ tt_, GG p e below T160 (mkF m 340 #[.val (.int pa), .val (.int pb), .val (.int pc_), .val (.int pd_), .val (.int n0_), .val (.int n1_), .val (.int l0_), .val (.int d0_), .val (.int d1_), .val (.int e0_), .val (.int e1_), .val (.int (0 : Int32)), .val (.ref b18), .val (.ref xs_37), .val (.ref b41), .val (.ref b60), .val (.ref b80), .val (.ref b132), .val (.ref co_141), .unset] [(.ref co_141)]) tt_ → Steps p.tables e below s0 tt_ := fun tt_ kk_ => P161 tt_ (by
      refine XS.ifYes X160.here hx rfl (pc0 := 333) (pc' := 338) rfl (hb hby at_333) rfl ((if0 _ _).trans (teq ((by decide) : (0 : Int32) = (0 : Int32))).1) (by decide) (by decide) ?_
      refine XS.aload X160.here hx rfl (hb hby at_338) rfl rfl ?_
      exact kk_)
    obtain ⟨cq163, kq163, q163a, q163b, q163c⟩ := isOf hZ e160 E_co_141
    obtain ⟨_, _, ⟨T163, L163, k163, n163⟩, -, X163, ⟨Lc163, hQ163, l163, y163, z163⟩, st163⟩ := X160.virtualBack hx (y := mn_32) (z := mn_32) hown (mw hZ hw 105 rfl) (mw hZ hw 106 rfl) (notFace_of_selects (args := #[]) (mw hZ hw 108 rfl)) (mw hZ hw 108 rfl) (mw hZ hw 107 rfl) (by decide) (backOf (W := 0) (rm_get_defaultValueN l Z a0 hw [] co_141 T141.heap n0 (Nat.le_trans Z0 K141.1) F_defaultValue_co_141) hZ (ww hw 109 rfl) (ww hw 46 rfl) (by decide) (by decide)) q163a q163c (g := (mkF m 340 #[.val (.int pa), .val (.int pb), .val (.int pc_), .val (.int pd_), .val (.int n0_), .val (.int n1_), .val (.int l0_), .val (.int d0_), .val (.int d1_), .val (.int e0_), .val (.int e1_), .val (.int (0 : Int32)), .val (.ref b18), .val (.ref xs_37), .val (.ref b41), .val (.ref b60), .val (.ref b80), .val (.ref b132), .val (.ref co_141), .unset] [(.ref co_141)])) rfl (by rw [hml]; rfl) (Steps.refl _) (argsL := []) (rest := []) (lenOf pd_19 rfl) rfl (by show 2 * 0 + _ ≤ _; exact Nat.le_of_eq rfl) (hb hby at_340) (fun _ _ => ⟨rfl, e160, (by decide : 21 + 0 ≤ _), (by decide : 163 + 0 ≤ _)⟩)
    dsimp only [Pt.U, Pt.locs, Pt.cells, Pt.slots] at X163 l163 y163 z163 st163 hQ163
    subst l163 y163 z163
    obtain ⟨rfl, N163q, e163⟩ := hQ163
    have N163 := Fr.app N160 N163q
    have P164 : ∀ tt_, GG p e below T163 (mkF m 343 #[.val (.int pa), .val (.int pb), .val (.int pc_), .val (.int pd_), .val (.int n0_), .val (.int n1_), .val (.int l0_), .val (.int d0_), .val (.int d1_), .val (.int e0_), .val (.int e1_), .val (.int (0 : Int32)), .val (.ref b18), .val (.ref xs_37), .val (.ref b41), .val (.ref b60), .val (.ref b80), .val (.ref b132), .val (.ref co_141), .unset] [.null]) tt_ → Steps p.tables e below s0 tt_ := fun tt_ kk_ => P162 tt_ (st163.trans kk_)
    have P165 : ∀ tt_, GG p e below T163 (mkF m 350 #[.val (.int pa), .val (.int pb), .val (.int pc_), .val (.int pd_), .val (.int n0_), .val (.int n1_), .val (.int l0_), .val (.int d0_), .val (.int d1_), .val (.int e0_), .val (.int e1_), .val (.int (0 : Int32)), .val (.ref b18), .val (.ref xs_37), .val (.ref b41), .val (.ref b60), .val (.ref b80), .val (.ref b132), .val (.ref co_141), .unset] [(.ref co_141)]) tt_ → Steps p.tables e below s0 tt_ := fun tt_ kk_ => P164 tt_ (by
      refine XS.ifnullYes X163.here hx rfl (pc0 := 343) (pc' := 348) rfl (hb hby at_343) rfl (by decide) (by decide) ?_
      refine XS.aload X163.here hx rfl (hb hby at_348) rfl rfl ?_
      exact kk_)
    obtain ⟨cq166, kq166, q166a, q166b, q166c⟩ := isOf hZ e163 E_co_141
    obtain ⟨_, _, ⟨T166, L166, k166, n166⟩, -, X166, hS166, hg166, ⟨Lc166, hQ166, l166, y166, z166, cC166⟩, st166⟩ := X163.virtualBackS hx (y := mn_33) (z := mn_33) hown (mw hZ hw 110 rfl) (mw hZ hw 111 rfl) (notFace_of_selects (args := #[]) (mw hZ hw 113 rfl)) (mw hZ hw 113 rfl) (mw hZ hw 112 rfl) (by decide) (backOfSH (W := 0) (rm_helpE l Z a0 hw hEL [] co_141 b41 t_56 kb_56 b60 t_75 kb_75 (d0_.toInt8.toInt32) (d1_.toInt8.toInt32) (e0_.toInt8.toInt32) (e1_.toInt8.toInt32) G1 T141.heap n0 (Nat.le_trans Z0 K141.1) F_environmentVariable_co_141 F_description_co_141 E_b41 F_value_b41 F_coder_b41 V_t_56 E_b60 F_value_b60 F_coder_b60 V_t_75 S_COMPACT_STRINGS OL hz) hZ (ww hw 114 rfl) (ww hw 46 rfl) (by decide) (by decide) hEL CR.1) q166a q166c (g := (mkF m 350 #[.val (.int pa), .val (.int pb), .val (.int pc_), .val (.int pd_), .val (.int n0_), .val (.int n1_), .val (.int l0_), .val (.int d0_), .val (.int d1_), .val (.int e0_), .val (.int e1_), .val (.int (0 : Int32)), .val (.ref b18), .val (.ref xs_37), .val (.ref b41), .val (.ref b60), .val (.ref b80), .val (.ref b132), .val (.ref co_141), .unset] [(.ref co_141)])) rfl (by rw [hml]; rfl) (Steps.refl _) (argsL := []) (rest := []) (lenOf pd_19 rfl) rfl (by show 2 * 0 + _ ≤ _; exact Nat.le_of_eq rfl) (hb hby at_350) (fun _ _ => ⟨rfl, e163, (by decide : 21 + 8 ≤ _), (by decide : 163 + 96 ≤ _)⟩)
    dsimp only [Pt.U, Pt.locs, Pt.cells, Pt.slots] at X166 l166 y166 z166 st166 hQ166 hS166 hg166 cC166
    subst l166 y166 z166
    obtain ⟨X166, hS, hZ, hown⟩ := rebS hS (by rw [e163]; exact hk) X166 hS166 hg166 hZ hown
    have hk : T166.heap.size ≤ T166.heap.size := Nat.le_refl _
    obtain ⟨xs_166, tn_166, kn_166, rfl, N166q, Kc166, po166_0, po166_1, po166_2, po166_3, po166_4, po166_5⟩ := hQ166
    have N166 := Fr.app N163 N166q
    obtain ⟨Lf167, X166, N167⟩ : ∃ Lf, Stand p l e room_1 (s.setVm T166.vm) m #[(.int pa), (.int pb), (.int pc_), (.int pd_)] below meth c T166 Lf 29 259 ∧ Fr n0 Lf := ⟨_, X166, N166⟩
    have P168 : ∀ tt_, GG p e below T166 (mkF m 353 #[.val (.int pa), .val (.int pb), .val (.int pc_), .val (.int pd_), .val (.int n0_), .val (.int n1_), .val (.int l0_), .val (.int d0_), .val (.int d1_), .val (.int e0_), .val (.int e1_), .val (.int (0 : Int32)), .val (.ref b18), .val (.ref xs_37), .val (.ref b41), .val (.ref b60), .val (.ref b80), .val (.ref b132), .val (.ref co_141), .unset] [(.ref xs_166)]) tt_ → Steps p.tables e below s0 tt_ := fun tt_ kk_ => P165 tt_ (st166.trans kk_)
    have ne_b18_xs_166 : b18 ≠ xs_166 := Nat.ne_of_lt (Nat.lt_of_lt_of_le E_b18.lt po166_0)
    have ne_b23_xs_166 : b23 ≠ xs_166 := Nat.ne_of_lt (Nat.lt_of_lt_of_le V_b23.lt po166_0)
    have ne_t_33_xs_166 : t_33 ≠ xs_166 := Nat.ne_of_lt (Nat.lt_of_lt_of_le V_t_33.lt po166_0)
    have ne_xs_37_xs_166 : xs_37 ≠ xs_166 := Nat.ne_of_lt (Nat.lt_of_lt_of_le E_xs_37.lt po166_0)
    have ne_t_37_xs_166 : t_37 ≠ xs_166 := Nat.ne_of_lt (Nat.lt_of_lt_of_le V_t_37.lt po166_0)
    have ne_b41_xs_166 : b41 ≠ xs_166 := Nat.ne_of_lt (Nat.lt_of_lt_of_le E_b41.lt po166_0)
    have ne_b46_xs_166 : b46 ≠ xs_166 := Nat.ne_of_lt (Nat.lt_of_lt_of_le V_b46.lt po166_0)
    have ne_t_56_xs_166 : t_56 ≠ xs_166 := Nat.ne_of_lt (Nat.lt_of_lt_of_le V_t_56.lt po166_0)
    have ne_b60_xs_166 : b60 ≠ xs_166 := Nat.ne_of_lt (Nat.lt_of_lt_of_le E_b60.lt po166_0)
    have ne_b65_xs_166 : b65 ≠ xs_166 := Nat.ne_of_lt (Nat.lt_of_lt_of_le V_b65.lt po166_0)
    have ne_t_75_xs_166 : t_75 ≠ xs_166 := Nat.ne_of_lt (Nat.lt_of_lt_of_le V_t_75.lt po166_0)
    have ne_b80_xs_166 : b80 ≠ xs_166 := Nat.ne_of_lt (Nat.lt_of_lt_of_le V_b80.lt po166_0)
    have ne_b132_xs_166 : b132 ≠ xs_166 := Nat.ne_of_lt (Nat.lt_of_lt_of_le E_b132.lt po166_0)
    have ne_t_137_xs_166 : t_137 ≠ xs_166 := Nat.ne_of_lt (Nat.lt_of_lt_of_le V_t_137.lt po166_0)
    have ne_co_141_xs_166 : co_141 ≠ xs_166 := Nat.ne_of_lt (Nat.lt_of_lt_of_le E_co_141.lt po166_0)
    have sz_xs_166 : h0.size ≤ xs_166 := Nat.le_trans K141.1 po166_0
    have ne_b18_tn_166 : b18 ≠ tn_166 := Nat.ne_of_lt (Nat.lt_of_lt_of_le E_b18.lt po166_1)
    have ne_b23_tn_166 : b23 ≠ tn_166 := Nat.ne_of_lt (Nat.lt_of_lt_of_le V_b23.lt po166_1)
    have ne_t_33_tn_166 : t_33 ≠ tn_166 := Nat.ne_of_lt (Nat.lt_of_lt_of_le V_t_33.lt po166_1)
    have ne_xs_37_tn_166 : xs_37 ≠ tn_166 := Nat.ne_of_lt (Nat.lt_of_lt_of_le E_xs_37.lt po166_1)
    have ne_t_37_tn_166 : t_37 ≠ tn_166 := Nat.ne_of_lt (Nat.lt_of_lt_of_le V_t_37.lt po166_1)
    have ne_b41_tn_166 : b41 ≠ tn_166 := Nat.ne_of_lt (Nat.lt_of_lt_of_le E_b41.lt po166_1)
    have ne_b46_tn_166 : b46 ≠ tn_166 := Nat.ne_of_lt (Nat.lt_of_lt_of_le V_b46.lt po166_1)
    have ne_t_56_tn_166 : t_56 ≠ tn_166 := Nat.ne_of_lt (Nat.lt_of_lt_of_le V_t_56.lt po166_1)
    have ne_b60_tn_166 : b60 ≠ tn_166 := Nat.ne_of_lt (Nat.lt_of_lt_of_le E_b60.lt po166_1)
    have ne_b65_tn_166 : b65 ≠ tn_166 := Nat.ne_of_lt (Nat.lt_of_lt_of_le V_b65.lt po166_1)
    have ne_t_75_tn_166 : t_75 ≠ tn_166 := Nat.ne_of_lt (Nat.lt_of_lt_of_le V_t_75.lt po166_1)
    have ne_b80_tn_166 : b80 ≠ tn_166 := Nat.ne_of_lt (Nat.lt_of_lt_of_le V_b80.lt po166_1)
    have ne_b132_tn_166 : b132 ≠ tn_166 := Nat.ne_of_lt (Nat.lt_of_lt_of_le E_b132.lt po166_1)
    have ne_t_137_tn_166 : t_137 ≠ tn_166 := Nat.ne_of_lt (Nat.lt_of_lt_of_le V_t_137.lt po166_1)
    have ne_co_141_tn_166 : co_141 ≠ tn_166 := Nat.ne_of_lt (Nat.lt_of_lt_of_le E_co_141.lt po166_1)
    have sz_tn_166 : h0.size ≤ tn_166 := Nat.le_trans K141.1 po166_1
    replace sf_b18 : Safe Z ELs T166.vm T166.heap b18 := cC166.safe E_b18.lt sf_b18
    replace sf_b23 : Safe Z ELs T166.vm T166.heap b23 := cC166.safe V_b23.lt sf_b23
    replace sf_t_33 : Safe Z ELs T166.vm T166.heap t_33 := cC166.safe V_t_33.lt sf_t_33
    replace sf_xs_37 : Safe Z ELs T166.vm T166.heap xs_37 := cC166.safe E_xs_37.lt sf_xs_37
    replace sf_t_37 : Safe Z ELs T166.vm T166.heap t_37 := cC166.safe V_t_37.lt sf_t_37
    replace sf_b41 : Safe Z ELs T166.vm T166.heap b41 := cC166.safe E_b41.lt sf_b41
    replace sf_b46 : Safe Z ELs T166.vm T166.heap b46 := cC166.safe V_b46.lt sf_b46
    replace sf_t_56 : Safe Z ELs T166.vm T166.heap t_56 := cC166.safe V_t_56.lt sf_t_56
    replace sf_b60 : Safe Z ELs T166.vm T166.heap b60 := cC166.safe E_b60.lt sf_b60
    replace sf_b65 : Safe Z ELs T166.vm T166.heap b65 := cC166.safe V_b65.lt sf_b65
    replace sf_t_75 : Safe Z ELs T166.vm T166.heap t_75 := cC166.safe V_t_75.lt sf_t_75
    replace sf_b80 : Safe Z ELs T166.vm T166.heap b80 := cC166.safe V_b80.lt sf_b80
    replace sf_b132 : Safe Z ELs T166.vm T166.heap b132 := cC166.safe E_b132.lt sf_b132
    replace sf_t_137 : Safe Z ELs T166.vm T166.heap t_137 := cC166.safe V_t_137.lt sf_t_137
    replace OL : Old Z n0 T166.heap := OL.keep Kc166 all0
    replace E_b18 : Exa Z T166.heap b18 "java/lang/String" := E_b18.keep Kc166
    replace V_b23 : Arv Z T166.heap b23 k23 .char (2 : Int32) (([n0_, n1_] : List Int32).map Value.int) (.int (0 : Int32)) := V_b23.keep Kc166 nin0
    replace F_coder_b18 : Fld Z T166.heap b18 "java/lang/String" "coder" "B" (.int (0 : Int32)) := F_coder_b18.keep Kc166 nin0
    replace F_value_b18 : Fld Z T166.heap b18 "java/lang/String" "value" "[B" (.ref t_33) := F_value_b18.keep Kc166 nin0
    replace V_t_33 : Arv Z T166.heap t_33 kb_33 .byte (2 : Int32) (((([n0_, n1_] : List Int32)).map (fun c => c.toInt8.toInt32)).map Value.int) (.int (0 : Int32)) := V_t_33.keep Kc166 nin0
    replace E_xs_37 : Exa Z T166.heap xs_37 "java/lang/String" := E_xs_37.keep Kc166
    replace F_value_xs_37 : Fld Z T166.heap xs_37 "java/lang/String" "value" "[B" (.ref t_37) := F_value_xs_37.keep Kc166 nin0
    replace F_coder_xs_37 : Fld Z T166.heap xs_37 "java/lang/String" "coder" "B" (.int (0 : Int32)) := F_coder_xs_37.keep Kc166 nin0
    replace V_t_37 : Arv Z T166.heap t_37 kb_37 .byte (1 : Int32) [(.int (nar .byte (l0_.toInt8.toInt32)))] (.int (0 : Int32)) := V_t_37.keep Kc166 nin0
    replace E_b41 : Exa Z T166.heap b41 "java/lang/String" := E_b41.keep Kc166
    replace V_b46 : Arv Z T166.heap b46 k46 .char (2 : Int32) (([d0_, d1_] : List Int32).map Value.int) (.int (0 : Int32)) := V_b46.keep Kc166 nin0
    replace F_coder_b41 : Fld Z T166.heap b41 "java/lang/String" "coder" "B" (.int (0 : Int32)) := F_coder_b41.keep Kc166 nin0
    replace F_value_b41 : Fld Z T166.heap b41 "java/lang/String" "value" "[B" (.ref t_56) := F_value_b41.keep Kc166 nin0
    replace V_t_56 : Arv Z T166.heap t_56 kb_56 .byte (2 : Int32) (((([d0_, d1_] : List Int32)).map (fun c => c.toInt8.toInt32)).map Value.int) (.int (0 : Int32)) := V_t_56.keep Kc166 nin0
    replace E_b60 : Exa Z T166.heap b60 "java/lang/String" := E_b60.keep Kc166
    replace V_b65 : Arv Z T166.heap b65 k65 .char (2 : Int32) (([e0_, e1_] : List Int32).map Value.int) (.int (0 : Int32)) := V_b65.keep Kc166 nin0
    replace F_coder_b60 : Fld Z T166.heap b60 "java/lang/String" "coder" "B" (.int (0 : Int32)) := F_coder_b60.keep Kc166 nin0
    replace F_value_b60 : Fld Z T166.heap b60 "java/lang/String" "value" "[B" (.ref t_75) := F_value_b60.keep Kc166 nin0
    replace V_t_75 : Arv Z T166.heap t_75 kb_75 .byte (2 : Int32) (((([e0_, e1_] : List Int32)).map (fun c => c.toInt8.toInt32)).map Value.int) (.int (0 : Int32)) := V_t_75.keep Kc166 nin0
    replace V_b80 : Arv Z T166.heap b80 k80 .char (16 : Int32) (([d0_, d1_, (32 : Int32), (68 : Int32), (101 : Int32), (102 : Int32), (97 : Int32), (117 : Int32), (108 : Int32), (116 : Int32), (58 : Int32), (32 : Int32), (36 : Int32), e0_, e1_, (46 : Int32)] : List Int32).map Value.int) (.int (0 : Int32)) := V_b80.keep Kc166 nin0
    replace E_b132 : Exa Z T166.heap b132 "java/lang/String" := E_b132.keep Kc166
    replace F_coder_b132 : Fld Z T166.heap b132 "java/lang/String" "coder" "B" (.int (0 : Int32)) := F_coder_b132.keep Kc166 nin0
    replace F_value_b132 : Fld Z T166.heap b132 "java/lang/String" "value" "[B" (.ref t_137) := F_value_b132.keep Kc166 nin0
    replace V_t_137 : Arv Z T166.heap t_137 kb_137 .byte (16 : Int32) (((([d0_, d1_, (32 : Int32), (68 : Int32), (101 : Int32), (102 : Int32), (97 : Int32), (117 : Int32), (108 : Int32), (116 : Int32), (58 : Int32), (32 : Int32), (36 : Int32), e0_, e1_, (46 : Int32)] : List Int32)).map (fun c => c.toInt8.toInt32)).map Value.int) (.int (0 : Int32)) := V_t_137.keep Kc166 nin0
    replace E_co_141 : Exa Z T166.heap co_141 "com/example/ngazi/ngazi/cli/CommandOption" := E_co_141.keep Kc166
    replace F_name_co_141 : Fld Z T166.heap co_141 "com/example/ngazi/ngazi/cli/CommandOption" "name" "Ljava/lang/String;" (.ref b18) := F_name_co_141.keep Kc166 nin0
    replace F_label_co_141 : Fld Z T166.heap co_141 "com/example/ngazi/ngazi/cli/CommandOption" "label" "Ljava/lang/String;" (.ref xs_37) := F_label_co_141.keep Kc166 nin0
    replace F_description_co_141 : Fld Z T166.heap co_141 "com/example/ngazi/ngazi/cli/CommandOption" "description" "Ljava/lang/String;" (.ref b41) := F_description_co_141.keep Kc166 nin0
    replace F_required_co_141 : Fld Z T166.heap co_141 "com/example/ngazi/ngazi/cli/CommandOption" "required" "Z" (.int (0 : Int32)) := F_required_co_141.keep Kc166 nin0
    replace F_environmentVariable_co_141 : Fld Z T166.heap co_141 "com/example/ngazi/ngazi/cli/CommandOption" "environmentVariable" "Ljava/lang/String;" (.ref b60) := F_environmentVariable_co_141.keep Kc166 nin0
    replace F_defaultValue_co_141 : Fld Z T166.heap co_141 "com/example/ngazi/ngazi/cli/CommandOption" "defaultValue" "Ljava/lang/String;" .null := F_defaultValue_co_141.keep Kc166 nin0
    replace CR : CHr Z ELs s.vm h0 T166.vm T166.heap := CR.trans cC166
    have K166 : Keep h0 T166.heap [] := K141.trans Kc166 all0
    have E_xs_166 : Exa Z T166.heap xs_166 "java/lang/String" := po166_2
    have F_value_xs_166 : Fld Z T166.heap xs_166 "java/lang/String" "value" "[B" (.ref tn_166) := po166_3
    have F_coder_xs_166 : Fld Z T166.heap xs_166 "java/lang/String" "coder" "B" (.int (0 : Int32)) := po166_4
    have V_tn_166 : Arv Z T166.heap tn_166 kn_166 .byte (16 : Int32) [(.int (d0_.toInt8.toInt32)), (.int (d1_.toInt8.toInt32)), (.int (32 : Int32)), (.int (68 : Int32)), (.int (101 : Int32)), (.int (102 : Int32)), (.int (97 : Int32)), (.int (117 : Int32)), (.int (108 : Int32)), (.int (116 : Int32)), (.int (58 : Int32)), (.int (32 : Int32)), (.int (36 : Int32)), (.int (e0_.toInt8.toInt32)), (.int (e1_.toInt8.toInt32)), (.int (46 : Int32))] (.int (0 : Int32)) := po166_5
    have P169 : ∀ tt_, GG p e below T166 (mkF m 388 #[.val (.int pa), .val (.int pb), .val (.int pc_), .val (.int pd_), .val (.int n0_), .val (.int n1_), .val (.int l0_), .val (.int d0_), .val (.int d1_), .val (.int e0_), .val (.int e1_), .val (.int (0 : Int32)), .val (.ref b18), .val (.ref xs_37), .val (.ref b41), .val (.ref b60), .val (.ref b80), .val (.ref b132), .val (.ref co_141), .val (.ref xs_166)] [(.ref co_141), (.ref b60)]) tt_ → Steps p.tables e below s0 tt_ := fun tt_ kk_ => P168 tt_ (by
      refine XS.astore X166.here hx rfl (hb hby at_353) rfl rfl (l' := #[.val (.int pa), .val (.int pb), .val (.int pc_), .val (.int pd_), .val (.int n0_), .val (.int n1_), .val (.int l0_), .val (.int d0_), .val (.int d1_), .val (.int e0_), .val (.int e1_), .val (.int (0 : Int32)), .val (.ref b18), .val (.ref xs_37), .val (.ref b41), .val (.ref b60), .val (.ref b80), .val (.ref b132), .val (.ref co_141), .val (.ref xs_166)]) rfl ?_
      refine XS.iload X166.here hx rfl (hb hby at_355) rfl ?_
      refine XS.ifYes X166.here hx rfl (pc0 := 357) (pc' := 384) rfl (hb hby at_357) rfl ((if0 _ _).trans (teq ((by decide) : (0 : Int32) = (0 : Int32))).1) (by decide) (by decide) ?_
      refine XS.aload X166.here hx rfl (hb hby at_384) rfl rfl ?_
      refine XS.aload X166.here hx rfl (hb hby at_386) rfl rfl ?_
      exact kk_)
    obtain ⟨cq170, kq170, q170a, q170b, q170c⟩ := isOf hZ rfl E_co_141
    obtain ⟨_, _, ⟨T170, L170, k170, n170⟩, -, X170, ⟨Lc170, hQ170, l170, y170, z170⟩, st170⟩ := X166.virtualBack hx (y := mn_34) (z := mn_34) hown (mw hZ hw 115 rfl) (mw hZ hw 116 rfl) (notFace_of_selects (args := #[]) (mw hZ hw 118 rfl)) (mw hZ hw 118 rfl) (mw hZ hw 117 rfl) (by decide) (backOf (W := 1) (rm_get_environmentVariableE l Z a0 hw [] co_141 b60 T166.heap n0 (Nat.le_trans Z0 K166.1) F_environmentVariable_co_141) hZ (ww hw 119 rfl) (ww hw 46 rfl) (by decide) (by decide)) q170a q170c (g := (mkF m 388 #[.val (.int pa), .val (.int pb), .val (.int pc_), .val (.int pd_), .val (.int n0_), .val (.int n1_), .val (.int l0_), .val (.int d0_), .val (.int d1_), .val (.int e0_), .val (.int e1_), .val (.int (0 : Int32)), .val (.ref b18), .val (.ref xs_37), .val (.ref b41), .val (.ref b60), .val (.ref b80), .val (.ref b132), .val (.ref co_141), .val (.ref xs_166)] [(.ref co_141), (.ref b60)])) rfl (by rw [hml]; rfl) (Steps.refl _) (argsL := []) (rest := [(.ref b60)]) (lenOf pd_19 rfl) rfl (by show 2 * 0 + _ ≤ _; exact Nat.le_of_eq rfl) (hb hby at_388) (fun _ _ => ⟨rfl, rfl, (by decide : 29 + 0 ≤ _), (by decide : 259 + 0 ≤ _)⟩)
    dsimp only [Pt.U, Pt.locs, Pt.cells, Pt.slots] at X170 l170 y170 z170 st170 hQ170
    subst l170 y170 z170
    obtain ⟨rfl, N170q, e170⟩ := hQ170
    have N170 := Fr.app N167 N170q
    have P171 : ∀ tt_, GG p e below T170 (mkF m 391 #[.val (.int pa), .val (.int pb), .val (.int pc_), .val (.int pd_), .val (.int n0_), .val (.int n1_), .val (.int l0_), .val (.int d0_), .val (.int d1_), .val (.int e0_), .val (.int e1_), .val (.int (0 : Int32)), .val (.ref b18), .val (.ref xs_37), .val (.ref b41), .val (.ref b60), .val (.ref b80), .val (.ref b132), .val (.ref co_141), .val (.ref xs_166)] [(.ref b60), (.ref b60)]) tt_ → Steps p.tables e below s0 tt_ := fun tt_ kk_ => P169 tt_ (st170.trans kk_)
    obtain ⟨cq172, kq172, q172a, q172b, q172c⟩ := isOf hZ e170 E_b60
    obtain ⟨_, _, ⟨T172, L172, k172, n172⟩, -, X172, ⟨Lc172, hQ172, l172, y172, z172⟩, st172⟩ := X170.virtualBack hx (y := mn_28) (z := mn_28) hown (mw hZ hw 85 rfl) (mw hZ hw 86 rfl) (notFace_of_selects (args := #[]) (mw hZ hw 88 rfl)) (mw hZ hw 88 rfl) (mw hZ hw 87 rfl) (by decide) (backOf (W := 0) (rm_eqSame l Z a0 hw [] b60 T166.heap n0 (Nat.le_trans Z0 K166.1)) hZ (ww hw 89 rfl) (ww hw 2 rfl) (by decide) (by decide)) q172a q172c (g := (mkF m 391 #[.val (.int pa), .val (.int pb), .val (.int pc_), .val (.int pd_), .val (.int n0_), .val (.int n1_), .val (.int l0_), .val (.int d0_), .val (.int d1_), .val (.int e0_), .val (.int e1_), .val (.int (0 : Int32)), .val (.ref b18), .val (.ref xs_37), .val (.ref b41), .val (.ref b60), .val (.ref b80), .val (.ref b132), .val (.ref co_141), .val (.ref xs_166)] [(.ref b60), (.ref b60)])) rfl (by rw [hml]; rfl) (Steps.refl _) (argsL := [(.ref b60)]) (rest := []) (lenOf pd_23 rfl) rfl (by show 2 * 0 + _ ≤ _; exact Nat.le_of_eq rfl) (hb hby at_391) (fun _ _ => ⟨rfl, e170, (by decide : 29 + 0 ≤ _), (by decide : 259 + 0 ≤ _)⟩)
    dsimp only [Pt.U, Pt.locs, Pt.cells, Pt.slots] at X172 l172 y172 z172 st172 hQ172
    subst l172 y172 z172
    obtain ⟨rfl, N172q, e172⟩ := hQ172
    have N172 := Fr.app N170 N172q
    have P173 : ∀ tt_, GG p e below T172 (mkF m 394 #[.val (.int pa), .val (.int pb), .val (.int pc_), .val (.int pd_), .val (.int n0_), .val (.int n1_), .val (.int l0_), .val (.int d0_), .val (.int d1_), .val (.int e0_), .val (.int e1_), .val (.int (0 : Int32)), .val (.ref b18), .val (.ref xs_37), .val (.ref b41), .val (.ref b60), .val (.ref b80), .val (.ref b132), .val (.ref co_141), .val (.ref xs_166)] [(.int (1 : Int32))]) tt_ → Steps p.tables e below s0 tt_ := fun tt_ kk_ => P171 tt_ (st172.trans kk_)
    have P174 : ∀ tt_, GG p e below T172 (mkF m 403 #[.val (.int pa), .val (.int pb), .val (.int pc_), .val (.int pd_), .val (.int n0_), .val (.int n1_), .val (.int l0_), .val (.int d0_), .val (.int d1_), .val (.int e0_), .val (.int e1_), .val (.int (0 : Int32)), .val (.ref b18), .val (.ref xs_37), .val (.ref b41), .val (.ref b60), .val (.ref b80), .val (.ref b132), .val (.ref co_141), .val (.ref xs_166)] [(.ref xs_166), (.ref b132)]) tt_ → Steps p.tables e below s0 tt_ := fun tt_ kk_ => P173 tt_ (by
      refine XS.ifYes X172.here hx rfl (pc0 := 394) (pc' := 399) rfl (hb hby at_394) rfl ((if0 _ _).trans (feq ((by decide) : ¬ ((1 : Int32) = (0 : Int32)))).2) (by decide) (by decide) ?_
      refine XS.aload X172.here hx rfl (hb hby at_399) rfl rfl ?_
      refine XS.aload X172.here hx rfl (hb hby at_401) rfl rfl ?_
      exact kk_)
    obtain ⟨cq175, kq175, q175a, q175b, q175c⟩ := isOf hZ e172 E_b132
    obtain ⟨_, _, ⟨T175, L175, k175, n175⟩, -, X175, ⟨Lc175, hQ175, l175, y175, z175⟩, st175⟩ := X172.virtualBack hx (y := mn_28) (z := mn_28) hown (mw hZ hw 85 rfl) (mw hZ hw 86 rfl) (notFace_of_selects (args := #[]) (mw hZ hw 88 rfl)) (mw hZ hw 88 rfl) (mw hZ hw 87 rfl) (by decide) (StrChars.Road.eqW (W := 0) hZ (own_wEq hw) (kI := 4) (ww hw 1 rfl) E_b132 F_value_b132 F_coder_b132 V_t_137 (StrChars.Road.codOf (cs := ([d0_, d1_, (32 : Int32), (68 : Int32), (101 : Int32), (102 : Int32), (97 : Int32), (117 : Int32), (108 : Int32), (116 : Int32), (58 : Int32), (32 : Int32), (36 : Int32), e0_, e1_, (46 : Int32)] : List Int32)) (n := 16) rfl (fun x hx => (hp136 x hx).2)) (own_up _ hp136) (Nat.le_of_ble_eq_true rfl) E_xs_166 F_value_xs_166 F_coder_xs_166 V_tn_166 (StrChars.Road.codOf (cs := ([d0_, d1_, (32 : Int32), (68 : Int32), (101 : Int32), (102 : Int32), (97 : Int32), (117 : Int32), (108 : Int32), (116 : Int32), (58 : Int32), (32 : Int32), (36 : Int32), e0_, e1_, (46 : Int32)] : List Int32)) (n := 16) rfl (fun x hx => (hp136 x hx).2)) (own_up _ hp136) (Nat.le_of_ble_eq_true rfl) (S_COMPACT_STRINGS.ext OL.2) hz (by decide) (by decide)) q175a q175c (g := (mkF m 403 #[.val (.int pa), .val (.int pb), .val (.int pc_), .val (.int pd_), .val (.int n0_), .val (.int n1_), .val (.int l0_), .val (.int d0_), .val (.int d1_), .val (.int e0_), .val (.int e1_), .val (.int (0 : Int32)), .val (.ref b18), .val (.ref xs_37), .val (.ref b41), .val (.ref b60), .val (.ref b80), .val (.ref b132), .val (.ref co_141), .val (.ref xs_166)] [(.ref xs_166), (.ref b132)])) rfl (by rw [hml]; rfl) (Steps.refl _) (argsL := [(.ref xs_166)]) (rest := []) (lenOf pd_23 rfl) rfl (by show 2 * 0 + _ ≤ _; exact Nat.le_of_eq rfl) (hb hby at_403) (fun _ _ => ⟨rfl, e172, (by decide : 29 + 0 ≤ _), (by decide : 259 + 0 ≤ _)⟩)
    dsimp only [Pt.U, Pt.locs, Pt.cells, Pt.slots] at X175 l175 y175 z175 st175 hQ175
    subst l175 y175 z175
    obtain ⟨hv175, rfl, e175⟩ := hQ175
    obtain rfl : _ = some (Value.int (1 : Int32)) := hv175.elim (fun q => q.1) (fun q => absurd rfl q.2)
    have N175q : Fr n0 ([] : List Loc) := Fr.nil n0
    have N175 := Fr.app N172 N175q
    have P176 : ∀ tt_, GG p e below T175 (mkF m 406 #[.val (.int pa), .val (.int pb), .val (.int pc_), .val (.int pd_), .val (.int n0_), .val (.int n1_), .val (.int l0_), .val (.int d0_), .val (.int d1_), .val (.int e0_), .val (.int e1_), .val (.int (0 : Int32)), .val (.ref b18), .val (.ref xs_37), .val (.ref b41), .val (.ref b60), .val (.ref b80), .val (.ref b132), .val (.ref co_141), .val (.ref xs_166)] [(.int (1 : Int32))]) tt_ → Steps p.tables e below s0 tt_ := fun tt_ kk_ => P174 tt_ (st175.trans kk_)
    subst hs0
    obtain ⟨fs, hr, hrun, hended, hREW⟩ := X175.leaveW hS (by rw [e175]; exact hk) (v := some (.int (nar .boolean (1 : Int32)))) (fun h => by rw [Bd.returns] at h; cases h)
    have CRT := CR.trans (CHv.at X175 hZ hEL CR.1)
    refine ⟨_, _, P176 _ ?_, hrun, hended, _, _, rfl, ?_, ?_, hREW.1, hREW.2.1, hREW.2.2.1, hREW.2.2.2.mono (by decide) (by decide)⟩
    · show GG p e below T175 (mkF m 406 #[.val (.int pa), .val (.int pb), .val (.int pc_), .val (.int pd_), .val (.int n0_), .val (.int n1_), .val (.int l0_), .val (.int d0_), .val (.int d1_), .val (.int e0_), .val (.int e1_), .val (.int (0 : Int32)), .val (.ref b18), .val (.ref xs_37), .val (.ref b41), .val (.ref b60), .val (.ref b80), .val (.ref b132), .val (.ref co_141), .val (.ref xs_166)] [(.int (1 : Int32))]) _
      exact retN X175 hx (t := .boolean) Bd.returns (by simp) (hb hby at_406) hr
    · show Q_law Z pa pb pc_ pd_ G1 h0 n0 _ T175.heap _
      rw [e175]
      exact ⟨rfl, N175, K166⟩
    · show CHr Z ELs s.vm s.heap T175.vm T175.heap
      rw [hh, e175]
      exact CRT
  ·
    have P177 : ∀ tt_, GG p e below s₁ (mkF m 81 #[.val (.int pa), .val (.int pb), .val (.int pc_), .val (.int pd_), .val (.int n0_), .val (.int n1_), .val (.int l0_), .val (.int d0_), .val (.int d1_), .val (.int e0_), .val (.int e1_), .val (.int (1 : Int32)), .unset, .unset, .unset, .unset, .unset, .unset, .unset, .unset] []) tt_ → Steps p.tables e below s0 tt_ := fun tt_ kk_ => P15 tt_ (by
      refine XS.ifNo X0.here hx rfl (hb hby at_71) rfl ((if0 _ _).trans (feq (hc71_16 : ¬ ((pd_ &&& (1 : Int32)) = (0 : Int32)))).1) ?_
      refine XS.iconst X0.here hx rfl (hb hby at_74) ?_
      refine XS.goto X0.here hx rfl (pc0 := 75) (pc' := 79) rfl (hb hby at_75) (by decide) (by decide) ?_
      refine XS.istore X0.here hx rfl (hb hby at_79) rfl (l' := #[.val (.int pa), .val (.int pb), .val (.int pc_), .val (.int pd_), .val (.int n0_), .val (.int n1_), .val (.int l0_), .val (.int d0_), .val (.int d1_), .val (.int e0_), .val (.int e1_), .val (.int (1 : Int32)), .unset, .unset, .unset, .unset, .unset, .unset, .unset, .unset]) rfl ?_
      exact kk_)
    obtain ⟨T178, h178, X178, e178, E178, A178, D178, -, st178⟩ := newO X0 hx hZ hown (ww hw 0 rfl) (ww hw 1 rfl) (ww hw 2 rfl) e0 (g := (mkF m 81 #[.val (.int pa), .val (.int pb), .val (.int pc_), .val (.int pd_), .val (.int n0_), .val (.int n1_), .val (.int l0_), .val (.int d0_), .val (.int d1_), .val (.int e0_), .val (.int e1_), .val (.int (1 : Int32)), .unset, .unset, .unset, .unset, .unset, .unset, .unset, .unset] [])) rfl (hb hby at_81) (by decide) (by decide)
    obtain ⟨b178, g178⟩ : ∃ z, z = h0.size := ⟨_, rfl⟩
    rw [← g178] at A178 D178 st178
    have P179 : ∀ tt_, GG p e below T178 (mkF m 84 #[.val (.int pa), .val (.int pb), .val (.int pc_), .val (.int pd_), .val (.int n0_), .val (.int n1_), .val (.int l0_), .val (.int d0_), .val (.int d1_), .val (.int e0_), .val (.int e1_), .val (.int (1 : Int32)), .unset, .unset, .unset, .unset, .unset, .unset, .unset, .unset] [(.ref b178)]) tt_ → Steps p.tables e below s0 tt_ := fun tt_ kk_ => P177 tt_ (st178 _ kk_)
    have sz_b178 : h0.size ≤ b178 := Nat.le_trans (Nat.le_refl h0.size) (Nat.le_of_eq g178.symm)
    have sf_b178 : Safe Z ELs s.vm h0 b178 := Safe.new (Nat.le_of_eq g178.symm)
    replace sf_b178 : Safe Z ELs s.vm h178 b178 := Safe.ext E178 CR.1 sf_b178
    replace OL : Old Z n0 h178 := OL.ext E178
    replace CR : CHr Z ELs s.vm h0 s.vm h178 := CR.trans (CHr.ext E178 CR.1)
    replace hk := Nat.le_trans hk E178.1
    have K178 : Keep h0 h178 [] := (Keep.refl h0 []).ext E178
    obtain ⟨Lf180, X178, N180⟩ : ∃ Lf, Stand p l e room_1 (s.setVm s.vm) m #[(.int pa), (.int pb), (.int pc_), (.int pd_)] below meth c T178 Lf 1 4 ∧ Fr n0 Lf := ⟨_, X178, N0⟩
    have E_b178 : Exa Z h178 b178 "java/lang/String" := A178
    have F_coder_b178 : Fld Z h178 b178 "java/lang/String" "coder" "B" (.int (0 : Int32)) := D178 (Or.inr (ww hw 27 rfl)) (ty := .byte) (by decide)
    have F_value_b178 : Fld Z h178 b178 "java/lang/String" "value" "[B" .null := D178 (Or.inr (ww hw 29 rfl)) (ty := (.array .byte)) (by decide)
    have P181 : ∀ tt_, GG p e below T178 (mkF m 86 #[.val (.int pa), .val (.int pb), .val (.int pc_), .val (.int pd_), .val (.int n0_), .val (.int n1_), .val (.int l0_), .val (.int d0_), .val (.int d1_), .val (.int e0_), .val (.int e1_), .val (.int (1 : Int32)), .unset, .unset, .unset, .unset, .unset, .unset, .unset, .unset] [(.int (2 : Int32)), (.ref b178), (.ref b178)]) tt_ → Steps p.tables e below s0 tt_ := fun tt_ kk_ => P179 tt_ (by
      refine XS.dup X178.here hx rfl (hb hby at_84) rfl rfl ?_
      refine XS.iconst X178.here hx rfl (hb hby at_85) ?_
      exact kk_)
    have CRb182 := CR
    obtain ⟨T183, h183, k183, X183, e183, E183, A183, st183⟩ := newP X178 hx hZ (ww hw 3 rfl) e178 (g := (mkF m 86 #[.val (.int pa), .val (.int pb), .val (.int pc_), .val (.int pd_), .val (.int n0_), .val (.int n1_), .val (.int l0_), .val (.int d0_), .val (.int d1_), .val (.int e0_), .val (.int e1_), .val (.int (1 : Int32)), .unset, .unset, .unset, .unset, .unset, .unset, .unset, .unset] [(.int (2 : Int32)), (.ref b178), (.ref b178)])) rfl (hb hby at_86) rfl (by decide) (cap := 2) (by decide) (by decide) (by decide) (by decide)
    obtain ⟨b183, g183⟩ : ∃ z, z = h178.size := ⟨_, rfl⟩
    rw [← g183] at A183 st183
    have P184 : ∀ tt_, GG p e below T183 (mkF m 88 #[.val (.int pa), .val (.int pb), .val (.int pc_), .val (.int pd_), .val (.int n0_), .val (.int n1_), .val (.int l0_), .val (.int d0_), .val (.int d1_), .val (.int e0_), .val (.int e1_), .val (.int (1 : Int32)), .unset, .unset, .unset, .unset, .unset, .unset, .unset, .unset] [(.ref b183), (.ref b178), (.ref b178)]) tt_ → Steps p.tables e below s0 tt_ := fun tt_ kk_ => P181 tt_ (st183 _ kk_)
    have ne_b178_b183 : b178 ≠ b183 := Nat.ne_of_lt (Nat.lt_of_lt_of_le (Nat.lt_of_lt_of_le E_b178.lt (Keep.refl h178 []).1) (Nat.le_of_eq g183.symm))
    have sz_b183 : h0.size ≤ b183 := Nat.le_trans K178.1 (Nat.le_of_eq g183.symm)
    have szB_b183 : h178.size ≤ b183 := Nat.le_trans (Keep.refl h178 []).1 (Nat.le_of_eq g183.symm)
    have sf_b183 : Safe Z ELs s.vm h178 b183 := Safe.new (Nat.le_of_eq g183.symm)
    replace sf_b183 : Safe Z ELs s.vm h183 b183 := Safe.ext E183 CR.1 sf_b183
    replace CR : CHr Z ELs s.vm h0 s.vm h183 := CR.trans (CHr.ext E183 CR.1)
    replace hk := Nat.le_trans hk E183.1
    have K183 : Keep h0 h183 [] := K178.ext E183
    have KB183 : Keep h178 h183 [] := (Keep.refl h178 []).ext E183
    obtain ⟨Lf185, X183, N185⟩ : ∃ Lf, Stand p l e room_1 (s.setVm s.vm) m #[(.int pa), (.int pb), (.int pc_), (.int pd_)] below meth c T183 Lf 2 6 ∧ Fr n0 Lf := ⟨_, X183, N180⟩
    have V_b183 : Arv Z h183 b183 k183 .char (2 : Int32) [(.int (0 : Int32)), (.int (0 : Int32))] (.int (0 : Int32)) := (Arv.new A183 (by decide)).pad (pad_rep [] (.int (0 : Int32)) 2)
    have P186 : ∀ tt_, GG p e below T183 (mkF m 92 #[.val (.int pa), .val (.int pb), .val (.int pc_), .val (.int pd_), .val (.int n0_), .val (.int n1_), .val (.int l0_), .val (.int d0_), .val (.int d1_), .val (.int e0_), .val (.int e1_), .val (.int (1 : Int32)), .unset, .unset, .unset, .unset, .unset, .unset, .unset, .unset] [(.int n0_), (.int (0 : Int32)), (.ref b183), (.ref b183), (.ref b178), (.ref b178)]) tt_ → Steps p.tables e below s0 tt_ := fun tt_ kk_ => P184 tt_ (by
      refine XS.dup X183.here hx rfl (hb hby at_88) rfl rfl ?_
      refine XS.iconst X183.here hx rfl (hb hby at_89) ?_
      refine XS.iload X183.here hx rfl (hb hby at_90) rfl ?_
      exact kk_)
    obtain ⟨cl187, Ar187, q187, S187, M187, Hs187, G187⟩ := V_b183
    obtain ⟨T187, h187, X187, e187, W187, st187⟩ := stC X183 hx hZ e183 Ar187 (j := (0 : Int32)) (inb_of S187 ⟨by decide, by decide⟩) (g := (mkF m 92 #[.val (.int pa), .val (.int pb), .val (.int pc_), .val (.int pd_), .val (.int n0_), .val (.int n1_), .val (.int l0_), .val (.int d0_), .val (.int d1_), .val (.int e0_), .val (.int e1_), .val (.int (1 : Int32)), .unset, .unset, .unset, .unset, .unset, .unset, .unset, .unset] [(.int n0_), (.int (0 : Int32)), (.ref b183), (.ref b183), (.ref b178), (.ref b178)])) rfl rfl (hb hby at_92)
    have P188 : ∀ tt_, GG p e below T187 (mkF m 93 #[.val (.int pa), .val (.int pb), .val (.int pc_), .val (.int pd_), .val (.int n0_), .val (.int n1_), .val (.int l0_), .val (.int d0_), .val (.int d1_), .val (.int e0_), .val (.int e1_), .val (.int (1 : Int32)), .unset, .unset, .unset, .unset, .unset, .unset, .unset, .unset] [(.ref b183), (.ref b178), (.ref b178)]) tt_ → Steps p.tables e below s0 tt_ := fun tt_ kk_ => P186 tt_ (st187 _ kk_)
    have N187 := Fr.snoc X187 N185 (Nat.le_trans Z0 sz_b183)
    have K187 : Keep h0 h187 [] := K183.wr W187 (Or.inr sz_b183)
    have KB187 : Keep h178 h187 [] := KB183.wr W187 (Or.inr szB_b183)
    have sfw187 : Safe Z ELs s.vm h183 b183 := sf_b183
    replace sf_b183 : Safe Z ELs s.vm h187 b183 := Safe.wr W187 sfw187 CR.1 sf_b183
    replace CR : CHr Z ELs s.vm h0 s.vm h187 := CR.trans (CHr.wr W187 sfw187 CR.1)
    replace hk := Nat.le_trans hk (Keep.of_wr W187).1
    have V_b183 : Arv Z h187 b183 k183 .char (2 : Int32) [(.int (nar .char n0_)), (.int (0 : Int32))] (.int (0 : Int32)) := Arv.set Ar187 q187 S187 M187 Hs187 G187 (fits_nar_char _) W187 0 rfl (Nat.le_of_ble_eq_true rfl)
    have P189 : ∀ tt_, GG p e below T187 (mkF m 97 #[.val (.int pa), .val (.int pb), .val (.int pc_), .val (.int pd_), .val (.int n0_), .val (.int n1_), .val (.int l0_), .val (.int d0_), .val (.int d1_), .val (.int e0_), .val (.int e1_), .val (.int (1 : Int32)), .unset, .unset, .unset, .unset, .unset, .unset, .unset, .unset] [(.int n1_), (.int (1 : Int32)), (.ref b183), (.ref b183), (.ref b178), (.ref b178)]) tt_ → Steps p.tables e below s0 tt_ := fun tt_ kk_ => P188 tt_ (by
      refine XS.dup X187.here hx rfl (hb hby at_93) rfl rfl ?_
      refine XS.iconst X187.here hx rfl (hb hby at_94) ?_
      refine XS.iload X187.here hx rfl (hb hby at_95) rfl ?_
      exact kk_)
    obtain ⟨cl190, Ar190, q190, S190, M190, Hs190, G190⟩ := V_b183
    obtain ⟨T190, h190, X190, e190, W190, st190⟩ := stC X187 hx hZ e187 Ar190 (j := (1 : Int32)) (inb_of S190 ⟨by decide, by decide⟩) (g := (mkF m 97 #[.val (.int pa), .val (.int pb), .val (.int pc_), .val (.int pd_), .val (.int n0_), .val (.int n1_), .val (.int l0_), .val (.int d0_), .val (.int d1_), .val (.int e0_), .val (.int e1_), .val (.int (1 : Int32)), .unset, .unset, .unset, .unset, .unset, .unset, .unset, .unset] [(.int n1_), (.int (1 : Int32)), (.ref b183), (.ref b183), (.ref b178), (.ref b178)])) rfl rfl (hb hby at_97)
    have P191 : ∀ tt_, GG p e below T190 (mkF m 98 #[.val (.int pa), .val (.int pb), .val (.int pc_), .val (.int pd_), .val (.int n0_), .val (.int n1_), .val (.int l0_), .val (.int d0_), .val (.int d1_), .val (.int e0_), .val (.int e1_), .val (.int (1 : Int32)), .unset, .unset, .unset, .unset, .unset, .unset, .unset, .unset] [(.ref b183), (.ref b178), (.ref b178)]) tt_ → Steps p.tables e below s0 tt_ := fun tt_ kk_ => P189 tt_ (st190 _ kk_)
    have N190 := Fr.snoc X190 N187 (Nat.le_trans Z0 sz_b183)
    have K190 : Keep h0 h190 [] := K187.wr W190 (Or.inr sz_b183)
    have KB190 : Keep h178 h190 [] := KB187.wr W190 (Or.inr szB_b183)
    have sfw190 : Safe Z ELs s.vm h187 b183 := sf_b183
    replace sf_b183 : Safe Z ELs s.vm h190 b183 := Safe.wr W190 sfw190 CR.1 sf_b183
    replace CR : CHr Z ELs s.vm h0 s.vm h190 := CR.trans (CHr.wr W190 sfw190 CR.1)
    replace hk := Nat.le_trans hk (Keep.of_wr W190).1
    have V_b183 : Arv Z h190 b183 k183 .char (2 : Int32) [(.int (nar .char n0_)), (.int (nar .char n1_))] (.int (0 : Int32)) := Arv.set Ar190 q190 S190 M190 Hs190 G190 (fits_nar_char _) W190 1 rfl (Nat.le_of_ble_eq_true rfl)
    replace sf_b178 : Safe Z ELs s.vm h190 b178 := Safe.keep KB190 sf0 CRb182.1 sf_b178
    replace OL : Old Z n0 h190 := OL.keep KB190 all0
    replace E_b178 : Exa Z h190 b178 "java/lang/String" := E_b178.keep KB190
    replace F_coder_b178 : Fld Z h190 b178 "java/lang/String" "coder" "B" (.int (0 : Int32)) := F_coder_b178.keep KB190 nin0
    replace F_value_b178 : Fld Z h190 b178 "java/lang/String" "value" "[B" .null := F_value_b178.keep KB190 nin0
    replace V_b183 : Arv Z h190 b183 k183 .char (2 : Int32) (([n0_, n1_] : List Int32).map Value.int) (.int (0 : Int32)) := by
      have q := V_b183
      rw [na_n0_, na_n1_] at q
      exact q
    have hp192 : ∀ c ∈ ([n0_, n1_] : List Int32), ¬ c < 0 ∧ ¬ (255 : Int32) < c := by
      intro c hc
      simp only [List.mem_cons, List.not_mem_nil, or_false] at hc
      rcases hc with rfl | rfl
      · exact ok_n0_
      · exact ok_n1_
    obtain ⟨_, _, ⟨T193, L193, k193, n193⟩, -, X193, ⟨Lc193, hQ193, l193, y193, z193⟩, st193⟩ := X190.specialBack hx (y := mn_24) rfl hown (mw hZ hw 4 rfl) (mw hZ hw 5 rfl) (mw hZ hw 6 rfl) (by decide) (StrChars.Road.backV (W := 1) hZ (own_wNew hw) (kI := 4) (ww hw 1 rfl) (cs := ([n0_, n1_] : List Int32)) (bs := (([n0_, n1_] : List Int32)).map (fun c => c.toInt8.toInt32)) (n := 2) (Nat.le_trans Z0 sz_b178) (Nat.le_trans Z0 K190.1) E_b178 F_value_b178 F_coder_b178 V_b183 (S_COMPACT_STRINGS.ext OL.2) hz rfl rfl (by decide) (by decide) hp192 rfl (by decide) (by decide)) (g := (mkF m 98 #[.val (.int pa), .val (.int pb), .val (.int pc_), .val (.int pd_), .val (.int n0_), .val (.int n1_), .val (.int l0_), .val (.int d0_), .val (.int d1_), .val (.int e0_), .val (.int e1_), .val (.int (1 : Int32)), .unset, .unset, .unset, .unset, .unset, .unset, .unset, .unset] [(.ref b183), (.ref b178), (.ref b178)])) rfl (by rw [hml]; rfl) (Steps.refl _) (a := b178) (argsL := [(.ref b183)]) (rest := [(.ref b178)]) (lenOf pd_20 rfl) rfl (by show 2 * 0 + _ ≤ _; exact Nat.le_of_eq rfl) (hb hby at_98) (fun _ _ => ⟨rfl, e190, (by decide : 2 + 1 ≤ _), (by decide : 6 + 2 ≤ _)⟩)
    dsimp only [Pt.U, Pt.locs, Pt.cells, Pt.slots] at X193 l193 y193 z193 st193 hQ193
    subst l193 y193 z193
    obtain ⟨rfl, N193q, Kc193, po193_0, po193_1, t_193, kb_193, po193_2, po193_3, po193_4, po193_5, po193_6⟩ := hQ193
    have N193 := Fr.app N190 N193q
    obtain ⟨Lf194, X193, N194⟩ : ∃ Lf, Stand p l e room_1 (s.setVm s.vm) m #[(.int pa), (.int pb), (.int pc_), (.int pd_)] below meth c T193 Lf 3 8 ∧ Fr n0 Lf := ⟨_, X193, N193⟩
    have P195 : ∀ tt_, GG p e below T193 (mkF m 101 #[.val (.int pa), .val (.int pb), .val (.int pc_), .val (.int pd_), .val (.int n0_), .val (.int n1_), .val (.int l0_), .val (.int d0_), .val (.int d1_), .val (.int e0_), .val (.int e1_), .val (.int (1 : Int32)), .unset, .unset, .unset, .unset, .unset, .unset, .unset, .unset] [(.ref b178)]) tt_ → Steps p.tables e below s0 tt_ := fun tt_ kk_ => P191 tt_ (st193.trans kk_)
    have ne_b178_t_193 : b178 ≠ t_193 := Nat.ne_of_lt (Nat.lt_of_lt_of_le E_b178.lt po193_3)
    have ne_b183_t_193 : b183 ≠ t_193 := Nat.ne_of_lt (Nat.lt_of_lt_of_le V_b183.lt po193_3)
    have sz_t_193 : h0.size ≤ t_193 := Nat.le_trans K190.1 po193_3
    have sf_t_193 : Safe Z ELs s.vm h190 t_193 := Safe.new po193_3
    have sfk193 := ((sfS sf_b178 sf0) : ∀ x ∈ [b178], Safe Z ELs s.vm h190 x)
    replace sf_b178 : Safe Z ELs s.vm T193.heap b178 := Safe.keep Kc193 sfk193 CR.1 sf_b178
    replace sf_b183 : Safe Z ELs s.vm T193.heap b183 := Safe.keep Kc193 sfk193 CR.1 sf_b183
    replace sf_t_193 : Safe Z ELs s.vm T193.heap t_193 := Safe.keep Kc193 sfk193 CR.1 sf_t_193
    replace OL : Old Z n0 T193.heap := OL.keep Kc193 (allS (Nat.le_trans Z0 sz_b178) all0)
    replace E_b178 : Exa Z T193.heap b178 "java/lang/String" := E_b178.keep Kc193
    replace V_b183 : Arv Z T193.heap b183 k183 .char (2 : Int32) (([n0_, n1_] : List Int32).map Value.int) (.int (0 : Int32)) := V_b183.keep Kc193 (ninS (Ne.symm ne_b178_b183) nin0)
    replace CR : CHr Z ELs s.vm h0 s.vm T193.heap := CR.trans (CHr.keep Kc193 sfk193 CR.1)
    replace hk := Nat.le_trans hk Kc193.1
    have K193 : Keep h0 T193.heap [] := K190.trans Kc193 (allS (P := fun x => x ∈ [] ∨ h0.size ≤ x) (Or.inr sz_b178) all0)
    have E_b178 : Exa Z T193.heap b178 "java/lang/String" := po193_0
    have F_coder_b178 : Fld Z T193.heap b178 "java/lang/String" "coder" "B" (.int (0 : Int32)) := po193_1
    have nt_193 := po193_4
    have F_value_b178 : Fld Z T193.heap b178 "java/lang/String" "value" "[B" (.ref t_193) := po193_5
    have V_t_193 : Arv Z T193.heap t_193 kb_193 .byte (2 : Int32) (((([n0_, n1_] : List Int32)).map (fun c => c.toInt8.toInt32)).map Value.int) (.int (0 : Int32)) := po193_6
    have P196 : ∀ tt_, GG p e below T193 (mkF m 105 #[.val (.int pa), .val (.int pb), .val (.int pc_), .val (.int pd_), .val (.int n0_), .val (.int n1_), .val (.int l0_), .val (.int d0_), .val (.int d1_), .val (.int e0_), .val (.int e1_), .val (.int (1 : Int32)), .val (.ref b178), .unset, .unset, .unset, .unset, .unset, .unset, .unset] [(.int l0_)]) tt_ → Steps p.tables e below s0 tt_ := fun tt_ kk_ => P195 tt_ (by
      refine XS.astore X193.here hx rfl (hb hby at_101) rfl rfl (l' := #[.val (.int pa), .val (.int pb), .val (.int pc_), .val (.int pd_), .val (.int n0_), .val (.int n1_), .val (.int l0_), .val (.int d0_), .val (.int d1_), .val (.int e0_), .val (.int e1_), .val (.int (1 : Int32)), .val (.ref b178), .unset, .unset, .unset, .unset, .unset, .unset, .unset]) rfl ?_
      refine XS.iload X193.here hx rfl (hb hby at_103) rfl ?_
      exact kk_)
    obtain ⟨_, _, ⟨T197, L197, k197, n197⟩, -, X197, ⟨Lc197, hQ197, l197, y197, z197⟩, st197⟩ := Jvm.LawKit.callS X193 hx (y := mn_25) hown (mw hZ hw 30 rfl) (mw hZ hw 31 rfl) (mw hZ hw 2 rfl) (mw hZ hw 32 rfl) (by decide) (backOf (W := 0) (rm_valueOf l Z a0 hw [] l0_ G1 T193.heap n0 (Nat.le_trans Z0 K193.1) S_COMPACT_STRINGS OL hz ok_l0_.2) hZ (ww hw 32 rfl) (ww hw 2 rfl) (by decide) (by decide)) (g := (mkF m 105 #[.val (.int pa), .val (.int pb), .val (.int pc_), .val (.int pd_), .val (.int n0_), .val (.int n1_), .val (.int l0_), .val (.int d0_), .val (.int d1_), .val (.int e0_), .val (.int e1_), .val (.int (1 : Int32)), .val (.ref b178), .unset, .unset, .unset, .unset, .unset, .unset, .unset] [(.int l0_)])) rfl (by rw [hml]; rfl) (argsL := [(.int l0_)]) (rest := []) (lenOf pd_21 rfl) rfl (by show 2 * 0 + _ ≤ _; exact Nat.le_of_eq rfl) (hb hby at_105) (fun _ _ => ⟨rfl, rfl, (by decide : 3 + 2 ≤ _), (by decide : 8 + 5 ≤ _)⟩)
    dsimp only [Pt.U, Pt.locs, Pt.cells, Pt.slots] at X197 l197 y197 z197 st197 hQ197
    subst l197 y197 z197
    obtain ⟨xs_197, t_197, kb_197, rfl, N197q, Kc197, po197_0, po197_1, po197_2, po197_3, po197_4, po197_5⟩ := hQ197
    have N197 := Fr.app N194 N197q
    obtain ⟨Lf198, X197, N198⟩ : ∃ Lf, Stand p l e room_1 (s.setVm s.vm) m #[(.int pa), (.int pb), (.int pc_), (.int pd_)] below meth c T197 Lf 5 13 ∧ Fr n0 Lf := ⟨_, X197, N197⟩
    have P199 : ∀ tt_, GG p e below T197 (mkF m 108 #[.val (.int pa), .val (.int pb), .val (.int pc_), .val (.int pd_), .val (.int n0_), .val (.int n1_), .val (.int l0_), .val (.int d0_), .val (.int d1_), .val (.int e0_), .val (.int e1_), .val (.int (1 : Int32)), .val (.ref b178), .unset, .unset, .unset, .unset, .unset, .unset, .unset] [(.ref xs_197)]) tt_ → Steps p.tables e below s0 tt_ := fun tt_ kk_ => P196 tt_ (st197 _ kk_)
    have ne_b178_xs_197 : b178 ≠ xs_197 := Nat.ne_of_lt (Nat.lt_of_lt_of_le E_b178.lt po197_0)
    have ne_b183_xs_197 : b183 ≠ xs_197 := Nat.ne_of_lt (Nat.lt_of_lt_of_le V_b183.lt po197_0)
    have ne_t_193_xs_197 : t_193 ≠ xs_197 := Nat.ne_of_lt (Nat.lt_of_lt_of_le V_t_193.lt po197_0)
    have sz_xs_197 : h0.size ≤ xs_197 := Nat.le_trans K193.1 po197_0
    have sf_xs_197 : Safe Z ELs s.vm T193.heap xs_197 := Safe.new po197_0
    have ne_b178_t_197 : b178 ≠ t_197 := Nat.ne_of_lt (Nat.lt_of_lt_of_le E_b178.lt po197_1)
    have ne_b183_t_197 : b183 ≠ t_197 := Nat.ne_of_lt (Nat.lt_of_lt_of_le V_b183.lt po197_1)
    have ne_t_193_t_197 : t_193 ≠ t_197 := Nat.ne_of_lt (Nat.lt_of_lt_of_le V_t_193.lt po197_1)
    have sz_t_197 : h0.size ≤ t_197 := Nat.le_trans K193.1 po197_1
    have sf_t_197 : Safe Z ELs s.vm T193.heap t_197 := Safe.new po197_1
    have sfk197 := (sf0 : ∀ x ∈ [], Safe Z ELs s.vm T193.heap x)
    replace sf_b178 : Safe Z ELs s.vm T197.heap b178 := Safe.keep Kc197 sfk197 CR.1 sf_b178
    replace sf_b183 : Safe Z ELs s.vm T197.heap b183 := Safe.keep Kc197 sfk197 CR.1 sf_b183
    replace sf_t_193 : Safe Z ELs s.vm T197.heap t_193 := Safe.keep Kc197 sfk197 CR.1 sf_t_193
    replace sf_xs_197 : Safe Z ELs s.vm T197.heap xs_197 := Safe.keep Kc197 sfk197 CR.1 sf_xs_197
    replace sf_t_197 : Safe Z ELs s.vm T197.heap t_197 := Safe.keep Kc197 sfk197 CR.1 sf_t_197
    replace OL : Old Z n0 T197.heap := OL.keep Kc197 all0
    replace E_b178 : Exa Z T197.heap b178 "java/lang/String" := E_b178.keep Kc197
    replace V_b183 : Arv Z T197.heap b183 k183 .char (2 : Int32) (([n0_, n1_] : List Int32).map Value.int) (.int (0 : Int32)) := V_b183.keep Kc197 nin0
    replace F_coder_b178 : Fld Z T197.heap b178 "java/lang/String" "coder" "B" (.int (0 : Int32)) := F_coder_b178.keep Kc197 nin0
    replace F_value_b178 : Fld Z T197.heap b178 "java/lang/String" "value" "[B" (.ref t_193) := F_value_b178.keep Kc197 nin0
    replace V_t_193 : Arv Z T197.heap t_193 kb_193 .byte (2 : Int32) (((([n0_, n1_] : List Int32)).map (fun c => c.toInt8.toInt32)).map Value.int) (.int (0 : Int32)) := V_t_193.keep Kc197 nin0
    replace CR : CHr Z ELs s.vm h0 s.vm T197.heap := CR.trans (CHr.keep Kc197 sfk197 CR.1)
    replace hk := Nat.le_trans hk Kc197.1
    have K197 : Keep h0 T197.heap [] := K193.trans Kc197 all0
    have E_xs_197 : Exa Z T197.heap xs_197 "java/lang/String" := po197_2
    have F_value_xs_197 : Fld Z T197.heap xs_197 "java/lang/String" "value" "[B" (.ref t_197) := po197_3
    have F_coder_xs_197 : Fld Z T197.heap xs_197 "java/lang/String" "coder" "B" (.int (0 : Int32)) := po197_4
    have V_t_197 : Arv Z T197.heap t_197 kb_197 .byte (1 : Int32) [(.int (nar .byte (l0_.toInt8.toInt32)))] (.int (0 : Int32)) := po197_5
    have P200 : ∀ tt_, GG p e below T197 (mkF m 110 #[.val (.int pa), .val (.int pb), .val (.int pc_), .val (.int pd_), .val (.int n0_), .val (.int n1_), .val (.int l0_), .val (.int d0_), .val (.int d1_), .val (.int e0_), .val (.int e1_), .val (.int (1 : Int32)), .val (.ref b178), .val (.ref xs_197), .unset, .unset, .unset, .unset, .unset, .unset] []) tt_ → Steps p.tables e below s0 tt_ := fun tt_ kk_ => P199 tt_ (by
      refine XS.astore X197.here hx rfl (hb hby at_108) rfl rfl (l' := #[.val (.int pa), .val (.int pb), .val (.int pc_), .val (.int pd_), .val (.int n0_), .val (.int n1_), .val (.int l0_), .val (.int d0_), .val (.int d1_), .val (.int e0_), .val (.int e1_), .val (.int (1 : Int32)), .val (.ref b178), .val (.ref xs_197), .unset, .unset, .unset, .unset, .unset, .unset]) rfl ?_
      exact kk_)
    obtain ⟨T201, h201, X201, e201, E201, A201, D201, -, st201⟩ := newO X197 hx hZ hown (ww hw 0 rfl) (ww hw 1 rfl) (ww hw 2 rfl) rfl (g := (mkF m 110 #[.val (.int pa), .val (.int pb), .val (.int pc_), .val (.int pd_), .val (.int n0_), .val (.int n1_), .val (.int l0_), .val (.int d0_), .val (.int d1_), .val (.int e0_), .val (.int e1_), .val (.int (1 : Int32)), .val (.ref b178), .val (.ref xs_197), .unset, .unset, .unset, .unset, .unset, .unset] [])) rfl (hb hby at_110) (by decide) (by decide)
    obtain ⟨b201, g201⟩ : ∃ z, z = T197.heap.size := ⟨_, rfl⟩
    rw [← g201] at A201 D201 st201
    have P202 : ∀ tt_, GG p e below T201 (mkF m 113 #[.val (.int pa), .val (.int pb), .val (.int pc_), .val (.int pd_), .val (.int n0_), .val (.int n1_), .val (.int l0_), .val (.int d0_), .val (.int d1_), .val (.int e0_), .val (.int e1_), .val (.int (1 : Int32)), .val (.ref b178), .val (.ref xs_197), .unset, .unset, .unset, .unset, .unset, .unset] [(.ref b201)]) tt_ → Steps p.tables e below s0 tt_ := fun tt_ kk_ => P200 tt_ (st201 _ kk_)
    have ne_b178_b201 : b178 ≠ b201 := Nat.ne_of_lt (Nat.lt_of_lt_of_le E_b178.lt (Nat.le_of_eq g201.symm))
    have ne_b183_b201 : b183 ≠ b201 := Nat.ne_of_lt (Nat.lt_of_lt_of_le V_b183.lt (Nat.le_of_eq g201.symm))
    have ne_t_193_b201 : t_193 ≠ b201 := Nat.ne_of_lt (Nat.lt_of_lt_of_le V_t_193.lt (Nat.le_of_eq g201.symm))
    have ne_xs_197_b201 : xs_197 ≠ b201 := Nat.ne_of_lt (Nat.lt_of_lt_of_le E_xs_197.lt (Nat.le_of_eq g201.symm))
    have ne_t_197_b201 : t_197 ≠ b201 := Nat.ne_of_lt (Nat.lt_of_lt_of_le V_t_197.lt (Nat.le_of_eq g201.symm))
    have sz_b201 : h0.size ≤ b201 := Nat.le_trans K197.1 (Nat.le_of_eq g201.symm)
    have sf_b201 : Safe Z ELs s.vm T197.heap b201 := Safe.new (Nat.le_of_eq g201.symm)
    replace sf_b178 : Safe Z ELs s.vm h201 b178 := Safe.ext E201 CR.1 sf_b178
    replace sf_b183 : Safe Z ELs s.vm h201 b183 := Safe.ext E201 CR.1 sf_b183
    replace sf_t_193 : Safe Z ELs s.vm h201 t_193 := Safe.ext E201 CR.1 sf_t_193
    replace sf_xs_197 : Safe Z ELs s.vm h201 xs_197 := Safe.ext E201 CR.1 sf_xs_197
    replace sf_t_197 : Safe Z ELs s.vm h201 t_197 := Safe.ext E201 CR.1 sf_t_197
    replace sf_b201 : Safe Z ELs s.vm h201 b201 := Safe.ext E201 CR.1 sf_b201
    replace OL : Old Z n0 h201 := OL.ext E201
    replace E_b178 : Exa Z h201 b178 "java/lang/String" := E_b178.ext E201
    replace V_b183 : Arv Z h201 b183 k183 .char (2 : Int32) (([n0_, n1_] : List Int32).map Value.int) (.int (0 : Int32)) := V_b183.ext E201
    replace F_coder_b178 : Fld Z h201 b178 "java/lang/String" "coder" "B" (.int (0 : Int32)) := F_coder_b178.ext E201
    replace F_value_b178 : Fld Z h201 b178 "java/lang/String" "value" "[B" (.ref t_193) := F_value_b178.ext E201
    replace V_t_193 : Arv Z h201 t_193 kb_193 .byte (2 : Int32) (((([n0_, n1_] : List Int32)).map (fun c => c.toInt8.toInt32)).map Value.int) (.int (0 : Int32)) := V_t_193.ext E201
    replace E_xs_197 : Exa Z h201 xs_197 "java/lang/String" := E_xs_197.ext E201
    replace F_value_xs_197 : Fld Z h201 xs_197 "java/lang/String" "value" "[B" (.ref t_197) := F_value_xs_197.ext E201
    replace F_coder_xs_197 : Fld Z h201 xs_197 "java/lang/String" "coder" "B" (.int (0 : Int32)) := F_coder_xs_197.ext E201
    replace V_t_197 : Arv Z h201 t_197 kb_197 .byte (1 : Int32) [(.int (nar .byte (l0_.toInt8.toInt32)))] (.int (0 : Int32)) := V_t_197.ext E201
    replace CR : CHr Z ELs s.vm h0 s.vm h201 := CR.trans (CHr.ext E201 CR.1)
    replace hk := Nat.le_trans hk E201.1
    have K201 : Keep h0 h201 [] := K197.ext E201
    obtain ⟨Lf203, X201, N203⟩ : ∃ Lf, Stand p l e room_1 (s.setVm s.vm) m #[(.int pa), (.int pb), (.int pc_), (.int pd_)] below meth c T201 Lf 6 17 ∧ Fr n0 Lf := ⟨_, X201, N198⟩
    have E_b201 : Exa Z h201 b201 "java/lang/String" := A201
    have F_coder_b201 : Fld Z h201 b201 "java/lang/String" "coder" "B" (.int (0 : Int32)) := D201 (Or.inr (ww hw 27 rfl)) (ty := .byte) (by decide)
    have F_value_b201 : Fld Z h201 b201 "java/lang/String" "value" "[B" .null := D201 (Or.inr (ww hw 29 rfl)) (ty := (.array .byte)) (by decide)
    have P204 : ∀ tt_, GG p e below T201 (mkF m 115 #[.val (.int pa), .val (.int pb), .val (.int pc_), .val (.int pd_), .val (.int n0_), .val (.int n1_), .val (.int l0_), .val (.int d0_), .val (.int d1_), .val (.int e0_), .val (.int e1_), .val (.int (1 : Int32)), .val (.ref b178), .val (.ref xs_197), .unset, .unset, .unset, .unset, .unset, .unset] [(.int (2 : Int32)), (.ref b201), (.ref b201)]) tt_ → Steps p.tables e below s0 tt_ := fun tt_ kk_ => P202 tt_ (by
      refine XS.dup X201.here hx rfl (hb hby at_113) rfl rfl ?_
      refine XS.iconst X201.here hx rfl (hb hby at_114) ?_
      exact kk_)
    have CRb205 := CR
    obtain ⟨T206, h206, k206, X206, e206, E206, A206, st206⟩ := newP X201 hx hZ (ww hw 3 rfl) e201 (g := (mkF m 115 #[.val (.int pa), .val (.int pb), .val (.int pc_), .val (.int pd_), .val (.int n0_), .val (.int n1_), .val (.int l0_), .val (.int d0_), .val (.int d1_), .val (.int e0_), .val (.int e1_), .val (.int (1 : Int32)), .val (.ref b178), .val (.ref xs_197), .unset, .unset, .unset, .unset, .unset, .unset] [(.int (2 : Int32)), (.ref b201), (.ref b201)])) rfl (hb hby at_115) rfl (by decide) (cap := 2) (by decide) (by decide) (by decide) (by decide)
    obtain ⟨b206, g206⟩ : ∃ z, z = h201.size := ⟨_, rfl⟩
    rw [← g206] at A206 st206
    have P207 : ∀ tt_, GG p e below T206 (mkF m 117 #[.val (.int pa), .val (.int pb), .val (.int pc_), .val (.int pd_), .val (.int n0_), .val (.int n1_), .val (.int l0_), .val (.int d0_), .val (.int d1_), .val (.int e0_), .val (.int e1_), .val (.int (1 : Int32)), .val (.ref b178), .val (.ref xs_197), .unset, .unset, .unset, .unset, .unset, .unset] [(.ref b206), (.ref b201), (.ref b201)]) tt_ → Steps p.tables e below s0 tt_ := fun tt_ kk_ => P204 tt_ (st206 _ kk_)
    have ne_b178_b206 : b178 ≠ b206 := Nat.ne_of_lt (Nat.lt_of_lt_of_le (Nat.lt_of_lt_of_le E_b178.lt (Keep.refl h201 []).1) (Nat.le_of_eq g206.symm))
    have ne_b183_b206 : b183 ≠ b206 := Nat.ne_of_lt (Nat.lt_of_lt_of_le (Nat.lt_of_lt_of_le V_b183.lt (Keep.refl h201 []).1) (Nat.le_of_eq g206.symm))
    have ne_t_193_b206 : t_193 ≠ b206 := Nat.ne_of_lt (Nat.lt_of_lt_of_le (Nat.lt_of_lt_of_le V_t_193.lt (Keep.refl h201 []).1) (Nat.le_of_eq g206.symm))
    have ne_xs_197_b206 : xs_197 ≠ b206 := Nat.ne_of_lt (Nat.lt_of_lt_of_le (Nat.lt_of_lt_of_le E_xs_197.lt (Keep.refl h201 []).1) (Nat.le_of_eq g206.symm))
    have ne_t_197_b206 : t_197 ≠ b206 := Nat.ne_of_lt (Nat.lt_of_lt_of_le (Nat.lt_of_lt_of_le V_t_197.lt (Keep.refl h201 []).1) (Nat.le_of_eq g206.symm))
    have ne_b201_b206 : b201 ≠ b206 := Nat.ne_of_lt (Nat.lt_of_lt_of_le (Nat.lt_of_lt_of_le E_b201.lt (Keep.refl h201 []).1) (Nat.le_of_eq g206.symm))
    have sz_b206 : h0.size ≤ b206 := Nat.le_trans K201.1 (Nat.le_of_eq g206.symm)
    have szB_b206 : h201.size ≤ b206 := Nat.le_trans (Keep.refl h201 []).1 (Nat.le_of_eq g206.symm)
    have sf_b206 : Safe Z ELs s.vm h201 b206 := Safe.new (Nat.le_of_eq g206.symm)
    replace sf_b206 : Safe Z ELs s.vm h206 b206 := Safe.ext E206 CR.1 sf_b206
    replace CR : CHr Z ELs s.vm h0 s.vm h206 := CR.trans (CHr.ext E206 CR.1)
    replace hk := Nat.le_trans hk E206.1
    have K206 : Keep h0 h206 [] := K201.ext E206
    have KB206 : Keep h201 h206 [] := (Keep.refl h201 []).ext E206
    obtain ⟨Lf208, X206, N208⟩ : ∃ Lf, Stand p l e room_1 (s.setVm s.vm) m #[(.int pa), (.int pb), (.int pc_), (.int pd_)] below meth c T206 Lf 7 19 ∧ Fr n0 Lf := ⟨_, X206, N203⟩
    have V_b206 : Arv Z h206 b206 k206 .char (2 : Int32) [(.int (0 : Int32)), (.int (0 : Int32))] (.int (0 : Int32)) := (Arv.new A206 (by decide)).pad (pad_rep [] (.int (0 : Int32)) 2)
    have P209 : ∀ tt_, GG p e below T206 (mkF m 121 #[.val (.int pa), .val (.int pb), .val (.int pc_), .val (.int pd_), .val (.int n0_), .val (.int n1_), .val (.int l0_), .val (.int d0_), .val (.int d1_), .val (.int e0_), .val (.int e1_), .val (.int (1 : Int32)), .val (.ref b178), .val (.ref xs_197), .unset, .unset, .unset, .unset, .unset, .unset] [(.int d0_), (.int (0 : Int32)), (.ref b206), (.ref b206), (.ref b201), (.ref b201)]) tt_ → Steps p.tables e below s0 tt_ := fun tt_ kk_ => P207 tt_ (by
      refine XS.dup X206.here hx rfl (hb hby at_117) rfl rfl ?_
      refine XS.iconst X206.here hx rfl (hb hby at_118) ?_
      refine XS.iload X206.here hx rfl (hb hby at_119) rfl ?_
      exact kk_)
    obtain ⟨cl210, Ar210, q210, S210, M210, Hs210, G210⟩ := V_b206
    obtain ⟨T210, h210, X210, e210, W210, st210⟩ := stC X206 hx hZ e206 Ar210 (j := (0 : Int32)) (inb_of S210 ⟨by decide, by decide⟩) (g := (mkF m 121 #[.val (.int pa), .val (.int pb), .val (.int pc_), .val (.int pd_), .val (.int n0_), .val (.int n1_), .val (.int l0_), .val (.int d0_), .val (.int d1_), .val (.int e0_), .val (.int e1_), .val (.int (1 : Int32)), .val (.ref b178), .val (.ref xs_197), .unset, .unset, .unset, .unset, .unset, .unset] [(.int d0_), (.int (0 : Int32)), (.ref b206), (.ref b206), (.ref b201), (.ref b201)])) rfl rfl (hb hby at_121)
    have P211 : ∀ tt_, GG p e below T210 (mkF m 122 #[.val (.int pa), .val (.int pb), .val (.int pc_), .val (.int pd_), .val (.int n0_), .val (.int n1_), .val (.int l0_), .val (.int d0_), .val (.int d1_), .val (.int e0_), .val (.int e1_), .val (.int (1 : Int32)), .val (.ref b178), .val (.ref xs_197), .unset, .unset, .unset, .unset, .unset, .unset] [(.ref b206), (.ref b201), (.ref b201)]) tt_ → Steps p.tables e below s0 tt_ := fun tt_ kk_ => P209 tt_ (st210 _ kk_)
    have N210 := Fr.snoc X210 N208 (Nat.le_trans Z0 sz_b206)
    have K210 : Keep h0 h210 [] := K206.wr W210 (Or.inr sz_b206)
    have KB210 : Keep h201 h210 [] := KB206.wr W210 (Or.inr szB_b206)
    have sfw210 : Safe Z ELs s.vm h206 b206 := sf_b206
    replace sf_b206 : Safe Z ELs s.vm h210 b206 := Safe.wr W210 sfw210 CR.1 sf_b206
    replace CR : CHr Z ELs s.vm h0 s.vm h210 := CR.trans (CHr.wr W210 sfw210 CR.1)
    replace hk := Nat.le_trans hk (Keep.of_wr W210).1
    have V_b206 : Arv Z h210 b206 k206 .char (2 : Int32) [(.int (nar .char d0_)), (.int (0 : Int32))] (.int (0 : Int32)) := Arv.set Ar210 q210 S210 M210 Hs210 G210 (fits_nar_char _) W210 0 rfl (Nat.le_of_ble_eq_true rfl)
    have P212 : ∀ tt_, GG p e below T210 (mkF m 126 #[.val (.int pa), .val (.int pb), .val (.int pc_), .val (.int pd_), .val (.int n0_), .val (.int n1_), .val (.int l0_), .val (.int d0_), .val (.int d1_), .val (.int e0_), .val (.int e1_), .val (.int (1 : Int32)), .val (.ref b178), .val (.ref xs_197), .unset, .unset, .unset, .unset, .unset, .unset] [(.int d1_), (.int (1 : Int32)), (.ref b206), (.ref b206), (.ref b201), (.ref b201)]) tt_ → Steps p.tables e below s0 tt_ := fun tt_ kk_ => P211 tt_ (by
      refine XS.dup X210.here hx rfl (hb hby at_122) rfl rfl ?_
      refine XS.iconst X210.here hx rfl (hb hby at_123) ?_
      refine XS.iload X210.here hx rfl (hb hby at_124) rfl ?_
      exact kk_)
    obtain ⟨cl213, Ar213, q213, S213, M213, Hs213, G213⟩ := V_b206
    obtain ⟨T213, h213, X213, e213, W213, st213⟩ := stC X210 hx hZ e210 Ar213 (j := (1 : Int32)) (inb_of S213 ⟨by decide, by decide⟩) (g := (mkF m 126 #[.val (.int pa), .val (.int pb), .val (.int pc_), .val (.int pd_), .val (.int n0_), .val (.int n1_), .val (.int l0_), .val (.int d0_), .val (.int d1_), .val (.int e0_), .val (.int e1_), .val (.int (1 : Int32)), .val (.ref b178), .val (.ref xs_197), .unset, .unset, .unset, .unset, .unset, .unset] [(.int d1_), (.int (1 : Int32)), (.ref b206), (.ref b206), (.ref b201), (.ref b201)])) rfl rfl (hb hby at_126)
    have P214 : ∀ tt_, GG p e below T213 (mkF m 127 #[.val (.int pa), .val (.int pb), .val (.int pc_), .val (.int pd_), .val (.int n0_), .val (.int n1_), .val (.int l0_), .val (.int d0_), .val (.int d1_), .val (.int e0_), .val (.int e1_), .val (.int (1 : Int32)), .val (.ref b178), .val (.ref xs_197), .unset, .unset, .unset, .unset, .unset, .unset] [(.ref b206), (.ref b201), (.ref b201)]) tt_ → Steps p.tables e below s0 tt_ := fun tt_ kk_ => P212 tt_ (st213 _ kk_)
    have N213 := Fr.snoc X213 N210 (Nat.le_trans Z0 sz_b206)
    have K213 : Keep h0 h213 [] := K210.wr W213 (Or.inr sz_b206)
    have KB213 : Keep h201 h213 [] := KB210.wr W213 (Or.inr szB_b206)
    have sfw213 : Safe Z ELs s.vm h210 b206 := sf_b206
    replace sf_b206 : Safe Z ELs s.vm h213 b206 := Safe.wr W213 sfw213 CR.1 sf_b206
    replace CR : CHr Z ELs s.vm h0 s.vm h213 := CR.trans (CHr.wr W213 sfw213 CR.1)
    replace hk := Nat.le_trans hk (Keep.of_wr W213).1
    have V_b206 : Arv Z h213 b206 k206 .char (2 : Int32) [(.int (nar .char d0_)), (.int (nar .char d1_))] (.int (0 : Int32)) := Arv.set Ar213 q213 S213 M213 Hs213 G213 (fits_nar_char _) W213 1 rfl (Nat.le_of_ble_eq_true rfl)
    replace sf_b178 : Safe Z ELs s.vm h213 b178 := Safe.keep KB213 sf0 CRb205.1 sf_b178
    replace sf_b183 : Safe Z ELs s.vm h213 b183 := Safe.keep KB213 sf0 CRb205.1 sf_b183
    replace sf_t_193 : Safe Z ELs s.vm h213 t_193 := Safe.keep KB213 sf0 CRb205.1 sf_t_193
    replace sf_xs_197 : Safe Z ELs s.vm h213 xs_197 := Safe.keep KB213 sf0 CRb205.1 sf_xs_197
    replace sf_t_197 : Safe Z ELs s.vm h213 t_197 := Safe.keep KB213 sf0 CRb205.1 sf_t_197
    replace sf_b201 : Safe Z ELs s.vm h213 b201 := Safe.keep KB213 sf0 CRb205.1 sf_b201
    replace OL : Old Z n0 h213 := OL.keep KB213 all0
    replace E_b178 : Exa Z h213 b178 "java/lang/String" := E_b178.keep KB213
    replace V_b183 : Arv Z h213 b183 k183 .char (2 : Int32) (([n0_, n1_] : List Int32).map Value.int) (.int (0 : Int32)) := V_b183.keep KB213 nin0
    replace F_coder_b178 : Fld Z h213 b178 "java/lang/String" "coder" "B" (.int (0 : Int32)) := F_coder_b178.keep KB213 nin0
    replace F_value_b178 : Fld Z h213 b178 "java/lang/String" "value" "[B" (.ref t_193) := F_value_b178.keep KB213 nin0
    replace V_t_193 : Arv Z h213 t_193 kb_193 .byte (2 : Int32) (((([n0_, n1_] : List Int32)).map (fun c => c.toInt8.toInt32)).map Value.int) (.int (0 : Int32)) := V_t_193.keep KB213 nin0
    replace E_xs_197 : Exa Z h213 xs_197 "java/lang/String" := E_xs_197.keep KB213
    replace F_value_xs_197 : Fld Z h213 xs_197 "java/lang/String" "value" "[B" (.ref t_197) := F_value_xs_197.keep KB213 nin0
    replace F_coder_xs_197 : Fld Z h213 xs_197 "java/lang/String" "coder" "B" (.int (0 : Int32)) := F_coder_xs_197.keep KB213 nin0
    replace V_t_197 : Arv Z h213 t_197 kb_197 .byte (1 : Int32) [(.int (nar .byte (l0_.toInt8.toInt32)))] (.int (0 : Int32)) := V_t_197.keep KB213 nin0
    replace E_b201 : Exa Z h213 b201 "java/lang/String" := E_b201.keep KB213
    replace F_coder_b201 : Fld Z h213 b201 "java/lang/String" "coder" "B" (.int (0 : Int32)) := F_coder_b201.keep KB213 nin0
    replace F_value_b201 : Fld Z h213 b201 "java/lang/String" "value" "[B" .null := F_value_b201.keep KB213 nin0
    replace V_b206 : Arv Z h213 b206 k206 .char (2 : Int32) (([d0_, d1_] : List Int32).map Value.int) (.int (0 : Int32)) := by
      have q := V_b206
      rw [na_d0_, na_d1_] at q
      exact q
    have hp215 : ∀ c ∈ ([d0_, d1_] : List Int32), ¬ c < 0 ∧ ¬ (255 : Int32) < c := by
      intro c hc
      simp only [List.mem_cons, List.not_mem_nil, or_false] at hc
      rcases hc with rfl | rfl
      · exact ok_d0_
      · exact ok_d1_
    obtain ⟨_, _, ⟨T216, L216, k216, n216⟩, -, X216, ⟨Lc216, hQ216, l216, y216, z216⟩, st216⟩ := X213.specialBack hx (y := mn_24) rfl hown (mw hZ hw 4 rfl) (mw hZ hw 5 rfl) (mw hZ hw 6 rfl) (by decide) (StrChars.Road.backV (W := 1) hZ (own_wNew hw) (kI := 4) (ww hw 1 rfl) (cs := ([d0_, d1_] : List Int32)) (bs := (([d0_, d1_] : List Int32)).map (fun c => c.toInt8.toInt32)) (n := 2) (Nat.le_trans Z0 sz_b201) (Nat.le_trans Z0 K213.1) E_b201 F_value_b201 F_coder_b201 V_b206 (S_COMPACT_STRINGS.ext OL.2) hz rfl rfl (by decide) (by decide) hp215 rfl (by decide) (by decide)) (g := (mkF m 127 #[.val (.int pa), .val (.int pb), .val (.int pc_), .val (.int pd_), .val (.int n0_), .val (.int n1_), .val (.int l0_), .val (.int d0_), .val (.int d1_), .val (.int e0_), .val (.int e1_), .val (.int (1 : Int32)), .val (.ref b178), .val (.ref xs_197), .unset, .unset, .unset, .unset, .unset, .unset] [(.ref b206), (.ref b201), (.ref b201)])) rfl (by rw [hml]; rfl) (Steps.refl _) (a := b201) (argsL := [(.ref b206)]) (rest := [(.ref b201)]) (lenOf pd_20 rfl) rfl (by show 2 * 0 + _ ≤ _; exact Nat.le_of_eq rfl) (hb hby at_127) (fun _ _ => ⟨rfl, e213, (by decide : 7 + 1 ≤ _), (by decide : 19 + 2 ≤ _)⟩)
    dsimp only [Pt.U, Pt.locs, Pt.cells, Pt.slots] at X216 l216 y216 z216 st216 hQ216
    subst l216 y216 z216
    obtain ⟨rfl, N216q, Kc216, po216_0, po216_1, t_216, kb_216, po216_2, po216_3, po216_4, po216_5, po216_6⟩ := hQ216
    have N216 := Fr.app N213 N216q
    obtain ⟨Lf217, X216, N217⟩ : ∃ Lf, Stand p l e room_1 (s.setVm s.vm) m #[(.int pa), (.int pb), (.int pc_), (.int pd_)] below meth c T216 Lf 8 21 ∧ Fr n0 Lf := ⟨_, X216, N216⟩
    have P218 : ∀ tt_, GG p e below T216 (mkF m 130 #[.val (.int pa), .val (.int pb), .val (.int pc_), .val (.int pd_), .val (.int n0_), .val (.int n1_), .val (.int l0_), .val (.int d0_), .val (.int d1_), .val (.int e0_), .val (.int e1_), .val (.int (1 : Int32)), .val (.ref b178), .val (.ref xs_197), .unset, .unset, .unset, .unset, .unset, .unset] [(.ref b201)]) tt_ → Steps p.tables e below s0 tt_ := fun tt_ kk_ => P214 tt_ (st216.trans kk_)
    have ne_b178_t_216 : b178 ≠ t_216 := Nat.ne_of_lt (Nat.lt_of_lt_of_le E_b178.lt po216_3)
    have ne_b183_t_216 : b183 ≠ t_216 := Nat.ne_of_lt (Nat.lt_of_lt_of_le V_b183.lt po216_3)
    have ne_t_193_t_216 : t_193 ≠ t_216 := Nat.ne_of_lt (Nat.lt_of_lt_of_le V_t_193.lt po216_3)
    have ne_xs_197_t_216 : xs_197 ≠ t_216 := Nat.ne_of_lt (Nat.lt_of_lt_of_le E_xs_197.lt po216_3)
    have ne_t_197_t_216 : t_197 ≠ t_216 := Nat.ne_of_lt (Nat.lt_of_lt_of_le V_t_197.lt po216_3)
    have ne_b201_t_216 : b201 ≠ t_216 := Nat.ne_of_lt (Nat.lt_of_lt_of_le E_b201.lt po216_3)
    have ne_b206_t_216 : b206 ≠ t_216 := Nat.ne_of_lt (Nat.lt_of_lt_of_le V_b206.lt po216_3)
    have sz_t_216 : h0.size ≤ t_216 := Nat.le_trans K213.1 po216_3
    have sf_t_216 : Safe Z ELs s.vm h213 t_216 := Safe.new po216_3
    have sfk216 := ((sfS sf_b201 sf0) : ∀ x ∈ [b201], Safe Z ELs s.vm h213 x)
    replace sf_b178 : Safe Z ELs s.vm T216.heap b178 := Safe.keep Kc216 sfk216 CR.1 sf_b178
    replace sf_b183 : Safe Z ELs s.vm T216.heap b183 := Safe.keep Kc216 sfk216 CR.1 sf_b183
    replace sf_t_193 : Safe Z ELs s.vm T216.heap t_193 := Safe.keep Kc216 sfk216 CR.1 sf_t_193
    replace sf_xs_197 : Safe Z ELs s.vm T216.heap xs_197 := Safe.keep Kc216 sfk216 CR.1 sf_xs_197
    replace sf_t_197 : Safe Z ELs s.vm T216.heap t_197 := Safe.keep Kc216 sfk216 CR.1 sf_t_197
    replace sf_b201 : Safe Z ELs s.vm T216.heap b201 := Safe.keep Kc216 sfk216 CR.1 sf_b201
    replace sf_b206 : Safe Z ELs s.vm T216.heap b206 := Safe.keep Kc216 sfk216 CR.1 sf_b206
    replace sf_t_216 : Safe Z ELs s.vm T216.heap t_216 := Safe.keep Kc216 sfk216 CR.1 sf_t_216
    replace OL : Old Z n0 T216.heap := OL.keep Kc216 (allS (Nat.le_trans Z0 sz_b201) all0)
    replace E_b178 : Exa Z T216.heap b178 "java/lang/String" := E_b178.keep Kc216
    replace V_b183 : Arv Z T216.heap b183 k183 .char (2 : Int32) (([n0_, n1_] : List Int32).map Value.int) (.int (0 : Int32)) := V_b183.keep Kc216 (ninS ne_b183_b201 nin0)
    replace F_coder_b178 : Fld Z T216.heap b178 "java/lang/String" "coder" "B" (.int (0 : Int32)) := F_coder_b178.keep Kc216 (ninS ne_b178_b201 nin0)
    replace F_value_b178 : Fld Z T216.heap b178 "java/lang/String" "value" "[B" (.ref t_193) := F_value_b178.keep Kc216 (ninS ne_b178_b201 nin0)
    replace V_t_193 : Arv Z T216.heap t_193 kb_193 .byte (2 : Int32) (((([n0_, n1_] : List Int32)).map (fun c => c.toInt8.toInt32)).map Value.int) (.int (0 : Int32)) := V_t_193.keep Kc216 (ninS ne_t_193_b201 nin0)
    replace E_xs_197 : Exa Z T216.heap xs_197 "java/lang/String" := E_xs_197.keep Kc216
    replace F_value_xs_197 : Fld Z T216.heap xs_197 "java/lang/String" "value" "[B" (.ref t_197) := F_value_xs_197.keep Kc216 (ninS ne_xs_197_b201 nin0)
    replace F_coder_xs_197 : Fld Z T216.heap xs_197 "java/lang/String" "coder" "B" (.int (0 : Int32)) := F_coder_xs_197.keep Kc216 (ninS ne_xs_197_b201 nin0)
    replace V_t_197 : Arv Z T216.heap t_197 kb_197 .byte (1 : Int32) [(.int (nar .byte (l0_.toInt8.toInt32)))] (.int (0 : Int32)) := V_t_197.keep Kc216 (ninS ne_t_197_b201 nin0)
    replace E_b201 : Exa Z T216.heap b201 "java/lang/String" := E_b201.keep Kc216
    replace V_b206 : Arv Z T216.heap b206 k206 .char (2 : Int32) (([d0_, d1_] : List Int32).map Value.int) (.int (0 : Int32)) := V_b206.keep Kc216 (ninS (Ne.symm ne_b201_b206) nin0)
    replace CR : CHr Z ELs s.vm h0 s.vm T216.heap := CR.trans (CHr.keep Kc216 sfk216 CR.1)
    replace hk := Nat.le_trans hk Kc216.1
    have K216 : Keep h0 T216.heap [] := K213.trans Kc216 (allS (P := fun x => x ∈ [] ∨ h0.size ≤ x) (Or.inr sz_b201) all0)
    have E_b201 : Exa Z T216.heap b201 "java/lang/String" := po216_0
    have F_coder_b201 : Fld Z T216.heap b201 "java/lang/String" "coder" "B" (.int (0 : Int32)) := po216_1
    have nt_216 := po216_4
    have F_value_b201 : Fld Z T216.heap b201 "java/lang/String" "value" "[B" (.ref t_216) := po216_5
    have V_t_216 : Arv Z T216.heap t_216 kb_216 .byte (2 : Int32) (((([d0_, d1_] : List Int32)).map (fun c => c.toInt8.toInt32)).map Value.int) (.int (0 : Int32)) := po216_6
    have P219 : ∀ tt_, GG p e below T216 (mkF m 165 #[.val (.int pa), .val (.int pb), .val (.int pc_), .val (.int pd_), .val (.int n0_), .val (.int n1_), .val (.int l0_), .val (.int d0_), .val (.int d1_), .val (.int e0_), .val (.int e1_), .val (.int (1 : Int32)), .val (.ref b178), .val (.ref xs_197), .val (.ref b201), .val .null, .unset, .unset, .unset, .unset] [(.int (16 : Int32))]) tt_ → Steps p.tables e below s0 tt_ := fun tt_ kk_ => P218 tt_ (by
      refine XS.astore X216.here hx rfl (hb hby at_130) rfl rfl (l' := #[.val (.int pa), .val (.int pb), .val (.int pc_), .val (.int pd_), .val (.int n0_), .val (.int n1_), .val (.int l0_), .val (.int d0_), .val (.int d1_), .val (.int e0_), .val (.int e1_), .val (.int (1 : Int32)), .val (.ref b178), .val (.ref xs_197), .val (.ref b201), .unset, .unset, .unset, .unset, .unset]) rfl ?_
      refine XS.iload X216.here hx rfl (hb hby at_132) rfl ?_
      refine XS.ifNo X216.here hx rfl (hb hby at_134) rfl ((if0 _ _).trans (feq ((by decide) : ¬ ((1 : Int32) = (0 : Int32)))).1) ?_
      refine XS.aconstNull X216.here hx rfl (hb hby at_137) ?_
      refine XS.goto X216.here hx rfl (pc0 := 138) (pc' := 161) rfl (hb hby at_138) (by decide) (by decide) ?_
      refine XS.astore X216.here hx rfl (hb hby at_161) rfl rfl (l' := #[.val (.int pa), .val (.int pb), .val (.int pc_), .val (.int pd_), .val (.int n0_), .val (.int n1_), .val (.int l0_), .val (.int d0_), .val (.int d1_), .val (.int e0_), .val (.int e1_), .val (.int (1 : Int32)), .val (.ref b178), .val (.ref xs_197), .val (.ref b201), .val .null, .unset, .unset, .unset, .unset]) rfl ?_
      refine XS.bipush X216.here hx rfl (hb hby at_163) ?_
      exact kk_)
    have CRb220 := CR
    obtain ⟨T221, h221, k221, X221, e221, E221, A221, st221⟩ := newP X216 hx hZ (ww hw 3 rfl) rfl (g := (mkF m 165 #[.val (.int pa), .val (.int pb), .val (.int pc_), .val (.int pd_), .val (.int n0_), .val (.int n1_), .val (.int l0_), .val (.int d0_), .val (.int d1_), .val (.int e0_), .val (.int e1_), .val (.int (1 : Int32)), .val (.ref b178), .val (.ref xs_197), .val (.ref b201), .val .null, .unset, .unset, .unset, .unset] [(.int (16 : Int32))])) rfl (hb hby at_165) rfl (by decide) (cap := 16) (by decide) (by decide) (by decide) (by decide)
    obtain ⟨b221, g221⟩ : ∃ z, z = T216.heap.size := ⟨_, rfl⟩
    rw [← g221] at A221 st221
    have P222 : ∀ tt_, GG p e below T221 (mkF m 167 #[.val (.int pa), .val (.int pb), .val (.int pc_), .val (.int pd_), .val (.int n0_), .val (.int n1_), .val (.int l0_), .val (.int d0_), .val (.int d1_), .val (.int e0_), .val (.int e1_), .val (.int (1 : Int32)), .val (.ref b178), .val (.ref xs_197), .val (.ref b201), .val .null, .unset, .unset, .unset, .unset] [(.ref b221)]) tt_ → Steps p.tables e below s0 tt_ := fun tt_ kk_ => P219 tt_ (st221 _ kk_)
    have ne_b178_b221 : b178 ≠ b221 := Nat.ne_of_lt (Nat.lt_of_lt_of_le (Nat.lt_of_lt_of_le E_b178.lt (Keep.refl T216.heap []).1) (Nat.le_of_eq g221.symm))
    have ne_b183_b221 : b183 ≠ b221 := Nat.ne_of_lt (Nat.lt_of_lt_of_le (Nat.lt_of_lt_of_le V_b183.lt (Keep.refl T216.heap []).1) (Nat.le_of_eq g221.symm))
    have ne_t_193_b221 : t_193 ≠ b221 := Nat.ne_of_lt (Nat.lt_of_lt_of_le (Nat.lt_of_lt_of_le V_t_193.lt (Keep.refl T216.heap []).1) (Nat.le_of_eq g221.symm))
    have ne_xs_197_b221 : xs_197 ≠ b221 := Nat.ne_of_lt (Nat.lt_of_lt_of_le (Nat.lt_of_lt_of_le E_xs_197.lt (Keep.refl T216.heap []).1) (Nat.le_of_eq g221.symm))
    have ne_t_197_b221 : t_197 ≠ b221 := Nat.ne_of_lt (Nat.lt_of_lt_of_le (Nat.lt_of_lt_of_le V_t_197.lt (Keep.refl T216.heap []).1) (Nat.le_of_eq g221.symm))
    have ne_b201_b221 : b201 ≠ b221 := Nat.ne_of_lt (Nat.lt_of_lt_of_le (Nat.lt_of_lt_of_le E_b201.lt (Keep.refl T216.heap []).1) (Nat.le_of_eq g221.symm))
    have ne_b206_b221 : b206 ≠ b221 := Nat.ne_of_lt (Nat.lt_of_lt_of_le (Nat.lt_of_lt_of_le V_b206.lt (Keep.refl T216.heap []).1) (Nat.le_of_eq g221.symm))
    have ne_t_216_b221 : t_216 ≠ b221 := Nat.ne_of_lt (Nat.lt_of_lt_of_le (Nat.lt_of_lt_of_le V_t_216.lt (Keep.refl T216.heap []).1) (Nat.le_of_eq g221.symm))
    have sz_b221 : h0.size ≤ b221 := Nat.le_trans K216.1 (Nat.le_of_eq g221.symm)
    have szB_b221 : T216.heap.size ≤ b221 := Nat.le_trans (Keep.refl T216.heap []).1 (Nat.le_of_eq g221.symm)
    have sf_b221 : Safe Z ELs s.vm T216.heap b221 := Safe.new (Nat.le_of_eq g221.symm)
    replace sf_b221 : Safe Z ELs s.vm h221 b221 := Safe.ext E221 CR.1 sf_b221
    replace CR : CHr Z ELs s.vm h0 s.vm h221 := CR.trans (CHr.ext E221 CR.1)
    replace hk := Nat.le_trans hk E221.1
    have K221 : Keep h0 h221 [] := K216.ext E221
    have KB221 : Keep T216.heap h221 [] := (Keep.refl T216.heap []).ext E221
    obtain ⟨Lf223, X221, N223⟩ : ∃ Lf, Stand p l e room_1 (s.setVm s.vm) m #[(.int pa), (.int pb), (.int pc_), (.int pd_)] below meth c T221 Lf 9 37 ∧ Fr n0 Lf := ⟨_, X221, N217⟩
    have V_b221 : Arv Z h221 b221 k221 .char (16 : Int32) [(.int (0 : Int32)), (.int (0 : Int32)), (.int (0 : Int32)), (.int (0 : Int32)), (.int (0 : Int32)), (.int (0 : Int32)), (.int (0 : Int32)), (.int (0 : Int32)), (.int (0 : Int32)), (.int (0 : Int32)), (.int (0 : Int32)), (.int (0 : Int32)), (.int (0 : Int32)), (.int (0 : Int32)), (.int (0 : Int32)), (.int (0 : Int32))] (.int (0 : Int32)) := (Arv.new A221 (by decide)).pad (pad_rep [] (.int (0 : Int32)) 16)
    have P224 : ∀ tt_, GG p e below T221 (mkF m 171 #[.val (.int pa), .val (.int pb), .val (.int pc_), .val (.int pd_), .val (.int n0_), .val (.int n1_), .val (.int l0_), .val (.int d0_), .val (.int d1_), .val (.int e0_), .val (.int e1_), .val (.int (1 : Int32)), .val (.ref b178), .val (.ref xs_197), .val (.ref b201), .val .null, .unset, .unset, .unset, .unset] [(.int d0_), (.int (0 : Int32)), (.ref b221), (.ref b221)]) tt_ → Steps p.tables e below s0 tt_ := fun tt_ kk_ => P222 tt_ (by
      refine XS.dup X221.here hx rfl (hb hby at_167) rfl rfl ?_
      refine XS.iconst X221.here hx rfl (hb hby at_168) ?_
      refine XS.iload X221.here hx rfl (hb hby at_169) rfl ?_
      exact kk_)
    obtain ⟨cl225, Ar225, q225, S225, M225, Hs225, G225⟩ := V_b221
    obtain ⟨T225, h225, X225, e225, W225, st225⟩ := stC X221 hx hZ e221 Ar225 (j := (0 : Int32)) (inb_of S225 ⟨by decide, by decide⟩) (g := (mkF m 171 #[.val (.int pa), .val (.int pb), .val (.int pc_), .val (.int pd_), .val (.int n0_), .val (.int n1_), .val (.int l0_), .val (.int d0_), .val (.int d1_), .val (.int e0_), .val (.int e1_), .val (.int (1 : Int32)), .val (.ref b178), .val (.ref xs_197), .val (.ref b201), .val .null, .unset, .unset, .unset, .unset] [(.int d0_), (.int (0 : Int32)), (.ref b221), (.ref b221)])) rfl rfl (hb hby at_171)
    have P226 : ∀ tt_, GG p e below T225 (mkF m 172 #[.val (.int pa), .val (.int pb), .val (.int pc_), .val (.int pd_), .val (.int n0_), .val (.int n1_), .val (.int l0_), .val (.int d0_), .val (.int d1_), .val (.int e0_), .val (.int e1_), .val (.int (1 : Int32)), .val (.ref b178), .val (.ref xs_197), .val (.ref b201), .val .null, .unset, .unset, .unset, .unset] [(.ref b221)]) tt_ → Steps p.tables e below s0 tt_ := fun tt_ kk_ => P224 tt_ (st225 _ kk_)
    have N225 := Fr.snoc X225 N223 (Nat.le_trans Z0 sz_b221)
    have K225 : Keep h0 h225 [] := K221.wr W225 (Or.inr sz_b221)
    have KB225 : Keep T216.heap h225 [] := KB221.wr W225 (Or.inr szB_b221)
    have sfw225 : Safe Z ELs s.vm h221 b221 := sf_b221
    replace sf_b221 : Safe Z ELs s.vm h225 b221 := Safe.wr W225 sfw225 CR.1 sf_b221
    replace CR : CHr Z ELs s.vm h0 s.vm h225 := CR.trans (CHr.wr W225 sfw225 CR.1)
    replace hk := Nat.le_trans hk (Keep.of_wr W225).1
    have V_b221 : Arv Z h225 b221 k221 .char (16 : Int32) [(.int (nar .char d0_)), (.int (0 : Int32)), (.int (0 : Int32)), (.int (0 : Int32)), (.int (0 : Int32)), (.int (0 : Int32)), (.int (0 : Int32)), (.int (0 : Int32)), (.int (0 : Int32)), (.int (0 : Int32)), (.int (0 : Int32)), (.int (0 : Int32)), (.int (0 : Int32)), (.int (0 : Int32)), (.int (0 : Int32)), (.int (0 : Int32))] (.int (0 : Int32)) := Arv.set Ar225 q225 S225 M225 Hs225 G225 (fits_nar_char _) W225 0 rfl (Nat.le_of_ble_eq_true rfl)
    have P227 : ∀ tt_, GG p e below T225 (mkF m 176 #[.val (.int pa), .val (.int pb), .val (.int pc_), .val (.int pd_), .val (.int n0_), .val (.int n1_), .val (.int l0_), .val (.int d0_), .val (.int d1_), .val (.int e0_), .val (.int e1_), .val (.int (1 : Int32)), .val (.ref b178), .val (.ref xs_197), .val (.ref b201), .val .null, .unset, .unset, .unset, .unset] [(.int d1_), (.int (1 : Int32)), (.ref b221), (.ref b221)]) tt_ → Steps p.tables e below s0 tt_ := fun tt_ kk_ => P226 tt_ (by
      refine XS.dup X225.here hx rfl (hb hby at_172) rfl rfl ?_
      refine XS.iconst X225.here hx rfl (hb hby at_173) ?_
      refine XS.iload X225.here hx rfl (hb hby at_174) rfl ?_
      exact kk_)
    obtain ⟨cl228, Ar228, q228, S228, M228, Hs228, G228⟩ := V_b221
    obtain ⟨T228, h228, X228, e228, W228, st228⟩ := stC X225 hx hZ e225 Ar228 (j := (1 : Int32)) (inb_of S228 ⟨by decide, by decide⟩) (g := (mkF m 176 #[.val (.int pa), .val (.int pb), .val (.int pc_), .val (.int pd_), .val (.int n0_), .val (.int n1_), .val (.int l0_), .val (.int d0_), .val (.int d1_), .val (.int e0_), .val (.int e1_), .val (.int (1 : Int32)), .val (.ref b178), .val (.ref xs_197), .val (.ref b201), .val .null, .unset, .unset, .unset, .unset] [(.int d1_), (.int (1 : Int32)), (.ref b221), (.ref b221)])) rfl rfl (hb hby at_176)
    have P229 : ∀ tt_, GG p e below T228 (mkF m 177 #[.val (.int pa), .val (.int pb), .val (.int pc_), .val (.int pd_), .val (.int n0_), .val (.int n1_), .val (.int l0_), .val (.int d0_), .val (.int d1_), .val (.int e0_), .val (.int e1_), .val (.int (1 : Int32)), .val (.ref b178), .val (.ref xs_197), .val (.ref b201), .val .null, .unset, .unset, .unset, .unset] [(.ref b221)]) tt_ → Steps p.tables e below s0 tt_ := fun tt_ kk_ => P227 tt_ (st228 _ kk_)
    have N228 := Fr.snoc X228 N225 (Nat.le_trans Z0 sz_b221)
    have K228 : Keep h0 h228 [] := K225.wr W228 (Or.inr sz_b221)
    have KB228 : Keep T216.heap h228 [] := KB225.wr W228 (Or.inr szB_b221)
    have sfw228 : Safe Z ELs s.vm h225 b221 := sf_b221
    replace sf_b221 : Safe Z ELs s.vm h228 b221 := Safe.wr W228 sfw228 CR.1 sf_b221
    replace CR : CHr Z ELs s.vm h0 s.vm h228 := CR.trans (CHr.wr W228 sfw228 CR.1)
    replace hk := Nat.le_trans hk (Keep.of_wr W228).1
    have V_b221 : Arv Z h228 b221 k221 .char (16 : Int32) [(.int (nar .char d0_)), (.int (nar .char d1_)), (.int (0 : Int32)), (.int (0 : Int32)), (.int (0 : Int32)), (.int (0 : Int32)), (.int (0 : Int32)), (.int (0 : Int32)), (.int (0 : Int32)), (.int (0 : Int32)), (.int (0 : Int32)), (.int (0 : Int32)), (.int (0 : Int32)), (.int (0 : Int32)), (.int (0 : Int32)), (.int (0 : Int32))] (.int (0 : Int32)) := Arv.set Ar228 q228 S228 M228 Hs228 G228 (fits_nar_char _) W228 1 rfl (Nat.le_of_ble_eq_true rfl)
    have P230 : ∀ tt_, GG p e below T228 (mkF m 181 #[.val (.int pa), .val (.int pb), .val (.int pc_), .val (.int pd_), .val (.int n0_), .val (.int n1_), .val (.int l0_), .val (.int d0_), .val (.int d1_), .val (.int e0_), .val (.int e1_), .val (.int (1 : Int32)), .val (.ref b178), .val (.ref xs_197), .val (.ref b201), .val .null, .unset, .unset, .unset, .unset] [(.int (32 : Int32)), (.int (2 : Int32)), (.ref b221), (.ref b221)]) tt_ → Steps p.tables e below s0 tt_ := fun tt_ kk_ => P229 tt_ (by
      refine XS.dup X228.here hx rfl (hb hby at_177) rfl rfl ?_
      refine XS.iconst X228.here hx rfl (hb hby at_178) ?_
      refine XS.bipush X228.here hx rfl (hb hby at_179) ?_
      exact kk_)
    obtain ⟨cl231, Ar231, q231, S231, M231, Hs231, G231⟩ := V_b221
    obtain ⟨T231, h231, X231, e231, W231, st231⟩ := stC X228 hx hZ e228 Ar231 (j := (2 : Int32)) (inb_of S231 ⟨by decide, by decide⟩) (g := (mkF m 181 #[.val (.int pa), .val (.int pb), .val (.int pc_), .val (.int pd_), .val (.int n0_), .val (.int n1_), .val (.int l0_), .val (.int d0_), .val (.int d1_), .val (.int e0_), .val (.int e1_), .val (.int (1 : Int32)), .val (.ref b178), .val (.ref xs_197), .val (.ref b201), .val .null, .unset, .unset, .unset, .unset] [(.int (32 : Int32)), (.int (2 : Int32)), (.ref b221), (.ref b221)])) rfl rfl (hb hby at_181)
    have P232 : ∀ tt_, GG p e below T231 (mkF m 182 #[.val (.int pa), .val (.int pb), .val (.int pc_), .val (.int pd_), .val (.int n0_), .val (.int n1_), .val (.int l0_), .val (.int d0_), .val (.int d1_), .val (.int e0_), .val (.int e1_), .val (.int (1 : Int32)), .val (.ref b178), .val (.ref xs_197), .val (.ref b201), .val .null, .unset, .unset, .unset, .unset] [(.ref b221)]) tt_ → Steps p.tables e below s0 tt_ := fun tt_ kk_ => P230 tt_ (st231 _ kk_)
    have N231 := Fr.snoc X231 N228 (Nat.le_trans Z0 sz_b221)
    have K231 : Keep h0 h231 [] := K228.wr W231 (Or.inr sz_b221)
    have KB231 : Keep T216.heap h231 [] := KB228.wr W231 (Or.inr szB_b221)
    have sfw231 : Safe Z ELs s.vm h228 b221 := sf_b221
    replace sf_b221 : Safe Z ELs s.vm h231 b221 := Safe.wr W231 sfw231 CR.1 sf_b221
    replace CR : CHr Z ELs s.vm h0 s.vm h231 := CR.trans (CHr.wr W231 sfw231 CR.1)
    replace hk := Nat.le_trans hk (Keep.of_wr W231).1
    have V_b221 : Arv Z h231 b221 k221 .char (16 : Int32) [(.int (nar .char d0_)), (.int (nar .char d1_)), (.int (nar .char (32 : Int32))), (.int (0 : Int32)), (.int (0 : Int32)), (.int (0 : Int32)), (.int (0 : Int32)), (.int (0 : Int32)), (.int (0 : Int32)), (.int (0 : Int32)), (.int (0 : Int32)), (.int (0 : Int32)), (.int (0 : Int32)), (.int (0 : Int32)), (.int (0 : Int32)), (.int (0 : Int32))] (.int (0 : Int32)) := Arv.set Ar231 q231 S231 M231 Hs231 G231 (fits_nar_char _) W231 2 rfl (Nat.le_of_ble_eq_true rfl)
    have P233 : ∀ tt_, GG p e below T231 (mkF m 186 #[.val (.int pa), .val (.int pb), .val (.int pc_), .val (.int pd_), .val (.int n0_), .val (.int n1_), .val (.int l0_), .val (.int d0_), .val (.int d1_), .val (.int e0_), .val (.int e1_), .val (.int (1 : Int32)), .val (.ref b178), .val (.ref xs_197), .val (.ref b201), .val .null, .unset, .unset, .unset, .unset] [(.int (68 : Int32)), (.int (3 : Int32)), (.ref b221), (.ref b221)]) tt_ → Steps p.tables e below s0 tt_ := fun tt_ kk_ => P232 tt_ (by
      refine XS.dup X231.here hx rfl (hb hby at_182) rfl rfl ?_
      refine XS.iconst X231.here hx rfl (hb hby at_183) ?_
      refine XS.bipush X231.here hx rfl (hb hby at_184) ?_
      exact kk_)
    obtain ⟨cl234, Ar234, q234, S234, M234, Hs234, G234⟩ := V_b221
    obtain ⟨T234, h234, X234, e234, W234, st234⟩ := stC X231 hx hZ e231 Ar234 (j := (3 : Int32)) (inb_of S234 ⟨by decide, by decide⟩) (g := (mkF m 186 #[.val (.int pa), .val (.int pb), .val (.int pc_), .val (.int pd_), .val (.int n0_), .val (.int n1_), .val (.int l0_), .val (.int d0_), .val (.int d1_), .val (.int e0_), .val (.int e1_), .val (.int (1 : Int32)), .val (.ref b178), .val (.ref xs_197), .val (.ref b201), .val .null, .unset, .unset, .unset, .unset] [(.int (68 : Int32)), (.int (3 : Int32)), (.ref b221), (.ref b221)])) rfl rfl (hb hby at_186)
    have P235 : ∀ tt_, GG p e below T234 (mkF m 187 #[.val (.int pa), .val (.int pb), .val (.int pc_), .val (.int pd_), .val (.int n0_), .val (.int n1_), .val (.int l0_), .val (.int d0_), .val (.int d1_), .val (.int e0_), .val (.int e1_), .val (.int (1 : Int32)), .val (.ref b178), .val (.ref xs_197), .val (.ref b201), .val .null, .unset, .unset, .unset, .unset] [(.ref b221)]) tt_ → Steps p.tables e below s0 tt_ := fun tt_ kk_ => P233 tt_ (st234 _ kk_)
    have N234 := Fr.snoc X234 N231 (Nat.le_trans Z0 sz_b221)
    have K234 : Keep h0 h234 [] := K231.wr W234 (Or.inr sz_b221)
    have KB234 : Keep T216.heap h234 [] := KB231.wr W234 (Or.inr szB_b221)
    have sfw234 : Safe Z ELs s.vm h231 b221 := sf_b221
    replace sf_b221 : Safe Z ELs s.vm h234 b221 := Safe.wr W234 sfw234 CR.1 sf_b221
    replace CR : CHr Z ELs s.vm h0 s.vm h234 := CR.trans (CHr.wr W234 sfw234 CR.1)
    replace hk := Nat.le_trans hk (Keep.of_wr W234).1
    have V_b221 : Arv Z h234 b221 k221 .char (16 : Int32) [(.int (nar .char d0_)), (.int (nar .char d1_)), (.int (nar .char (32 : Int32))), (.int (nar .char (68 : Int32))), (.int (0 : Int32)), (.int (0 : Int32)), (.int (0 : Int32)), (.int (0 : Int32)), (.int (0 : Int32)), (.int (0 : Int32)), (.int (0 : Int32)), (.int (0 : Int32)), (.int (0 : Int32)), (.int (0 : Int32)), (.int (0 : Int32)), (.int (0 : Int32))] (.int (0 : Int32)) := Arv.set Ar234 q234 S234 M234 Hs234 G234 (fits_nar_char _) W234 3 rfl (Nat.le_of_ble_eq_true rfl)
    have P236 : ∀ tt_, GG p e below T234 (mkF m 191 #[.val (.int pa), .val (.int pb), .val (.int pc_), .val (.int pd_), .val (.int n0_), .val (.int n1_), .val (.int l0_), .val (.int d0_), .val (.int d1_), .val (.int e0_), .val (.int e1_), .val (.int (1 : Int32)), .val (.ref b178), .val (.ref xs_197), .val (.ref b201), .val .null, .unset, .unset, .unset, .unset] [(.int (101 : Int32)), (.int (4 : Int32)), (.ref b221), (.ref b221)]) tt_ → Steps p.tables e below s0 tt_ := fun tt_ kk_ => P235 tt_ (by
      refine XS.dup X234.here hx rfl (hb hby at_187) rfl rfl ?_
      refine XS.iconst X234.here hx rfl (hb hby at_188) ?_
      refine XS.bipush X234.here hx rfl (hb hby at_189) ?_
      exact kk_)
    obtain ⟨cl237, Ar237, q237, S237, M237, Hs237, G237⟩ := V_b221
    obtain ⟨T237, h237, X237, e237, W237, st237⟩ := stC X234 hx hZ e234 Ar237 (j := (4 : Int32)) (inb_of S237 ⟨by decide, by decide⟩) (g := (mkF m 191 #[.val (.int pa), .val (.int pb), .val (.int pc_), .val (.int pd_), .val (.int n0_), .val (.int n1_), .val (.int l0_), .val (.int d0_), .val (.int d1_), .val (.int e0_), .val (.int e1_), .val (.int (1 : Int32)), .val (.ref b178), .val (.ref xs_197), .val (.ref b201), .val .null, .unset, .unset, .unset, .unset] [(.int (101 : Int32)), (.int (4 : Int32)), (.ref b221), (.ref b221)])) rfl rfl (hb hby at_191)
    have P238 : ∀ tt_, GG p e below T237 (mkF m 192 #[.val (.int pa), .val (.int pb), .val (.int pc_), .val (.int pd_), .val (.int n0_), .val (.int n1_), .val (.int l0_), .val (.int d0_), .val (.int d1_), .val (.int e0_), .val (.int e1_), .val (.int (1 : Int32)), .val (.ref b178), .val (.ref xs_197), .val (.ref b201), .val .null, .unset, .unset, .unset, .unset] [(.ref b221)]) tt_ → Steps p.tables e below s0 tt_ := fun tt_ kk_ => P236 tt_ (st237 _ kk_)
    have N237 := Fr.snoc X237 N234 (Nat.le_trans Z0 sz_b221)
    have K237 : Keep h0 h237 [] := K234.wr W237 (Or.inr sz_b221)
    have KB237 : Keep T216.heap h237 [] := KB234.wr W237 (Or.inr szB_b221)
    have sfw237 : Safe Z ELs s.vm h234 b221 := sf_b221
    replace sf_b221 : Safe Z ELs s.vm h237 b221 := Safe.wr W237 sfw237 CR.1 sf_b221
    replace CR : CHr Z ELs s.vm h0 s.vm h237 := CR.trans (CHr.wr W237 sfw237 CR.1)
    replace hk := Nat.le_trans hk (Keep.of_wr W237).1
    have V_b221 : Arv Z h237 b221 k221 .char (16 : Int32) [(.int (nar .char d0_)), (.int (nar .char d1_)), (.int (nar .char (32 : Int32))), (.int (nar .char (68 : Int32))), (.int (nar .char (101 : Int32))), (.int (0 : Int32)), (.int (0 : Int32)), (.int (0 : Int32)), (.int (0 : Int32)), (.int (0 : Int32)), (.int (0 : Int32)), (.int (0 : Int32)), (.int (0 : Int32)), (.int (0 : Int32)), (.int (0 : Int32)), (.int (0 : Int32))] (.int (0 : Int32)) := Arv.set Ar237 q237 S237 M237 Hs237 G237 (fits_nar_char _) W237 4 rfl (Nat.le_of_ble_eq_true rfl)
    have P239 : ∀ tt_, GG p e below T237 (mkF m 196 #[.val (.int pa), .val (.int pb), .val (.int pc_), .val (.int pd_), .val (.int n0_), .val (.int n1_), .val (.int l0_), .val (.int d0_), .val (.int d1_), .val (.int e0_), .val (.int e1_), .val (.int (1 : Int32)), .val (.ref b178), .val (.ref xs_197), .val (.ref b201), .val .null, .unset, .unset, .unset, .unset] [(.int (102 : Int32)), (.int (5 : Int32)), (.ref b221), (.ref b221)]) tt_ → Steps p.tables e below s0 tt_ := fun tt_ kk_ => P238 tt_ (by
      refine XS.dup X237.here hx rfl (hb hby at_192) rfl rfl ?_
      refine XS.iconst X237.here hx rfl (hb hby at_193) ?_
      refine XS.bipush X237.here hx rfl (hb hby at_194) ?_
      exact kk_)
    obtain ⟨cl240, Ar240, q240, S240, M240, Hs240, G240⟩ := V_b221
    obtain ⟨T240, h240, X240, e240, W240, st240⟩ := stC X237 hx hZ e237 Ar240 (j := (5 : Int32)) (inb_of S240 ⟨by decide, by decide⟩) (g := (mkF m 196 #[.val (.int pa), .val (.int pb), .val (.int pc_), .val (.int pd_), .val (.int n0_), .val (.int n1_), .val (.int l0_), .val (.int d0_), .val (.int d1_), .val (.int e0_), .val (.int e1_), .val (.int (1 : Int32)), .val (.ref b178), .val (.ref xs_197), .val (.ref b201), .val .null, .unset, .unset, .unset, .unset] [(.int (102 : Int32)), (.int (5 : Int32)), (.ref b221), (.ref b221)])) rfl rfl (hb hby at_196)
    have P241 : ∀ tt_, GG p e below T240 (mkF m 197 #[.val (.int pa), .val (.int pb), .val (.int pc_), .val (.int pd_), .val (.int n0_), .val (.int n1_), .val (.int l0_), .val (.int d0_), .val (.int d1_), .val (.int e0_), .val (.int e1_), .val (.int (1 : Int32)), .val (.ref b178), .val (.ref xs_197), .val (.ref b201), .val .null, .unset, .unset, .unset, .unset] [(.ref b221)]) tt_ → Steps p.tables e below s0 tt_ := fun tt_ kk_ => P239 tt_ (st240 _ kk_)
    have N240 := Fr.snoc X240 N237 (Nat.le_trans Z0 sz_b221)
    have K240 : Keep h0 h240 [] := K237.wr W240 (Or.inr sz_b221)
    have KB240 : Keep T216.heap h240 [] := KB237.wr W240 (Or.inr szB_b221)
    have sfw240 : Safe Z ELs s.vm h237 b221 := sf_b221
    replace sf_b221 : Safe Z ELs s.vm h240 b221 := Safe.wr W240 sfw240 CR.1 sf_b221
    replace CR : CHr Z ELs s.vm h0 s.vm h240 := CR.trans (CHr.wr W240 sfw240 CR.1)
    replace hk := Nat.le_trans hk (Keep.of_wr W240).1
    have V_b221 : Arv Z h240 b221 k221 .char (16 : Int32) [(.int (nar .char d0_)), (.int (nar .char d1_)), (.int (nar .char (32 : Int32))), (.int (nar .char (68 : Int32))), (.int (nar .char (101 : Int32))), (.int (nar .char (102 : Int32))), (.int (0 : Int32)), (.int (0 : Int32)), (.int (0 : Int32)), (.int (0 : Int32)), (.int (0 : Int32)), (.int (0 : Int32)), (.int (0 : Int32)), (.int (0 : Int32)), (.int (0 : Int32)), (.int (0 : Int32))] (.int (0 : Int32)) := Arv.set Ar240 q240 S240 M240 Hs240 G240 (fits_nar_char _) W240 5 rfl (Nat.le_of_ble_eq_true rfl)
    have P242 : ∀ tt_, GG p e below T240 (mkF m 202 #[.val (.int pa), .val (.int pb), .val (.int pc_), .val (.int pd_), .val (.int n0_), .val (.int n1_), .val (.int l0_), .val (.int d0_), .val (.int d1_), .val (.int e0_), .val (.int e1_), .val (.int (1 : Int32)), .val (.ref b178), .val (.ref xs_197), .val (.ref b201), .val .null, .unset, .unset, .unset, .unset] [(.int (97 : Int32)), (.int (6 : Int32)), (.ref b221), (.ref b221)]) tt_ → Steps p.tables e below s0 tt_ := fun tt_ kk_ => P241 tt_ (by
      refine XS.dup X240.here hx rfl (hb hby at_197) rfl rfl ?_
      refine XS.bipush X240.here hx rfl (hb hby at_198) ?_
      refine XS.bipush X240.here hx rfl (hb hby at_200) ?_
      exact kk_)
    obtain ⟨cl243, Ar243, q243, S243, M243, Hs243, G243⟩ := V_b221
    obtain ⟨T243, h243, X243, e243, W243, st243⟩ := stC X240 hx hZ e240 Ar243 (j := (6 : Int32)) (inb_of S243 ⟨by decide, by decide⟩) (g := (mkF m 202 #[.val (.int pa), .val (.int pb), .val (.int pc_), .val (.int pd_), .val (.int n0_), .val (.int n1_), .val (.int l0_), .val (.int d0_), .val (.int d1_), .val (.int e0_), .val (.int e1_), .val (.int (1 : Int32)), .val (.ref b178), .val (.ref xs_197), .val (.ref b201), .val .null, .unset, .unset, .unset, .unset] [(.int (97 : Int32)), (.int (6 : Int32)), (.ref b221), (.ref b221)])) rfl rfl (hb hby at_202)
    have P244 : ∀ tt_, GG p e below T243 (mkF m 203 #[.val (.int pa), .val (.int pb), .val (.int pc_), .val (.int pd_), .val (.int n0_), .val (.int n1_), .val (.int l0_), .val (.int d0_), .val (.int d1_), .val (.int e0_), .val (.int e1_), .val (.int (1 : Int32)), .val (.ref b178), .val (.ref xs_197), .val (.ref b201), .val .null, .unset, .unset, .unset, .unset] [(.ref b221)]) tt_ → Steps p.tables e below s0 tt_ := fun tt_ kk_ => P242 tt_ (st243 _ kk_)
    have N243 := Fr.snoc X243 N240 (Nat.le_trans Z0 sz_b221)
    have K243 : Keep h0 h243 [] := K240.wr W243 (Or.inr sz_b221)
    have KB243 : Keep T216.heap h243 [] := KB240.wr W243 (Or.inr szB_b221)
    have sfw243 : Safe Z ELs s.vm h240 b221 := sf_b221
    replace sf_b221 : Safe Z ELs s.vm h243 b221 := Safe.wr W243 sfw243 CR.1 sf_b221
    replace CR : CHr Z ELs s.vm h0 s.vm h243 := CR.trans (CHr.wr W243 sfw243 CR.1)
    replace hk := Nat.le_trans hk (Keep.of_wr W243).1
    have V_b221 : Arv Z h243 b221 k221 .char (16 : Int32) [(.int (nar .char d0_)), (.int (nar .char d1_)), (.int (nar .char (32 : Int32))), (.int (nar .char (68 : Int32))), (.int (nar .char (101 : Int32))), (.int (nar .char (102 : Int32))), (.int (nar .char (97 : Int32))), (.int (0 : Int32)), (.int (0 : Int32)), (.int (0 : Int32)), (.int (0 : Int32)), (.int (0 : Int32)), (.int (0 : Int32)), (.int (0 : Int32)), (.int (0 : Int32)), (.int (0 : Int32))] (.int (0 : Int32)) := Arv.set Ar243 q243 S243 M243 Hs243 G243 (fits_nar_char _) W243 6 rfl (Nat.le_of_ble_eq_true rfl)
    have P245 : ∀ tt_, GG p e below T243 (mkF m 208 #[.val (.int pa), .val (.int pb), .val (.int pc_), .val (.int pd_), .val (.int n0_), .val (.int n1_), .val (.int l0_), .val (.int d0_), .val (.int d1_), .val (.int e0_), .val (.int e1_), .val (.int (1 : Int32)), .val (.ref b178), .val (.ref xs_197), .val (.ref b201), .val .null, .unset, .unset, .unset, .unset] [(.int (117 : Int32)), (.int (7 : Int32)), (.ref b221), (.ref b221)]) tt_ → Steps p.tables e below s0 tt_ := fun tt_ kk_ => P244 tt_ (by
      refine XS.dup X243.here hx rfl (hb hby at_203) rfl rfl ?_
      refine XS.bipush X243.here hx rfl (hb hby at_204) ?_
      refine XS.bipush X243.here hx rfl (hb hby at_206) ?_
      exact kk_)
    obtain ⟨cl246, Ar246, q246, S246, M246, Hs246, G246⟩ := V_b221
    obtain ⟨T246, h246, X246, e246, W246, st246⟩ := stC X243 hx hZ e243 Ar246 (j := (7 : Int32)) (inb_of S246 ⟨by decide, by decide⟩) (g := (mkF m 208 #[.val (.int pa), .val (.int pb), .val (.int pc_), .val (.int pd_), .val (.int n0_), .val (.int n1_), .val (.int l0_), .val (.int d0_), .val (.int d1_), .val (.int e0_), .val (.int e1_), .val (.int (1 : Int32)), .val (.ref b178), .val (.ref xs_197), .val (.ref b201), .val .null, .unset, .unset, .unset, .unset] [(.int (117 : Int32)), (.int (7 : Int32)), (.ref b221), (.ref b221)])) rfl rfl (hb hby at_208)
    have P247 : ∀ tt_, GG p e below T246 (mkF m 209 #[.val (.int pa), .val (.int pb), .val (.int pc_), .val (.int pd_), .val (.int n0_), .val (.int n1_), .val (.int l0_), .val (.int d0_), .val (.int d1_), .val (.int e0_), .val (.int e1_), .val (.int (1 : Int32)), .val (.ref b178), .val (.ref xs_197), .val (.ref b201), .val .null, .unset, .unset, .unset, .unset] [(.ref b221)]) tt_ → Steps p.tables e below s0 tt_ := fun tt_ kk_ => P245 tt_ (st246 _ kk_)
    have N246 := Fr.snoc X246 N243 (Nat.le_trans Z0 sz_b221)
    have K246 : Keep h0 h246 [] := K243.wr W246 (Or.inr sz_b221)
    have KB246 : Keep T216.heap h246 [] := KB243.wr W246 (Or.inr szB_b221)
    have sfw246 : Safe Z ELs s.vm h243 b221 := sf_b221
    replace sf_b221 : Safe Z ELs s.vm h246 b221 := Safe.wr W246 sfw246 CR.1 sf_b221
    replace CR : CHr Z ELs s.vm h0 s.vm h246 := CR.trans (CHr.wr W246 sfw246 CR.1)
    replace hk := Nat.le_trans hk (Keep.of_wr W246).1
    have V_b221 : Arv Z h246 b221 k221 .char (16 : Int32) [(.int (nar .char d0_)), (.int (nar .char d1_)), (.int (nar .char (32 : Int32))), (.int (nar .char (68 : Int32))), (.int (nar .char (101 : Int32))), (.int (nar .char (102 : Int32))), (.int (nar .char (97 : Int32))), (.int (nar .char (117 : Int32))), (.int (0 : Int32)), (.int (0 : Int32)), (.int (0 : Int32)), (.int (0 : Int32)), (.int (0 : Int32)), (.int (0 : Int32)), (.int (0 : Int32)), (.int (0 : Int32))] (.int (0 : Int32)) := Arv.set Ar246 q246 S246 M246 Hs246 G246 (fits_nar_char _) W246 7 rfl (Nat.le_of_ble_eq_true rfl)
    have P248 : ∀ tt_, GG p e below T246 (mkF m 214 #[.val (.int pa), .val (.int pb), .val (.int pc_), .val (.int pd_), .val (.int n0_), .val (.int n1_), .val (.int l0_), .val (.int d0_), .val (.int d1_), .val (.int e0_), .val (.int e1_), .val (.int (1 : Int32)), .val (.ref b178), .val (.ref xs_197), .val (.ref b201), .val .null, .unset, .unset, .unset, .unset] [(.int (108 : Int32)), (.int (8 : Int32)), (.ref b221), (.ref b221)]) tt_ → Steps p.tables e below s0 tt_ := fun tt_ kk_ => P247 tt_ (by
      refine XS.dup X246.here hx rfl (hb hby at_209) rfl rfl ?_
      refine XS.bipush X246.here hx rfl (hb hby at_210) ?_
      refine XS.bipush X246.here hx rfl (hb hby at_212) ?_
      exact kk_)
    obtain ⟨cl249, Ar249, q249, S249, M249, Hs249, G249⟩ := V_b221
    obtain ⟨T249, h249, X249, e249, W249, st249⟩ := stC X246 hx hZ e246 Ar249 (j := (8 : Int32)) (inb_of S249 ⟨by decide, by decide⟩) (g := (mkF m 214 #[.val (.int pa), .val (.int pb), .val (.int pc_), .val (.int pd_), .val (.int n0_), .val (.int n1_), .val (.int l0_), .val (.int d0_), .val (.int d1_), .val (.int e0_), .val (.int e1_), .val (.int (1 : Int32)), .val (.ref b178), .val (.ref xs_197), .val (.ref b201), .val .null, .unset, .unset, .unset, .unset] [(.int (108 : Int32)), (.int (8 : Int32)), (.ref b221), (.ref b221)])) rfl rfl (hb hby at_214)
    have P250 : ∀ tt_, GG p e below T249 (mkF m 215 #[.val (.int pa), .val (.int pb), .val (.int pc_), .val (.int pd_), .val (.int n0_), .val (.int n1_), .val (.int l0_), .val (.int d0_), .val (.int d1_), .val (.int e0_), .val (.int e1_), .val (.int (1 : Int32)), .val (.ref b178), .val (.ref xs_197), .val (.ref b201), .val .null, .unset, .unset, .unset, .unset] [(.ref b221)]) tt_ → Steps p.tables e below s0 tt_ := fun tt_ kk_ => P248 tt_ (st249 _ kk_)
    have N249 := Fr.snoc X249 N246 (Nat.le_trans Z0 sz_b221)
    have K249 : Keep h0 h249 [] := K246.wr W249 (Or.inr sz_b221)
    have KB249 : Keep T216.heap h249 [] := KB246.wr W249 (Or.inr szB_b221)
    have sfw249 : Safe Z ELs s.vm h246 b221 := sf_b221
    replace sf_b221 : Safe Z ELs s.vm h249 b221 := Safe.wr W249 sfw249 CR.1 sf_b221
    replace CR : CHr Z ELs s.vm h0 s.vm h249 := CR.trans (CHr.wr W249 sfw249 CR.1)
    replace hk := Nat.le_trans hk (Keep.of_wr W249).1
    have V_b221 : Arv Z h249 b221 k221 .char (16 : Int32) [(.int (nar .char d0_)), (.int (nar .char d1_)), (.int (nar .char (32 : Int32))), (.int (nar .char (68 : Int32))), (.int (nar .char (101 : Int32))), (.int (nar .char (102 : Int32))), (.int (nar .char (97 : Int32))), (.int (nar .char (117 : Int32))), (.int (nar .char (108 : Int32))), (.int (0 : Int32)), (.int (0 : Int32)), (.int (0 : Int32)), (.int (0 : Int32)), (.int (0 : Int32)), (.int (0 : Int32)), (.int (0 : Int32))] (.int (0 : Int32)) := Arv.set Ar249 q249 S249 M249 Hs249 G249 (fits_nar_char _) W249 8 rfl (Nat.le_of_ble_eq_true rfl)
    have P251 : ∀ tt_, GG p e below T249 (mkF m 220 #[.val (.int pa), .val (.int pb), .val (.int pc_), .val (.int pd_), .val (.int n0_), .val (.int n1_), .val (.int l0_), .val (.int d0_), .val (.int d1_), .val (.int e0_), .val (.int e1_), .val (.int (1 : Int32)), .val (.ref b178), .val (.ref xs_197), .val (.ref b201), .val .null, .unset, .unset, .unset, .unset] [(.int (116 : Int32)), (.int (9 : Int32)), (.ref b221), (.ref b221)]) tt_ → Steps p.tables e below s0 tt_ := fun tt_ kk_ => P250 tt_ (by
      refine XS.dup X249.here hx rfl (hb hby at_215) rfl rfl ?_
      refine XS.bipush X249.here hx rfl (hb hby at_216) ?_
      refine XS.bipush X249.here hx rfl (hb hby at_218) ?_
      exact kk_)
    obtain ⟨cl252, Ar252, q252, S252, M252, Hs252, G252⟩ := V_b221
    obtain ⟨T252, h252, X252, e252, W252, st252⟩ := stC X249 hx hZ e249 Ar252 (j := (9 : Int32)) (inb_of S252 ⟨by decide, by decide⟩) (g := (mkF m 220 #[.val (.int pa), .val (.int pb), .val (.int pc_), .val (.int pd_), .val (.int n0_), .val (.int n1_), .val (.int l0_), .val (.int d0_), .val (.int d1_), .val (.int e0_), .val (.int e1_), .val (.int (1 : Int32)), .val (.ref b178), .val (.ref xs_197), .val (.ref b201), .val .null, .unset, .unset, .unset, .unset] [(.int (116 : Int32)), (.int (9 : Int32)), (.ref b221), (.ref b221)])) rfl rfl (hb hby at_220)
    have P253 : ∀ tt_, GG p e below T252 (mkF m 221 #[.val (.int pa), .val (.int pb), .val (.int pc_), .val (.int pd_), .val (.int n0_), .val (.int n1_), .val (.int l0_), .val (.int d0_), .val (.int d1_), .val (.int e0_), .val (.int e1_), .val (.int (1 : Int32)), .val (.ref b178), .val (.ref xs_197), .val (.ref b201), .val .null, .unset, .unset, .unset, .unset] [(.ref b221)]) tt_ → Steps p.tables e below s0 tt_ := fun tt_ kk_ => P251 tt_ (st252 _ kk_)
    have N252 := Fr.snoc X252 N249 (Nat.le_trans Z0 sz_b221)
    have K252 : Keep h0 h252 [] := K249.wr W252 (Or.inr sz_b221)
    have KB252 : Keep T216.heap h252 [] := KB249.wr W252 (Or.inr szB_b221)
    have sfw252 : Safe Z ELs s.vm h249 b221 := sf_b221
    replace sf_b221 : Safe Z ELs s.vm h252 b221 := Safe.wr W252 sfw252 CR.1 sf_b221
    replace CR : CHr Z ELs s.vm h0 s.vm h252 := CR.trans (CHr.wr W252 sfw252 CR.1)
    replace hk := Nat.le_trans hk (Keep.of_wr W252).1
    have V_b221 : Arv Z h252 b221 k221 .char (16 : Int32) [(.int (nar .char d0_)), (.int (nar .char d1_)), (.int (nar .char (32 : Int32))), (.int (nar .char (68 : Int32))), (.int (nar .char (101 : Int32))), (.int (nar .char (102 : Int32))), (.int (nar .char (97 : Int32))), (.int (nar .char (117 : Int32))), (.int (nar .char (108 : Int32))), (.int (nar .char (116 : Int32))), (.int (0 : Int32)), (.int (0 : Int32)), (.int (0 : Int32)), (.int (0 : Int32)), (.int (0 : Int32)), (.int (0 : Int32))] (.int (0 : Int32)) := Arv.set Ar252 q252 S252 M252 Hs252 G252 (fits_nar_char _) W252 9 rfl (Nat.le_of_ble_eq_true rfl)
    have P254 : ∀ tt_, GG p e below T252 (mkF m 226 #[.val (.int pa), .val (.int pb), .val (.int pc_), .val (.int pd_), .val (.int n0_), .val (.int n1_), .val (.int l0_), .val (.int d0_), .val (.int d1_), .val (.int e0_), .val (.int e1_), .val (.int (1 : Int32)), .val (.ref b178), .val (.ref xs_197), .val (.ref b201), .val .null, .unset, .unset, .unset, .unset] [(.int (58 : Int32)), (.int (10 : Int32)), (.ref b221), (.ref b221)]) tt_ → Steps p.tables e below s0 tt_ := fun tt_ kk_ => P253 tt_ (by
      refine XS.dup X252.here hx rfl (hb hby at_221) rfl rfl ?_
      refine XS.bipush X252.here hx rfl (hb hby at_222) ?_
      refine XS.bipush X252.here hx rfl (hb hby at_224) ?_
      exact kk_)
    obtain ⟨cl255, Ar255, q255, S255, M255, Hs255, G255⟩ := V_b221
    obtain ⟨T255, h255, X255, e255, W255, st255⟩ := stC X252 hx hZ e252 Ar255 (j := (10 : Int32)) (inb_of S255 ⟨by decide, by decide⟩) (g := (mkF m 226 #[.val (.int pa), .val (.int pb), .val (.int pc_), .val (.int pd_), .val (.int n0_), .val (.int n1_), .val (.int l0_), .val (.int d0_), .val (.int d1_), .val (.int e0_), .val (.int e1_), .val (.int (1 : Int32)), .val (.ref b178), .val (.ref xs_197), .val (.ref b201), .val .null, .unset, .unset, .unset, .unset] [(.int (58 : Int32)), (.int (10 : Int32)), (.ref b221), (.ref b221)])) rfl rfl (hb hby at_226)
    have P256 : ∀ tt_, GG p e below T255 (mkF m 227 #[.val (.int pa), .val (.int pb), .val (.int pc_), .val (.int pd_), .val (.int n0_), .val (.int n1_), .val (.int l0_), .val (.int d0_), .val (.int d1_), .val (.int e0_), .val (.int e1_), .val (.int (1 : Int32)), .val (.ref b178), .val (.ref xs_197), .val (.ref b201), .val .null, .unset, .unset, .unset, .unset] [(.ref b221)]) tt_ → Steps p.tables e below s0 tt_ := fun tt_ kk_ => P254 tt_ (st255 _ kk_)
    have N255 := Fr.snoc X255 N252 (Nat.le_trans Z0 sz_b221)
    have K255 : Keep h0 h255 [] := K252.wr W255 (Or.inr sz_b221)
    have KB255 : Keep T216.heap h255 [] := KB252.wr W255 (Or.inr szB_b221)
    have sfw255 : Safe Z ELs s.vm h252 b221 := sf_b221
    replace sf_b221 : Safe Z ELs s.vm h255 b221 := Safe.wr W255 sfw255 CR.1 sf_b221
    replace CR : CHr Z ELs s.vm h0 s.vm h255 := CR.trans (CHr.wr W255 sfw255 CR.1)
    replace hk := Nat.le_trans hk (Keep.of_wr W255).1
    have V_b221 : Arv Z h255 b221 k221 .char (16 : Int32) [(.int (nar .char d0_)), (.int (nar .char d1_)), (.int (nar .char (32 : Int32))), (.int (nar .char (68 : Int32))), (.int (nar .char (101 : Int32))), (.int (nar .char (102 : Int32))), (.int (nar .char (97 : Int32))), (.int (nar .char (117 : Int32))), (.int (nar .char (108 : Int32))), (.int (nar .char (116 : Int32))), (.int (nar .char (58 : Int32))), (.int (0 : Int32)), (.int (0 : Int32)), (.int (0 : Int32)), (.int (0 : Int32)), (.int (0 : Int32))] (.int (0 : Int32)) := Arv.set Ar255 q255 S255 M255 Hs255 G255 (fits_nar_char _) W255 10 rfl (Nat.le_of_ble_eq_true rfl)
    have P257 : ∀ tt_, GG p e below T255 (mkF m 232 #[.val (.int pa), .val (.int pb), .val (.int pc_), .val (.int pd_), .val (.int n0_), .val (.int n1_), .val (.int l0_), .val (.int d0_), .val (.int d1_), .val (.int e0_), .val (.int e1_), .val (.int (1 : Int32)), .val (.ref b178), .val (.ref xs_197), .val (.ref b201), .val .null, .unset, .unset, .unset, .unset] [(.int (32 : Int32)), (.int (11 : Int32)), (.ref b221), (.ref b221)]) tt_ → Steps p.tables e below s0 tt_ := fun tt_ kk_ => P256 tt_ (by
      refine XS.dup X255.here hx rfl (hb hby at_227) rfl rfl ?_
      refine XS.bipush X255.here hx rfl (hb hby at_228) ?_
      refine XS.bipush X255.here hx rfl (hb hby at_230) ?_
      exact kk_)
    obtain ⟨cl258, Ar258, q258, S258, M258, Hs258, G258⟩ := V_b221
    obtain ⟨T258, h258, X258, e258, W258, st258⟩ := stC X255 hx hZ e255 Ar258 (j := (11 : Int32)) (inb_of S258 ⟨by decide, by decide⟩) (g := (mkF m 232 #[.val (.int pa), .val (.int pb), .val (.int pc_), .val (.int pd_), .val (.int n0_), .val (.int n1_), .val (.int l0_), .val (.int d0_), .val (.int d1_), .val (.int e0_), .val (.int e1_), .val (.int (1 : Int32)), .val (.ref b178), .val (.ref xs_197), .val (.ref b201), .val .null, .unset, .unset, .unset, .unset] [(.int (32 : Int32)), (.int (11 : Int32)), (.ref b221), (.ref b221)])) rfl rfl (hb hby at_232)
    have P259 : ∀ tt_, GG p e below T258 (mkF m 233 #[.val (.int pa), .val (.int pb), .val (.int pc_), .val (.int pd_), .val (.int n0_), .val (.int n1_), .val (.int l0_), .val (.int d0_), .val (.int d1_), .val (.int e0_), .val (.int e1_), .val (.int (1 : Int32)), .val (.ref b178), .val (.ref xs_197), .val (.ref b201), .val .null, .unset, .unset, .unset, .unset] [(.ref b221)]) tt_ → Steps p.tables e below s0 tt_ := fun tt_ kk_ => P257 tt_ (st258 _ kk_)
    have N258 := Fr.snoc X258 N255 (Nat.le_trans Z0 sz_b221)
    have K258 : Keep h0 h258 [] := K255.wr W258 (Or.inr sz_b221)
    have KB258 : Keep T216.heap h258 [] := KB255.wr W258 (Or.inr szB_b221)
    have sfw258 : Safe Z ELs s.vm h255 b221 := sf_b221
    replace sf_b221 : Safe Z ELs s.vm h258 b221 := Safe.wr W258 sfw258 CR.1 sf_b221
    replace CR : CHr Z ELs s.vm h0 s.vm h258 := CR.trans (CHr.wr W258 sfw258 CR.1)
    replace hk := Nat.le_trans hk (Keep.of_wr W258).1
    have V_b221 : Arv Z h258 b221 k221 .char (16 : Int32) [(.int (nar .char d0_)), (.int (nar .char d1_)), (.int (nar .char (32 : Int32))), (.int (nar .char (68 : Int32))), (.int (nar .char (101 : Int32))), (.int (nar .char (102 : Int32))), (.int (nar .char (97 : Int32))), (.int (nar .char (117 : Int32))), (.int (nar .char (108 : Int32))), (.int (nar .char (116 : Int32))), (.int (nar .char (58 : Int32))), (.int (nar .char (32 : Int32))), (.int (0 : Int32)), (.int (0 : Int32)), (.int (0 : Int32)), (.int (0 : Int32))] (.int (0 : Int32)) := Arv.set Ar258 q258 S258 M258 Hs258 G258 (fits_nar_char _) W258 11 rfl (Nat.le_of_ble_eq_true rfl)
    have P260 : ∀ tt_, GG p e below T258 (mkF m 238 #[.val (.int pa), .val (.int pb), .val (.int pc_), .val (.int pd_), .val (.int n0_), .val (.int n1_), .val (.int l0_), .val (.int d0_), .val (.int d1_), .val (.int e0_), .val (.int e1_), .val (.int (1 : Int32)), .val (.ref b178), .val (.ref xs_197), .val (.ref b201), .val .null, .unset, .unset, .unset, .unset] [(.int (36 : Int32)), (.int (12 : Int32)), (.ref b221), (.ref b221)]) tt_ → Steps p.tables e below s0 tt_ := fun tt_ kk_ => P259 tt_ (by
      refine XS.dup X258.here hx rfl (hb hby at_233) rfl rfl ?_
      refine XS.bipush X258.here hx rfl (hb hby at_234) ?_
      refine XS.bipush X258.here hx rfl (hb hby at_236) ?_
      exact kk_)
    obtain ⟨cl261, Ar261, q261, S261, M261, Hs261, G261⟩ := V_b221
    obtain ⟨T261, h261, X261, e261, W261, st261⟩ := stC X258 hx hZ e258 Ar261 (j := (12 : Int32)) (inb_of S261 ⟨by decide, by decide⟩) (g := (mkF m 238 #[.val (.int pa), .val (.int pb), .val (.int pc_), .val (.int pd_), .val (.int n0_), .val (.int n1_), .val (.int l0_), .val (.int d0_), .val (.int d1_), .val (.int e0_), .val (.int e1_), .val (.int (1 : Int32)), .val (.ref b178), .val (.ref xs_197), .val (.ref b201), .val .null, .unset, .unset, .unset, .unset] [(.int (36 : Int32)), (.int (12 : Int32)), (.ref b221), (.ref b221)])) rfl rfl (hb hby at_238)
    have P262 : ∀ tt_, GG p e below T261 (mkF m 239 #[.val (.int pa), .val (.int pb), .val (.int pc_), .val (.int pd_), .val (.int n0_), .val (.int n1_), .val (.int l0_), .val (.int d0_), .val (.int d1_), .val (.int e0_), .val (.int e1_), .val (.int (1 : Int32)), .val (.ref b178), .val (.ref xs_197), .val (.ref b201), .val .null, .unset, .unset, .unset, .unset] [(.ref b221)]) tt_ → Steps p.tables e below s0 tt_ := fun tt_ kk_ => P260 tt_ (st261 _ kk_)
    have N261 := Fr.snoc X261 N258 (Nat.le_trans Z0 sz_b221)
    have K261 : Keep h0 h261 [] := K258.wr W261 (Or.inr sz_b221)
    have KB261 : Keep T216.heap h261 [] := KB258.wr W261 (Or.inr szB_b221)
    have sfw261 : Safe Z ELs s.vm h258 b221 := sf_b221
    replace sf_b221 : Safe Z ELs s.vm h261 b221 := Safe.wr W261 sfw261 CR.1 sf_b221
    replace CR : CHr Z ELs s.vm h0 s.vm h261 := CR.trans (CHr.wr W261 sfw261 CR.1)
    replace hk := Nat.le_trans hk (Keep.of_wr W261).1
    have V_b221 : Arv Z h261 b221 k221 .char (16 : Int32) [(.int (nar .char d0_)), (.int (nar .char d1_)), (.int (nar .char (32 : Int32))), (.int (nar .char (68 : Int32))), (.int (nar .char (101 : Int32))), (.int (nar .char (102 : Int32))), (.int (nar .char (97 : Int32))), (.int (nar .char (117 : Int32))), (.int (nar .char (108 : Int32))), (.int (nar .char (116 : Int32))), (.int (nar .char (58 : Int32))), (.int (nar .char (32 : Int32))), (.int (nar .char (36 : Int32))), (.int (0 : Int32)), (.int (0 : Int32)), (.int (0 : Int32))] (.int (0 : Int32)) := Arv.set Ar261 q261 S261 M261 Hs261 G261 (fits_nar_char _) W261 12 rfl (Nat.le_of_ble_eq_true rfl)
    have P263 : ∀ tt_, GG p e below T261 (mkF m 244 #[.val (.int pa), .val (.int pb), .val (.int pc_), .val (.int pd_), .val (.int n0_), .val (.int n1_), .val (.int l0_), .val (.int d0_), .val (.int d1_), .val (.int e0_), .val (.int e1_), .val (.int (1 : Int32)), .val (.ref b178), .val (.ref xs_197), .val (.ref b201), .val .null, .unset, .unset, .unset, .unset] [(.int e0_), (.int (13 : Int32)), (.ref b221), (.ref b221)]) tt_ → Steps p.tables e below s0 tt_ := fun tt_ kk_ => P262 tt_ (by
      refine XS.dup X261.here hx rfl (hb hby at_239) rfl rfl ?_
      refine XS.bipush X261.here hx rfl (hb hby at_240) ?_
      refine XS.iload X261.here hx rfl (hb hby at_242) rfl ?_
      exact kk_)
    obtain ⟨cl264, Ar264, q264, S264, M264, Hs264, G264⟩ := V_b221
    obtain ⟨T264, h264, X264, e264, W264, st264⟩ := stC X261 hx hZ e261 Ar264 (j := (13 : Int32)) (inb_of S264 ⟨by decide, by decide⟩) (g := (mkF m 244 #[.val (.int pa), .val (.int pb), .val (.int pc_), .val (.int pd_), .val (.int n0_), .val (.int n1_), .val (.int l0_), .val (.int d0_), .val (.int d1_), .val (.int e0_), .val (.int e1_), .val (.int (1 : Int32)), .val (.ref b178), .val (.ref xs_197), .val (.ref b201), .val .null, .unset, .unset, .unset, .unset] [(.int e0_), (.int (13 : Int32)), (.ref b221), (.ref b221)])) rfl rfl (hb hby at_244)
    have P265 : ∀ tt_, GG p e below T264 (mkF m 245 #[.val (.int pa), .val (.int pb), .val (.int pc_), .val (.int pd_), .val (.int n0_), .val (.int n1_), .val (.int l0_), .val (.int d0_), .val (.int d1_), .val (.int e0_), .val (.int e1_), .val (.int (1 : Int32)), .val (.ref b178), .val (.ref xs_197), .val (.ref b201), .val .null, .unset, .unset, .unset, .unset] [(.ref b221)]) tt_ → Steps p.tables e below s0 tt_ := fun tt_ kk_ => P263 tt_ (st264 _ kk_)
    have N264 := Fr.snoc X264 N261 (Nat.le_trans Z0 sz_b221)
    have K264 : Keep h0 h264 [] := K261.wr W264 (Or.inr sz_b221)
    have KB264 : Keep T216.heap h264 [] := KB261.wr W264 (Or.inr szB_b221)
    have sfw264 : Safe Z ELs s.vm h261 b221 := sf_b221
    replace sf_b221 : Safe Z ELs s.vm h264 b221 := Safe.wr W264 sfw264 CR.1 sf_b221
    replace CR : CHr Z ELs s.vm h0 s.vm h264 := CR.trans (CHr.wr W264 sfw264 CR.1)
    replace hk := Nat.le_trans hk (Keep.of_wr W264).1
    have V_b221 : Arv Z h264 b221 k221 .char (16 : Int32) [(.int (nar .char d0_)), (.int (nar .char d1_)), (.int (nar .char (32 : Int32))), (.int (nar .char (68 : Int32))), (.int (nar .char (101 : Int32))), (.int (nar .char (102 : Int32))), (.int (nar .char (97 : Int32))), (.int (nar .char (117 : Int32))), (.int (nar .char (108 : Int32))), (.int (nar .char (116 : Int32))), (.int (nar .char (58 : Int32))), (.int (nar .char (32 : Int32))), (.int (nar .char (36 : Int32))), (.int (nar .char e0_)), (.int (0 : Int32)), (.int (0 : Int32))] (.int (0 : Int32)) := Arv.set Ar264 q264 S264 M264 Hs264 G264 (fits_nar_char _) W264 13 rfl (Nat.le_of_ble_eq_true rfl)
    have P266 : ∀ tt_, GG p e below T264 (mkF m 250 #[.val (.int pa), .val (.int pb), .val (.int pc_), .val (.int pd_), .val (.int n0_), .val (.int n1_), .val (.int l0_), .val (.int d0_), .val (.int d1_), .val (.int e0_), .val (.int e1_), .val (.int (1 : Int32)), .val (.ref b178), .val (.ref xs_197), .val (.ref b201), .val .null, .unset, .unset, .unset, .unset] [(.int e1_), (.int (14 : Int32)), (.ref b221), (.ref b221)]) tt_ → Steps p.tables e below s0 tt_ := fun tt_ kk_ => P265 tt_ (by
      refine XS.dup X264.here hx rfl (hb hby at_245) rfl rfl ?_
      refine XS.bipush X264.here hx rfl (hb hby at_246) ?_
      refine XS.iload X264.here hx rfl (hb hby at_248) rfl ?_
      exact kk_)
    obtain ⟨cl267, Ar267, q267, S267, M267, Hs267, G267⟩ := V_b221
    obtain ⟨T267, h267, X267, e267, W267, st267⟩ := stC X264 hx hZ e264 Ar267 (j := (14 : Int32)) (inb_of S267 ⟨by decide, by decide⟩) (g := (mkF m 250 #[.val (.int pa), .val (.int pb), .val (.int pc_), .val (.int pd_), .val (.int n0_), .val (.int n1_), .val (.int l0_), .val (.int d0_), .val (.int d1_), .val (.int e0_), .val (.int e1_), .val (.int (1 : Int32)), .val (.ref b178), .val (.ref xs_197), .val (.ref b201), .val .null, .unset, .unset, .unset, .unset] [(.int e1_), (.int (14 : Int32)), (.ref b221), (.ref b221)])) rfl rfl (hb hby at_250)
    have P268 : ∀ tt_, GG p e below T267 (mkF m 251 #[.val (.int pa), .val (.int pb), .val (.int pc_), .val (.int pd_), .val (.int n0_), .val (.int n1_), .val (.int l0_), .val (.int d0_), .val (.int d1_), .val (.int e0_), .val (.int e1_), .val (.int (1 : Int32)), .val (.ref b178), .val (.ref xs_197), .val (.ref b201), .val .null, .unset, .unset, .unset, .unset] [(.ref b221)]) tt_ → Steps p.tables e below s0 tt_ := fun tt_ kk_ => P266 tt_ (st267 _ kk_)
    have N267 := Fr.snoc X267 N264 (Nat.le_trans Z0 sz_b221)
    have K267 : Keep h0 h267 [] := K264.wr W267 (Or.inr sz_b221)
    have KB267 : Keep T216.heap h267 [] := KB264.wr W267 (Or.inr szB_b221)
    have sfw267 : Safe Z ELs s.vm h264 b221 := sf_b221
    replace sf_b221 : Safe Z ELs s.vm h267 b221 := Safe.wr W267 sfw267 CR.1 sf_b221
    replace CR : CHr Z ELs s.vm h0 s.vm h267 := CR.trans (CHr.wr W267 sfw267 CR.1)
    replace hk := Nat.le_trans hk (Keep.of_wr W267).1
    have V_b221 : Arv Z h267 b221 k221 .char (16 : Int32) [(.int (nar .char d0_)), (.int (nar .char d1_)), (.int (nar .char (32 : Int32))), (.int (nar .char (68 : Int32))), (.int (nar .char (101 : Int32))), (.int (nar .char (102 : Int32))), (.int (nar .char (97 : Int32))), (.int (nar .char (117 : Int32))), (.int (nar .char (108 : Int32))), (.int (nar .char (116 : Int32))), (.int (nar .char (58 : Int32))), (.int (nar .char (32 : Int32))), (.int (nar .char (36 : Int32))), (.int (nar .char e0_)), (.int (nar .char e1_)), (.int (0 : Int32))] (.int (0 : Int32)) := Arv.set Ar267 q267 S267 M267 Hs267 G267 (fits_nar_char _) W267 14 rfl (Nat.le_of_ble_eq_true rfl)
    have P269 : ∀ tt_, GG p e below T267 (mkF m 256 #[.val (.int pa), .val (.int pb), .val (.int pc_), .val (.int pd_), .val (.int n0_), .val (.int n1_), .val (.int l0_), .val (.int d0_), .val (.int d1_), .val (.int e0_), .val (.int e1_), .val (.int (1 : Int32)), .val (.ref b178), .val (.ref xs_197), .val (.ref b201), .val .null, .unset, .unset, .unset, .unset] [(.int (46 : Int32)), (.int (15 : Int32)), (.ref b221), (.ref b221)]) tt_ → Steps p.tables e below s0 tt_ := fun tt_ kk_ => P268 tt_ (by
      refine XS.dup X267.here hx rfl (hb hby at_251) rfl rfl ?_
      refine XS.bipush X267.here hx rfl (hb hby at_252) ?_
      refine XS.bipush X267.here hx rfl (hb hby at_254) ?_
      exact kk_)
    obtain ⟨cl270, Ar270, q270, S270, M270, Hs270, G270⟩ := V_b221
    obtain ⟨T270, h270, X270, e270, W270, st270⟩ := stC X267 hx hZ e267 Ar270 (j := (15 : Int32)) (inb_of S270 ⟨by decide, by decide⟩) (g := (mkF m 256 #[.val (.int pa), .val (.int pb), .val (.int pc_), .val (.int pd_), .val (.int n0_), .val (.int n1_), .val (.int l0_), .val (.int d0_), .val (.int d1_), .val (.int e0_), .val (.int e1_), .val (.int (1 : Int32)), .val (.ref b178), .val (.ref xs_197), .val (.ref b201), .val .null, .unset, .unset, .unset, .unset] [(.int (46 : Int32)), (.int (15 : Int32)), (.ref b221), (.ref b221)])) rfl rfl (hb hby at_256)
    have P271 : ∀ tt_, GG p e below T270 (mkF m 257 #[.val (.int pa), .val (.int pb), .val (.int pc_), .val (.int pd_), .val (.int n0_), .val (.int n1_), .val (.int l0_), .val (.int d0_), .val (.int d1_), .val (.int e0_), .val (.int e1_), .val (.int (1 : Int32)), .val (.ref b178), .val (.ref xs_197), .val (.ref b201), .val .null, .unset, .unset, .unset, .unset] [(.ref b221)]) tt_ → Steps p.tables e below s0 tt_ := fun tt_ kk_ => P269 tt_ (st270 _ kk_)
    have N270 := Fr.snoc X270 N267 (Nat.le_trans Z0 sz_b221)
    have K270 : Keep h0 h270 [] := K267.wr W270 (Or.inr sz_b221)
    have KB270 : Keep T216.heap h270 [] := KB267.wr W270 (Or.inr szB_b221)
    have sfw270 : Safe Z ELs s.vm h267 b221 := sf_b221
    replace sf_b221 : Safe Z ELs s.vm h270 b221 := Safe.wr W270 sfw270 CR.1 sf_b221
    replace CR : CHr Z ELs s.vm h0 s.vm h270 := CR.trans (CHr.wr W270 sfw270 CR.1)
    replace hk := Nat.le_trans hk (Keep.of_wr W270).1
    have V_b221 : Arv Z h270 b221 k221 .char (16 : Int32) [(.int (nar .char d0_)), (.int (nar .char d1_)), (.int (nar .char (32 : Int32))), (.int (nar .char (68 : Int32))), (.int (nar .char (101 : Int32))), (.int (nar .char (102 : Int32))), (.int (nar .char (97 : Int32))), (.int (nar .char (117 : Int32))), (.int (nar .char (108 : Int32))), (.int (nar .char (116 : Int32))), (.int (nar .char (58 : Int32))), (.int (nar .char (32 : Int32))), (.int (nar .char (36 : Int32))), (.int (nar .char e0_)), (.int (nar .char e1_)), (.int (nar .char (46 : Int32)))] (.int (0 : Int32)) := Arv.set Ar270 q270 S270 M270 Hs270 G270 (fits_nar_char _) W270 15 rfl (Nat.le_of_ble_eq_true rfl)
    have P272 : ∀ tt_, GG p e below T270 (mkF m 259 #[.val (.int pa), .val (.int pb), .val (.int pc_), .val (.int pd_), .val (.int n0_), .val (.int n1_), .val (.int l0_), .val (.int d0_), .val (.int d1_), .val (.int e0_), .val (.int e1_), .val (.int (1 : Int32)), .val (.ref b178), .val (.ref xs_197), .val (.ref b201), .val .null, .val (.ref b221), .unset, .unset, .unset] []) tt_ → Steps p.tables e below s0 tt_ := fun tt_ kk_ => P271 tt_ (by
      refine XS.astore X270.here hx rfl (hb hby at_257) rfl rfl (l' := #[.val (.int pa), .val (.int pb), .val (.int pc_), .val (.int pd_), .val (.int n0_), .val (.int n1_), .val (.int l0_), .val (.int d0_), .val (.int d1_), .val (.int e0_), .val (.int e1_), .val (.int (1 : Int32)), .val (.ref b178), .val (.ref xs_197), .val (.ref b201), .val .null, .val (.ref b221), .unset, .unset, .unset]) rfl ?_
      exact kk_)
    replace sf_b178 : Safe Z ELs s.vm h270 b178 := Safe.keep KB270 sf0 CRb220.1 sf_b178
    replace sf_b183 : Safe Z ELs s.vm h270 b183 := Safe.keep KB270 sf0 CRb220.1 sf_b183
    replace sf_t_193 : Safe Z ELs s.vm h270 t_193 := Safe.keep KB270 sf0 CRb220.1 sf_t_193
    replace sf_xs_197 : Safe Z ELs s.vm h270 xs_197 := Safe.keep KB270 sf0 CRb220.1 sf_xs_197
    replace sf_t_197 : Safe Z ELs s.vm h270 t_197 := Safe.keep KB270 sf0 CRb220.1 sf_t_197
    replace sf_b201 : Safe Z ELs s.vm h270 b201 := Safe.keep KB270 sf0 CRb220.1 sf_b201
    replace sf_b206 : Safe Z ELs s.vm h270 b206 := Safe.keep KB270 sf0 CRb220.1 sf_b206
    replace sf_t_216 : Safe Z ELs s.vm h270 t_216 := Safe.keep KB270 sf0 CRb220.1 sf_t_216
    replace OL : Old Z n0 h270 := OL.keep KB270 all0
    replace E_b178 : Exa Z h270 b178 "java/lang/String" := E_b178.keep KB270
    replace V_b183 : Arv Z h270 b183 k183 .char (2 : Int32) (([n0_, n1_] : List Int32).map Value.int) (.int (0 : Int32)) := V_b183.keep KB270 nin0
    replace F_coder_b178 : Fld Z h270 b178 "java/lang/String" "coder" "B" (.int (0 : Int32)) := F_coder_b178.keep KB270 nin0
    replace F_value_b178 : Fld Z h270 b178 "java/lang/String" "value" "[B" (.ref t_193) := F_value_b178.keep KB270 nin0
    replace V_t_193 : Arv Z h270 t_193 kb_193 .byte (2 : Int32) (((([n0_, n1_] : List Int32)).map (fun c => c.toInt8.toInt32)).map Value.int) (.int (0 : Int32)) := V_t_193.keep KB270 nin0
    replace E_xs_197 : Exa Z h270 xs_197 "java/lang/String" := E_xs_197.keep KB270
    replace F_value_xs_197 : Fld Z h270 xs_197 "java/lang/String" "value" "[B" (.ref t_197) := F_value_xs_197.keep KB270 nin0
    replace F_coder_xs_197 : Fld Z h270 xs_197 "java/lang/String" "coder" "B" (.int (0 : Int32)) := F_coder_xs_197.keep KB270 nin0
    replace V_t_197 : Arv Z h270 t_197 kb_197 .byte (1 : Int32) [(.int (nar .byte (l0_.toInt8.toInt32)))] (.int (0 : Int32)) := V_t_197.keep KB270 nin0
    replace E_b201 : Exa Z h270 b201 "java/lang/String" := E_b201.keep KB270
    replace V_b206 : Arv Z h270 b206 k206 .char (2 : Int32) (([d0_, d1_] : List Int32).map Value.int) (.int (0 : Int32)) := V_b206.keep KB270 nin0
    replace F_coder_b201 : Fld Z h270 b201 "java/lang/String" "coder" "B" (.int (0 : Int32)) := F_coder_b201.keep KB270 nin0
    replace F_value_b201 : Fld Z h270 b201 "java/lang/String" "value" "[B" (.ref t_216) := F_value_b201.keep KB270 nin0
    replace V_t_216 : Arv Z h270 t_216 kb_216 .byte (2 : Int32) (((([d0_, d1_] : List Int32)).map (fun c => c.toInt8.toInt32)).map Value.int) (.int (0 : Int32)) := V_t_216.keep KB270 nin0
    obtain ⟨T273, h273, X273, e273, E273, A273, D273, -, st273⟩ := newO X270 hx hZ hown (ww hw 0 rfl) (ww hw 1 rfl) (ww hw 2 rfl) e270 (g := (mkF m 259 #[.val (.int pa), .val (.int pb), .val (.int pc_), .val (.int pd_), .val (.int n0_), .val (.int n1_), .val (.int l0_), .val (.int d0_), .val (.int d1_), .val (.int e0_), .val (.int e1_), .val (.int (1 : Int32)), .val (.ref b178), .val (.ref xs_197), .val (.ref b201), .val .null, .val (.ref b221), .unset, .unset, .unset] [])) rfl (hb hby at_259) (by decide) (by decide)
    obtain ⟨b273, g273⟩ : ∃ z, z = h270.size := ⟨_, rfl⟩
    rw [← g273] at A273 D273 st273
    have P274 : ∀ tt_, GG p e below T273 (mkF m 262 #[.val (.int pa), .val (.int pb), .val (.int pc_), .val (.int pd_), .val (.int n0_), .val (.int n1_), .val (.int l0_), .val (.int d0_), .val (.int d1_), .val (.int e0_), .val (.int e1_), .val (.int (1 : Int32)), .val (.ref b178), .val (.ref xs_197), .val (.ref b201), .val .null, .val (.ref b221), .unset, .unset, .unset] [(.ref b273)]) tt_ → Steps p.tables e below s0 tt_ := fun tt_ kk_ => P272 tt_ (st273 _ kk_)
    have ne_b178_b273 : b178 ≠ b273 := Nat.ne_of_lt (Nat.lt_of_lt_of_le E_b178.lt (Nat.le_of_eq g273.symm))
    have ne_b183_b273 : b183 ≠ b273 := Nat.ne_of_lt (Nat.lt_of_lt_of_le V_b183.lt (Nat.le_of_eq g273.symm))
    have ne_t_193_b273 : t_193 ≠ b273 := Nat.ne_of_lt (Nat.lt_of_lt_of_le V_t_193.lt (Nat.le_of_eq g273.symm))
    have ne_xs_197_b273 : xs_197 ≠ b273 := Nat.ne_of_lt (Nat.lt_of_lt_of_le E_xs_197.lt (Nat.le_of_eq g273.symm))
    have ne_t_197_b273 : t_197 ≠ b273 := Nat.ne_of_lt (Nat.lt_of_lt_of_le V_t_197.lt (Nat.le_of_eq g273.symm))
    have ne_b201_b273 : b201 ≠ b273 := Nat.ne_of_lt (Nat.lt_of_lt_of_le E_b201.lt (Nat.le_of_eq g273.symm))
    have ne_b206_b273 : b206 ≠ b273 := Nat.ne_of_lt (Nat.lt_of_lt_of_le V_b206.lt (Nat.le_of_eq g273.symm))
    have ne_t_216_b273 : t_216 ≠ b273 := Nat.ne_of_lt (Nat.lt_of_lt_of_le V_t_216.lt (Nat.le_of_eq g273.symm))
    have ne_b221_b273 : b221 ≠ b273 := Nat.ne_of_lt (Nat.lt_of_lt_of_le V_b221.lt (Nat.le_of_eq g273.symm))
    have sz_b273 : h0.size ≤ b273 := Nat.le_trans K270.1 (Nat.le_of_eq g273.symm)
    have sf_b273 : Safe Z ELs s.vm h270 b273 := Safe.new (Nat.le_of_eq g273.symm)
    replace sf_b178 : Safe Z ELs s.vm h273 b178 := Safe.ext E273 CR.1 sf_b178
    replace sf_b183 : Safe Z ELs s.vm h273 b183 := Safe.ext E273 CR.1 sf_b183
    replace sf_t_193 : Safe Z ELs s.vm h273 t_193 := Safe.ext E273 CR.1 sf_t_193
    replace sf_xs_197 : Safe Z ELs s.vm h273 xs_197 := Safe.ext E273 CR.1 sf_xs_197
    replace sf_t_197 : Safe Z ELs s.vm h273 t_197 := Safe.ext E273 CR.1 sf_t_197
    replace sf_b201 : Safe Z ELs s.vm h273 b201 := Safe.ext E273 CR.1 sf_b201
    replace sf_b206 : Safe Z ELs s.vm h273 b206 := Safe.ext E273 CR.1 sf_b206
    replace sf_t_216 : Safe Z ELs s.vm h273 t_216 := Safe.ext E273 CR.1 sf_t_216
    replace sf_b221 : Safe Z ELs s.vm h273 b221 := Safe.ext E273 CR.1 sf_b221
    replace sf_b273 : Safe Z ELs s.vm h273 b273 := Safe.ext E273 CR.1 sf_b273
    replace OL : Old Z n0 h273 := OL.ext E273
    replace E_b178 : Exa Z h273 b178 "java/lang/String" := E_b178.ext E273
    replace V_b183 : Arv Z h273 b183 k183 .char (2 : Int32) (([n0_, n1_] : List Int32).map Value.int) (.int (0 : Int32)) := V_b183.ext E273
    replace F_coder_b178 : Fld Z h273 b178 "java/lang/String" "coder" "B" (.int (0 : Int32)) := F_coder_b178.ext E273
    replace F_value_b178 : Fld Z h273 b178 "java/lang/String" "value" "[B" (.ref t_193) := F_value_b178.ext E273
    replace V_t_193 : Arv Z h273 t_193 kb_193 .byte (2 : Int32) (((([n0_, n1_] : List Int32)).map (fun c => c.toInt8.toInt32)).map Value.int) (.int (0 : Int32)) := V_t_193.ext E273
    replace E_xs_197 : Exa Z h273 xs_197 "java/lang/String" := E_xs_197.ext E273
    replace F_value_xs_197 : Fld Z h273 xs_197 "java/lang/String" "value" "[B" (.ref t_197) := F_value_xs_197.ext E273
    replace F_coder_xs_197 : Fld Z h273 xs_197 "java/lang/String" "coder" "B" (.int (0 : Int32)) := F_coder_xs_197.ext E273
    replace V_t_197 : Arv Z h273 t_197 kb_197 .byte (1 : Int32) [(.int (nar .byte (l0_.toInt8.toInt32)))] (.int (0 : Int32)) := V_t_197.ext E273
    replace E_b201 : Exa Z h273 b201 "java/lang/String" := E_b201.ext E273
    replace V_b206 : Arv Z h273 b206 k206 .char (2 : Int32) (([d0_, d1_] : List Int32).map Value.int) (.int (0 : Int32)) := V_b206.ext E273
    replace F_coder_b201 : Fld Z h273 b201 "java/lang/String" "coder" "B" (.int (0 : Int32)) := F_coder_b201.ext E273
    replace F_value_b201 : Fld Z h273 b201 "java/lang/String" "value" "[B" (.ref t_216) := F_value_b201.ext E273
    replace V_t_216 : Arv Z h273 t_216 kb_216 .byte (2 : Int32) (((([d0_, d1_] : List Int32)).map (fun c => c.toInt8.toInt32)).map Value.int) (.int (0 : Int32)) := V_t_216.ext E273
    replace V_b221 : Arv Z h273 b221 k221 .char (16 : Int32) [(.int (nar .char d0_)), (.int (nar .char d1_)), (.int (nar .char (32 : Int32))), (.int (nar .char (68 : Int32))), (.int (nar .char (101 : Int32))), (.int (nar .char (102 : Int32))), (.int (nar .char (97 : Int32))), (.int (nar .char (117 : Int32))), (.int (nar .char (108 : Int32))), (.int (nar .char (116 : Int32))), (.int (nar .char (58 : Int32))), (.int (nar .char (32 : Int32))), (.int (nar .char (36 : Int32))), (.int (nar .char e0_)), (.int (nar .char e1_)), (.int (nar .char (46 : Int32)))] (.int (0 : Int32)) := V_b221.ext E273
    replace CR : CHr Z ELs s.vm h0 s.vm h273 := CR.trans (CHr.ext E273 CR.1)
    replace hk := Nat.le_trans hk E273.1
    have K273 : Keep h0 h273 [] := K270.ext E273
    obtain ⟨Lf275, X273, N275⟩ : ∃ Lf, Stand p l e room_1 (s.setVm s.vm) m #[(.int pa), (.int pb), (.int pc_), (.int pd_)] below meth c T273 Lf 10 41 ∧ Fr n0 Lf := ⟨_, X273, N270⟩
    have E_b273 : Exa Z h273 b273 "java/lang/String" := A273
    have F_coder_b273 : Fld Z h273 b273 "java/lang/String" "coder" "B" (.int (0 : Int32)) := D273 (Or.inr (ww hw 27 rfl)) (ty := .byte) (by decide)
    have F_value_b273 : Fld Z h273 b273 "java/lang/String" "value" "[B" .null := D273 (Or.inr (ww hw 29 rfl)) (ty := (.array .byte)) (by decide)
    have P276 : ∀ tt_, GG p e below T273 (mkF m 265 #[.val (.int pa), .val (.int pb), .val (.int pc_), .val (.int pd_), .val (.int n0_), .val (.int n1_), .val (.int l0_), .val (.int d0_), .val (.int d1_), .val (.int e0_), .val (.int e1_), .val (.int (1 : Int32)), .val (.ref b178), .val (.ref xs_197), .val (.ref b201), .val .null, .val (.ref b221), .unset, .unset, .unset] [(.ref b221), (.ref b273), (.ref b273)]) tt_ → Steps p.tables e below s0 tt_ := fun tt_ kk_ => P274 tt_ (by
      refine XS.dup X273.here hx rfl (hb hby at_262) rfl rfl ?_
      refine XS.aload X273.here hx rfl (hb hby at_263) rfl rfl ?_
      exact kk_)
    replace V_b221 : Arv Z h273 b221 k221 .char (16 : Int32) (([d0_, d1_, (32 : Int32), (68 : Int32), (101 : Int32), (102 : Int32), (97 : Int32), (117 : Int32), (108 : Int32), (116 : Int32), (58 : Int32), (32 : Int32), (36 : Int32), e0_, e1_, (46 : Int32)] : List Int32).map Value.int) (.int (0 : Int32)) := by
      have q := V_b221
      rw [na_d0_, na_d1_, na_e0_, na_e1_] at q
      exact q
    have hp277 : ∀ c ∈ ([d0_, d1_, (32 : Int32), (68 : Int32), (101 : Int32), (102 : Int32), (97 : Int32), (117 : Int32), (108 : Int32), (116 : Int32), (58 : Int32), (32 : Int32), (36 : Int32), e0_, e1_, (46 : Int32)] : List Int32), ¬ c < 0 ∧ ¬ (255 : Int32) < c := by
      intro c hc
      simp only [List.mem_cons, List.not_mem_nil, or_false] at hc
      rcases hc with rfl | rfl | rfl | rfl | rfl | rfl | rfl | rfl | rfl | rfl | rfl | rfl | rfl | rfl | rfl | rfl
      · exact ok_d0_
      · exact ok_d1_
      · exact ⟨by decide, by decide⟩
      · exact ⟨by decide, by decide⟩
      · exact ⟨by decide, by decide⟩
      · exact ⟨by decide, by decide⟩
      · exact ⟨by decide, by decide⟩
      · exact ⟨by decide, by decide⟩
      · exact ⟨by decide, by decide⟩
      · exact ⟨by decide, by decide⟩
      · exact ⟨by decide, by decide⟩
      · exact ⟨by decide, by decide⟩
      · exact ⟨by decide, by decide⟩
      · exact ok_e0_
      · exact ok_e1_
      · exact ⟨by decide, by decide⟩
    obtain ⟨_, _, ⟨T278, L278, k278, n278⟩, -, X278, ⟨Lc278, hQ278, l278, y278, z278⟩, st278⟩ := X273.specialBack hx (y := mn_24) rfl hown (mw hZ hw 4 rfl) (mw hZ hw 5 rfl) (mw hZ hw 6 rfl) (by decide) (StrChars.Road.backV (W := 1) hZ (own_wNew hw) (kI := 4) (ww hw 1 rfl) (cs := ([d0_, d1_, (32 : Int32), (68 : Int32), (101 : Int32), (102 : Int32), (97 : Int32), (117 : Int32), (108 : Int32), (116 : Int32), (58 : Int32), (32 : Int32), (36 : Int32), e0_, e1_, (46 : Int32)] : List Int32)) (bs := (([d0_, d1_, (32 : Int32), (68 : Int32), (101 : Int32), (102 : Int32), (97 : Int32), (117 : Int32), (108 : Int32), (116 : Int32), (58 : Int32), (32 : Int32), (36 : Int32), e0_, e1_, (46 : Int32)] : List Int32)).map (fun c => c.toInt8.toInt32)) (n := 16) (Nat.le_trans Z0 sz_b273) (Nat.le_trans Z0 K273.1) E_b273 F_value_b273 F_coder_b273 V_b221 (S_COMPACT_STRINGS.ext OL.2) hz rfl rfl (by decide) (by decide) hp277 rfl (by decide) (by decide)) (g := (mkF m 265 #[.val (.int pa), .val (.int pb), .val (.int pc_), .val (.int pd_), .val (.int n0_), .val (.int n1_), .val (.int l0_), .val (.int d0_), .val (.int d1_), .val (.int e0_), .val (.int e1_), .val (.int (1 : Int32)), .val (.ref b178), .val (.ref xs_197), .val (.ref b201), .val .null, .val (.ref b221), .unset, .unset, .unset] [(.ref b221), (.ref b273), (.ref b273)])) rfl (by rw [hml]; rfl) (Steps.refl _) (a := b273) (argsL := [(.ref b221)]) (rest := [(.ref b273)]) (lenOf pd_20 rfl) rfl (by show 2 * 0 + _ ≤ _; exact Nat.le_of_eq rfl) (hb hby at_265) (fun _ _ => ⟨rfl, e273, (by decide : 10 + 1 ≤ _), (by decide : 41 + 16 ≤ _)⟩)
    dsimp only [Pt.U, Pt.locs, Pt.cells, Pt.slots] at X278 l278 y278 z278 st278 hQ278
    subst l278 y278 z278
    obtain ⟨rfl, N278q, Kc278, po278_0, po278_1, t_278, kb_278, po278_2, po278_3, po278_4, po278_5, po278_6⟩ := hQ278
    have N278 := Fr.app N275 N278q
    obtain ⟨Lf279, X278, N279⟩ : ∃ Lf, Stand p l e room_1 (s.setVm s.vm) m #[(.int pa), (.int pb), (.int pc_), (.int pd_)] below meth c T278 Lf 11 57 ∧ Fr n0 Lf := ⟨_, X278, N278⟩
    have P280 : ∀ tt_, GG p e below T278 (mkF m 268 #[.val (.int pa), .val (.int pb), .val (.int pc_), .val (.int pd_), .val (.int n0_), .val (.int n1_), .val (.int l0_), .val (.int d0_), .val (.int d1_), .val (.int e0_), .val (.int e1_), .val (.int (1 : Int32)), .val (.ref b178), .val (.ref xs_197), .val (.ref b201), .val .null, .val (.ref b221), .unset, .unset, .unset] [(.ref b273)]) tt_ → Steps p.tables e below s0 tt_ := fun tt_ kk_ => P276 tt_ (st278.trans kk_)
    have ne_b178_t_278 : b178 ≠ t_278 := Nat.ne_of_lt (Nat.lt_of_lt_of_le E_b178.lt po278_3)
    have ne_b183_t_278 : b183 ≠ t_278 := Nat.ne_of_lt (Nat.lt_of_lt_of_le V_b183.lt po278_3)
    have ne_t_193_t_278 : t_193 ≠ t_278 := Nat.ne_of_lt (Nat.lt_of_lt_of_le V_t_193.lt po278_3)
    have ne_xs_197_t_278 : xs_197 ≠ t_278 := Nat.ne_of_lt (Nat.lt_of_lt_of_le E_xs_197.lt po278_3)
    have ne_t_197_t_278 : t_197 ≠ t_278 := Nat.ne_of_lt (Nat.lt_of_lt_of_le V_t_197.lt po278_3)
    have ne_b201_t_278 : b201 ≠ t_278 := Nat.ne_of_lt (Nat.lt_of_lt_of_le E_b201.lt po278_3)
    have ne_b206_t_278 : b206 ≠ t_278 := Nat.ne_of_lt (Nat.lt_of_lt_of_le V_b206.lt po278_3)
    have ne_t_216_t_278 : t_216 ≠ t_278 := Nat.ne_of_lt (Nat.lt_of_lt_of_le V_t_216.lt po278_3)
    have ne_b221_t_278 : b221 ≠ t_278 := Nat.ne_of_lt (Nat.lt_of_lt_of_le V_b221.lt po278_3)
    have ne_b273_t_278 : b273 ≠ t_278 := Nat.ne_of_lt (Nat.lt_of_lt_of_le E_b273.lt po278_3)
    have sz_t_278 : h0.size ≤ t_278 := Nat.le_trans K273.1 po278_3
    have sf_t_278 : Safe Z ELs s.vm h273 t_278 := Safe.new po278_3
    have sfk278 := ((sfS sf_b273 sf0) : ∀ x ∈ [b273], Safe Z ELs s.vm h273 x)
    replace sf_b178 : Safe Z ELs s.vm T278.heap b178 := Safe.keep Kc278 sfk278 CR.1 sf_b178
    replace sf_b183 : Safe Z ELs s.vm T278.heap b183 := Safe.keep Kc278 sfk278 CR.1 sf_b183
    replace sf_t_193 : Safe Z ELs s.vm T278.heap t_193 := Safe.keep Kc278 sfk278 CR.1 sf_t_193
    replace sf_xs_197 : Safe Z ELs s.vm T278.heap xs_197 := Safe.keep Kc278 sfk278 CR.1 sf_xs_197
    replace sf_t_197 : Safe Z ELs s.vm T278.heap t_197 := Safe.keep Kc278 sfk278 CR.1 sf_t_197
    replace sf_b201 : Safe Z ELs s.vm T278.heap b201 := Safe.keep Kc278 sfk278 CR.1 sf_b201
    replace sf_b206 : Safe Z ELs s.vm T278.heap b206 := Safe.keep Kc278 sfk278 CR.1 sf_b206
    replace sf_t_216 : Safe Z ELs s.vm T278.heap t_216 := Safe.keep Kc278 sfk278 CR.1 sf_t_216
    replace sf_b221 : Safe Z ELs s.vm T278.heap b221 := Safe.keep Kc278 sfk278 CR.1 sf_b221
    replace sf_b273 : Safe Z ELs s.vm T278.heap b273 := Safe.keep Kc278 sfk278 CR.1 sf_b273
    replace sf_t_278 : Safe Z ELs s.vm T278.heap t_278 := Safe.keep Kc278 sfk278 CR.1 sf_t_278
    replace OL : Old Z n0 T278.heap := OL.keep Kc278 (allS (Nat.le_trans Z0 sz_b273) all0)
    replace E_b178 : Exa Z T278.heap b178 "java/lang/String" := E_b178.keep Kc278
    replace V_b183 : Arv Z T278.heap b183 k183 .char (2 : Int32) (([n0_, n1_] : List Int32).map Value.int) (.int (0 : Int32)) := V_b183.keep Kc278 (ninS ne_b183_b273 nin0)
    replace F_coder_b178 : Fld Z T278.heap b178 "java/lang/String" "coder" "B" (.int (0 : Int32)) := F_coder_b178.keep Kc278 (ninS ne_b178_b273 nin0)
    replace F_value_b178 : Fld Z T278.heap b178 "java/lang/String" "value" "[B" (.ref t_193) := F_value_b178.keep Kc278 (ninS ne_b178_b273 nin0)
    replace V_t_193 : Arv Z T278.heap t_193 kb_193 .byte (2 : Int32) (((([n0_, n1_] : List Int32)).map (fun c => c.toInt8.toInt32)).map Value.int) (.int (0 : Int32)) := V_t_193.keep Kc278 (ninS ne_t_193_b273 nin0)
    replace E_xs_197 : Exa Z T278.heap xs_197 "java/lang/String" := E_xs_197.keep Kc278
    replace F_value_xs_197 : Fld Z T278.heap xs_197 "java/lang/String" "value" "[B" (.ref t_197) := F_value_xs_197.keep Kc278 (ninS ne_xs_197_b273 nin0)
    replace F_coder_xs_197 : Fld Z T278.heap xs_197 "java/lang/String" "coder" "B" (.int (0 : Int32)) := F_coder_xs_197.keep Kc278 (ninS ne_xs_197_b273 nin0)
    replace V_t_197 : Arv Z T278.heap t_197 kb_197 .byte (1 : Int32) [(.int (nar .byte (l0_.toInt8.toInt32)))] (.int (0 : Int32)) := V_t_197.keep Kc278 (ninS ne_t_197_b273 nin0)
    replace E_b201 : Exa Z T278.heap b201 "java/lang/String" := E_b201.keep Kc278
    replace V_b206 : Arv Z T278.heap b206 k206 .char (2 : Int32) (([d0_, d1_] : List Int32).map Value.int) (.int (0 : Int32)) := V_b206.keep Kc278 (ninS ne_b206_b273 nin0)
    replace F_coder_b201 : Fld Z T278.heap b201 "java/lang/String" "coder" "B" (.int (0 : Int32)) := F_coder_b201.keep Kc278 (ninS ne_b201_b273 nin0)
    replace F_value_b201 : Fld Z T278.heap b201 "java/lang/String" "value" "[B" (.ref t_216) := F_value_b201.keep Kc278 (ninS ne_b201_b273 nin0)
    replace V_t_216 : Arv Z T278.heap t_216 kb_216 .byte (2 : Int32) (((([d0_, d1_] : List Int32)).map (fun c => c.toInt8.toInt32)).map Value.int) (.int (0 : Int32)) := V_t_216.keep Kc278 (ninS ne_t_216_b273 nin0)
    replace V_b221 : Arv Z T278.heap b221 k221 .char (16 : Int32) (([d0_, d1_, (32 : Int32), (68 : Int32), (101 : Int32), (102 : Int32), (97 : Int32), (117 : Int32), (108 : Int32), (116 : Int32), (58 : Int32), (32 : Int32), (36 : Int32), e0_, e1_, (46 : Int32)] : List Int32).map Value.int) (.int (0 : Int32)) := V_b221.keep Kc278 (ninS ne_b221_b273 nin0)
    replace E_b273 : Exa Z T278.heap b273 "java/lang/String" := E_b273.keep Kc278
    replace CR : CHr Z ELs s.vm h0 s.vm T278.heap := CR.trans (CHr.keep Kc278 sfk278 CR.1)
    replace hk := Nat.le_trans hk Kc278.1
    have K278 : Keep h0 T278.heap [] := K273.trans Kc278 (allS (P := fun x => x ∈ [] ∨ h0.size ≤ x) (Or.inr sz_b273) all0)
    have E_b273 : Exa Z T278.heap b273 "java/lang/String" := po278_0
    have F_coder_b273 : Fld Z T278.heap b273 "java/lang/String" "coder" "B" (.int (0 : Int32)) := po278_1
    have nt_278 := po278_4
    have F_value_b273 : Fld Z T278.heap b273 "java/lang/String" "value" "[B" (.ref t_278) := po278_5
    have V_t_278 : Arv Z T278.heap t_278 kb_278 .byte (16 : Int32) (((([d0_, d1_, (32 : Int32), (68 : Int32), (101 : Int32), (102 : Int32), (97 : Int32), (117 : Int32), (108 : Int32), (116 : Int32), (58 : Int32), (32 : Int32), (36 : Int32), e0_, e1_, (46 : Int32)] : List Int32)).map (fun c => c.toInt8.toInt32)).map Value.int) (.int (0 : Int32)) := po278_6
    have P281 : ∀ tt_, GG p e below T278 (mkF m 278 #[.val (.int pa), .val (.int pb), .val (.int pc_), .val (.int pd_), .val (.int n0_), .val (.int n1_), .val (.int l0_), .val (.int d0_), .val (.int d1_), .val (.int e0_), .val (.int e1_), .val (.int (1 : Int32)), .val (.ref b178), .val (.ref xs_197), .val (.ref b201), .val .null, .val (.ref b221), .val (.ref b273), .unset, .unset] [.null, (.ref b201), (.ref xs_197), (.ref b178)]) tt_ → Steps p.tables e below s0 tt_ := fun tt_ kk_ => P280 tt_ (by
      refine XS.astore X278.here hx rfl (hb hby at_268) rfl rfl (l' := #[.val (.int pa), .val (.int pb), .val (.int pc_), .val (.int pd_), .val (.int n0_), .val (.int n1_), .val (.int l0_), .val (.int d0_), .val (.int d1_), .val (.int e0_), .val (.int e1_), .val (.int (1 : Int32)), .val (.ref b178), .val (.ref xs_197), .val (.ref b201), .val .null, .val (.ref b221), .val (.ref b273), .unset, .unset]) rfl ?_
      refine XS.aload X278.here hx rfl (hb hby at_270) rfl rfl ?_
      refine XS.aload X278.here hx rfl (hb hby at_272) rfl rfl ?_
      refine XS.aload X278.here hx rfl (hb hby at_274) rfl rfl ?_
      refine XS.aload X278.here hx rfl (hb hby at_276) rfl rfl ?_
      exact kk_)
    obtain ⟨_, _, ⟨T282, L282, k282, n282⟩, -, X282, hS282, hg282, ⟨Lc282, hQ282, l282, y282, z282, cC282⟩, st282⟩ := callSS X278 hx (y := mn_26) hown (mw hZ hw 44 rfl) (mw hZ hw 45 rfl) (mw hZ hw 46 rfl) (mw hZ hw 47 rfl) (by decide) (backOfSH (W := 0) (rm_coFromN l Z a0 hw hEL [] b178 xs_197 b201 T278.heap n0 (Nat.le_trans Z0 K278.1)) hZ (ww hw 47 rfl) (ww hw 46 rfl) (by decide) (by decide) hEL CR.1) (g := (mkF m 278 #[.val (.int pa), .val (.int pb), .val (.int pc_), .val (.int pd_), .val (.int n0_), .val (.int n1_), .val (.int l0_), .val (.int d0_), .val (.int d1_), .val (.int e0_), .val (.int e1_), .val (.int (1 : Int32)), .val (.ref b178), .val (.ref xs_197), .val (.ref b201), .val .null, .val (.ref b221), .val (.ref b273), .unset, .unset] [.null, (.ref b201), (.ref xs_197), (.ref b178)])) rfl (by rw [hml]; rfl) (argsL := [(.ref b178), (.ref xs_197), (.ref b201), .null]) (rest := []) (lenOf pd_22 rfl) rfl (by show 2 * 0 + _ ≤ _; exact Nat.le_of_eq rfl) (hb hby at_278) (fun _ _ => ⟨rfl, rfl, (by decide : 11 + 7 ≤ _), (by decide : 57 + 98 ≤ _)⟩)
    dsimp only [Pt.U, Pt.locs, Pt.cells, Pt.slots] at X282 l282 y282 z282 st282 hQ282 hS282 hg282 cC282
    subst l282 y282 z282
    obtain ⟨X282, hS, hZ, hown⟩ := rebS hS (hk) X282 hS282 hg282 hZ hown
    have hk : T282.heap.size ≤ T282.heap.size := Nat.le_refl _
    obtain ⟨co_282, rfl, N282q, Kc282, po282_0, po282_1, po282_2, po282_3, po282_4, po282_5, po282_6, po282_7⟩ := hQ282
    have N282 := Fr.app N279 N282q
    obtain ⟨Lf283, X282, N283⟩ : ∃ Lf, Stand p l e room_1 (s.setVm T282.vm) m #[(.int pa), (.int pb), (.int pc_), (.int pd_)] below meth c T282 Lf 18 155 ∧ Fr n0 Lf := ⟨_, X282, N282⟩
    have P284 : ∀ tt_, GG p e below T282 (mkF m 281 #[.val (.int pa), .val (.int pb), .val (.int pc_), .val (.int pd_), .val (.int n0_), .val (.int n1_), .val (.int l0_), .val (.int d0_), .val (.int d1_), .val (.int e0_), .val (.int e1_), .val (.int (1 : Int32)), .val (.ref b178), .val (.ref xs_197), .val (.ref b201), .val .null, .val (.ref b221), .val (.ref b273), .unset, .unset] [(.ref co_282)]) tt_ → Steps p.tables e below s0 tt_ := fun tt_ kk_ => P281 tt_ (st282.trans kk_)
    have ne_b178_co_282 : b178 ≠ co_282 := Nat.ne_of_lt (Nat.lt_of_lt_of_le E_b178.lt po282_0)
    have ne_b183_co_282 : b183 ≠ co_282 := Nat.ne_of_lt (Nat.lt_of_lt_of_le V_b183.lt po282_0)
    have ne_t_193_co_282 : t_193 ≠ co_282 := Nat.ne_of_lt (Nat.lt_of_lt_of_le V_t_193.lt po282_0)
    have ne_xs_197_co_282 : xs_197 ≠ co_282 := Nat.ne_of_lt (Nat.lt_of_lt_of_le E_xs_197.lt po282_0)
    have ne_t_197_co_282 : t_197 ≠ co_282 := Nat.ne_of_lt (Nat.lt_of_lt_of_le V_t_197.lt po282_0)
    have ne_b201_co_282 : b201 ≠ co_282 := Nat.ne_of_lt (Nat.lt_of_lt_of_le E_b201.lt po282_0)
    have ne_b206_co_282 : b206 ≠ co_282 := Nat.ne_of_lt (Nat.lt_of_lt_of_le V_b206.lt po282_0)
    have ne_t_216_co_282 : t_216 ≠ co_282 := Nat.ne_of_lt (Nat.lt_of_lt_of_le V_t_216.lt po282_0)
    have ne_b221_co_282 : b221 ≠ co_282 := Nat.ne_of_lt (Nat.lt_of_lt_of_le V_b221.lt po282_0)
    have ne_b273_co_282 : b273 ≠ co_282 := Nat.ne_of_lt (Nat.lt_of_lt_of_le E_b273.lt po282_0)
    have ne_t_278_co_282 : t_278 ≠ co_282 := Nat.ne_of_lt (Nat.lt_of_lt_of_le V_t_278.lt po282_0)
    have sz_co_282 : h0.size ≤ co_282 := Nat.le_trans K278.1 po282_0
    replace sf_b178 : Safe Z ELs T282.vm T282.heap b178 := cC282.safe E_b178.lt sf_b178
    replace sf_b183 : Safe Z ELs T282.vm T282.heap b183 := cC282.safe V_b183.lt sf_b183
    replace sf_t_193 : Safe Z ELs T282.vm T282.heap t_193 := cC282.safe V_t_193.lt sf_t_193
    replace sf_xs_197 : Safe Z ELs T282.vm T282.heap xs_197 := cC282.safe E_xs_197.lt sf_xs_197
    replace sf_t_197 : Safe Z ELs T282.vm T282.heap t_197 := cC282.safe V_t_197.lt sf_t_197
    replace sf_b201 : Safe Z ELs T282.vm T282.heap b201 := cC282.safe E_b201.lt sf_b201
    replace sf_b206 : Safe Z ELs T282.vm T282.heap b206 := cC282.safe V_b206.lt sf_b206
    replace sf_t_216 : Safe Z ELs T282.vm T282.heap t_216 := cC282.safe V_t_216.lt sf_t_216
    replace sf_b221 : Safe Z ELs T282.vm T282.heap b221 := cC282.safe V_b221.lt sf_b221
    replace sf_b273 : Safe Z ELs T282.vm T282.heap b273 := cC282.safe E_b273.lt sf_b273
    replace sf_t_278 : Safe Z ELs T282.vm T282.heap t_278 := cC282.safe V_t_278.lt sf_t_278
    replace OL : Old Z n0 T282.heap := OL.keep Kc282 all0
    replace E_b178 : Exa Z T282.heap b178 "java/lang/String" := E_b178.keep Kc282
    replace V_b183 : Arv Z T282.heap b183 k183 .char (2 : Int32) (([n0_, n1_] : List Int32).map Value.int) (.int (0 : Int32)) := V_b183.keep Kc282 nin0
    replace F_coder_b178 : Fld Z T282.heap b178 "java/lang/String" "coder" "B" (.int (0 : Int32)) := F_coder_b178.keep Kc282 nin0
    replace F_value_b178 : Fld Z T282.heap b178 "java/lang/String" "value" "[B" (.ref t_193) := F_value_b178.keep Kc282 nin0
    replace V_t_193 : Arv Z T282.heap t_193 kb_193 .byte (2 : Int32) (((([n0_, n1_] : List Int32)).map (fun c => c.toInt8.toInt32)).map Value.int) (.int (0 : Int32)) := V_t_193.keep Kc282 nin0
    replace E_xs_197 : Exa Z T282.heap xs_197 "java/lang/String" := E_xs_197.keep Kc282
    replace F_value_xs_197 : Fld Z T282.heap xs_197 "java/lang/String" "value" "[B" (.ref t_197) := F_value_xs_197.keep Kc282 nin0
    replace F_coder_xs_197 : Fld Z T282.heap xs_197 "java/lang/String" "coder" "B" (.int (0 : Int32)) := F_coder_xs_197.keep Kc282 nin0
    replace V_t_197 : Arv Z T282.heap t_197 kb_197 .byte (1 : Int32) [(.int (nar .byte (l0_.toInt8.toInt32)))] (.int (0 : Int32)) := V_t_197.keep Kc282 nin0
    replace E_b201 : Exa Z T282.heap b201 "java/lang/String" := E_b201.keep Kc282
    replace V_b206 : Arv Z T282.heap b206 k206 .char (2 : Int32) (([d0_, d1_] : List Int32).map Value.int) (.int (0 : Int32)) := V_b206.keep Kc282 nin0
    replace F_coder_b201 : Fld Z T282.heap b201 "java/lang/String" "coder" "B" (.int (0 : Int32)) := F_coder_b201.keep Kc282 nin0
    replace F_value_b201 : Fld Z T282.heap b201 "java/lang/String" "value" "[B" (.ref t_216) := F_value_b201.keep Kc282 nin0
    replace V_t_216 : Arv Z T282.heap t_216 kb_216 .byte (2 : Int32) (((([d0_, d1_] : List Int32)).map (fun c => c.toInt8.toInt32)).map Value.int) (.int (0 : Int32)) := V_t_216.keep Kc282 nin0
    replace V_b221 : Arv Z T282.heap b221 k221 .char (16 : Int32) (([d0_, d1_, (32 : Int32), (68 : Int32), (101 : Int32), (102 : Int32), (97 : Int32), (117 : Int32), (108 : Int32), (116 : Int32), (58 : Int32), (32 : Int32), (36 : Int32), e0_, e1_, (46 : Int32)] : List Int32).map Value.int) (.int (0 : Int32)) := V_b221.keep Kc282 nin0
    replace E_b273 : Exa Z T282.heap b273 "java/lang/String" := E_b273.keep Kc282
    replace F_coder_b273 : Fld Z T282.heap b273 "java/lang/String" "coder" "B" (.int (0 : Int32)) := F_coder_b273.keep Kc282 nin0
    replace F_value_b273 : Fld Z T282.heap b273 "java/lang/String" "value" "[B" (.ref t_278) := F_value_b273.keep Kc282 nin0
    replace V_t_278 : Arv Z T282.heap t_278 kb_278 .byte (16 : Int32) (((([d0_, d1_, (32 : Int32), (68 : Int32), (101 : Int32), (102 : Int32), (97 : Int32), (117 : Int32), (108 : Int32), (116 : Int32), (58 : Int32), (32 : Int32), (36 : Int32), e0_, e1_, (46 : Int32)] : List Int32)).map (fun c => c.toInt8.toInt32)).map Value.int) (.int (0 : Int32)) := V_t_278.keep Kc282 nin0
    replace CR : CHr Z ELs s.vm h0 T282.vm T282.heap := CR.trans cC282
    have K282 : Keep h0 T282.heap [] := K278.trans Kc282 all0
    have E_co_282 : Exa Z T282.heap co_282 "com/example/ngazi/ngazi/cli/CommandOption" := po282_1
    have F_name_co_282 : Fld Z T282.heap co_282 "com/example/ngazi/ngazi/cli/CommandOption" "name" "Ljava/lang/String;" (.ref b178) := po282_2
    have F_label_co_282 : Fld Z T282.heap co_282 "com/example/ngazi/ngazi/cli/CommandOption" "label" "Ljava/lang/String;" (.ref xs_197) := po282_3
    have F_description_co_282 : Fld Z T282.heap co_282 "com/example/ngazi/ngazi/cli/CommandOption" "description" "Ljava/lang/String;" (.ref b201) := po282_4
    have F_required_co_282 : Fld Z T282.heap co_282 "com/example/ngazi/ngazi/cli/CommandOption" "required" "Z" (.int (0 : Int32)) := po282_5
    have F_environmentVariable_co_282 : Fld Z T282.heap co_282 "com/example/ngazi/ngazi/cli/CommandOption" "environmentVariable" "Ljava/lang/String;" .null := po282_6
    have F_defaultValue_co_282 : Fld Z T282.heap co_282 "com/example/ngazi/ngazi/cli/CommandOption" "defaultValue" "Ljava/lang/String;" .null := po282_7
    have P285 : ∀ tt_, GG p e below T282 (mkF m 287 #[.val (.int pa), .val (.int pb), .val (.int pc_), .val (.int pd_), .val (.int n0_), .val (.int n1_), .val (.int l0_), .val (.int d0_), .val (.int d1_), .val (.int e0_), .val (.int e1_), .val (.int (1 : Int32)), .val (.ref b178), .val (.ref xs_197), .val (.ref b201), .val .null, .val (.ref b221), .val (.ref b273), .val (.ref co_282), .unset] [(.ref co_282), (.ref b178)]) tt_ → Steps p.tables e below s0 tt_ := fun tt_ kk_ => P284 tt_ (by
      refine XS.astore X282.here hx rfl (hb hby at_281) rfl rfl (l' := #[.val (.int pa), .val (.int pb), .val (.int pc_), .val (.int pd_), .val (.int n0_), .val (.int n1_), .val (.int l0_), .val (.int d0_), .val (.int d1_), .val (.int e0_), .val (.int e1_), .val (.int (1 : Int32)), .val (.ref b178), .val (.ref xs_197), .val (.ref b201), .val .null, .val (.ref b221), .val (.ref b273), .val (.ref co_282), .unset]) rfl ?_
      refine XS.aload X282.here hx rfl (hb hby at_283) rfl rfl ?_
      refine XS.aload X282.here hx rfl (hb hby at_285) rfl rfl ?_
      exact kk_)
    obtain ⟨cq286, kq286, q286a, q286b, q286c⟩ := isOf hZ rfl E_co_282
    obtain ⟨_, _, ⟨T286, L286, k286, n286⟩, -, X286, ⟨Lc286, hQ286, l286, y286, z286⟩, st286⟩ := X282.virtualBack hx (y := mn_27) (z := mn_27) hown (mw hZ hw 80 rfl) (mw hZ hw 81 rfl) (notFace_of_selects (args := #[]) (mw hZ hw 83 rfl)) (mw hZ hw 83 rfl) (mw hZ hw 82 rfl) (by decide) (backOf (W := 1) (rm_get_nameE l Z a0 hw [] co_282 b178 T282.heap n0 (Nat.le_trans Z0 K282.1) F_name_co_282) hZ (ww hw 84 rfl) (ww hw 46 rfl) (by decide) (by decide)) q286a q286c (g := (mkF m 287 #[.val (.int pa), .val (.int pb), .val (.int pc_), .val (.int pd_), .val (.int n0_), .val (.int n1_), .val (.int l0_), .val (.int d0_), .val (.int d1_), .val (.int e0_), .val (.int e1_), .val (.int (1 : Int32)), .val (.ref b178), .val (.ref xs_197), .val (.ref b201), .val .null, .val (.ref b221), .val (.ref b273), .val (.ref co_282), .unset] [(.ref co_282), (.ref b178)])) rfl (by rw [hml]; rfl) (Steps.refl _) (argsL := []) (rest := [(.ref b178)]) (lenOf pd_19 rfl) rfl (by show 2 * 0 + _ ≤ _; exact Nat.le_of_eq rfl) (hb hby at_287) (fun _ _ => ⟨rfl, rfl, (by decide : 18 + 0 ≤ _), (by decide : 155 + 0 ≤ _)⟩)
    dsimp only [Pt.U, Pt.locs, Pt.cells, Pt.slots] at X286 l286 y286 z286 st286 hQ286
    subst l286 y286 z286
    obtain ⟨rfl, N286q, e286⟩ := hQ286
    have N286 := Fr.app N283 N286q
    have P287 : ∀ tt_, GG p e below T286 (mkF m 290 #[.val (.int pa), .val (.int pb), .val (.int pc_), .val (.int pd_), .val (.int n0_), .val (.int n1_), .val (.int l0_), .val (.int d0_), .val (.int d1_), .val (.int e0_), .val (.int e1_), .val (.int (1 : Int32)), .val (.ref b178), .val (.ref xs_197), .val (.ref b201), .val .null, .val (.ref b221), .val (.ref b273), .val (.ref co_282), .unset] [(.ref b178), (.ref b178)]) tt_ → Steps p.tables e below s0 tt_ := fun tt_ kk_ => P285 tt_ (st286.trans kk_)
    obtain ⟨cq288, kq288, q288a, q288b, q288c⟩ := isOf hZ e286 E_b178
    obtain ⟨_, _, ⟨T288, L288, k288, n288⟩, -, X288, ⟨Lc288, hQ288, l288, y288, z288⟩, st288⟩ := X286.virtualBack hx (y := mn_28) (z := mn_28) hown (mw hZ hw 85 rfl) (mw hZ hw 86 rfl) (notFace_of_selects (args := #[]) (mw hZ hw 88 rfl)) (mw hZ hw 88 rfl) (mw hZ hw 87 rfl) (by decide) (backOf (W := 0) (rm_eqSame l Z a0 hw [] b178 T282.heap n0 (Nat.le_trans Z0 K282.1)) hZ (ww hw 89 rfl) (ww hw 2 rfl) (by decide) (by decide)) q288a q288c (g := (mkF m 290 #[.val (.int pa), .val (.int pb), .val (.int pc_), .val (.int pd_), .val (.int n0_), .val (.int n1_), .val (.int l0_), .val (.int d0_), .val (.int d1_), .val (.int e0_), .val (.int e1_), .val (.int (1 : Int32)), .val (.ref b178), .val (.ref xs_197), .val (.ref b201), .val .null, .val (.ref b221), .val (.ref b273), .val (.ref co_282), .unset] [(.ref b178), (.ref b178)])) rfl (by rw [hml]; rfl) (Steps.refl _) (argsL := [(.ref b178)]) (rest := []) (lenOf pd_23 rfl) rfl (by show 2 * 0 + _ ≤ _; exact Nat.le_of_eq rfl) (hb hby at_290) (fun _ _ => ⟨rfl, e286, (by decide : 18 + 0 ≤ _), (by decide : 155 + 0 ≤ _)⟩)
    dsimp only [Pt.U, Pt.locs, Pt.cells, Pt.slots] at X288 l288 y288 z288 st288 hQ288
    subst l288 y288 z288
    obtain ⟨rfl, N288q, e288⟩ := hQ288
    have N288 := Fr.app N286 N288q
    have P289 : ∀ tt_, GG p e below T288 (mkF m 293 #[.val (.int pa), .val (.int pb), .val (.int pc_), .val (.int pd_), .val (.int n0_), .val (.int n1_), .val (.int l0_), .val (.int d0_), .val (.int d1_), .val (.int e0_), .val (.int e1_), .val (.int (1 : Int32)), .val (.ref b178), .val (.ref xs_197), .val (.ref b201), .val .null, .val (.ref b221), .val (.ref b273), .val (.ref co_282), .unset] [(.int (1 : Int32))]) tt_ → Steps p.tables e below s0 tt_ := fun tt_ kk_ => P287 tt_ (st288.trans kk_)
    have P290 : ∀ tt_, GG p e below T288 (mkF m 302 #[.val (.int pa), .val (.int pb), .val (.int pc_), .val (.int pd_), .val (.int n0_), .val (.int n1_), .val (.int l0_), .val (.int d0_), .val (.int d1_), .val (.int e0_), .val (.int e1_), .val (.int (1 : Int32)), .val (.ref b178), .val (.ref xs_197), .val (.ref b201), .val .null, .val (.ref b221), .val (.ref b273), .val (.ref co_282), .unset] [(.ref co_282), (.ref xs_197)]) tt_ → Steps p.tables e below s0 tt_ := fun tt_ kk_ => P289 tt_ (by
      refine XS.ifYes X288.here hx rfl (pc0 := 293) (pc' := 298) rfl (hb hby at_293) rfl ((if0 _ _).trans (feq ((by decide) : ¬ ((1 : Int32) = (0 : Int32)))).2) (by decide) (by decide) ?_
      refine XS.aload X288.here hx rfl (hb hby at_298) rfl rfl ?_
      refine XS.aload X288.here hx rfl (hb hby at_300) rfl rfl ?_
      exact kk_)
    obtain ⟨cq291, kq291, q291a, q291b, q291c⟩ := isOf hZ e288 E_co_282
    obtain ⟨_, _, ⟨T291, L291, k291, n291⟩, -, X291, ⟨Lc291, hQ291, l291, y291, z291⟩, st291⟩ := X288.virtualBack hx (y := mn_29) (z := mn_29) hown (mw hZ hw 90 rfl) (mw hZ hw 91 rfl) (notFace_of_selects (args := #[]) (mw hZ hw 93 rfl)) (mw hZ hw 93 rfl) (mw hZ hw 92 rfl) (by decide) (backOf (W := 1) (rm_get_labelE l Z a0 hw [] co_282 xs_197 T282.heap n0 (Nat.le_trans Z0 K282.1) F_label_co_282) hZ (ww hw 94 rfl) (ww hw 46 rfl) (by decide) (by decide)) q291a q291c (g := (mkF m 302 #[.val (.int pa), .val (.int pb), .val (.int pc_), .val (.int pd_), .val (.int n0_), .val (.int n1_), .val (.int l0_), .val (.int d0_), .val (.int d1_), .val (.int e0_), .val (.int e1_), .val (.int (1 : Int32)), .val (.ref b178), .val (.ref xs_197), .val (.ref b201), .val .null, .val (.ref b221), .val (.ref b273), .val (.ref co_282), .unset] [(.ref co_282), (.ref xs_197)])) rfl (by rw [hml]; rfl) (Steps.refl _) (argsL := []) (rest := [(.ref xs_197)]) (lenOf pd_19 rfl) rfl (by show 2 * 0 + _ ≤ _; exact Nat.le_of_eq rfl) (hb hby at_302) (fun _ _ => ⟨rfl, e288, (by decide : 18 + 0 ≤ _), (by decide : 155 + 0 ≤ _)⟩)
    dsimp only [Pt.U, Pt.locs, Pt.cells, Pt.slots] at X291 l291 y291 z291 st291 hQ291
    subst l291 y291 z291
    obtain ⟨rfl, N291q, e291⟩ := hQ291
    have N291 := Fr.app N288 N291q
    have P292 : ∀ tt_, GG p e below T291 (mkF m 305 #[.val (.int pa), .val (.int pb), .val (.int pc_), .val (.int pd_), .val (.int n0_), .val (.int n1_), .val (.int l0_), .val (.int d0_), .val (.int d1_), .val (.int e0_), .val (.int e1_), .val (.int (1 : Int32)), .val (.ref b178), .val (.ref xs_197), .val (.ref b201), .val .null, .val (.ref b221), .val (.ref b273), .val (.ref co_282), .unset] [(.ref xs_197), (.ref xs_197)]) tt_ → Steps p.tables e below s0 tt_ := fun tt_ kk_ => P290 tt_ (st291.trans kk_)
    obtain ⟨cq293, kq293, q293a, q293b, q293c⟩ := isOf hZ e291 E_xs_197
    obtain ⟨_, _, ⟨T293, L293, k293, n293⟩, -, X293, ⟨Lc293, hQ293, l293, y293, z293⟩, st293⟩ := X291.virtualBack hx (y := mn_28) (z := mn_28) hown (mw hZ hw 85 rfl) (mw hZ hw 86 rfl) (notFace_of_selects (args := #[]) (mw hZ hw 88 rfl)) (mw hZ hw 88 rfl) (mw hZ hw 87 rfl) (by decide) (backOf (W := 0) (rm_eqSame l Z a0 hw [] xs_197 T282.heap n0 (Nat.le_trans Z0 K282.1)) hZ (ww hw 89 rfl) (ww hw 2 rfl) (by decide) (by decide)) q293a q293c (g := (mkF m 305 #[.val (.int pa), .val (.int pb), .val (.int pc_), .val (.int pd_), .val (.int n0_), .val (.int n1_), .val (.int l0_), .val (.int d0_), .val (.int d1_), .val (.int e0_), .val (.int e1_), .val (.int (1 : Int32)), .val (.ref b178), .val (.ref xs_197), .val (.ref b201), .val .null, .val (.ref b221), .val (.ref b273), .val (.ref co_282), .unset] [(.ref xs_197), (.ref xs_197)])) rfl (by rw [hml]; rfl) (Steps.refl _) (argsL := [(.ref xs_197)]) (rest := []) (lenOf pd_23 rfl) rfl (by show 2 * 0 + _ ≤ _; exact Nat.le_of_eq rfl) (hb hby at_305) (fun _ _ => ⟨rfl, e291, (by decide : 18 + 0 ≤ _), (by decide : 155 + 0 ≤ _)⟩)
    dsimp only [Pt.U, Pt.locs, Pt.cells, Pt.slots] at X293 l293 y293 z293 st293 hQ293
    subst l293 y293 z293
    obtain ⟨rfl, N293q, e293⟩ := hQ293
    have N293 := Fr.app N291 N293q
    have P294 : ∀ tt_, GG p e below T293 (mkF m 308 #[.val (.int pa), .val (.int pb), .val (.int pc_), .val (.int pd_), .val (.int n0_), .val (.int n1_), .val (.int l0_), .val (.int d0_), .val (.int d1_), .val (.int e0_), .val (.int e1_), .val (.int (1 : Int32)), .val (.ref b178), .val (.ref xs_197), .val (.ref b201), .val .null, .val (.ref b221), .val (.ref b273), .val (.ref co_282), .unset] [(.int (1 : Int32))]) tt_ → Steps p.tables e below s0 tt_ := fun tt_ kk_ => P292 tt_ (st293.trans kk_)
    have P295 : ∀ tt_, GG p e below T293 (mkF m 317 #[.val (.int pa), .val (.int pb), .val (.int pc_), .val (.int pd_), .val (.int n0_), .val (.int n1_), .val (.int l0_), .val (.int d0_), .val (.int d1_), .val (.int e0_), .val (.int e1_), .val (.int (1 : Int32)), .val (.ref b178), .val (.ref xs_197), .val (.ref b201), .val .null, .val (.ref b221), .val (.ref b273), .val (.ref co_282), .unset] [(.ref co_282), (.ref b201)]) tt_ → Steps p.tables e below s0 tt_ := fun tt_ kk_ => P294 tt_ (by
      refine XS.ifYes X293.here hx rfl (pc0 := 308) (pc' := 313) rfl (hb hby at_308) rfl ((if0 _ _).trans (feq ((by decide) : ¬ ((1 : Int32) = (0 : Int32)))).2) (by decide) (by decide) ?_
      refine XS.aload X293.here hx rfl (hb hby at_313) rfl rfl ?_
      refine XS.aload X293.here hx rfl (hb hby at_315) rfl rfl ?_
      exact kk_)
    obtain ⟨cq296, kq296, q296a, q296b, q296c⟩ := isOf hZ e293 E_co_282
    obtain ⟨_, _, ⟨T296, L296, k296, n296⟩, -, X296, ⟨Lc296, hQ296, l296, y296, z296⟩, st296⟩ := X293.virtualBack hx (y := mn_30) (z := mn_30) hown (mw hZ hw 95 rfl) (mw hZ hw 96 rfl) (notFace_of_selects (args := #[]) (mw hZ hw 98 rfl)) (mw hZ hw 98 rfl) (mw hZ hw 97 rfl) (by decide) (backOf (W := 1) (rm_get_descriptionE l Z a0 hw [] co_282 b201 T282.heap n0 (Nat.le_trans Z0 K282.1) F_description_co_282) hZ (ww hw 99 rfl) (ww hw 46 rfl) (by decide) (by decide)) q296a q296c (g := (mkF m 317 #[.val (.int pa), .val (.int pb), .val (.int pc_), .val (.int pd_), .val (.int n0_), .val (.int n1_), .val (.int l0_), .val (.int d0_), .val (.int d1_), .val (.int e0_), .val (.int e1_), .val (.int (1 : Int32)), .val (.ref b178), .val (.ref xs_197), .val (.ref b201), .val .null, .val (.ref b221), .val (.ref b273), .val (.ref co_282), .unset] [(.ref co_282), (.ref b201)])) rfl (by rw [hml]; rfl) (Steps.refl _) (argsL := []) (rest := [(.ref b201)]) (lenOf pd_19 rfl) rfl (by show 2 * 0 + _ ≤ _; exact Nat.le_of_eq rfl) (hb hby at_317) (fun _ _ => ⟨rfl, e293, (by decide : 18 + 0 ≤ _), (by decide : 155 + 0 ≤ _)⟩)
    dsimp only [Pt.U, Pt.locs, Pt.cells, Pt.slots] at X296 l296 y296 z296 st296 hQ296
    subst l296 y296 z296
    obtain ⟨rfl, N296q, e296⟩ := hQ296
    have N296 := Fr.app N293 N296q
    have P297 : ∀ tt_, GG p e below T296 (mkF m 320 #[.val (.int pa), .val (.int pb), .val (.int pc_), .val (.int pd_), .val (.int n0_), .val (.int n1_), .val (.int l0_), .val (.int d0_), .val (.int d1_), .val (.int e0_), .val (.int e1_), .val (.int (1 : Int32)), .val (.ref b178), .val (.ref xs_197), .val (.ref b201), .val .null, .val (.ref b221), .val (.ref b273), .val (.ref co_282), .unset] [(.ref b201), (.ref b201)]) tt_ → Steps p.tables e below s0 tt_ := fun tt_ kk_ => P295 tt_ (st296.trans kk_)
    obtain ⟨cq298, kq298, q298a, q298b, q298c⟩ := isOf hZ e296 E_b201
    obtain ⟨_, _, ⟨T298, L298, k298, n298⟩, -, X298, ⟨Lc298, hQ298, l298, y298, z298⟩, st298⟩ := X296.virtualBack hx (y := mn_28) (z := mn_28) hown (mw hZ hw 85 rfl) (mw hZ hw 86 rfl) (notFace_of_selects (args := #[]) (mw hZ hw 88 rfl)) (mw hZ hw 88 rfl) (mw hZ hw 87 rfl) (by decide) (backOf (W := 0) (rm_eqSame l Z a0 hw [] b201 T282.heap n0 (Nat.le_trans Z0 K282.1)) hZ (ww hw 89 rfl) (ww hw 2 rfl) (by decide) (by decide)) q298a q298c (g := (mkF m 320 #[.val (.int pa), .val (.int pb), .val (.int pc_), .val (.int pd_), .val (.int n0_), .val (.int n1_), .val (.int l0_), .val (.int d0_), .val (.int d1_), .val (.int e0_), .val (.int e1_), .val (.int (1 : Int32)), .val (.ref b178), .val (.ref xs_197), .val (.ref b201), .val .null, .val (.ref b221), .val (.ref b273), .val (.ref co_282), .unset] [(.ref b201), (.ref b201)])) rfl (by rw [hml]; rfl) (Steps.refl _) (argsL := [(.ref b201)]) (rest := []) (lenOf pd_23 rfl) rfl (by show 2 * 0 + _ ≤ _; exact Nat.le_of_eq rfl) (hb hby at_320) (fun _ _ => ⟨rfl, e296, (by decide : 18 + 0 ≤ _), (by decide : 155 + 0 ≤ _)⟩)
    dsimp only [Pt.U, Pt.locs, Pt.cells, Pt.slots] at X298 l298 y298 z298 st298 hQ298
    subst l298 y298 z298
    obtain ⟨rfl, N298q, e298⟩ := hQ298
    have N298 := Fr.app N296 N298q
    have P299 : ∀ tt_, GG p e below T298 (mkF m 323 #[.val (.int pa), .val (.int pb), .val (.int pc_), .val (.int pd_), .val (.int n0_), .val (.int n1_), .val (.int l0_), .val (.int d0_), .val (.int d1_), .val (.int e0_), .val (.int e1_), .val (.int (1 : Int32)), .val (.ref b178), .val (.ref xs_197), .val (.ref b201), .val .null, .val (.ref b221), .val (.ref b273), .val (.ref co_282), .unset] [(.int (1 : Int32))]) tt_ → Steps p.tables e below s0 tt_ := fun tt_ kk_ => P297 tt_ (st298.trans kk_)
    have P300 : ∀ tt_, GG p e below T298 (mkF m 330 #[.val (.int pa), .val (.int pb), .val (.int pc_), .val (.int pd_), .val (.int n0_), .val (.int n1_), .val (.int l0_), .val (.int d0_), .val (.int d1_), .val (.int e0_), .val (.int e1_), .val (.int (1 : Int32)), .val (.ref b178), .val (.ref xs_197), .val (.ref b201), .val .null, .val (.ref b221), .val (.ref b273), .val (.ref co_282), .unset] [(.ref co_282)]) tt_ → Steps p.tables e below s0 tt_ := fun tt_ kk_ => P299 tt_ (by
      refine XS.ifYes X298.here hx rfl (pc0 := 323) (pc' := 328) rfl (hb hby at_323) rfl ((if0 _ _).trans (feq ((by decide) : ¬ ((1 : Int32) = (0 : Int32)))).2) (by decide) (by decide) ?_
      refine XS.aload X298.here hx rfl (hb hby at_328) rfl rfl ?_
      exact kk_)
    obtain ⟨cq301, kq301, q301a, q301b, q301c⟩ := isOf hZ e298 E_co_282
    obtain ⟨_, _, ⟨T301, L301, k301, n301⟩, -, X301, ⟨Lc301, hQ301, l301, y301, z301⟩, st301⟩ := X298.virtualBack hx (y := mn_31) (z := mn_31) hown (mw hZ hw 100 rfl) (mw hZ hw 101 rfl) (notFace_of_selects (args := #[]) (mw hZ hw 103 rfl)) (mw hZ hw 103 rfl) (mw hZ hw 102 rfl) (by decide) (backOf (W := 0) (rm_get_required l Z a0 hw [] co_282 T282.heap n0 (Nat.le_trans Z0 K282.1) F_required_co_282) hZ (ww hw 104 rfl) (ww hw 46 rfl) (by decide) (by decide)) q301a q301c (g := (mkF m 330 #[.val (.int pa), .val (.int pb), .val (.int pc_), .val (.int pd_), .val (.int n0_), .val (.int n1_), .val (.int l0_), .val (.int d0_), .val (.int d1_), .val (.int e0_), .val (.int e1_), .val (.int (1 : Int32)), .val (.ref b178), .val (.ref xs_197), .val (.ref b201), .val .null, .val (.ref b221), .val (.ref b273), .val (.ref co_282), .unset] [(.ref co_282)])) rfl (by rw [hml]; rfl) (Steps.refl _) (argsL := []) (rest := []) (lenOf pd_11 rfl) rfl (by show 2 * 0 + _ ≤ _; exact Nat.le_of_eq rfl) (hb hby at_330) (fun _ _ => ⟨rfl, e298, (by decide : 18 + 0 ≤ _), (by decide : 155 + 0 ≤ _)⟩)
    dsimp only [Pt.U, Pt.locs, Pt.cells, Pt.slots] at X301 l301 y301 z301 st301 hQ301
    subst l301 y301 z301
    obtain ⟨rfl, N301q, e301⟩ := hQ301
    have N301 := Fr.app N298 N301q
    have P302 : ∀ tt_, GG p e below T301 (mkF m 333 #[.val (.int pa), .val (.int pb), .val (.int pc_), .val (.int pd_), .val (.int n0_), .val (.int n1_), .val (.int l0_), .val (.int d0_), .val (.int d1_), .val (.int e0_), .val (.int e1_), .val (.int (1 : Int32)), .val (.ref b178), .val (.ref xs_197), .val (.ref b201), .val .null, .val (.ref b221), .val (.ref b273), .val (.ref co_282), .unset] [(.int (0 : Int32))]) tt_ → Steps p.tables e below s0 tt_ := fun tt_ kk_ => P300 tt_ (st301.trans kk_)
    have P303 : ∀ tt_, GG p e below T301 (mkF m 340 #[.val (.int pa), .val (.int pb), .val (.int pc_), .val (.int pd_), .val (.int n0_), .val (.int n1_), .val (.int l0_), .val (.int d0_), .val (.int d1_), .val (.int e0_), .val (.int e1_), .val (.int (1 : Int32)), .val (.ref b178), .val (.ref xs_197), .val (.ref b201), .val .null, .val (.ref b221), .val (.ref b273), .val (.ref co_282), .unset] [(.ref co_282)]) tt_ → Steps p.tables e below s0 tt_ := fun tt_ kk_ => P302 tt_ (by
      refine XS.ifYes X301.here hx rfl (pc0 := 333) (pc' := 338) rfl (hb hby at_333) rfl ((if0 _ _).trans (teq ((by decide) : (0 : Int32) = (0 : Int32))).1) (by decide) (by decide) ?_
      refine XS.aload X301.here hx rfl (hb hby at_338) rfl rfl ?_
      exact kk_)
    obtain ⟨cq304, kq304, q304a, q304b, q304c⟩ := isOf hZ e301 E_co_282
    obtain ⟨_, _, ⟨T304, L304, k304, n304⟩, -, X304, ⟨Lc304, hQ304, l304, y304, z304⟩, st304⟩ := X301.virtualBack hx (y := mn_32) (z := mn_32) hown (mw hZ hw 105 rfl) (mw hZ hw 106 rfl) (notFace_of_selects (args := #[]) (mw hZ hw 108 rfl)) (mw hZ hw 108 rfl) (mw hZ hw 107 rfl) (by decide) (backOf (W := 0) (rm_get_defaultValueN l Z a0 hw [] co_282 T282.heap n0 (Nat.le_trans Z0 K282.1) F_defaultValue_co_282) hZ (ww hw 109 rfl) (ww hw 46 rfl) (by decide) (by decide)) q304a q304c (g := (mkF m 340 #[.val (.int pa), .val (.int pb), .val (.int pc_), .val (.int pd_), .val (.int n0_), .val (.int n1_), .val (.int l0_), .val (.int d0_), .val (.int d1_), .val (.int e0_), .val (.int e1_), .val (.int (1 : Int32)), .val (.ref b178), .val (.ref xs_197), .val (.ref b201), .val .null, .val (.ref b221), .val (.ref b273), .val (.ref co_282), .unset] [(.ref co_282)])) rfl (by rw [hml]; rfl) (Steps.refl _) (argsL := []) (rest := []) (lenOf pd_19 rfl) rfl (by show 2 * 0 + _ ≤ _; exact Nat.le_of_eq rfl) (hb hby at_340) (fun _ _ => ⟨rfl, e301, (by decide : 18 + 0 ≤ _), (by decide : 155 + 0 ≤ _)⟩)
    dsimp only [Pt.U, Pt.locs, Pt.cells, Pt.slots] at X304 l304 y304 z304 st304 hQ304
    subst l304 y304 z304
    obtain ⟨rfl, N304q, e304⟩ := hQ304
    have N304 := Fr.app N301 N304q
    have P305 : ∀ tt_, GG p e below T304 (mkF m 343 #[.val (.int pa), .val (.int pb), .val (.int pc_), .val (.int pd_), .val (.int n0_), .val (.int n1_), .val (.int l0_), .val (.int d0_), .val (.int d1_), .val (.int e0_), .val (.int e1_), .val (.int (1 : Int32)), .val (.ref b178), .val (.ref xs_197), .val (.ref b201), .val .null, .val (.ref b221), .val (.ref b273), .val (.ref co_282), .unset] [.null]) tt_ → Steps p.tables e below s0 tt_ := fun tt_ kk_ => P303 tt_ (st304.trans kk_)
    have P306 : ∀ tt_, GG p e below T304 (mkF m 350 #[.val (.int pa), .val (.int pb), .val (.int pc_), .val (.int pd_), .val (.int n0_), .val (.int n1_), .val (.int l0_), .val (.int d0_), .val (.int d1_), .val (.int e0_), .val (.int e1_), .val (.int (1 : Int32)), .val (.ref b178), .val (.ref xs_197), .val (.ref b201), .val .null, .val (.ref b221), .val (.ref b273), .val (.ref co_282), .unset] [(.ref co_282)]) tt_ → Steps p.tables e below s0 tt_ := fun tt_ kk_ => P305 tt_ (by
      refine XS.ifnullYes X304.here hx rfl (pc0 := 343) (pc' := 348) rfl (hb hby at_343) rfl (by decide) (by decide) ?_
      refine XS.aload X304.here hx rfl (hb hby at_348) rfl rfl ?_
      exact kk_)
    obtain ⟨cq307, kq307, q307a, q307b, q307c⟩ := isOf hZ e304 E_co_282
    obtain ⟨_, _, ⟨T307, L307, k307, n307⟩, -, X307, ⟨Lc307, hQ307, l307, y307, z307⟩, st307⟩ := X304.virtualBack hx (y := mn_33) (z := mn_33) hown (mw hZ hw 110 rfl) (mw hZ hw 111 rfl) (notFace_of_selects (args := #[]) (mw hZ hw 113 rfl)) (mw hZ hw 113 rfl) (mw hZ hw 112 rfl) (by decide) (backOf (W := 0) (rm_helpN l Z a0 hw [] co_282 b201 T282.heap n0 (Nat.le_trans Z0 K282.1) F_environmentVariable_co_282 F_defaultValue_co_282 F_description_co_282) hZ (ww hw 114 rfl) (ww hw 46 rfl) (by decide) (by decide)) q307a q307c (g := (mkF m 350 #[.val (.int pa), .val (.int pb), .val (.int pc_), .val (.int pd_), .val (.int n0_), .val (.int n1_), .val (.int l0_), .val (.int d0_), .val (.int d1_), .val (.int e0_), .val (.int e1_), .val (.int (1 : Int32)), .val (.ref b178), .val (.ref xs_197), .val (.ref b201), .val .null, .val (.ref b221), .val (.ref b273), .val (.ref co_282), .unset] [(.ref co_282)])) rfl (by rw [hml]; rfl) (Steps.refl _) (argsL := []) (rest := []) (lenOf pd_19 rfl) rfl (by show 2 * 0 + _ ≤ _; exact Nat.le_of_eq rfl) (hb hby at_350) (fun _ _ => ⟨rfl, e304, (by decide : 18 + 0 ≤ _), (by decide : 155 + 0 ≤ _)⟩)
    dsimp only [Pt.U, Pt.locs, Pt.cells, Pt.slots] at X307 l307 y307 z307 st307 hQ307
    subst l307 y307 z307
    obtain ⟨rfl, N307q, e307⟩ := hQ307
    have N307 := Fr.app N304 N307q
    have P308 : ∀ tt_, GG p e below T307 (mkF m 353 #[.val (.int pa), .val (.int pb), .val (.int pc_), .val (.int pd_), .val (.int n0_), .val (.int n1_), .val (.int l0_), .val (.int d0_), .val (.int d1_), .val (.int e0_), .val (.int e1_), .val (.int (1 : Int32)), .val (.ref b178), .val (.ref xs_197), .val (.ref b201), .val .null, .val (.ref b221), .val (.ref b273), .val (.ref co_282), .unset] [(.ref b201)]) tt_ → Steps p.tables e below s0 tt_ := fun tt_ kk_ => P306 tt_ (st307.trans kk_)
    have P309 : ∀ tt_, GG p e below T307 (mkF m 362 #[.val (.int pa), .val (.int pb), .val (.int pc_), .val (.int pd_), .val (.int n0_), .val (.int n1_), .val (.int l0_), .val (.int d0_), .val (.int d1_), .val (.int e0_), .val (.int e1_), .val (.int (1 : Int32)), .val (.ref b178), .val (.ref xs_197), .val (.ref b201), .val .null, .val (.ref b221), .val (.ref b273), .val (.ref co_282), .val (.ref b201)] [(.ref co_282)]) tt_ → Steps p.tables e below s0 tt_ := fun tt_ kk_ => P308 tt_ (by
      refine XS.astore X307.here hx rfl (hb hby at_353) rfl rfl (l' := #[.val (.int pa), .val (.int pb), .val (.int pc_), .val (.int pd_), .val (.int n0_), .val (.int n1_), .val (.int l0_), .val (.int d0_), .val (.int d1_), .val (.int e0_), .val (.int e1_), .val (.int (1 : Int32)), .val (.ref b178), .val (.ref xs_197), .val (.ref b201), .val .null, .val (.ref b221), .val (.ref b273), .val (.ref co_282), .val (.ref b201)]) rfl ?_
      refine XS.iload X307.here hx rfl (hb hby at_355) rfl ?_
      refine XS.ifNo X307.here hx rfl (hb hby at_357) rfl ((if0 _ _).trans (feq ((by decide) : ¬ ((1 : Int32) = (0 : Int32)))).1) ?_
      refine XS.aload X307.here hx rfl (hb hby at_360) rfl rfl ?_
      exact kk_)
    obtain ⟨cq310, kq310, q310a, q310b, q310c⟩ := isOf hZ e307 E_co_282
    obtain ⟨_, _, ⟨T310, L310, k310, n310⟩, -, X310, ⟨Lc310, hQ310, l310, y310, z310⟩, st310⟩ := X307.virtualBack hx (y := mn_34) (z := mn_34) hown (mw hZ hw 115 rfl) (mw hZ hw 116 rfl) (notFace_of_selects (args := #[]) (mw hZ hw 118 rfl)) (mw hZ hw 118 rfl) (mw hZ hw 117 rfl) (by decide) (backOf (W := 0) (rm_get_environmentVariableN l Z a0 hw [] co_282 T282.heap n0 (Nat.le_trans Z0 K282.1) F_environmentVariable_co_282) hZ (ww hw 119 rfl) (ww hw 46 rfl) (by decide) (by decide)) q310a q310c (g := (mkF m 362 #[.val (.int pa), .val (.int pb), .val (.int pc_), .val (.int pd_), .val (.int n0_), .val (.int n1_), .val (.int l0_), .val (.int d0_), .val (.int d1_), .val (.int e0_), .val (.int e1_), .val (.int (1 : Int32)), .val (.ref b178), .val (.ref xs_197), .val (.ref b201), .val .null, .val (.ref b221), .val (.ref b273), .val (.ref co_282), .val (.ref b201)] [(.ref co_282)])) rfl (by rw [hml]; rfl) (Steps.refl _) (argsL := []) (rest := []) (lenOf pd_19 rfl) rfl (by show 2 * 0 + _ ≤ _; exact Nat.le_of_eq rfl) (hb hby at_362) (fun _ _ => ⟨rfl, e307, (by decide : 18 + 0 ≤ _), (by decide : 155 + 0 ≤ _)⟩)
    dsimp only [Pt.U, Pt.locs, Pt.cells, Pt.slots] at X310 l310 y310 z310 st310 hQ310
    subst l310 y310 z310
    obtain ⟨rfl, N310q, e310⟩ := hQ310
    have N310 := Fr.app N307 N310q
    have P311 : ∀ tt_, GG p e below T310 (mkF m 365 #[.val (.int pa), .val (.int pb), .val (.int pc_), .val (.int pd_), .val (.int n0_), .val (.int n1_), .val (.int l0_), .val (.int d0_), .val (.int d1_), .val (.int e0_), .val (.int e1_), .val (.int (1 : Int32)), .val (.ref b178), .val (.ref xs_197), .val (.ref b201), .val .null, .val (.ref b221), .val (.ref b273), .val (.ref co_282), .val (.ref b201)] [.null]) tt_ → Steps p.tables e below s0 tt_ := fun tt_ kk_ => P309 tt_ (st310.trans kk_)
    have P312 : ∀ tt_, GG p e below T310 (mkF m 372 #[.val (.int pa), .val (.int pb), .val (.int pc_), .val (.int pd_), .val (.int n0_), .val (.int n1_), .val (.int l0_), .val (.int d0_), .val (.int d1_), .val (.int e0_), .val (.int e1_), .val (.int (1 : Int32)), .val (.ref b178), .val (.ref xs_197), .val (.ref b201), .val .null, .val (.ref b221), .val (.ref b273), .val (.ref co_282), .val (.ref b201)] [(.ref b201), (.ref b201)]) tt_ → Steps p.tables e below s0 tt_ := fun tt_ kk_ => P311 tt_ (by
      refine XS.ifnonnullNo X310.here hx rfl (hb hby at_365) rfl ?_
      refine XS.aload X310.here hx rfl (hb hby at_368) rfl rfl ?_
      refine XS.aload X310.here hx rfl (hb hby at_370) rfl rfl ?_
      exact kk_)
    obtain ⟨cq313, kq313, q313a, q313b, q313c⟩ := isOf hZ e310 E_b201
    obtain ⟨_, _, ⟨T313, L313, k313, n313⟩, -, X313, ⟨Lc313, hQ313, l313, y313, z313⟩, st313⟩ := X310.virtualBack hx (y := mn_28) (z := mn_28) hown (mw hZ hw 85 rfl) (mw hZ hw 86 rfl) (notFace_of_selects (args := #[]) (mw hZ hw 88 rfl)) (mw hZ hw 88 rfl) (mw hZ hw 87 rfl) (by decide) (backOf (W := 0) (rm_eqSame l Z a0 hw [] b201 T282.heap n0 (Nat.le_trans Z0 K282.1)) hZ (ww hw 89 rfl) (ww hw 2 rfl) (by decide) (by decide)) q313a q313c (g := (mkF m 372 #[.val (.int pa), .val (.int pb), .val (.int pc_), .val (.int pd_), .val (.int n0_), .val (.int n1_), .val (.int l0_), .val (.int d0_), .val (.int d1_), .val (.int e0_), .val (.int e1_), .val (.int (1 : Int32)), .val (.ref b178), .val (.ref xs_197), .val (.ref b201), .val .null, .val (.ref b221), .val (.ref b273), .val (.ref co_282), .val (.ref b201)] [(.ref b201), (.ref b201)])) rfl (by rw [hml]; rfl) (Steps.refl _) (argsL := [(.ref b201)]) (rest := []) (lenOf pd_23 rfl) rfl (by show 2 * 0 + _ ≤ _; exact Nat.le_of_eq rfl) (hb hby at_372) (fun _ _ => ⟨rfl, e310, (by decide : 18 + 0 ≤ _), (by decide : 155 + 0 ≤ _)⟩)
    dsimp only [Pt.U, Pt.locs, Pt.cells, Pt.slots] at X313 l313 y313 z313 st313 hQ313
    subst l313 y313 z313
    obtain ⟨rfl, N313q, e313⟩ := hQ313
    have N313 := Fr.app N310 N313q
    have P314 : ∀ tt_, GG p e below T313 (mkF m 375 #[.val (.int pa), .val (.int pb), .val (.int pc_), .val (.int pd_), .val (.int n0_), .val (.int n1_), .val (.int l0_), .val (.int d0_), .val (.int d1_), .val (.int e0_), .val (.int e1_), .val (.int (1 : Int32)), .val (.ref b178), .val (.ref xs_197), .val (.ref b201), .val .null, .val (.ref b221), .val (.ref b273), .val (.ref co_282), .val (.ref b201)] [(.int (1 : Int32))]) tt_ → Steps p.tables e below s0 tt_ := fun tt_ kk_ => P312 tt_ (st313.trans kk_)
    have P315 : ∀ tt_, GG p e below T313 (mkF m 383 #[.val (.int pa), .val (.int pb), .val (.int pc_), .val (.int pd_), .val (.int n0_), .val (.int n1_), .val (.int l0_), .val (.int d0_), .val (.int d1_), .val (.int e0_), .val (.int e1_), .val (.int (1 : Int32)), .val (.ref b178), .val (.ref xs_197), .val (.ref b201), .val .null, .val (.ref b221), .val (.ref b273), .val (.ref co_282), .val (.ref b201)] [(.int (1 : Int32))]) tt_ → Steps p.tables e below s0 tt_ := fun tt_ kk_ => P314 tt_ (by
      refine XS.ifNo X313.here hx rfl (hb hby at_375) rfl ((if0 _ _).trans (feq ((by decide) : ¬ ((1 : Int32) = (0 : Int32)))).1) ?_
      refine XS.iconst X313.here hx rfl (hb hby at_378) ?_
      refine XS.goto X313.here hx rfl (pc0 := 379) (pc' := 383) rfl (hb hby at_379) (by decide) (by decide) ?_
      exact kk_)
    subst hs0
    obtain ⟨fs, hr, hrun, hended, hREW⟩ := X313.leaveW hS (by rw [e313]; exact hk) (v := some (.int (nar .boolean (1 : Int32)))) (fun h => by rw [Bd.returns] at h; cases h)
    have CRT := CR.trans (CHv.at X313 hZ hEL CR.1)
    refine ⟨_, _, P315 _ ?_, hrun, hended, _, _, rfl, ?_, ?_, hREW.1, hREW.2.1, hREW.2.2.1, hREW.2.2.2.mono (by decide) (by decide)⟩
    · show GG p e below T313 (mkF m 383 #[.val (.int pa), .val (.int pb), .val (.int pc_), .val (.int pd_), .val (.int n0_), .val (.int n1_), .val (.int l0_), .val (.int d0_), .val (.int d1_), .val (.int e0_), .val (.int e1_), .val (.int (1 : Int32)), .val (.ref b178), .val (.ref xs_197), .val (.ref b201), .val .null, .val (.ref b221), .val (.ref b273), .val (.ref co_282), .val (.ref b201)] [(.int (1 : Int32))]) _
      exact retN X313 hx (t := .boolean) Bd.returns (by simp) (hb hby at_383) hr
    · show Q_law Z pa pb pc_ pd_ G1 h0 n0 _ T313.heap _
      rw [e313]
      exact ⟨rfl, N313, K282⟩
    · show CHr Z ELs s.vm s.heap T313.vm T313.heap
      rw [hh, e313]
      exact CRT
set_option maxRecDepth 65536 in
set_option maxHeartbeats 40000000 in
theorem comes_1 {Post : Tables → Env → Array Value → State → Outcome → State → Prop} (hpost : ∀ tb e args s v u, (limb_1_1.after args s (.returned v) u = true ∧ limb_1_2.after args s (.returned v) u = true ∧ True) → FramedW s (.returned v) u (Jvm.fieldLocs frame_1_writes args s ++ Jvm.arrayLocs frame_1_arrays args s ++ Jvm.staticLocs frame_1_statics s) 56 5440 → Post tb e args s (.returned v) u) :
    ArmFor flags0 classFile x code maxLocals ret World_1 tables_1 room_1 Calls_1 rest_1 Pre_1 Post := by
  intro l hfl _ _ p e ha hc hk s m args below hf hA hF happ hP
  obtain ⟨hcalls, hrest, hpre⟩ := hP
  obtain ⟨-, -, -, hnamed, -, -, -, hat⟩ := (Spec.applies_iff hf).mp happ
  obtain ⟨hg, hn⟩ := and_e (Cond.before_iff.mp (show (Jvm.Cond.and given_1 narrow_1).before args s = true from hpre))
  obtain ⟨h1, h2⟩ := and_e hg
  obtain ⟨ga, h2⟩ := and_e h2
  obtain ⟨gb, h2⟩ := and_e h2
  obtain ⟨gc, gd⟩ := and_e h2
  obtain ⟨w0, w1, w2, w3, rfl⟩ : ∃ w0 w1 w2 w3 : Value, args = #[w0, w1, w2, w3] := by
    have hs : args.size = 4 := by simpa [Cond.value, given_1] using h1
    obtain ⟨L⟩ := args
    match L, hs with
    | [w0, w1, w2, w3], _ => exact ⟨w0, w1, w2, w3, rfl⟩
  have hw := fun d (hd : d ∈ tables_1) => atoms_spec (ws := Jvm.Cond.code x code maxLocals ret :: tables_1) hat d (List.mem_cons_of_mem _ hd)
  obtain ⟨hsets, hown0⟩ := atoms_of _ (rest_1_c_eq ▸ (show rest_1_c.before _ s = true from hrest))
  have n5 := not_v (Cond.before_iff.mp (hsets _ (List.mem_of_getElem? (i := 2) rfl)))
  obtain ⟨i0, e0⟩ := is_v ga
  obtain rfl : w0 = (.int i0) := Option.some.inj e0
  obtain ⟨i1, e1⟩ := is_v gb
  obtain rfl : w1 = (.int i1) := Option.some.inj e1
  obtain ⟨i2, e2⟩ := is_v gc
  obtain rfl : w2 = (.int i2) := Option.some.inj e2
  obtain ⟨i3, e3⟩ := is_v gd
  obtain rfl : w3 = (.int i3) := Option.some.inj e3
  obtain ⟨iG, eG⟩ := is_v (Cond.before_iff.mp (hsets _ (List.mem_of_getElem? (i := 1) rfl)))
  have SG : Sta s s.heap "java/lang/String" "COMPACT_STRINGS" "Z" (.int iG) := Sta.start eG (Or.inl (hsets _ (List.mem_of_getElem? (i := 0) rfl)))
  have cG : ¬ (iG = (0 : Int32)) := gotF (Cond.eq_ints eG (Term.int_eval (0))) n5
  have hEL : EW s #[.int i0, .int i1, .int i2, .int i3] ELs := EW.cons (ww hw 185 rfl) (by decide) (EW.cons (ww hw 186 rfl) (by decide) EW.nil)
  have hch : ∀ p ∈ ELs, Jvm.Lit.constHeld s p.1 p.2 := by
    intro p hp
    simp only [ELs, List.mem_cons, List.not_mem_nil, or_false] at hp
    rcases hp with rfl | rfl
    · exact hcalls.1 _ (List.mem_of_getElem? (i := 3) rfl)
    · exact hcalls.1 _ (List.mem_of_getElem? (i := 4) rfl)
  have H0 : CHv s ELs s.vm s.heap := CHv.start hEL hch (hsets _ (List.mem_of_getElem? (i := 2) rfl)) (ww hw 19 rfl) (ww hw 1 rfl)
  obtain ⟨n, o, h1, h2, h3, _, L, rfl, ⟨rfl, N, -⟩, -, hq⟩ := rm_law l s _ hw hEL tables_1 i0 i1 i2 i3 iG s.heap s.heap.size (Nat.le_refl _) SG (Old.start s) cG p e ha hc hk s m _ below hf ((Spec.applies_iff_loose hf).mp happ).1 ⟨rfl, State.Warmed39.refl s, rfl, H0⟩ trivial
  exact ⟨n, _, h1, h2, h3, hpost _ _ _ _ _ _ ⟨Cond.after_iff.mpr rfl, Cond.after_iff.mpr (eq_i res_at (Term.int_eval (1)) rfl), trivial⟩ ⟨hq.1, hq.2.1, hq.2.2.1, (hq.2.2.2.sift fun y hy => Or.inr (N y hy)).mono (by decide) (by decide)⟩⟩
theorem main_1_1 : Claimed_1_1 := comes_1 fun _ _ _ _ _ _ h hF => ⟨h.1, hF⟩
theorem main_1_2 : Claimed_1_2 := comes_1 fun _ _ _ _ _ _ h hF => ⟨h.2.1, hF⟩
end Jvm.Pilot.@@N@@
namespace Jvm.Pilot.@@N@@
open Jvm Jvm.ClassFile Sem Op Lib Jvm.Free Jvm.Stand Jvm.Pilot.@@N@@.Jvm.D
/-! MADE BY PROGRAM (witnessworld.py) out of the Statement's table words and the real class files: 27 classes; the members and pool entries that the words name. The judged class is class 1, her method 1. -/
namespace start1
open Jvm.ClassFile
def u (s : String) : CpInfo := .utf8 (stringToUtf16 s)
/-- a pool by its gaps: so many unusable entries, then the entry; so many at the end -/
def gap : Nat → List CpInfo → List CpInfo
  | 0, r => r
  | n + 1, r => .unusable :: gap n r
def poolList (es : List (Nat × CpInfo)) (last : Nat) : List CpInfo := es.foldr (fun e r => gap e.1 (e.2 :: r)) (gap last [])
def pool (es : List (Nat × CpInfo)) (last : Nat) : Array CpInfo := ⟨poolList es last⟩
def fileOf (pool : Array CpInfo) (this : Nat) (attrs : Array Attribute := #[]) (ms : Array MethodInfo := #[]) (fl : Nat := 33) (sup : Nat := 0) (ifs : Array Nat := #[]) (fds : Array FieldInfo := #[]) : ClassFile where
  minorVersion := 0
  majorVersion := 65
  constantPool := pool
  accessFlags := fl
  thisClass := this
  superClass := sup
  interfaces := ifs
  fields := fds
  methods := ms
  attributes := attrs
def plain (name : String) (sup : Option ClassId) : Class where
  name := name
  kind := .ordinary
  loader := none
  accessFlags := 33
  super := sup
  interfaces := #[]
  cf := none
  fields := #[]
  methods := #[]
  instanceTypes := #[]
  staticTypes := #[]
  resolved := #[]
  callSites := []
  init := .initialized
  statics := none
  mirror := none

def pool0 : Array CpInfo := pool [(5, u "<init>"), (0, u "()V"), (1, .class_ 10), (1, u "java/lang/Object"), (85, u "clone"), (0, u "()Ljava/lang/Object;")] 26

def k0c0 : Code := { maxStack := 0, maxLocals := 1, code := object_method_1_code, exceptionTable := #[], attributes := #[] }
def k0m0 : Method := { name := "<init>", desc := "()V", sig := { parameters := [], returnType := none }, accessFlags := 1, code := some k0c0 }
def k0m1 : Method := { name := "clone", desc := "()Ljava/lang/Object;", sig := { parameters := [], returnType := some (.object "java/lang/Object") }, accessFlags := 260, code := none }
/-- java/lang/Object -/
def k0 : Class := { plain "java/lang/Object" none with
  accessFlags := 33
  interfaces := #[]
  cf := some (fileOf pool0 8 #[] #[{ accessFlags := 1, nameIndex := 5, descriptorIndex := 6, attributes := #[] }, { accessFlags := 260, nameIndex := 96, descriptorIndex := 97, attributes := #[] }] 33 0 #[] #[])
  fields := #[]
  methods := #[k0m0, k0m1]
  instanceTypes := #[]
  staticTypes := #[]
  resolved := Array.replicate 124 none
  statics := none }

def pool1 : Array CpInfo := pool [(2, .class_ 4), (1, u "java/lang/Object"), (0, u "<init>"), (0, u "()V"), (0, .class_ 8), (0, u "java/lang/String"), (0, .methodref 7 10), (0, .nameAndType 5 11), (0, u "([C)V"), (0, .methodref 7 13), (0, .nameAndType 14 15), (0, u "valueOf"), (0, u "(C)Ljava/lang/String;"), (0, .methodref 17 18), (0, .class_ 19), (0, .nameAndType 20 21), (0, u "com/example/ngazi/ngazi/cli/CommandOption"), (0, u "fromEnvironment"), (0, u "(Ljava/lang/String;Ljava/lang/String;Ljava/lang/String;Ljava/lang/String;)Lcom/example/ngazi/ngazi/cli/CommandOption;"), (0, .methodref 17 23), (0, .nameAndType 24 25), (0, u "name"), (0, u "()Ljava/lang/String;"), (0, .methodref 7 27), (0, .nameAndType 28 29), (0, u "equals"), (0, u "(Ljava/lang/Object;)Z"), (0, .methodref 17 31), (0, .nameAndType 32 25), (0, u "label"), (0, .methodref 17 34), (0, .nameAndType 35 25), (0, u "description"), (0, .methodref 17 37), (0, .nameAndType 38 39), (0, u "required"), (0, u "()Z"), (0, .methodref 17 41), (0, .nameAndType 42 25), (0, u "defaultValue"), (0, .methodref 17 44), (0, .nameAndType 45 25), (0, u "help"), (0, .methodref 17 47), (0, .nameAndType 48 25), (0, u "environmentVariable"), (0, .class_ 50), (0, u "com/example/ngazi/ngazi/cli/CommandOptionFromEnvironmentPinLaw"), (2, u "law"), (0, u "(IIII)Z")] 5

def k1m0 : Method := { name := "<init>", desc := "()V", sig := { parameters := [], returnType := none }, accessFlags := 1, code := none }
def k1c1 : Code := { maxStack := 6, maxLocals := 20, code := code, exceptionTable := #[], attributes := #[] }
def k1m1 : Method := { name := "law", desc := "(IIII)Z", sig := { parameters := [.int, .int, .int, .int], returnType := some .boolean }, accessFlags := 9, code := some k1c1 }
/-- com/example/ngazi/ngazi/cli/CommandOptionFromEnvironmentPinLaw -/
def k1 : Class := { plain "com/example/ngazi/ngazi/cli/CommandOptionFromEnvironmentPinLaw" (some 0) with
  accessFlags := 49
  interfaces := #[]
  cf := some (fileOf pool1 49 #[] #[{ accessFlags := 1, nameIndex := 5, descriptorIndex := 6, attributes := #[] }, { accessFlags := 9, nameIndex := 53, descriptorIndex := 54, attributes := #[] }] 49 2 #[] #[])
  fields := #[]
  methods := #[k1m0, k1m1]
  instanceTypes := #[]
  staticTypes := #[]
  resolved := Array.replicate 60 none
  statics := none }

def pool2 : Array CpInfo := pool [(1, .class_ 2), (0, u "java/io/Serializable"), (0, .class_ 4), (0, u "java/lang/Object")] 2

/-- java/io/Serializable -/
def k2 : Class := { plain "java/io/Serializable" (some 0) with
  accessFlags := 1537
  interfaces := #[]
  cf := some (fileOf pool2 1 #[] #[] 1537 3 #[] #[])
  fields := #[]
  methods := #[]
  instanceTypes := #[]
  staticTypes := #[]
  resolved := Array.replicate 7 none
  statics := none }

def pool3 : Array CpInfo := pool [(1, .class_ 2), (0, u "java/lang/Comparable"), (0, .class_ 4), (0, u "java/lang/Object")] 7

/-- java/lang/Comparable -/
def k3 : Class := { plain "java/lang/Comparable" (some 0) with
  accessFlags := 1537
  interfaces := #[]
  cf := some (fileOf pool3 1 #[] #[] 1537 3 #[] #[])
  fields := #[]
  methods := #[]
  instanceTypes := #[]
  staticTypes := #[]
  resolved := Array.replicate 12 none
  statics := none }

def pool4 : Array CpInfo := pool [(2, .class_ 4), (1, u "java/lang/CharSequence"), (42, .class_ 48), (0, u "java/lang/CharSequence$1CodePointIterator"), (10, .class_ 60), (0, u "java/lang/CharSequence$1CharIterator"), (5, .class_ 67), (0, u "java/lang/Object")] 63

/-- java/lang/CharSequence -/
def k4 : Class := { plain "java/lang/CharSequence" (some 0) with
  accessFlags := 1537
  interfaces := #[]
  cf := some (fileOf pool4 2 #[.nestMembers #[47, 59]] #[] 1537 66 #[] #[])
  fields := #[]
  methods := #[]
  instanceTypes := #[]
  staticTypes := #[]
  resolved := Array.replicate 131 none
  statics := none }

def pool5 : Array CpInfo := pool [(1, .class_ 2), (0, u "java/lang/constant/Constable"), (0, .class_ 4), (0, u "java/lang/Object")] 6

/-- java/lang/constant/Constable -/
def k5 : Class := { plain "java/lang/constant/Constable" (some 0) with
  accessFlags := 1537
  interfaces := #[]
  cf := some (fileOf pool5 1 #[] #[] 1537 3 #[] #[])
  fields := #[]
  methods := #[]
  instanceTypes := #[]
  staticTypes := #[]
  resolved := Array.replicate 11 none
  statics := none }

def pool6 : Array CpInfo := pool [(1, .class_ 2), (0, u "java/lang/constant/ConstantDesc"), (0, .class_ 4), (0, u "java/lang/Object")] 32

/-- java/lang/constant/ConstantDesc -/
def k6 : Class := { plain "java/lang/constant/ConstantDesc" (some 0) with
  accessFlags := 1537
  interfaces := #[]
  cf := some (fileOf pool6 1 #[] #[] 1537 3 #[] #[])
  fields := #[]
  methods := #[]
  instanceTypes := #[]
  staticTypes := #[]
  resolved := Array.replicate 37 none
  statics := none }

def pool7 : Array CpInfo := pool [(1, .methodref 2 3), (0, .class_ 4), (0, .nameAndType 5 6), (0, u "java/lang/Object"), (0, u "<init>"), (0, u "()V"), (2, .fieldref 10 11), (0, .class_ 12), (0, .nameAndType 13 14), (0, u "java/lang/String"), (0, u "value"), (0, u "[B"), (0, .fieldref 10 16), (0, .nameAndType 17 18), (0, u "coder"), (0, u "B"), (2, u "hash"), (0, u "I"), (2, u "hashIsZero"), (0, u "Z"), (0, .methodref 10 28), (0, .nameAndType 5 29), (0, u "([CIILjava/lang/Void;)V"), (8, .fieldref 10 39), (0, .nameAndType 40 26), (0, u "COMPACT_STRINGS"), (1, .class_ 44), (1, u "java/lang/StringUTF16"), (0, u "compress"), (1, .methodref 42 48), (0, .nameAndType 49 50), (0, u "coderFromArrayLen"), (0, u "([BI)B"), (2, u "toBytes"), (0, .methodref 55 56), (0, .class_ 57), (0, .nameAndType 58 59), (0, u "java/util/Arrays"), (0, u "copyOfRange"), (0, u "([BII)[B"), (47, .class_ 109), (1, u "java/lang/StringLatin1"), (32, u "()Z"), (34, .methodref 42 178), (0, .nameAndType 45 179), (0, u "([CII)[B"), (13, .class_ 195), (1, u "java/lang/System"), (13, .methodref 10 210), (0, .nameAndType 5 211), (0, u "([BB)V"), (0, .methodref 193 213), (0, .nameAndType 214 215), (0, u "arraycopy"), (0, u "(Ljava/lang/Object;ILjava/lang/Object;II)V"), (118, u "()I"), (0, .methodref 10 336), (0, .nameAndType 17 337), (0, u "()B"), (2, u "()[B"), (28, u "(C)Z"), (119, .methodref 10 490), (0, .nameAndType 5 491), (0, u "(Ljava/lang/AbstractStringBuilder;Ljava/lang/Void;)V"), (1, .nameAndType 494 142), (0, u "isLatin1"), (11, .nameAndType 507 334), (0, u "length"), (24, u "getBytes"), (8, .methodref 107 542), (0, .nameAndType 543 544), (0, u "equals"), (0, u "([B[B)Z"), (4, .methodref 550 506), (0, .class_ 551), (0, u "java/lang/AbstractStringBuilder"), (0, .methodref 550 553), (0, .nameAndType 554 340), (0, u "getValue"), (18, u "(Ljava/lang/Object;)Z"), (1, .class_ 576), (0, u "java/lang/CharSequence"), (22, u "CASE_INSENSITIVE_ORDER"), (0, u "Ljava/util/Comparator;"), (181, u "valueOf"), (0, u "(C)Ljava/lang/String;"), (37, u "([BIB)V"), (188, u "([C)V"), (4, .methodref 107 1016), (0, .nameAndType 1017 369), (0, u "canEncode"), (0, .methodref 107 1019), (0, .nameAndType 53 1020), (0, u "(C)[B"), (26, .methodref 550 493), (53, u "serialPersistentFields"), (0, u "[Ljava/io/ObjectStreamField;"), (0, .class_ 1104), (0, u "java/lang/String$CaseInsensitiveComparator"), (1, .class_ 1107), (0, u "java/io/Serializable"), (0, .class_ 1109), (0, u "java/lang/Comparable"), (0, .class_ 1111), (0, u "java/lang/constant/Constable"), (0, .class_ 1113), (0, u "java/lang/constant/ConstantDesc"), (2, u "serialVersionUID"), (0, u "J"), (3, u "REPL"), (0, u "C"), (2, u "LATIN1"), (1, u "UTF16"), (105, u "(Ljava/lang/StringBuilder;)V")] 217

def k7m0 : Method := { name := "<init>", desc := "()V", sig := { parameters := [], returnType := none }, accessFlags := 1, code := none }
def k7c1 : Code := { maxStack := 5, maxLocals := 2, code := jdk_42_method_3_code, exceptionTable := #[], attributes := #[] }
def k7m1 : Method := { name := "<init>", desc := "([C)V", sig := { parameters := [(.array .char)], returnType := none }, accessFlags := 1, code := some k7c1 }
def k7c2 : Code := { maxStack := 3, maxLocals := 2, code := jdk_42_method_53_code, exceptionTable := #[], attributes := #[] }
def k7m2 : Method := { name := "<init>", desc := "(Ljava/lang/StringBuilder;)V", sig := { parameters := [(.object "java/lang/StringBuilder")], returnType := none }, accessFlags := 1, code := some k7c2 }
def k7c3 : Code := { maxStack := 2, maxLocals := 1, code := jdk_42_method_54_code, exceptionTable := #[], attributes := #[] }
def k7m3 : Method := { name := "length", desc := "()I", sig := { parameters := [], returnType := some .int }, accessFlags := 1, code := some k7c3 }
def k7c4 : Code := { maxStack := 2, maxLocals := 3, code := jdk_42_method_66_code, exceptionTable := #[], attributes := #[] }
def k7m4 : Method := { name := "equals", desc := "(Ljava/lang/Object;)Z", sig := { parameters := [(.object "java/lang/Object")], returnType := some .boolean }, accessFlags := 1, code := some k7c4 }
def k7c5 : Code := { maxStack := 4, maxLocals := 1, code := jdk_42_method_139_code, exceptionTable := #[], attributes := #[] }
def k7m5 : Method := { name := "valueOf", desc := "(C)Ljava/lang/String;", sig := { parameters := [.char], returnType := some (.object "java/lang/String") }, accessFlags := 9, code := some k7c5 }
def k7c6 : Code := { maxStack := 5, maxLocals := 4, code := jdk_42_method_147_code, exceptionTable := #[], attributes := #[] }
def k7m6 : Method := { name := "getBytes", desc := "([BIB)V", sig := { parameters := [(.array .byte), .int, .byte], returnType := none }, accessFlags := 0, code := some k7c6 }
def k7c7 : Code := { maxStack := 4, maxLocals := 6, code := jdk_42_method_149_code, exceptionTable := #[], attributes := #[] }
def k7m7 : Method := { name := "<init>", desc := "([CIILjava/lang/Void;)V", sig := { parameters := [(.array .char), .int, .int, (.object "java/lang/Void")], returnType := none }, accessFlags := 2, code := some k7c7 }
def k7c8 : Code := { maxStack := 5, maxLocals := 5, code := jdk_42_method_150_code, exceptionTable := #[], attributes := #[] }
def k7m8 : Method := { name := "<init>", desc := "(Ljava/lang/AbstractStringBuilder;Ljava/lang/Void;)V", sig := { parameters := [(.object "java/lang/AbstractStringBuilder"), (.object "java/lang/Void")], returnType := none }, accessFlags := 0, code := some k7c8 }
def k7c9 : Code := { maxStack := 2, maxLocals := 3, code := jdk_42_method_151_code, exceptionTable := #[], attributes := #[] }
def k7m9 : Method := { name := "<init>", desc := "([BB)V", sig := { parameters := [(.array .byte), .byte], returnType := none }, accessFlags := 0, code := some k7c9 }
def k7c10 : Code := { maxStack := 1, maxLocals := 1, code := jdk_42_method_152_code, exceptionTable := #[], attributes := #[] }
def k7m10 : Method := { name := "coder", desc := "()B", sig := { parameters := [], returnType := some .byte }, accessFlags := 0, code := some k7c10 }
/-- java/lang/String -/
def k7 : Class := { plain "java/lang/String" (some 0) with
  accessFlags := 49
  interfaces := #[2, 3, 4, 5, 6]
  cf := some (fileOf pool7 10 #[.nestMembers #[1103]] #[{ accessFlags := 1, nameIndex := 5, descriptorIndex := 6, attributes := #[] }, { accessFlags := 1, nameIndex := 5, descriptorIndex := 1010, attributes := #[] }, { accessFlags := 1, nameIndex := 5, descriptorIndex := 1233, attributes := #[] }, { accessFlags := 1, nameIndex := 507, descriptorIndex := 334, attributes := #[] }, { accessFlags := 1, nameIndex := 543, descriptorIndex := 573, attributes := #[] }, { accessFlags := 9, nameIndex := 782, descriptorIndex := 783, attributes := #[] }, { accessFlags := 0, nameIndex := 532, descriptorIndex := 821, attributes := #[] }, { accessFlags := 2, nameIndex := 5, descriptorIndex := 29, attributes := #[] }, { accessFlags := 0, nameIndex := 5, descriptorIndex := 491, attributes := #[] }, { accessFlags := 0, nameIndex := 5, descriptorIndex := 211, attributes := #[] }, { accessFlags := 0, nameIndex := 17, descriptorIndex := 337, attributes := #[] }] 49 2 #[1106, 1108, 575, 1110, 1112] #[{ accessFlags := 18, nameIndex := 13, descriptorIndex := 14, attributes := #[] }, { accessFlags := 18, nameIndex := 17, descriptorIndex := 18, attributes := #[] }, { accessFlags := 2, nameIndex := 21, descriptorIndex := 22, attributes := #[] }, { accessFlags := 2, nameIndex := 25, descriptorIndex := 26, attributes := #[] }, { accessFlags := 26, nameIndex := 1116, descriptorIndex := 1117, attributes := #[] }, { accessFlags := 24, nameIndex := 40, descriptorIndex := 26, attributes := #[] }, { accessFlags := 26, nameIndex := 1101, descriptorIndex := 1102, attributes := #[] }, { accessFlags := 26, nameIndex := 1121, descriptorIndex := 1122, attributes := #[] }, { accessFlags := 25, nameIndex := 599, descriptorIndex := 600, attributes := #[] }, { accessFlags := 24, nameIndex := 1125, descriptorIndex := 18, attributes := #[] }, { accessFlags := 24, nameIndex := 1127, descriptorIndex := 18, attributes := #[] }])
  fields := #[{ name := "value", type := (.array .byte), accessFlags := 18, slot := 0, constantValue := 0 }, { name := "coder", type := .byte, accessFlags := 18, slot := 1, constantValue := 0 }, { name := "hash", type := .int, accessFlags := 2, slot := 2, constantValue := 0 }, { name := "hashIsZero", type := .boolean, accessFlags := 2, slot := 3, constantValue := 0 }, { name := "serialVersionUID", type := .long, accessFlags := 26, slot := 0, constantValue := 0 }, { name := "COMPACT_STRINGS", type := .boolean, accessFlags := 24, slot := 1, constantValue := 0 }, { name := "serialPersistentFields", type := (.array (.object "java/io/ObjectStreamField")), accessFlags := 26, slot := 2, constantValue := 0 }, { name := "REPL", type := .char, accessFlags := 26, slot := 3, constantValue := 0 }, { name := "CASE_INSENSITIVE_ORDER", type := (.object "java/util/Comparator"), accessFlags := 25, slot := 4, constantValue := 0 }, { name := "LATIN1", type := .byte, accessFlags := 24, slot := 5, constantValue := 0 }, { name := "UTF16", type := .byte, accessFlags := 24, slot := 6, constantValue := 0 }]
  methods := #[k7m0, k7m1, k7m2, k7m3, k7m4, k7m5, k7m6, k7m7, k7m8, k7m9, k7m10]
  instanceTypes := #[(.array .byte), .byte, .int, .boolean]
  staticTypes := #[.long, .boolean, (.array (.object "java/io/ObjectStreamField")), .char, (.object "java/util/Comparator"), .byte, .byte]
  resolved := Array.replicate 1451 none
  statics := some 0 }

def pool8 : Array CpInfo := pool [(6, .class_ 8), (1, u "java/lang/Object"), (0, u "<init>"), (0, u "()V"), (1, .class_ 14), (1, u "java/lang/StringUTF16"), (31, u "$assertionsDisabled"), (0, u "Z"), (13, u "HI_BYTE_SHIFT"), (0, u "I"), (2, u "LO_BYTE_SHIFT"), (49, .methodref 12 116), (0, .nameAndType 117 118), (0, u "compress"), (0, u "([CI[BII)I"), (3, u "([CII)[B"), (138, u "coderFromArrayLen"), (0, u "([BI)B"), (106, .class_ 371), (1, u "java/lang/StringUTF16$LinesSpliterator"), (58, u "MAX_LENGTH"), (196, .class_ 628), (0, u "java/lang/StringUTF16$CodePointsSpliterator"), (0, .class_ 630), (0, u "java/lang/StringUTF16$CharsSpliterator")] 4

def k8m0 : Method := { name := "<init>", desc := "()V", sig := { parameters := [], returnType := none }, accessFlags := 0, code := none }
def k8c1 : Code := { maxStack := 2, maxLocals := 2, code := jdk_52_method_15_code, exceptionTable := #[], attributes := #[] }
def k8m1 : Method := { name := "coderFromArrayLen", desc := "([BI)B", sig := { parameters := [(.array .byte), .int], returnType := some .byte }, accessFlags := 8, code := some k8c1 }
def k8c2 : Code := { maxStack := 5, maxLocals := 6, code := jdk_52_method_16_code, exceptionTable := #[], attributes := #[] }
def k8m2 : Method := { name := "compress", desc := "([CII)[B", sig := { parameters := [(.array .char), .int, .int], returnType := some (.array .byte) }, accessFlags := 9, code := some k8c2 }
def k8c3 : Code := { maxStack := 3, maxLocals := 7, code := jdk_52_method_21_code, exceptionTable := #[], attributes := #[] }
def k8m3 : Method := { name := "compress", desc := "([CI[BII)I", sig := { parameters := [(.array .char), .int, (.array .byte), .int, .int], returnType := some .int }, accessFlags := 9, code := some k8c3 }
/-- java/lang/StringUTF16 -/
def k8 : Class := { plain "java/lang/StringUTF16" (some 0) with
  accessFlags := 48
  interfaces := #[]
  cf := some (fileOf pool8 12 #[.nestMembers #[627, 629, 369]] #[{ accessFlags := 0, nameIndex := 9, descriptorIndex := 10, attributes := #[] }, { accessFlags := 8, nameIndex := 261, descriptorIndex := 262, attributes := #[] }, { accessFlags := 9, nameIndex := 117, descriptorIndex := 122, attributes := #[] }, { accessFlags := 9, nameIndex := 117, descriptorIndex := 118, attributes := #[] }] 48 6 #[] #[{ accessFlags := 26, nameIndex := 61, descriptorIndex := 62, attributes := #[] }, { accessFlags := 26, nameIndex := 65, descriptorIndex := 62, attributes := #[] }, { accessFlags := 24, nameIndex := 430, descriptorIndex := 62, attributes := #[] }, { accessFlags := 4120, nameIndex := 46, descriptorIndex := 47, attributes := #[] }])
  fields := #[{ name := "HI_BYTE_SHIFT", type := .int, accessFlags := 26, slot := 0, constantValue := 0 }, { name := "LO_BYTE_SHIFT", type := .int, accessFlags := 26, slot := 1, constantValue := 0 }, { name := "MAX_LENGTH", type := .int, accessFlags := 24, slot := 2, constantValue := 0 }, { name := "$assertionsDisabled", type := .boolean, accessFlags := 4120, slot := 3, constantValue := 0 }]
  methods := #[k8m0, k8m1, k8m2, k8m3]
  instanceTypes := #[]
  staticTypes := #[.int, .int, .int, .boolean]
  resolved := Array.replicate 635 none
  statics := none }

def pool9 : Array CpInfo := pool [(4, .class_ 6), (1, u "java/lang/Object"), (0, u "<init>"), (0, u "()V"), (5, .class_ 16), (1, u "java/lang/StringLatin1"), (73, u "canEncode"), (14, u "(C)Z"), (15, u "$assertionsDisabled"), (0, u "Z"), (98, .class_ 223), (1, u "java/lang/StringLatin1$LinesSpliterator"), (57, u "equals"), (0, u "([B[B)Z"), (97, u "toBytes"), (1, u "(C)[B"), (7, .class_ 391), (0, u "java/lang/StringLatin1$CharsSpliterator")] 3

def k9m0 : Method := { name := "<init>", desc := "()V", sig := { parameters := [], returnType := none }, accessFlags := 0, code := none }
def k9c1 : Code := { maxStack := 2, maxLocals := 1, code := jdk_43_method_3_code, exceptionTable := #[], attributes := #[] }
def k9m1 : Method := { name := "canEncode", desc := "(C)Z", sig := { parameters := [.char], returnType := some .boolean }, accessFlags := 9, code := some k9c1 }
def k9c2 : Code := { maxStack := 3, maxLocals := 3, code := jdk_43_method_13_code, exceptionTable := #[], attributes := #[] }
def k9m2 : Method := { name := "equals", desc := "([B[B)Z", sig := { parameters := [(.array .byte), (.array .byte)], returnType := some .boolean }, accessFlags := 9, code := some k9c2 }
def k9c3 : Code := { maxStack := 4, maxLocals := 1, code := jdk_43_method_46_code, exceptionTable := #[], attributes := #[] }
def k9m3 : Method := { name := "toBytes", desc := "(C)[B", sig := { parameters := [.char], returnType := some (.array .byte) }, accessFlags := 9, code := some k9c3 }
/-- java/lang/StringLatin1 -/
def k9 : Class := { plain "java/lang/StringLatin1" (some 0) with
  accessFlags := 48
  interfaces := #[]
  cf := some (fileOf pool9 14 #[.nestMembers #[390, 221]] #[{ accessFlags := 0, nameIndex := 7, descriptorIndex := 8, attributes := #[] }, { accessFlags := 9, nameIndex := 90, descriptorIndex := 105, attributes := #[] }, { accessFlags := 9, nameIndex := 281, descriptorIndex := 282, attributes := #[] }, { accessFlags := 9, nameIndex := 380, descriptorIndex := 382, attributes := #[] }] 48 4 #[] #[{ accessFlags := 4120, nameIndex := 121, descriptorIndex := 122, attributes := #[] }])
  fields := #[{ name := "$assertionsDisabled", type := .boolean, accessFlags := 4120, slot := 0, constantValue := 0 }]
  methods := #[k9m0, k9m1, k9m2, k9m3]
  instanceTypes := #[]
  staticTypes := #[.boolean]
  resolved := Array.replicate 395 none
  statics := none }

def pool10 : Array CpInfo := pool [(1, .methodref 2 3), (0, .class_ 4), (0, .nameAndType 5 6), (0, u "java/lang/Object"), (0, u "<init>"), (0, u "()V"), (0, .class_ 8), (0, u "java/lang/Record")] 13

def k10c0 : Code := { maxStack := 1, maxLocals := 1, code := jdk_30_method_1_code, exceptionTable := #[], attributes := #[] }
def k10m0 : Method := { name := "<init>", desc := "()V", sig := { parameters := [], returnType := none }, accessFlags := 4, code := some k10c0 }
/-- java/lang/Record -/
def k10 : Class := { plain "java/lang/Record" (some 0) with
  accessFlags := 1057
  interfaces := #[]
  cf := some (fileOf pool10 7 #[] #[{ accessFlags := 4, nameIndex := 5, descriptorIndex := 6, attributes := #[] }] 1057 2 #[] #[])
  fields := #[]
  methods := #[k10m0]
  instanceTypes := #[]
  staticTypes := #[]
  resolved := Array.replicate 22 none
  statics := none }

def pool11 : Array CpInfo := pool [(1, .methodref 2 3), (0, .class_ 4), (0, .nameAndType 5 6), (0, u "java/lang/Record"), (0, u "<init>"), (0, u "()V"), (0, .string 8), (0, u "name"), (0, .methodref 10 11), (0, .class_ 12), (0, .nameAndType 13 14), (0, u "java/util/Objects"), (0, u "requireNonNull"), (0, u "(Ljava/lang/Object;Ljava/lang/String;)Ljava/lang/Object;"), (0, .string 16), (0, u "label"), (0, .string 18), (0, u "description"), (0, .fieldref 20 21), (0, .class_ 22), (0, .nameAndType 8 23), (0, u "com/example/ngazi/ngazi/cli/CommandOption"), (0, u "Ljava/lang/String;"), (0, .fieldref 20 25), (0, .nameAndType 16 23), (0, .fieldref 20 27), (0, .nameAndType 18 23), (0, .fieldref 20 29), (0, .nameAndType 30 31), (0, u "required"), (0, u "Z"), (0, .fieldref 20 33), (0, .nameAndType 34 23), (0, u "environmentVariable"), (0, .fieldref 20 36), (0, .nameAndType 37 23), (0, u "defaultValue"), (0, .methodref 20 39), (0, .nameAndType 5 40), (0, u "(Ljava/lang/String;Ljava/lang/String;Ljava/lang/String;ZLjava/lang/String;Ljava/lang/String;)V"), (0, .class_ 42), (0, u "java/lang/StringBuilder"), (0, .methodref 41 3), (0, .methodref 41 45), (0, .nameAndType 46 47), (0, u "append"), (0, u "(Ljava/lang/String;)Ljava/lang/StringBuilder;"), (2, .methodref 41 51), (0, .nameAndType 52 53), (0, u "toString"), (0, u "()Ljava/lang/String;"), (0, .string 55), (0, u " Default: $"), (0, .string 57), (0, u "."), (18, u "fromEnvironment"), (0, u "(Ljava/lang/String;Ljava/lang/String;Ljava/lang/String;Ljava/lang/String;)Lcom/example/ngazi/ngazi/cli/CommandOption;"), (2, u "help"), (5, u "()Z")] 25

def k11c0 : Code := { maxStack := 2, maxLocals := 7, code := prog_5_method_1_code, exceptionTable := #[], attributes := #[] }
def k11m0 : Method := { name := "<init>", desc := "(Ljava/lang/String;Ljava/lang/String;Ljava/lang/String;ZLjava/lang/String;Ljava/lang/String;)V", sig := { parameters := [(.object "java/lang/String"), (.object "java/lang/String"), (.object "java/lang/String"), .boolean, (.object "java/lang/String"), (.object "java/lang/String")], returnType := none }, accessFlags := 0, code := some k11c0 }
def k11c1 : Code := { maxStack := 8, maxLocals := 4, code := prog_5_method_4_code, exceptionTable := #[], attributes := #[] }
def k11m1 : Method := { name := "fromEnvironment", desc := "(Ljava/lang/String;Ljava/lang/String;Ljava/lang/String;Ljava/lang/String;)Lcom/example/ngazi/ngazi/cli/CommandOption;", sig := { parameters := [(.object "java/lang/String"), (.object "java/lang/String"), (.object "java/lang/String"), (.object "java/lang/String")], returnType := some (.object "com/example/ngazi/ngazi/cli/CommandOption") }, accessFlags := 8, code := some k11c1 }
def k11c2 : Code := { maxStack := 2, maxLocals := 2, code := prog_5_method_7_code, exceptionTable := #[], attributes := #[] }
def k11m2 : Method := { name := "help", desc := "()Ljava/lang/String;", sig := { parameters := [], returnType := some (.object "java/lang/String") }, accessFlags := 0, code := some k11c2 }
def k11c3 : Code := { maxStack := 1, maxLocals := 1, code := prog_5_method_11_code, exceptionTable := #[], attributes := #[] }
def k11m3 : Method := { name := "name", desc := "()Ljava/lang/String;", sig := { parameters := [], returnType := some (.object "java/lang/String") }, accessFlags := 1, code := some k11c3 }
def k11c4 : Code := { maxStack := 1, maxLocals := 1, code := prog_5_method_12_code, exceptionTable := #[], attributes := #[] }
def k11m4 : Method := { name := "label", desc := "()Ljava/lang/String;", sig := { parameters := [], returnType := some (.object "java/lang/String") }, accessFlags := 1, code := some k11c4 }
def k11c5 : Code := { maxStack := 1, maxLocals := 1, code := prog_5_method_13_code, exceptionTable := #[], attributes := #[] }
def k11m5 : Method := { name := "description", desc := "()Ljava/lang/String;", sig := { parameters := [], returnType := some (.object "java/lang/String") }, accessFlags := 1, code := some k11c5 }
def k11c6 : Code := { maxStack := 1, maxLocals := 1, code := prog_5_method_14_code, exceptionTable := #[], attributes := #[] }
def k11m6 : Method := { name := "required", desc := "()Z", sig := { parameters := [], returnType := some .boolean }, accessFlags := 1, code := some k11c6 }
def k11c7 : Code := { maxStack := 1, maxLocals := 1, code := prog_5_method_15_code, exceptionTable := #[], attributes := #[] }
def k11m7 : Method := { name := "environmentVariable", desc := "()Ljava/lang/String;", sig := { parameters := [], returnType := some (.object "java/lang/String") }, accessFlags := 1, code := some k11c7 }
def k11c8 : Code := { maxStack := 1, maxLocals := 1, code := prog_5_method_16_code, exceptionTable := #[], attributes := #[] }
def k11m8 : Method := { name := "defaultValue", desc := "()Ljava/lang/String;", sig := { parameters := [], returnType := some (.object "java/lang/String") }, accessFlags := 1, code := some k11c8 }
/-- com/example/ngazi/ngazi/cli/CommandOption -/
def k11 : Class := { plain "com/example/ngazi/ngazi/cli/CommandOption" (some 10) with
  accessFlags := 48
  interfaces := #[]
  cf := some (fileOf pool11 20 #[] #[{ accessFlags := 0, nameIndex := 5, descriptorIndex := 40, attributes := #[] }, { accessFlags := 8, nameIndex := 76, descriptorIndex := 77, attributes := #[] }, { accessFlags := 0, nameIndex := 80, descriptorIndex := 53, attributes := #[] }, { accessFlags := 1, nameIndex := 8, descriptorIndex := 53, attributes := #[] }, { accessFlags := 1, nameIndex := 16, descriptorIndex := 53, attributes := #[] }, { accessFlags := 1, nameIndex := 18, descriptorIndex := 53, attributes := #[] }, { accessFlags := 1, nameIndex := 30, descriptorIndex := 86, attributes := #[] }, { accessFlags := 1, nameIndex := 34, descriptorIndex := 53, attributes := #[] }, { accessFlags := 1, nameIndex := 37, descriptorIndex := 53, attributes := #[] }] 48 2 #[] #[{ accessFlags := 18, nameIndex := 8, descriptorIndex := 23, attributes := #[] }, { accessFlags := 18, nameIndex := 16, descriptorIndex := 23, attributes := #[] }, { accessFlags := 18, nameIndex := 18, descriptorIndex := 23, attributes := #[] }, { accessFlags := 18, nameIndex := 30, descriptorIndex := 31, attributes := #[] }, { accessFlags := 18, nameIndex := 34, descriptorIndex := 23, attributes := #[] }, { accessFlags := 18, nameIndex := 37, descriptorIndex := 23, attributes := #[] }])
  fields := #[{ name := "name", type := (.object "java/lang/String"), accessFlags := 18, slot := 0, constantValue := 0 }, { name := "label", type := (.object "java/lang/String"), accessFlags := 18, slot := 1, constantValue := 0 }, { name := "description", type := (.object "java/lang/String"), accessFlags := 18, slot := 2, constantValue := 0 }, { name := "required", type := .boolean, accessFlags := 18, slot := 3, constantValue := 0 }, { name := "environmentVariable", type := (.object "java/lang/String"), accessFlags := 18, slot := 4, constantValue := 0 }, { name := "defaultValue", type := (.object "java/lang/String"), accessFlags := 18, slot := 5, constantValue := 0 }]
  methods := #[k11m0, k11m1, k11m2, k11m3, k11m4, k11m5, k11m6, k11m7, k11m8]
  instanceTypes := #[(.object "java/lang/String"), (.object "java/lang/String"), (.object "java/lang/String"), .boolean, (.object "java/lang/String"), (.object "java/lang/String")]
  staticTypes := #[]
  resolved := Array.replicate 112 none
  statics := none }

def pool12 : Array CpInfo := pool [(2, .class_ 4), (1, u "java/lang/Object"), (0, u "<init>"), (0, u "()V"), (35, .class_ 44), (1, u "java/util/Objects"), (0, u "requireNonNull"), (48, u "(Ljava/lang/Object;Ljava/lang/String;)Ljava/lang/Object;")] 89

def k12m0 : Method := { name := "<init>", desc := "()V", sig := { parameters := [], returnType := none }, accessFlags := 2, code := none }
def k12c1 : Code := { maxStack := 3, maxLocals := 2, code := jdk_31_method_11_code, exceptionTable := #[], attributes := #[] }
def k12m1 : Method := { name := "requireNonNull", desc := "(Ljava/lang/Object;Ljava/lang/String;)Ljava/lang/Object;", sig := { parameters := [(.object "java/lang/Object"), (.object "java/lang/String")], returnType := some (.object "java/lang/Object") }, accessFlags := 9, code := some k12c1 }
/-- java/util/Objects -/
def k12 : Class := { plain "java/util/Objects" (some 0) with
  accessFlags := 49
  interfaces := #[]
  cf := some (fileOf pool12 42 #[] #[{ accessFlags := 2, nameIndex := 5, descriptorIndex := 6, attributes := #[] }, { accessFlags := 9, nameIndex := 45, descriptorIndex := 94, attributes := #[] }] 49 2 #[] #[])
  fields := #[]
  methods := #[k12m0, k12m1]
  instanceTypes := #[]
  staticTypes := #[]
  resolved := Array.replicate 184 none
  statics := none }

def pool13 : Array CpInfo := pool [(1, .class_ 2), (0, u "java/lang/Appendable"), (0, .class_ 4), (0, u "java/lang/Object")] 9

/-- java/lang/Appendable -/
def k13 : Class := { plain "java/lang/Appendable" (some 0) with
  accessFlags := 1537
  interfaces := #[]
  cf := some (fileOf pool13 1 #[] #[] 1537 3 #[] #[])
  fields := #[]
  methods := #[]
  instanceTypes := #[]
  staticTypes := #[]
  resolved := Array.replicate 14 none
  statics := none }

def pool14 : Array CpInfo := pool [(1, .class_ 2), (0, u "java/lang/String"), (0, .methodref 4 5), (0, .class_ 6), (0, .nameAndType 7 8), (0, u "java/lang/Object"), (0, u "<init>"), (0, u "()V"), (1, .class_ 12), (1, u "java/lang/AbstractStringBuilder"), (0, u "EMPTYVALUE"), (0, u "[B"), (0, .fieldref 10 16), (0, .nameAndType 17 14), (0, u "value"), (0, .fieldref 1 19), (0, .nameAndType 20 21), (0, u "COMPACT_STRINGS"), (0, u "Z"), (0, .fieldref 10 23), (0, .nameAndType 24 25), (0, u "coder"), (0, u "B"), (6, .methodref 1 33), (0, .nameAndType 34 35), (0, u "length"), (0, u "()I"), (4, .methodref 1 41), (0, .nameAndType 24 42), (0, u "()B"), (2, u "append"), (0, u "(Ljava/lang/String;)Ljava/lang/AbstractStringBuilder;"), (1, .class_ 49), (0, u "java/lang/CharSequence"), (19, u "(Ljava/lang/String;)V"), (5, u "maybeLatin1"), (3, .fieldref 10 80), (0, .nameAndType 81 82), (0, u "count"), (0, u "I"), (2, u "isLatin1"), (0, u "()Z"), (13, .methodref 10 101), (0, .nameAndType 102 103), (0, u "ensureCapacityInternal"), (0, u "(I)V"), (104, .methodref 10 209), (0, .nameAndType 210 211), (0, u "putStringAt"), (0, u "(ILjava/lang/String;)V"), (5, u "inflateIfNeededFor"), (2, .nameAndType 221 222), (0, u "getBytes"), (0, u "([BIB)V"), (174, .methodref 10 398), (0, .nameAndType 217 69), (0, .methodref 1 220), (3, u "()[B"), (40, .class_ 445), (0, u "java/lang/Appendable"), (106, u "getValue")] 56

def k14m0 : Method := { name := "<init>", desc := "()V", sig := { parameters := [], returnType := none }, accessFlags := 0, code := none }
def k14c1 : Code := { maxStack := 2, maxLocals := 2, code := jdk_68_method_2_code, exceptionTable := #[], attributes := #[] }
def k14m1 : Method := { name := "<init>", desc := "(I)V", sig := { parameters := [.int], returnType := none }, accessFlags := 0, code := some k14c1 }
def k14c2 : Code := { maxStack := 1, maxLocals := 1, code := jdk_68_method_6_code, exceptionTable := #[], attributes := #[] }
def k14m2 : Method := { name := "length", desc := "()I", sig := { parameters := [], returnType := some .int }, accessFlags := 1, code := some k14c2 }
def k14c3 : Code := { maxStack := 4, maxLocals := 3, code := jdk_68_method_9_code, exceptionTable := #[], attributes := #[] }
def k14m3 : Method := { name := "ensureCapacityInternal", desc := "(I)V", sig := { parameters := [.int], returnType := none }, accessFlags := 2, code := some k14c3 }
def k14c4 : Code := { maxStack := 3, maxLocals := 3, code := jdk_68_method_22_code, exceptionTable := #[], attributes := #[] }
def k14m4 : Method := { name := "append", desc := "(Ljava/lang/String;)Ljava/lang/AbstractStringBuilder;", sig := { parameters := [(.object "java/lang/String")], returnType := some (.object "java/lang/AbstractStringBuilder") }, accessFlags := 1, code := some k14c4 }
def k14c5 : Code := { maxStack := 1, maxLocals := 1, code := jdk_68_method_64_code, exceptionTable := #[], attributes := #[] }
def k14m5 : Method := { name := "getValue", desc := "()[B", sig := { parameters := [], returnType := some (.array .byte) }, accessFlags := 16, code := some k14c5 }
def k14c6 : Code := { maxStack := 1, maxLocals := 1, code := jdk_68_method_68_code, exceptionTable := #[], attributes := #[] }
def k14m6 : Method := { name := "isLatin1", desc := "()Z", sig := { parameters := [], returnType := some .boolean }, accessFlags := 16, code := some k14c6 }
def k14c7 : Code := { maxStack := 2, maxLocals := 2, code := jdk_68_method_71_code, exceptionTable := #[], attributes := #[] }
def k14m7 : Method := { name := "inflateIfNeededFor", desc := "(Ljava/lang/String;)V", sig := { parameters := [(.object "java/lang/String")], returnType := none }, accessFlags := 2, code := some k14c7 }
def k14c8 : Code := { maxStack := 4, maxLocals := 3, code := jdk_68_method_73_code, exceptionTable := #[], attributes := #[] }
def k14m8 : Method := { name := "putStringAt", desc := "(ILjava/lang/String;)V", sig := { parameters := [.int, (.object "java/lang/String")], returnType := none }, accessFlags := 2, code := some k14c8 }
/-- java/lang/AbstractStringBuilder -/
def k14 : Class := { plain "java/lang/AbstractStringBuilder" (some 0) with
  accessFlags := 1056
  interfaces := #[13, 4]
  cf := some (fileOf pool14 10 #[] #[{ accessFlags := 0, nameIndex := 7, descriptorIndex := 8, attributes := #[] }, { accessFlags := 0, nameIndex := 7, descriptorIndex := 103, attributes := #[] }, { accessFlags := 1, nameIndex := 34, descriptorIndex := 35, attributes := #[] }, { accessFlags := 2, nameIndex := 102, descriptorIndex := 103, attributes := #[] }, { accessFlags := 1, nameIndex := 45, descriptorIndex := 46, attributes := #[] }, { accessFlags := 16, nameIndex := 552, descriptorIndex := 403, attributes := #[] }, { accessFlags := 16, nameIndex := 85, descriptorIndex := 86, attributes := #[] }, { accessFlags := 2, nameIndex := 217, descriptorIndex := 69, attributes := #[] }, { accessFlags := 2, nameIndex := 210, descriptorIndex := 211, attributes := #[] }] 1056 4 #[444, 48] #[{ accessFlags := 0, nameIndex := 17, descriptorIndex := 14, attributes := #[] }, { accessFlags := 0, nameIndex := 24, descriptorIndex := 25, attributes := #[] }, { accessFlags := 0, nameIndex := 75, descriptorIndex := 21, attributes := #[] }, { accessFlags := 0, nameIndex := 81, descriptorIndex := 82, attributes := #[] }, { accessFlags := 26, nameIndex := 13, descriptorIndex := 14, attributes := #[] }])
  fields := #[{ name := "value", type := (.array .byte), accessFlags := 0, slot := 0, constantValue := 0 }, { name := "coder", type := .byte, accessFlags := 0, slot := 1, constantValue := 0 }, { name := "maybeLatin1", type := .boolean, accessFlags := 0, slot := 2, constantValue := 0 }, { name := "count", type := .int, accessFlags := 0, slot := 3, constantValue := 0 }, { name := "EMPTYVALUE", type := (.array .byte), accessFlags := 26, slot := 0, constantValue := 0 }]
  methods := #[k14m0, k14m1, k14m2, k14m3, k14m4, k14m5, k14m6, k14m7, k14m8]
  instanceTypes := #[(.array .byte), .byte, .boolean, .int]
  staticTypes := #[(.array .byte)]
  resolved := Array.replicate 609 none
  statics := none }

def pool15 : Array CpInfo := pool [(1, .methodref 2 3), (0, .class_ 4), (0, .nameAndType 5 6), (0, u "java/lang/AbstractStringBuilder"), (0, u "<init>"), (0, u "(I)V"), (11, .class_ 20), (1, u "java/lang/String"), (3, .class_ 26), (1, u "java/lang/StringBuilder"), (0, u "append"), (0, u "(Ljava/lang/String;)Ljava/lang/StringBuilder;"), (0, .methodref 2 30), (0, .nameAndType 27 31), (0, u "(Ljava/lang/String;)Ljava/lang/AbstractStringBuilder;"), (105, .methodref 18 138), (0, .nameAndType 5 139), (0, u "(Ljava/lang/StringBuilder;)V"), (5, u "()V"), (10, u "()I"), (186, .methodref 2 344), (0, .nameAndType 345 156), (0, u "length"), (3, .class_ 350), (0, u "java/lang/Appendable"), (0, .class_ 352), (0, u "java/io/Serializable"), (0, .class_ 354), (0, u "java/lang/Comparable"), (0, .class_ 356), (0, u "java/lang/CharSequence"), (0, u "serialVersionUID"), (0, u "J"), (40, u "toString"), (0, u "()Ljava/lang/String;")] 21

def k15c0 : Code := { maxStack := 2, maxLocals := 1, code := jdk_67_method_1_code, exceptionTable := #[], attributes := #[] }
def k15m0 : Method := { name := "<init>", desc := "()V", sig := { parameters := [], returnType := none }, accessFlags := 1, code := some k15c0 }
def k15c1 : Code := { maxStack := 2, maxLocals := 2, code := jdk_67_method_7_code, exceptionTable := #[], attributes := #[] }
def k15m1 : Method := { name := "append", desc := "(Ljava/lang/String;)Ljava/lang/StringBuilder;", sig := { parameters := [(.object "java/lang/String")], returnType := some (.object "java/lang/StringBuilder") }, accessFlags := 1, code := some k15c1 }
def k15c2 : Code := { maxStack := 3, maxLocals := 1, code := jdk_67_method_42_code, exceptionTable := #[], attributes := #[] }
def k15m2 : Method := { name := "toString", desc := "()Ljava/lang/String;", sig := { parameters := [], returnType := some (.object "java/lang/String") }, accessFlags := 1, code := some k15c2 }
def k15c3 : Code := { maxStack := 1, maxLocals := 1, code := jdk_67_method_93_code, exceptionTable := #[], attributes := #[] }
def k15m3 : Method := { name := "length", desc := "()I", sig := { parameters := [], returnType := some .int }, accessFlags := 4161, code := some k15c3 }
/-- java/lang/StringBuilder -/
def k15 : Class := { plain "java/lang/StringBuilder" (some 14) with
  accessFlags := 49
  interfaces := #[13, 2, 3, 4]
  cf := some (fileOf pool15 24 #[] #[{ accessFlags := 1, nameIndex := 5, descriptorIndex := 145, attributes := #[] }, { accessFlags := 1, nameIndex := 27, descriptorIndex := 28, attributes := #[] }, { accessFlags := 1, nameIndex := 399, descriptorIndex := 400, attributes := #[] }, { accessFlags := 4161, nameIndex := 345, descriptorIndex := 156, attributes := #[] }] 49 2 #[349, 351, 353, 355] #[{ accessFlags := 24, nameIndex := 357, descriptorIndex := 358, attributes := #[] }])
  fields := #[{ name := "serialVersionUID", type := .long, accessFlags := 24, slot := 0, constantValue := 0 }]
  methods := #[k15m0, k15m1, k15m2, k15m3]
  instanceTypes := #[(.array .byte), .byte, .boolean, .int]
  staticTypes := #[.long]
  resolved := Array.replicate 422 none
  statics := none }

def pool16 : Array CpInfo := pool [(2, .class_ 4), (1, u "java/lang/Object"), (0, u "<init>"), (0, u "()V"), (1, .class_ 10), (1, u "java/lang/System"), (0, u "allowSecurityManager"), (0, u "I"), (16, u "cons"), (0, u "Ljava/io/Console;"), (77, .class_ 110), (1, u "java/lang/System$CallersHolder"), (43, u "initialErrStream"), (0, u "Ljava/io/PrintStream;"), (19, u "security"), (0, u "Ljava/lang/SecurityManager;"), (31, .class_ 209), (0, u "java/lang/System$1"), (7, u "props"), (0, u "Ljava/util/Properties;"), (2, u "lineSeparator"), (0, u "Ljava/lang/String;"), (96, .class_ 321), (1, u "java/lang/System$LoggerFinder"), (5, .class_ 328), (0, u "java/lang/System$Logger"), (67, u "err"), (2, u "out"), (91, u "notSupportedJnuEncoding"), (15, u "in"), (17, u "initialIn"), (0, u "Ljava/io/InputStream;"), (35, u "bootLayer"), (0, u "Ljava/lang/ModuleLayer;"), (99, .class_ 664), (0, u "java/lang/System$2"), (9, u "NEVER"), (2, u "MAYBE"), (49, u "arraycopy"), (0, u "(Ljava/lang/Object;ILjava/lang/Object;II)V"), (72, .class_ 802), (0, u "java/lang/System$Logger$Level")] 31

def k16m0 : Method := { name := "<init>", desc := "()V", sig := { parameters := [], returnType := none }, accessFlags := 2, code := none }
def k16m1 : Method := { name := "arraycopy", desc := "(Ljava/lang/Object;ILjava/lang/Object;II)V", sig := { parameters := [(.object "java/lang/Object"), .int, (.object "java/lang/Object"), .int, .int], returnType := none }, accessFlags := 265, code := none }
/-- java/lang/System -/
def k16 : Class := { plain "java/lang/System" (some 0) with
  accessFlags := 49
  interfaces := #[]
  cf := some (fileOf pool16 8 #[.nestMembers #[319, 327, 801, 108, 663, 208]] #[{ accessFlags := 2, nameIndex := 5, descriptorIndex := 6, attributes := #[] }, { accessFlags := 265, nameIndex := 727, descriptorIndex := 728, attributes := #[] }] 49 2 #[] #[{ accessFlags := 25, nameIndex := 507, descriptorIndex := 526, attributes := #[] }, { accessFlags := 25, nameIndex := 399, descriptorIndex := 155, attributes := #[] }, { accessFlags := 25, nameIndex := 396, descriptorIndex := 155, attributes := #[] }, { accessFlags := 10, nameIndex := 525, descriptorIndex := 526, attributes := #[] }, { accessFlags := 26, nameIndex := 674, descriptorIndex := 12, attributes := #[] }, { accessFlags := 26, nameIndex := 677, descriptorIndex := 12, attributes := #[] }, { accessFlags := 10, nameIndex := 11, descriptorIndex := 12, attributes := #[] }, { accessFlags := 74, nameIndex := 175, descriptorIndex := 176, attributes := #[] }, { accessFlags := 10, nameIndex := 491, descriptorIndex := 222, attributes := #[] }, { accessFlags := 74, nameIndex := 29, descriptorIndex := 30, attributes := #[] }, { accessFlags := 74, nameIndex := 154, descriptorIndex := 155, attributes := #[] }, { accessFlags := 10, nameIndex := 217, descriptorIndex := 218, attributes := #[] }, { accessFlags := 10, nameIndex := 221, descriptorIndex := 222, attributes := #[] }, { accessFlags := 8, nameIndex := 562, descriptorIndex := 563, attributes := #[] }])
  fields := #[{ name := "in", type := (.object "java/io/InputStream"), accessFlags := 25, slot := 0, constantValue := 0 }, { name := "out", type := (.object "java/io/PrintStream"), accessFlags := 25, slot := 1, constantValue := 0 }, { name := "err", type := (.object "java/io/PrintStream"), accessFlags := 25, slot := 2, constantValue := 0 }, { name := "initialIn", type := (.object "java/io/InputStream"), accessFlags := 10, slot := 3, constantValue := 0 }, { name := "NEVER", type := .int, accessFlags := 26, slot := 4, constantValue := 0 }, { name := "MAYBE", type := .int, accessFlags := 26, slot := 5, constantValue := 0 }, { name := "allowSecurityManager", type := .int, accessFlags := 10, slot := 6, constantValue := 0 }, { name := "security", type := (.object "java/lang/SecurityManager"), accessFlags := 74, slot := 7, constantValue := 0 }, { name := "notSupportedJnuEncoding", type := (.object "java/lang/String"), accessFlags := 10, slot := 8, constantValue := 0 }, { name := "cons", type := (.object "java/io/Console"), accessFlags := 74, slot := 9, constantValue := 0 }, { name := "initialErrStream", type := (.object "java/io/PrintStream"), accessFlags := 74, slot := 10, constantValue := 0 }, { name := "props", type := (.object "java/util/Properties"), accessFlags := 10, slot := 11, constantValue := 0 }, { name := "lineSeparator", type := (.object "java/lang/String"), accessFlags := 10, slot := 12, constantValue := 0 }, { name := "bootLayer", type := (.object "java/lang/ModuleLayer"), accessFlags := 8, slot := 13, constantValue := 0 }]
  methods := #[k16m0, k16m1]
  instanceTypes := #[]
  staticTypes := #[(.object "java/io/InputStream"), (.object "java/io/PrintStream"), (.object "java/io/PrintStream"), (.object "java/io/InputStream"), .int, .int, .int, (.object "java/lang/SecurityManager"), (.object "java/lang/String"), (.object "java/io/Console"), (.object "java/io/PrintStream"), (.object "java/util/Properties"), (.object "java/lang/String"), (.object "java/lang/ModuleLayer")]
  resolved := Array.replicate 834 none
  statics := none }

def pool17 : Array CpInfo := pool [(2, .class_ 4), (1, u "java/lang/Object"), (0, u "<init>"), (0, u "()V"), (7, .class_ 16), (1, u "java/util/Arrays"), (57, .class_ 76), (1, u "java/util/Arrays$NaturalOrder"), (32, u "()Ljava/lang/Object;"), (3, .class_ 115), (1, u "java/util/Arrays$LegacyMergeSort"), (1, u "Z"), (10, .nameAndType 129 109), (0, u "clone"), (9, u "copyOfRange"), (170, .methodref 311 128), (0, .class_ 312), (0, u "[B"), (29, u "([BII)[B"), (32, .class_ 376), (0, u "java/util/Arrays$ArrayList"), (68, u "$assertionsDisabled"), (269, u "MIN_ARRAY_SORT_GRAN"), (0, u "I"), (2, u "INSERTIONSORT_THRESHOLD"), (255, .class_ 976), (0, u "java/util/Arrays$ArrayItr")] 52

def k17m0 : Method := { name := "<init>", desc := "()V", sig := { parameters := [], returnType := none }, accessFlags := 2, code := none }
def k17c1 : Code := { maxStack := 3, maxLocals := 3, code := jdk_65_method_132_code, exceptionTable := #[], attributes := #[] }
def k17m1 : Method := { name := "copyOfRange", desc := "([BII)[B", sig := { parameters := [(.array .byte), .int, .int], returnType := some (.array .byte) }, accessFlags := 9, code := some k17c1 }
/-- java/util/Arrays -/
def k17 : Class := { plain "java/util/Arrays" (some 0) with
  accessFlags := 49
  interfaces := #[]
  cf := some (fileOf pool17 14 #[.nestMembers #[975, 375, 113, 74]] #[{ accessFlags := 2, nameIndex := 5, descriptorIndex := 6, attributes := #[] }, { accessFlags := 9, nameIndex := 139, descriptorIndex := 342, attributes := #[] }] 49 2 #[] #[{ accessFlags := 26, nameIndex := 715, descriptorIndex := 716, attributes := #[] }, { accessFlags := 26, nameIndex := 719, descriptorIndex := 716, attributes := #[] }, { accessFlags := 4120, nameIndex := 445, descriptorIndex := 117, attributes := #[] }])
  fields := #[{ name := "MIN_ARRAY_SORT_GRAN", type := .int, accessFlags := 26, slot := 0, constantValue := 0 }, { name := "INSERTIONSORT_THRESHOLD", type := .int, accessFlags := 26, slot := 1, constantValue := 0 }, { name := "$assertionsDisabled", type := .boolean, accessFlags := 4120, slot := 2, constantValue := 0 }]
  methods := #[k17m0, k17m1]
  instanceTypes := #[]
  staticTypes := #[.int, .int, .boolean]
  resolved := Array.replicate 1029 none
  statics := none }

def pool18 : Array CpInfo := pool [(1, .class_ 2), (0, u "java/lang/Cloneable"), (0, .class_ 4), (0, u "java/lang/Object")] 2

/-- java/lang/Cloneable -/
def k18 : Class := { plain "java/lang/Cloneable" (some 0) with
  accessFlags := 1537
  interfaces := #[]
  cf := some (fileOf pool18 1 #[] #[] 1537 3 #[] #[])
  fields := #[]
  methods := #[]
  instanceTypes := #[]
  staticTypes := #[]
  resolved := Array.replicate 7 none
  statics := none }

def pool19 : Array CpInfo := pool [(2, .class_ 4), (1, u "java/lang/Object"), (0, u "<init>"), (0, u "()V"), (17, .class_ 26), (1, u "jdk/internal/util/Preconditions"), (28, .class_ 56), (0, u "jdk/internal/util/Preconditions$4"), (57, .class_ 115), (0, u "jdk/internal/util/Preconditions$1"), (7, u "SIOOBE_FORMATTER"), (0, u "Ljava/util/function/BiFunction;"), (0, .class_ 126), (0, u "jdk/internal/util/Preconditions$2"), (3, u "AIOOBE_FORMATTER"), (0, .class_ 132), (0, u "jdk/internal/util/Preconditions$3"), (3, u "IOOBE_FORMATTER")] 57

def k19m0 : Method := { name := "<init>", desc := "()V", sig := { parameters := [], returnType := none }, accessFlags := 1, code := none }
/-- jdk/internal/util/Preconditions -/
def k19 : Class := { plain "jdk/internal/util/Preconditions" (some 0) with
  accessFlags := 33
  interfaces := #[]
  cf := some (fileOf pool19 24 #[.nestMembers #[55, 131, 125, 114]] #[{ accessFlags := 1, nameIndex := 5, descriptorIndex := 6, attributes := #[] }] 33 2 #[] #[{ accessFlags := 25, nameIndex := 123, descriptorIndex := 124, attributes := #[] }, { accessFlags := 25, nameIndex := 130, descriptorIndex := 124, attributes := #[] }, { accessFlags := 25, nameIndex := 136, descriptorIndex := 124, attributes := #[] }])
  fields := #[{ name := "SIOOBE_FORMATTER", type := (.object "java/util/function/BiFunction"), accessFlags := 25, slot := 0, constantValue := 0 }, { name := "AIOOBE_FORMATTER", type := (.object "java/util/function/BiFunction"), accessFlags := 25, slot := 1, constantValue := 0 }, { name := "IOOBE_FORMATTER", type := (.object "java/util/function/BiFunction"), accessFlags := 25, slot := 2, constantValue := 0 }]
  methods := #[k19m0]
  instanceTypes := #[]
  staticTypes := #[(.object "java/util/function/BiFunction"), (.object "java/util/function/BiFunction"), (.object "java/util/function/BiFunction")]
  resolved := Array.replicate 194 none
  statics := some 1 }

def pool20 : Array CpInfo := pool [(9, u "<init>"), (6, .class_ 18), (1, u "java/lang/Object"), (0, u "()V"), (1, .class_ 23), (1, u "jdk/internal/util/ArraysSupport"), (0, u "LOG2_ARRAY_LONG_INDEX_SCALE"), (0, u "I"), (2, u "U"), (0, u "Ljdk/internal/misc/Unsafe;"), (8, u "BIG_ENDIAN"), (0, u "Z"), (8, u "LOG2_BYTE_BIT_SIZE"), (4, u "LOG2_ARRAY_INT_INDEX_SCALE"), (54, u "JLA"), (0, u "Ljdk/internal/access/JavaLangAccess;"), (11, u "LOG2_ARRAY_BOOLEAN_INDEX_SCALE"), (9, u "LOG2_ARRAY_BYTE_INDEX_SCALE"), (5, u "LOG2_ARRAY_CHAR_INDEX_SCALE"), (5, u "LOG2_ARRAY_SHORT_INDEX_SCALE"), (18, u "LOG2_ARRAY_FLOAT_INDEX_SCALE"), (24, u "LOG2_ARRAY_DOUBLE_INDEX_SCALE"), (89, u "T_BOOLEAN"), (2, u "T_CHAR"), (1, u "T_FLOAT"), (1, u "T_DOUBLE"), (1, u "T_BYTE"), (1, u "T_SHORT"), (1, u "T_INT"), (1, u "T_LONG"), (1, u "SOFT_MAX_ARRAY_LENGTH")] 83

def k20m0 : Method := { name := "<init>", desc := "()V", sig := { parameters := [], returnType := none }, accessFlags := 2, code := none }
/-- jdk/internal/util/ArraysSupport -/
def k20 : Class := { plain "jdk/internal/util/ArraysSupport" (some 0) with
  accessFlags := 33
  interfaces := #[]
  cf := some (fileOf pool20 21 #[] #[{ accessFlags := 2, nameIndex := 9, descriptorIndex := 19, attributes := #[] }] 33 16 #[] #[{ accessFlags := 24, nameIndex := 28, descriptorIndex := 29, attributes := #[] }, { accessFlags := 26, nameIndex := 38, descriptorIndex := 39, attributes := #[] }, { accessFlags := 25, nameIndex := 121, descriptorIndex := 25, attributes := #[] }, { accessFlags := 25, nameIndex := 131, descriptorIndex := 25, attributes := #[] }, { accessFlags := 25, nameIndex := 137, descriptorIndex := 25, attributes := #[] }, { accessFlags := 25, nameIndex := 143, descriptorIndex := 25, attributes := #[] }, { accessFlags := 25, nameIndex := 53, descriptorIndex := 25, attributes := #[] }, { accessFlags := 25, nameIndex := 24, descriptorIndex := 25, attributes := #[] }, { accessFlags := 25, nameIndex := 162, descriptorIndex := 25, attributes := #[] }, { accessFlags := 25, nameIndex := 187, descriptorIndex := 25, attributes := #[] }, { accessFlags := 26, nameIndex := 48, descriptorIndex := 25, attributes := #[] }, { accessFlags := 25, nameIndex := 277, descriptorIndex := 25, attributes := #[] }, { accessFlags := 25, nameIndex := 280, descriptorIndex := 25, attributes := #[] }, { accessFlags := 25, nameIndex := 282, descriptorIndex := 25, attributes := #[] }, { accessFlags := 25, nameIndex := 284, descriptorIndex := 25, attributes := #[] }, { accessFlags := 25, nameIndex := 286, descriptorIndex := 25, attributes := #[] }, { accessFlags := 25, nameIndex := 288, descriptorIndex := 25, attributes := #[] }, { accessFlags := 25, nameIndex := 290, descriptorIndex := 25, attributes := #[] }, { accessFlags := 25, nameIndex := 292, descriptorIndex := 25, attributes := #[] }, { accessFlags := 26, nameIndex := 108, descriptorIndex := 109, attributes := #[] }, { accessFlags := 25, nameIndex := 294, descriptorIndex := 25, attributes := #[] }])
  fields := #[{ name := "U", type := (.object "jdk/internal/misc/Unsafe"), accessFlags := 24, slot := 0, constantValue := 0 }, { name := "BIG_ENDIAN", type := .boolean, accessFlags := 26, slot := 1, constantValue := 0 }, { name := "LOG2_ARRAY_BOOLEAN_INDEX_SCALE", type := .int, accessFlags := 25, slot := 2, constantValue := 0 }, { name := "LOG2_ARRAY_BYTE_INDEX_SCALE", type := .int, accessFlags := 25, slot := 3, constantValue := 0 }, { name := "LOG2_ARRAY_CHAR_INDEX_SCALE", type := .int, accessFlags := 25, slot := 4, constantValue := 0 }, { name := "LOG2_ARRAY_SHORT_INDEX_SCALE", type := .int, accessFlags := 25, slot := 5, constantValue := 0 }, { name := "LOG2_ARRAY_INT_INDEX_SCALE", type := .int, accessFlags := 25, slot := 6, constantValue := 0 }, { name := "LOG2_ARRAY_LONG_INDEX_SCALE", type := .int, accessFlags := 25, slot := 7, constantValue := 0 }, { name := "LOG2_ARRAY_FLOAT_INDEX_SCALE", type := .int, accessFlags := 25, slot := 8, constantValue := 0 }, { name := "LOG2_ARRAY_DOUBLE_INDEX_SCALE", type := .int, accessFlags := 25, slot := 9, constantValue := 0 }, { name := "LOG2_BYTE_BIT_SIZE", type := .int, accessFlags := 26, slot := 10, constantValue := 0 }, { name := "T_BOOLEAN", type := .int, accessFlags := 25, slot := 11, constantValue := 0 }, { name := "T_CHAR", type := .int, accessFlags := 25, slot := 12, constantValue := 0 }, { name := "T_FLOAT", type := .int, accessFlags := 25, slot := 13, constantValue := 0 }, { name := "T_DOUBLE", type := .int, accessFlags := 25, slot := 14, constantValue := 0 }, { name := "T_BYTE", type := .int, accessFlags := 25, slot := 15, constantValue := 0 }, { name := "T_SHORT", type := .int, accessFlags := 25, slot := 16, constantValue := 0 }, { name := "T_INT", type := .int, accessFlags := 25, slot := 17, constantValue := 0 }, { name := "T_LONG", type := .int, accessFlags := 25, slot := 18, constantValue := 0 }, { name := "JLA", type := (.object "jdk/internal/access/JavaLangAccess"), accessFlags := 26, slot := 19, constantValue := 0 }, { name := "SOFT_MAX_ARRAY_LENGTH", type := .int, accessFlags := 25, slot := 20, constantValue := 0 }]
  methods := #[k20m0]
  instanceTypes := #[]
  staticTypes := #[(.object "jdk/internal/misc/Unsafe"), .boolean, .int, .int, .int, .int, .int, .int, .int, .int, .int, .int, .int, .int, .int, .int, .int, .int, .int, (.object "jdk/internal/access/JavaLangAccess"), .int]
  resolved := Array.replicate 378 none
  statics := none }

/-- the primitive byte -/
def k21 : Class := { plain "byte" none with kind := .primitive 'B', accessFlags := 0x411 }
/-- [B -/
def k22 : Class := { plain "[B" (some 0) with kind := .array 21 .byte, interfaces := #[18, 2], accessFlags := 1041 }

/-- the primitive char -/
def k23 : Class := { plain "char" none with kind := .primitive 'C', accessFlags := 0x411 }
/-- [C -/
def k24 : Class := { plain "[C" (some 0) with kind := .array 23 .char, interfaces := #[18, 2], accessFlags := 1041 }

/-- the primitive int -/
def k25 : Class := { plain "int" none with kind := .primitive 'I', accessFlags := 0x411 }
/-- [I -/
def k26 : Class := { plain "[I" (some 0) with kind := .array 25 .int, interfaces := #[18, 2], accessFlags := 1041 }

def heap : Heap := #[{ cls := 7, slots := #[.long 0, .int 1, .null, .int 0, .null, .int 0, .int 0], vm := .statics 7 },
  { cls := 19, slots := #[.null, .null, .null], vm := .statics 19 }]
def classes : Array Class := #[k0, k1, k2, k3, k4, k5, k6, k7, k8, k9, k10, k11, k12, k13, k14, k15, k16, k17, k18, k19, k20, k21, k22, k23, k24, k25, k26]
def interned : List (Array UInt16 × Addr) := []
def slotsUsed : Nat := 10
def theMethod : MethodId := ⟨1, 1⟩
def args0 : Array Value := #[.int 5, .int 6, .int 7, .int 8]
def aboutOver (below : List Frame) : State where
  vm := { classes := classes, interned := interned.toArray }
  heap := heap
  slotsUsed := slotsUsed
  threads := #[{ frames := .invoking theMethod args0 :: below }]
def below0 : List Frame := [.native { method := ⟨0, 0⟩, args := #[] }]
def about1 : State := aboutOver below0
def p0 : Program := .bare "" "" ""
def e0 : Env := launch0.env 0 0 0
theorem w_frames : about1.frames = Frame.invoking theMethod args0 :: below0 := rfl
set_option maxRecDepth 65536 in
theorem w_args : argsFit about1.vm theMethod args0 = true := by decide +kernel
set_option maxRecDepth 65536 in
theorem w_heap : heapFits about1 = true := by decide +kernel
set_option maxRecDepth 65536 in
theorem w_runnable : about1.curStatus? = some .runnable := by decide +kernel
set_option maxRecDepth 65536 in
theorem w_alone : about1.alone = true := by decide +kernel
set_option maxRecDepth 65536 in
theorem w_named : about1.methodNamed? x = some theMethod := by decide +kernel
set_option maxRecDepth 65536 in
theorem w_hears : about1.hears theMethod below0 = true := by decide +kernel
set_option maxRecDepth 65536 in
theorem w_ripe : about1.ripe theMethod args0 below0 = true := by decide +kernel
theorem w_running : about1.status = .running := rfl
set_option maxRecDepth 65536 in
theorem w_room : about1.hasRoom e0.platform room_1 = true :=
  launch0.hasRoom_least _ room_1 (by decide +kernel) (by decide +kernel) (by decide +kernel) (by decide +kernel) (by decide +kernel) (by decide +kernel)
theorem allAtoms_all (ts : List Jvm.Cond) (a : Array Jvm.Value) (st : Jvm.State) : (allAtoms ts).before a st = ts.all (fun c => c.before a st) := by
  induction ts with
  | nil => rfl
  | cons c t ih =>
    show (Jvm.Cond.and c (allAtoms t)).before a st = _
    rw [Jvm.Cond.before_and, ih, List.all_cons]
def words1 : List Jvm.Cond := Jvm.Cond.code x code maxLocals ret :: tables_1
/-- a 'code' word, met by the world's own term for the bytes: nothing is compared byte by byte -/
theorem code_word {y : MethodName} {bytes : ByteArray} {mx : Nat} {rt : Option FieldType} {a : Array Value} {s : State} {m : MethodId} {meth : Method} {c : Code} (h1 : s.methodNamed? y = some m) (h2 : s.vm.method? m = some meth) (h3 : meth.code = some c) (h4 : c.code = bytes)
    (h5 : (c.maxLocals == mx && c.exceptionTable.isEmpty && decide (c.maxStack ≤ mostOperands) && decide (meth.sig.returnType = rt) && !meth.locks && decide (parseMethodDescriptor y.desc = some meth.sig)) = true) : (Jvm.Cond.code y bytes mx rt).before a s = true := by
  simp only [Bool.and_eq_true, beq_iff_eq, Bool.not_eq_true', decide_eq_true_eq] at h5
  obtain ⟨⟨⟨⟨⟨g1, g2⟩, g3⟩, g4⟩, g5⟩, g6⟩ := h5
  simp [Cond.before, Cond.holds, Cond.value, h1, h2, h3, h4, g1, g2, g3, g4, g5, g6]
def isCode : Jvm.Cond → Bool
  | .code _ _ _ _ => true
  | _ => false
theorem all_split {L : List Jvm.Cond} {P : Jvm.Cond → Bool} (h1 : L.all (fun c => isCode c || P c) = true) (h2 : ∀ c ∈ L.filter isCode, P c = true) : L.all P = true := by
  refine List.all_eq_true.mpr fun c hc => ?_
  have h := List.all_eq_true.mp h1 c hc
  rcases Bool.eq_false_or_eq_true (isCode c) with hi | hi
  · exact h2 c (List.mem_filter.mpr ⟨hc, hi⟩)
  · simpa [hi] using h
set_option maxRecDepth 65536 in
theorem w_c0 : (Jvm.Cond.code x code maxLocals ret).before args0 about1 = true := code_word (m := ⟨1, 1⟩) (meth := k1m1) (c := k1c1) (by decide +kernel) rfl rfl rfl (by decide +kernel)
set_option maxRecDepth 65536 in
theorem w_c1 : (Jvm.Cond.code ({ cls := "java/lang/String", name := "<init>", desc := "([C)V" } : Jvm.MethodName) jdk_42_method_3_code (2 : Nat) (Option.none : Option Jvm.ClassFile.FieldType)).before args0 about1 = true := code_word (m := ⟨7, 1⟩) (meth := k7m1) (c := k7c1) (by decide +kernel) rfl rfl rfl (by decide +kernel)
set_option maxRecDepth 65536 in
theorem w_c2 : (Jvm.Cond.code ({ cls := "java/lang/String", name := "<init>", desc := "([CIILjava/lang/Void;)V" } : Jvm.MethodName) jdk_42_method_149_code (6 : Nat) (Option.none : Option Jvm.ClassFile.FieldType)).before args0 about1 = true := code_word (m := ⟨7, 7⟩) (meth := k7m7) (c := k7c7) (by decide +kernel) rfl rfl rfl (by decide +kernel)
set_option maxRecDepth 65536 in
theorem w_c3 : (Jvm.Cond.code ({ cls := "java/lang/Object", name := "<init>", desc := "()V" } : Jvm.MethodName) object_method_1_code (1 : Nat) (Option.none : Option Jvm.ClassFile.FieldType)).before args0 about1 = true := code_word (m := ⟨0, 0⟩) (meth := k0m0) (c := k0c0) (by decide +kernel) rfl rfl rfl (by decide +kernel)
set_option maxRecDepth 65536 in
theorem w_c4 : (Jvm.Cond.code ({ cls := "java/lang/StringUTF16", name := "compress", desc := "([CII)[B" } : Jvm.MethodName) jdk_52_method_16_code (6 : Nat) (Option.some (Jvm.ClassFile.FieldType.array Jvm.ClassFile.FieldType.byte))).before args0 about1 = true := code_word (m := ⟨8, 2⟩) (meth := k8m2) (c := k8c2) (by decide +kernel) rfl rfl rfl (by decide +kernel)
set_option maxRecDepth 65536 in
theorem w_c5 : (Jvm.Cond.code ({ cls := "java/lang/StringUTF16", name := "compress", desc := "([CI[BII)I" } : Jvm.MethodName) jdk_52_method_21_code (7 : Nat) (Option.some Jvm.ClassFile.FieldType.int)).before args0 about1 = true := code_word (m := ⟨8, 3⟩) (meth := k8m3) (c := k8c3) (by decide +kernel) rfl rfl rfl (by decide +kernel)
set_option maxRecDepth 65536 in
theorem w_c6 : (Jvm.Cond.code ({ cls := "java/lang/StringUTF16", name := "coderFromArrayLen", desc := "([BI)B" } : Jvm.MethodName) jdk_52_method_15_code (2 : Nat) (Option.some Jvm.ClassFile.FieldType.byte)).before args0 about1 = true := code_word (m := ⟨8, 1⟩) (meth := k8m1) (c := k8c1) (by decide +kernel) rfl rfl rfl (by decide +kernel)
set_option maxRecDepth 65536 in
theorem w_c7 : (Jvm.Cond.code ({ cls := "java/lang/String", name := "valueOf", desc := "(C)Ljava/lang/String;" } : Jvm.MethodName) jdk_42_method_139_code (1 : Nat) (Option.some (Jvm.ClassFile.FieldType.object "java/lang/String"))).before args0 about1 = true := code_word (m := ⟨7, 5⟩) (meth := k7m5) (c := k7c5) (by decide +kernel) rfl rfl rfl (by decide +kernel)
set_option maxRecDepth 65536 in
theorem w_c8 : (Jvm.Cond.code ({ cls := "java/lang/StringLatin1", name := "canEncode", desc := "(C)Z" } : Jvm.MethodName) jdk_43_method_3_code (1 : Nat) (Option.some Jvm.ClassFile.FieldType.boolean)).before args0 about1 = true := code_word (m := ⟨9, 1⟩) (meth := k9m1) (c := k9c1) (by decide +kernel) rfl rfl rfl (by decide +kernel)
set_option maxRecDepth 65536 in
theorem w_c9 : (Jvm.Cond.code ({ cls := "java/lang/StringLatin1", name := "toBytes", desc := "(C)[B" } : Jvm.MethodName) jdk_43_method_46_code (1 : Nat) (Option.some (Jvm.ClassFile.FieldType.array Jvm.ClassFile.FieldType.byte))).before args0 about1 = true := code_word (m := ⟨9, 3⟩) (meth := k9m3) (c := k9c3) (by decide +kernel) rfl rfl rfl (by decide +kernel)
set_option maxRecDepth 65536 in
theorem w_c10 : (Jvm.Cond.code ({ cls := "java/lang/String", name := "<init>", desc := "([BB)V" } : Jvm.MethodName) jdk_42_method_151_code (3 : Nat) (Option.none : Option Jvm.ClassFile.FieldType)).before args0 about1 = true := code_word (m := ⟨7, 9⟩) (meth := k7m9) (c := k7c9) (by decide +kernel) rfl rfl rfl (by decide +kernel)
set_option maxRecDepth 65536 in
theorem w_c11 : (Jvm.Cond.code ({ cls := "com/example/ngazi/ngazi/cli/CommandOption", name := "fromEnvironment", desc := "(Ljava/lang/String;Ljava/lang/String;Ljava/lang/String;Ljava/lang/String;)Lcom/example/ngazi/ngazi/cli/CommandOption;" } : Jvm.MethodName) prog_5_method_4_code (4 : Nat) (Option.some (Jvm.ClassFile.FieldType.object "com/example/ngazi/ngazi/cli/CommandOption"))).before args0 about1 = true := code_word (m := ⟨11, 1⟩) (meth := k11m1) (c := k11c1) (by decide +kernel) rfl rfl rfl (by decide +kernel)
set_option maxRecDepth 65536 in
theorem w_c12 : (Jvm.Cond.code ({ cls := "com/example/ngazi/ngazi/cli/CommandOption", name := "<init>", desc := "(Ljava/lang/String;Ljava/lang/String;Ljava/lang/String;ZLjava/lang/String;Ljava/lang/String;)V" } : Jvm.MethodName) prog_5_method_1_code (7 : Nat) (Option.none : Option Jvm.ClassFile.FieldType)).before args0 about1 = true := code_word (m := ⟨11, 0⟩) (meth := k11m0) (c := k11c0) (by decide +kernel) rfl rfl rfl (by decide +kernel)
set_option maxRecDepth 65536 in
theorem w_c13 : (Jvm.Cond.code ({ cls := "java/lang/Record", name := "<init>", desc := "()V" } : Jvm.MethodName) jdk_30_method_1_code (1 : Nat) (Option.none : Option Jvm.ClassFile.FieldType)).before args0 about1 = true := code_word (m := ⟨10, 0⟩) (meth := k10m0) (c := k10c0) (by decide +kernel) rfl rfl rfl (by decide +kernel)
set_option maxRecDepth 65536 in
theorem w_c14 : (Jvm.Cond.code ({ cls := "java/util/Objects", name := "requireNonNull", desc := "(Ljava/lang/Object;Ljava/lang/String;)Ljava/lang/Object;" } : Jvm.MethodName) jdk_31_method_11_code (2 : Nat) (Option.some (Jvm.ClassFile.FieldType.object "java/lang/Object"))).before args0 about1 = true := code_word (m := ⟨12, 1⟩) (meth := k12m1) (c := k12c1) (by decide +kernel) rfl rfl rfl (by decide +kernel)
set_option maxRecDepth 65536 in
theorem w_c15 : (Jvm.Cond.code ({ cls := "com/example/ngazi/ngazi/cli/CommandOption", name := "name", desc := "()Ljava/lang/String;" } : Jvm.MethodName) prog_5_method_11_code (1 : Nat) (Option.some (Jvm.ClassFile.FieldType.object "java/lang/String"))).before args0 about1 = true := code_word (m := ⟨11, 3⟩) (meth := k11m3) (c := k11c3) (by decide +kernel) rfl rfl rfl (by decide +kernel)
set_option maxRecDepth 65536 in
theorem w_c16 : (Jvm.Cond.code ({ cls := "java/lang/String", name := "equals", desc := "(Ljava/lang/Object;)Z" } : Jvm.MethodName) jdk_42_method_66_code (3 : Nat) (Option.some Jvm.ClassFile.FieldType.boolean)).before args0 about1 = true := code_word (m := ⟨7, 4⟩) (meth := k7m4) (c := k7c4) (by decide +kernel) rfl rfl rfl (by decide +kernel)
set_option maxRecDepth 65536 in
theorem w_c17 : (Jvm.Cond.code ({ cls := "com/example/ngazi/ngazi/cli/CommandOption", name := "label", desc := "()Ljava/lang/String;" } : Jvm.MethodName) prog_5_method_12_code (1 : Nat) (Option.some (Jvm.ClassFile.FieldType.object "java/lang/String"))).before args0 about1 = true := code_word (m := ⟨11, 4⟩) (meth := k11m4) (c := k11c4) (by decide +kernel) rfl rfl rfl (by decide +kernel)
set_option maxRecDepth 65536 in
theorem w_c18 : (Jvm.Cond.code ({ cls := "com/example/ngazi/ngazi/cli/CommandOption", name := "description", desc := "()Ljava/lang/String;" } : Jvm.MethodName) prog_5_method_13_code (1 : Nat) (Option.some (Jvm.ClassFile.FieldType.object "java/lang/String"))).before args0 about1 = true := code_word (m := ⟨11, 5⟩) (meth := k11m5) (c := k11c5) (by decide +kernel) rfl rfl rfl (by decide +kernel)
set_option maxRecDepth 65536 in
theorem w_c19 : (Jvm.Cond.code ({ cls := "com/example/ngazi/ngazi/cli/CommandOption", name := "required", desc := "()Z" } : Jvm.MethodName) prog_5_method_14_code (1 : Nat) (Option.some Jvm.ClassFile.FieldType.boolean)).before args0 about1 = true := code_word (m := ⟨11, 6⟩) (meth := k11m6) (c := k11c6) (by decide +kernel) rfl rfl rfl (by decide +kernel)
set_option maxRecDepth 65536 in
theorem w_c20 : (Jvm.Cond.code ({ cls := "com/example/ngazi/ngazi/cli/CommandOption", name := "defaultValue", desc := "()Ljava/lang/String;" } : Jvm.MethodName) prog_5_method_16_code (1 : Nat) (Option.some (Jvm.ClassFile.FieldType.object "java/lang/String"))).before args0 about1 = true := code_word (m := ⟨11, 8⟩) (meth := k11m8) (c := k11c8) (by decide +kernel) rfl rfl rfl (by decide +kernel)
set_option maxRecDepth 65536 in
theorem w_c21 : (Jvm.Cond.code ({ cls := "com/example/ngazi/ngazi/cli/CommandOption", name := "help", desc := "()Ljava/lang/String;" } : Jvm.MethodName) prog_5_method_7_code (2 : Nat) (Option.some (Jvm.ClassFile.FieldType.object "java/lang/String"))).before args0 about1 = true := code_word (m := ⟨11, 2⟩) (meth := k11m2) (c := k11c2) (by decide +kernel) rfl rfl rfl (by decide +kernel)
set_option maxRecDepth 65536 in
theorem w_c22 : (Jvm.Cond.code ({ cls := "com/example/ngazi/ngazi/cli/CommandOption", name := "environmentVariable", desc := "()Ljava/lang/String;" } : Jvm.MethodName) prog_5_method_15_code (1 : Nat) (Option.some (Jvm.ClassFile.FieldType.object "java/lang/String"))).before args0 about1 = true := code_word (m := ⟨11, 7⟩) (meth := k11m7) (c := k11c7) (by decide +kernel) rfl rfl rfl (by decide +kernel)
set_option maxRecDepth 65536 in
theorem w_c23 : (Jvm.Cond.code ({ cls := "java/lang/StringBuilder", name := "<init>", desc := "()V" } : Jvm.MethodName) jdk_67_method_1_code (1 : Nat) (Option.none : Option Jvm.ClassFile.FieldType)).before args0 about1 = true := code_word (m := ⟨15, 0⟩) (meth := k15m0) (c := k15c0) (by decide +kernel) rfl rfl rfl (by decide +kernel)
set_option maxRecDepth 65536 in
theorem w_c24 : (Jvm.Cond.code ({ cls := "java/lang/AbstractStringBuilder", name := "<init>", desc := "(I)V" } : Jvm.MethodName) jdk_68_method_2_code (2 : Nat) (Option.none : Option Jvm.ClassFile.FieldType)).before args0 about1 = true := code_word (m := ⟨14, 1⟩) (meth := k14m1) (c := k14c1) (by decide +kernel) rfl rfl rfl (by decide +kernel)
set_option maxRecDepth 65536 in
theorem w_c25 : (Jvm.Cond.code ({ cls := "java/lang/StringBuilder", name := "append", desc := "(Ljava/lang/String;)Ljava/lang/StringBuilder;" } : Jvm.MethodName) jdk_67_method_7_code (2 : Nat) (Option.some (Jvm.ClassFile.FieldType.object "java/lang/StringBuilder"))).before args0 about1 = true := code_word (m := ⟨15, 1⟩) (meth := k15m1) (c := k15c1) (by decide +kernel) rfl rfl rfl (by decide +kernel)
set_option maxRecDepth 65536 in
theorem w_c26 : (Jvm.Cond.code ({ cls := "java/lang/AbstractStringBuilder", name := "append", desc := "(Ljava/lang/String;)Ljava/lang/AbstractStringBuilder;" } : Jvm.MethodName) jdk_68_method_22_code (3 : Nat) (Option.some (Jvm.ClassFile.FieldType.object "java/lang/AbstractStringBuilder"))).before args0 about1 = true := code_word (m := ⟨14, 4⟩) (meth := k14m4) (c := k14c4) (by decide +kernel) rfl rfl rfl (by decide +kernel)
set_option maxRecDepth 65536 in
theorem w_c27 : (Jvm.Cond.code ({ cls := "java/lang/String", name := "length", desc := "()I" } : Jvm.MethodName) jdk_42_method_54_code (1 : Nat) (Option.some Jvm.ClassFile.FieldType.int)).before args0 about1 = true := code_word (m := ⟨7, 3⟩) (meth := k7m3) (c := k7c3) (by decide +kernel) rfl rfl rfl (by decide +kernel)
set_option maxRecDepth 65536 in
theorem w_c28 : (Jvm.Cond.code ({ cls := "java/lang/String", name := "coder", desc := "()B" } : Jvm.MethodName) jdk_42_method_152_code (1 : Nat) (Option.some Jvm.ClassFile.FieldType.byte)).before args0 about1 = true := code_word (m := ⟨7, 10⟩) (meth := k7m10) (c := k7c10) (by decide +kernel) rfl rfl rfl (by decide +kernel)
set_option maxRecDepth 65536 in
theorem w_c29 : (Jvm.Cond.code ({ cls := "java/lang/AbstractStringBuilder", name := "ensureCapacityInternal", desc := "(I)V" } : Jvm.MethodName) jdk_68_method_9_code (3 : Nat) (Option.none : Option Jvm.ClassFile.FieldType)).before args0 about1 = true := code_word (m := ⟨14, 3⟩) (meth := k14m3) (c := k14c3) (by decide +kernel) rfl rfl rfl (by decide +kernel)
set_option maxRecDepth 65536 in
theorem w_c30 : (Jvm.Cond.code ({ cls := "java/lang/AbstractStringBuilder", name := "putStringAt", desc := "(ILjava/lang/String;)V" } : Jvm.MethodName) jdk_68_method_73_code (3 : Nat) (Option.none : Option Jvm.ClassFile.FieldType)).before args0 about1 = true := code_word (m := ⟨14, 8⟩) (meth := k14m8) (c := k14c8) (by decide +kernel) rfl rfl rfl (by decide +kernel)
set_option maxRecDepth 65536 in
theorem w_c31 : (Jvm.Cond.code ({ cls := "java/lang/AbstractStringBuilder", name := "inflateIfNeededFor", desc := "(Ljava/lang/String;)V" } : Jvm.MethodName) jdk_68_method_71_code (2 : Nat) (Option.none : Option Jvm.ClassFile.FieldType)).before args0 about1 = true := code_word (m := ⟨14, 7⟩) (meth := k14m7) (c := k14c7) (by decide +kernel) rfl rfl rfl (by decide +kernel)
set_option maxRecDepth 65536 in
theorem w_c32 : (Jvm.Cond.code ({ cls := "java/lang/String", name := "getBytes", desc := "([BIB)V" } : Jvm.MethodName) jdk_42_method_147_code (4 : Nat) (Option.none : Option Jvm.ClassFile.FieldType)).before args0 about1 = true := code_word (m := ⟨7, 6⟩) (meth := k7m6) (c := k7c6) (by decide +kernel) rfl rfl rfl (by decide +kernel)
set_option maxRecDepth 65536 in
theorem w_c33 : (Jvm.Cond.code ({ cls := "java/lang/StringBuilder", name := "toString", desc := "()Ljava/lang/String;" } : Jvm.MethodName) jdk_67_method_42_code (1 : Nat) (Option.some (Jvm.ClassFile.FieldType.object "java/lang/String"))).before args0 about1 = true := code_word (m := ⟨15, 2⟩) (meth := k15m2) (c := k15c2) (by decide +kernel) rfl rfl rfl (by decide +kernel)
set_option maxRecDepth 65536 in
theorem w_c34 : (Jvm.Cond.code ({ cls := "java/lang/String", name := "<init>", desc := "(Ljava/lang/StringBuilder;)V" } : Jvm.MethodName) jdk_42_method_53_code (2 : Nat) (Option.none : Option Jvm.ClassFile.FieldType)).before args0 about1 = true := code_word (m := ⟨7, 2⟩) (meth := k7m2) (c := k7c2) (by decide +kernel) rfl rfl rfl (by decide +kernel)
set_option maxRecDepth 65536 in
theorem w_c35 : (Jvm.Cond.code ({ cls := "java/lang/String", name := "<init>", desc := "(Ljava/lang/AbstractStringBuilder;Ljava/lang/Void;)V" } : Jvm.MethodName) jdk_42_method_150_code (5 : Nat) (Option.none : Option Jvm.ClassFile.FieldType)).before args0 about1 = true := code_word (m := ⟨7, 8⟩) (meth := k7m8) (c := k7c8) (by decide +kernel) rfl rfl rfl (by decide +kernel)
set_option maxRecDepth 65536 in
theorem w_c36 : (Jvm.Cond.code ({ cls := "java/lang/AbstractStringBuilder", name := "getValue", desc := "()[B" } : Jvm.MethodName) jdk_68_method_64_code (1 : Nat) (Option.some (Jvm.ClassFile.FieldType.array Jvm.ClassFile.FieldType.byte))).before args0 about1 = true := code_word (m := ⟨14, 5⟩) (meth := k14m5) (c := k14c5) (by decide +kernel) rfl rfl rfl (by decide +kernel)
set_option maxRecDepth 65536 in
theorem w_c37 : (Jvm.Cond.code ({ cls := "java/lang/StringBuilder", name := "length", desc := "()I" } : Jvm.MethodName) jdk_67_method_93_code (1 : Nat) (Option.some Jvm.ClassFile.FieldType.int)).before args0 about1 = true := code_word (m := ⟨15, 3⟩) (meth := k15m3) (c := k15c3) (by decide +kernel) rfl rfl rfl (by decide +kernel)
set_option maxRecDepth 65536 in
theorem w_c38 : (Jvm.Cond.code ({ cls := "java/lang/AbstractStringBuilder", name := "length", desc := "()I" } : Jvm.MethodName) jdk_68_method_6_code (1 : Nat) (Option.some Jvm.ClassFile.FieldType.int)).before args0 about1 = true := code_word (m := ⟨14, 2⟩) (meth := k14m2) (c := k14c2) (by decide +kernel) rfl rfl rfl (by decide +kernel)
set_option maxRecDepth 65536 in
theorem w_c39 : (Jvm.Cond.code ({ cls := "java/lang/AbstractStringBuilder", name := "isLatin1", desc := "()Z" } : Jvm.MethodName) jdk_68_method_68_code (1 : Nat) (Option.some Jvm.ClassFile.FieldType.boolean)).before args0 about1 = true := code_word (m := ⟨14, 6⟩) (meth := k14m6) (c := k14c6) (by decide +kernel) rfl rfl rfl (by decide +kernel)
set_option maxRecDepth 65536 in
theorem w_c40 : (Jvm.Cond.code ({ cls := "java/util/Arrays", name := "copyOfRange", desc := "([BII)[B" } : Jvm.MethodName) jdk_65_method_132_code (3 : Nat) (Option.some (Jvm.ClassFile.FieldType.array Jvm.ClassFile.FieldType.byte))).before args0 about1 = true := code_word (m := ⟨17, 1⟩) (meth := k17m1) (c := k17c1) (by decide +kernel) rfl rfl rfl (by decide +kernel)
set_option maxRecDepth 65536 in
theorem w_c41 : (Jvm.Cond.code ({ cls := "java/lang/StringLatin1", name := "equals", desc := "([B[B)Z" } : Jvm.MethodName) jdk_43_method_13_code (3 : Nat) (Option.some Jvm.ClassFile.FieldType.boolean)).before args0 about1 = true := code_word (m := ⟨9, 2⟩) (meth := k9m2) (c := k9c2) (by decide +kernel) rfl rfl rfl (by decide +kernel)
def codes1 : List Jvm.Cond := [Jvm.Cond.code x code maxLocals ret, Jvm.Cond.code ({ cls := "java/lang/String", name := "<init>", desc := "([C)V" } : Jvm.MethodName) jdk_42_method_3_code (2 : Nat) (Option.none : Option Jvm.ClassFile.FieldType), Jvm.Cond.code ({ cls := "java/lang/String", name := "<init>", desc := "([CIILjava/lang/Void;)V" } : Jvm.MethodName) jdk_42_method_149_code (6 : Nat) (Option.none : Option Jvm.ClassFile.FieldType), Jvm.Cond.code ({ cls := "java/lang/Object", name := "<init>", desc := "()V" } : Jvm.MethodName) object_method_1_code (1 : Nat) (Option.none : Option Jvm.ClassFile.FieldType), Jvm.Cond.code ({ cls := "java/lang/StringUTF16", name := "compress", desc := "([CII)[B" } : Jvm.MethodName) jdk_52_method_16_code (6 : Nat) (Option.some (Jvm.ClassFile.FieldType.array Jvm.ClassFile.FieldType.byte)), Jvm.Cond.code ({ cls := "java/lang/StringUTF16", name := "compress", desc := "([CI[BII)I" } : Jvm.MethodName) jdk_52_method_21_code (7 : Nat) (Option.some Jvm.ClassFile.FieldType.int), Jvm.Cond.code ({ cls := "java/lang/StringUTF16", name := "coderFromArrayLen", desc := "([BI)B" } : Jvm.MethodName) jdk_52_method_15_code (2 : Nat) (Option.some Jvm.ClassFile.FieldType.byte), Jvm.Cond.code ({ cls := "java/lang/String", name := "valueOf", desc := "(C)Ljava/lang/String;" } : Jvm.MethodName) jdk_42_method_139_code (1 : Nat) (Option.some (Jvm.ClassFile.FieldType.object "java/lang/String")), Jvm.Cond.code ({ cls := "java/lang/StringLatin1", name := "canEncode", desc := "(C)Z" } : Jvm.MethodName) jdk_43_method_3_code (1 : Nat) (Option.some Jvm.ClassFile.FieldType.boolean), Jvm.Cond.code ({ cls := "java/lang/StringLatin1", name := "toBytes", desc := "(C)[B" } : Jvm.MethodName) jdk_43_method_46_code (1 : Nat) (Option.some (Jvm.ClassFile.FieldType.array Jvm.ClassFile.FieldType.byte)), Jvm.Cond.code ({ cls := "java/lang/String", name := "<init>", desc := "([BB)V" } : Jvm.MethodName) jdk_42_method_151_code (3 : Nat) (Option.none : Option Jvm.ClassFile.FieldType), Jvm.Cond.code ({ cls := "com/example/ngazi/ngazi/cli/CommandOption", name := "fromEnvironment", desc := "(Ljava/lang/String;Ljava/lang/String;Ljava/lang/String;Ljava/lang/String;)Lcom/example/ngazi/ngazi/cli/CommandOption;" } : Jvm.MethodName) prog_5_method_4_code (4 : Nat) (Option.some (Jvm.ClassFile.FieldType.object "com/example/ngazi/ngazi/cli/CommandOption")), Jvm.Cond.code ({ cls := "com/example/ngazi/ngazi/cli/CommandOption", name := "<init>", desc := "(Ljava/lang/String;Ljava/lang/String;Ljava/lang/String;ZLjava/lang/String;Ljava/lang/String;)V" } : Jvm.MethodName) prog_5_method_1_code (7 : Nat) (Option.none : Option Jvm.ClassFile.FieldType), Jvm.Cond.code ({ cls := "java/lang/Record", name := "<init>", desc := "()V" } : Jvm.MethodName) jdk_30_method_1_code (1 : Nat) (Option.none : Option Jvm.ClassFile.FieldType), Jvm.Cond.code ({ cls := "java/util/Objects", name := "requireNonNull", desc := "(Ljava/lang/Object;Ljava/lang/String;)Ljava/lang/Object;" } : Jvm.MethodName) jdk_31_method_11_code (2 : Nat) (Option.some (Jvm.ClassFile.FieldType.object "java/lang/Object")), Jvm.Cond.code ({ cls := "com/example/ngazi/ngazi/cli/CommandOption", name := "name", desc := "()Ljava/lang/String;" } : Jvm.MethodName) prog_5_method_11_code (1 : Nat) (Option.some (Jvm.ClassFile.FieldType.object "java/lang/String")), Jvm.Cond.code ({ cls := "java/lang/String", name := "equals", desc := "(Ljava/lang/Object;)Z" } : Jvm.MethodName) jdk_42_method_66_code (3 : Nat) (Option.some Jvm.ClassFile.FieldType.boolean), Jvm.Cond.code ({ cls := "com/example/ngazi/ngazi/cli/CommandOption", name := "label", desc := "()Ljava/lang/String;" } : Jvm.MethodName) prog_5_method_12_code (1 : Nat) (Option.some (Jvm.ClassFile.FieldType.object "java/lang/String")), Jvm.Cond.code ({ cls := "com/example/ngazi/ngazi/cli/CommandOption", name := "description", desc := "()Ljava/lang/String;" } : Jvm.MethodName) prog_5_method_13_code (1 : Nat) (Option.some (Jvm.ClassFile.FieldType.object "java/lang/String")), Jvm.Cond.code ({ cls := "com/example/ngazi/ngazi/cli/CommandOption", name := "required", desc := "()Z" } : Jvm.MethodName) prog_5_method_14_code (1 : Nat) (Option.some Jvm.ClassFile.FieldType.boolean), Jvm.Cond.code ({ cls := "com/example/ngazi/ngazi/cli/CommandOption", name := "defaultValue", desc := "()Ljava/lang/String;" } : Jvm.MethodName) prog_5_method_16_code (1 : Nat) (Option.some (Jvm.ClassFile.FieldType.object "java/lang/String")), Jvm.Cond.code ({ cls := "com/example/ngazi/ngazi/cli/CommandOption", name := "help", desc := "()Ljava/lang/String;" } : Jvm.MethodName) prog_5_method_7_code (2 : Nat) (Option.some (Jvm.ClassFile.FieldType.object "java/lang/String")), Jvm.Cond.code ({ cls := "com/example/ngazi/ngazi/cli/CommandOption", name := "environmentVariable", desc := "()Ljava/lang/String;" } : Jvm.MethodName) prog_5_method_15_code (1 : Nat) (Option.some (Jvm.ClassFile.FieldType.object "java/lang/String")), Jvm.Cond.code ({ cls := "java/lang/StringBuilder", name := "<init>", desc := "()V" } : Jvm.MethodName) jdk_67_method_1_code (1 : Nat) (Option.none : Option Jvm.ClassFile.FieldType), Jvm.Cond.code ({ cls := "java/lang/AbstractStringBuilder", name := "<init>", desc := "(I)V" } : Jvm.MethodName) jdk_68_method_2_code (2 : Nat) (Option.none : Option Jvm.ClassFile.FieldType), Jvm.Cond.code ({ cls := "java/lang/StringBuilder", name := "append", desc := "(Ljava/lang/String;)Ljava/lang/StringBuilder;" } : Jvm.MethodName) jdk_67_method_7_code (2 : Nat) (Option.some (Jvm.ClassFile.FieldType.object "java/lang/StringBuilder")), Jvm.Cond.code ({ cls := "java/lang/AbstractStringBuilder", name := "append", desc := "(Ljava/lang/String;)Ljava/lang/AbstractStringBuilder;" } : Jvm.MethodName) jdk_68_method_22_code (3 : Nat) (Option.some (Jvm.ClassFile.FieldType.object "java/lang/AbstractStringBuilder")), Jvm.Cond.code ({ cls := "java/lang/String", name := "length", desc := "()I" } : Jvm.MethodName) jdk_42_method_54_code (1 : Nat) (Option.some Jvm.ClassFile.FieldType.int), Jvm.Cond.code ({ cls := "java/lang/String", name := "coder", desc := "()B" } : Jvm.MethodName) jdk_42_method_152_code (1 : Nat) (Option.some Jvm.ClassFile.FieldType.byte), Jvm.Cond.code ({ cls := "java/lang/AbstractStringBuilder", name := "ensureCapacityInternal", desc := "(I)V" } : Jvm.MethodName) jdk_68_method_9_code (3 : Nat) (Option.none : Option Jvm.ClassFile.FieldType), Jvm.Cond.code ({ cls := "java/lang/AbstractStringBuilder", name := "putStringAt", desc := "(ILjava/lang/String;)V" } : Jvm.MethodName) jdk_68_method_73_code (3 : Nat) (Option.none : Option Jvm.ClassFile.FieldType), Jvm.Cond.code ({ cls := "java/lang/AbstractStringBuilder", name := "inflateIfNeededFor", desc := "(Ljava/lang/String;)V" } : Jvm.MethodName) jdk_68_method_71_code (2 : Nat) (Option.none : Option Jvm.ClassFile.FieldType), Jvm.Cond.code ({ cls := "java/lang/String", name := "getBytes", desc := "([BIB)V" } : Jvm.MethodName) jdk_42_method_147_code (4 : Nat) (Option.none : Option Jvm.ClassFile.FieldType), Jvm.Cond.code ({ cls := "java/lang/StringBuilder", name := "toString", desc := "()Ljava/lang/String;" } : Jvm.MethodName) jdk_67_method_42_code (1 : Nat) (Option.some (Jvm.ClassFile.FieldType.object "java/lang/String")), Jvm.Cond.code ({ cls := "java/lang/String", name := "<init>", desc := "(Ljava/lang/StringBuilder;)V" } : Jvm.MethodName) jdk_42_method_53_code (2 : Nat) (Option.none : Option Jvm.ClassFile.FieldType), Jvm.Cond.code ({ cls := "java/lang/String", name := "<init>", desc := "(Ljava/lang/AbstractStringBuilder;Ljava/lang/Void;)V" } : Jvm.MethodName) jdk_42_method_150_code (5 : Nat) (Option.none : Option Jvm.ClassFile.FieldType), Jvm.Cond.code ({ cls := "java/lang/AbstractStringBuilder", name := "getValue", desc := "()[B" } : Jvm.MethodName) jdk_68_method_64_code (1 : Nat) (Option.some (Jvm.ClassFile.FieldType.array Jvm.ClassFile.FieldType.byte)), Jvm.Cond.code ({ cls := "java/lang/StringBuilder", name := "length", desc := "()I" } : Jvm.MethodName) jdk_67_method_93_code (1 : Nat) (Option.some Jvm.ClassFile.FieldType.int), Jvm.Cond.code ({ cls := "java/lang/AbstractStringBuilder", name := "length", desc := "()I" } : Jvm.MethodName) jdk_68_method_6_code (1 : Nat) (Option.some Jvm.ClassFile.FieldType.int), Jvm.Cond.code ({ cls := "java/lang/AbstractStringBuilder", name := "isLatin1", desc := "()Z" } : Jvm.MethodName) jdk_68_method_68_code (1 : Nat) (Option.some Jvm.ClassFile.FieldType.boolean), Jvm.Cond.code ({ cls := "java/util/Arrays", name := "copyOfRange", desc := "([BII)[B" } : Jvm.MethodName) jdk_65_method_132_code (3 : Nat) (Option.some (Jvm.ClassFile.FieldType.array Jvm.ClassFile.FieldType.byte)), Jvm.Cond.code ({ cls := "java/lang/StringLatin1", name := "equals", desc := "([B[B)Z" } : Jvm.MethodName) jdk_43_method_13_code (3 : Nat) (Option.some Jvm.ClassFile.FieldType.boolean)]
set_option maxRecDepth 65536 in
theorem codes_eq : words1.filter isCode = codes1 := rfl
theorem w_codes : ∀ c ∈ words1.filter isCode, c.before args0 about1 = true := by
  rw [codes_eq]
  intro c hc
  simp only [codes1, List.mem_cons, List.not_mem_nil, or_false] at hc
  rcases hc with rfl | rfl | rfl | rfl | rfl | rfl | rfl | rfl | rfl | rfl | rfl | rfl | rfl | rfl | rfl | rfl | rfl | rfl | rfl | rfl | rfl | rfl | rfl | rfl | rfl | rfl | rfl | rfl | rfl | rfl | rfl | rfl | rfl | rfl | rfl | rfl | rfl | rfl | rfl | rfl | rfl | rfl
  · exact w_c0
  · exact w_c1
  · exact w_c2
  · exact w_c3
  · exact w_c4
  · exact w_c5
  · exact w_c6
  · exact w_c7
  · exact w_c8
  · exact w_c9
  · exact w_c10
  · exact w_c11
  · exact w_c12
  · exact w_c13
  · exact w_c14
  · exact w_c15
  · exact w_c16
  · exact w_c17
  · exact w_c18
  · exact w_c19
  · exact w_c20
  · exact w_c21
  · exact w_c22
  · exact w_c23
  · exact w_c24
  · exact w_c25
  · exact w_c26
  · exact w_c27
  · exact w_c28
  · exact w_c29
  · exact w_c30
  · exact w_c31
  · exact w_c32
  · exact w_c33
  · exact w_c34
  · exact w_c35
  · exact w_c36
  · exact w_c37
  · exact w_c38
  · exact w_c39
  · exact w_c40
  · exact w_c41
set_option maxRecDepth 65536 in
theorem w_t1 : (words1.take 24).all (fun c => isCode c || c.before args0 about1) = true := by decide +kernel
set_option maxRecDepth 65536 in
theorem w_t2 : ((words1.drop 24).take 24).all (fun c => isCode c || c.before args0 about1) = true := by decide +kernel
set_option maxRecDepth 65536 in
theorem w_t3 : (((words1.drop 24).drop 24).take 24).all (fun c => isCode c || c.before args0 about1) = true := by decide +kernel
set_option maxRecDepth 65536 in
theorem w_t4 : ((((words1.drop 24).drop 24).drop 24).take 24).all (fun c => isCode c || c.before args0 about1) = true := by decide +kernel
set_option maxRecDepth 65536 in
theorem w_t5 : (((((words1.drop 24).drop 24).drop 24).drop 24).take 24).all (fun c => isCode c || c.before args0 about1) = true := by decide +kernel
set_option maxRecDepth 65536 in
theorem w_t6 : ((((((words1.drop 24).drop 24).drop 24).drop 24).drop 24).take 24).all (fun c => isCode c || c.before args0 about1) = true := by decide +kernel
set_option maxRecDepth 65536 in
theorem w_t7 : (((((((words1.drop 24).drop 24).drop 24).drop 24).drop 24).drop 24).take 24).all (fun c => isCode c || c.before args0 about1) = true := by decide +kernel
set_option maxRecDepth 65536 in
theorem w_t8 : ((((((((words1.drop 24).drop 24).drop 24).drop 24).drop 24).drop 24).drop 24).take 24).all (fun c => isCode c || c.before args0 about1) = true := by decide +kernel
set_option maxRecDepth 65536 in
theorem w_t9 : (((((((((words1.drop 24).drop 24).drop 24).drop 24).drop 24).drop 24).drop 24).drop 24).take 24).all (fun c => isCode c || c.before args0 about1) = true := by decide +kernel
set_option maxRecDepth 65536 in
theorem w_t10 : (((((((((words1.drop 24).drop 24).drop 24).drop 24).drop 24).drop 24).drop 24).drop 24).drop 24).all (fun c => isCode c || c.before args0 about1) = true := by decide +kernel
theorem w_tables : (allAtoms (Jvm.Cond.code x code maxLocals ret :: tables_1)).before args0 about1 = true := by
  rw [allAtoms_all]
  show words1.all (fun c => c.before args0 about1) = true
  refine all_split ?_ w_codes
  rw [← List.take_append_drop 24 words1, List.all_append, w_t1, ← List.take_append_drop 24 (words1.drop 24), List.all_append, w_t2, ← List.take_append_drop 24 ((words1.drop 24).drop 24), List.all_append, w_t3, ← List.take_append_drop 24 (((words1.drop 24).drop 24).drop 24), List.all_append, w_t4, ← List.take_append_drop 24 ((((words1.drop 24).drop 24).drop 24).drop 24), List.all_append, w_t5, ← List.take_append_drop 24 (((((words1.drop 24).drop 24).drop 24).drop 24).drop 24), List.all_append, w_t6, ← List.take_append_drop 24 ((((((words1.drop 24).drop 24).drop 24).drop 24).drop 24).drop 24), List.all_append, w_t7, ← List.take_append_drop 24 (((((((words1.drop 24).drop 24).drop 24).drop 24).drop 24).drop 24).drop 24), List.all_append, w_t8, ← List.take_append_drop 24 ((((((((words1.drop 24).drop 24).drop 24).drop 24).drop 24).drop 24).drop 24).drop 24), List.all_append, w_t9, w_t10]
  rfl
set_option maxRecDepth 65536 in
theorem w_rest : rest_1_c.before args0 about1 = true := by decide +kernel
set_option maxRecDepth 65536 in
theorem w_case : (Jvm.Cond.and given_1 narrow_1).before args0 about1 = true := by decide +kernel
set_option maxRecDepth 65536 in
theorem w_consts : constsHeld consts_1 about1 := Jvm.Lit.constsHeldB_iff.mp (by decide +kernel)
theorem w_applies : (headSpec (Jvm.Cond.code x code maxLocals ret :: tables_1) room_1).applies x e0.platform about1 = true :=
  (Spec.applies_iff w_frames).mpr ⟨w_running, w_runnable, w_alone, w_named, w_hears, w_ripe, w_room, w_tables⟩
theorem atStart : AtStart classFile x code maxLocals ret World_1 tables_1 room_1 Calls_1 rest_1 Pre_1 launch0 p0 e0 about1 theMethod args0 below0 :=
  ⟨lists_1, trivial, launch0.admits_env _ _ _, launch0.least_env, fairChoices_fair.cas, fairChoices_fair.clock, w_frames, w_args, w_heap, w_applies, ⟨w_consts, trivial⟩, w_rest, w_case⟩
end start1
theorem witness_1 : WitnessClaimed_1 := ⟨start1.p0, start1.e0, start1.about1, start1.theMethod, start1.args0, start1.below0, start1.atStart⟩
end Jvm.Pilot.@@N@@
