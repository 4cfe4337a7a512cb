import JvmDerived
import JvmDerived.Pilot.@@N@@Statement
import JvmDerived.Pilot.@@N@@Code
set_option linter.unusedVariables false
set_option linter.unusedSimpArgs false
set_option maxRecDepth 65536
set_option maxHeartbeats 40000000
namespace Jvm.RoadKit
open Sem ClassFile Op Lib Jvm.Stand Jvm.Free Jvm.LawKit
section New
variable {p : Program} {l : Launch} {e : Env} {R : Room} {s : State} {m : MethodId} {args : Array Value} {below : List Frame} {meth : Method} {c : Code} {T : State} {locs : List Loc} {cells slots : Nat}
theorem retI (X : Stand p l e R s m args below meth c T locs cells slots) (hx : p.tables.exec = Jvm.exec) {pc : Nat} {Ls : Array Slot} {z : Int32} {rest : List Value} (hret : meth.sig.returnType = some .int) (hd : decode c.code pc = .ok (.ireturn, 1)) {fs : List Frame}
    (hl : ∀ (f : JFrame) (acts : List Action), f.method = m → f.locked = none → f.entered = [] → (doReturn e (T.setTop f) acts (some (.int z))).1 = T.setFrames fs) : Steps p.tables e below (T.setTop (mkF m pc Ls (.int z :: rest))) (T.setFrames fs) := by
  have hm' : T.vm.method? m = some meth := X.method'
  have hn : narrow .int (.int z) = .int z := rfl
  show Steps p.tables e below (T.setTop { method := m, pc := pc, locals := Ls, stack := _ :: rest, locked := none }) _
  jvm_step X.here [X.here.top, hx, hd, hm', hret, hn]
  first | (intro acts; rw [hl _ acts rfl rfl rfl]) | rw [hl _ _ rfl rfl rfl]
  exact Steps.refl _
end New
end Jvm.RoadKit
namespace Jvm.Pilot.@@N@@
open Jvm Jvm.ClassFile Sem Op Lib Jvm.Free Jvm.Stand Jvm.LawKit Jvm.RoadKit Bundle Jvm.Pilot.@@N@@.Jvm.D
abbrev GG (p : Program) (e : Env) (below : List Frame) (T : State) (g : JFrame) (t : State) : Prop := Steps p.tables e below (T.setTop g) t
abbrev HW (a0 : Array Value) (Z : State) : Prop := ∀ d ∈ tables_1, d.before a0 Z = true
abbrev cS : String := "java/lang/String"
abbrev cB : String := "java/lang/StringBuilder"
abbrev cA : String := "java/lang/AbstractStringBuilder"
abbrev i0 : Value := .int (0 : Int32)
abbrev SU1 (Z : State) : Prop := Sta Z Z.heap "java/lang/StringUTF16" "$assertionsDisabled" "Z" (.int 1)
abbrev SU2 (Z : State) : Prop := Sta Z Z.heap "java/lang/StringUTF16" "HI_BYTE_SHIFT" "I" (.int 0)
abbrev SU3 (Z : State) : Prop := Sta Z Z.heap "java/lang/StringUTF16" "LO_BYTE_SHIFT" "I" (.int 8)
abbrev SU4 (Z : State) (G1 : Int32) : Prop := Sta Z Z.heap "java/lang/String" "COMPACT_STRINGS" "Z" (.int G1)
abbrev MetP (l : Launch) (Z : State) (y : MethodName) (b : ByteArray) (ml : Nat) (rt : Option FieldType) (R : Room) (ws : List Jvm.Cond) (A : Array Value) (h0 : Heap) (Q : Option Value → Heap → List Loc → Prop) : Prop :=
  MetFree l y (head1 (Jvm.Cond.code y b ml rt :: ws) R) (fun a U => a = A ∧ Z.Warmed39 U.vm ∧ U.heap = h0) (fun _ _ _ _ _ => True) (fun _ U o U' => ∃ v L, o = .returned v ∧ Q v U'.heap L ∧ FrameEnd U o U' L R.cells R.slots)
abbrev MetQ (l : Launch) (Z : State) (y : MethodName) (b : ByteArray) (ml : Nat) (rt : Option FieldType) (R : Room) (ws : List Jvm.Cond) (A : Array Value) (h0 : Heap) (EL : List (String × Nat)) (Q : Option Value → Heap → List Loc → Prop) : Prop :=
  MetFree l y (head1 (Jvm.Cond.code y b ml rt :: ws) R) (fun a U => a = A ∧ Z.Warmed39 U.vm ∧ U.heap = h0 ∧ CHv Z EL U.vm h0) (fun _ _ _ _ _ => True) (fun _ U o U' => ∃ v L, o = .returned v ∧ Q v U'.heap L ∧ CHr Z EL U.vm U.heap U'.vm U'.heap ∧ ReturnedEndW U o U' L R.cells R.slots)
abbrev MetS (l : Launch) (Z : State) (y : MethodName) (b : ByteArray) (ml : Nat) (rt : Option FieldType) (R : Room) (ws : List Jvm.Cond) (A : Array Value) (h0 : Heap) (EL : List (String × Nat)) (Sf : List Addr) (Q : Option Value → Heap → List Loc → Prop) : Prop :=
  MetFree l y (head1 (Jvm.Cond.code y b ml rt :: ws) R) (fun a U => a = A ∧ Z.Warmed39 U.vm ∧ U.heap = h0 ∧ CHv Z EL U.vm h0 ∧ ∀ x ∈ Sf, Safe Z EL U.vm h0 x) (fun _ _ _ _ _ => True) (fun _ U o U' => ∃ v L, o = .returned v ∧ Q v U'.heap L ∧ CHr Z EL U.vm U.heap U'.vm U'.heap ∧ ReturnedEndW U o U' L R.cells R.slots)
abbrev MetW (l : Launch) (Z : State) (y : MethodName) (b : ByteArray) (ml : Nat) (rt : Option FieldType) (R : Room) (hs : List (Nat × Nat × Nat × Nat)) (ws : List Jvm.Cond) (A : Array Value) (h0 : Heap) (Q : Option Value → Heap → List Loc → Prop) : Prop :=
  MetFree l y (head1 (Jvm.Cond.codeWith y b ml rt hs :: ws) R) (fun a U => a = A ∧ Z.Warmed39 U.vm ∧ U.heap = h0) (fun _ _ _ _ _ => True) (fun _ U o U' => ∃ v L, o = .returned v ∧ Q v U'.heap L ∧ FrameEnd U o U' L R.cells R.slots)
abbrev QT := Heap → Nat → Option Value → Heap → List Loc → Prop
theorem zT {n0 : Nat} {h h' : Heap} (a : n0 ≤ h.size) (b : h.size ≤ h'.size) : n0 ≤ h'.size := Nat.le_trans a b
theorem mi {α : Type} {l : List α} {a : α} (i : Nat) (h : l[i]? = some a := by rfl) : a ∈ l := List.mem_of_getElem? h
theorem Kt1 {h0 h h' : Heap} {ws : List Addr} {b : Addr} (K : Keep h0 h ws) (Kc : Keep h h' [b]) (q : b ∈ ws ∨ h0.size ≤ b) : Keep h0 h' ws := K.trans Kc (allS (P := fun x => x ∈ ws ∨ h0.size ≤ x) q all0)
theorem Kt2 {h0 h h' : Heap} {ws : List Addr} {b d : Addr} (K : Keep h0 h ws) (Kc : Keep h h' [b, d]) (q : b ∈ ws ∨ h0.size ≤ b) (r : d ∈ ws ∨ h0.size ≤ d) : Keep h0 h' ws := K.trans Kc (allS (P := fun x => x ∈ ws ∨ h0.size ≤ x) q (allS r all0))
theorem exi {α : Type} (a : α) : ∃ z, z = a := ⟨a, rfl⟩
theorem neL {a b n : Nat} (h : a < n) (k : n ≤ b) : a ≠ b := Nat.ne_of_lt (Nat.lt_of_lt_of_le h k)
abbrev PP (p : Program) (e : Env) (below : List Frame) (T : State) (g : JFrame) (s0 : State) : Prop := ∀ t, Steps p.tables e below (T.setTop g) t → Steps p.tables e below s0 t
abbrev PP.g {p : Program} {e : Env} {below : List Frame} {T : State} {g : JFrame} {s0 : State} (_ : PP p e below T g s0) : JFrame := g
section Steps1
variable {p : Program} {l : Launch} {e : Env} {R : Room} {s : State} {m : MethodId} {args : Array Value} {below : List Frame} {meth : Method} {c : Code} {T T' s0 : State} {L : List Loc} {cells slots : Nat} {g g' : JFrame}
theorem PP.st (P : PP p e below T g s0) (st : ∀ target, Steps p.tables e below (T'.setTop g') target → Steps p.tables e below (T.setTop g) target) : PP p e below T' g' s0 := fun t k => P t (st t k)
theorem PP.tr (P : PP p e below T g s0) (st : Steps p.tables e below (T.setTop g) (T'.setTop g')) : PP p e below T' g' s0 := fun t k => P t (st.trans k)
theorem fixL {n0 : Nat} (X : Stand p l e R s m args below meth c T L cells slots) (N : Fr n0 L) (c' s' : Nat) (hc : cells = c') (hs : slots = s') : ∃ Lf, Stand p l e R s m args below meth c T Lf c' s' ∧ Fr n0 Lf := ⟨L, hc ▸ hs ▸ X, N⟩
/-- a plain instruction's work on the frame -/
def st1 : Instr × Nat → JFrame → Option JFrame
  | (.aload_n k, 1), g => match g.locals[k.val]? with
    | some (.val v) => if v.isRef = true then some { g with pc := g.pc + 1, stack := v :: g.stack } else none
    | _ => none
  | (.aload k, 2), g => match g.locals[k]? with
    | some (.val v) => if v.isRef = true then some { g with pc := g.pc + 2, stack := v :: g.stack } else none
    | _ => none
  | (.iload_n k, 1), g => match g.locals[k.val]? with
    | some (.val (.int v)) => some { g with pc := g.pc + 1, stack := .int v :: g.stack }
    | _ => none
  | (.iload k, 2), g => match g.locals[k]? with
    | some (.val (.int v)) => some { g with pc := g.pc + 2, stack := .int v :: g.stack }
    | _ => none
  | (.iconst i, 1), g => some { g with pc := g.pc + 1, stack := .int (Int32.ofInt i) :: g.stack }
  | (.bipush i, 2), g => some { g with pc := g.pc + 2, stack := .int (Int8.ofInt i).toInt32 :: g.stack }
  | (.sipush i, 3), g => some { g with pc := g.pc + 3, stack := .int (Int16.ofInt i).toInt32 :: g.stack }
  | (.aconst_null, 1), g => some { g with pc := g.pc + 1, stack := .null :: g.stack }
  | (.iadd, 1), g => match g.stack with
    | .int y :: .int x :: r => some { g with pc := g.pc + 1, stack := .int (x + y) :: r }
    | _ => none
  | (.isub, 1), g => match g.stack with
    | .int y :: .int x :: r => some { g with pc := g.pc + 1, stack := .int (x - y) :: r }
    | _ => none
  | (.imul, 1), g => match g.stack with
    | .int y :: .int x :: r => some { g with pc := g.pc + 1, stack := .int (x * y) :: r }
    | _ => none
  | (.iand, 1), g => match g.stack with
    | .int y :: .int x :: r => some { g with pc := g.pc + 1, stack := .int (x &&& y) :: r }
    | _ => none
  | (.ior, 1), g => match g.stack with
    | .int y :: .int x :: r => some { g with pc := g.pc + 1, stack := .int (x ||| y) :: r }
    | _ => none
  | (.ixor, 1), g => match g.stack with
    | .int y :: .int x :: r => some { g with pc := g.pc + 1, stack := .int (x ^^^ y) :: r }
    | _ => none
  | (.ishl, 1), g => match g.stack with
    | .int y :: .int x :: r => some { g with pc := g.pc + 1, stack := .int (x <<< (y &&& 31)) :: r }
    | _ => none
  | (.ishr, 1), g => match g.stack with
    | .int y :: .int x :: r => some { g with pc := g.pc + 1, stack := .int (x >>> (y &&& 31)) :: r }
    | _ => none
  | (.ineg, 1), g => match g.stack with
    | .int x :: r => some { g with pc := g.pc + 1, stack := .int (-x) :: r }
    | _ => none
  | (.i2b, 1), g => match g.stack with
    | .int x :: r => some { g with pc := g.pc + 1, stack := .int (x.toInt8.toInt32) :: r }
    | _ => none
  | (.i2c, 1), g => match g.stack with
    | .int x :: r => some { g with pc := g.pc + 1, stack := .int (x.toUInt32.toUInt16.toUInt32.toInt32) :: r }
    | _ => none
  | (.dup, 1), g => match g.stack with
    | x :: r => if x.category = 1 then some { g with pc := g.pc + 1, stack := x :: x :: r } else none
    | _ => none
  | (.pop, 1), g => match g.stack with
    | x :: r => if x.category = 1 then some { g with pc := g.pc + 1, stack := r } else none
    | _ => none
  | (.istore_n k, 1), g => match g.stack with
    | .int x :: r => match storeLocals g.locals k.val (.int x) with
      | some l' => some { g with pc := g.pc + 1, stack := r, locals := l' }
      | none => none
    | _ => none
  | (.istore k, 2), g => match g.stack with
    | .int x :: r => match storeLocals g.locals k (.int x) with
      | some l' => some { g with pc := g.pc + 2, stack := r, locals := l' }
      | none => none
    | _ => none
  | (.astore_n k, 1), g => match g.stack with
    | x :: r => if x.isRef = true then (match storeLocals g.locals k.val x with
      | some l' => some { g with pc := g.pc + 1, stack := r, locals := l' }
      | none => none) else none
    | _ => none
  | (.astore k, 2), g => match g.stack with
    | x :: r => if x.isRef = true then (match storeLocals g.locals k x with
      | some l' => some { g with pc := g.pc + 2, stack := r, locals := l' }
      | none => none) else none
    | _ => none
  | (.iinc k z, 3), g => match g.locals[k]? with
    | some (.val (.int x)) => match storeLocals g.locals k (.int (x + Int32.ofInt z)) with
      | some l' => some { g with pc := g.pc + 3, locals := l' }
      | none => none
    | _ => none
  | (.goto o, 3), g => if 0 ≤ (g.pc : Int) + o then some { g with pc := ((g.pc : Int) + o).toNat } else none
  | _, _ => none
def nxt (i : Instr × Nat) (pc : Nat) : Nat := match i.1 with
  | .goto o => ((pc : Int) + o).toNat
  | _ => pc + i.2
theorem st1_ok {i : Instr × Nat} (A : At T m c below) (hx : p.tables.exec = Jvm.exec) (hg : g.method = m) (hd : decode c.code g.pc = .ok i) (h : st1 i g = some g') : g'.method = m ∧ g'.pc = nxt i g.pc ∧ ∀ t, Steps p.tables e below (T.setTop g') t → Steps p.tables e below (T.setTop g) t := by
  unfold st1 at h
  split at h
  · split at h
    · rename_i v hl; split at h
      · rename_i hv; cases h; exact ⟨hg, rfl, fun t hr => XS.aloadN A hx hg hd hl hv hr⟩
      · cases h
    · cases h
  · split at h
    · rename_i v hl; split at h
      · rename_i hv; cases h; exact ⟨hg, rfl, fun t hr => XS.aload A hx hg hd hl hv hr⟩
      · cases h
    · cases h
  · split at h
    · rename_i v hl; cases h; exact ⟨hg, rfl, fun t hr => XS.iloadN A hx hg hd hl hr⟩
    · cases h
  · split at h
    · rename_i v hl; cases h; exact ⟨hg, rfl, fun t hr => XS.iload A hx hg hd hl hr⟩
    · cases h
  · cases h; exact ⟨hg, rfl, fun t hr => XS.iconst A hx hg hd hr⟩
  · cases h; exact ⟨hg, rfl, fun t hr => XS.bipush A hx hg hd hr⟩
  · cases h; exact ⟨hg, rfl, fun t hr => XS.sipush A hx hg hd hr⟩
  · cases h; exact ⟨hg, rfl, fun t hr => XS.aconstNull A hx hg hd hr⟩
  · split at h
    · rename_i y x r hs; cases h; exact ⟨hg, rfl, fun t hr => XS.iadd A hx hg hd hs hr⟩
    · cases h
  · split at h
    · rename_i y x r hs; cases h; exact ⟨hg, rfl, fun t hr => XS.isub A hx hg hd hs hr⟩
    · cases h
  · split at h
    · rename_i y x r hs; cases h; exact ⟨hg, rfl, fun t hr => XS.imul A hx hg hd hs hr⟩
    · cases h
  · split at h
    · rename_i y x r hs; cases h; exact ⟨hg, rfl, fun t hr => XS.iand A hx hg hd hs hr⟩
    · cases h
  · split at h
    · rename_i y x r hs; cases h; exact ⟨hg, rfl, fun t hr => XS.ior A hx hg hd hs hr⟩
    · cases h
  · split at h
    · rename_i y x r hs; cases h; exact ⟨hg, rfl, fun t hr => XS.ixor A hx hg hd hs hr⟩
    · cases h
  · split at h
    · rename_i y x r hs; cases h; exact ⟨hg, rfl, fun t hr => XS.ishl A hx hg hd hs hr⟩
    · cases h
  · split at h
    · rename_i y x r hs; cases h; exact ⟨hg, rfl, fun t hr => XS.ishr A hx hg hd hs hr⟩
    · cases h
  · split at h
    · rename_i x r hs; cases h; exact ⟨hg, rfl, fun t hr => XS.ineg A hx hg hd hs hr⟩
    · cases h
  · split at h
    · rename_i x r hs; cases h; exact ⟨hg, rfl, fun t hr => XS.i2b A hx hg hd hs hr⟩
    · cases h
  · split at h
    · rename_i x r hs; cases h; exact ⟨hg, rfl, fun t hr => XS.i2c A hx hg hd hs hr⟩
    · cases h
  · split at h
    · rename_i x r hs; split at h
      · rename_i hc; cases h; exact ⟨hg, rfl, fun t hr => XS.dup A hx hg hd hs hc hr⟩
      · cases h
    · cases h
  · split at h
    · rename_i x r hs; split at h
      · rename_i hc; cases h; exact ⟨hg, rfl, fun t hr => XS.pop A hx hg hd hs hc hr⟩
      · cases h
    · cases h
  · split at h
    · rename_i x r hs; split at h
      · rename_i l' hl; cases h; exact ⟨hg, rfl, fun t hr => XS.istoreN A hx hg hd hs hl hr⟩
      · cases h
    · cases h
  · split at h
    · rename_i x r hs; split at h
      · rename_i l' hl; cases h; exact ⟨hg, rfl, fun t hr => XS.istore A hx hg hd hs hl hr⟩
      · cases h
    · cases h
  · split at h
    · rename_i x r hs; split at h
      · rename_i hv; split at h
        · rename_i l' hl; cases h; exact ⟨hg, rfl, fun t hr => XS.astoreN A hx hg hd hs hv hl hr⟩
        · cases h
      · cases h
    · cases h
  · split at h
    · rename_i x r hs; split at h
      · rename_i hv; split at h
        · rename_i l' hl; cases h; exact ⟨hg, rfl, fun t hr => XS.astore A hx hg hd hs hv hl hr⟩
        · cases h
      · cases h
    · cases h
  · split at h
    · rename_i x hl; split at h
      · rename_i l' hl'; cases h; exact ⟨hg, rfl, fun t hr => XS.iinc A hx hg hd hl hl' hr⟩
      · cases h
    · cases h
  · split at h
    · rename_i ho; cases h; exact ⟨hg, rfl, fun t hr => XS.goto A hx hg rfl hd ho rfl hr⟩
    · cases h
  · cases h
def dl (b : ByteArray) : Nat → List (Instr × Nat) → Bool
  | _, [] => true
  | pc, i :: r => decide (decode b pc = .ok i) && dl b (nxt i pc) r
def runL : List (Instr × Nat) → JFrame → Option JFrame
  | [], g => some g
  | i :: r, g => match st1 i g with
    | some g' => runL r g'
    | none => none
theorem runL_ok {b : ByteArray} (A : At T m c below) (hx : p.tables.exec = Jvm.exec) (hby : c.code = b) : ∀ (Li : List (Instr × Nat)) (g : JFrame), g.method = m → dl b g.pc Li = true → runL Li g = some g' → ∀ t, Steps p.tables e below (T.setTop g') t → Steps p.tables e below (T.setTop g) t
  | [], g, hg, hd, h, t, hr => by cases h; exact hr
  | i :: r, g, hg, hd, h, t, hr => by
    have hd' : (decide (decode b g.pc = .ok i) && dl b (nxt i g.pc) r) = true := hd
    rw [Bool.and_eq_true, decide_eq_true_eq] at hd'
    have h' : (match st1 i g with | some g' => runL r g' | none => none) = some g' := h
    split at h'
    · rename_i g1 h1
      obtain ⟨k1, k2, k3⟩ := st1_ok (e := e) A hx hg (hby ▸ hd'.1) h1
      exact k3 t (runL_ok A hx hby r g1 k1 (k2 ▸ hd'.2) h' t hr)
    · cases h'
theorem bt {t : State} {b : ByteArray} {Li : List (Instr × Nat)} (X : Stand p l e R s m args below meth c T L cells slots) (hx : p.tables.exec = Jvm.exec) (hby : c.code = b) (hd : dl b g.pc Li = true) (h : runL Li g = some g') (hr : Steps p.tables e below (T.setTop g') t) (hg : g.method = m := by rfl) : Steps p.tables e below (T.setTop g) t := runL_ok X.here hx hby Li g hg hd h t hr
theorem PP.bt {b : ByteArray} {Li : List (Instr × Nat)} (P : PP p e below T g s0) (X : Stand p l e R s m args below meth c T L cells slots) (hx : p.tables.exec = Jvm.exec) (hby : c.code = b) (hd : dl b g.pc Li = true) (h : runL Li g = some g') (hg : g.method = m := by rfl) : PP p e below T g' s0 := fun t k => P t (Jvm.Pilot.@@N@@.bt X hx hby hd h k hg)
end Steps1
theorem ww {a0 : Array Value} {Z : State} (hw : HW a0 Z) (i : Nat) {d : Jvm.Cond} (h : tables_1[i]? = some d) : d.before a0 Z = true := hw d (List.mem_of_getElem? h)
theorem own_decl {a0 : Array Value} {Z : State} {y : MethodName} {bytes : ByteArray} {maxL : Nat} {ret : Option FieldType} (hi : (Cond.instanceMethod y).before a0 Z = true) (hc : (Cond.code y bytes maxL ret).before a0 Z = true) : (Cond.declares y).before a0 Z = true := by
  obtain ⟨mk, methM, hnamed, hmethM, hst, hab⟩ := Cond.instanceMethod_spec hi
  obtain ⟨meth, c, h1, -, -, -, -, -, -, hsig⟩ := Cond.code_spec hnamed hc
  cases hmethM.symm.trans h1
  simp [Cond.before, Cond.holds, Cond.value, hnamed, hmethM, hst, hsig]
theorem own_nf {args : Array Value} {s : State} {C : String} {y y' z' : MethodName} (hsel : (Cond.selects C y' z').before args s = true) (e : z'.cls = y.cls) : NotFace s y := fun r0 h0 => by
  obtain ⟨c2, r2, m2, q1, q2, q3, q4, kP, hkP, hkPi⟩ := Cond.selects_spec hsel
  have f1 := findClass_of_methodNamed h0
  have f2 := findClass_of_methodNamed q3
  rw [e, f1] at f2
  have f3 : r0.cls = m2.cls := Option.some.inj f2
  exact ⟨kP, by rw [f3]; exact hkP, hkPi⟩
theorem own_same {a0 : Array Value} {Z : State} {C : String} {y y' : MethodName} (hd : (Cond.declares y).before a0 Z = true) (hsel : (Cond.selects C y' y').before a0 Z = true) (e : y'.cls = y.cls) (hy : y.cls ≠ "java/lang/invoke/MethodHandle" ∧ y.cls ≠ "java/lang/invoke/VarHandle") : (Cond.sameMethod y.cls y.cls y.name y.desc).before a0 Z = true := by
  obtain ⟨r0, r, hn, hrm, hst, hsig⟩ := Cond.declares_spec hd
  obtain ⟨k, hk, hki⟩ := own_nf hsel e r0 hn
  have f1 := findClass_of_methodNamed hn
  have mf := State.methodFound?_of_named hn hy
  simp [Cond.before, Cond.holds, Cond.value, f1, mf, hn, hk, hki]
theorem mw {d : Jvm.Cond} {Z s : State} {a0 args : Array Value} (hZ : Z.Warmed39 s.vm) (hw : ∀ d ∈ tables_1, d.before a0 Z = true) (i : Nat) (h : tables_1[i]? = some d) (hd : (d.onTables && d.keepsFace) = true := by first | rfl | simp [Cond.onTables, Cond.keepsFace, Cond.keeps, Cond.steady]) : d.before args s = true := mvT hZ (hw d (List.mem_of_getElem? h)) hd
section Calls1
variable {p : Program} {l : Launch} {e : Env} {R : Room} {s : State} {m : MethodId} {args : Array Value} {below : List Frame} {meth : Method} {c : Code} {T s0 Z : State} {locs : List Loc} {cells slots : Nat} {g : JFrame} {a0 : Array Value} {h : Heap}
  {own : String} {index : Nat} {y : MethodName} {bytes : ByteArray} {maxL : Nat} {ret : Option FieldType} {rm : Room} {as' : Array Value} {Q : Option Value → Heap → List Loc → Prop}
abbrev Fine (y : MethodName) (maxL W : Nat) (rm R : Room) (cells slots : Nat) : Prop := (y.cls ≠ "java/lang/invoke/MethodHandle" ∧ y.cls ≠ "java/lang/invoke/VarHandle") ∧ rm.frames + 1 ≤ R.frames ∧ W + (maxL + 11) + rm.locals ≤ R.locals ∧ cells + rm.cells ≤ R.cells ∧ slots + rm.slots ≤ R.slots
/-- a static call by its contract -/
theorem cSt (P : PP p e below T g s0) (X : Stand p l e R s m args below meth c T locs cells slots) (hx : p.tables.exec = Jvm.exec) (hZ : Z.Warmed39 s.vm) (hown : s.vm.findClass own = some m.cls) (hw : HW a0 Z) (eT : T.heap = h) {ml : Nat} (hml : c.maxLocals = ml) (i1 i2 i3 i4 : Nat) (hM : MetP l Z y bytes maxL ret rm [] as' h Q)
    (q1 : tables_1[i1]? = some (.methodLink own index y)) (q2 : tables_1[i2]? = some (.static y)) (q3 : tables_1[i3]? = some (.initialized y.cls)) (q4 : tables_1[i4]? = some (.code y bytes maxL ret))
    (hg : g.method = m) (hsz : g.locals.size = ml) (argsL rest : List Value) (W : Nat) (hlen : ∀ sig, parseMethodDescriptor y.desc = some sig → argsL.length = sig.parameters.length) (hs : g.stack = argsL.reverse ++ rest) (hW : 2 * g.monitorRoom + (rest.map fun v => v.category).sum ≤ W) (hd : decode c.code g.pc = .ok (.invokestatic index, 3)) (ha : argsL.toArray = as')
    (hf : Fine y maxL W rm R cells slots) :
    ∃ (v : Option Value) (T' : State) (L : List Loc), Stand p l e R s m args below meth c T' (locs ++ L) (cells + rm.cells) (slots + rm.slots) ∧ Q v T'.heap L ∧ PP p e below T' { g with pc := g.pc + 3, stack := v.toList ++ rest } s0 := by
  obtain ⟨v, _, ⟨T', L', k', n'⟩, -, X', ⟨L, hQ, hl, hk, hn⟩, st⟩ := Jvm.LawKit.callS X hx (y := y) hown (mvT hZ (ww hw i1 q1)) (mvT hZ (ww hw i2 q2)) (mvT hZ (ww hw i3 q3)) (mvT hZ (ww hw i4 q4)) hf.1 (backOf (W := W) hM hZ (ww hw i4 q4) (ww hw i3 q3) hf.2.1 hf.2.2.1) hg (hsz.trans hml.symm) (argsL := argsL) (rest := rest) hlen hs hW hd (fun _ _ => ⟨ha, eT, hf.2.2.2.1, hf.2.2.2.2⟩)
  dsimp only [Pt.U, Pt.locs, Pt.cells, Pt.slots] at X' hl hk hn st hQ
  subst hl hk hn
  exact ⟨v, T', L, X', hQ, P.st st⟩
/-- a virtual call of a method that the receiver's class selects as it is named -/
theorem cVi {C : String} {b : Addr} (P : PP p e below T g s0) (X : Stand p l e R s m args below meth c T locs cells slots) (hx : p.tables.exec = Jvm.exec) (hZ : Z.Warmed39 s.vm) (hown : s.vm.findClass own = some m.cls) (hw : HW a0 Z) (eT : T.heap = h) (E : Exa Z h b C) {ml : Nat} (hml : c.maxLocals = ml) (i1 i2 i3 i4 i5 : Nat) (hM : MetP l Z y bytes maxL ret rm [] as' h Q)
    (q1 : tables_1[i1]? = some (.methodLink own index y)) (q2 : tables_1[i2]? = some (.selects C y y)) (q3 : tables_1[i3]? = some (.instanceMethod y)) (q4 : tables_1[i4]? = some (.code y bytes maxL ret)) (q5 : tables_1[i5]? = some (.initialized y.cls))
    (hg : g.method = m) (hsz : g.locals.size = ml) (argsL rest : List Value) (W : Nat) (hlen : ∀ sig, parseMethodDescriptor y.desc = some sig → argsL.length = sig.parameters.length) (hs : g.stack = argsL.reverse ++ .ref b :: rest) (hW : 2 * g.monitorRoom + (rest.map fun v => v.category).sum ≤ W) (hd : decode c.code g.pc = .ok (.invokevirtual index, 3)) (ha : (.ref b :: argsL).toArray = as')
    (hf : Fine y maxL W rm R cells slots) :
    ∃ (v : Option Value) (T' : State) (L : List Loc), Stand p l e R s m args below meth c T' (locs ++ L) (cells + rm.cells) (slots + rm.slots) ∧ Q v T'.heap L ∧ PP p e below T' { g with pc := g.pc + 3, stack := v.toList ++ rest } s0 := by
  obtain ⟨cB, kB, hcB, -, hr⟩ := isOf hZ eT E
  obtain ⟨v, _, ⟨T', L', k', n'⟩, -, X', ⟨L, hQ, hl, hk, hn⟩, st⟩ := X.virtualBack hx (y := y) (z := y) hown (mvT hZ (ww hw i1 q1)) (mvT hZ (own_decl (ww hw i3 q3) (ww hw i4 q4))) (notFace_of_selects (args := #[]) (mvT hZ (ww hw i2 q2))) (mvT hZ (ww hw i2 q2)) (mvT hZ (ww hw i3 q3)) hf.1 (backOf (W := W) hM hZ (ww hw i4 q4) (ww hw i5 q5) hf.2.1 hf.2.2.1) hcB hr hg (hsz.trans hml.symm) (Steps.refl _) (argsL := argsL) (rest := rest) hlen hs hW hd (fun _ _ => ⟨ha, eT, hf.2.2.2.1, hf.2.2.2.2⟩)
  dsimp only [Pt.U, Pt.locs, Pt.cells, Pt.slots] at X' hl hk hn st hQ
  subst hl hk hn
  exact ⟨v, T', L, X', hQ, P.tr st⟩
/-- a constructor's call -/
theorem cIn {b : Addr} (P : PP p e below T g s0) (X : Stand p l e R s m args below meth c T locs cells slots) (hx : p.tables.exec = Jvm.exec) (hZ : Z.Warmed39 s.vm) (hown : s.vm.findClass own = some m.cls) (hw : HW a0 Z) (eT : T.heap = h) {ml : Nat} (hml : c.maxLocals = ml) (i1 i3 i4 i5 : Nat) (hM : MetP l Z y bytes maxL none rm [] as' h Q)
    (q1 : tables_1[i1]? = some (.methodLink own index y)) (q3 : tables_1[i3]? = some (.instanceMethod y)) (q4 : tables_1[i4]? = some (.code y bytes maxL none)) (q5 : tables_1[i5]? = some (.initialized y.cls)) (hy : y.name = "<init>")
    (hg : g.method = m) (hsz : g.locals.size = ml) (argsL rest : List Value) (W : Nat) (hlen : ∀ sig, parseMethodDescriptor y.desc = some sig → argsL.length = sig.parameters.length) (hs : g.stack = argsL.reverse ++ .ref b :: rest) (hW : 2 * g.monitorRoom + (rest.map fun v => v.category).sum ≤ W) (hd : decode c.code g.pc = .ok (.invokespecial index, 3)) (ha : (.ref b :: argsL).toArray = as')
    (hf : Fine y maxL W rm R cells slots) :
    ∃ (v : Option Value) (T' : State) (L : List Loc), Stand p l e R s m args below meth c T' (locs ++ L) (cells + rm.cells) (slots + rm.slots) ∧ Q v T'.heap L ∧ PP p e below T' { g with pc := g.pc + 3, stack := v.toList ++ rest } s0 := by
  obtain ⟨v, _, ⟨T', L', k', n'⟩, -, X', ⟨L, hQ, hl, hk, hn⟩, st⟩ := X.specialBack hx (y := y) hy hown (mvT hZ (ww hw i1 q1)) (mvT hZ (ww hw i3 q3)) (mvT hZ (ww hw i4 q4)) hf.1 (backOf (W := W) hM hZ (ww hw i4 q4) (ww hw i5 q5) hf.2.1 hf.2.2.1) hg (hsz.trans hml.symm) (Steps.refl _) (a := b) (argsL := argsL) (rest := rest) hlen hs hW hd (fun _ _ => ⟨ha, eT, hf.2.2.2.1, hf.2.2.2.2⟩)
  dsimp only [Pt.U, Pt.locs, Pt.cells, Pt.slots] at X' hl hk hn st hQ
  subst hl hk hn
  exact ⟨v, T', L, X', hQ, P.tr st⟩
theorem gF {O n d : String} {a : Addr} {v : Value} {rest : List Value} (P : PP p e below T g s0) (X : Stand p l e R s m args below meth c T locs cells slots) (hx : p.tables.exec = Jvm.exec) (hZ : Z.Warmed39 s.vm) (hown : s.vm.findClass own = some m.cls) (hw : HW a0 Z) (i : Nat) (eT : T.heap = h) (F : Fld Z h a O n d v) (hd : decode c.code g.pc = .ok (.getfield index, 3))
    (q : tables_1[i]? = some (.fieldLink own index O n d) := by rfl) (hg : g.method = m := by rfl) (hs : g.stack = .ref a :: rest := by rfl) : ∃ T', Stand p l e R s m args below meth c T' locs cells slots ∧ T'.heap = h ∧ PP p e below T' { g with pc := g.pc + 3, stack := v :: rest } s0 := by
  obtain ⟨T', X', e', st⟩ := getF X hx hZ hown (host := "") (Or.inl (ww hw i q)) Via.refl eT F hg hs hd
  exact ⟨T', X', e', P.st st⟩
theorem gS {O n d : String} {v : Value} (P : PP p e below T g s0) (X : Stand p l e R s m args below meth c T locs cells slots) (hx : p.tables.exec = Jvm.exec) (hZ : Z.Warmed39 s.vm) (hown : s.vm.findClass own = some m.cls) (hw : HW a0 Z) (i : Nat) (eT : T.heap = h) (F : Sta Z h O n d v) (hd : decode c.code g.pc = .ok (.getstatic index, 3))
    (q : tables_1[i]? = some (.fieldLink own index O n d) := by rfl) (hg : g.method = m := by rfl) : ∃ T', Stand p l e R s m args below meth c T' locs cells slots ∧ T'.heap = h ∧ PP p e below T' { g with pc := g.pc + 3, stack := v :: g.stack } s0 := by
  obtain ⟨T', X', e', st⟩ := getS2 X hx hZ hown (host := "") (Or.inl (ww hw i q)) Via.refl eT F hg hd
  exact ⟨T', X', e', P.st st⟩
theorem gN {O n d host : String} {v : Value} (P : PP p e below T g s0) (X : Stand p l e R s m args below meth c T locs cells slots) (hx : p.tables.exec = Jvm.exec) (hZ : Z.Warmed39 s.vm) (hown : s.vm.findClass own = some m.cls) (hw : HW a0 Z) (i : Nat) (eT : T.heap = h) (F : Sta Z h O n d v) (hd : decode c.code g.pc = .ok (.getstatic index, 3))
    (q : tables_1[i]? = some (.fieldLinkNest own index O n d host) := by rfl) (hg : g.method = m := by rfl) : ∃ T', Stand p l e R s m args below meth c T' locs cells slots ∧ T'.heap = h ∧ PP p e below T' { g with pc := g.pc + 3, stack := v :: g.stack } s0 := by
  obtain ⟨T', X', e', st⟩ := getS2 X hx hZ hown (Or.inr (ww hw i q)) Via.refl eT F hg hd
  exact ⟨T', X', e', P.st st⟩
end Calls1
section BegEnd
variable {p : Program} {l : Launch} {e : Env} {R : Room} {s : State} {m : MethodId} {args : Array Value} {below : List Frame} {meth : Method} {c : Code} {T s0 Z : State} {L : List Loc} {cells slots : Nat} {g : JFrame} {h h0 : Heap} {y : MethodName} {b : ByteArray} {ml : Nat} {rt : Option FieldType} {ws : List Jvm.Cond} {A : Array Value} {Q : Option Value → Heap → List Loc → Prop}
abbrev EndH (p : Program) (e : Env) (below : List Frame) (s0 s : State) (R : Room) (Q : Option Value → Heap → List Loc → Prop) : Prop := ∃ s₂ o, Steps p.tables e below s0 s₂ ∧ s₂.status = .running ∧ Ended s₂ below o ∧ ∃ v L, o = .returned v ∧ Q v s₂.heap L ∧ FrameEnd s o s₂ L R.cells R.slots
theorem castPP {g' : JFrame} (q : g = g') (P : PP p e below T g s0) : PP p e below T g' s0 := q ▸ P
theorem begH (n0 : Nat) (own : String) (ho : y.cls = own) (hp : plainFor y = true) (body : ∀ (p : Program) (e : Env) (s : State) (m : MethodId) (below : List Frame) (meth : Method) (c : Code) (s₁ s0 : State), meth.sig.returnType = rt → meth.locks = false → Z.Warmed39 s.vm → p.tables.exec = Jvm.exec → c.code = b → c.maxLocals = ml → s.vm.findClass own = some m.cls → meth.name = y.name → Stand p l e R s m A below meth c s₁ [] 0 0 → s₁.heap = h0 → Fr n0 [] → PP p e below s₁ (entryFrame m A ml) s0 → EndH p e below s0 s R Q) : MetP l Z y b ml rt R ws A h0 Q := by
  refine MetFree.of_bodySF hp hisR ?_
  intro p e s m args below meth c s₁ Bd hml hP hK
  obtain ⟨rfl, hZ, hh⟩ := hP
  exact body p e s m below meth c s₁ _ Bd.returns Bd.notSynchronized hZ Bd.exec Bd.bytes hml (ho ▸ findClass_of_methodNamed Bd.named) (name_of_methodNamed Bd.named Bd.method).1 (Stand.of_body Bd) (by rw [← hh, Bd.state]; rfl) (Fr.nil n0) (fun t k => k)
theorem endV (pc : Nat) (Ls : Array Slot) (X : Stand p l e R s m args below meth c T L cells slots) (hx : p.tables.exec = Jvm.exec) (hr : meth.sig.returnType = none) (hlk : meth.locks = false) (P : PP p e below T (mkF m pc Ls []) s0) (hd : decode c.code pc = .ok (.return_, 1)) (eT : T.heap = h) (hc : cells ≤ R.cells) (hs : slots ≤ R.slots) (hQ : Q none h L) : EndH p e below s0 s R Q := by
  obtain ⟨fs_, hl, hrun, hended, hW, hsame⟩ := X.leave (v := none) (fun _ => rfl) hlk
  subst eT
  exact ⟨_, _, P _ (X.returnOut hx hr hd hl), hrun, hended, _, _, rfl, hQ, ⟨_, rfl⟩, hW, hsame.mono hc hs⟩
theorem endI (pc : Nat) (Ls : Array Slot) {z : Int32} {rest : List Value} (X : Stand p l e R s m args below meth c T L cells slots) (hx : p.tables.exec = Jvm.exec) (hr : meth.sig.returnType = some .int) (hlk : meth.locks = false) (P : PP p e below T (mkF m pc Ls (.int z :: rest)) s0) (hd : decode c.code pc = .ok (.ireturn, 1)) (eT : T.heap = h) (hc : cells ≤ R.cells) (hs : slots ≤ R.slots) (hQ : Q (some (.int z)) h L) : EndH p e below s0 s R Q := by
  obtain ⟨fs_, hl, hrun, hended, hW, hsame⟩ := X.leave (v := some (.int z)) (fun h => by rw [hr] at h; cases h) hlk
  subst eT
  exact ⟨_, _, P _ (retI X hx hr hd hl), hrun, hended, _, _, rfl, hQ, ⟨_, rfl⟩, hW, hsame.mono hc hs⟩
theorem endN (pc : Nat) (Ls : Array Slot) {z : Int32} {rest : List Value} {t : FieldType} (X : Stand p l e R s m args below meth c T L cells slots) (hx : p.tables.exec = Jvm.exec) (hr : meth.sig.returnType = some t) (ht : t = .boolean ∨ t = .byte ∨ t = .char ∨ t = .short) (hlk : meth.locks = false) (P : PP p e below T (mkF m pc Ls (.int z :: rest)) s0) (hd : decode c.code pc = .ok (.ireturn, 1)) (eT : T.heap = h) (hc : cells ≤ R.cells) (hs : slots ≤ R.slots) (hQ : Q (some (.int (nar t z))) h L) : EndH p e below s0 s R Q := by
  obtain ⟨fs_, hl, hrun, hended, hW, hsame⟩ := X.leave (v := some (.int (nar t z))) (fun h => by rw [hr] at h; cases h) hlk
  subst eT
  exact ⟨_, _, P _ (retN X hx hr ht hd hl), hrun, hended, _, _, rfl, hQ, ⟨_, rfl⟩, hW, hsame.mono hc hs⟩
theorem endA (pc : Nat) (Ls : Array Slot) {a : Addr} {rest : List Value} {t : FieldType} (X : Stand p l e R s m args below meth c T L cells slots) (hx : p.tables.exec = Jvm.exec) (hr : meth.sig.returnType = some t) (ht : t.isReference = true) (hlk : meth.locks = false) (P : PP p e below T (mkF m pc Ls (.ref a :: rest)) s0) (hd : decode c.code pc = .ok (.areturn, 1)) (eT : T.heap = h) (hc : cells ≤ R.cells) (hs : slots ≤ R.slots) (hQ : Q (some (.ref a)) h L) : EndH p e below s0 s R Q := by
  obtain ⟨fs_, hl, hrun, hended, hW, hsame⟩ := X.leave (v := some (.ref a)) (fun h => by rw [hr] at h; cases h) hlk
  subst eT
  refine ⟨_, _, P _ ?_, hrun, hended, _, _, rfl, hQ, ⟨_, rfl⟩, hW, hsame.mono hc hs⟩
  show Steps p.tables e below (T.setTop { method := m, pc := pc, locals := Ls, stack := _ :: rest, locked := none }) _
  jvm_step X.here [X.here.top, hx, hd, X.method', hr, Value.isRef, ht]
  first | (intro acts; rw [hl _ acts rfl rfl rfl]) | rw [hl _ _ rfl rfl rfl]
  exact Steps.refl _
end BegEnd
abbrev rr (f c s l : Nat) : Room := { frames := f, cells := c, slots := s, locals := l }
theorem own_cl (n : Nat) (h : n < 2147483648) : (Int32.ofNat n).toNatClampNeg = n := by
  have e := Int32.toInt_ofNat_of_lt (n := n) (by omega)
  simp only [Int32.toNatClampNeg, e]; omega
theorem own_nn (n : Nat) (h : n < 2147483648) : ¬ (Int32.ofNat n) < 0 := by
  rw [Int32.lt_iff_toInt_lt, Int32.toInt_ofNat_of_lt (by omega)]
  have e0 : (0 : Int32).toInt = 0 := rfl
  omega
theorem own_add (a b : Nat) : Int32.ofNat a + Int32.ofNat b = Int32.ofNat (a + b) := (Int32.ofNat_add a b).symm
theorem own_shl0 (x : Int32) : x <<< ((0 : Int32) &&& 31) = x := by
  apply Int32.toBitVec_inj.mp
  rw [show ((0 : Int32) &&& 31) = 0 from rfl, Int32.toBitVec_shiftLeft]
  simp
theorem own_shr0 (x : Int32) : x >>> ((0 : Int32) &&& 31) = x := by
  apply Int32.toBitVec_inj.mp
  rw [show ((0 : Int32) &&& 31) = 0 from rfl, Int32.toBitVec_shiftRight]
  simp
theorem own_cap (n c : Nat) (h : n ≤ c) (hc : c < 1073741824) : ¬ (0 : Int32) < (Int32.ofNat n - Int32.ofNat c) := by
  have e : (Int32.ofNat n - Int32.ofNat c).toInt = (n : Int) - c := by
    rw [Int32.toInt_sub, Int32.toInt_ofNat_of_lt (by omega), Int32.toInt_ofNat_of_lt (by omega)]
    exact Int.bmod_eq_of_le (by omega) (by omega)
  rw [Int32.lt_iff_toInt_lt, e]
  have e0 : (0 : Int32).toInt = 0 := rfl
  omega
theorem own_us (ss : List Value) (d : Value) : ss = (List.range ss.length).map fun i => ss.getD (0 + i) d := by
  apply List.ext_getElem
  · simp
  · intro i h1 h2
    simp [List.getD_eq_getElem?_getD, h1]
theorem own_cp (bs ss rs : List Value) (h : rs.length = ss.length) : (bs ++ rs).take bs.length ++ ss ++ (bs ++ rs).drop (bs.length + ss.length) = bs ++ ss := by
  simp [List.drop_append, h]

abbrev bv (x : Int32) : Value := .int (nar .byte (x.toInt8.toInt32))
def isC (c : Int32) : Prop := ¬ c < 0 ∧ ¬ (65535 : Int32) < c
theorem own_char (x : Int32) : ¬ nar .char x < 0 ∧ ¬ (65535 : Int32) < nar .char x := by
  have h : (nar .char x).toInt = (x.toUInt32.toUInt16.toNat : Int) := by
    show (x.toUInt32.toUInt16.toUInt32.toInt32).toBitVec.toInt = _
    have e : (x.toUInt32.toUInt16.toUInt32.toInt32).toBitVec.toNat = x.toUInt32.toUInt16.toNat := by
      show x.toUInt32.toUInt16.toUInt32.toNat = _
      exact UInt16.toNat_toUInt32 _
    have hl := x.toUInt32.toUInt16.toNat_lt
    rw [BitVec.toInt_eq_toNat_of_lt (by rw [e]; omega), e]
  have hl := x.toUInt32.toUInt16.toNat_lt
  have e1 : (65535 : Int32).toInt = 65535 := rfl
  have e0 : (0 : Int32).toInt = 0 := rfl
  rw [Int32.lt_iff_toInt_lt, Int32.lt_iff_toInt_lt, h, e1, e0]
  omega
theorem own_nat {c : Int32} (h : isC c) : ∃ n : Nat, n < 65536 ∧ c = Int32.ofNat n := by
  have e1 : (65535 : Int32).toInt = 65535 := rfl
  have e0 : (0 : Int32).toInt = 0 := rfl
  unfold isC at h
  rw [Int32.lt_iff_toInt_lt, Int32.lt_iff_toInt_lt, e1, e0] at h
  refine ⟨c.toInt.toNat, by omega, ?_⟩
  apply Int32.toInt_inj.mp
  rw [Int32.toInt_ofNat_of_lt (by omega)]
  omega
theorem own_isC (n : Nat) (h : n < 65536) : isC (Int32.ofNat n) := by
  have e1 : (65535 : Int32).toInt = 65535 := rfl
  have e0 : (0 : Int32).toInt = 0 := rfl
  unfold isC
  rw [Int32.lt_iff_toInt_lt, Int32.lt_iff_toInt_lt, e1, e0, Int32.toInt_ofNat_of_lt (by omega)]
  omega
theorem own_narc {c : Int32} (h : isC c) : nar .char c = c := by
  obtain ⟨n, hn, rfl⟩ := own_nat h
  apply Int32.toBitVec_inj.mp
  apply BitVec.eq_of_toNat_eq
  show ((Int32.ofNat n).toUInt32.toUInt16.toUInt32).toNat = (BitVec.ofNat 32 n).toNat
  rw [UInt16.toNat_toUInt32, UInt32.toNat_toUInt16]
  show (BitVec.ofNat 32 n).toNat % 65536 = _
  rw [BitVec.toNat_ofNat]
  omega
theorem own_i2c {c : Int32} (h : isC c) : c.toUInt32.toUInt16.toUInt32.toInt32 = c := own_narc h
theorem own_nb (x : Int32) : nar .byte (x.toInt8.toInt32) = x.toInt8.toInt32 := by
  show (x.toInt8.toInt32).toInt8.toInt32 = _
  rw [Int8.toInt8_toInt32]
theorem own_byte (x : Int32) : (nar .byte (x.toInt8.toInt32) &&& 255).toBitVec.toNat = x.toBitVec.toNat % 256 := by
  rw [own_nb, Int32.toBitVec_and, Int8.toBitVec_toInt32]
  have e2 : (255 : Int32).toBitVec = 255#32 := rfl
  rw [e2]
  have e4 : x.toInt8.toBitVec = x.toBitVec.setWidth 8 := by
    rw [Int32.toBitVec_toInt8]
    exact BitVec.signExtend_eq_setWidth_of_le _ (by decide)
  rw [e4]
  have e3 : ((x.toBitVec.setWidth 8).signExtend 32 &&& 255#32) = ((x.toBitVec.setWidth 8).setWidth 32) := by
    apply BitVec.eq_of_getLsbD_eq
    intro i hi
    have t : ∀ j : Fin 32, (255#32).getLsbD j.val = decide (j.val < 8) := by decide
    have q := t ⟨i, hi⟩
    simp only at q
    rw [BitVec.getLsbD_and, q, BitVec.getLsbD_setWidth, BitVec.getLsbD_signExtend]
    by_cases h8 : i < 8
    · simp [h8, hi]
    · simp [h8]
  rw [e3, BitVec.toNat_setWidth, BitVec.toNat_setWidth]
  omega
theorem own_w {c : Int32} (h : isC c) : (((nar .byte ((c >>> ((0 : Int32) &&& 31)).toInt8.toInt32)) &&& (255 : Int32)) <<< ((0 : Int32) &&& 31)) ||| (((nar .byte ((c >>> ((8 : Int32) &&& 31)).toInt8.toInt32)) &&& (255 : Int32)) <<< ((8 : Int32) &&& 31)) = c := by
  obtain ⟨n, hn, rfl⟩ := own_nat h
  have n32 : (Int32.ofNat n).toBitVec.toNat = n := by show (BitVec.ofNat 32 n).toNat = n; rw [BitVec.toNat_ofNat]; exact Nat.mod_eq_of_lt (by omega)
  have s0 : ((Int32.ofNat n) >>> ((0 : Int32) &&& 31)) = Int32.ofNat n := by
    apply Int32.toBitVec_inj.mp
    rw [show ((0 : Int32) &&& 31) = 0 from rfl, Int32.toBitVec_shiftRight]
    simp
  have s8 : ((Int32.ofNat n) >>> ((8 : Int32) &&& 31)).toBitVec.toNat = n / 256 := by
    rw [show ((8 : Int32) &&& 31) = 8 from rfl, Int32.toBitVec_shiftRight]
    show (BitVec.sshiftRight (Int32.ofNat n).toBitVec 8).toNat = _
    rw [BitVec.sshiftRight_eq_of_msb_false (by rw [BitVec.msb_eq_false_iff_two_mul_lt, n32]; omega), BitVec.toNat_ushiftRight, n32, Nat.shiftRight_eq_div_pow]
  have b0 := own_byte (Int32.ofNat n)
  have b8 := own_byte ((Int32.ofNat n) >>> ((8 : Int32) &&& 31))
  rw [s8] at b8
  rw [n32] at b0
  rw [s0]
  generalize (nar .byte ((Int32.ofNat n).toInt8.toInt32) &&& 255) = u at b0 ⊢
  generalize (nar .byte (((Int32.ofNat n) >>> ((8 : Int32) &&& 31)).toInt8.toInt32) &&& 255) = v at b8 ⊢
  have k0 : (u <<< ((0 : Int32) &&& 31)) = u := by
    apply Int32.toBitVec_inj.mp
    rw [show ((0 : Int32) &&& 31) = 0 from rfl, Int32.toBitVec_shiftLeft]
    simp
  have k8 : (v <<< ((8 : Int32) &&& 31)).toBitVec.toNat = (n / 256) <<< 8 := by
    rw [show ((8 : Int32) &&& 31) = 8 from rfl, Int32.toBitVec_shiftLeft]
    show (v.toBitVec <<< 8).toNat = _
    rw [BitVec.toNat_shiftLeft, b8, Nat.mod_eq_of_lt (by omega : n / 256 < 256), Nat.shiftLeft_eq]
    omega
  apply Int32.toBitVec_inj.mp
  apply BitVec.eq_of_toNat_eq
  rw [Int32.toBitVec_or, BitVec.toNat_or, k0, b0, k8, n32, Nat.or_comm, ← Nat.shiftLeft_add_eq_or_of_lt (by omega : n % 256 < 2 ^ 8), Nat.shiftLeft_eq]
  omega
theorem own_w1 {c : Int32} (h : isC c) : nar .char (((((nar .byte ((c >>> ((0 : Int32) &&& 31)).toInt8.toInt32)) &&& (255 : Int32)) <<< ((0 : Int32) &&& 31)) ||| (((nar .byte ((c >>> ((8 : Int32) &&& 31)).toInt8.toInt32)) &&& (255 : Int32)) <<< ((8 : Int32) &&& 31))).toUInt32.toUInt16.toUInt32.toInt32) = c := by
  show nar .char (nar .char ((((nar .byte ((c >>> ((0 : Int32) &&& 31)).toInt8.toInt32)) &&& (255 : Int32)) <<< ((0 : Int32) &&& 31)) ||| (((nar .byte ((c >>> ((8 : Int32) &&& 31)).toInt8.toInt32)) &&& (255 : Int32)) <<< ((8 : Int32) &&& 31)))) = c
  rw [own_w h, own_narc h, own_narc h]
theorem own_low {c : Int32} (h : isC c) (h2 : ¬ (255 : Int32) < c) : ∃ k : Fin 256, c = Int32.ofNat k.val := by
  obtain ⟨n, hn, rfl⟩ := own_nat h
  have e1 : (255 : Int32).toInt = 255 := rfl
  rw [Int32.lt_iff_toInt_lt, Int32.toInt_ofNat_of_lt (by omega), e1] at h2
  exact ⟨⟨n, by omega⟩, rfl⟩
theorem own_three (p : Int32) : (p &&& 3) = 0 ∨ (p &&& 3) = 1 ∨ (p &&& 3) = 2 ∨ (p &&& 3) = 3 := by
  have h : (p &&& 3).toBitVec.toNat < 4 := by
    simp only [Int32.toBitVec_and, BitVec.toNat_and]
    exact Nat.lt_succ_of_le Nat.and_le_right
  have e : (p &&& 3) = Int32.ofNat (p &&& 3).toBitVec.toNat := by
    apply Int32.toBitVec_inj.mp
    show _ = BitVec.ofNat 32 _
    rw [BitVec.ofNat_toNat]; simp
  have t : ∀ k : Fin 4, Int32.ofNat k.val = 0 ∨ Int32.ofNat k.val = 1 ∨ Int32.ofNat k.val = 2 ∨ Int32.ofNat k.val = 3 := by decide
  rw [e]
  exact t ⟨_, h⟩
theorem own_ltn (n k : Nat) (hn : n < 2147483648) (hk : k < 2147483648) : (Int32.ofNat n < Int32.ofNat k) ↔ n < k := by
  rw [Int32.lt_iff_toInt_lt, Int32.toInt_ofNat_of_lt (by omega), Int32.toInt_ofNat_of_lt (by omega)]
  omega
theorem own_eqn (n k : Nat) (hn : n < 2147483648) (hk : k < 2147483648) : (Int32.ofNat n = Int32.ofNat k) ↔ n = k := by
  rw [← Int32.toInt_inj, Int32.toInt_ofNat_of_lt (by omega), Int32.toInt_ofNat_of_lt (by omega)]
  omega
theorem own_sub (a b : Nat) (h : b ≤ a) : Int32.ofNat a - Int32.ofNat b = Int32.ofNat (a - b) := by
  have e : Int32.ofNat a = Int32.ofNat (a - b) + Int32.ofNat b := by rw [own_add, Nat.sub_add_cancel h]
  rw [e]
  exact Int32.add_sub_cancel _ _
theorem own_cpD (vs : List Value) (d : Value) (m : Nat) (h : vs.length = m) : (List.replicate m d).take 0 ++ vs ++ (List.replicate m d).drop (0 + m) = vs := by
  rw [List.take_zero, List.nil_append, List.drop_replicate]
  simp
theorem own_set1 (L : List Value) (z a : Value) (k : Nat) (h : L.length = k) : (L ++ [z]).set k a = L ++ [a] := by
  subst h; induction L with
  | nil => rfl
  | cons x r ih => simp only [List.cons_append, List.length_cons, List.set_cons_succ, ih]
theorem own_set2 (L : List Value) (z a b : Value) (k : Nat) (h : L.length = k) : ((L ++ [z, z]).set k a).set (k + 1) b = L ++ [a, b] := by
  subst h; induction L with
  | nil => rfl
  | cons x r ih => simp only [List.cons_append, List.length_cons, List.set_cons_succ, ih]
theorem own_inb (j z : Nat) (h : j < z) (hz : z < 2147483648) : ¬ Int32.ofNat j < 0 ∧ Int32.ofNat j < Int32.ofNat z := ⟨own_nn j (by omega), (own_ltn j z (by omega) hz).mpr h⟩
abbrev cv (c : Int32) : Value := .int (nar .char c)
abbrev lo8 (c : Int32) : Value := .int (nar .byte ((c >>> ((0 : Int32) &&& 31)).toInt8.toInt32))
abbrev hi8 (c : Int32) : Value := .int (nar .byte ((c >>> ((8 : Int32) &&& 31)).toInt8.toInt32))
def wid : List Int32 → List Value
  | [] => []
  | c :: r => lo8 c :: hi8 c :: wid r
abbrev CC (cs : List Int32) : Prop := ∀ c ∈ cs, isC c
abbrev LL (cs : List Int32) : Prop := ∀ c ∈ cs, ¬ (255 : Int32) < c
abbrev KB (cd zb : Int32) (vs : List Value) (cs : List Int32) : Prop := CC cs ∧ ((cd = 0 ∧ zb = Int32.ofNat cs.length ∧ vs = cs.map bv ∧ LL cs) ∨ (cd = 1 ∧ zb = Int32.ofNat (2 * cs.length) ∧ vs = wid cs))
abbrev BB (cd zb : Int32) (vs : List Value) (cs : List Int32) : Prop := CC cs ∧ ((cd = 0 ∧ zb = 16 ∧ vs = cs.map bv ∧ LL cs) ∨ (cd = 1 ∧ zb = 32 ∧ vs = wid cs))
theorem own_widA (a b : List Int32) : wid (a ++ b) = wid a ++ wid b := by
  induction a with
  | nil => rfl
  | cons c r ih => show lo8 c :: hi8 c :: wid (r ++ b) = _; rw [ih]; rfl
theorem own_widL (a : List Int32) : (wid a).length = 2 * a.length := by
  induction a with
  | nil => rfl
  | cons c r ih => show (wid r).length + 1 + 1 = _; rw [ih, List.length_cons]; omega
theorem own_put (cs : List Int32) (c : Int32) (z : Value) : ((wid cs ++ [z, z]).set (2 * cs.length) (lo8 c)).set (2 * cs.length + 1) (hi8 c) = wid (cs ++ [c]) := by
  rw [own_set2 _ _ _ _ _ (own_widL cs), own_widA]; rfl
theorem own_wid0 (cs : List Int32) (k : Nat) (c : Int32) (d : Value) (h : cs[k]? = some c) : (wid cs).getD (2 * k) d = lo8 c ∧ (wid cs).getD (2 * k + 1) d = hi8 c := by
  induction cs generalizing k with
  | nil => cases h
  | cons x r ih =>
    cases k with
    | zero => cases h; exact ⟨rfl, rfl⟩
    | succ k => exact ih k h
theorem own_lat0 (cs : List Int32) (k : Nat) (c : Int32) (d : Value) (h : cs[k]? = some c) : (cs.map bv).getD k d = bv c := by
  rw [List.getD_eq_getElem?_getD, List.getElem?_map, h]; rfl
theorem own_cv0 (cs : List Int32) (k : Nat) (c : Int32) (d : Value) (h : cs[k]? = some c) : (cs.map cv).getD k d = cv c := by
  rw [List.getD_eq_getElem?_getD, List.getElem?_map, h]; rfl
theorem own_klt {cs : List Int32} {k : Nat} {c : Int32} (h : cs[k]? = some c) : k < cs.length := (List.getElem?_eq_some_iff.mp h).1
theorem own_mem {cs : List Int32} {k : Nat} {c : Int32} (h : cs[k]? = some c) : c ∈ cs := List.mem_of_getElem? h
theorem own_kx (cs : List Int32) (k : Nat) (h : k < cs.length) : ∃ c, cs[k]? = some c := ⟨cs[k], List.getElem?_eq_getElem h⟩
theorem own_tk (cs ds : List Int32) (k : Nat) (c : Int32) (h : ds[k]? = some c) : (cs ++ ds.take k) ++ [c] = cs ++ ds.take (k + 1) := by
  rw [List.append_assoc, List.take_succ, h]; rfl
theorem own_tkl (cs ds : List Int32) (k : Nat) (h : k ≤ ds.length) : (cs ++ ds.take k).length = cs.length + k := by
  rw [List.length_append, List.length_take]; omega
theorem own_lat255 {c : Int32} (h : isC c) (h2 : ¬ (255 : Int32) < c) : ((nar .byte (c.toInt8.toInt32)) &&& (255 : Int32)) = c := by
  have t : ∀ k : Fin 256, ((nar .byte ((Int32.ofNat k.val).toInt8.toInt32)) &&& (255 : Int32)) = Int32.ofNat k.val := by decide +kernel
  obtain ⟨k, rfl⟩ := own_low h h2
  exact t k
theorem own_shl1 (n : Nat) : Int32.ofNat n <<< ((1 : Int32) &&& 31) = Int32.ofNat (2 * n) := by
  apply Int32.toBitVec_inj.mp
  rw [show ((1 : Int32) &&& 31) = 1 from rfl, Int32.toBitVec_shiftLeft]
  show (BitVec.ofNat 32 n <<< 1) = BitVec.ofNat 32 (2 * n)
  apply BitVec.eq_of_toNat_eq
  rw [BitVec.toNat_shiftLeft, BitVec.toNat_ofNat, BitVec.toNat_ofNat, Nat.shiftLeft_eq]
  omega
theorem own_shr1 (n : Nat) (h : n < 1073741824) : Int32.ofNat (2 * n) >>> ((1 : Int32) &&& 31) = Int32.ofNat n := by
  apply Int32.toBitVec_inj.mp
  rw [show ((1 : Int32) &&& 31) = 1 from rfl, Int32.toBitVec_shiftRight]
  show (BitVec.sshiftRight (BitVec.ofNat 32 (2 * n)) 1) = BitVec.ofNat 32 n
  have e : (BitVec.ofNat 32 (2 * n)).toNat = 2 * n := by rw [BitVec.toNat_ofNat]; exact Nat.mod_eq_of_lt (by omega)
  rw [BitVec.sshiftRight_eq_of_msb_false (by rw [BitVec.msb_eq_false_iff_two_mul_lt, e]; omega)]
  apply BitVec.eq_of_toNat_eq
  rw [BitVec.toNat_ushiftRight, e, BitVec.toNat_ofNat, Nat.shiftRight_eq_div_pow]
  omega
theorem own_or (a b : Nat) (ha : a < 2 ^ 10) (hb : b < 2 ^ 10) : (a ||| b) < 2 ^ 10 ∧ Int32.ofNat a ||| Int32.ofNat b = Int32.ofNat (a ||| b) := by
  have h := Nat.or_lt_two_pow ha hb
  refine ⟨h, ?_⟩
  apply Int32.toBitVec_inj.mp
  rw [Int32.toBitVec_or]
  show BitVec.ofNat 32 a ||| BitVec.ofNat 32 b = BitVec.ofNat 32 (a ||| b)
  apply BitVec.eq_of_toNat_eq
  rw [BitVec.toNat_or, BitVec.toNat_ofNat, BitVec.toNat_ofNat, BitVec.toNat_ofNat, Nat.mod_eq_of_lt (by omega), Nat.mod_eq_of_lt (by omega), Nat.mod_eq_of_lt (by omega)]
theorem own_or3 (a b c : Nat) (ha : a < 1024) (hb : b < 1024) (hc : c < 1024) : ¬ ((Int32.ofNat a ||| Int32.ofNat b) ||| Int32.ofNat c) < 0 := by
  obtain ⟨h1, e1⟩ := own_or a b ha hb
  obtain ⟨h2, e2⟩ := own_or _ c h1 hc
  rw [e1, e2]
  exact own_nn _ (by omega)
theorem own_irr (x : Int32) : ¬ x < x := by rw [Int32.lt_iff_toInt_lt]; omega
theorem own_tof {a t tn n : Nat} (h : tn = t ∨ n ≤ tn) (q : a ≠ t) (l : a < n) : a ≠ tn := h.elim (fun e => e ▸ q) (fun f => neL l f)
theorem own_tof2 {t tn n m : Nat} (h : tn = t ∨ n ≤ tn) (q : m ≤ t) (l : m ≤ n) : m ≤ tn := h.elim (fun e => e ▸ q) (fun f => Nat.le_trans l f)
theorem own_tof3 {t tn n m : Nat} (h : tn = t ∨ n ≤ tn) (l : m ≤ n) : tn = t ∨ m ≤ tn := h.imp id (Nat.le_trans l)
theorem own_tof4 {P : Nat → Prop} {t tn n : Nat} (h : tn = t ∨ n ≤ tn) (q : P t) (l : n ≤ tn → P tn) : P tn := h.elim (fun e => e ▸ q) l
theorem own_ccA {a b : List Int32} (h : CC a) (k : CC b) : CC (a ++ b) := fun c q => (List.mem_append.mp q).elim (h c) (k c)
theorem own_llA {a b : List Int32} (h : LL a) (k : LL b) : LL (a ++ b) := fun c q => (List.mem_append.mp q).elim (h c) (k c)
theorem own_cc1 {c : Int32} (h : isC c) : CC [c] := fun x q => (List.mem_singleton.mp q) ▸ h
theorem own_ll1 {c : Int32} (h : ¬ (255 : Int32) < c) : LL [c] := fun x q => (List.mem_singleton.mp q) ▸ h
theorem own_cc0 : CC [] := fun _ q => nomatch q
theorem own_ll0 : LL [] := fun _ q => nomatch q
theorem own_kbN : KB 0 0 [] [] := ⟨own_cc0, Or.inl ⟨rfl, rfl, rfl, own_ll0⟩⟩
theorem own_kbL {c : Int32} (h : isC c) (k : ¬ (255 : Int32) < c) : KB 0 1 [bv c] [c] := ⟨own_cc1 h, Or.inl ⟨rfl, rfl, rfl, own_ll1 k⟩⟩
theorem own_kbW {c : Int32} (h : isC c) : KB 1 2 (wid [c]) [c] := ⟨own_cc1 h, Or.inr ⟨rfl, rfl, rfl⟩⟩
theorem own_kbL2 {c d : Int32} (h : isC c) (h' : isC d) (k : ¬ (255 : Int32) < c) (k' : ¬ (255 : Int32) < d) : KB 0 2 [bv c, bv d] [c, d] := ⟨own_ccA (own_cc1 h) (own_cc1 h'), Or.inl ⟨rfl, rfl, rfl, own_llA (own_ll1 k) (own_ll1 k')⟩⟩
theorem own_kbW2 {c d : Int32} (h : isC c) (h' : isC d) : KB 1 4 (wid [c, d]) [c, d] := ⟨own_ccA (own_cc1 h) (own_cc1 h'), Or.inr ⟨rfl, rfl, rfl⟩⟩
theorem own_kb32 : KB 0 1 [.int 32] [32] := own_kbL (c := 32) ⟨by decide, by decide⟩ (by decide)
theorem own_kbBr : KB 0 2 [.int 91, .int 93] [91, 93] := own_kbL2 (c := 91) (d := 93) ⟨by decide, by decide⟩ ⟨by decide, by decide⟩ (by decide) (by decide)
theorem own_bb0 : BB 0 16 [] [] := ⟨own_cc0, Or.inl ⟨rfl, rfl, rfl, own_ll0⟩⟩
theorem own_setE (E : List Int32) (c : Int32) (z : Value) : (E.map cv ++ [z]).set E.length (cv c) = (E ++ [c]).map cv := by
  rw [own_set1 _ _ _ _ (List.length_map ..), List.map_append]; rfl
theorem own_ls (E : List Int32) (c : Int32) : Int32.ofNat E.length + (1 : Int32) = Int32.ofNat (E ++ [c]).length := by rw [List.length_append]; exact own_add E.length 1
theorem own_l1 {a : List Int32} {x : Int32} {n : Nat} (h : a.length ≤ n) : (a ++ [x]).length ≤ n + 1 := by rw [List.length_append]; exact Nat.add_le_add_right h 1
theorem own_lA {a l : List Int32} {n : Nat} (k : Nat) (h : a.length ≤ n) (hl : l.length ≤ k) : (a ++ l).length ≤ n + k := by rw [List.length_append]; exact Nat.add_le_add h hl
theorem own_ltm {α : Type} (a : List Int32) (f : Int32 → α) (z : α) : a.length < (a.map f ++ [z]).length := by rw [List.length_append, List.length_map]; exact Nat.lt_succ_self _
theorem own_tl (x : Int32) : ((x &&& 3) - ((x &&& 3) / 3) * 3) = 0 ∨ ((x &&& 3) - ((x &&& 3) / 3) * 3) = 1 ∨ ((x &&& 3) - ((x &&& 3) / 3) * 3) = 2 := by
  rcases own_three x with e | e | e | e <;> rw [e] <;> decide
section Mir1
variable {p : Program} {l : Launch} {e : Env} {R : Room} {s : State} {m : MethodId} {args : Array Value} {below : List Frame} {meth : Method} {c : Code} {T Z : State} {locs : List Loc} {cells slots : Nat} {h : Heap} {a : Addr}
def MirW (Z : State) (C : String) (m : Addr) : Prop := ∃ (c : ClassId) (k : Class), Z.vm.findClass C = some c ∧ Z.vm.classes[c]? = some k ∧ k.mirror = some m
theorem ldcM (X : Stand p l e R s m args below meth c T locs cells slots) (hx : p.tables.exec = Jvm.exec) (hZ : Z.Warmed39 s.vm) {a0 : Array Value} {own C : String} {index : Nat} (hown : s.vm.findClass own = some m.cls) (w : (Cond.classLink own index C).before a0 Z = true) (eT : T.heap = h) {mr : Addr} (M : MirW Z C mr)
    {g : JFrame} (hg : g.method = m) (hd : decode c.code g.pc = .ok (.ldc index, 2)) : ∃ T', Stand p l e R s m args below meth c T' locs cells slots ∧ T'.heap = h ∧ ∀ target, Steps p.tables e below (T'.setTop { g with pc := g.pc + 2, stack := .ref mr :: g.stack }) target → Steps p.tables e below (T.setTop g) target := by
  obtain ⟨cc, kc, m1, m2, m3⟩ := M
  obtain ⟨k', q, ek⟩ := hZ.alike.2.2 _ _ m2
  have m1' : s.vm.findClass C = some cc := by rw [hZ.alike.findClass]; exact m1
  have m3' : k'.mirror = some mr := by rw [ek]; exact m3
  obtain ⟨vm', X', st⟩ := X.ldcMirror hx hown (mvT hZ w) (a := mr) (by simp [Term.eval, m1', q, m3']) hg hd
  exact ⟨_, X', eT, st⟩
theorem gclsW (X : Stand p l e R s m args below meth c T locs cells slots) (hx : p.tables.exec = Jvm.exec) (hZ : Z.Warmed39 s.vm) {a0 : Array Value} {own C : String} {index : Nat} (hown : s.vm.findClass own = some m.cls)
    (w1 : (Cond.methodLink own index ⟨"java/lang/Object", "getClass", "()Ljava/lang/Class;"⟩).before a0 Z = true) (w2 : (Cond.declares ⟨"java/lang/Object", "getClass", "()Ljava/lang/Class;"⟩).before a0 Z = true) (w3 : (Cond.noSuperclass "java/lang/Object").before a0 Z = true) (w4 : (Cond.selects C ⟨"java/lang/Object", "getClass", "()Ljava/lang/Class;"⟩ ⟨"java/lang/Object", "getClass", "()Ljava/lang/Class;"⟩).before a0 Z = true)
    (w5 : (Cond.instanceMethod ⟨"java/lang/Object", "getClass", "()Ljava/lang/Class;"⟩).before a0 Z = true) (w6 : (Cond.native ⟨"java/lang/Object", "getClass", "()Ljava/lang/Class;"⟩).before a0 Z = true) (eT : T.heap = h) (E : Exa Z h a C) {mr : Addr} (M : MirW Z C mr)
    {g : JFrame} (hg : g.method = m) (hsize : g.locals.size = c.maxLocals) {rest : List Value} (hs : g.stack = .ref a :: rest) (hd : decode c.code g.pc = .ok (.invokevirtual index, 3)) (hf : 1 ≤ R.frames) {W : Nat} (hW : 2 * g.monitorRoom + (rest.map fun v => v.category).sum ≤ W) (hl : W + (nativeFrameWords "java/lang/Object" "getClass" 1 + 11) ≤ R.locals) :
    ∃ T', Stand p l e R s m args below meth c T' locs cells slots ∧ T'.heap = h ∧ ∀ target, Steps p.tables e below (T'.setTop { g with pc := g.pc + 3, stack := .ref mr :: rest }) target → Steps p.tables e below (T.setTop g) target := by
  obtain ⟨cB, kB, i1, i2, i3⟩ := isOf hZ eT E
  obtain ⟨cc, kc, m1, m2, m3⟩ := M
  rw [hZ.alike.findClass] at i1
  cases i1.symm.trans m1
  obtain ⟨k', q, ek⟩ := hZ.alike.2.2 _ _ m2
  obtain ⟨vm', X', st⟩ := X.getClassOf hx hown (mvT hZ w1) (mvT hZ w2) (nf_top (args := #[]) (mvT hZ w3)) (mvT hZ w4) (mvT hZ w5) (mvT hZ w6) (by rw [hZ.alike.findClass]; exact m1) i3 q (by rw [ek]; exact m3) hg hsize hs hd hf (by omega)
  exact ⟨_, X', eT, st⟩
theorem own_root {a0 : Array Value} {O K : String} {t : ClassId} (w : (Cond.noSuperclass O).before a0 Z = true) (g1 : Z.vm.findClass K = some t) (hn : O ≠ K) : Jvm.RoadKit.NS Z O K := by
  obtain ⟨c, k, h1, h2, h3, -, -⟩ := Cond.noSuperclass_spec w
  have ne := ids_ne h1 g1 hn
  refine ⟨c, t, h1, g1, fun fuel => ?_⟩
  cases fuel with
  | zero => rfl
  | succ f => simp [Vm.isSubclassAux, ne, h2, h3]
theorem own_no {a0 : Array Value} {C S K : String} {t : ClassId} {kt : Class} (w : (Cond.superclass C S).before a0 Z = true) (n : Jvm.RoadKit.NS Z C K) (hn : C ≠ K) (g0 : Z.vm.findClass K = some t) (g2 : Z.vm.classes[t]? = some kt) (g7 : kt.isInterface = false) : ∃ c t, Z.vm.findClass C = some c ∧ Z.vm.findClass K = some t ∧ Z.vm.assignable c t = false := by
  obtain ⟨c, t', h0, g0', n3⟩ := n
  cases g0.symm.trans g0'
  obtain ⟨p, k, kp, h1, h2, h3, h4, h5, -, h7⟩ := Cond.superclass_spec h0 w
  have ne := ids_ne h0 g0 hn
  refine ⟨c, t, h0, g0, ?_⟩
  show Z.vm.assignableAux (255 + 1) c t = false
  cases hk : kt.kind <;> simp [Vm.assignableAux, ne, h2, g2, h5, hk, g7, Vm.isSubclass, n3]
/-- an object of the class C, whose chain C, S, S2, O has no K in it, is no K -/
theorem own_inst {a0 : Array Value} {C S S2 O K C' : String} {y y' : MethodName} (w1 : (Cond.superclass C S).before a0 Z = true) (w2 : (Cond.superclass S S2).before a0 Z = true) (w3 : (Cond.superclass S2 O).before a0 Z = true) (w4 : (Cond.noSuperclass O).before a0 Z = true) (hsel : (Cond.selects C' y' y).before a0 Z = true) (hK : y.cls = K)
    (n1 : C ≠ K) (n2 : S ≠ K) (n3 : S2 ≠ K) (n4 : O ≠ K) : ∃ c t, Z.vm.findClass C = some c ∧ Z.vm.findClass K = some t ∧ Z.vm.assignable c t = false := by
  obtain ⟨c2, r2, m2, q1, q2, q3, q4, kP, hkP, hkPi⟩ := Cond.selects_spec hsel
  have f := findClass_of_methodNamed q3
  subst hK
  exact own_no w1 (NS.step w1 (NS.step w2 (NS.step w3 (own_root w4 f n4) n3) n2) n1) n1 f hkP hkPi
theorem own_arvne {b : Addr} {k k' : ClassId} {ty ty' : FieldType} {z z' : Int32} {vs vs' : List Value} {d d' : Value} (F : Arv Z h a k ty z vs d) (G : Arv Z h b k' ty' z' vs' d') (hn : z.toNatClampNeg ≠ z'.toNatClampNeg) : a ≠ b := fun e => by
  subst e
  obtain ⟨c, A, -, S, -⟩ := F
  obtain ⟨c', A', -, S', -⟩ := G
  cases A.1.symm.trans A'.1
  exact hn (S.symm.trans S')
theorem own_bbne {b : Addr} {k k' : ClassId} {cd zb : Int32} {cs : List Int32} {vs vs' : List Value} {d d' : Value} (H : BB cd zb vs cs) (F : Arv Z h a k .byte zb vs d) (G : Arv Z h b k' .byte 2 vs' d') : b ≠ a := by
  refine (own_arvne F G ?_).symm
  rcases H with ⟨-, ⟨-, rfl, -⟩ | ⟨-, rfl, -⟩⟩ <;> decide
theorem own_arvexa {a0 : Array Value} {C : String} {n : Nat} {b : Addr} {k : ClassId} {ty : FieldType} {z : Int32} {vs : List Value} {d : Value} (w : (Cond.instantiable C n).before a0 Z = true) (E : Exa Z h a C) (F : Arv Z h b k ty z vs d) : b ≠ a := fun e => by
  subst e
  obtain ⟨c, A, -⟩ := F
  obtain ⟨cell, k1, h1, h2, h3, -⟩ := E
  obtain ⟨c2, k2, g1, g2, g3, -⟩ := Cond.instantiable_spec w
  cases h2.symm.trans g1
  cases h3.symm.trans g2
  obtain ⟨A1, ⟨-, k9, hk9, comp, hkind⟩, -⟩ := A
  cases h1.symm.trans A1
  cases h3.symm.trans hk9
  rw [g3] at hkind; cases hkind
end Mir1
section BackS1
variable {p : Program} {l : Launch} {e : Env} {R : Room} {s : State} {m : MethodId} {args : Array Value} {below : List Frame} {Z : State} {a0 : Array Value} {EL : List (String × Nat)} {h : Heap} {vm0 : Vm}
theorem backOfSS {y : MethodName} {bytes : ByteArray} {maxL : Nat} {ret : Option FieldType} {rm : Room} {len W : Nat} {as' : Array Value} {Sf : List Addr} {Q : Option Value → Heap → List Loc → Prop}
    (hM : MetS l Z y bytes maxL ret rm [] as' h EL Sf Q)
    (hZ : Z.Warmed39 vm0) (wc : (Cond.code y bytes maxL ret).before a0 Z = true) (wz : (Cond.initialized y.cls).before a0 Z = true) (hf : rm.frames + 1 ≤ R.frames) (hl : W + (maxL + 11) + rm.locals ≤ R.locals) (hEL : EW Z a0 EL) (H : CHv Z EL vm0 h) (hs : ∀ x ∈ Sf, Safe Z EL vm0 h x) (hlt : ∀ x ∈ Sf, x < h.size) :
    BackS l R p e below (s.setVm vm0) args y len W (fun A a => a = as' ∧ A.U.heap = h ∧ A.cells + rm.cells ≤ R.cells ∧ A.slots + rm.slots ≤ R.slots)
      (fun A _ v B => ∃ L, Q v B.U.heap L ∧ B.locs = A.locs ++ L ∧ B.cells = A.cells + rm.cells ∧ B.slots = A.slots + rm.slots ∧ CHr Z EL vm0 h B.U.vm B.U.heap) :=
  BackS.of_freeW (bytes := bytes) (maxL := maxL) (ret := ret) (E := fun _ first o t L k n => k = rm.cells ∧ n = rm.slots ∧ (∃ v, o = .returned v ∧ Q v t.heap L) ∧ CHr Z EL first.vm first.heap t.vm t.heap) hM hf hl
    (fun m meth c A a Y hp => have hU : Z.Warmed39 A.U.vm := wtrans (s := s.setVm vm0) hZ Y.warmed
      ⟨by show (Cond.and _ .tt).before a A.U = true; rw [Cond.before_and, mvT hU wc]; rfl, mvT hU wc, mvT hU wz, hp.2.2.1, hp.2.2.2⟩)
    (fun m meth c A a g mk Y hp => ⟨hp.1, wtrans (s := s.setVm vm0) hZ Y.warmed, hp.2.1, (CHv.at Y hZ hEL H).1, fun x hx => (CHv.at Y hZ hEL H).safe (hlt x hx) (hs x hx)⟩) (fun _ _ _ _ _ _ _ _ _ => trivial)
    (fun _ _ _ _ ⟨v, L, h1, h2, h3, h4⟩ => ⟨L, _, _, h4, rfl, rfl, ⟨v, h1, h2⟩, h3⟩)
    (fun m meth c A a g mk v t L k n Y hp _ _ ⟨e1, e2, ⟨v', e3, e4⟩, e5⟩ => by
      cases e3; subst e1 e2
      refine ⟨L, e4, rfl, rfl, rfl, (CHv.at Y hZ hEL H).trans ?_⟩
      rw [← hp.2.1]; exact e5)
end BackS1

abbrev cQ : String := "com/example/kvasir/kvasir/sql/SqlQuery"
abbrev cAL : String := "java/util/ArrayList"
abbrev cAb : String := "java/util/AbstractList"
abbrev cL2 : String := "java/util/ImmutableCollections$List12"
abbrev cLN : String := "java/util/ImmutableCollections$ListN"
abbrev cLI : String := "java/util/ImmutableCollections$ListItr"
abbrev cIC : String := "java/util/ImmutableCollections"
abbrev dO : String := "Ljava/lang/Object;"
abbrev dOA : String := "[Ljava/lang/Object;"
abbrev dL : String := "Ljava/util/List;"
abbrev dS : String := "Ljava/lang/String;"
abbrev cW : String := "com/example/kvasir/kvasir/sql/SqlQueryToStringPinLaw"
abbrev tOb : FieldType := .object "java/lang/Object"
abbrev SU5 (Z : State) (Gf : Value) : Prop := Sta Z Z.heap "jdk/internal/util/Preconditions" "SIOOBE_FORMATTER" "Ljava/util/function/BiFunction;" Gf
abbrev SU6 (Z : State) (em : Addr) : Prop := Sta Z Z.heap "java/util/ImmutableCollections" "EMPTY" "Ljava/lang/Object;" (.ref em)
abbrev SU7 (Z : State) (de : Addr) : Prop := Sta Z Z.heap "java/util/ArrayList" "DEFAULTCAPACITY_EMPTY_ELEMENTDATA" "[Ljava/lang/Object;" (.ref de)
abbrev ELs : List (String × Nat) := [(cQ, 34), (cS, 7), ("java/util/AbstractCollection", 92)]
theorem own_wS {a0 : Array Value} {Z : State} (hw : ∀ d ∈ tables_1, d.before a0 Z = true) : ∀ d ∈ Bundle.stringAtoms, d.before a0 Z = true := fun d hd => hw d ((by decide +kernel : ∀ d ∈ Bundle.stringAtoms, d ∈ tables_1) d hd)
variable {l : Launch} {Z : State} {a0 : Array Value} {ws : List Jvm.Cond} {n0 : Nat} {h0 : Heap}
theorem ef_0 (m : MethodId)  : entryFrame m #[(.int 2)] 1 = mkF m 0 #[.val (.int 2)] [] := by first | (simp [entryFrame, mkF, argsToLocals, Value.category]; done) | rfl
theorem pn_0 : plainName "java/lang/StringUTF16" = true := by first | (simp [plainName, overriddenIn]; done) | decide +kernel
abbrev k0_ := jdk_52_method_3_code
theorem d0_1 : decode k0_ 1 = .ok (.ifCond .ge 11, 3) := by decide +kernel
theorem b0_ : dl k0_ 0 [(.iload_n 0, 1)] = true := by decide +kernel
theorem b1_ : dl k0_ 12 [(.iload_n 0, 1)] = true := by decide +kernel
theorem d0_13 : decode k0_ 13 = .ok (.ldc 20, 2) := by decide +kernel
theorem d0_15 : decode k0_ 15 = .ok (.if_icmp .lt 40, 3) := by decide +kernel
theorem b2_ : dl k0_ 55 [(.iload_n 0, 1), (.iconst 1, 1), (.ishl, 1)] = true := by decide +kernel
theorem d0_58 : decode k0_ 58 = .ok (.ireturn, 1) := by decide +kernel
def Q_nbl2 (Z : State) : QT := fun h0 n0 v h L => v = some (.int 4) ∧ Fr n0 L ∧ h = h0
abbrev mn_0 : MethodName := ⟨"java/lang/StringUTF16", "newBytesLength", "(I)I"⟩
theorem rm_nbl2 (hw : HW a0 Z) (Z0 : n0 ≤ h0.size) :
  MetP l Z mn_0 k0_ 1 (some .int) (rr 0 0 0 0) ws #[(.int 2)] h0 (Q_nbl2 Z h0 n0) := by
 refine begH n0 "java/lang/StringUTF16" rfl (plainFor_of_name pn_0) fun p e s m below meth c s₁ s0 hrt hlk hZ hx hby hml hown hnm X0 e0 N0 P0 => ?_
 replace P0 : PP p e below s₁ (mkF m 0 #[iv 2] []) s0 := castPP (ef_0 m ) P0
 have P1 : PP p e below s₁ (mkF m 13 #[iv 2] [(.int 2)]) s0 := fun q_ k_ => P0 q_ (by
  refine bt X0 hx hby b0_ rfl ?_
  refine XS.ifYes X0.here hx rfl (pc0 := 1) (pc' := 12) rfl (hb hby d0_1) rfl ((if0 _ _).trans (flt ((by decide) : ¬ ((2 : Int32) < (0 : Int32)))).2.1) (by decide) (by decide) ?_
  exact bt X0 hx hby b1_ rfl k_)
 have P2 : PP p e below s₁ (mkF m 58 #[iv 2] [(.int 4)]) s0 := fun q_ k_ => P1 q_ (by
  refine X0.ldcInt hx hown (mw hZ hw 457 rfl) (g := P1.g) rfl (hb hby d0_13) _ ?_
  refine XS.icmpYes X0.here hx rfl (pc0 := 15) (pc' := 55) rfl (hb hby d0_15) rfl (tlt ((by decide) : (2 : Int32) < (1073741823 : Int32))).1 (by decide) (by decide) ?_
  exact bt X0 hx hby b2_ rfl k_)
 exact endI 58 #[iv 2] (rest := []) X0 hx hrt hlk P2 (hb hby d0_58) e0 (by decide) (by decide) (show Q_nbl2 Z h0 n0 _ _ _ from ⟨rfl, N0, rfl⟩)
abbrev k1_ := jdk_52_method_2_code
theorem b3_ : dl k1_ 0 [(.iload_n 0, 1)] = true := by decide +kernel
theorem pd_0 : parseMethodDescriptor "(I)I" = some ⟨[.int], some .int⟩ := by decide +kernel
theorem d1_1 : decode k1_ 1 = .ok (.invokestatic 11, 3) := by decide +kernel
theorem d1_4 : decode k1_ 4 = .ok (.newarray .byte, 2) := by decide +kernel
theorem d1_6 : decode k1_ 6 = .ok (.areturn, 1) := by decide +kernel
def Q_nbf2 (Z : State) : QT := fun h0 n0 v h L => ∃ (t : Addr) (kb : ClassId), v = some (.ref t) ∧ Fr n0 L ∧ Keep h0 h [] ∧ (h0.size ≤ t) ∧ (Arv Z h t kb .byte 4 (wid []) i0)
abbrev mn_1 : MethodName := ⟨"java/lang/StringUTF16", "newBytesFor", "(I)[B"⟩
theorem rm_nbf2 (hw : HW a0 Z) (Z0 : n0 ≤ h0.size) :
  MetP l Z mn_1 k1_ 1 (some (.array .byte)) (rr 1 1 4 12) ws #[(.int 2)] h0 (Q_nbf2 Z h0 n0) := by
 refine begH n0 "java/lang/StringUTF16" rfl (plainFor_of_name pn_0) fun p e s m below meth c s₁ s0 hrt hlk hZ hx hby hml hown hnm X0 e0 N0 P0 => ?_
 replace P0 : PP p e below s₁ (mkF m 0 #[iv 2] []) s0 := castPP (ef_0 m ) P0
 have P1 := P0.bt X0 hx hby b3_ rfl
 obtain ⟨_, T2, L2, X2, hQ2, P2⟩ := cSt P1 X0 hx hZ hown hw e0 hml 454 455 17 456 (rm_nbl2 hw Z0) rfl rfl rfl rfl rfl rfl [(.int 2)] [] 0 (lenOf pd_0 rfl) rfl (Nat.le_of_eq rfl) (hb hby d1_1) rfl (by decide)
 obtain ⟨rfl, N2q, e2⟩ := hQ2
 have N2 := Fr.app N0 N2q
 obtain ⟨T3, h3, k3, X3, e3, E3, A3, st3⟩ := newP X2 hx hZ (ww hw 19 rfl) e2 (g := P2.g) rfl (hb hby d1_4) rfl (by decide) (cap := 4) (by decide) (by decide) (by decide) (by decide)
 obtain ⟨b3, g3⟩ : ∃ z, z = h0.size := ⟨_, rfl⟩
 rw [← g3] at A3 st3
 have P4 := P2.st st3
 have sz_b3 : h0.size ≤ b3 := Nat.le_trans (Nat.le_refl h0.size) (Nat.le_of_eq g3.symm)
 have K3 := (Keep.refl h0 []).ext E3
 obtain ⟨Lf5, X3, N5⟩ := fixL X3 N2 1 4 rfl rfl
 have V_b3 : Arv Z h3 b3 k3 .byte 4 [i0, i0, i0, i0] i0 := (Arv.new A3 (by decide)).pad (pad_rep [] i0 4)
 replace V_b3 : Arv Z h3 b3 k3 .byte 4 (wid []) i0 := V_b3.pad (fun i => (pad_rep [] i0 4 i).symm)
 exact endA 6 #[iv 2] (rest := []) X3 hx hrt rfl hlk P4 (hb hby d1_6) e3 (by decide) (by decide) (show Q_nbf2 Z h0 n0 _ _ _ from ⟨b3, k3, rfl, N5, K3, sz_b3, V_b3⟩)
theorem ef_1 (m : MethodId)  : entryFrame m #[(.int 16)] 1 = mkF m 0 #[.val (.int 16)] [] := by first | (simp [entryFrame, mkF, argsToLocals, Value.category]; done) | rfl
def Q_nbl16 (Z : State) : QT := fun h0 n0 v h L => v = some (.int 32) ∧ Fr n0 L ∧ h = h0
theorem rm_nbl16 (hw : HW a0 Z) (Z0 : n0 ≤ h0.size) :
  MetP l Z mn_0 k0_ 1 (some .int) (rr 0 0 0 0) ws #[(.int 16)] h0 (Q_nbl16 Z h0 n0) := by
 refine begH n0 "java/lang/StringUTF16" rfl (plainFor_of_name pn_0) fun p e s m below meth c s₁ s0 hrt hlk hZ hx hby hml hown hnm X0 e0 N0 P0 => ?_
 replace P0 : PP p e below s₁ (mkF m 0 #[iv 16] []) s0 := castPP (ef_1 m ) P0
 have P1 : PP p e below s₁ (mkF m 13 #[iv 16] [(.int 16)]) s0 := fun q_ k_ => P0 q_ (by
  refine bt X0 hx hby b0_ rfl ?_
  refine XS.ifYes X0.here hx rfl (pc0 := 1) (pc' := 12) rfl (hb hby d0_1) rfl ((if0 _ _).trans (flt ((by decide) : ¬ ((16 : Int32) < (0 : Int32)))).2.1) (by decide) (by decide) ?_
  exact bt X0 hx hby b1_ rfl k_)
 have P2 : PP p e below s₁ (mkF m 58 #[iv 16] [(.int 32)]) s0 := fun q_ k_ => P1 q_ (by
  refine X0.ldcInt hx hown (mw hZ hw 457 rfl) (g := P1.g) rfl (hb hby d0_13) _ ?_
  refine XS.icmpYes X0.here hx rfl (pc0 := 15) (pc' := 55) rfl (hb hby d0_15) rfl (tlt ((by decide) : (16 : Int32) < (1073741823 : Int32))).1 (by decide) (by decide) ?_
  exact bt X0 hx hby b2_ rfl k_)
 exact endI 58 #[iv 16] (rest := []) X0 hx hrt hlk P2 (hb hby d0_58) e0 (by decide) (by decide) (show Q_nbl16 Z h0 n0 _ _ _ from ⟨rfl, N0, rfl⟩)
def Q_nbf16 (Z : State) : QT := fun h0 n0 v h L => ∃ (t : Addr) (kb : ClassId), v = some (.ref t) ∧ Fr n0 L ∧ Keep h0 h [] ∧ (h0.size ≤ t) ∧ (Arv Z h t kb .byte 32 (wid []) i0)
theorem rm_nbf16 (hw : HW a0 Z) (Z0 : n0 ≤ h0.size) :
  MetP l Z mn_1 k1_ 1 (some (.array .byte)) (rr 1 1 32 12) ws #[(.int 16)] h0 (Q_nbf16 Z h0 n0) := by
 refine begH n0 "java/lang/StringUTF16" rfl (plainFor_of_name pn_0) fun p e s m below meth c s₁ s0 hrt hlk hZ hx hby hml hown hnm X0 e0 N0 P0 => ?_
 replace P0 : PP p e below s₁ (mkF m 0 #[iv 16] []) s0 := castPP (ef_1 m ) P0
 have P1 := P0.bt X0 hx hby b3_ rfl
 obtain ⟨_, T2, L2, X2, hQ2, P2⟩ := cSt P1 X0 hx hZ hown hw e0 hml 454 455 17 456 (rm_nbl16 hw Z0) rfl rfl rfl rfl rfl rfl [(.int 16)] [] 0 (lenOf pd_0 rfl) rfl (Nat.le_of_eq rfl) (hb hby d1_1) rfl (by decide)
 obtain ⟨rfl, N2q, e2⟩ := hQ2
 have N2 := Fr.app N0 N2q
 obtain ⟨T3, h3, k3, X3, e3, E3, A3, st3⟩ := newP X2 hx hZ (ww hw 19 rfl) e2 (g := P2.g) rfl (hb hby d1_4) rfl (by decide) (cap := 32) (by decide) (by decide) (by decide) (by decide)
 obtain ⟨b3, g3⟩ : ∃ z, z = h0.size := ⟨_, rfl⟩
 rw [← g3] at A3 st3
 have P4 := P2.st st3
 have sz_b3 : h0.size ≤ b3 := Nat.le_trans (Nat.le_refl h0.size) (Nat.le_of_eq g3.symm)
 have K3 := (Keep.refl h0 []).ext E3
 obtain ⟨Lf5, X3, N5⟩ := fixL X3 N2 1 32 rfl rfl
 have V_b3 : Arv Z h3 b3 k3 .byte 32 [i0, i0, i0, i0, i0, i0, i0, i0, i0, i0, i0, i0, i0, i0, i0, i0, i0, i0, i0, i0, i0, i0, i0, i0, i0, i0, i0, i0, i0, i0, i0, i0] i0 := (Arv.new A3 (by decide)).pad (pad_rep [] i0 32)
 replace V_b3 : Arv Z h3 b3 k3 .byte 32 (wid []) i0 := V_b3.pad (fun i => (pad_rep [] i0 32 i).symm)
 exact endA 6 #[iv 16] (rest := []) X3 hx hrt rfl hlk P4 (hb hby d1_6) e3 (by decide) (by decide) (show Q_nbf16 Z h0 n0 _ _ _ from ⟨b3, k3, rfl, N5, K3, sz_b3, V_b3⟩)
theorem ef_2 (m : MethodId) (x0 : Addr) (x1 : Int32) (x2 : Int32) : entryFrame m #[(.ref x0), (.int x1), (.int x2)] 3 = mkF m 0 #[.val (.ref x0), .val (.int x1), .val (.int x2)] [] := by first | (simp [entryFrame, mkF, argsToLocals, Value.category]; done) | rfl
abbrev k2_ := jdk_52_method_4_code
theorem d2_0 : decode k2_ 0 = .ok (.getstatic 44, 3) := by decide +kernel
theorem d2_3 : decode k2_ 3 = .ok (.ifCond .ne 25, 3) := by decide +kernel
theorem b4_ : dl k2_ 28 [(.iload_n 1, 1), (.iconst 1, 1), (.ishl, 1)] = true := by decide +kernel
theorem b5_ : dl k2_ 31 [(.istore_n 1, 1), (.aload_n 0, 1), (.iload_n 1, 1), (.iinc 1 1, 3), (.iload_n 2, 1)] = true := by decide +kernel
theorem d2_38 : decode k2_ 38 = .ok (.getstatic 59, 3) := by decide +kernel
theorem b6_ : dl k2_ 41 [(.ishr, 1), (.i2b, 1)] = true := by decide +kernel
theorem d2_43 : decode k2_ 43 = .ok (.bastore, 1) := by decide +kernel
theorem b7_ : dl k2_ 44 [(.aload_n 0, 1), (.iload_n 1, 1)] = true := by decide +kernel
theorem b8_ : dl k2_ 46 [(.iload_n 2, 1)] = true := by decide +kernel
theorem d2_47 : decode k2_ 47 = .ok (.getstatic 63, 3) := by decide +kernel
theorem b9_ : dl k2_ 50 [(.ishr, 1), (.i2b, 1)] = true := by decide +kernel
theorem d2_52 : decode k2_ 52 = .ok (.bastore, 1) := by decide +kernel
theorem d2_53 : decode k2_ 53 = .ok (.return_, 1) := by decide +kernel
def Q_put (Z : State) (tb : Addr) (kb : ClassId) (zn : Nat) (cs : List Int32) (nk : Nat) (cc : Int32) : QT := fun h0 n0 v h L => v = none ∧ Fr n0 L ∧ Keep h0 h [tb] ∧ (Arv Z h tb kb .byte (Int32.ofNat zn) (wid (cs ++ [cc])) i0)
abbrev mn_2 : MethodName := ⟨"java/lang/StringUTF16", "putChar", "([BII)V"⟩
theorem rm_put (hw : HW a0 Z) (tb : Addr) (kb : ClassId) (zn : Nat) (cs : List Int32) (nk : Nat) (cc : Int32) (Z0 : n0 ≤ h0.size) (V_tb : Arv Z h0 tb kb .byte (Int32.ofNat zn) (wid cs) i0) (g_tb : n0 ≤ tb) (Sa : SU1 Z) (Sh : SU2 Z) (Sl : SU3 Z) (OL : Old Z n0 h0) (hnk : cs.length = nk) (hzn : 2 * cs.length + 2 ≤ zn) (hzm : zn ≤ 1000) :
  MetP l Z mn_2 k2_ 3 none (rr 0 0 0 0) ws #[(.ref tb), (.int (Int32.ofNat nk)), (.int cc)] h0 (Q_put Z tb kb zn cs nk cc h0 n0) := by
 refine begH n0 "java/lang/StringUTF16" rfl (plainFor_of_name pn_0) fun p e s m below meth c s₁ s0 hrt hlk hZ hx hby hml hown hnm X0 e0 N0 P0 => ?_
 replace P0 : PP p e below s₁ (mkF m 0 #[rv tb, iv (Int32.ofNat nk), iv cc] []) s0 := castPP (ef_2 m tb (Int32.ofNat nk) cc) P0
 subst hnk
 obtain ⟨T1, X1, e1, P1⟩ := gS P0 X0 hx hZ hown hw 443 e0 (Sa.ext OL.2) (hb hby d2_0)
 have P2 : PP p e below T1 (mkF m 31 #[rv tb, iv (Int32.ofNat (cs.length)), iv cc] [(.int ((Int32.ofNat (cs.length)) <<< ((1 : Int32) &&& 31)))]) s0 := fun q_ k_ => P1 q_ (by
  refine XS.ifYes X1.here hx rfl (pc0 := 3) (pc' := 28) rfl (hb hby d2_3) rfl ((if0 _ _).trans (feq ((by decide) : ¬ ((1 : Int32) = (0 : Int32)))).2) (by decide) (by decide) ?_
  exact bt X1 hx hby b4_ rfl k_)
 have P3 : PP p e below T1 (mkF m 31 #[rv tb, iv (Int32.ofNat (cs.length)), iv cc] [(.int (Int32.ofNat (2 * cs.length)))]) s0 := fun q_ k_ => P2 q_ (by rw [(own_shl1 cs.length)]; exact k_)
 have P4 := P3.bt X1 hx hby b5_ rfl
 obtain ⟨T5, X5, e5, P5⟩ := gS P4 X1 hx hZ hown hw 444 e1 (Sh.ext OL.2) (hb hby d2_38)
 have P6 : PP p e below T5 (mkF m 43 #[rv tb, iv ((Int32.ofNat (2 * cs.length)) + (1 : Int32)), iv cc] [(.int ((cc >>> ((0 : Int32) &&& 31)).toInt8.toInt32)), (.int (Int32.ofNat (2 * cs.length))), (.ref tb)]) s0 := fun q_ k_ => P5 q_ (by
  exact bt X5 hx hby b6_ rfl k_)
 replace V_tb : Arv Z h0 tb kb .byte (Int32.ofNat zn) (wid cs ++ [i0, i0]) i0 := V_tb.pad (pad_rep (wid cs) i0 2)
 obtain ⟨cl7, Ar7, q7, S7, M7, Hs7, G7⟩ := V_tb
 obtain ⟨T7, h7, X7, e7, W7, st7⟩ := stB X5 hx hZ e5 Ar7 (j := (Int32.ofNat (2 * cs.length))) (inb_of S7 (own_inb (2 * cs.length) zn (by omega) (by omega))) (g := P6.g) rfl rfl (hb hby d2_43)
 have P8 := P6.st st7
 have N7 := Fr.snoc X7 N0 g_tb
 have K7 := (Keep.refl h0 [tb]).wr W7 (Or.inl (mi 0))
 replace OL := OL.wr W7 g_tb
 have V_tb : Arv Z h7 tb kb .byte (Int32.ofNat zn) ((wid cs ++ [i0, i0]).set (2 * cs.length) (.int (nar .byte ((cc >>> ((0 : Int32) &&& 31)).toInt8.toInt32)))) i0 := Arv.set Ar7 q7 S7 M7 Hs7 G7 (fits_nar_byte _) W7 (2 * cs.length) (own_cl _ (by omega)) (by simp [own_widL])
 have P9 := P8.bt X7 hx hby b7_ rfl
 have P10 : PP p e below T7 (mkF m 46 #[rv tb, iv (Int32.ofNat (2 * cs.length + 1)), iv cc] [(.int (Int32.ofNat (2 * cs.length + 1))), (.ref tb)]) s0 := fun q_ k_ => P9 q_ (by show GG p e below T7 (mkF m 46 #[rv tb, iv ((Int32.ofNat (2 * cs.length)) + (1 : Int32)), iv cc] [(.int ((Int32.ofNat (2 * cs.length)) + (1 : Int32))), (.ref tb)]) q_; rw [show Int32.ofNat (2 * cs.length) + (1 : Int32) = Int32.ofNat (2 * cs.length + 1) from own_add (2 * cs.length) 1]; exact k_)
 have P11 := P10.bt X7 hx hby b8_ rfl
 obtain ⟨T12, X12, e12, P12⟩ := gS P11 X7 hx hZ hown hw 445 e7 (Sl.ext OL.2) (hb hby d2_47)
 have P13 : PP p e below T12 (mkF m 52 #[rv tb, iv (Int32.ofNat (2 * cs.length + 1)), iv cc] [(.int ((cc >>> ((8 : Int32) &&& 31)).toInt8.toInt32)), (.int (Int32.ofNat (2 * cs.length + 1))), (.ref tb)]) s0 := fun q_ k_ => P12 q_ (by
  exact bt X12 hx hby b9_ rfl k_)
 obtain ⟨cl14, Ar14, q14, S14, M14, Hs14, G14⟩ := V_tb
 obtain ⟨T14, h14, X14, e14, W14, st14⟩ := stB X12 hx hZ e12 Ar14 (j := (Int32.ofNat (2 * cs.length + 1))) (inb_of S14 (own_inb (2 * cs.length + 1) zn (by omega) (by omega))) (g := P13.g) rfl rfl (hb hby d2_52)
 have P15 := P13.st st14
 have N14 := Fr.snoc X14 N7 g_tb
 have K14 := K7.wr W14 (Or.inl (mi 0))
 have V_tb : Arv Z h14 tb kb .byte (Int32.ofNat zn) (((wid cs ++ [i0, i0]).set (2 * cs.length) (.int (nar .byte ((cc >>> ((0 : Int32) &&& 31)).toInt8.toInt32)))).set (2 * cs.length + 1) (.int (nar .byte ((cc >>> ((8 : Int32) &&& 31)).toInt8.toInt32)))) i0 := Arv.set Ar14 q14 S14 M14 Hs14 G14 (fits_nar_byte _) W14 (2 * cs.length + 1) (own_cl _ (by omega)) (by simp [own_widL])
 replace V_tb : Arv Z h14 tb kb .byte (Int32.ofNat zn) (wid (cs ++ [cc])) i0 := by
     have q := V_tb
     rw [own_put] at q
     exact q
 exact endV 53 #[rv tb, iv (Int32.ofNat (2 * cs.length + 1)), iv cc] X14 hx hrt hlk P15 (hb hby d2_53) e14 (by decide) (by decide) (show Q_put Z tb kb zn cs (cs.length) cc h0 n0 _ _ _ from ⟨rfl, N14, K14, V_tb⟩)
theorem ef_3 (m : MethodId) (x0 : Addr) (x1 : Int32) : entryFrame m #[(.ref x0), (.int x1)] 2 = mkF m 0 #[.val (.ref x0), .val (.int x1)] [] := by first | (simp [entryFrame, mkF, argsToLocals, Value.category]; done) | rfl
abbrev k3_ := jdk_52_method_5_code
theorem d3_0 : decode k3_ 0 = .ok (.getstatic 44, 3) := by decide +kernel
theorem d3_3 : decode k3_ 3 = .ok (.ifCond .ne 25, 3) := by decide +kernel
theorem b10_ : dl k3_ 28 [(.iload_n 1, 1), (.iconst 1, 1), (.ishl, 1)] = true := by decide +kernel
theorem b11_ : dl k3_ 31 [(.istore_n 1, 1), (.aload_n 0, 1), (.iload_n 1, 1), (.iinc 1 1, 3)] = true := by decide +kernel
theorem d3_37 : decode k3_ 37 = .ok (.baload, 1) := by decide +kernel
theorem b12_ : dl k3_ 38 [(.sipush 255, 3), (.iand, 1)] = true := by decide +kernel
theorem d3_42 : decode k3_ 42 = .ok (.getstatic 59, 3) := by decide +kernel
theorem b13_ : dl k3_ 45 [(.ishl, 1), (.aload_n 0, 1), (.iload_n 1, 1)] = true := by decide +kernel
theorem d3_48 : decode k3_ 48 = .ok (.baload, 1) := by decide +kernel
theorem b14_ : dl k3_ 49 [(.sipush 255, 3), (.iand, 1)] = true := by decide +kernel
theorem d3_53 : decode k3_ 53 = .ok (.getstatic 63, 3) := by decide +kernel
theorem b15_ : dl k3_ 56 [(.ishl, 1), (.ior, 1), (.i2c, 1)] = true := by decide +kernel
theorem d3_59 : decode k3_ 59 = .ok (.ireturn, 1) := by decide +kernel
def Q_get (Z : State) (tb : Addr) (kb : ClassId) (zn : Nat) (cs : List Int32) (k : Nat) (cc : Int32) : QT := fun h0 n0 v h L => v = some (.int cc) ∧ Fr n0 L ∧ h = h0
abbrev mn_3 : MethodName := ⟨"java/lang/StringUTF16", "getChar", "([BI)C"⟩
theorem rm_get (hw : HW a0 Z) (tb : Addr) (kb : ClassId) (zn : Nat) (cs : List Int32) (k : Nat) (cc : Int32) (Z0 : n0 ≤ h0.size) (V_tb : Arv Z h0 tb kb .byte (Int32.ofNat zn) (wid cs) i0) (Sa : SU1 Z) (Sh : SU2 Z) (Sl : SU3 Z) (OL : Old Z n0 h0) (hkx : cs[k]? = some cc) (icc : isC cc) (hzn : 2 * cs.length ≤ zn) (hzm : zn ≤ 1000) :
  MetP l Z mn_3 k3_ 2 (some .char) (rr 0 0 0 0) ws #[(.ref tb), (.int (Int32.ofNat k))] h0 (Q_get Z tb kb zn cs k cc h0 n0) := by
 refine begH n0 "java/lang/StringUTF16" rfl (plainFor_of_name pn_0) fun p e s m below meth c s₁ s0 hrt hlk hZ hx hby hml hown hnm X0 e0 N0 P0 => ?_
 replace P0 : PP p e below s₁ (mkF m 0 #[rv tb, iv (Int32.ofNat k)] []) s0 := castPP (ef_3 m tb (Int32.ofNat k)) P0
 obtain ⟨T1, X1, e1, P1⟩ := gS P0 X0 hx hZ hown hw 443 e0 (Sa.ext OL.2) (hb hby d3_0)
 have P2 : PP p e below T1 (mkF m 31 #[rv tb, iv (Int32.ofNat k)] [(.int ((Int32.ofNat k) <<< ((1 : Int32) &&& 31)))]) s0 := fun q_ k_ => P1 q_ (by
  refine XS.ifYes X1.here hx rfl (pc0 := 3) (pc' := 28) rfl (hb hby d3_3) rfl ((if0 _ _).trans (feq ((by decide) : ¬ ((1 : Int32) = (0 : Int32)))).2) (by decide) (by decide) ?_
  exact bt X1 hx hby b10_ rfl k_)
 have P3 : PP p e below T1 (mkF m 31 #[rv tb, iv (Int32.ofNat k)] [(.int (Int32.ofNat (2 * k)))]) s0 := fun q_ k_ => P2 q_ (by rw [(own_shl1 k)]; exact k_)
 have P4 := P3.bt X1 hx hby b11_ rfl
 obtain ⟨cl5, Ar5, q5, S5, M5, Hs5, G5⟩ := id V_tb
 have hin5 := inb_of (j := (Int32.ofNat (2 * k))) S5 (own_inb (2 * k) zn (by have q := own_klt hkx; omega) (by omega))
 have hat5 : cl5.slots[((Int32.ofNat (2 * k))).toNatClampNeg]? = some (.int (nar .byte ((cc >>> ((0 : Int32) &&& 31)).toInt8.toInt32))) := Has.at Hs5 hin5 (by rw [own_cl _ (by have q := own_klt hkx; omega)]; exact (own_wid0 cs k cc _ hkx).1)
 have P6 : PP p e below T1 (mkF m 38 #[rv tb, iv ((Int32.ofNat (2 * k)) + (1 : Int32))] [(.int (nar .byte ((cc >>> ((0 : Int32) &&& 31)).toInt8.toInt32)))]) s0 := fun q_ k_ => P4 q_ (by
  exact X1.baloadBytes hx (j := (Int32.ofNat (2 * k))) (v := (.int (nar .byte ((cc >>> ((0 : Int32) &&& 31)).toInt8.toInt32)))) (by rw [e1]; exact Ar5.1) (State.isArrayOf_alike hZ.alike Ar5.2.1) Ar5.2.2 hin5 hat5 (g := P4.g) rfl rfl (hb hby d3_37) _ k_)
 have P7 := P6.bt X1 hx hby b12_ rfl
 obtain ⟨T8, X8, e8, P8⟩ := gS P7 X1 hx hZ hown hw 444 e1 (Sh.ext OL.2) (hb hby d3_42)
 have P9 : PP p e below T8 (mkF m 48 #[rv tb, iv ((Int32.ofNat (2 * k)) + (1 : Int32))] [(.int ((Int32.ofNat (2 * k)) + (1 : Int32))), (.ref tb), (.int (((nar .byte ((cc >>> ((0 : Int32) &&& 31)).toInt8.toInt32)) &&& (255 : Int32)) <<< ((0 : Int32) &&& 31)))]) s0 := fun q_ k_ => P8 q_ (by
  exact bt X8 hx hby b13_ rfl k_)
 have P10 : PP p e below T8 (mkF m 48 #[rv tb, iv (Int32.ofNat (2 * k + 1))] [(.int (Int32.ofNat (2 * k + 1))), (.ref tb), (.int (((nar .byte ((cc >>> ((0 : Int32) &&& 31)).toInt8.toInt32)) &&& (255 : Int32)) <<< ((0 : Int32) &&& 31)))]) s0 := fun q_ k_ => P9 q_ (by rw [show Int32.ofNat (2 * k) + (1 : Int32) = Int32.ofNat (2 * k + 1) from own_add (2 * k) 1]; exact k_)
 obtain ⟨cl11, Ar11, q11, S11, M11, Hs11, G11⟩ := id V_tb
 have hin11 := inb_of (j := (Int32.ofNat (2 * k + 1))) S11 (own_inb (2 * k + 1) zn (by have q := own_klt hkx; omega) (by omega))
 have hat11 : cl11.slots[((Int32.ofNat (2 * k + 1))).toNatClampNeg]? = some (.int (nar .byte ((cc >>> ((8 : Int32) &&& 31)).toInt8.toInt32))) := Has.at Hs11 hin11 (by rw [own_cl _ (by have q := own_klt hkx; omega)]; exact (own_wid0 cs k cc _ hkx).2)
 have P12 : PP p e below T8 (mkF m 49 #[rv tb, iv (Int32.ofNat (2 * k + 1))] [(.int (nar .byte ((cc >>> ((8 : Int32) &&& 31)).toInt8.toInt32))), (.int (((nar .byte ((cc >>> ((0 : Int32) &&& 31)).toInt8.toInt32)) &&& (255 : Int32)) <<< ((0 : Int32) &&& 31)))]) s0 := fun q_ k_ => P10 q_ (by
  exact X8.baloadBytes hx (j := (Int32.ofNat (2 * k + 1))) (v := (.int (nar .byte ((cc >>> ((8 : Int32) &&& 31)).toInt8.toInt32)))) (by rw [e8]; exact Ar11.1) (State.isArrayOf_alike hZ.alike Ar11.2.1) Ar11.2.2 hin11 hat11 (g := P10.g) rfl rfl (hb hby d3_48) _ k_)
 have P13 := P12.bt X8 hx hby b14_ rfl
 obtain ⟨T14, X14, e14, P14⟩ := gS P13 X8 hx hZ hown hw 445 e8 (Sl.ext OL.2) (hb hby d3_53)
 have P15 : PP p e below T14 (mkF m 59 #[rv tb, iv (Int32.ofNat (2 * k + 1))] [(.int (((((nar .byte ((cc >>> ((0 : Int32) &&& 31)).toInt8.toInt32)) &&& (255 : Int32)) <<< ((0 : Int32) &&& 31)) ||| (((nar .byte ((cc >>> ((8 : Int32) &&& 31)).toInt8.toInt32)) &&& (255 : Int32)) <<< ((8 : Int32) &&& 31))).toUInt32.toUInt16.toUInt32.toInt32))]) s0 := fun q_ k_ => P14 q_ (by
  exact bt X14 hx hby b15_ rfl k_)
 exact endN 59 #[rv tb, iv (Int32.ofNat (2 * k + 1))] (rest := []) X14 hx hrt (by simp) hlk P15 (hb hby d3_59) e14 (by decide) (by decide) (show Q_get Z tb kb zn cs k cc h0 n0 _ _ _ from ⟨congrArg (fun z => some (Value.int z)) (own_w1 icc), N0, rfl⟩)
theorem ef_4 (m : MethodId) (x0 : Addr) : entryFrame m #[(.ref x0)] 1 = mkF m 0 #[.val (.ref x0)] [] := by first | (simp [entryFrame, mkF, argsToLocals, Value.category]; done) | rfl
abbrev k4_ := jdk_52_method_6_code
theorem b16_ : dl k4_ 0 [(.aload_n 0, 1)] = true := by decide +kernel
theorem d4_1 : decode k4_ 1 = .ok (.arraylength, 1) := by decide +kernel
theorem b17_ : dl k4_ 2 [(.iconst 1, 1), (.ishr, 1)] = true := by decide +kernel
theorem d4_4 : decode k4_ 4 = .ok (.ireturn, 1) := by decide +kernel
def Q_uLen (Z : State) (tb : Addr) (kb : ClassId) (nn : Nat) (vs : List Value) : QT := fun h0 n0 v h L => v = some (.int (Int32.ofNat nn)) ∧ Fr n0 L ∧ h = h0
abbrev mn_4 : MethodName := ⟨"java/lang/StringUTF16", "length", "([B)I"⟩
theorem rm_uLen (hw : HW a0 Z) (tb : Addr) (kb : ClassId) (nn : Nat) (vs : List Value) (Z0 : n0 ≤ h0.size) (V_tb : Arv Z h0 tb kb .byte (Int32.ofNat (2 * nn)) vs i0) (hnn : nn ≤ 1000) :
  MetP l Z mn_4 k4_ 1 (some .int) (rr 0 0 0 0) ws #[(.ref tb)] h0 (Q_uLen Z tb kb nn vs h0 n0) := by
 refine begH n0 "java/lang/StringUTF16" rfl (plainFor_of_name pn_0) fun p e s m below meth c s₁ s0 hrt hlk hZ hx hby hml hown hnm X0 e0 N0 P0 => ?_
 replace P0 : PP p e below s₁ (mkF m 0 #[rv tb] []) s0 := castPP (ef_4 m tb) P0
 have P1 := P0.bt X0 hx hby b16_ rfl
 obtain ⟨cl2, Ar2, -, S2, M2, -, -⟩ := id V_tb
 have P3 : PP p e below s₁ (mkF m 2 #[rv tb] [(.int (Int32.ofNat (2 * nn)))]) s0 := fun q_ k_ => P1 q_ (by
  refine X0.arraylength hx (by rw [e0]; exact Ar2.1) (State.isArrayOf_alike hZ.alike Ar2.2.1) (g := P1.g) rfl rfl (hb hby d4_1) _ ?_
  rw [len_of S2 M2]
  exact k_)
 have P4 := P3.bt X0 hx hby b17_ rfl
 have P5 : PP p e below s₁ (mkF m 4 #[rv tb] [(.int (Int32.ofNat nn))]) s0 := fun q_ k_ => P4 q_ (by show GG p e below s₁ (mkF m 4 #[rv tb] [(.int ((Int32.ofNat (2 * nn)) >>> ((1 : Int32) &&& 31)))]) q_; rw [(own_shr1 nn (by omega))]; exact k_)
 exact endI 4 #[rv tb] (rest := []) X0 hx hrt hlk P5 (hb hby d4_4) e0 (by decide) (by decide) (show Q_uLen Z tb kb nn vs h0 n0 _ _ _ from ⟨rfl, N0, rfl⟩)
theorem ef_5 (m : MethodId) (x0 : Int32) (x1 : Int32) (x2 : Value) (h2 : x2.isRef = true) : entryFrame m #[(.int x0), (.int x1), x2] 3 = mkF m 0 #[.val (.int x0), .val (.int x1), .val x2] [] := by cases x2 <;> first | (simp [entryFrame, mkF, argsToLocals, Value.category]; done) | rfl | (simp [Value.isRef] at h2)
theorem pn_1 : plainName "jdk/internal/util/Preconditions" = true := by first | (simp [plainName, overriddenIn]; done) | decide +kernel
abbrev k5_ := jdk_41_method_11_code
theorem d5_1 : decode k5_ 1 = .ok (.ifCond .lt 8, 3) := by decide +kernel
theorem d5_6 : decode k5_ 6 = .ok (.if_icmp .lt 10, 3) := by decide +kernel
theorem b18_ : dl k5_ 0 [(.iload_n 0, 1)] = true := by decide +kernel
theorem b19_ : dl k5_ 4 [(.iload_n 0, 1), (.iload_n 1, 1)] = true := by decide +kernel
theorem b20_ : dl k5_ 16 [(.iload_n 0, 1)] = true := by decide +kernel
theorem d5_17 : decode k5_ 17 = .ok (.ireturn, 1) := by decide +kernel
def Q_ckI (Z : State) (pi pn : Int32) (Gf : Value) : QT := fun h0 n0 v h L => v = some (.int pi) ∧ Fr n0 L ∧ h = h0
abbrev mn_5 : MethodName := ⟨"jdk/internal/util/Preconditions", "checkIndex", "(IILjava/util/function/BiFunction;)I"⟩
theorem rm_ckI (hw : HW a0 Z) (pi pn : Int32) (Gf : Value) (Z0 : n0 ≤ h0.size) (hp1 : ¬ pi < 0) (hp2 : pi < pn) (rGf : Gf.isRef = true) :
  MetP l Z mn_5 k5_ 3 (some .int) (rr 0 0 0 0) ws #[(.int pi), (.int pn), Gf] h0 (Q_ckI Z pi pn Gf h0 n0) := by
 refine begH n0 "jdk/internal/util/Preconditions" rfl (plainFor_of_name pn_1) fun p e s m below meth c s₁ s0 hrt hlk hZ hx hby hml hown hnm X0 e0 N0 P0 => ?_
 replace P0 : PP p e below s₁ (mkF m 0 #[iv pi, iv pn, .val Gf] []) s0 := castPP (ef_5 m pi pn Gf rGf) P0
 have P1 : PP p e below s₁ (mkF m 17 #[iv pi, iv pn, .val Gf] [(.int pi)]) s0 := fun q_ k_ => P0 q_ (by
  refine bt X0 hx hby b18_ rfl ?_
  refine XS.ifNo X0.here hx rfl (hb hby d5_1) rfl ((if0 _ _).trans (flt (hp1 : ¬ (pi < (0 : Int32)))).1) ?_
  refine bt X0 hx hby b19_ rfl ?_
  refine XS.icmpYes X0.here hx rfl (pc0 := 6) (pc' := 16) rfl (hb hby d5_6) rfl (tlt (hp2 : pi < pn)).1 (by decide) (by decide) ?_
  exact bt X0 hx hby b20_ rfl k_)
 exact endI 17 #[iv pi, iv pn, .val Gf] (rest := []) X0 hx hrt hlk P1 (hb hby d5_17) e0 (by decide) (by decide) (show Q_ckI Z pi pn Gf h0 n0 _ _ _ from ⟨rfl, N0, rfl⟩)
theorem ef_6 (m : MethodId) (x0 : Int32) (x1 : Int32) : entryFrame m #[(.int x0), (.int x1)] 2 = mkF m 0 #[.val (.int x0), .val (.int x1)] [] := by first | (simp [entryFrame, mkF, argsToLocals, Value.category]; done) | rfl
theorem pn_2 : plainName "java/lang/String" = true := by first | (simp [plainName, overriddenIn]; done) | decide +kernel
abbrev k6_ := jdk_42_method_155_code
theorem b21_ : dl k6_ 0 [(.iload_n 0, 1), (.iload_n 1, 1)] = true := by decide +kernel
theorem d6_2 : decode k6_ 2 = .ok (.getstatic 1053, 3) := by decide +kernel
theorem pd_1 : parseMethodDescriptor "(IILjava/util/function/BiFunction;)I" = some ⟨[.int, .int, (.object "java/util/function/BiFunction")], some .int⟩ := by decide +kernel
theorem d6_5 : decode k6_ 5 = .ok (.invokestatic 1059, 3) := by decide +kernel
theorem b22_ : dl k6_ 8 [(.pop, 1)] = true := by decide +kernel
theorem d6_9 : decode k6_ 9 = .ok (.return_, 1) := by decide +kernel
def Q_ckS (Z : State) (pi pn : Int32) (Gf : Value) : QT := fun h0 n0 v h L => v = none ∧ Fr n0 L ∧ h = h0
abbrev mn_6 : MethodName := ⟨"java/lang/String", "checkIndex", "(II)V"⟩
theorem rm_ckS (hw : HW a0 Z) (pi pn : Int32) (Gf : Value) (Z0 : n0 ≤ h0.size) (hp1 : ¬ pi < 0) (hp2 : pi < pn) (rGf : Gf.isRef = true) (Sf : SU5 Z Gf) (OL : Old Z n0 h0) :
  MetP l Z mn_6 k6_ 2 none (rr 1 0 0 14) ws #[(.int pi), (.int pn)] h0 (Q_ckS Z pi pn Gf h0 n0) := by
 refine begH n0 cS rfl (plainFor_of_name pn_2) fun p e s m below meth c s₁ s0 hrt hlk hZ hx hby hml hown hnm X0 e0 N0 P0 => ?_
 replace P0 : PP p e below s₁ (mkF m 0 #[iv pi, iv pn] []) s0 := castPP (ef_6 m pi pn) P0
 have P1 := P0.bt X0 hx hby b21_ rfl
 obtain ⟨T2, X2, e2, P2⟩ := gS P1 X0 hx hZ hown hw 292 e0 (Sf.ext OL.2) (hb hby d6_2)
 obtain ⟨_, T3, L3, X3, hQ3, P3⟩ := cSt P2 X2 hx hZ hown hw e2 hml 294 295 293 296 (rm_ckI hw pi pn Gf Z0 hp1 hp2 rGf) rfl rfl rfl rfl rfl rfl [(.int pi), (.int pn), Gf] [] 0 (lenOf pd_1 rfl) rfl (Nat.le_of_eq rfl) (hb hby d6_5) rfl (by decide)
 obtain ⟨rfl, N3q, e3⟩ := hQ3
 have N3 := Fr.app N0 N3q
 have P4 : PP p e below T3 (mkF m 9 #[iv pi, iv pn] []) s0 := fun q_ k_ => P3 q_ (by
  exact bt X3 hx hby b22_ rfl k_)
 exact endV 9 #[iv pi, iv pn] X3 hx hrt hlk P4 (hb hby d6_9) e3 (by decide) (by decide) (show Q_ckS Z pi pn Gf h0 n0 _ _ _ from ⟨rfl, N3, rfl⟩)
theorem ef_7 (m : MethodId) (x0 : Int32) (x1 : Addr) : entryFrame m #[(.int x0), (.ref x1)] 2 = mkF m 0 #[.val (.int x0), .val (.ref x1)] [] := by first | (simp [entryFrame, mkF, argsToLocals, Value.category]; done) | rfl
abbrev k7_ := jdk_52_method_91_code
theorem b23_ : dl k7_ 0 [(.iload_n 0, 1), (.aload_n 1, 1)] = true := by decide +kernel
theorem pd_2 : parseMethodDescriptor "([B)I" = some ⟨[(.array .byte)], some .int⟩ := by decide +kernel
theorem d7_2 : decode k7_ 2 = .ok (.invokestatic 48, 3) := by decide +kernel
theorem pd_3 : parseMethodDescriptor "(II)V" = some ⟨[.int, .int], none⟩ := by decide +kernel
theorem d7_5 : decode k7_ 5 = .ok (.invokestatic 414, 3) := by decide +kernel
theorem d7_8 : decode k7_ 8 = .ok (.return_, 1) := by decide +kernel
def Q_ckU (Z : State) (tb : Addr) (kb : ClassId) (nn : Nat) (vs : List Value) (k : Nat) (Gf : Value) : QT := fun h0 n0 v h L => v = none ∧ Fr n0 L ∧ h = h0
abbrev mn_7 : MethodName := ⟨"java/lang/StringUTF16", "checkIndex", "(I[B)V"⟩
theorem rm_ckU (hw : HW a0 Z) (tb : Addr) (kb : ClassId) (nn : Nat) (vs : List Value) (k : Nat) (Gf : Value) (Z0 : n0 ≤ h0.size) (V_tb : Arv Z h0 tb kb .byte (Int32.ofNat (2 * nn)) vs i0) (rGf : Gf.isRef = true) (Sf : SU5 Z Gf) (OL : Old Z n0 h0) (hnn : nn ≤ 1000) (hkn : k < nn) :
  MetP l Z mn_7 k7_ 2 none (rr 2 0 0 27) ws #[(.int (Int32.ofNat k)), (.ref tb)] h0 (Q_ckU Z tb kb nn vs k Gf h0 n0) := by
 refine begH n0 "java/lang/StringUTF16" rfl (plainFor_of_name pn_0) fun p e s m below meth c s₁ s0 hrt hlk hZ hx hby hml hown hnm X0 e0 N0 P0 => ?_
 replace P0 : PP p e below s₁ (mkF m 0 #[iv (Int32.ofNat k), rv tb] []) s0 := castPP (ef_7 m (Int32.ofNat k) tb) P0
 have P1 := P0.bt X0 hx hby b23_ rfl
 obtain ⟨_, T2, L2, X2, hQ2, P2⟩ := cSt P1 X0 hx hZ hown hw e0 hml 467 468 17 469 (rm_uLen hw tb kb nn vs Z0 V_tb hnn) rfl rfl rfl rfl rfl rfl [(.ref tb)] [(.int (Int32.ofNat k))] 1 (lenOf pd_2 rfl) rfl (Nat.le_of_eq rfl) (hb hby d7_2) rfl (by decide)
 obtain ⟨rfl, N2q, e2⟩ := hQ2
 have N2 := Fr.app N0 N2q
 obtain ⟨_, T3, L3, X3, hQ3, P3⟩ := cSt P2 X2 hx hZ hown hw e2 hml 482 290 2 291 (rm_ckS hw (Int32.ofNat k) (Int32.ofNat nn) Gf Z0 ((own_inb k nn hkn (by omega)).1) ((own_inb k nn hkn (by omega)).2) rGf Sf OL) rfl rfl rfl rfl rfl rfl [(.int (Int32.ofNat k)), (.int (Int32.ofNat nn))] [] 0 (lenOf pd_3 rfl) rfl (Nat.le_of_eq rfl) (hb hby d7_5) rfl (by decide)
 obtain ⟨rfl, N3q, e3⟩ := hQ3
 have N3 := Fr.app N2 N3q
 exact endV 8 #[iv (Int32.ofNat k), rv tb] X3 hx hrt hlk P3 (hb hby d7_8) e3 (by decide) (by decide) (show Q_ckU Z tb kb nn vs k Gf h0 n0 _ _ _ from ⟨rfl, N3, rfl⟩)
theorem ef_8 (m : MethodId) (x0 : Int32) (x1 : Int32) (x2 : Int32) (x3 : Value) (h3 : x3.isRef = true) : entryFrame m #[(.int x0), (.int x1), (.int x2), x3] 4 = mkF m 0 #[.val (.int x0), .val (.int x1), .val (.int x2), .val x3] [] := by cases x3 <;> first | (simp [entryFrame, mkF, argsToLocals, Value.category]; done) | rfl | (simp [Value.isRef] at h3)
abbrev k8_ := jdk_41_method_13_code
theorem d8_5 : decode k8_ 5 = .ok (.ifCond .lt 10, 3) := by decide +kernel
theorem d8_12 : decode k8_ 12 = .ok (.if_icmp .le 11, 3) := by decide +kernel
theorem b24_ : dl k8_ 0 [(.iload_n 2, 1), (.iload_n 0, 1), (.ior, 1), (.iload_n 1, 1), (.ior, 1)] = true := by decide +kernel
theorem b25_ : dl k8_ 8 [(.iload_n 1, 1), (.iload_n 2, 1), (.iload_n 0, 1), (.isub, 1)] = true := by decide +kernel
theorem b26_ : dl k8_ 23 [(.iload_n 0, 1)] = true := by decide +kernel
theorem d8_24 : decode k8_ 24 = .ok (.ireturn, 1) := by decide +kernel
def Q_ckF (Z : State) (no nc nn : Nat) (Gf : Value) : QT := fun h0 n0 v h L => v = some (.int (Int32.ofNat no)) ∧ Fr n0 L ∧ h = h0
abbrev mn_8 : MethodName := ⟨"jdk/internal/util/Preconditions", "checkFromIndexSize", "(IIILjava/util/function/BiFunction;)I"⟩
theorem rm_ckF (hw : HW a0 Z) (no nc nn : Nat) (Gf : Value) (Z0 : n0 ≤ h0.size) (h3 : no + nc ≤ nn) (hnn : nn ≤ 1000) (rGf : Gf.isRef = true) :
  MetP l Z mn_8 k8_ 4 (some .int) (rr 0 0 0 0) ws #[(.int (Int32.ofNat no)), (.int (Int32.ofNat nc)), (.int (Int32.ofNat nn)), Gf] h0 (Q_ckF Z no nc nn Gf h0 n0) := by
 refine begH n0 "jdk/internal/util/Preconditions" rfl (plainFor_of_name pn_1) fun p e s m below meth c s₁ s0 hrt hlk hZ hx hby hml hown hnm X0 e0 N0 P0 => ?_
 replace P0 : PP p e below s₁ (mkF m 0 #[iv (Int32.ofNat no), iv (Int32.ofNat nc), iv (Int32.ofNat nn), .val Gf] []) s0 := castPP (ef_8 m (Int32.ofNat no) (Int32.ofNat nc) (Int32.ofNat nn) Gf rGf) P0
 have P1 : PP p e below s₁ (mkF m 24 #[iv (Int32.ofNat no), iv (Int32.ofNat nc), iv (Int32.ofNat nn), .val Gf] [(.int (Int32.ofNat no))]) s0 := fun q_ k_ => P0 q_ (by
  refine bt X0 hx hby b24_ rfl ?_
  refine XS.ifNo X0.here hx rfl (hb hby d8_5) rfl ((if0 _ _).trans (flt ((own_or3 nn no nc (by omega) (by omega) (by omega)) : ¬ ((((Int32.ofNat nn) ||| (Int32.ofNat no)) ||| (Int32.ofNat nc)) < (0 : Int32)))).1) ?_
  refine bt X0 hx hby b25_ rfl ?_
  refine XS.icmpYes X0.here hx rfl (pc0 := 12) (pc' := 23) rfl (hb hby d8_12) rfl (flt ((by rw [own_sub nn no (by omega)]; exact fun q => absurd ((own_ltn (nn - no) nc (by omega) (by omega)).mp q) (by omega)) : ¬ (((Int32.ofNat nn) - (Int32.ofNat no)) < (Int32.ofNat nc)))).2.2.2 (by decide) (by decide) ?_
  exact bt X0 hx hby b26_ rfl k_)
 exact endI 24 #[iv (Int32.ofNat no), iv (Int32.ofNat nc), iv (Int32.ofNat nn), .val Gf] (rest := []) X0 hx hrt hlk P1 (hb hby d8_24) e0 (by decide) (by decide) (show Q_ckF Z no nc nn Gf h0 n0 _ _ _ from ⟨rfl, N0, rfl⟩)
theorem ef_9 (m : MethodId) (x0 : Int32) (x1 : Int32) (x2 : Int32) : entryFrame m #[(.int x0), (.int x1), (.int x2)] 3 = mkF m 0 #[.val (.int x0), .val (.int x1), .val (.int x2)] [] := by first | (simp [entryFrame, mkF, argsToLocals, Value.category]; done) | rfl
abbrev k9_ := jdk_42_method_157_code
theorem b27_ : dl k9_ 0 [(.iload_n 0, 1), (.iload_n 1, 1), (.iload_n 2, 1)] = true := by decide +kernel
theorem d9_3 : decode k9_ 3 = .ok (.getstatic 1053, 3) := by decide +kernel
theorem pd_4 : parseMethodDescriptor "(IIILjava/util/function/BiFunction;)I" = some ⟨[.int, .int, .int, (.object "java/util/function/BiFunction")], some .int⟩ := by decide +kernel
theorem d9_6 : decode k9_ 6 = .ok (.invokestatic 1065, 3) := by decide +kernel
theorem d9_9 : decode k9_ 9 = .ok (.ireturn, 1) := by decide +kernel
abbrev mn_9 : MethodName := ⟨"java/lang/String", "checkBoundsOffCount", "(III)I"⟩
theorem rm_ckB (hw : HW a0 Z) (no nc nn : Nat) (Gf : Value) (Z0 : n0 ≤ h0.size) (h3 : no + nc ≤ nn) (hnn : nn ≤ 1000) (rGf : Gf.isRef = true) (Sf : SU5 Z Gf) (OL : Old Z n0 h0) :
  MetP l Z mn_9 k9_ 3 (some .int) (rr 1 0 0 15) ws #[(.int (Int32.ofNat no)), (.int (Int32.ofNat nc)), (.int (Int32.ofNat nn))] h0 (Q_ckF Z no nc nn Gf h0 n0) := by
 refine begH n0 cS rfl (plainFor_of_name pn_2) fun p e s m below meth c s₁ s0 hrt hlk hZ hx hby hml hown hnm X0 e0 N0 P0 => ?_
 replace P0 : PP p e below s₁ (mkF m 0 #[iv (Int32.ofNat no), iv (Int32.ofNat nc), iv (Int32.ofNat nn)] []) s0 := castPP (ef_9 m (Int32.ofNat no) (Int32.ofNat nc) (Int32.ofNat nn)) P0
 have P1 := P0.bt X0 hx hby b27_ rfl
 obtain ⟨T2, X2, e2, P2⟩ := gS P1 X0 hx hZ hown hw 292 e0 (Sf.ext OL.2) (hb hby d9_3)
 obtain ⟨_, T3, L3, X3, hQ3, P3⟩ := cSt P2 X2 hx hZ hown hw e2 hml 473 474 293 475 (rm_ckF hw no nc nn Gf Z0 h3 hnn rGf) rfl rfl rfl rfl rfl rfl [(.int (Int32.ofNat no)), (.int (Int32.ofNat nc)), (.int (Int32.ofNat nn)), Gf] [] 0 (lenOf pd_4 rfl) rfl (Nat.le_of_eq rfl) (hb hby d9_6) rfl (by decide)
 obtain ⟨rfl, N3q, e3⟩ := hQ3
 have N3 := Fr.app N0 N3q
 exact endI 9 #[iv (Int32.ofNat no), iv (Int32.ofNat nc), iv (Int32.ofNat nn)] (rest := []) X3 hx hrt hlk P3 (hb hby d9_9) e3 (by decide) (by decide) (show Q_ckF Z no nc nn Gf h0 n0 _ _ _ from ⟨rfl, N3, rfl⟩)
theorem ef_10 (m : MethodId) (x0 : Int32) (x1 : Int32) (x2 : Addr) : entryFrame m #[(.int x0), (.int x1), (.ref x2)] 3 = mkF m 0 #[.val (.int x0), .val (.int x1), .val (.ref x2)] [] := by first | (simp [entryFrame, mkF, argsToLocals, Value.category]; done) | rfl
abbrev k10_ := jdk_52_method_94_code
theorem b28_ : dl k10_ 0 [(.iload_n 0, 1), (.iload_n 1, 1), (.aload_n 2, 1)] = true := by decide +kernel
theorem d10_3 : decode k10_ 3 = .ok (.invokestatic 48, 3) := by decide +kernel
theorem pd_5 : parseMethodDescriptor "(III)I" = some ⟨[.int, .int, .int], some .int⟩ := by decide +kernel
theorem d10_6 : decode k10_ 6 = .ok (.invokestatic 419, 3) := by decide +kernel
theorem b29_ : dl k10_ 9 [(.pop, 1)] = true := by decide +kernel
theorem d10_10 : decode k10_ 10 = .ok (.return_, 1) := by decide +kernel
def Q_ckV (Z : State) (tb : Addr) (kb : ClassId) (vs : List Value) (no nc nn : Nat) (Gf : Value) : QT := fun h0 n0 v h L => v = none ∧ Fr n0 L ∧ h = h0
abbrev mn_10 : MethodName := ⟨"java/lang/StringUTF16", "checkBoundsOffCount", "(II[B)V"⟩
theorem rm_ckV (hw : HW a0 Z) (tb : Addr) (kb : ClassId) (vs : List Value) (no nc nn : Nat) (Gf : Value) (Z0 : n0 ≤ h0.size) (V_tb : Arv Z h0 tb kb .byte (Int32.ofNat (2 * nn)) vs i0) (rGf : Gf.isRef = true) (Sf : SU5 Z Gf) (OL : Old Z n0 h0) (h3 : no + nc ≤ nn) (hnn : nn ≤ 1000) :
  MetP l Z mn_10 k10_ 3 none (rr 2 0 0 29) ws #[(.int (Int32.ofNat no)), (.int (Int32.ofNat nc)), (.ref tb)] h0 (Q_ckV Z tb kb vs no nc nn Gf h0 n0) := by
 refine begH n0 "java/lang/StringUTF16" rfl (plainFor_of_name pn_0) fun p e s m below meth c s₁ s0 hrt hlk hZ hx hby hml hown hnm X0 e0 N0 P0 => ?_
 replace P0 : PP p e below s₁ (mkF m 0 #[iv (Int32.ofNat no), iv (Int32.ofNat nc), rv tb] []) s0 := castPP (ef_10 m (Int32.ofNat no) (Int32.ofNat nc) tb) P0
 have P1 := P0.bt X0 hx hby b28_ rfl
 obtain ⟨_, T2, L2, X2, hQ2, P2⟩ := cSt P1 X0 hx hZ hown hw e0 hml 467 468 17 469 (rm_uLen hw tb kb nn vs Z0 V_tb hnn) rfl rfl rfl rfl rfl rfl [(.ref tb)] [(.int (Int32.ofNat nc)), (.int (Int32.ofNat no))] 2 (lenOf pd_2 rfl) rfl (Nat.le_of_eq rfl) (hb hby d10_3) rfl (by decide)
 obtain ⟨rfl, N2q, e2⟩ := hQ2
 have N2 := Fr.app N0 N2q
 obtain ⟨_, T3, L3, X3, hQ3, P3⟩ := cSt P2 X2 hx hZ hown hw e2 hml 470 471 2 472 (rm_ckB hw no nc nn Gf Z0 h3 hnn rGf Sf OL) rfl rfl rfl rfl rfl rfl [(.int (Int32.ofNat no)), (.int (Int32.ofNat nc)), (.int (Int32.ofNat nn))] [] 0 (lenOf pd_5 rfl) rfl (Nat.le_of_eq rfl) (hb hby d10_6) rfl (by decide)
 obtain ⟨rfl, N3q, e3⟩ := hQ3
 have N3 := Fr.app N2 N3q
 have P4 : PP p e below T3 (mkF m 10 #[iv (Int32.ofNat no), iv (Int32.ofNat nc), rv tb] []) s0 := fun q_ k_ => P3 q_ (by
  exact bt X3 hx hby b29_ rfl k_)
 exact endV 10 #[iv (Int32.ofNat no), iv (Int32.ofNat nc), rv tb] X3 hx hrt hlk P4 (hb hby d10_10) e3 (by decide) (by decide) (show Q_ckV Z tb kb vs no nc nn Gf h0 n0 _ _ _ from ⟨rfl, N3, rfl⟩)
theorem ef_11 (m : MethodId) (x0 : Addr) (x2 : Addr) (x3 : Int32) (x4 : Int32) : entryFrame m #[(.ref x0), (.int 0), (.ref x2), (.int x3), (.int x4)] 6 = mkF m 0 #[.val (.ref x0), .val (.int 0), .val (.ref x2), .val (.int x3), .val (.int x4), .unset] [] := by first | (simp [entryFrame, mkF, argsToLocals, Value.category]; done) | rfl
abbrev k11_ := jdk_52_method_86_code
theorem b30_ : dl k11_ 0 [(.iload_n 3, 1), (.iload 4, 2), (.aload_n 2, 1)] = true := by decide +kernel
theorem pd_6 : parseMethodDescriptor "(II[B)V" = some ⟨[.int, .int, (.array .byte)], none⟩ := by decide +kernel
theorem d11_4 : decode k11_ 4 = .ok (.invokestatic 173, 3) := by decide +kernel
theorem b31_ : dl k11_ 7 [(.iconst 0, 1), (.istore 5, 2)] = true := by decide +kernel
theorem d11_14 : decode k11_ 14 = .ok (.if_icmp .ge 27, 3) := by decide +kernel
theorem b32_ : dl k11_ 10 [(.iload 5, 2), (.iload 4, 2)] = true := by decide +kernel
theorem b33_ : dl k11_ 17 [(.aload_n 2, 1), (.iload_n 3, 1), (.iinc 3 1, 3), (.aload_n 0, 1), (.iload_n 1, 1), (.iinc 1 1, 3)] = true := by decide +kernel
theorem d11_27 : decode k11_ 27 = .ok (.baload, 1) := by decide +kernel
theorem b34_ : dl k11_ 28 [(.sipush 255, 3), (.iand, 1)] = true := by decide +kernel
theorem pd_7 : parseMethodDescriptor "([BII)V" = some ⟨[(.array .byte), .int, .int], none⟩ := by decide +kernel
theorem d11_32 : decode k11_ 32 = .ok (.invokestatic 111, 3) := by decide +kernel
theorem b35_ : dl k11_ 35 [(.iinc 5 1, 3)] = true := by decide +kernel
theorem b36_ : dl k11_ 38 [(.goto (-28), 3)] = true := by decide +kernel
theorem d11_41 : decode k11_ 41 = .ok (.return_, 1) := by decide +kernel
def Q_uInf (Z : State) (sa : Addr) (ka : ClassId) (nm : Nat) (ds : List Int32) (tb : Addr) (kb : ClassId) (cs : List Int32) (Gf : Value) : QT := fun h0 n0 v h L => v = none ∧ Fr n0 L ∧ Keep h0 h [tb] ∧ (Arv Z h tb kb .byte 32 (wid (cs ++ ds)) i0)
abbrev mn_11 : MethodName := ⟨"java/lang/StringUTF16", "inflate", "([BI[BII)V"⟩
theorem rm_uInf (hw : HW a0 Z) (sa : Addr) (ka : ClassId) (nm : Nat) (ds : List Int32) (tb : Addr) (kb : ClassId) (cs : List Int32) (Gf : Value) (Z0 : n0 ≤ h0.size) (V_sa : Arv Z h0 sa ka .byte (Int32.ofNat nm) (ds.map bv) i0) (V_tb : Arv Z h0 tb kb .byte 32 (wid cs) i0) (ne_sa_tb : sa ≠ tb) (g_tb : n0 ≤ tb) (Sa : SU1 Z) (Sh : SU2 Z) (Sl : SU3 Z) (Sf : SU5 Z Gf) (rGf : Gf.isRef = true) (OL : Old Z n0 h0) (hnm_ : ds.length ≤ nm) (hm2 : nm ≤ 1000) (h16 : cs.length + ds.length ≤ 16) (icd : CC ds) (lld : LL ds) :
  MetP l Z mn_11 k11_ 6 none (rr 3 0 0 43) ws #[(.ref sa), i0, (.ref tb), (.int (Int32.ofNat cs.length)), (.int (Int32.ofNat ds.length))] h0 (Q_uInf Z sa ka nm ds tb kb cs Gf h0 n0) := by
 refine begH n0 "java/lang/StringUTF16" rfl (plainFor_of_name pn_0) fun p e s m below meth c s₁ s0 hrt hlk hZ hx hby hml hown hnm X0 e0 N0 P0 => ?_
 replace P0 : PP p e below s₁ (mkF m 0 #[rv sa, iv 0, rv tb, iv (Int32.ofNat cs.length), iv (Int32.ofNat ds.length), .unset] []) s0 := castPP (ef_11 m sa tb (Int32.ofNat cs.length) (Int32.ofNat ds.length)) P0
 have P1 := P0.bt X0 hx hby b30_ rfl
 obtain ⟨_, T2, L2, X2, hQ2, P2⟩ := cSt P1 X0 hx hZ hown hw e0 hml 464 465 17 466 (rm_ckV hw tb kb (wid cs) cs.length ds.length 16 Gf Z0 V_tb rGf Sf OL h16 (by decide)) rfl rfl rfl rfl rfl rfl [(.int (Int32.ofNat cs.length)), (.int (Int32.ofNat ds.length)), (.ref tb)] [] 0 (lenOf pd_6 rfl) rfl (Nat.le_of_eq rfl) (hb hby d11_4) rfl (by decide)
 obtain ⟨rfl, N2q, e2⟩ := hQ2
 have N2 := Fr.app N0 N2q
 have P3 : PP p e below T2 (mkF m 10 #[rv sa, iv 0, rv tb, iv (Int32.ofNat cs.length), iv (Int32.ofNat ds.length), iv 0] []) s0 := fun q_ k_ => P2 q_ (by
  exact bt X2 hx hby b31_ rfl k_)
 replace V_tb : Arv Z h0 tb kb .byte 32 (wid (cs ++ ds.take 0)) i0 := by rw [List.take_zero, List.append_nil]; exact V_tb
 have LP4 : ∀ k : Nat, k ≤ ds.length → ∃ (T4 : State) (h4 : Heap) (Lf4 : List Loc), Stand p l e (rr 3 0 0 43) s m #[(.ref sa), i0, (.ref tb), (.int (Int32.ofNat cs.length)), (.int (Int32.ofNat ds.length))] below meth c T4 Lf4 0 0 ∧ T4.heap = h4 ∧ Fr n0 Lf4 ∧ Keep h0 h4 [tb] ∧ (Arv Z h4 sa ka .byte (Int32.ofNat nm) (ds.map bv) i0) ∧ (Arv Z h4 tb kb .byte 32 (wid (cs ++ ds.take k)) i0) ∧ (Old Z n0 h4) ∧ PP p e below T4 (mkF m 10 #[rv sa, iv (Int32.ofNat k), rv tb, iv (Int32.ofNat (cs.length + k)), iv (Int32.ofNat ds.length), iv (Int32.ofNat k)] []) s0 := by
  intro k
  induction k with
  | zero => intro _; exact ⟨T2, h0, _, X2, e2, N2, (Keep.refl h0 [tb]), V_sa, V_tb, OL, P3⟩
  | succ k ih =>
   intro hk1
   obtain ⟨T4, h4, Lf4, X4, e4, N4, K4, V_sa, V_tb, OL, P4⟩ := ih (Nat.le_of_succ_le hk1)
   obtain ⟨dk, hdk⟩ := own_kx ds k hk1
   have P5 : PP p e below T4 (mkF m 27 #[rv sa, iv ((Int32.ofNat k) + (1 : Int32)), rv tb, iv ((Int32.ofNat (cs.length + k)) + (1 : Int32)), iv (Int32.ofNat ds.length), iv (Int32.ofNat k)] [(.int (Int32.ofNat k)), (.ref sa), (.int (Int32.ofNat (cs.length + k))), (.ref tb)]) s0 := fun q_ k_ => P4 q_ (by
    refine bt X4 hx hby b32_ rfl ?_
    refine XS.icmpNo X4.here hx rfl (hb hby d11_14) rfl (tlt (((own_ltn k ds.length (by omega) (by omega)).mpr hk1) : (Int32.ofNat k) < (Int32.ofNat ds.length))).2.1 ?_
    exact bt X4 hx hby b33_ rfl k_)
   obtain ⟨cl6, Ar6, q6, S6, M6, Hs6, G6⟩ := id V_sa
   have hin6 := inb_of (j := (Int32.ofNat k)) S6 (own_inb k nm (by omega) (by omega))
   have hat6 : cl6.slots[((Int32.ofNat k)).toNatClampNeg]? = some (.int (nar .byte (dk.toInt8.toInt32))) := Has.at Hs6 hin6 (by rw [own_cl _ (by omega)]; exact own_lat0 ds k dk _ hdk)
   have P7 : PP p e below T4 (mkF m 28 #[rv sa, iv ((Int32.ofNat k) + (1 : Int32)), rv tb, iv ((Int32.ofNat (cs.length + k)) + (1 : Int32)), iv (Int32.ofNat ds.length), iv (Int32.ofNat k)] [(.int (nar .byte (dk.toInt8.toInt32))), (.int (Int32.ofNat (cs.length + k))), (.ref tb)]) s0 := fun q_ k_ => P5 q_ (by
    exact X4.baloadBytes hx (j := (Int32.ofNat k)) (v := (.int (nar .byte (dk.toInt8.toInt32)))) (by rw [e4]; exact Ar6.1) (State.isArrayOf_alike hZ.alike Ar6.2.1) Ar6.2.2 hin6 hat6 (g := P5.g) rfl rfl (hb hby d11_27) _ k_)
   have P8 := P7.bt X4 hx hby b34_ rfl
   have P9 : PP p e below T4 (mkF m 32 #[rv sa, iv ((Int32.ofNat k) + (1 : Int32)), rv tb, iv ((Int32.ofNat (cs.length + k)) + (1 : Int32)), iv (Int32.ofNat ds.length), iv (Int32.ofNat k)] [(.int dk), (.int (Int32.ofNat (cs.length + k))), (.ref tb)]) s0 := fun q_ k_ => P8 q_ (by show GG p e below T4 (mkF m 32 #[rv sa, iv ((Int32.ofNat k) + (1 : Int32)), rv tb, iv ((Int32.ofNat (cs.length + k)) + (1 : Int32)), iv (Int32.ofNat ds.length), iv (Int32.ofNat k)] [(.int ((nar .byte (dk.toInt8.toInt32)) &&& (255 : Int32))), (.int (Int32.ofNat (cs.length + k))), (.ref tb)]) q_; rw [(own_lat255 (icd _ (own_mem hdk)) (lld _ (own_mem hdk)))]; exact k_)
   obtain ⟨_, T10, L10, X10, hQ10, P10⟩ := cSt P9 X4 hx hZ hown hw e4 hml 440 441 17 442 (rm_put hw tb kb 32 (cs ++ ds.take k) (cs.length + k) dk (zT Z0 K4.1) V_tb g_tb Sa Sh Sl OL (own_tkl cs ds k (by omega)) (by rw [own_tkl cs ds k (by omega)]; omega) (by decide)) rfl rfl rfl rfl rfl rfl [(.ref tb), (.int (Int32.ofNat (cs.length + k))), (.int dk)] [] 0 (lenOf pd_7 rfl) rfl (Nat.le_of_eq rfl) (hb hby d11_32) rfl (by decide)
   obtain ⟨rfl, N10q, Kc10, po10_0⟩ := hQ10
   have N10 := Fr.app N4 N10q
   obtain ⟨Lf11, X10, N11⟩ := fixL X10 N10 0 0 rfl rfl
   replace V_sa := V_sa.keep Kc10 (ninS ne_sa_tb nin0)
   replace OL := OL.keep Kc10 (allS g_tb all0)
   have K10 := Kt1 K4 Kc10 (Or.inl (mi 0))
   have V_tb := po10_0
   have P12 := P10.bt X10 hx hby b35_ rfl
   have P13 : PP p e below T10 (mkF m 38 #[rv sa, iv (Int32.ofNat (k + 1)), rv tb, iv ((Int32.ofNat (cs.length + k)) + (1 : Int32)), iv (Int32.ofNat ds.length), iv ((Int32.ofNat k) + (1 : Int32))] []) s0 := fun q_ k_ => P12 q_ (castTop (congrArg (fun z_ => mkF m 38 #[rv sa, iv z_, rv tb, iv ((Int32.ofNat (cs.length + k)) + (1 : Int32)), iv (Int32.ofNat ds.length), iv ((Int32.ofNat k) + (1 : Int32))] []) (own_add k 1)) k_)
   have P14 : PP p e below T10 (mkF m 38 #[rv sa, iv (Int32.ofNat (k + 1)), rv tb, iv ((Int32.ofNat (cs.length + k)) + (1 : Int32)), iv (Int32.ofNat ds.length), iv (Int32.ofNat (k + 1))] []) s0 := fun q_ k_ => P13 q_ (castTop (congrArg (fun z_ => mkF m 38 #[rv sa, iv (Int32.ofNat (k + 1)), rv tb, iv ((Int32.ofNat (cs.length + k)) + (1 : Int32)), iv (Int32.ofNat ds.length), iv z_] []) (own_add k 1)) k_)
   have P15 : PP p e below T10 (mkF m 38 #[rv sa, iv (Int32.ofNat (k + 1)), rv tb, iv (Int32.ofNat (cs.length + (k + 1))), iv (Int32.ofNat ds.length), iv (Int32.ofNat (k + 1))] []) s0 := fun q_ k_ => P14 q_ (castTop (congrArg (fun z_ => mkF m 38 #[rv sa, iv (Int32.ofNat (k + 1)), rv tb, iv z_, iv (Int32.ofNat ds.length), iv (Int32.ofNat (k + 1))] []) (own_add (cs.length + k) 1)) k_)
   replace V_tb : Arv Z T10.heap tb kb .byte (Int32.ofNat 32) (wid (cs ++ ds.take (k + 1))) i0 := by
       have q := V_tb
       rw [own_tk cs ds k dk hdk] at q
       exact q
   have P16 := P15.bt X10 hx hby b36_ rfl
   exact ⟨T10, T10.heap, _, X10, rfl, N11, K10, V_sa, V_tb, OL, P16⟩
 obtain ⟨T4, h4, Lf4, X4, e4, N4, K4, V_sa, V_tb, OL, P4⟩ := LP4 ds.length (Nat.le_refl _)
 replace V_tb : Arv Z h4 tb kb .byte 32 (wid (cs ++ ds)) i0 := by
     have q := V_tb
     rw [List.take_length] at q
     exact q
 have P17 : PP p e below T4 (mkF m 41 #[rv sa, iv (Int32.ofNat ds.length), rv tb, iv (Int32.ofNat (cs.length + ds.length)), iv (Int32.ofNat ds.length), iv (Int32.ofNat ds.length)] []) s0 := fun q_ k_ => P4 q_ (by
  refine bt X4 hx hby b32_ rfl ?_
  exact XS.icmpYes X4.here hx rfl (pc0 := 14) (pc' := 41) rfl (hb hby d11_14) rfl (flt ((own_irr _) : ¬ ((Int32.ofNat ds.length) < (Int32.ofNat ds.length)))).2.1 (by decide) (by decide) k_)
 exact endV 41 #[rv sa, iv (Int32.ofNat ds.length), rv tb, iv (Int32.ofNat (cs.length + ds.length)), iv (Int32.ofNat ds.length), iv (Int32.ofNat ds.length)] X4 hx hrt hlk P17 (hb hby d11_41) e4 (by decide) (by decide) (show Q_uInf Z sa ka nm ds tb kb cs Gf h0 n0 _ _ _ from ⟨rfl, N4, K4, V_tb⟩)
theorem ef_12 (m : MethodId) (x0 : Addr) (x2 : Addr) (x3 : Int32) (x4 : Int32) : entryFrame m #[(.ref x0), (.int 0), (.ref x2), (.int x3), (.int x4)] 5 = mkF m 0 #[.val (.ref x0), .val (.int 0), .val (.ref x2), .val (.int x3), .val (.int x4)] [] := by first | (simp [entryFrame, mkF, argsToLocals, Value.category]; done) | rfl
theorem pn_3 : plainName "java/lang/StringLatin1" = true := by first | (simp [plainName, overriddenIn]; done) | decide +kernel
abbrev k12_ := jdk_43_method_50_code
theorem b37_ : dl k12_ 0 [(.aload_n 0, 1), (.iload_n 1, 1), (.aload_n 2, 1), (.iload_n 3, 1), (.iload 4, 2)] = true := by decide +kernel
theorem pd_8 : parseMethodDescriptor "([BI[BII)V" = some ⟨[(.array .byte), .int, (.array .byte), .int, .int], none⟩ := by decide +kernel
theorem d12_6 : decode k12_ 6 = .ok (.invokestatic 240, 3) := by decide +kernel
theorem d12_9 : decode k12_ 9 = .ok (.return_, 1) := by decide +kernel
abbrev mn_12 : MethodName := ⟨"java/lang/StringLatin1", "inflate", "([BI[BII)V"⟩
theorem rm_lInf (hw : HW a0 Z) (sa : Addr) (ka : ClassId) (nm : Nat) (ds : List Int32) (tb : Addr) (kb : ClassId) (cs : List Int32) (Gf : Value) (Z0 : n0 ≤ h0.size) (V_sa : Arv Z h0 sa ka .byte (Int32.ofNat nm) (ds.map bv) i0) (V_tb : Arv Z h0 tb kb .byte 32 (wid cs) i0) (ne_sa_tb : sa ≠ tb) (g_tb : n0 ≤ tb) (Sa : SU1 Z) (Sh : SU2 Z) (Sl : SU3 Z) (Sf : SU5 Z Gf) (rGf : Gf.isRef = true) (OL : Old Z n0 h0) (hnm_ : ds.length ≤ nm) (hm2 : nm ≤ 1000) (h16 : cs.length + ds.length ≤ 16) (icd : CC ds) (lld : LL ds) :
  MetP l Z mn_12 k12_ 5 none (rr 4 0 0 60) ws #[(.ref sa), i0, (.ref tb), (.int (Int32.ofNat cs.length)), (.int (Int32.ofNat ds.length))] h0 (Q_uInf Z sa ka nm ds tb kb cs Gf h0 n0) := by
 refine begH n0 "java/lang/StringLatin1" rfl (plainFor_of_name pn_3) fun p e s m below meth c s₁ s0 hrt hlk hZ hx hby hml hown hnm X0 e0 N0 P0 => ?_
 replace P0 : PP p e below s₁ (mkF m 0 #[rv sa, iv 0, rv tb, iv (Int32.ofNat cs.length), iv (Int32.ofNat ds.length)] []) s0 := castPP (ef_12 m sa tb (Int32.ofNat cs.length) (Int32.ofNat ds.length)) P0
 have P1 := P0.bt X0 hx hby b37_ rfl
 obtain ⟨_, T2, L2, X2, hQ2, P2⟩ := cSt P1 X0 hx hZ hown hw e0 hml 461 462 17 463 (rm_uInf hw sa ka nm ds tb kb cs Gf Z0 V_sa V_tb ne_sa_tb g_tb Sa Sh Sl Sf rGf OL hnm_ hm2 h16 icd lld) rfl rfl rfl rfl rfl rfl [(.ref sa), i0, (.ref tb), (.int (Int32.ofNat cs.length)), (.int (Int32.ofNat ds.length))] [] 0 (lenOf pd_8 rfl) rfl (Nat.le_of_eq rfl) (hb hby d12_6) rfl (by decide)
 obtain ⟨rfl, N2q, Kc2, po2_0⟩ := hQ2
 have N2 := Fr.app N0 N2q
 obtain ⟨Lf3, X2, N3⟩ := fixL X2 N2 0 0 rfl rfl
 have K2 := Kt1 (Keep.refl h0 [tb]) Kc2 (Or.inl (mi 0))
 have V_tb := po2_0
 exact endV 9 #[rv sa, iv 0, rv tb, iv (Int32.ofNat cs.length), iv (Int32.ofNat ds.length)] X2 hx hrt hlk P2 (hb hby d12_9) rfl (by decide) (by decide) (show Q_uInf Z sa ka nm ds tb kb cs Gf h0 n0 _ _ _ from ⟨rfl, N3, K2, V_tb⟩)
theorem ef_13 (m : MethodId) (x0 : Int32) : entryFrame m #[(.int x0)] 2 = mkF m 0 #[.val (.int x0), .unset] [] := by first | (simp [entryFrame, mkF, argsToLocals, Value.category]; done) | rfl
abbrev k13_ := jdk_52_method_24_code
theorem b38_ : dl k13_ 0 [(.iconst 2, 1)] = true := by decide +kernel
theorem d13_1 : decode k13_ 1 = .ok (.newarray .byte, 2) := by decide +kernel
theorem b39_ : dl k13_ 3 [(.astore_n 1, 1), (.aload_n 1, 1), (.iconst 0, 1), (.iload_n 0, 1)] = true := by decide +kernel
theorem d13_7 : decode k13_ 7 = .ok (.invokestatic 111, 3) := by decide +kernel
theorem b40_ : dl k13_ 10 [(.aload_n 1, 1)] = true := by decide +kernel
theorem d13_11 : decode k13_ 11 = .ok (.areturn, 1) := by decide +kernel
def Q_toB1 (Z : State) (c0 : Int32) : QT := fun h0 n0 v h L => ∃ (t : Addr) (kb : ClassId), v = some (.ref t) ∧ Fr n0 L ∧ Keep h0 h [] ∧ (h0.size ≤ t) ∧ (Arv Z h t kb .byte 2 (wid [c0]) i0)
abbrev mn_13 : MethodName := ⟨"java/lang/StringUTF16", "toBytes", "(C)[B"⟩
theorem rm_toB1 (hw : HW a0 Z) (c0 : Int32) (Z0 : n0 ≤ h0.size) (Sa : SU1 Z) (Sh : SU2 Z) (Sl : SU3 Z) (OL : Old Z n0 h0) :
  MetP l Z mn_13 k13_ 2 (some (.array .byte)) (rr 1 1 2 14) ws #[(.int c0)] h0 (Q_toB1 Z c0 h0 n0) := by
 refine begH n0 "java/lang/StringUTF16" rfl (plainFor_of_name pn_0) fun p e s m below meth c s₁ s0 hrt hlk hZ hx hby hml hown hnm X0 e0 N0 P0 => ?_
 replace P0 : PP p e below s₁ (mkF m 0 #[iv c0, .unset] []) s0 := castPP (ef_13 m c0) P0
 have P1 := P0.bt X0 hx hby b38_ rfl
 obtain ⟨T2, h2, k2, X2, e2, E2, A2, st2⟩ := newP X0 hx hZ (ww hw 19 rfl) e0 (g := P1.g) rfl (hb hby d13_1) rfl (by decide) (cap := 2) (by decide) (by decide) (by decide) (by decide)
 obtain ⟨b2, g2⟩ : ∃ z, z = h0.size := ⟨_, rfl⟩
 rw [← g2] at A2 st2
 have P3 := P1.st st2
 have sz_b2 : h0.size ≤ b2 := Nat.le_trans (Nat.le_refl h0.size) (Nat.le_of_eq g2.symm)
 replace OL := OL.ext E2
 have K2 := (Keep.refl h0 []).ext E2
 obtain ⟨Lf4, X2, N4⟩ := fixL X2 N0 1 2 rfl rfl
 have V_b2 : Arv Z h2 b2 k2 .byte 2 [i0, i0] i0 := (Arv.new A2 (by decide)).pad (pad_rep [] i0 2)
 replace V_b2 : Arv Z h2 b2 k2 .byte 2 (wid []) i0 := V_b2.pad (fun i => (pad_rep [] i0 2 i).symm)
 have P5 : PP p e below T2 (mkF m 7 #[iv c0, rv b2] [(.int c0), i0, (.ref b2)]) s0 := fun q_ k_ => P3 q_ (by
  exact bt X2 hx hby b39_ rfl k_)
 obtain ⟨_, T6, L6, X6, hQ6, P6⟩ := cSt P5 X2 hx hZ hown hw e2 hml 440 441 17 442 (rm_put hw b2 k2 2 ([] : List Int32) 0 c0 (zT Z0 K2.1) V_b2 (Nat.le_trans Z0 sz_b2) Sa Sh Sl OL rfl (by decide) (by decide)) rfl rfl rfl rfl rfl rfl [(.ref b2), i0, (.int c0)] [] 0 (lenOf pd_7 rfl) rfl (Nat.le_of_eq rfl) (hb hby d13_7) rfl (by decide)
 obtain ⟨rfl, N6q, Kc6, po6_0⟩ := hQ6
 have N6 := Fr.app N4 N6q
 obtain ⟨Lf7, X6, N7⟩ := fixL X6 N6 1 2 rfl rfl
 have K6 := Kt1 K2 Kc6 (Or.inr sz_b2)
 have V_b2 := po6_0
 have P8 := P6.bt X6 hx hby b40_ rfl
 exact endA 11 #[iv c0, rv b2] (rest := []) X6 hx hrt rfl hlk P8 (hb hby d13_11) rfl (by decide) (by decide) (show Q_toB1 Z c0 h0 n0 _ _ _ from ⟨b2, k2, rfl, N7, K6, sz_b2, V_b2⟩)
theorem ef_14 (m : MethodId) (x0 : Addr) : entryFrame m #[(.ref x0), (.int 0), (.int 2)] 5 = mkF m 0 #[.val (.ref x0), .val (.int 0), .val (.int 2), .unset, .unset] [] := by first | (simp [entryFrame, mkF, argsToLocals, Value.category]; done) | rfl
abbrev k14_ := jdk_52_method_14_code
theorem b41_ : dl k14_ 0 [(.iload_n 2, 1)] = true := by decide +kernel
theorem pd_9 : parseMethodDescriptor "(I)[B" = some ⟨[.int], some (.array .byte)⟩ := by decide +kernel
theorem d14_1 : decode k14_ 1 = .ok (.invokestatic 107, 3) := by decide +kernel
theorem d14_11 : decode k14_ 11 = .ok (.if_icmp .ge 21, 3) := by decide +kernel
theorem b42_ : dl k14_ 4 [(.astore_n 3, 1), (.iconst 0, 1), (.istore 4, 2), (.iload 4, 2), (.iload_n 2, 1)] = true := by decide +kernel
theorem b43_ : dl k14_ 14 [(.aload_n 3, 1), (.iload 4, 2), (.aload_n 0, 1), (.iload_n 1, 1)] = true := by decide +kernel
theorem d14_19 : decode k14_ 19 = .ok (.caload, 1) := by decide +kernel
theorem d14_20 : decode k14_ 20 = .ok (.invokestatic 111, 3) := by decide +kernel
theorem b44_ : dl k14_ 23 [(.iinc 1 1, 3), (.iinc 4 1, 3), (.goto (-21), 3)] = true := by decide +kernel
theorem b45_ : dl k14_ 8 [(.iload 4, 2), (.iload_n 2, 1)] = true := by decide +kernel
theorem b46_ : dl k14_ 32 [(.aload_n 3, 1)] = true := by decide +kernel
theorem d14_33 : decode k14_ 33 = .ok (.areturn, 1) := by decide +kernel
def Q_toB2 (Z : State) (sa : Addr) (ks : ClassId) (c0 c1 : Int32) : QT := fun h0 n0 v h L => ∃ (t : Addr) (kb : ClassId), v = some (.ref t) ∧ Fr n0 L ∧ Keep h0 h [] ∧ (h0.size ≤ t) ∧ (Arv Z h t kb .byte 4 (wid [c0, c1]) i0)
abbrev mn_14 : MethodName := ⟨"java/lang/StringUTF16", "toBytes", "([CII)[B"⟩
theorem rm_toB2 (hw : HW a0 Z) (sa : Addr) (ks : ClassId) (c0 c1 : Int32) (Z0 : n0 ≤ h0.size) (V_sa : Arv Z h0 sa ks .char 2 [(.int c0), (.int c1)] i0) (Sa : SU1 Z) (Sh : SU2 Z) (Sl : SU3 Z) (OL : Old Z n0 h0) :
  MetP l Z mn_14 k14_ 5 (some (.array .byte)) (rr 2 1 4 24) ws #[(.ref sa), i0, (.int 2)] h0 (Q_toB2 Z sa ks c0 c1 h0 n0) := by
 refine begH n0 "java/lang/StringUTF16" rfl (plainFor_of_name pn_0) fun p e s m below meth c s₁ s0 hrt hlk hZ hx hby hml hown hnm X0 e0 N0 P0 => ?_
 replace P0 : PP p e below s₁ (mkF m 0 #[rv sa, iv 0, iv 2, .unset, .unset] []) s0 := castPP (ef_14 m sa) P0
 have P1 := P0.bt X0 hx hby b41_ rfl
 obtain ⟨_, T2, L2, X2, hQ2, P2⟩ := cSt P1 X0 hx hZ hown hw e0 hml 495 452 17 453 (rm_nbf2 hw Z0) rfl rfl rfl rfl rfl rfl [(.int 2)] [] 0 (lenOf pd_9 rfl) rfl (Nat.le_of_eq rfl) (hb hby d14_1) rfl (by decide)
 obtain ⟨t_2, kb_2, rfl, N2q, Kc2, po2_0, po2_1⟩ := hQ2
 have N2 := Fr.app N0 N2q
 obtain ⟨Lf3, X2, N3⟩ := fixL X2 N2 1 4 rfl rfl
 have ne_sa_t_2 := neL V_sa.lt po2_0
 have sz_t_2 : h0.size ≤ t_2 := Nat.le_trans (Nat.le_refl h0.size) po2_0
 replace V_sa := V_sa.keep Kc2 nin0
 replace OL := OL.keep Kc2 all0
 have K2 := (Keep.refl h0 []).trans Kc2 all0
 have V_t_2 := po2_1
 have P4 : PP p e below T2 (mkF m 19 #[rv sa, iv 0, iv 2, rv t_2, iv 0] [i0, (.ref sa), i0, (.ref t_2)]) s0 := fun q_ k_ => P2 q_ (by
  refine bt X2 hx hby b42_ rfl ?_
  refine XS.icmpNo X2.here hx rfl (hb hby d14_11) rfl (tlt ((by decide) : (0 : Int32) < (2 : Int32))).2.1 ?_
  exact bt X2 hx hby b43_ rfl k_)
 obtain ⟨cl5, Ar5, q5, S5, M5, Hs5, G5⟩ := id V_sa
 have hin5 := inb_of (j := (0 : Int32)) S5 ⟨by decide, by decide⟩
 have hat5 : cl5.slots[((0 : Int32)).toNatClampNeg]? = some (.int c0) := Has.at Hs5 hin5 (rfl)
 have P6 : PP p e below T2 (mkF m 20 #[rv sa, iv 0, iv 2, rv t_2, iv 0] [(.int c0), i0, (.ref t_2)]) s0 := fun q_ k_ => P4 q_ (by
  exact X2.caload hx (j := (0 : Int32)) (v := (.int c0)) (Ar5.1) (State.isArrayOf_alike hZ.alike Ar5.2.1) Ar5.2.2 hin5 hat5 (g := P4.g) rfl rfl (hb hby d14_19) _ k_)
 obtain ⟨_, T7, L7, X7, hQ7, P7⟩ := cSt P6 X2 hx hZ hown hw rfl hml 440 441 17 442 (rm_put hw t_2 kb_2 4 ([] : List Int32) 0 c0 (zT Z0 K2.1) V_t_2 (Nat.le_trans Z0 sz_t_2) Sa Sh Sl OL rfl (by decide) (by decide)) rfl rfl rfl rfl rfl rfl [(.ref t_2), i0, (.int c0)] [] 0 (lenOf pd_7 rfl) rfl (Nat.le_of_eq rfl) (hb hby d14_20) rfl (by decide)
 obtain ⟨rfl, N7q, Kc7, po7_0⟩ := hQ7
 have N7 := Fr.app N3 N7q
 obtain ⟨Lf8, X7, N8⟩ := fixL X7 N7 1 4 rfl rfl
 replace V_sa := V_sa.keep Kc7 (ninS ne_sa_t_2 nin0)
 replace OL := OL.keep Kc7 (allS (Nat.le_trans Z0 sz_t_2) all0)
 have K7 := Kt1 K2 Kc7 (Or.inr sz_t_2)
 have V_t_2 := po7_0
 have P9 : PP p e below T7 (mkF m 19 #[rv sa, iv 1, iv 2, rv t_2, iv 1] [(.int 1), (.ref sa), (.int 1), (.ref t_2)]) s0 := fun q_ k_ => P7 q_ (by
  refine bt X7 hx hby b44_ rfl ?_
  refine bt X7 hx hby b45_ rfl ?_
  refine XS.icmpNo X7.here hx rfl (hb hby d14_11) rfl (tlt ((by decide) : (1 : Int32) < (2 : Int32))).2.1 ?_
  exact bt X7 hx hby b43_ rfl k_)
 obtain ⟨cl10, Ar10, q10, S10, M10, Hs10, G10⟩ := id V_sa
 have hin10 := inb_of (j := (1 : Int32)) S10 ⟨by decide, by decide⟩
 have hat10 : cl10.slots[((1 : Int32)).toNatClampNeg]? = some (.int c1) := Has.at Hs10 hin10 (rfl)
 have P11 : PP p e below T7 (mkF m 20 #[rv sa, iv 1, iv 2, rv t_2, iv 1] [(.int c1), (.int 1), (.ref t_2)]) s0 := fun q_ k_ => P9 q_ (by
  exact X7.caload hx (j := (1 : Int32)) (v := (.int c1)) (Ar10.1) (State.isArrayOf_alike hZ.alike Ar10.2.1) Ar10.2.2 hin10 hat10 (g := P9.g) rfl rfl (hb hby d14_19) _ k_)
 obtain ⟨_, T12, L12, X12, hQ12, P12⟩ := cSt P11 X7 hx hZ hown hw rfl hml 440 441 17 442 (rm_put hw t_2 kb_2 4 ([c0] : List Int32) 1 c1 (zT Z0 K7.1) V_t_2 (Nat.le_trans Z0 sz_t_2) Sa Sh Sl OL rfl (Nat.le_of_ble_eq_true rfl) (by decide)) rfl rfl rfl rfl rfl rfl [(.ref t_2), (.int 1), (.int c1)] [] 0 (lenOf pd_7 rfl) rfl (Nat.le_of_eq rfl) (hb hby d14_20) rfl (by decide)
 obtain ⟨rfl, N12q, Kc12, po12_0⟩ := hQ12
 have N12 := Fr.app N8 N12q
 obtain ⟨Lf13, X12, N13⟩ := fixL X12 N12 1 4 rfl rfl
 have K12 := Kt1 K7 Kc12 (Or.inr sz_t_2)
 have V_t_2 := po12_0
 have P14 : PP p e below T12 (mkF m 33 #[rv sa, iv 2, iv 2, rv t_2, iv 2] [(.ref t_2)]) s0 := fun q_ k_ => P12 q_ (by
  refine bt X12 hx hby b44_ rfl ?_
  refine bt X12 hx hby b45_ rfl ?_
  refine XS.icmpYes X12.here hx rfl (pc0 := 11) (pc' := 32) rfl (hb hby d14_11) rfl (flt ((by decide) : ¬ ((2 : Int32) < (2 : Int32)))).2.1 (by decide) (by decide) ?_
  exact bt X12 hx hby b46_ rfl k_)
 exact endA 33 #[rv sa, iv 2, iv 2, rv t_2, iv 2] (rest := []) X12 hx hrt rfl hlk P14 (hb hby d14_33) rfl (by decide) (by decide) (show Q_toB2 Z sa ks c0 c1 h0 n0 _ _ _ from ⟨t_2, kb_2, rfl, N13, K12, sz_t_2, V_t_2⟩)
theorem ef_15 (m : MethodId) (x0 : Int32) : entryFrame m #[(.int x0)] 1 = mkF m 0 #[.val (.int x0)] [] := by first | (simp [entryFrame, mkF, argsToLocals, Value.category]; done) | rfl
abbrev k15_ := jdk_43_method_46_code
theorem b47_ : dl k15_ 0 [(.iconst 1, 1)] = true := by decide +kernel
theorem d15_1 : decode k15_ 1 = .ok (.newarray .byte, 2) := by decide +kernel
theorem b48_ : dl k15_ 3 [(.dup, 1), (.iconst 0, 1), (.iload_n 0, 1), (.i2b, 1)] = true := by decide +kernel
theorem d15_7 : decode k15_ 7 = .ok (.bastore, 1) := by decide +kernel
theorem d15_8 : decode k15_ 8 = .ok (.areturn, 1) := by decide +kernel
def Q_lB1 (Z : State) (c0 : Int32) : QT := fun h0 n0 v h L => ∃ (t : Addr) (kb : ClassId), v = some (.ref t) ∧ Fr n0 L ∧ Keep h0 h [] ∧ (h0.size ≤ t) ∧ (Arv Z h t kb .byte 1 [(.int (nar .byte (c0.toInt8.toInt32)))] i0)
abbrev mn_15 : MethodName := ⟨"java/lang/StringLatin1", "toBytes", "(C)[B"⟩
theorem rm_lB1 (hw : HW a0 Z) (c0 : Int32) (Z0 : n0 ≤ h0.size) :
  MetP l Z mn_15 k15_ 1 (some (.array .byte)) (rr 0 1 1 0) ws #[(.int c0)] h0 (Q_lB1 Z c0 h0 n0) := by
 refine begH n0 "java/lang/StringLatin1" rfl (plainFor_of_name pn_3) fun p e s m below meth c s₁ s0 hrt hlk hZ hx hby hml hown hnm X0 e0 N0 P0 => ?_
 replace P0 : PP p e below s₁ (mkF m 0 #[iv c0] []) s0 := castPP (ef_15 m c0) P0
 have P1 := P0.bt X0 hx hby b47_ rfl
 obtain ⟨T2, h2, k2, X2, e2, E2, A2, st2⟩ := newP X0 hx hZ (ww hw 19 rfl) e0 (g := P1.g) rfl (hb hby d15_1) rfl (by decide) (cap := 1) (by decide) (by decide) (by decide) (by decide)
 obtain ⟨b2, g2⟩ : ∃ z, z = h0.size := ⟨_, rfl⟩
 rw [← g2] at A2 st2
 have P3 := P1.st st2
 have sz_b2 : h0.size ≤ b2 := Nat.le_trans (Nat.le_refl h0.size) (Nat.le_of_eq g2.symm)
 have K2 := (Keep.refl h0 []).ext E2
 obtain ⟨Lf4, X2, N4⟩ := fixL X2 N0 1 1 rfl rfl
 have V_b2 : Arv Z h2 b2 k2 .byte 1 [i0] i0 := (Arv.new A2 (by decide)).pad (pad_rep [] i0 1)
 have P5 : PP p e below T2 (mkF m 7 #[iv c0] [(.int (c0.toInt8.toInt32)), i0, (.ref b2), (.ref b2)]) s0 := fun q_ k_ => P3 q_ (by
  exact bt X2 hx hby b48_ rfl k_)
 obtain ⟨cl6, Ar6, q6, S6, M6, Hs6, G6⟩ := V_b2
 obtain ⟨T6, h6, X6, e6, W6, st6⟩ := stB X2 hx hZ e2 Ar6 (j := (0 : Int32)) (inb_of S6 ⟨by decide, by decide⟩) (g := P5.g) rfl rfl (hb hby d15_7)
 have P7 := P5.st st6
 have N6 := Fr.snoc X6 N4 (Nat.le_trans Z0 sz_b2)
 have K6 := K2.wr W6 (Or.inr sz_b2)
 have V_b2 : Arv Z h6 b2 k2 .byte 1 [(.int (nar .byte (c0.toInt8.toInt32)))] i0 := Arv.set Ar6 q6 S6 M6 Hs6 G6 (fits_nar_byte _) W6 0 rfl (Nat.le_of_ble_eq_true rfl)
 exact endA 8 #[iv c0] (rest := []) X6 hx hrt rfl hlk P7 (hb hby d15_8) e6 (by decide) (by decide) (show Q_lB1 Z c0 h0 n0 _ _ _ from ⟨b2, k2, rfl, N6, K6, sz_b2, V_b2⟩)
theorem ef_16 (m : MethodId) (x0 : Addr) (x1 : Addr) (x2 : Int32) : entryFrame m #[(.ref x0), (.ref x1), (.int x2)] 3 = mkF m 0 #[.val (.ref x0), .val (.ref x1), .val (.int x2)] [] := by first | (simp [entryFrame, mkF, argsToLocals, Value.category]; done) | rfl
abbrev k16_ := jdk_42_method_151_code
theorem b49_ : dl k16_ 0 [(.aload_n 0, 1)] = true := by decide +kernel
theorem d16_1 : decode k16_ 1 = .ok (.invokespecial 1, 3) := by decide +kernel
theorem b50_ : dl k16_ 4 [(.aload_n 0, 1), (.aload_n 1, 1)] = true := by decide +kernel
theorem d16_6 : decode k16_ 6 = .ok (.putfield 9, 3) := by decide +kernel
theorem b51_ : dl k16_ 9 [(.aload_n 0, 1), (.iload_n 2, 1)] = true := by decide +kernel
theorem d16_11 : decode k16_ 11 = .ok (.putfield 15, 3) := by decide +kernel
theorem d16_14 : decode k16_ 14 = .ok (.return_, 1) := by decide +kernel
def Q_sInitBB (Z : State) (xs tb : Addr) (cd : Int32) (u1 u2 : Value) : QT := fun h0 n0 v h L => v = none ∧ Fr n0 L ∧ Keep h0 h [xs] ∧ (Exa Z h xs cS) ∧ (Fld Z h xs cS "value" "[B" (.ref tb)) ∧ (Fld Z h xs cS "coder" "B" (.int (nar .byte cd)))
abbrev mn_16 : MethodName := ⟨"java/lang/String", "<init>", "([BB)V"⟩
theorem rm_sInitBB (hw : HW a0 Z) (xs tb : Addr) (cd : Int32) (u1 u2 : Value) (Z0 : n0 ≤ h0.size) (E_xs : Exa Z h0 xs cS) (Fv_xs : Fld Z h0 xs cS "value" "[B" u1) (Fc_xs : Fld Z h0 xs cS "coder" "B" u2) (g_xs : n0 ≤ xs) :
  MetP l Z mn_16 k16_ 3 none (rr 1 0 0 12) ws #[(.ref xs), (.ref tb), (.int cd)] h0 (Q_sInitBB Z xs tb cd u1 u2 h0 n0) := by
 refine begH n0 cS rfl (plainFor_of_name pn_2) fun p e s m below meth c s₁ s0 hrt hlk hZ hx hby hml hown hnm X0 e0 N0 P0 => ?_
 replace P0 : PP p e below s₁ (mkF m 0 #[rv xs, rv tb, iv cd] []) s0 := castPP (ef_16 m xs tb cd) P0
 have P1 := P0.bt X0 hx hby b49_ rfl
 obtain ⟨T2, X2, e2, st2⟩ := initO X0 hx hZ hown (ww hw 11 rfl) (ww hw 12 rfl) (ww hw 13 rfl) e0 (g := P1.g) rfl (by rw [hml]; rfl) rfl (hb hby d16_1) (by decide) (W := 0) (by show 2 * 0 + _ ≤ _; exact Nat.le_of_eq rfl) (by decide)
 have P3 := P1.st st2
 have P4 : PP p e below T2 (mkF m 6 #[rv xs, rv tb, iv cd] [(.ref tb), (.ref xs)]) s0 := fun q_ k_ => P3 q_ (by
  exact bt X2 hx hby b50_ rfl k_)
 obtain ⟨T5, h5, X5, e5, W5, st5⟩ := putF X2 hx hZ hown (host := "") (Or.inl (ww hw 28 rfl)) Via.refl e2 Fv_xs E_xs (Or.inr ⟨(ww hw 29 rfl), rfl, hnm⟩) (ww hw 1 rfl) (ty := (.array .byte)) (by decide) rfl rfl (g := P4.g) rfl rfl (hb hby d16_6)
 have P6 := P4.st st5
 have N5 := Fr.snoc X5 N0 g_xs
 have K5 := (Keep.refl h0 [xs]).wr W5 (Or.inl (mi 0))
 replace E_xs := E_xs.wr W5
 replace Fv_xs : Fld Z h5 xs cS "value" "[B" (.ref tb) := Fv_xs.same W5
 replace Fc_xs := Fc_xs.other W5 (Or.inr (slot_ne (Or.inr (ww hw 27 rfl)) (Or.inr (ww hw 29 rfl)) (by decide) (t := .byte) (t' := (.array .byte)) (by decide) (by decide)))
 have P7 := P6.bt X5 hx hby b51_ rfl
 obtain ⟨T8, h8, X8, e8, W8, st8⟩ := putFN X5 hx hZ hown (ww hw 26 rfl) Via.refl e5 Fc_xs E_xs (Or.inr ⟨(ww hw 27 rfl), rfl, hnm⟩) (ww hw 1 rfl) (ty := .byte) (v' := (.int (nar .byte cd))) (by decide) rfl (fits_nar_byte _) (g := P7.g) rfl rfl (hb hby d16_11)
 have P9 := P7.st st8
 have N8 := Fr.snoc X8 N5 g_xs
 have K8 := K5.wr W8 (Or.inl (mi 0))
 replace E_xs := E_xs.wr W8
 replace Fv_xs := Fv_xs.other W8 (Or.inr (slot_ne (Or.inr (ww hw 29 rfl)) (Or.inr (ww hw 27 rfl)) (by decide) (t := (.array .byte)) (t' := .byte) (by decide) (by decide)))
 replace Fc_xs : Fld Z h8 xs cS "coder" "B" (.int (nar .byte cd)) := Fc_xs.same W8
 exact endV 14 #[rv xs, rv tb, iv cd] X8 hx hrt hlk P9 (hb hby d16_14) e8 (by decide) (by decide) (show Q_sInitBB Z xs tb cd u1 u2 h0 n0 _ _ _ from ⟨rfl, N8, K8, E_xs, Fv_xs, Fc_xs⟩)
abbrev k17_ := jdk_43_method_3_code
theorem d17_4 : decode k17_ 4 = .ok (.if_icmp .gt 7, 3) := by decide +kernel
theorem b52_ : dl k17_ 0 [(.iload_n 0, 1), (.sipush 255, 3)] = true := by decide +kernel
theorem b53_ : dl k17_ 7 [(.iconst 1, 1), (.goto 4, 3)] = true := by decide +kernel
theorem d17_12 : decode k17_ 12 = .ok (.ireturn, 1) := by decide +kernel
def Q_canE0 (Z : State) (c0 : Int32) : QT := fun h0 n0 v h L => v = some (.int 1) ∧ Fr n0 L ∧ h = h0
abbrev mn_17 : MethodName := ⟨"java/lang/StringLatin1", "canEncode", "(C)Z"⟩
theorem rm_canE0 (hw : HW a0 Z) (c0 : Int32) (Z0 : n0 ≤ h0.size) (hcc : ¬ (255 : Int32) < c0) :
  MetP l Z mn_17 k17_ 1 (some .boolean) (rr 0 0 0 0) ws #[(.int c0)] h0 (Q_canE0 Z c0 h0 n0) := by
 refine begH n0 "java/lang/StringLatin1" rfl (plainFor_of_name pn_3) fun p e s m below meth c s₁ s0 hrt hlk hZ hx hby hml hown hnm X0 e0 N0 P0 => ?_
 replace P0 : PP p e below s₁ (mkF m 0 #[iv c0] []) s0 := castPP (ef_15 m c0) P0
 have P1 : PP p e below s₁ (mkF m 12 #[iv c0] [(.int 1)]) s0 := fun q_ k_ => P0 q_ (by
  refine bt X0 hx hby b52_ rfl ?_
  refine XS.icmpNo X0.here hx rfl (hb hby d17_4) rfl (flt (hcc : ¬ ((255 : Int32) < c0))).2.2.1 ?_
  exact bt X0 hx hby b53_ rfl k_)
 exact endN 12 #[iv c0] (rest := []) X0 hx hrt (by simp) hlk P1 (hb hby d17_12) e0 (by decide) (by decide) (show Q_canE0 Z c0 h0 n0 _ _ _ from ⟨rfl, N0, rfl⟩)
theorem b54_ : dl k17_ 11 [(.iconst 0, 1)] = true := by decide +kernel
def Q_canE1 (Z : State) (c0 : Int32) : QT := fun h0 n0 v h L => v = some i0 ∧ Fr n0 L ∧ h = h0
theorem rm_canE1 (hw : HW a0 Z) (c0 : Int32) (Z0 : n0 ≤ h0.size) (hcc : (255 : Int32) < c0) :
  MetP l Z mn_17 k17_ 1 (some .boolean) (rr 0 0 0 0) ws #[(.int c0)] h0 (Q_canE1 Z c0 h0 n0) := by
 refine begH n0 "java/lang/StringLatin1" rfl (plainFor_of_name pn_3) fun p e s m below meth c s₁ s0 hrt hlk hZ hx hby hml hown hnm X0 e0 N0 P0 => ?_
 replace P0 : PP p e below s₁ (mkF m 0 #[iv c0] []) s0 := castPP (ef_15 m c0) P0
 have P1 : PP p e below s₁ (mkF m 12 #[iv c0] [i0]) s0 := fun q_ k_ => P0 q_ (by
  refine bt X0 hx hby b52_ rfl ?_
  refine XS.icmpYes X0.here hx rfl (pc0 := 4) (pc' := 11) rfl (hb hby d17_4) rfl (tlt (hcc : (255 : Int32) < c0)).2.2.1 (by decide) (by decide) ?_
  exact bt X0 hx hby b54_ rfl k_)
 exact endN 12 #[iv c0] (rest := []) X0 hx hrt (by simp) hlk P1 (hb hby d17_12) e0 (by decide) (by decide) (show Q_canE1 Z c0 h0 n0 _ _ _ from ⟨rfl, N0, rfl⟩)
abbrev k18_ := jdk_42_method_139_code
theorem d18_0 : decode k18_ 0 = .ok (.getstatic 38, 3) := by decide +kernel
theorem d18_3 : decode k18_ 3 = .ok (.ifCond .eq 23, 3) := by decide +kernel
theorem b55_ : dl k18_ 6 [(.iload_n 0, 1)] = true := by decide +kernel
theorem pd_10 : parseMethodDescriptor "(C)Z" = some ⟨[.char], some .boolean⟩ := by decide +kernel
theorem d18_7 : decode k18_ 7 = .ok (.invokestatic 1015, 3) := by decide +kernel
theorem d18_10 : decode k18_ 10 = .ok (.ifCond .eq 16, 3) := by decide +kernel
theorem d18_26 : decode k18_ 26 = .ok (.new 10, 3) := by decide +kernel
theorem b56_ : dl k18_ 29 [(.dup, 1), (.iload_n 0, 1)] = true := by decide +kernel
theorem pd_11 : parseMethodDescriptor "(C)[B" = some ⟨[.char], some (.array .byte)⟩ := by decide +kernel
theorem d18_31 : decode k18_ 31 = .ok (.invokestatic 1021, 3) := by decide +kernel
theorem b57_ : dl k18_ 34 [(.iconst 1, 1)] = true := by decide +kernel
theorem pd_12 : parseMethodDescriptor "([BB)V" = some ⟨[(.array .byte), .byte], none⟩ := by decide +kernel
theorem d18_35 : decode k18_ 35 = .ok (.invokespecial 209, 3) := by decide +kernel
theorem d18_38 : decode k18_ 38 = .ok (.areturn, 1) := by decide +kernel
theorem d18_13 : decode k18_ 13 = .ok (.new 10, 3) := by decide +kernel
theorem b58_ : dl k18_ 16 [(.dup, 1), (.iload_n 0, 1)] = true := by decide +kernel
theorem d18_18 : decode k18_ 18 = .ok (.invokestatic 1018, 3) := by decide +kernel
theorem b59_ : dl k18_ 21 [(.iconst 0, 1)] = true := by decide +kernel
theorem d18_22 : decode k18_ 22 = .ok (.invokespecial 209, 3) := by decide +kernel
theorem d18_25 : decode k18_ 25 = .ok (.areturn, 1) := by decide +kernel
def Q_valOf (Z : State) (c0 G1 : Int32) (Gf : Value) : QT := fun h0 n0 v h L => ∃ (xs : Addr) (ts : Addr) (ks : ClassId) (ce : Int32) (ze : Int32) (wv : List Value), v = some (.ref xs) ∧ Fr n0 L ∧ Keep h0 h [] ∧ (h0.size ≤ xs) ∧ (h0.size ≤ ts) ∧ (Exa Z h xs cS) ∧ (Fld Z h xs cS "value" "[B" (.ref ts)) ∧ (Fld Z h xs cS "coder" "B" (.int ce)) ∧ (Arv Z h ts ks .byte ze wv i0) ∧ (KB ce ze wv [c0])
abbrev mn_18 : MethodName := ⟨"java/lang/String", "valueOf", "(C)Ljava/lang/String;"⟩
theorem rm_valOf (hw : HW a0 Z) (c0 G1 : Int32) (Gf : Value) (Z0 : n0 ≤ h0.size) (Sc : SU4 Z G1) (hz : ¬ G1 = 0) (Sa : SU1 Z) (Sh : SU2 Z) (Sl : SU3 Z) (Sf : SU5 Z Gf) (rGf : Gf.isRef = true) (OL : Old Z n0 h0) (ic0 : isC c0) :
  MetP l Z mn_18 k18_ 1 (some (.object cS)) (rr 2 2 6 29) ws #[(.int c0)] h0 (Q_valOf Z c0 G1 Gf h0 n0) := by
 refine begH n0 cS rfl (plainFor_of_name pn_2) fun p e s m below meth c s₁ s0 hrt hlk hZ hx hby hml hown hnm X0 e0 N0 P0 => ?_
 replace P0 : PP p e below s₁ (mkF m 0 #[iv c0] []) s0 := castPP (ef_15 m c0) P0
 obtain ⟨T1, X1, e1, P1⟩ := gS P0 X0 hx hZ hown hw 14 e0 (Sc.ext OL.2) (hb hby d18_0)
 have P2 : PP p e below T1 (mkF m 6 #[iv c0] []) s0 := fun q_ k_ => P1 q_ (by
  exact XS.ifNo X1.here hx rfl (hb hby d18_3) rfl ((if0 _ _).trans (feq (hz : ¬ (G1 = (0 : Int32)))).1) k_)
 by_cases hcc : (255 : Int32) < c0
 ·
  have P3 := P2.bt X1 hx hby b55_ rfl
  obtain ⟨_, T4, L4, X4, hQ4, P4⟩ := cSt P3 X1 hx hZ hown hw e1 hml 301 302 287 303 (rm_canE1 hw c0 Z0 hcc) rfl rfl rfl rfl rfl rfl [(.int c0)] [] 0 (lenOf pd_10 rfl) rfl (Nat.le_of_eq rfl) (hb hby d18_7) rfl (by decide)
  obtain ⟨rfl, N4q, e4⟩ := hQ4
  have N4 := Fr.app N0 N4q
  have P5 : PP p e below T4 (mkF m 26 #[iv c0] []) s0 := fun q_ k_ => P4 q_ (by
   exact XS.ifYes X4.here hx rfl (pc0 := 10) (pc' := 26) rfl (hb hby d18_10) rfl ((if0 _ _).trans (teq ((by decide) : (0 : Int32) = (0 : Int32))).1) (by decide) (by decide) k_)
  obtain ⟨T6, h6, X6, e6, E6, A6, D6, -, st6⟩ := newO X4 hx hZ hown (ww hw 304 rfl) (ww hw 1 rfl) (ww hw 2 rfl) e4 (g := P5.g) rfl (hb hby d18_26) (by decide) (by decide)
  obtain ⟨b6, g6⟩ : ∃ z, z = h0.size := ⟨_, rfl⟩
  rw [← g6] at A6 D6 st6
  have P7 := P5.st st6
  have sz_b6 : h0.size ≤ b6 := Nat.le_trans (Nat.le_refl h0.size) (Nat.le_of_eq g6.symm)
  replace OL := OL.ext E6
  have K6 := (Keep.refl h0 []).ext E6
  obtain ⟨Lf8, X6, N8⟩ := fixL X6 N4 1 4 rfl rfl
  have E_b6 : Exa Z h6 b6 cS := A6
  have Fc_b6 : Fld Z h6 b6 cS "coder" "B" i0 := D6 (Or.inr (ww hw 27 rfl)) (ty := .byte) (by decide)
  have Fv_b6 : Fld Z h6 b6 cS "value" "[B" .null := D6 (Or.inr (ww hw 29 rfl)) (ty := (.array .byte)) (by decide)
  have P9 := P7.bt X6 hx hby b56_ rfl
  obtain ⟨_, T10, L10, X10, hQ10, P10⟩ := cSt P9 X6 hx hZ hown hw e6 hml 437 438 17 439 (rm_toB1 hw c0 (zT Z0 K6.1) Sa Sh Sl OL) rfl rfl rfl rfl rfl rfl [(.int c0)] [(.ref b6), (.ref b6)] 2 (lenOf pd_11 rfl) rfl (Nat.le_of_eq rfl) (hb hby d18_31) rfl (by decide)
  obtain ⟨t_10, kb_10, rfl, N10q, Kc10, po10_0, po10_1⟩ := hQ10
  have N10 := Fr.app N8 N10q
  obtain ⟨Lf11, X10, N11⟩ := fixL X10 N10 2 6 rfl rfl
  have ne_b6_t_10 := neL E_b6.lt po10_0
  have sz_t_10 : h0.size ≤ t_10 := Nat.le_trans K6.1 po10_0
  replace E_b6 := E_b6.keep Kc10
  replace Fc_b6 := Fc_b6.keep Kc10 nin0
  replace Fv_b6 := Fv_b6.keep Kc10 nin0
  have K10 := K6.trans Kc10 all0
  have V_t_10 := po10_1
  have P12 : PP p e below T10 (mkF m 35 #[iv c0] [(.int 1), (.ref t_10), (.ref b6), (.ref b6)]) s0 := fun q_ k_ => P10 q_ (by
   exact bt X10 hx hby b57_ rfl k_)
  obtain ⟨_, T13, L13, X13, hQ13, P13⟩ := cIn P12 X10 hx hZ hown hw rfl hml 308 309 310 2 (rm_sInitBB hw b6 t_10 (1 : Int32) .null i0 (zT Z0 K10.1) E_b6 Fv_b6 Fc_b6 (Nat.le_trans Z0 sz_b6)) rfl rfl rfl rfl rfl rfl rfl [(.ref t_10), (.int 1)] [(.ref b6)] 1 (lenOf pd_12 rfl) rfl (Nat.le_of_eq rfl) (hb hby d18_35) rfl (by decide)
  obtain ⟨rfl, N13q, Kc13, po13_0, po13_1, po13_2⟩ := hQ13
  have N13 := Fr.app N11 N13q
  obtain ⟨Lf14, X13, N14⟩ := fixL X13 N13 2 6 rfl rfl
  replace V_t_10 := V_t_10.keep Kc13 (ninS (Ne.symm ne_b6_t_10) nin0)
  have K13 := Kt1 K10 Kc13 (Or.inr sz_b6)
  have E_b6 := po13_0
  have Fv_b6 := po13_1
  have Fc_b6 := po13_2
  exact endA 38 #[iv c0] (rest := []) X13 hx hrt rfl hlk P13 (hb hby d18_38) rfl (by decide) (by decide) (show Q_valOf Z c0 G1 Gf h0 n0 _ _ _ from ⟨b6, t_10, kb_10, (nar .byte (1 : Int32)), (2 : Int32), (wid [c0]), rfl, N14, K13, sz_b6, sz_t_10, E_b6, Fv_b6, Fc_b6, V_t_10, own_kbW ic0⟩)
 ·
  have P15 := P2.bt X1 hx hby b55_ rfl
  obtain ⟨_, T16, L16, X16, hQ16, P16⟩ := cSt P15 X1 hx hZ hown hw e1 hml 301 302 287 303 (rm_canE0 hw c0 Z0 hcc) rfl rfl rfl rfl rfl rfl [(.int c0)] [] 0 (lenOf pd_10 rfl) rfl (Nat.le_of_eq rfl) (hb hby d18_7) rfl (by decide)
  obtain ⟨rfl, N16q, e16⟩ := hQ16
  have N16 := Fr.app N0 N16q
  have P17 : PP p e below T16 (mkF m 13 #[iv c0] []) s0 := fun q_ k_ => P16 q_ (by
   exact XS.ifNo X16.here hx rfl (hb hby d18_10) rfl ((if0 _ _).trans (feq ((by decide) : ¬ ((1 : Int32) = (0 : Int32)))).1) k_)
  obtain ⟨T18, h18, X18, e18, E18, A18, D18, -, st18⟩ := newO X16 hx hZ hown (ww hw 304 rfl) (ww hw 1 rfl) (ww hw 2 rfl) e16 (g := P17.g) rfl (hb hby d18_13) (by decide) (by decide)
  obtain ⟨b18, g18⟩ : ∃ z, z = h0.size := ⟨_, rfl⟩
  rw [← g18] at A18 D18 st18
  have P19 := P17.st st18
  have sz_b18 : h0.size ≤ b18 := Nat.le_trans (Nat.le_refl h0.size) (Nat.le_of_eq g18.symm)
  have K18 := (Keep.refl h0 []).ext E18
  obtain ⟨Lf20, X18, N20⟩ := fixL X18 N16 1 4 rfl rfl
  have E_b18 : Exa Z h18 b18 cS := A18
  have Fc_b18 : Fld Z h18 b18 cS "coder" "B" i0 := D18 (Or.inr (ww hw 27 rfl)) (ty := .byte) (by decide)
  have Fv_b18 : Fld Z h18 b18 cS "value" "[B" .null := D18 (Or.inr (ww hw 29 rfl)) (ty := (.array .byte)) (by decide)
  have P21 := P19.bt X18 hx hby b58_ rfl
  obtain ⟨_, T22, L22, X22, hQ22, P22⟩ := cSt P21 X18 hx hZ hown hw e18 hml 305 306 287 307 (rm_lB1 hw c0 (zT Z0 K18.1)) rfl rfl rfl rfl rfl rfl [(.int c0)] [(.ref b18), (.ref b18)] 2 (lenOf pd_11 rfl) rfl (Nat.le_of_eq rfl) (hb hby d18_18) rfl (by decide)
  obtain ⟨t_22, kb_22, rfl, N22q, Kc22, po22_0, po22_1⟩ := hQ22
  have N22 := Fr.app N20 N22q
  obtain ⟨Lf23, X22, N23⟩ := fixL X22 N22 2 5 rfl rfl
  have ne_b18_t_22 := neL E_b18.lt po22_0
  have sz_t_22 : h0.size ≤ t_22 := Nat.le_trans K18.1 po22_0
  replace E_b18 := E_b18.keep Kc22
  replace Fc_b18 := Fc_b18.keep Kc22 nin0
  replace Fv_b18 := Fv_b18.keep Kc22 nin0
  have K22 := K18.trans Kc22 all0
  have V_t_22 := po22_1
  have P24 : PP p e below T22 (mkF m 22 #[iv c0] [i0, (.ref t_22), (.ref b18), (.ref b18)]) s0 := fun q_ k_ => P22 q_ (by
   exact bt X22 hx hby b59_ rfl k_)
  obtain ⟨_, T25, L25, X25, hQ25, P25⟩ := cIn P24 X22 hx hZ hown hw rfl hml 308 309 310 2 (rm_sInitBB hw b18 t_22 (0 : Int32) .null i0 (zT Z0 K22.1) E_b18 Fv_b18 Fc_b18 (Nat.le_trans Z0 sz_b18)) rfl rfl rfl rfl rfl rfl rfl [(.ref t_22), i0] [(.ref b18)] 1 (lenOf pd_12 rfl) rfl (Nat.le_of_eq rfl) (hb hby d18_22) rfl (by decide)
  obtain ⟨rfl, N25q, Kc25, po25_0, po25_1, po25_2⟩ := hQ25
  have N25 := Fr.app N23 N25q
  obtain ⟨Lf26, X25, N26⟩ := fixL X25 N25 2 5 rfl rfl
  replace V_t_22 := V_t_22.keep Kc25 (ninS (Ne.symm ne_b18_t_22) nin0)
  have K25 := Kt1 K22 Kc25 (Or.inr sz_b18)
  have E_b18 := po25_0
  have Fv_b18 := po25_1
  have Fc_b18 := po25_2
  exact endA 25 #[iv c0] (rest := []) X25 hx hrt rfl hlk P25 (hb hby d18_25) rfl (by decide) (by decide) (show Q_valOf Z c0 G1 Gf h0 n0 _ _ _ from ⟨b18, t_22, kb_22, (nar .byte (0 : Int32)), (1 : Int32), [(.int (nar .byte (c0.toInt8.toInt32)))], rfl, N26, K25, sz_b18, sz_t_22, E_b18, Fv_b18, Fc_b18, V_t_22, own_kbL ic0 hcc⟩)
theorem ef_17 (m : MethodId) (x0 : Addr) : entryFrame m #[(.ref x0), (.int 2)] 2 = mkF m 0 #[.val (.ref x0), .val (.int 2)] [] := by first | (simp [entryFrame, mkF, argsToLocals, Value.category]; done) | rfl
abbrev k19_ := jdk_52_method_15_code
theorem b60_ : dl k19_ 0 [(.iload_n 1, 1), (.aload_n 0, 1)] = true := by decide +kernel
theorem d19_2 : decode k19_ 2 = .ok (.arraylength, 1) := by decide +kernel
theorem d19_6 : decode k19_ 6 = .ok (.iushr, 1) := by decide +kernel
theorem b61_ : dl k19_ 3 [(.isub, 1), (.bipush 31, 2)] = true := by decide +kernel
theorem b62_ : dl k19_ 7 [(.i2b, 1)] = true := by decide +kernel
theorem d19_8 : decode k19_ 8 = .ok (.ireturn, 1) := by decide +kernel
def Q_cfl0 (Z : State) (tb : Addr) (kb : ClassId) (vs : List Value) : QT := fun h0 n0 v h L => v = some i0 ∧ Fr n0 L ∧ h = h0
abbrev mn_19 : MethodName := ⟨"java/lang/StringUTF16", "coderFromArrayLen", "([BI)B"⟩
theorem rm_cfl0 (hw : HW a0 Z) (tb : Addr) (kb : ClassId) (vs : List Value) (Z0 : n0 ≤ h0.size) (V_tb : Arv Z h0 tb kb .byte 2 vs i0) :
  MetP l Z mn_19 k19_ 2 (some .byte) (rr 0 0 0 0) ws #[(.ref tb), (.int 2)] h0 (Q_cfl0 Z tb kb vs h0 n0) := by
 refine begH n0 "java/lang/StringUTF16" rfl (plainFor_of_name pn_0) fun p e s m below meth c s₁ s0 hrt hlk hZ hx hby hml hown hnm X0 e0 N0 P0 => ?_
 replace P0 : PP p e below s₁ (mkF m 0 #[rv tb, iv 2] []) s0 := castPP (ef_17 m tb) P0
 have P1 := P0.bt X0 hx hby b60_ rfl
 obtain ⟨cl2, Ar2, -, S2, M2, -, -⟩ := id V_tb
 have P3 : PP p e below s₁ (mkF m 3 #[rv tb, iv 2] [(.int 2), (.int 2)]) s0 := fun q_ k_ => P1 q_ (by
  refine X0.arraylength hx (by rw [e0]; exact Ar2.1) (State.isArrayOf_alike hZ.alike Ar2.2.1) (g := P1.g) rfl rfl (hb hby d19_2) _ ?_
  rw [len_of S2 M2]
  exact k_)
 have P4 : PP p e below s₁ (mkF m 8 #[rv tb, iv 2] [i0]) s0 := fun q_ k_ => P3 q_ (by
  refine bt X0 hx hby b61_ rfl ?_
  refine XS.iushr X0.here hx rfl (hb hby d19_6) rfl ?_
  exact bt X0 hx hby b62_ rfl k_)
 exact endN 8 #[rv tb, iv 2] (rest := []) X0 hx hrt (by simp) hlk P4 (hb hby d19_8) e0 (by decide) (by decide) (show Q_cfl0 Z tb kb vs h0 n0 _ _ _ from ⟨rfl, N0, rfl⟩)
def Q_cfl1 (Z : State) (tb : Addr) (kb : ClassId) (vs : List Value) : QT := fun h0 n0 v h L => v = some (.int 1) ∧ Fr n0 L ∧ h = h0
theorem rm_cfl1 (hw : HW a0 Z) (tb : Addr) (kb : ClassId) (vs : List Value) (Z0 : n0 ≤ h0.size) (V_tb : Arv Z h0 tb kb .byte 4 vs i0) :
  MetP l Z mn_19 k19_ 2 (some .byte) (rr 0 0 0 0) ws #[(.ref tb), (.int 2)] h0 (Q_cfl1 Z tb kb vs h0 n0) := by
 refine begH n0 "java/lang/StringUTF16" rfl (plainFor_of_name pn_0) fun p e s m below meth c s₁ s0 hrt hlk hZ hx hby hml hown hnm X0 e0 N0 P0 => ?_
 replace P0 : PP p e below s₁ (mkF m 0 #[rv tb, iv 2] []) s0 := castPP (ef_17 m tb) P0
 have P1 := P0.bt X0 hx hby b60_ rfl
 obtain ⟨cl2, Ar2, -, S2, M2, -, -⟩ := id V_tb
 have P3 : PP p e below s₁ (mkF m 3 #[rv tb, iv 2] [(.int 4), (.int 2)]) s0 := fun q_ k_ => P1 q_ (by
  refine X0.arraylength hx (by rw [e0]; exact Ar2.1) (State.isArrayOf_alike hZ.alike Ar2.2.1) (g := P1.g) rfl rfl (hb hby d19_2) _ ?_
  rw [len_of S2 M2]
  exact k_)
 have P4 : PP p e below s₁ (mkF m 8 #[rv tb, iv 2] [(.int 1)]) s0 := fun q_ k_ => P3 q_ (by
  refine bt X0 hx hby b61_ rfl ?_
  refine XS.iushr X0.here hx rfl (hb hby d19_6) rfl ?_
  exact bt X0 hx hby b62_ rfl k_)
 exact endN 8 #[rv tb, iv 2] (rest := []) X0 hx hrt (by simp) hlk P4 (hb hby d19_8) e0 (by decide) (by decide) (show Q_cfl1 Z tb kb vs h0 n0 _ _ _ from ⟨rfl, N0, rfl⟩)
theorem ef_18 (m : MethodId) (x0 : Addr) (x2 : Addr) : entryFrame m #[(.ref x0), (.int 0), (.ref x2), (.int 0), (.int 2)] 7 = mkF m 0 #[.val (.ref x0), .val (.int 0), .val (.ref x2), .val (.int 0), .val (.int 2), .unset, .unset] [] := by first | (simp [entryFrame, mkF, argsToLocals, Value.category]; done) | rfl
abbrev k20_ := jdk_52_method_21_code
theorem d20_7 : decode k20_ 7 = .ok (.if_icmp .ge 37, 3) := by decide +kernel
theorem b63_ : dl k20_ 0 [(.iconst 0, 1), (.istore 5, 2), (.iload 5, 2), (.iload 4, 2)] = true := by decide +kernel
theorem b64_ : dl k20_ 10 [(.aload_n 0, 1), (.iload_n 1, 1)] = true := by decide +kernel
theorem d20_12 : decode k20_ 12 = .ok (.caload, 1) := by decide +kernel
theorem d20_20 : decode k20_ 20 = .ok (.if_icmp .le 6, 3) := by decide +kernel
theorem b65_ : dl k20_ 13 [(.istore 6, 2), (.iload 6, 2), (.sipush 255, 3)] = true := by decide +kernel
theorem b66_ : dl k20_ 26 [(.aload_n 2, 1), (.iload_n 3, 1), (.iload 6, 2), (.i2b, 1)] = true := by decide +kernel
theorem d20_31 : decode k20_ 31 = .ok (.bastore, 1) := by decide +kernel
theorem b67_ : dl k20_ 32 [(.iinc 1 1, 3), (.iinc 3 1, 3), (.iinc 5 1, 3), (.goto (-38), 3)] = true := by decide +kernel
theorem b68_ : dl k20_ 3 [(.iload 5, 2), (.iload 4, 2)] = true := by decide +kernel
theorem b69_ : dl k20_ 44 [(.iload 4, 2)] = true := by decide +kernel
theorem d20_46 : decode k20_ 46 = .ok (.ireturn, 1) := by decide +kernel
def Q_compNL (Z : State) (sa : Addr) (ks : ClassId) (da : Addr) (kd : ClassId) (c0 c1 : Int32) : QT := fun h0 n0 v h L => v = some (.int 2) ∧ Fr n0 L ∧ Keep h0 h [da] ∧ (Arv Z h da kd .byte 2 [(.int (nar .byte (c0.toInt8.toInt32))), (.int (nar .byte (c1.toInt8.toInt32)))] i0)
abbrev mn_20 : MethodName := ⟨"java/lang/StringUTF16", "compress", "([CI[BII)I"⟩
theorem rm_compNL (hw : HW a0 Z) (sa : Addr) (ks : ClassId) (da : Addr) (kd : ClassId) (c0 c1 : Int32) (Z0 : n0 ≤ h0.size) (V_sa : Arv Z h0 sa ks .char 2 [(.int c0), (.int c1)] i0) (V_da : Arv Z h0 da kd .byte 2 [i0, i0] i0) (g_da : n0 ≤ da) (ne_sa_da : sa ≠ da) (l0 : ¬ (255 : Int32) < c0) (l1 : ¬ (255 : Int32) < c1) :
  MetP l Z mn_20 k20_ 7 (some .int) (rr 0 0 0 0) ws #[(.ref sa), i0, (.ref da), i0, (.int 2)] h0 (Q_compNL Z sa ks da kd c0 c1 h0 n0) := by
 refine begH n0 "java/lang/StringUTF16" rfl (plainFor_of_name pn_0) fun p e s m below meth c s₁ s0 hrt hlk hZ hx hby hml hown hnm X0 e0 N0 P0 => ?_
 replace P0 : PP p e below s₁ (mkF m 0 #[rv sa, iv 0, rv da, iv 0, iv 2, .unset, .unset] []) s0 := castPP (ef_18 m sa da) P0
 have P1 : PP p e below s₁ (mkF m 12 #[rv sa, iv 0, rv da, iv 0, iv 2, iv 0, .unset] [i0, (.ref sa)]) s0 := fun q_ k_ => P0 q_ (by
  refine bt X0 hx hby b63_ rfl ?_
  refine XS.icmpNo X0.here hx rfl (hb hby d20_7) rfl (tlt ((by decide) : (0 : Int32) < (2 : Int32))).2.1 ?_
  exact bt X0 hx hby b64_ rfl k_)
 obtain ⟨cl2, Ar2, q2, S2, M2, Hs2, G2⟩ := id V_sa
 have hin2 := inb_of (j := (0 : Int32)) S2 ⟨by decide, by decide⟩
 have hat2 : cl2.slots[((0 : Int32)).toNatClampNeg]? = some (.int c0) := Has.at Hs2 hin2 (rfl)
 have P3 : PP p e below s₁ (mkF m 13 #[rv sa, iv 0, rv da, iv 0, iv 2, iv 0, .unset] [(.int c0)]) s0 := fun q_ k_ => P1 q_ (by
  exact X0.caload hx (j := (0 : Int32)) (v := (.int c0)) (by rw [e0]; exact Ar2.1) (State.isArrayOf_alike hZ.alike Ar2.2.1) Ar2.2.2 hin2 hat2 (g := P1.g) rfl rfl (hb hby d20_12) _ k_)
 have P4 : PP p e below s₁ (mkF m 31 #[rv sa, iv 0, rv da, iv 0, iv 2, iv 0, iv c0] [(.int (c0.toInt8.toInt32)), i0, (.ref da)]) s0 := fun q_ k_ => P3 q_ (by
  refine bt X0 hx hby b65_ rfl ?_
  refine XS.icmpYes X0.here hx rfl (pc0 := 20) (pc' := 26) rfl (hb hby d20_20) rfl (flt (l0 : ¬ ((255 : Int32) < c0))).2.2.2 (by decide) (by decide) ?_
  exact bt X0 hx hby b66_ rfl k_)
 obtain ⟨cl5, Ar5, q5, S5, M5, Hs5, G5⟩ := V_da
 obtain ⟨T5, h5, X5, e5, W5, st5⟩ := stB X0 hx hZ e0 Ar5 (j := (0 : Int32)) (inb_of S5 ⟨by decide, by decide⟩) (g := P4.g) rfl rfl (hb hby d20_31)
 have P6 := P4.st st5
 have N5 := Fr.snoc X5 N0 g_da
 have K5 := (Keep.refl h0 [da]).wr W5 (Or.inl (mi 0))
 replace V_sa := V_sa.other W5 ne_sa_da
 have V_da : Arv Z h5 da kd .byte 2 [(.int (nar .byte (c0.toInt8.toInt32))), i0] i0 := Arv.set Ar5 q5 S5 M5 Hs5 G5 (fits_nar_byte _) W5 0 rfl (Nat.le_of_ble_eq_true rfl)
 have P7 : PP p e below T5 (mkF m 12 #[rv sa, iv 1, rv da, iv 1, iv 2, iv 1, iv c0] [(.int 1), (.ref sa)]) s0 := fun q_ k_ => P6 q_ (by
  refine bt X5 hx hby b67_ rfl ?_
  refine bt X5 hx hby b68_ rfl ?_
  refine XS.icmpNo X5.here hx rfl (hb hby d20_7) rfl (tlt ((by decide) : (1 : Int32) < (2 : Int32))).2.1 ?_
  exact bt X5 hx hby b64_ rfl k_)
 obtain ⟨cl8, Ar8, q8, S8, M8, Hs8, G8⟩ := id V_sa
 have hin8 := inb_of (j := (1 : Int32)) S8 ⟨by decide, by decide⟩
 have hat8 : cl8.slots[((1 : Int32)).toNatClampNeg]? = some (.int c1) := Has.at Hs8 hin8 (rfl)
 have P9 : PP p e below T5 (mkF m 13 #[rv sa, iv 1, rv da, iv 1, iv 2, iv 1, iv c0] [(.int c1)]) s0 := fun q_ k_ => P7 q_ (by
  exact X5.caload hx (j := (1 : Int32)) (v := (.int c1)) (by rw [e5]; exact Ar8.1) (State.isArrayOf_alike hZ.alike Ar8.2.1) Ar8.2.2 hin8 hat8 (g := P7.g) rfl rfl (hb hby d20_12) _ k_)
 have P10 : PP p e below T5 (mkF m 31 #[rv sa, iv 1, rv da, iv 1, iv 2, iv 1, iv c1] [(.int (c1.toInt8.toInt32)), (.int 1), (.ref da)]) s0 := fun q_ k_ => P9 q_ (by
  refine bt X5 hx hby b65_ rfl ?_
  refine XS.icmpYes X5.here hx rfl (pc0 := 20) (pc' := 26) rfl (hb hby d20_20) rfl (flt (l1 : ¬ ((255 : Int32) < c1))).2.2.2 (by decide) (by decide) ?_
  exact bt X5 hx hby b66_ rfl k_)
 obtain ⟨cl11, Ar11, q11, S11, M11, Hs11, G11⟩ := V_da
 obtain ⟨T11, h11, X11, e11, W11, st11⟩ := stB X5 hx hZ e5 Ar11 (j := (1 : Int32)) (inb_of S11 ⟨by decide, by decide⟩) (g := P10.g) rfl rfl (hb hby d20_31)
 have P12 := P10.st st11
 have N11 := Fr.snoc X11 N5 g_da
 have K11 := K5.wr W11 (Or.inl (mi 0))
 have V_da : Arv Z h11 da kd .byte 2 [(.int (nar .byte (c0.toInt8.toInt32))), (.int (nar .byte (c1.toInt8.toInt32)))] i0 := Arv.set Ar11 q11 S11 M11 Hs11 G11 (fits_nar_byte _) W11 1 rfl (Nat.le_of_ble_eq_true rfl)
 have P13 : PP p e below T11 (mkF m 46 #[rv sa, iv 2, rv da, iv 2, iv 2, iv 2, iv c1] [(.int 2)]) s0 := fun q_ k_ => P12 q_ (by
  refine bt X11 hx hby b67_ rfl ?_
  refine bt X11 hx hby b68_ rfl ?_
  refine XS.icmpYes X11.here hx rfl (pc0 := 7) (pc' := 44) rfl (hb hby d20_7) rfl (flt ((by decide) : ¬ ((2 : Int32) < (2 : Int32)))).2.1 (by decide) (by decide) ?_
  exact bt X11 hx hby b69_ rfl k_)
 exact endI 46 #[rv sa, iv 2, rv da, iv 2, iv 2, iv 2, iv c1] (rest := []) X11 hx hrt hlk P13 (hb hby d20_46) e11 (by decide) (by decide) (show Q_compNL Z sa ks da kd c0 c1 h0 n0 _ _ _ from ⟨rfl, N11, K11, V_da⟩)
theorem ef_19 (m : MethodId) (x0 : Addr) : entryFrame m #[(.ref x0), (.int 0), (.int 2)] 6 = mkF m 0 #[.val (.ref x0), .val (.int 0), .val (.int 2), .unset, .unset, .unset] [] := by first | (simp [entryFrame, mkF, argsToLocals, Value.category]; done) | rfl
abbrev k21_ := jdk_52_method_16_code
theorem b70_ : dl k21_ 0 [(.iload_n 2, 1)] = true := by decide +kernel
theorem d21_1 : decode k21_ 1 = .ok (.newarray .byte, 2) := by decide +kernel
theorem b71_ : dl k21_ 3 [(.astore_n 3, 1), (.aload_n 0, 1), (.iload_n 1, 1), (.aload_n 3, 1), (.iconst 0, 1), (.iload_n 2, 1)] = true := by decide +kernel
theorem pd_13 : parseMethodDescriptor "([CI[BII)I" = some ⟨[(.array .char), .int, (.array .byte), .int, .int], some .int⟩ := by decide +kernel
theorem d21_9 : decode k21_ 9 = .ok (.invokestatic 115, 3) := by decide +kernel
theorem d21_17 : decode k21_ 17 = .ok (.if_icmp .eq 40, 3) := by decide +kernel
theorem b72_ : dl k21_ 12 [(.istore 4, 2), (.iload 4, 2), (.iload_n 2, 1)] = true := by decide +kernel
theorem b73_ : dl k21_ 57 [(.aload_n 3, 1)] = true := by decide +kernel
theorem d21_58 : decode k21_ 58 = .ok (.areturn, 1) := by decide +kernel
def Q_compBL (Z : State) (sa : Addr) (ks : ClassId) (c0 c1 : Int32) : QT := fun h0 n0 v h L => ∃ (t : Addr) (kb : ClassId), v = some (.ref t) ∧ Fr n0 L ∧ Keep h0 h [] ∧ (h0.size ≤ t) ∧ (Arv Z h t kb .byte 2 [(.int (nar .byte (c0.toInt8.toInt32))), (.int (nar .byte (c1.toInt8.toInt32)))] i0)
abbrev mn_21 : MethodName := ⟨"java/lang/StringUTF16", "compress", "([CII)[B"⟩
theorem rm_compBL (hw : HW a0 Z) (sa : Addr) (ks : ClassId) (c0 c1 : Int32) (Z0 : n0 ≤ h0.size) (V_sa : Arv Z h0 sa ks .char 2 [(.int c0), (.int c1)] i0) (Sa : SU1 Z) (Sh : SU2 Z) (Sl : SU3 Z) (OL : Old Z n0 h0) (l0 : ¬ (255 : Int32) < c0) (l1 : ¬ (255 : Int32) < c1) (ic0 : isC c0) (ic1 : isC c1) :
  MetP l Z mn_21 k21_ 6 (some (.array .byte)) (rr 1 1 2 18) ws #[(.ref sa), i0, (.int 2)] h0 (Q_compBL Z sa ks c0 c1 h0 n0) := by
 refine begH n0 "java/lang/StringUTF16" rfl (plainFor_of_name pn_0) fun p e s m below meth c s₁ s0 hrt hlk hZ hx hby hml hown hnm X0 e0 N0 P0 => ?_
 replace P0 : PP p e below s₁ (mkF m 0 #[rv sa, iv 0, iv 2, .unset, .unset, .unset] []) s0 := castPP (ef_19 m sa) P0
 have P1 := P0.bt X0 hx hby b70_ rfl
 obtain ⟨T2, h2, k2, X2, e2, E2, A2, st2⟩ := newP X0 hx hZ (ww hw 19 rfl) e0 (g := P1.g) rfl (hb hby d21_1) rfl (by decide) (cap := 2) (by decide) (by decide) (by decide) (by decide)
 obtain ⟨b2, g2⟩ : ∃ z, z = h0.size := ⟨_, rfl⟩
 rw [← g2] at A2 st2
 have P3 := P1.st st2
 have ne_sa_b2 := neL V_sa.lt (Nat.le_of_eq g2.symm)
 have sz_b2 : h0.size ≤ b2 := Nat.le_trans (Nat.le_refl h0.size) (Nat.le_of_eq g2.symm)
 replace V_sa := V_sa.ext E2
 have K2 := (Keep.refl h0 []).ext E2
 obtain ⟨Lf4, X2, N4⟩ := fixL X2 N0 1 2 rfl rfl
 have V_b2 : Arv Z h2 b2 k2 .byte 2 [i0, i0] i0 := (Arv.new A2 (by decide)).pad (pad_rep [] i0 2)
 have P5 : PP p e below T2 (mkF m 9 #[rv sa, iv 0, iv 2, rv b2, .unset, .unset] [(.int 2), i0, (.ref b2), i0, (.ref sa)]) s0 := fun q_ k_ => P3 q_ (by
  exact bt X2 hx hby b71_ rfl k_)
 obtain ⟨_, T6, L6, X6, hQ6, P6⟩ := cSt P5 X2 hx hZ hown hw e2 hml 20 21 17 22 (rm_compNL hw sa ks b2 k2 c0 c1 (zT Z0 K2.1) V_sa V_b2 (Nat.le_trans Z0 sz_b2) ne_sa_b2 l0 l1) rfl rfl rfl rfl rfl rfl [(.ref sa), i0, (.ref b2), i0, (.int 2)] [] 0 (lenOf pd_13 rfl) rfl (Nat.le_of_eq rfl) (hb hby d21_9) rfl (by decide)
 obtain ⟨rfl, N6q, Kc6, po6_0⟩ := hQ6
 have N6 := Fr.app N4 N6q
 obtain ⟨Lf7, X6, N7⟩ := fixL X6 N6 1 2 rfl rfl
 have K6 := Kt1 K2 Kc6 (Or.inr sz_b2)
 have V_b2 := po6_0
 have P8 : PP p e below T6 (mkF m 58 #[rv sa, iv 0, iv 2, rv b2, iv 2, .unset] [(.ref b2)]) s0 := fun q_ k_ => P6 q_ (by
  refine bt X6 hx hby b72_ rfl ?_
  refine XS.icmpYes X6.here hx rfl (pc0 := 17) (pc' := 57) rfl (hb hby d21_17) rfl (teq ((by decide) : (2 : Int32) = (2 : Int32))).1 (by decide) (by decide) ?_
  exact bt X6 hx hby b73_ rfl k_)
 exact endA 58 #[rv sa, iv 0, iv 2, rv b2, iv 2, .unset] (rest := []) X6 hx hrt rfl hlk P8 (hb hby d21_58) rfl (by decide) (by decide) (show Q_compBL Z sa ks c0 c1 h0 n0 _ _ _ from ⟨b2, k2, rfl, N7, K6, sz_b2, V_b2⟩)
theorem ef_20 (m : MethodId) (x0 : Addr) (x1 : Addr) : entryFrame m #[(.ref x0), (.ref x1), (.int 0), (.int 2), .null] 6 = mkF m 0 #[.val (.ref x0), .val (.ref x1), .val (.int 0), .val (.int 2), .val .null, .unset] [] := by first | (simp [entryFrame, mkF, argsToLocals, Value.category]; done) | rfl
abbrev k22_ := jdk_42_method_149_code
theorem b74_ : dl k22_ 0 [(.aload_n 0, 1)] = true := by decide +kernel
theorem d22_1 : decode k22_ 1 = .ok (.invokespecial 1, 3) := by decide +kernel
theorem d22_5 : decode k22_ 5 = .ok (.ifCond .ne 22, 3) := by decide +kernel
theorem b75_ : dl k22_ 4 [(.iload_n 3, 1)] = true := by decide +kernel
theorem d22_27 : decode k22_ 27 = .ok (.getstatic 38, 3) := by decide +kernel
theorem d22_30 : decode k22_ 30 = .ok (.ifCond .eq 28, 3) := by decide +kernel
theorem b76_ : dl k22_ 33 [(.aload_n 1, 1), (.iload_n 2, 1), (.iload_n 3, 1)] = true := by decide +kernel
theorem pd_14 : parseMethodDescriptor "([CII)[B" = some ⟨[(.array .char), .int, .int], some (.array .byte)⟩ := by decide +kernel
theorem d22_36 : decode k22_ 36 = .ok (.invokestatic 177, 3) := by decide +kernel
theorem b77_ : dl k22_ 39 [(.astore 5, 2), (.aload_n 0, 1), (.aload 5, 2), (.iload_n 3, 1)] = true := by decide +kernel
theorem pd_15 : parseMethodDescriptor "([BI)B" = some ⟨[(.array .byte), .int], some .byte⟩ := by decide +kernel
theorem d22_45 : decode k22_ 45 = .ok (.invokestatic 47, 3) := by decide +kernel
theorem d22_48 : decode k22_ 48 = .ok (.putfield 15, 3) := by decide +kernel
theorem b78_ : dl k22_ 51 [(.aload_n 0, 1), (.aload 5, 2)] = true := by decide +kernel
theorem d22_54 : decode k22_ 54 = .ok (.putfield 9, 3) := by decide +kernel
theorem d22_57 : decode k22_ 57 = .ok (.return_, 1) := by decide +kernel
def Q_init4L (Z : State) (xs sa : Addr) (ks : ClassId) (u1 u2 : Value) (G1 : Int32) (Gf : Value) (c0 c1 : Int32) : QT := fun h0 n0 v h L => ∃ (t : Addr) (kb : ClassId), v = none ∧ Fr n0 L ∧ Keep h0 h [xs] ∧ (h0.size ≤ t) ∧ (Exa Z h xs cS) ∧ (Fld Z h xs cS "value" "[B" (.ref t)) ∧ (Fld Z h xs cS "coder" "B" i0) ∧ (Arv Z h t kb .byte 2 [(.int (nar .byte (c0.toInt8.toInt32))), (.int (nar .byte (c1.toInt8.toInt32)))] i0)
abbrev mn_22 : MethodName := ⟨"java/lang/String", "<init>", "([CIILjava/lang/Void;)V"⟩
theorem rm_init4L (hw : HW a0 Z) (xs sa : Addr) (ks : ClassId) (u1 u2 : Value) (G1 : Int32) (Gf : Value) (c0 c1 : Int32) (Z0 : n0 ≤ h0.size) (E_xs : Exa Z h0 xs cS) (Fv_xs : Fld Z h0 xs cS "value" "[B" u1) (Fc_xs : Fld Z h0 xs cS "coder" "B" u2) (g_xs : n0 ≤ xs) (V_sa : Arv Z h0 sa ks .char 2 [(.int c0), (.int c1)] i0) (ne_xs_sa : xs ≠ sa) (Sc : SU4 Z G1) (hz : ¬ G1 = 0) (Sa : SU1 Z) (Sh : SU2 Z) (Sl : SU3 Z) (OL : Old Z n0 h0) (l0 : ¬ (255 : Int32) < c0) (l1 : ¬ (255 : Int32) < c1) (ic0 : isC c0) (ic1 : isC c1) :
  MetP l Z mn_22 k22_ 6 none (rr 2 1 2 35) ws #[(.ref xs), (.ref sa), i0, (.int 2), .null] h0 (Q_init4L Z xs sa ks u1 u2 G1 Gf c0 c1 h0 n0) := by
 refine begH n0 cS rfl (plainFor_of_name pn_2) fun p e s m below meth c s₁ s0 hrt hlk hZ hx hby hml hown hnm X0 e0 N0 P0 => ?_
 replace P0 : PP p e below s₁ (mkF m 0 #[rv xs, rv sa, iv 0, iv 2, .val .null, .unset] []) s0 := castPP (ef_20 m xs sa) P0
 have P1 := P0.bt X0 hx hby b74_ rfl
 obtain ⟨T2, X2, e2, st2⟩ := initO X0 hx hZ hown (ww hw 11 rfl) (ww hw 12 rfl) (ww hw 13 rfl) e0 (g := P1.g) rfl (by rw [hml]; rfl) rfl (hb hby d22_1) (by decide) (W := 0) (by show 2 * 0 + _ ≤ _; exact Nat.le_of_eq rfl) (by decide)
 have P3 := P1.st st2
 have P4 : PP p e below T2 (mkF m 27 #[rv xs, rv sa, iv 0, iv 2, .val .null, .unset] []) s0 := fun q_ k_ => P3 q_ (by
  refine bt X2 hx hby b75_ rfl ?_
  exact XS.ifYes X2.here hx rfl (pc0 := 5) (pc' := 27) rfl (hb hby d22_5) rfl ((if0 _ _).trans (feq ((by decide) : ¬ ((2 : Int32) = (0 : Int32)))).2) (by decide) (by decide) k_)
 obtain ⟨T5, X5, e5, P5⟩ := gS P4 X2 hx hZ hown hw 14 e2 (Sc.ext OL.2) (hb hby d22_27)
 have P6 : PP p e below T5 (mkF m 36 #[rv xs, rv sa, iv 0, iv 2, .val .null, .unset] [(.int 2), i0, (.ref sa)]) s0 := fun q_ k_ => P5 q_ (by
  refine XS.ifNo X5.here hx rfl (hb hby d22_30) rfl ((if0 _ _).trans (feq (hz : ¬ (G1 = (0 : Int32)))).1) ?_
  exact bt X5 hx hby b76_ rfl k_)
 obtain ⟨_, T7, L7, X7, hQ7, P7⟩ := cSt P6 X5 hx hZ hown hw e5 hml 15 16 17 18 (rm_compBL hw sa ks c0 c1 Z0 V_sa Sa Sh Sl OL l0 l1 ic0 ic1) rfl rfl rfl rfl rfl rfl [(.ref sa), i0, (.int 2)] [] 0 (lenOf pd_14 rfl) rfl (Nat.le_of_eq rfl) (hb hby d22_36) rfl (by decide)
 obtain ⟨t_7, kb_7, rfl, N7q, Kc7, po7_0, po7_1⟩ := hQ7
 have N7 := Fr.app N0 N7q
 obtain ⟨Lf8, X7, N8⟩ := fixL X7 N7 1 2 rfl rfl
 have ne_xs_t_7 := neL E_xs.lt po7_0
 have sz_t_7 : h0.size ≤ t_7 := Nat.le_trans (Nat.le_refl h0.size) po7_0
 replace E_xs := E_xs.keep Kc7
 replace Fv_xs := Fv_xs.keep Kc7 nin0
 replace Fc_xs := Fc_xs.keep Kc7 nin0
 have K7 := (Keep.refl h0 [xs]).trans Kc7 all0
 have V_t_7 := po7_1
 have P9 := P7.bt X7 hx hby b77_ rfl
 obtain ⟨_, T10, L10, X10, hQ10, P10⟩ := cSt P9 X7 hx hZ hown hw rfl hml 23 24 17 25 (rm_cfl0 hw t_7 kb_7 ([(.int (nar .byte (c0.toInt8.toInt32))), (.int (nar .byte (c1.toInt8.toInt32)))] : List Value) (zT Z0 K7.1) V_t_7) rfl rfl rfl rfl rfl rfl [(.ref t_7), (.int 2)] [(.ref xs)] 1 (lenOf pd_15 rfl) rfl (Nat.le_of_eq rfl) (hb hby d22_45) rfl (by decide)
 obtain ⟨rfl, N10q, e10⟩ := hQ10
 have N10 := Fr.app N8 N10q
 obtain ⟨T11, h11, X11, e11, W11, st11⟩ := putFN X10 hx hZ hown (ww hw 26 rfl) Via.refl e10 Fc_xs E_xs (Or.inr ⟨(ww hw 27 rfl), rfl, hnm⟩) (ww hw 1 rfl) (ty := .byte) (v' := i0) (by decide) rfl (rfl) (g := P10.g) rfl rfl (hb hby d22_48)
 have P12 := P10.st st11
 have N11 := Fr.snoc X11 N10 g_xs
 have K11 := K7.wr W11 (Or.inl (mi 0))
 replace E_xs := E_xs.wr W11
 replace Fv_xs := Fv_xs.other W11 (Or.inr (slot_ne (Or.inr (ww hw 29 rfl)) (Or.inr (ww hw 27 rfl)) (by decide) (t := (.array .byte)) (t' := .byte) (by decide) (by decide)))
 replace Fc_xs : Fld Z h11 xs cS "coder" "B" i0 := Fc_xs.same W11
 replace V_t_7 := V_t_7.other W11 (Ne.symm ne_xs_t_7)
 have P13 : PP p e below T11 (mkF m 54 #[rv xs, rv sa, iv 0, iv 2, .val .null, rv t_7] [(.ref t_7), (.ref xs)]) s0 := fun q_ k_ => P12 q_ (by
  exact bt X11 hx hby b78_ rfl k_)
 obtain ⟨T14, h14, X14, e14, W14, st14⟩ := putF X11 hx hZ hown (host := "") (Or.inl (ww hw 28 rfl)) Via.refl e11 Fv_xs E_xs (Or.inr ⟨(ww hw 29 rfl), rfl, hnm⟩) (ww hw 1 rfl) (ty := (.array .byte)) (by decide) rfl rfl (g := P13.g) rfl rfl (hb hby d22_54)
 have P15 := P13.st st14
 have N14 := Fr.snoc X14 N11 g_xs
 have K14 := K11.wr W14 (Or.inl (mi 0))
 replace E_xs := E_xs.wr W14
 replace Fv_xs : Fld Z h14 xs cS "value" "[B" (.ref t_7) := Fv_xs.same W14
 replace Fc_xs := Fc_xs.other W14 (Or.inr (slot_ne (Or.inr (ww hw 27 rfl)) (Or.inr (ww hw 29 rfl)) (by decide) (t := .byte) (t' := (.array .byte)) (by decide) (by decide)))
 replace V_t_7 := V_t_7.other W14 (Ne.symm ne_xs_t_7)
 exact endV 57 #[rv xs, rv sa, iv 0, iv 2, .val .null, rv t_7] X14 hx hrt hlk P15 (hb hby d22_57) e14 (by decide) (by decide) (show Q_init4L Z xs sa ks u1 u2 G1 Gf c0 c1 h0 n0 _ _ _ from ⟨t_7, kb_7, rfl, N14, K14, sz_t_7, E_xs, Fv_xs, Fc_xs, V_t_7⟩)
theorem b79_ : dl k20_ 23 [(.iload 5, 2)] = true := by decide +kernel
theorem d20_25 : decode k20_ 25 = .ok (.ireturn, 1) := by decide +kernel
def Q_compNW (Z : State) (sa : Addr) (ks : ClassId) (da : Addr) (kd : ClassId) (c0 c1 : Int32) : QT := fun h0 n0 v h L => ∃ (r : Int32), v = some (.int r) ∧ Fr n0 L ∧ Keep h0 h [da] ∧ ((r = 0 ∧ (255 : Int32) < c0) ∨ (r = 1 ∧ (255 : Int32) < c1))
theorem rm_compNW (hw : HW a0 Z) (sa : Addr) (ks : ClassId) (da : Addr) (kd : ClassId) (c0 c1 : Int32) (Z0 : n0 ≤ h0.size) (V_sa : Arv Z h0 sa ks .char 2 [(.int c0), (.int c1)] i0) (V_da : Arv Z h0 da kd .byte 2 [i0, i0] i0) (g_da : n0 ≤ da) (ne_sa_da : sa ≠ da) (hwd : (255 : Int32) < c0 ∨ (255 : Int32) < c1) :
  MetP l Z mn_20 k20_ 7 (some .int) (rr 0 0 0 0) ws #[(.ref sa), i0, (.ref da), i0, (.int 2)] h0 (Q_compNW Z sa ks da kd c0 c1 h0 n0) := by
 refine begH n0 "java/lang/StringUTF16" rfl (plainFor_of_name pn_0) fun p e s m below meth c s₁ s0 hrt hlk hZ hx hby hml hown hnm X0 e0 N0 P0 => ?_
 replace P0 : PP p e below s₁ (mkF m 0 #[rv sa, iv 0, rv da, iv 0, iv 2, .unset, .unset] []) s0 := castPP (ef_18 m sa da) P0
 have P1 : PP p e below s₁ (mkF m 12 #[rv sa, iv 0, rv da, iv 0, iv 2, iv 0, .unset] [i0, (.ref sa)]) s0 := fun q_ k_ => P0 q_ (by
  refine bt X0 hx hby b63_ rfl ?_
  refine XS.icmpNo X0.here hx rfl (hb hby d20_7) rfl (tlt ((by decide) : (0 : Int32) < (2 : Int32))).2.1 ?_
  exact bt X0 hx hby b64_ rfl k_)
 obtain ⟨cl2, Ar2, q2, S2, M2, Hs2, G2⟩ := id V_sa
 have hin2 := inb_of (j := (0 : Int32)) S2 ⟨by decide, by decide⟩
 have hat2 : cl2.slots[((0 : Int32)).toNatClampNeg]? = some (.int c0) := Has.at Hs2 hin2 (rfl)
 have P3 : PP p e below s₁ (mkF m 13 #[rv sa, iv 0, rv da, iv 0, iv 2, iv 0, .unset] [(.int c0)]) s0 := fun q_ k_ => P1 q_ (by
  exact X0.caload hx (j := (0 : Int32)) (v := (.int c0)) (by rw [e0]; exact Ar2.1) (State.isArrayOf_alike hZ.alike Ar2.2.1) Ar2.2.2 hin2 hat2 (g := P1.g) rfl rfl (hb hby d20_12) _ k_)
 have P4 := P3.bt X0 hx hby b65_ rfl
 by_cases hc20_5 : (255 : Int32) < c0
 ·
  have P6 : PP p e below s₁ (mkF m 25 #[rv sa, iv 0, rv da, iv 0, iv 2, iv 0, iv c0] [i0]) s0 := fun q_ k_ => P4 q_ (by
   refine XS.icmpNo X0.here hx rfl (hb hby d20_20) rfl (tlt (hc20_5 : (255 : Int32) < c0)).2.2.2 ?_
   exact bt X0 hx hby b79_ rfl k_)
  exact endI 25 #[rv sa, iv 0, rv da, iv 0, iv 2, iv 0, iv c0] (rest := []) X0 hx hrt hlk P6 (hb hby d20_25) e0 (by decide) (by decide) (show Q_compNW Z sa ks da kd c0 c1 h0 n0 _ _ _ from ⟨(0 : Int32), rfl, N0, (Keep.refl h0 [da]), Or.inl ⟨rfl, hc20_5⟩⟩)
 ·
  have P7 : PP p e below s₁ (mkF m 31 #[rv sa, iv 0, rv da, iv 0, iv 2, iv 0, iv c0] [(.int (c0.toInt8.toInt32)), i0, (.ref da)]) s0 := fun q_ k_ => P4 q_ (by
   refine XS.icmpYes X0.here hx rfl (pc0 := 20) (pc' := 26) rfl (hb hby d20_20) rfl (flt (hc20_5 : ¬ ((255 : Int32) < c0))).2.2.2 (by decide) (by decide) ?_
   exact bt X0 hx hby b66_ rfl k_)
  obtain ⟨cl8, Ar8, q8, S8, M8, Hs8, G8⟩ := V_da
  obtain ⟨T8, h8, X8, e8, W8, st8⟩ := stB X0 hx hZ e0 Ar8 (j := (0 : Int32)) (inb_of S8 ⟨by decide, by decide⟩) (g := P7.g) rfl rfl (hb hby d20_31)
  have P9 := P7.st st8
  have N8 := Fr.snoc X8 N0 g_da
  have K8 := (Keep.refl h0 [da]).wr W8 (Or.inl (mi 0))
  replace V_sa := V_sa.other W8 ne_sa_da
  have P10 : PP p e below T8 (mkF m 12 #[rv sa, iv 1, rv da, iv 1, iv 2, iv 1, iv c0] [(.int 1), (.ref sa)]) s0 := fun q_ k_ => P9 q_ (by
   refine bt X8 hx hby b67_ rfl ?_
   refine bt X8 hx hby b68_ rfl ?_
   refine XS.icmpNo X8.here hx rfl (hb hby d20_7) rfl (tlt ((by decide) : (1 : Int32) < (2 : Int32))).2.1 ?_
   exact bt X8 hx hby b64_ rfl k_)
  obtain ⟨cl11, Ar11, q11, S11, M11, Hs11, G11⟩ := id V_sa
  have hin11 := inb_of (j := (1 : Int32)) S11 ⟨by decide, by decide⟩
  have hat11 : cl11.slots[((1 : Int32)).toNatClampNeg]? = some (.int c1) := Has.at Hs11 hin11 (rfl)
  have P12 : PP p e below T8 (mkF m 13 #[rv sa, iv 1, rv da, iv 1, iv 2, iv 1, iv c0] [(.int c1)]) s0 := fun q_ k_ => P10 q_ (by
   exact X8.caload hx (j := (1 : Int32)) (v := (.int c1)) (by rw [e8]; exact Ar11.1) (State.isArrayOf_alike hZ.alike Ar11.2.1) Ar11.2.2 hin11 hat11 (g := P10.g) rfl rfl (hb hby d20_12) _ k_)
  have P13 : PP p e below T8 (mkF m 25 #[rv sa, iv 1, rv da, iv 1, iv 2, iv 1, iv c1] [(.int 1)]) s0 := fun q_ k_ => P12 q_ (by
   refine bt X8 hx hby b65_ rfl ?_
   refine XS.icmpNo X8.here hx rfl (hb hby d20_20) rfl (tlt ((hwd.resolve_left hc20_5) : (255 : Int32) < c1)).2.2.2 ?_
   exact bt X8 hx hby b79_ rfl k_)
  exact endI 25 #[rv sa, iv 1, rv da, iv 1, iv 2, iv 1, iv c1] (rest := []) X8 hx hrt hlk P13 (hb hby d20_25) e8 (by decide) (by decide) (show Q_compNW Z sa ks da kd c0 c1 h0 n0 _ _ _ from ⟨(1 : Int32), rfl, N8, K8, Or.inr ⟨rfl, hwd.resolve_left hc20_5⟩⟩)
theorem b80_ : dl k21_ 20 [(.aload_n 0, 1), (.iload_n 1, 1), (.iload_n 2, 1)] = true := by decide +kernel
theorem d21_23 : decode k21_ 23 = .ok (.invokestatic 119, 3) := by decide +kernel
theorem b81_ : dl k21_ 26 [(.astore 5, 2), (.aload 5, 2)] = true := by decide +kernel
theorem b82_ : dl k21_ 30 [(.iload 4, 2)] = true := by decide +kernel
theorem pd_16 : parseMethodDescriptor "([BI)C" = some ⟨[(.array .byte), .int], some .char⟩ := by decide +kernel
theorem d21_32 : decode k21_ 32 = .ok (.invokestatic 71, 3) := by decide +kernel
theorem d21_38 : decode k21_ 38 = .ok (.if_icmp .gt 16, 3) := by decide +kernel
theorem b83_ : dl k21_ 35 [(.sipush 255, 3)] = true := by decide +kernel
theorem b84_ : dl k21_ 54 [(.aload 5, 2)] = true := by decide +kernel
theorem d21_56 : decode k21_ 56 = .ok (.areturn, 1) := by decide +kernel
theorem rm_compBW (hw : HW a0 Z) (sa : Addr) (ks : ClassId) (c0 c1 : Int32) (Z0 : n0 ≤ h0.size) (V_sa : Arv Z h0 sa ks .char 2 [(.int c0), (.int c1)] i0) (Sa : SU1 Z) (Sh : SU2 Z) (Sl : SU3 Z) (OL : Old Z n0 h0) (hwd : (255 : Int32) < c0 ∨ (255 : Int32) < c1) (ic0 : isC c0) (ic1 : isC c1) :
  MetP l Z mn_21 k21_ 6 (some (.array .byte)) (rr 3 2 6 40) ws #[(.ref sa), i0, (.int 2)] h0 (Q_toB2 Z sa ks c0 c1 h0 n0) := by
 refine begH n0 "java/lang/StringUTF16" rfl (plainFor_of_name pn_0) fun p e s m below meth c s₁ s0 hrt hlk hZ hx hby hml hown hnm X0 e0 N0 P0 => ?_
 replace P0 : PP p e below s₁ (mkF m 0 #[rv sa, iv 0, iv 2, .unset, .unset, .unset] []) s0 := castPP (ef_19 m sa) P0
 have P1 := P0.bt X0 hx hby b70_ rfl
 obtain ⟨T2, h2, k2, X2, e2, E2, A2, st2⟩ := newP X0 hx hZ (ww hw 19 rfl) e0 (g := P1.g) rfl (hb hby d21_1) rfl (by decide) (cap := 2) (by decide) (by decide) (by decide) (by decide)
 obtain ⟨b2, g2⟩ : ∃ z, z = h0.size := ⟨_, rfl⟩
 rw [← g2] at A2 st2
 have P3 := P1.st st2
 have ne_sa_b2 := neL V_sa.lt (Nat.le_of_eq g2.symm)
 have sz_b2 : h0.size ≤ b2 := Nat.le_trans (Nat.le_refl h0.size) (Nat.le_of_eq g2.symm)
 replace V_sa := V_sa.ext E2
 replace OL := OL.ext E2
 have K2 := (Keep.refl h0 []).ext E2
 obtain ⟨Lf4, X2, N4⟩ := fixL X2 N0 1 2 rfl rfl
 have V_b2 : Arv Z h2 b2 k2 .byte 2 [i0, i0] i0 := (Arv.new A2 (by decide)).pad (pad_rep [] i0 2)
 have P5 : PP p e below T2 (mkF m 9 #[rv sa, iv 0, iv 2, rv b2, .unset, .unset] [(.int 2), i0, (.ref b2), i0, (.ref sa)]) s0 := fun q_ k_ => P3 q_ (by
  exact bt X2 hx hby b71_ rfl k_)
 obtain ⟨_, T6, L6, X6, hQ6, P6⟩ := cSt P5 X2 hx hZ hown hw e2 hml 20 21 17 22 (rm_compNW hw sa ks b2 k2 c0 c1 (zT Z0 K2.1) V_sa V_b2 (Nat.le_trans Z0 sz_b2) ne_sa_b2 hwd) rfl rfl rfl rfl rfl rfl [(.ref sa), i0, (.ref b2), i0, (.int 2)] [] 0 (lenOf pd_13 rfl) rfl (Nat.le_of_eq rfl) (hb hby d21_9) rfl (by decide)
 obtain ⟨r_6, rfl, N6q, Kc6, po6_0⟩ := hQ6
 have N6 := Fr.app N4 N6q
 obtain ⟨Lf7, X6, N7⟩ := fixL X6 N6 1 2 rfl rfl
 replace V_sa := V_sa.keep Kc6 (ninS ne_sa_b2 nin0)
 replace OL := OL.keep Kc6 (allS (Nat.le_trans Z0 sz_b2) all0)
 have K6 := Kt1 K2 Kc6 (Or.inr sz_b2)
 have res_6 := po6_0
 have P8 : PP p e below T6 (mkF m 23 #[rv sa, iv 0, iv 2, rv b2, iv r_6, .unset] [(.int 2), i0, (.ref sa)]) s0 := fun q_ k_ => P6 q_ (by
  refine bt X6 hx hby b72_ rfl ?_
  refine XS.icmpNo X6.here hx rfl (hb hby d21_17) rfl (feq ((by rcases res_6 with hq | hq <;> rw [hq.1] <;> decide) : ¬ (r_6 = (2 : Int32)))).1 ?_
  exact bt X6 hx hby b80_ rfl k_)
 obtain ⟨_, T9, L9, X9, hQ9, P9⟩ := cSt P8 X6 hx hZ hown hw rfl hml 492 493 17 494 (rm_toB2 hw sa ks c0 c1 (zT Z0 K6.1) V_sa Sa Sh Sl OL) rfl rfl rfl rfl rfl rfl [(.ref sa), i0, (.int 2)] [] 0 (lenOf pd_14 rfl) rfl (Nat.le_of_eq rfl) (hb hby d21_23) rfl (by decide)
 obtain ⟨t_9, kb_9, rfl, N9q, Kc9, po9_0, po9_1⟩ := hQ9
 have N9 := Fr.app N7 N9q
 obtain ⟨Lf10, X9, N10⟩ := fixL X9 N9 2 6 rfl rfl
 have sz_t_9 : h0.size ≤ t_9 := Nat.le_trans K6.1 po9_0
 replace OL := OL.keep Kc9 all0
 have K9 := K6.trans Kc9 all0
 have V_t_9 := po9_1
 have P11 := P9.bt X9 hx hby b81_ rfl
 rcases res_6 with hcase | hcase
 ·
  obtain ⟨rfl, hgt⟩ := hcase
  have P12 : PP p e below T9 (mkF m 32 #[rv sa, iv 0, iv 2, rv b2, iv 0, rv t_9] [i0, (.ref t_9)]) s0 := fun q_ k_ => P11 q_ (by
   exact bt X9 hx hby b82_ rfl k_)
  obtain ⟨_, T13, L13, X13, hQ13, P13⟩ := cSt P12 X9 hx hZ hown hw rfl hml 488 489 17 490 (rm_get hw t_9 kb_9 4 ([c0, c1] : List Int32) 0 c0 (zT Z0 K9.1) V_t_9 Sa Sh Sl OL rfl ic0 (Nat.le_of_ble_eq_true rfl) (by decide)) rfl rfl rfl rfl rfl rfl [(.ref t_9), i0] [] 0 (lenOf pd_16 rfl) rfl (Nat.le_of_eq rfl) (hb hby d21_32) rfl (by decide)
  obtain ⟨rfl, N13q, e13⟩ := hQ13
  have N13 := Fr.app N10 N13q
  have P14 : PP p e below T13 (mkF m 56 #[rv sa, iv 0, iv 2, rv b2, iv 0, rv t_9] [(.ref t_9)]) s0 := fun q_ k_ => P13 q_ (by
   refine bt X13 hx hby b83_ rfl ?_
   refine XS.icmpYes X13.here hx rfl (pc0 := 38) (pc' := 54) rfl (hb hby d21_38) rfl (tlt (hgt : (255 : Int32) < c0)).2.2.1 (by decide) (by decide) ?_
   exact bt X13 hx hby b84_ rfl k_)
  exact endA 56 #[rv sa, iv 0, iv 2, rv b2, iv 0, rv t_9] (rest := []) X13 hx hrt rfl hlk P14 (hb hby d21_56) e13 (by decide) (by decide) (show Q_toB2 Z sa ks c0 c1 h0 n0 _ _ _ from ⟨t_9, kb_9, rfl, N13, K9, sz_t_9, V_t_9⟩)
 ·
  obtain ⟨rfl, hgt⟩ := hcase
  have P15 : PP p e below T9 (mkF m 32 #[rv sa, iv 0, iv 2, rv b2, iv 1, rv t_9] [(.int 1), (.ref t_9)]) s0 := fun q_ k_ => P11 q_ (by
   exact bt X9 hx hby b82_ rfl k_)
  obtain ⟨_, T16, L16, X16, hQ16, P16⟩ := cSt P15 X9 hx hZ hown hw rfl hml 488 489 17 490 (rm_get hw t_9 kb_9 4 ([c0, c1] : List Int32) 1 c1 (zT Z0 K9.1) V_t_9 Sa Sh Sl OL rfl ic1 (Nat.le_of_ble_eq_true rfl) (by decide)) rfl rfl rfl rfl rfl rfl [(.ref t_9), (.int 1)] [] 0 (lenOf pd_16 rfl) rfl (Nat.le_of_eq rfl) (hb hby d21_32) rfl (by decide)
  obtain ⟨rfl, N16q, e16⟩ := hQ16
  have N16 := Fr.app N10 N16q
  have P17 : PP p e below T16 (mkF m 56 #[rv sa, iv 0, iv 2, rv b2, iv 1, rv t_9] [(.ref t_9)]) s0 := fun q_ k_ => P16 q_ (by
   refine bt X16 hx hby b83_ rfl ?_
   refine XS.icmpYes X16.here hx rfl (pc0 := 38) (pc' := 54) rfl (hb hby d21_38) rfl (tlt (hgt : (255 : Int32) < c1)).2.2.1 (by decide) (by decide) ?_
   exact bt X16 hx hby b84_ rfl k_)
  exact endA 56 #[rv sa, iv 0, iv 2, rv b2, iv 1, rv t_9] (rest := []) X16 hx hrt rfl hlk P17 (hb hby d21_56) e16 (by decide) (by decide) (show Q_toB2 Z sa ks c0 c1 h0 n0 _ _ _ from ⟨t_9, kb_9, rfl, N16, K9, sz_t_9, V_t_9⟩)
def Q_init4W (Z : State) (xs sa : Addr) (ks : ClassId) (u1 u2 : Value) (G1 : Int32) (Gf : Value) (c0 c1 : Int32) : QT := fun h0 n0 v h L => ∃ (t : Addr) (kb : ClassId), v = none ∧ Fr n0 L ∧ Keep h0 h [xs] ∧ (h0.size ≤ t) ∧ (Exa Z h xs cS) ∧ (Fld Z h xs cS "value" "[B" (.ref t)) ∧ (Fld Z h xs cS "coder" "B" (.int 1)) ∧ (Arv Z h t kb .byte 4 (wid [c0, c1]) i0)
theorem rm_init4W (hw : HW a0 Z) (xs sa : Addr) (ks : ClassId) (u1 u2 : Value) (G1 : Int32) (Gf : Value) (c0 c1 : Int32) (Z0 : n0 ≤ h0.size) (E_xs : Exa Z h0 xs cS) (Fv_xs : Fld Z h0 xs cS "value" "[B" u1) (Fc_xs : Fld Z h0 xs cS "coder" "B" u2) (g_xs : n0 ≤ xs) (V_sa : Arv Z h0 sa ks .char 2 [(.int c0), (.int c1)] i0) (ne_xs_sa : xs ≠ sa) (Sc : SU4 Z G1) (hz : ¬ G1 = 0) (Sa : SU1 Z) (Sh : SU2 Z) (Sl : SU3 Z) (OL : Old Z n0 h0) (hwd : (255 : Int32) < c0 ∨ (255 : Int32) < c1) (ic0 : isC c0) (ic1 : isC c1) :
  MetP l Z mn_22 k22_ 6 none (rr 4 2 6 57) ws #[(.ref xs), (.ref sa), i0, (.int 2), .null] h0 (Q_init4W Z xs sa ks u1 u2 G1 Gf c0 c1 h0 n0) := by
 refine begH n0 cS rfl (plainFor_of_name pn_2) fun p e s m below meth c s₁ s0 hrt hlk hZ hx hby hml hown hnm X0 e0 N0 P0 => ?_
 replace P0 : PP p e below s₁ (mkF m 0 #[rv xs, rv sa, iv 0, iv 2, .val .null, .unset] []) s0 := castPP (ef_20 m xs sa) P0
 have P1 := P0.bt X0 hx hby b74_ rfl
 obtain ⟨T2, X2, e2, st2⟩ := initO X0 hx hZ hown (ww hw 11 rfl) (ww hw 12 rfl) (ww hw 13 rfl) e0 (g := P1.g) rfl (by rw [hml]; rfl) rfl (hb hby d22_1) (by decide) (W := 0) (by show 2 * 0 + _ ≤ _; exact Nat.le_of_eq rfl) (by decide)
 have P3 := P1.st st2
 have P4 : PP p e below T2 (mkF m 27 #[rv xs, rv sa, iv 0, iv 2, .val .null, .unset] []) s0 := fun q_ k_ => P3 q_ (by
  refine bt X2 hx hby b75_ rfl ?_
  exact XS.ifYes X2.here hx rfl (pc0 := 5) (pc' := 27) rfl (hb hby d22_5) rfl ((if0 _ _).trans (feq ((by decide) : ¬ ((2 : Int32) = (0 : Int32)))).2) (by decide) (by decide) k_)
 obtain ⟨T5, X5, e5, P5⟩ := gS P4 X2 hx hZ hown hw 14 e2 (Sc.ext OL.2) (hb hby d22_27)
 have P6 : PP p e below T5 (mkF m 36 #[rv xs, rv sa, iv 0, iv 2, .val .null, .unset] [(.int 2), i0, (.ref sa)]) s0 := fun q_ k_ => P5 q_ (by
  refine XS.ifNo X5.here hx rfl (hb hby d22_30) rfl ((if0 _ _).trans (feq (hz : ¬ (G1 = (0 : Int32)))).1) ?_
  exact bt X5 hx hby b76_ rfl k_)
 obtain ⟨_, T7, L7, X7, hQ7, P7⟩ := cSt P6 X5 hx hZ hown hw e5 hml 15 16 17 18 (rm_compBW hw sa ks c0 c1 Z0 V_sa Sa Sh Sl OL hwd ic0 ic1) rfl rfl rfl rfl rfl rfl [(.ref sa), i0, (.int 2)] [] 0 (lenOf pd_14 rfl) rfl (Nat.le_of_eq rfl) (hb hby d22_36) rfl (by decide)
 obtain ⟨t_7, kb_7, rfl, N7q, Kc7, po7_0, po7_1⟩ := hQ7
 have N7 := Fr.app N0 N7q
 obtain ⟨Lf8, X7, N8⟩ := fixL X7 N7 2 6 rfl rfl
 have ne_xs_t_7 := neL E_xs.lt po7_0
 have sz_t_7 : h0.size ≤ t_7 := Nat.le_trans (Nat.le_refl h0.size) po7_0
 replace E_xs := E_xs.keep Kc7
 replace Fv_xs := Fv_xs.keep Kc7 nin0
 replace Fc_xs := Fc_xs.keep Kc7 nin0
 have K7 := (Keep.refl h0 [xs]).trans Kc7 all0
 have V_t_7 := po7_1
 have P9 := P7.bt X7 hx hby b77_ rfl
 obtain ⟨_, T10, L10, X10, hQ10, P10⟩ := cSt P9 X7 hx hZ hown hw rfl hml 23 24 17 25 (rm_cfl1 hw t_7 kb_7 (wid [c0, c1]) (zT Z0 K7.1) V_t_7) rfl rfl rfl rfl rfl rfl [(.ref t_7), (.int 2)] [(.ref xs)] 1 (lenOf pd_15 rfl) rfl (Nat.le_of_eq rfl) (hb hby d22_45) rfl (by decide)
 obtain ⟨rfl, N10q, e10⟩ := hQ10
 have N10 := Fr.app N8 N10q
 obtain ⟨T11, h11, X11, e11, W11, st11⟩ := putFN X10 hx hZ hown (ww hw 26 rfl) Via.refl e10 Fc_xs E_xs (Or.inr ⟨(ww hw 27 rfl), rfl, hnm⟩) (ww hw 1 rfl) (ty := .byte) (v' := (.int 1)) (by decide) rfl (rfl) (g := P10.g) rfl rfl (hb hby d22_48)
 have P12 := P10.st st11
 have N11 := Fr.snoc X11 N10 g_xs
 have K11 := K7.wr W11 (Or.inl (mi 0))
 replace E_xs := E_xs.wr W11
 replace Fv_xs := Fv_xs.other W11 (Or.inr (slot_ne (Or.inr (ww hw 29 rfl)) (Or.inr (ww hw 27 rfl)) (by decide) (t := (.array .byte)) (t' := .byte) (by decide) (by decide)))
 replace Fc_xs : Fld Z h11 xs cS "coder" "B" (.int 1) := Fc_xs.same W11
 replace V_t_7 := V_t_7.other W11 (Ne.symm ne_xs_t_7)
 have P13 : PP p e below T11 (mkF m 54 #[rv xs, rv sa, iv 0, iv 2, .val .null, rv t_7] [(.ref t_7), (.ref xs)]) s0 := fun q_ k_ => P12 q_ (by
  exact bt X11 hx hby b78_ rfl k_)
 obtain ⟨T14, h14, X14, e14, W14, st14⟩ := putF X11 hx hZ hown (host := "") (Or.inl (ww hw 28 rfl)) Via.refl e11 Fv_xs E_xs (Or.inr ⟨(ww hw 29 rfl), rfl, hnm⟩) (ww hw 1 rfl) (ty := (.array .byte)) (by decide) rfl rfl (g := P13.g) rfl rfl (hb hby d22_54)
 have P15 := P13.st st14
 have N14 := Fr.snoc X14 N11 g_xs
 have K14 := K11.wr W14 (Or.inl (mi 0))
 replace E_xs := E_xs.wr W14
 replace Fv_xs : Fld Z h14 xs cS "value" "[B" (.ref t_7) := Fv_xs.same W14
 replace Fc_xs := Fc_xs.other W14 (Or.inr (slot_ne (Or.inr (ww hw 27 rfl)) (Or.inr (ww hw 29 rfl)) (by decide) (t := .byte) (t' := (.array .byte)) (by decide) (by decide)))
 replace V_t_7 := V_t_7.other W14 (Ne.symm ne_xs_t_7)
 exact endV 57 #[rv xs, rv sa, iv 0, iv 2, .val .null, rv t_7] X14 hx hrt hlk P15 (hb hby d22_57) e14 (by decide) (by decide) (show Q_init4W Z xs sa ks u1 u2 G1 Gf c0 c1 h0 n0 _ _ _ from ⟨t_7, kb_7, rfl, N14, K14, sz_t_7, E_xs, Fv_xs, Fc_xs, V_t_7⟩)
theorem ef_21 (m : MethodId) (x0 : Addr) (x1 : Addr) : entryFrame m #[(.ref x0), (.ref x1)] 2 = mkF m 0 #[.val (.ref x0), .val (.ref x1)] [] := by first | (simp [entryFrame, mkF, argsToLocals, Value.category]; done) | rfl
abbrev k23_ := jdk_42_method_3_code
theorem b85_ : dl k23_ 0 [(.aload_n 0, 1), (.aload_n 1, 1), (.iconst 0, 1), (.aload_n 1, 1)] = true := by decide +kernel
theorem d23_4 : decode k23_ 4 = .ok (.arraylength, 1) := by decide +kernel
theorem b86_ : dl k23_ 5 [(.aconst_null, 1)] = true := by decide +kernel
theorem pd_17 : parseMethodDescriptor "([CIILjava/lang/Void;)V" = some ⟨[(.array .char), .int, .int, (.object "java/lang/Void")], none⟩ := by decide +kernel
theorem d23_6 : decode k23_ 6 = .ok (.invokespecial 27, 3) := by decide +kernel
theorem d23_9 : decode k23_ 9 = .ok (.return_, 1) := by decide +kernel
def Q_init1 (Z : State) (xs sa : Addr) (ks : ClassId) (u1 u2 : Value) (G1 : Int32) (Gf : Value) (c0 c1 : Int32) : QT := fun h0 n0 v h L => ∃ (ts : Addr) (ks : ClassId) (ce : Int32) (ze : Int32) (wv : List Value), v = none ∧ Fr n0 L ∧ Keep h0 h [xs] ∧ (h0.size ≤ ts) ∧ (Exa Z h xs cS) ∧ (Fld Z h xs cS "value" "[B" (.ref ts)) ∧ (Fld Z h xs cS "coder" "B" (.int ce)) ∧ (Arv Z h ts ks .byte ze wv i0) ∧ (KB ce ze wv [c0, c1])
abbrev mn_23 : MethodName := ⟨"java/lang/String", "<init>", "([C)V"⟩
theorem rm_init1 (hw : HW a0 Z) (xs sa : Addr) (ks : ClassId) (u1 u2 : Value) (G1 : Int32) (Gf : Value) (c0 c1 : Int32) (Z0 : n0 ≤ h0.size) (E_xs : Exa Z h0 xs cS) (Fv_xs : Fld Z h0 xs cS "value" "[B" u1) (Fc_xs : Fld Z h0 xs cS "coder" "B" u2) (g_xs : n0 ≤ xs) (V_sa : Arv Z h0 sa ks .char 2 [(.int c0), (.int c1)] i0) (ne_xs_sa : xs ≠ sa) (Sc : SU4 Z G1) (hz : ¬ G1 = 0) (Sa : SU1 Z) (Sh : SU2 Z) (Sl : SU3 Z) (OL : Old Z n0 h0) (ic0 : isC c0) (ic1 : isC c1) :
  MetP l Z mn_23 k23_ 2 none (rr 5 2 6 74) ws #[(.ref xs), (.ref sa)] h0 (Q_init1 Z xs sa ks u1 u2 G1 Gf c0 c1 h0 n0) := by
 refine begH n0 cS rfl (plainFor_of_name pn_2) fun p e s m below meth c s₁ s0 hrt hlk hZ hx hby hml hown hnm X0 e0 N0 P0 => ?_
 replace P0 : PP p e below s₁ (mkF m 0 #[rv xs, rv sa] []) s0 := castPP (ef_21 m xs sa) P0
 by_cases w0 : (255 : Int32) < c0
 ·
  have P1 := P0.bt X0 hx hby b85_ rfl
  obtain ⟨cl2, Ar2, -, S2, M2, -, -⟩ := id V_sa
  have P3 : PP p e below s₁ (mkF m 5 #[rv xs, rv sa] [(.int 2), i0, (.ref sa), (.ref xs)]) s0 := fun q_ k_ => P1 q_ (by
   refine X0.arraylength hx (by rw [e0]; exact Ar2.1) (State.isArrayOf_alike hZ.alike Ar2.2.1) (g := P1.g) rfl rfl (hb hby d23_4) _ ?_
   rw [len_of S2 M2]
   exact k_)
  have P4 := P3.bt X0 hx hby b86_ rfl
  obtain ⟨_, T5, L5, X5, hQ5, P5⟩ := cIn P4 X0 hx hZ hown hw e0 hml 7 8 10 2 (rm_init4W hw xs sa ks u1 u2 G1 Gf c0 c1 Z0 E_xs Fv_xs Fc_xs g_xs V_sa ne_xs_sa Sc hz Sa Sh Sl OL (Or.inl w0) ic0 ic1) rfl rfl rfl rfl rfl rfl rfl [(.ref sa), i0, (.int 2), .null] [] 0 (lenOf pd_17 rfl) rfl (Nat.le_of_eq rfl) (hb hby d23_6) rfl (by decide)
  obtain ⟨t_5, kb_5, rfl, N5q, Kc5, po5_0, po5_1, po5_2, po5_3, po5_4⟩ := hQ5
  have N5 := Fr.app N0 N5q
  obtain ⟨Lf6, X5, N6⟩ := fixL X5 N5 2 6 rfl rfl
  have sz_t_5 : h0.size ≤ t_5 := Nat.le_trans (Nat.le_refl h0.size) po5_0
  have K5 := Kt1 (Keep.refl h0 [xs]) Kc5 (Or.inl (mi 0))
  have E_xs := po5_1
  have Fv_xs := po5_2
  have Fc_xs := po5_3
  have V_t_5 := po5_4
  exact endV 9 #[rv xs, rv sa] X5 hx hrt hlk P5 (hb hby d23_9) rfl (by decide) (by decide) (show Q_init1 Z xs sa ks u1 u2 G1 Gf c0 c1 h0 n0 _ _ _ from ⟨t_5, kb_5, (1 : Int32), (4 : Int32), (wid [c0, c1]), rfl, N6, K5, sz_t_5, E_xs, Fv_xs, Fc_xs, V_t_5, own_kbW2 ic0 ic1⟩)
 ·
  by_cases w1 : (255 : Int32) < c1
  ·
   have P7 := P0.bt X0 hx hby b85_ rfl
   obtain ⟨cl8, Ar8, -, S8, M8, -, -⟩ := id V_sa
   have P9 : PP p e below s₁ (mkF m 5 #[rv xs, rv sa] [(.int 2), i0, (.ref sa), (.ref xs)]) s0 := fun q_ k_ => P7 q_ (by
    refine X0.arraylength hx (by rw [e0]; exact Ar8.1) (State.isArrayOf_alike hZ.alike Ar8.2.1) (g := P7.g) rfl rfl (hb hby d23_4) _ ?_
    rw [len_of S8 M8]
    exact k_)
   have P10 := P9.bt X0 hx hby b86_ rfl
   obtain ⟨_, T11, L11, X11, hQ11, P11⟩ := cIn P10 X0 hx hZ hown hw e0 hml 7 8 10 2 (rm_init4W hw xs sa ks u1 u2 G1 Gf c0 c1 Z0 E_xs Fv_xs Fc_xs g_xs V_sa ne_xs_sa Sc hz Sa Sh Sl OL (Or.inr w1) ic0 ic1) rfl rfl rfl rfl rfl rfl rfl [(.ref sa), i0, (.int 2), .null] [] 0 (lenOf pd_17 rfl) rfl (Nat.le_of_eq rfl) (hb hby d23_6) rfl (by decide)
   obtain ⟨t_11, kb_11, rfl, N11q, Kc11, po11_0, po11_1, po11_2, po11_3, po11_4⟩ := hQ11
   have N11 := Fr.app N0 N11q
   obtain ⟨Lf12, X11, N12⟩ := fixL X11 N11 2 6 rfl rfl
   have sz_t_11 : h0.size ≤ t_11 := Nat.le_trans (Nat.le_refl h0.size) po11_0
   have K11 := Kt1 (Keep.refl h0 [xs]) Kc11 (Or.inl (mi 0))
   have E_xs := po11_1
   have Fv_xs := po11_2
   have Fc_xs := po11_3
   have V_t_11 := po11_4
   exact endV 9 #[rv xs, rv sa] X11 hx hrt hlk P11 (hb hby d23_9) rfl (by decide) (by decide) (show Q_init1 Z xs sa ks u1 u2 G1 Gf c0 c1 h0 n0 _ _ _ from ⟨t_11, kb_11, (1 : Int32), (4 : Int32), (wid [c0, c1]), rfl, N12, K11, sz_t_11, E_xs, Fv_xs, Fc_xs, V_t_11, own_kbW2 ic0 ic1⟩)
  ·
   have P13 := P0.bt X0 hx hby b85_ rfl
   obtain ⟨cl14, Ar14, -, S14, M14, -, -⟩ := id V_sa
   have P15 : PP p e below s₁ (mkF m 5 #[rv xs, rv sa] [(.int 2), i0, (.ref sa), (.ref xs)]) s0 := fun q_ k_ => P13 q_ (by
    refine X0.arraylength hx (by rw [e0]; exact Ar14.1) (State.isArrayOf_alike hZ.alike Ar14.2.1) (g := P13.g) rfl rfl (hb hby d23_4) _ ?_
    rw [len_of S14 M14]
    exact k_)
   have P16 := P15.bt X0 hx hby b86_ rfl
   obtain ⟨_, T17, L17, X17, hQ17, P17⟩ := cIn P16 X0 hx hZ hown hw e0 hml 7 8 10 2 (rm_init4L hw xs sa ks u1 u2 G1 Gf c0 c1 Z0 E_xs Fv_xs Fc_xs g_xs V_sa ne_xs_sa Sc hz Sa Sh Sl OL w0 w1 ic0 ic1) rfl rfl rfl rfl rfl rfl rfl [(.ref sa), i0, (.int 2), .null] [] 0 (lenOf pd_17 rfl) rfl (Nat.le_of_eq rfl) (hb hby d23_6) rfl (by decide)
   obtain ⟨t_17, kb_17, rfl, N17q, Kc17, po17_0, po17_1, po17_2, po17_3, po17_4⟩ := hQ17
   have N17 := Fr.app N0 N17q
   obtain ⟨Lf18, X17, N18⟩ := fixL X17 N17 1 2 rfl rfl
   have sz_t_17 : h0.size ≤ t_17 := Nat.le_trans (Nat.le_refl h0.size) po17_0
   have K17 := Kt1 (Keep.refl h0 [xs]) Kc17 (Or.inl (mi 0))
   have E_xs := po17_1
   have Fv_xs := po17_2
   have Fc_xs := po17_3
   have V_t_17 := po17_4
   exact endV 9 #[rv xs, rv sa] X17 hx hrt hlk P17 (hb hby d23_9) rfl (by decide) (by decide) (show Q_init1 Z xs sa ks u1 u2 G1 Gf c0 c1 h0 n0 _ _ _ from ⟨t_17, kb_17, (0 : Int32), (2 : Int32), [(.int (nar .byte (c0.toInt8.toInt32))), (.int (nar .byte (c1.toInt8.toInt32)))], rfl, N18, K17, sz_t_17, E_xs, Fv_xs, Fc_xs, V_t_17, own_kbL2 ic0 ic1 w0 w1⟩)
theorem ef_22 (m : MethodId) (x0 : Addr) (x1 : Addr) : entryFrame m #[(.ref x0), (.ref x1), (.int 0), (.int 0), .null] 6 = mkF m 0 #[.val (.ref x0), .val (.ref x1), .val (.int 0), .val (.int 0), .val .null, .unset] [] := by first | (simp [entryFrame, mkF, argsToLocals, Value.category]; done) | rfl
theorem b87_ : dl k22_ 8 [(.aload_n 0, 1)] = true := by decide +kernel
theorem d22_9 : decode k22_ 9 = .ok (.ldc 7, 2) := by decide +kernel
theorem d22_11 : decode k22_ 11 = .ok (.getfield 9, 3) := by decide +kernel
theorem d22_14 : decode k22_ 14 = .ok (.putfield 9, 3) := by decide +kernel
theorem b88_ : dl k22_ 17 [(.aload_n 0, 1)] = true := by decide +kernel
theorem d22_18 : decode k22_ 18 = .ok (.ldc 7, 2) := by decide +kernel
theorem d22_20 : decode k22_ 20 = .ok (.getfield 15, 3) := by decide +kernel
theorem d22_23 : decode k22_ 23 = .ok (.putfield 15, 3) := by decide +kernel
theorem d22_26 : decode k22_ 26 = .ok (.return_, 1) := by decide +kernel
def Q_init40 (Z : State) (xs sa : Addr) (ks0 : ClassId) (us : List Value) (u1 u2 : Value) : QT := fun h0 n0 v h L => ∃ (ts : Addr) (ks : ClassId) (ce : Int32) (ze : Int32) (wv : List Value), v = none ∧ Fr n0 L ∧ Keep h0 h [xs] ∧ (Exa Z h xs cS) ∧ (Fld Z h xs cS "value" "[B" (.ref ts)) ∧ (Fld Z h xs cS "coder" "B" (.int ce)) ∧ (Arv Z h ts ks .byte ze wv i0) ∧ (KB ce ze wv [])
theorem rm_init40 (hw : HW a0 Z) (hEL : EW Z a0 ELs) (xs sa : Addr) (ks0 : ClassId) (us : List Value) (u1 u2 : Value) (Z0 : n0 ≤ h0.size) (E_xs : Exa Z h0 xs cS) (Fv_xs : Fld Z h0 xs cS "value" "[B" u1) (Fc_xs : Fld Z h0 xs cS "coder" "B" u2) (g_xs : n0 ≤ xs) (V_sa : Arv Z h0 sa ks0 .char 0 us i0) (ne_xs_sa : xs ≠ sa) :
  MetS l Z mn_22 k22_ 6 none (rr 1 4 8 12) ws #[(.ref xs), (.ref sa), i0, i0, .null] h0 ELs [xs] (Q_init40 Z xs sa ks0 us u1 u2 h0 n0) := by
 refine MetFree.of_bodySF (plainFor_of_name pn_2) hisR ?_
 intro p e s m args below meth c s₁ Bd hml0 hP hK; obtain ⟨rfl, hZ, hh, hCH, hSF⟩ := hP; have hx := Bd.exec; have hby := Bd.bytes; have hml : c.maxLocals = 6 := hml0
 have hown : s.vm.findClass cS = some m.cls := findClass_of_methodNamed Bd.named
 have hnm := (name_of_methodNamed Bd.named Bd.method).1
 have X0 : Stand p l e (rr 1 4 8 12) (s.setVm s.vm) m #[(.ref xs), (.ref sa), i0, i0, .null] below meth c s₁ [] 0 0 := Stand.of_body Bd
 replace hZ : Z.Warmed39 (s.setVm s.vm).vm := hZ
 replace hown : (s.setVm s.vm).vm.findClass cS = some m.cls := hown
 have hS : s.Since s.vm 0 := (State.WarmedH.refl s).since 0
 have hk : 0 ≤ h0.size := Nat.zero_le _
 have CR : CHr Z ELs s.vm h0 s.vm h0 := CHr.refl hCH
 have sf_xs : Safe Z ELs s.vm h0 xs := hSF _ (List.mem_of_getElem? (i := 0) rfl)
 have e0 : s₁.heap = h0 := by rw [← hh, Bd.state]; rfl
 have N0 := Fr.nil n0
 obtain ⟨s0, hs0⟩ := exi (s₁.setTop (entryFrame m #[(.ref xs), (.ref sa), i0, i0, .null] 6))
 have P0 : PP p e below s₁ (mkF m 0 #[rv xs, rv sa, iv 0, iv 0, .val .null, .unset] []) s0 := fun q_ k_ => by rw [hs0]; exact castTop (ef_22 m xs sa) k_
 have P1 := P0.bt X0 hx hby b74_ rfl
 obtain ⟨T2, X2, e2, st2⟩ := initO X0 hx hZ hown (ww hw 11 rfl) (ww hw 12 rfl) (ww hw 13 rfl) e0 (g := P1.g) rfl (by rw [hml]; rfl) rfl (hb hby d22_1) (by decide) (W := 0) (by show 2 * 0 + _ ≤ _; exact Nat.le_of_eq rfl) (by decide)
 have P3 := P1.st st2
 have P4 : PP p e below T2 (mkF m 9 #[rv xs, rv sa, iv 0, iv 0, .val .null, .unset] [(.ref xs)]) s0 := fun q_ k_ => P3 q_ (by
  refine bt X2 hx hby b75_ rfl ?_
  refine XS.ifNo X2.here hx rfl (hb hby d22_5) rfl ((if0 _ _).trans (teq ((by decide) : (0 : Int32) = (0 : Int32))).2) ?_
  exact bt X2 hx hby b87_ rfl k_)
 obtain ⟨b5, T5, h5, ki5, bb5, kb5, X5, e5, E5, hS, hk, hZ, hown, lA5, lC5, lV5, lB5, la5, lb5, cC5, lL5, hsf5, st5⟩ := ldcCH X2 hx hZ hown (ww hw 297 rfl) (own_wS hw) e2 hS hk hEL (by decide) CR.1 (vs := []) (z := (0 : Int32)) ⟨by decide, rfl⟩ (by decide) (by decide) (g := P4.g) rfl (hb hby d22_9) (n := 0) (by decide) (by decide) (by decide) (by decide)
 have P6 := P4.st st5
 replace sf_xs := cC5.safe E_xs.lt sf_xs
 replace E_xs := E_xs.ext E5
 replace Fv_xs := Fv_xs.ext E5
 replace Fc_xs := Fc_xs.ext E5
 replace CR : CHr Z ELs s.vm h0 T5.vm h5 := CR.trans cC5
 have K5 := (Keep.refl h0 [xs]).ext E5
 obtain ⟨Lf7, X5, N7⟩ := fixL X5 N0 2 4 rfl rfl
 have Fv_b5 : Fld Z h5 b5 cS "value" "[B" (.ref bb5) := lV5
 have V_bb5 : Arv Z h5 bb5 kb5 .byte 0 [] i0 := lB5
 have ne_xs_bb5 : xs ≠ bb5 := (hsf5 _ sf_xs).2
 obtain ⟨T8, X8, e8, P8⟩ := gF P6 X5 hx hZ hown hw 28 e5 Fv_b5 (hb hby d22_11)
 obtain ⟨T9, h9, X9, e9, W9, st9⟩ := putF X8 hx hZ hown (host := "") (Or.inl (ww hw 28 rfl)) Via.refl e8 Fv_xs E_xs (Or.inr ⟨(ww hw 29 rfl), rfl, hnm⟩) (ww hw 1 rfl) (ty := (.array .byte)) (by decide) rfl rfl (g := P8.g) rfl rfl (hb hby d22_14)
 have P10 := P8.st st9
 have N9 := Fr.snoc X9 N7 g_xs
 have K9 := K5.wr W9 (Or.inl (mi 0))
 have sfw9 : Safe Z ELs T5.vm h5 xs := sf_xs
 replace sf_xs := Safe.wr W9 sfw9 CR.1 sf_xs
 replace E_xs := E_xs.wr W9
 replace Fv_xs : Fld Z h9 xs cS "value" "[B" (.ref bb5) := Fv_xs.same W9
 replace Fc_xs := Fc_xs.other W9 (Or.inr (slot_ne (Or.inr (ww hw 27 rfl)) (Or.inr (ww hw 29 rfl)) (by decide) (t := .byte) (t' := (.array .byte)) (by decide) (by decide)))
 replace V_bb5 := V_bb5.other W9 (Ne.symm ne_xs_bb5)
 replace CR : CHr Z ELs s.vm h0 T5.vm h9 := CR.trans (CHr.wr W9 sfw9 CR.1)
 replace hk := Nat.le_trans hk (Keep.of_wr W9).1
 have P11 := P10.bt X9 hx hby b88_ rfl
 obtain ⟨b12, T12, h12, ki12, bb12, kb12, X12, e12, E12, hS, hk, hZ, hown, lA12, lC12, lV12, lB12, la12, lb12, cC12, lL12, hsf12, st12⟩ := ldcCH X9 hx hZ hown (ww hw 297 rfl) (own_wS hw) e9 hS hk hEL (by decide) CR.1 (vs := []) (z := (0 : Int32)) ⟨by decide, rfl⟩ (by decide) (by decide) (g := P11.g) rfl (hb hby d22_18) (n := 0) (by decide) (by decide) (by decide) (by decide)
 have P13 := P11.st st12
 replace sf_xs := cC12.safe E_xs.lt sf_xs
 replace E_xs := E_xs.ext E12
 replace Fv_xs := Fv_xs.ext E12
 replace Fc_xs := Fc_xs.ext E12
 replace V_bb5 := V_bb5.ext E12
 replace CR : CHr Z ELs s.vm h0 T12.vm h12 := CR.trans cC12
 have K12 := K9.ext E12
 obtain ⟨Lf14, X12, N14⟩ := fixL X12 N9 4 8 rfl rfl
 have Fc_b12 : Fld Z h12 b12 cS "coder" "B" i0 := lC12
 obtain ⟨T15, X15, e15, P15⟩ := gF P13 X12 hx hZ hown hw 26 e12 Fc_b12 (hb hby d22_20)
 obtain ⟨T16, h16, X16, e16, W16, st16⟩ := putFN X15 hx hZ hown (ww hw 26 rfl) Via.refl e15 Fc_xs E_xs (Or.inr ⟨(ww hw 27 rfl), rfl, hnm⟩) (ww hw 1 rfl) (ty := .byte) (v' := i0) (by decide) rfl (rfl) (g := P15.g) rfl rfl (hb hby d22_23)
 have P17 := P15.st st16
 have N16 := Fr.snoc X16 N14 g_xs
 have K16 := K12.wr W16 (Or.inl (mi 0))
 have sfw16 : Safe Z ELs T12.vm h12 xs := sf_xs
 replace E_xs := E_xs.wr W16
 replace Fv_xs := Fv_xs.other W16 (Or.inr (slot_ne (Or.inr (ww hw 29 rfl)) (Or.inr (ww hw 27 rfl)) (by decide) (t := (.array .byte)) (t' := .byte) (by decide) (by decide)))
 replace Fc_xs : Fld Z h16 xs cS "coder" "B" i0 := Fc_xs.same W16
 replace V_bb5 := V_bb5.other W16 (Ne.symm ne_xs_bb5)
 replace CR : CHr Z ELs s.vm h0 T12.vm h16 := CR.trans (CHr.wr W16 sfw16 CR.1)
 replace hk := Nat.le_trans hk (Keep.of_wr W16).1
 subst hs0
 obtain ⟨fs_, hr, hrun, hended, hREW⟩ := X16.leaveW hS (by rw [e16]; exact hk) (v := none) (fun _ => rfl)
 have CRT := CR.trans (CHv.at X16 hZ hEL CR.1)
 refine ⟨_, _, P17 _ ?_, hrun, hended, _, _, rfl, ?_, ?_, hREW.1, hREW.2.1, hREW.2.2.1, hREW.2.2.2.mono (by decide) (by decide)⟩
 · show GG p e below T16 (mkF m 26 #[rv xs, rv sa, iv 0, iv 0, .val .null, .unset] []) _
   exact X16.returnOut hx Bd.returns (hb hby d22_26) hr
 · show Q_init40 Z xs sa ks0 us u1 u2 h0 n0 _ T16.heap _
   rw [e16]
   exact ⟨bb5, kb5, (0 : Int32), (0 : Int32), [], rfl, N16, K16, E_xs, Fv_xs, Fc_xs, V_bb5, own_kbN⟩
 · show CHr Z ELs s.vm s.heap T16.vm T16.heap
   rw [hh, e16]
   exact CRT
theorem rm_init10 (hw : HW a0 Z) (hEL : EW Z a0 ELs) (xs sa : Addr) (ks0 : ClassId) (us : List Value) (u1 u2 : Value) (Z0 : n0 ≤ h0.size) (E_xs : Exa Z h0 xs cS) (Fv_xs : Fld Z h0 xs cS "value" "[B" u1) (Fc_xs : Fld Z h0 xs cS "coder" "B" u2) (g_xs : n0 ≤ xs) (V_sa : Arv Z h0 sa ks0 .char 0 us i0) (ne_xs_sa : xs ≠ sa) :
  MetS l Z mn_23 k23_ 2 none (rr 2 4 8 29) ws #[(.ref xs), (.ref sa)] h0 ELs [xs] (Q_init40 Z xs sa ks0 us u1 u2 h0 n0) := by
 refine MetFree.of_bodySF (plainFor_of_name pn_2) hisR ?_
 intro p e s m args below meth c s₁ Bd hml0 hP hK; obtain ⟨rfl, hZ, hh, hCH, hSF⟩ := hP; have hx := Bd.exec; have hby := Bd.bytes; have hml : c.maxLocals = 2 := hml0
 have hown : s.vm.findClass cS = some m.cls := findClass_of_methodNamed Bd.named
 have X0 : Stand p l e (rr 2 4 8 29) (s.setVm s.vm) m #[(.ref xs), (.ref sa)] below meth c s₁ [] 0 0 := Stand.of_body Bd
 replace hZ : Z.Warmed39 (s.setVm s.vm).vm := hZ
 replace hown : (s.setVm s.vm).vm.findClass cS = some m.cls := hown
 have hS : s.Since s.vm 0 := (State.WarmedH.refl s).since 0
 have hk : 0 ≤ h0.size := Nat.zero_le _
 have CR : CHr Z ELs s.vm h0 s.vm h0 := CHr.refl hCH
 have sf_xs : Safe Z ELs s.vm h0 xs := hSF _ (List.mem_of_getElem? (i := 0) rfl)
 have e0 : s₁.heap = h0 := by rw [← hh, Bd.state]; rfl
 have N0 := Fr.nil n0
 obtain ⟨s0, hs0⟩ := exi (s₁.setTop (entryFrame m #[(.ref xs), (.ref sa)] 2))
 have P0 : PP p e below s₁ (mkF m 0 #[rv xs, rv sa] []) s0 := fun q_ k_ => by rw [hs0]; exact castTop (ef_21 m xs sa) k_
 have P1 := P0.bt X0 hx hby b85_ rfl
 obtain ⟨cl2, Ar2, -, S2, M2, -, -⟩ := id V_sa
 have P3 : PP p e below s₁ (mkF m 5 #[rv xs, rv sa] [i0, i0, (.ref sa), (.ref xs)]) s0 := fun q_ k_ => P1 q_ (by
  refine X0.arraylength hx (by rw [e0]; exact Ar2.1) (State.isArrayOf_alike hZ.alike Ar2.2.1) (g := P1.g) rfl rfl (hb hby d23_4) _ ?_
  rw [len_of S2 M2]
  exact k_)
 have P4 := P3.bt X0 hx hby b86_ rfl
 obtain ⟨_, _, ⟨T5, L5, k5, n5⟩, -, X5, hS5, hg5, ⟨Lc5, hQ5, l5, y5, z5, cC5⟩, st5⟩ := X0.specialBackS hx (y := mn_22) rfl hown (mw hZ hw 7 rfl) (mw hZ hw 8 rfl) (mw hZ hw 10 rfl) (by decide) (backOfSS (W := 0) (rm_init40 hw hEL xs sa ks0 us u1 u2 Z0 E_xs Fv_xs Fc_xs g_xs V_sa ne_xs_sa) hZ (ww hw 10 rfl) (ww hw 2 rfl) (by decide) (by decide) hEL CR.1 (sfS sf_xs sf0) (allS (P := fun z => z < h0.size) E_xs.lt all0)) (g := P4.g) rfl (by rw [hml]; rfl) (Steps.refl _) (a := xs) (argsL := [(.ref sa), i0, i0, .null]) (rest := []) (lenOf pd_17 rfl) rfl (by show 2 * 0 + _ ≤ _; exact Nat.le_of_eq rfl) (hb hby d23_6) (fun _ _ => ⟨rfl, e0, (by decide : 0 + 4 ≤ _), (by decide : 0 + 8 ≤ _)⟩)
 dsimp only [Pt.U, Pt.locs, Pt.cells, Pt.slots] at X5 l5 y5 z5 st5 hQ5 hS5 hg5 cC5
 subst l5 y5 z5
 obtain ⟨X5, hS, hZ, hown⟩ := rebS hS (by rw [e0]; exact hk) X5 hS5 hg5 hZ hown
 have hk : T5.heap.size ≤ T5.heap.size := Nat.le_refl _
 obtain ⟨ts_5, ks_5, ce_5, ze_5, wv_5, rfl, N5q, Kc5, po5_0, po5_1, po5_2, po5_3, po5_4⟩ := hQ5
 have N5 := Fr.app N0 N5q
 obtain ⟨Lf6, X5, N6⟩ := fixL X5 N5 4 8 rfl rfl
 have P7 := P4.tr st5
 replace CR : CHr Z ELs s.vm h0 T5.vm T5.heap := CR.trans cC5
 have K5 := Kt1 (Keep.refl h0 [xs]) Kc5 (Or.inl (mi 0))
 have E_xs := po5_0
 have Fv_xs := po5_1
 have Fc_xs := po5_2
 have V_ts_5 := po5_3
 have hkb_5 := po5_4
 subst hs0
 obtain ⟨fs_, hr, hrun, hended, hREW⟩ := X5.leaveW hS hk (v := none) (fun _ => rfl)
 have CRT := CR.trans (CHv.at X5 hZ hEL CR.1)
 refine ⟨_, _, P7 _ ?_, hrun, hended, _, _, rfl, ?_, ?_, hREW.1, hREW.2.1, hREW.2.2.1, hREW.2.2.2.mono (by decide) (by decide)⟩
 · show GG p e below T5 (mkF m 9 #[rv xs, rv sa] []) _
   exact X5.returnOut hx Bd.returns (hb hby d23_9) hr
 · show Q_init40 Z xs sa ks0 us u1 u2 h0 n0 _ T5.heap _
   exact ⟨ts_5, ks_5, ce_5, ze_5, wv_5, rfl, N6, K5, E_xs, Fv_xs, Fc_xs, V_ts_5, hkb_5⟩
 · show CHr Z ELs s.vm s.heap T5.vm T5.heap
   rw [hh]
   exact CRT
abbrev k24_ := jdk_42_method_152_code
theorem d24_0 : decode k24_ 0 = .ok (.getstatic 38, 3) := by decide +kernel
theorem d24_3 : decode k24_ 3 = .ok (.ifCond .eq 10, 3) := by decide +kernel
theorem b89_ : dl k24_ 6 [(.aload_n 0, 1)] = true := by decide +kernel
theorem d24_7 : decode k24_ 7 = .ok (.getfield 15, 3) := by decide +kernel
theorem b90_ : dl k24_ 10 [(.goto 4, 3)] = true := by decide +kernel
theorem d24_14 : decode k24_ 14 = .ok (.ireturn, 1) := by decide +kernel
def Q_coder0 (Z : State) (xs : Addr) (G1 : Int32) : QT := fun h0 n0 v h L => v = some i0 ∧ Fr n0 L ∧ h = h0
abbrev mn_24 : MethodName := ⟨"java/lang/String", "coder", "()B"⟩
theorem rm_coder0 (hw : HW a0 Z) (xs : Addr) (G1 : Int32) (Z0 : n0 ≤ h0.size) (Fc_xs : Fld Z h0 xs cS "coder" "B" i0) (Sc : SU4 Z G1) (OL : Old Z n0 h0) (hz : ¬ G1 = 0) :
  MetP l Z mn_24 k24_ 1 (some .byte) (rr 0 0 0 0) ws #[(.ref xs)] h0 (Q_coder0 Z xs G1 h0 n0) := by
 refine begH n0 cS rfl (plainFor_of_name pn_2) fun p e s m below meth c s₁ s0 hrt hlk hZ hx hby hml hown hnm X0 e0 N0 P0 => ?_
 replace P0 : PP p e below s₁ (mkF m 0 #[rv xs] []) s0 := castPP (ef_4 m xs) P0
 obtain ⟨T1, X1, e1, P1⟩ := gS P0 X0 hx hZ hown hw 14 e0 (Sc.ext OL.2) (hb hby d24_0)
 have P2 : PP p e below T1 (mkF m 7 #[rv xs] [(.ref xs)]) s0 := fun q_ k_ => P1 q_ (by
  refine XS.ifNo X1.here hx rfl (hb hby d24_3) rfl ((if0 _ _).trans (feq (hz : ¬ (G1 = (0 : Int32)))).1) ?_
  exact bt X1 hx hby b89_ rfl k_)
 obtain ⟨T3, X3, e3, P3⟩ := gF P2 X1 hx hZ hown hw 26 e1 Fc_xs (hb hby d24_7)
 have P4 := P3.bt X3 hx hby b90_ rfl
 exact endN 14 #[rv xs] (rest := []) X3 hx hrt (by simp) hlk P4 (hb hby d24_14) e3 (by decide) (by decide) (show Q_coder0 Z xs G1 h0 n0 _ _ _ from ⟨rfl, N0, rfl⟩)
abbrev k25_ := jdk_42_method_154_code
theorem d25_0 : decode k25_ 0 = .ok (.getstatic 38, 3) := by decide +kernel
theorem d25_3 : decode k25_ 3 = .ok (.ifCond .eq 14, 3) := by decide +kernel
theorem b91_ : dl k25_ 6 [(.aload_n 0, 1)] = true := by decide +kernel
theorem d25_7 : decode k25_ 7 = .ok (.getfield 15, 3) := by decide +kernel
theorem d25_10 : decode k25_ 10 = .ok (.ifCond .ne 7, 3) := by decide +kernel
theorem b92_ : dl k25_ 13 [(.iconst 1, 1), (.goto 4, 3)] = true := by decide +kernel
theorem d25_18 : decode k25_ 18 = .ok (.ireturn, 1) := by decide +kernel
def Q_isLat0 (Z : State) (xs : Addr) (G1 : Int32) : QT := fun h0 n0 v h L => v = some (.int 1) ∧ Fr n0 L ∧ h = h0
abbrev mn_25 : MethodName := ⟨"java/lang/String", "isLatin1", "()Z"⟩
theorem rm_isLat0 (hw : HW a0 Z) (xs : Addr) (G1 : Int32) (Z0 : n0 ≤ h0.size) (Fc_xs : Fld Z h0 xs cS "coder" "B" i0) (Sc : SU4 Z G1) (OL : Old Z n0 h0) (hz : ¬ G1 = 0) :
  MetP l Z mn_25 k25_ 1 (some .boolean) (rr 0 0 0 0) ws #[(.ref xs)] h0 (Q_isLat0 Z xs G1 h0 n0) := by
 refine begH n0 cS rfl (plainFor_of_name pn_2) fun p e s m below meth c s₁ s0 hrt hlk hZ hx hby hml hown hnm X0 e0 N0 P0 => ?_
 replace P0 : PP p e below s₁ (mkF m 0 #[rv xs] []) s0 := castPP (ef_4 m xs) P0
 obtain ⟨T1, X1, e1, P1⟩ := gS P0 X0 hx hZ hown hw 14 e0 (Sc.ext OL.2) (hb hby d25_0)
 have P2 : PP p e below T1 (mkF m 7 #[rv xs] [(.ref xs)]) s0 := fun q_ k_ => P1 q_ (by
  refine XS.ifNo X1.here hx rfl (hb hby d25_3) rfl ((if0 _ _).trans (feq (hz : ¬ (G1 = (0 : Int32)))).1) ?_
  exact bt X1 hx hby b91_ rfl k_)
 obtain ⟨T3, X3, e3, P3⟩ := gF P2 X1 hx hZ hown hw 26 e1 Fc_xs (hb hby d25_7)
 have P4 : PP p e below T3 (mkF m 18 #[rv xs] [(.int 1)]) s0 := fun q_ k_ => P3 q_ (by
  refine XS.ifNo X3.here hx rfl (hb hby d25_10) rfl ((if0 _ _).trans (teq ((by decide) : (0 : Int32) = (0 : Int32))).2) ?_
  exact bt X3 hx hby b92_ rfl k_)
 exact endN 18 #[rv xs] (rest := []) X3 hx hrt (by simp) hlk P4 (hb hby d25_18) e3 (by decide) (by decide) (show Q_isLat0 Z xs G1 h0 n0 _ _ _ from ⟨rfl, N0, rfl⟩)
theorem pn_4 : plainName "java/lang/AbstractStringBuilder" = true := by first | (simp [plainName, overriddenIn]; done) | decide +kernel
abbrev k26_ := jdk_68_method_68_code
theorem d26_0 : decode k26_ 0 = .ok (.getstatic 18, 3) := by decide +kernel
theorem d26_3 : decode k26_ 3 = .ok (.ifCond .eq 14, 3) := by decide +kernel
theorem b93_ : dl k26_ 6 [(.aload_n 0, 1)] = true := by decide +kernel
theorem d26_7 : decode k26_ 7 = .ok (.getfield 22, 3) := by decide +kernel
theorem d26_10 : decode k26_ 10 = .ok (.ifCond .ne 7, 3) := by decide +kernel
theorem b94_ : dl k26_ 13 [(.iconst 1, 1), (.goto 4, 3)] = true := by decide +kernel
theorem d26_18 : decode k26_ 18 = .ok (.ireturn, 1) := by decide +kernel
def Q_asbLat0 (Z : State) (sb : Addr) (G1 : Int32) : QT := fun h0 n0 v h L => v = some (.int 1) ∧ Fr n0 L ∧ h = h0
abbrev mn_26 : MethodName := ⟨"java/lang/AbstractStringBuilder", "isLatin1", "()Z"⟩
theorem rm_asbLat0 (hw : HW a0 Z) (sb : Addr) (G1 : Int32) (Z0 : n0 ≤ h0.size) (Fc_sb : Fld Z h0 sb cA "coder" "B" i0) (Sc : SU4 Z G1) (OL : Old Z n0 h0) (hz : ¬ G1 = 0) :
  MetP l Z mn_26 k26_ 1 (some .boolean) (rr 0 0 0 0) ws #[(.ref sb)] h0 (Q_asbLat0 Z sb G1 h0 n0) := by
 refine begH n0 cA rfl (plainFor_of_name pn_4) fun p e s m below meth c s₁ s0 hrt hlk hZ hx hby hml hown hnm X0 e0 N0 P0 => ?_
 replace P0 : PP p e below s₁ (mkF m 0 #[rv sb] []) s0 := castPP (ef_4 m sb) P0
 obtain ⟨T1, X1, e1, P1⟩ := gS P0 X0 hx hZ hown hw 114 e0 (Sc.ext OL.2) (hb hby d26_0)
 have P2 : PP p e below T1 (mkF m 7 #[rv sb] [(.ref sb)]) s0 := fun q_ k_ => P1 q_ (by
  refine XS.ifNo X1.here hx rfl (hb hby d26_3) rfl ((if0 _ _).trans (feq (hz : ¬ (G1 = (0 : Int32)))).1) ?_
  exact bt X1 hx hby b93_ rfl k_)
 obtain ⟨T3, X3, e3, P3⟩ := gF P2 X1 hx hZ hown hw 117 e1 Fc_sb (hb hby d26_7)
 have P4 : PP p e below T3 (mkF m 18 #[rv sb] [(.int 1)]) s0 := fun q_ k_ => P3 q_ (by
  refine XS.ifNo X3.here hx rfl (hb hby d26_10) rfl ((if0 _ _).trans (teq ((by decide) : (0 : Int32) = (0 : Int32))).2) ?_
  exact bt X3 hx hby b94_ rfl k_)
 exact endN 18 #[rv sb] (rest := []) X3 hx hrt (by simp) hlk P4 (hb hby d26_18) e3 (by decide) (by decide) (show Q_asbLat0 Z sb G1 h0 n0 _ _ _ from ⟨rfl, N0, rfl⟩)
theorem rm_coder1 (hw : HW a0 Z) (xs : Addr) (G1 : Int32) (Z0 : n0 ≤ h0.size) (Fc_xs : Fld Z h0 xs cS "coder" "B" (.int 1)) (Sc : SU4 Z G1) (OL : Old Z n0 h0) (hz : ¬ G1 = 0) :
  MetP l Z mn_24 k24_ 1 (some .byte) (rr 0 0 0 0) ws #[(.ref xs)] h0 (Q_isLat0 Z xs G1 h0 n0) := by
 refine begH n0 cS rfl (plainFor_of_name pn_2) fun p e s m below meth c s₁ s0 hrt hlk hZ hx hby hml hown hnm X0 e0 N0 P0 => ?_
 replace P0 : PP p e below s₁ (mkF m 0 #[rv xs] []) s0 := castPP (ef_4 m xs) P0
 obtain ⟨T1, X1, e1, P1⟩ := gS P0 X0 hx hZ hown hw 14 e0 (Sc.ext OL.2) (hb hby d24_0)
 have P2 : PP p e below T1 (mkF m 7 #[rv xs] [(.ref xs)]) s0 := fun q_ k_ => P1 q_ (by
  refine XS.ifNo X1.here hx rfl (hb hby d24_3) rfl ((if0 _ _).trans (feq (hz : ¬ (G1 = (0 : Int32)))).1) ?_
  exact bt X1 hx hby b89_ rfl k_)
 obtain ⟨T3, X3, e3, P3⟩ := gF P2 X1 hx hZ hown hw 26 e1 Fc_xs (hb hby d24_7)
 have P4 := P3.bt X3 hx hby b90_ rfl
 exact endN 14 #[rv xs] (rest := []) X3 hx hrt (by simp) hlk P4 (hb hby d24_14) e3 (by decide) (by decide) (show Q_isLat0 Z xs G1 h0 n0 _ _ _ from ⟨rfl, N0, rfl⟩)
theorem b95_ : dl k25_ 17 [(.iconst 0, 1)] = true := by decide +kernel
theorem rm_isLat1 (hw : HW a0 Z) (xs : Addr) (G1 : Int32) (Z0 : n0 ≤ h0.size) (Fc_xs : Fld Z h0 xs cS "coder" "B" (.int 1)) (Sc : SU4 Z G1) (OL : Old Z n0 h0) (hz : ¬ G1 = 0) :
  MetP l Z mn_25 k25_ 1 (some .boolean) (rr 0 0 0 0) ws #[(.ref xs)] h0 (Q_coder0 Z xs G1 h0 n0) := by
 refine begH n0 cS rfl (plainFor_of_name pn_2) fun p e s m below meth c s₁ s0 hrt hlk hZ hx hby hml hown hnm X0 e0 N0 P0 => ?_
 replace P0 : PP p e below s₁ (mkF m 0 #[rv xs] []) s0 := castPP (ef_4 m xs) P0
 obtain ⟨T1, X1, e1, P1⟩ := gS P0 X0 hx hZ hown hw 14 e0 (Sc.ext OL.2) (hb hby d25_0)
 have P2 : PP p e below T1 (mkF m 7 #[rv xs] [(.ref xs)]) s0 := fun q_ k_ => P1 q_ (by
  refine XS.ifNo X1.here hx rfl (hb hby d25_3) rfl ((if0 _ _).trans (feq (hz : ¬ (G1 = (0 : Int32)))).1) ?_
  exact bt X1 hx hby b91_ rfl k_)
 obtain ⟨T3, X3, e3, P3⟩ := gF P2 X1 hx hZ hown hw 26 e1 Fc_xs (hb hby d25_7)
 have P4 : PP p e below T3 (mkF m 18 #[rv xs] [i0]) s0 := fun q_ k_ => P3 q_ (by
  refine XS.ifYes X3.here hx rfl (pc0 := 10) (pc' := 17) rfl (hb hby d25_10) rfl ((if0 _ _).trans (feq ((by decide) : ¬ ((1 : Int32) = (0 : Int32)))).2) (by decide) (by decide) ?_
  exact bt X3 hx hby b95_ rfl k_)
 exact endN 18 #[rv xs] (rest := []) X3 hx hrt (by simp) hlk P4 (hb hby d25_18) e3 (by decide) (by decide) (show Q_coder0 Z xs G1 h0 n0 _ _ _ from ⟨rfl, N0, rfl⟩)
theorem b96_ : dl k26_ 17 [(.iconst 0, 1)] = true := by decide +kernel
def Q_asbLat1 (Z : State) (sb : Addr) (G1 : Int32) : QT := fun h0 n0 v h L => v = some i0 ∧ Fr n0 L ∧ h = h0
theorem rm_asbLat1 (hw : HW a0 Z) (sb : Addr) (G1 : Int32) (Z0 : n0 ≤ h0.size) (Fc_sb : Fld Z h0 sb cA "coder" "B" (.int 1)) (Sc : SU4 Z G1) (OL : Old Z n0 h0) (hz : ¬ G1 = 0) :
  MetP l Z mn_26 k26_ 1 (some .boolean) (rr 0 0 0 0) ws #[(.ref sb)] h0 (Q_asbLat1 Z sb G1 h0 n0) := by
 refine begH n0 cA rfl (plainFor_of_name pn_4) fun p e s m below meth c s₁ s0 hrt hlk hZ hx hby hml hown hnm X0 e0 N0 P0 => ?_
 replace P0 : PP p e below s₁ (mkF m 0 #[rv sb] []) s0 := castPP (ef_4 m sb) P0
 obtain ⟨T1, X1, e1, P1⟩ := gS P0 X0 hx hZ hown hw 114 e0 (Sc.ext OL.2) (hb hby d26_0)
 have P2 : PP p e below T1 (mkF m 7 #[rv sb] [(.ref sb)]) s0 := fun q_ k_ => P1 q_ (by
  refine XS.ifNo X1.here hx rfl (hb hby d26_3) rfl ((if0 _ _).trans (feq (hz : ¬ (G1 = (0 : Int32)))).1) ?_
  exact bt X1 hx hby b93_ rfl k_)
 obtain ⟨T3, X3, e3, P3⟩ := gF P2 X1 hx hZ hown hw 117 e1 Fc_sb (hb hby d26_7)
 have P4 : PP p e below T3 (mkF m 18 #[rv sb] [i0]) s0 := fun q_ k_ => P3 q_ (by
  refine XS.ifYes X3.here hx rfl (pc0 := 10) (pc' := 17) rfl (hb hby d26_10) rfl ((if0 _ _).trans (feq ((by decide) : ¬ ((1 : Int32) = (0 : Int32)))).2) (by decide) (by decide) ?_
  exact bt X3 hx hby b96_ rfl k_)
 exact endN 18 #[rv sb] (rest := []) X3 hx hrt (by simp) hlk P4 (hb hby d26_18) e3 (by decide) (by decide) (show Q_asbLat1 Z sb G1 h0 n0 _ _ _ from ⟨rfl, N0, rfl⟩)
abbrev k27_ := jdk_42_method_54_code
theorem b97_ : dl k27_ 0 [(.aload_n 0, 1)] = true := by decide +kernel
theorem d27_1 : decode k27_ 1 = .ok (.getfield 9, 3) := by decide +kernel
theorem d27_4 : decode k27_ 4 = .ok (.arraylength, 1) := by decide +kernel
theorem b98_ : dl k27_ 5 [(.aload_n 0, 1)] = true := by decide +kernel
theorem pd_18 : parseMethodDescriptor "()B" = some ⟨[], some .byte⟩ := by decide +kernel
theorem d27_6 : decode k27_ 6 = .ok (.invokevirtual 335, 3) := by decide +kernel
theorem b99_ : dl k27_ 9 [(.ishr, 1)] = true := by decide +kernel
theorem d27_10 : decode k27_ 10 = .ok (.ireturn, 1) := by decide +kernel
def Q_sLen (Z : State) (xs ts : Addr) (ks : ClassId) (ce ze : Int32) (wv : List Value) (ds : List Int32) (G1 : Int32) (Gf : Value) : QT := fun h0 n0 v h L => v = some (.int (Int32.ofNat ds.length)) ∧ Fr n0 L ∧ h = h0
abbrev mn_27 : MethodName := ⟨"java/lang/String", "length", "()I"⟩
theorem rm_sLen (hw : HW a0 Z) (xs ts : Addr) (ks : ClassId) (ce ze : Int32) (wv : List Value) (ds : List Int32) (G1 : Int32) (Gf : Value) (Z0 : n0 ≤ h0.size) (E_xs : Exa Z h0 xs cS) (Fv_xs : Fld Z h0 xs cS "value" "[B" (.ref ts)) (Fc_xs : Fld Z h0 xs cS "coder" "B" (.int ce)) (V_ts : Arv Z h0 ts ks .byte ze wv i0) (hkb : KB ce ze wv ds) (Sc : SU4 Z G1) (hz : ¬ G1 = 0) (Sa : SU1 Z) (Sh : SU2 Z) (Sl : SU3 Z) (Sf : SU5 Z Gf) (rGf : Gf.isRef = true) (OL : Old Z n0 h0) (hdl : ds.length ≤ 100) :
  MetP l Z mn_27 k27_ 1 (some .int) (rr 1 0 0 13) ws #[(.ref xs)] h0 (Q_sLen Z xs ts ks ce ze wv ds G1 Gf h0 n0) := by
 refine begH n0 cS rfl (plainFor_of_name pn_2) fun p e s m below meth c s₁ s0 hrt hlk hZ hx hby hml hown hnm X0 e0 N0 P0 => ?_
 replace P0 : PP p e below s₁ (mkF m 0 #[rv xs] []) s0 := castPP (ef_4 m xs) P0
 rcases hkb with ⟨icd, ⟨rfl, rfl, rfl, lld⟩ | ⟨rfl, rfl, rfl⟩⟩
 ·
  have P1 := P0.bt X0 hx hby b97_ rfl
  obtain ⟨T2, X2, e2, P2⟩ := gF P1 X0 hx hZ hown hw 28 e0 Fv_xs (hb hby d27_1)
  obtain ⟨cl3, Ar3, -, S3, M3, -, -⟩ := id V_ts
  have P4 : PP p e below T2 (mkF m 5 #[rv xs] [(.int (Int32.ofNat ds.length))]) s0 := fun q_ k_ => P2 q_ (by
   refine X2.arraylength hx (by rw [e2]; exact Ar3.1) (State.isArrayOf_alike hZ.alike Ar3.2.1) (g := P2.g) rfl rfl (hb hby d27_4) _ ?_
   rw [len_of S3 M3]
   exact k_)
  have P5 := P4.bt X2 hx hby b98_ rfl
  obtain ⟨_, T6, L6, X6, hQ6, P6⟩ := cVi P5 X2 hx hZ hown hw e2 E_xs hml 134 137 136 138 2 (rm_coder0 hw xs G1 Z0 Fc_xs Sc OL hz) rfl rfl rfl rfl rfl rfl rfl [] [(.int (Int32.ofNat ds.length))] 1 (lenOf pd_18 rfl) rfl (Nat.le_of_eq rfl) (hb hby d27_6) rfl (by decide)
  obtain ⟨rfl, N6q, e6⟩ := hQ6
  have N6 := Fr.app N0 N6q
  have P7 : PP p e below T6 (mkF m 10 #[rv xs] [(.int ((Int32.ofNat ds.length) >>> ((0 : Int32) &&& 31)))]) s0 := fun q_ k_ => P6 q_ (by
   exact bt X6 hx hby b99_ rfl k_)
  have P8 : PP p e below T6 (mkF m 10 #[rv xs] [(.int (Int32.ofNat ds.length))]) s0 := fun q_ k_ => P7 q_ (by rw [own_shr0]; exact k_)
  exact endI 10 #[rv xs] (rest := []) X6 hx hrt hlk P8 (hb hby d27_10) e6 (by decide) (by decide) (show Q_sLen Z xs ts ks (0 : Int32) (Int32.ofNat ds.length) (ds.map bv) ds G1 Gf h0 n0 _ _ _ from ⟨rfl, N6, rfl⟩)
 ·
  have P9 := P0.bt X0 hx hby b97_ rfl
  obtain ⟨T10, X10, e10, P10⟩ := gF P9 X0 hx hZ hown hw 28 e0 Fv_xs (hb hby d27_1)
  obtain ⟨cl11, Ar11, -, S11, M11, -, -⟩ := id V_ts
  have P12 : PP p e below T10 (mkF m 5 #[rv xs] [(.int (Int32.ofNat (2 * ds.length)))]) s0 := fun q_ k_ => P10 q_ (by
   refine X10.arraylength hx (by rw [e10]; exact Ar11.1) (State.isArrayOf_alike hZ.alike Ar11.2.1) (g := P10.g) rfl rfl (hb hby d27_4) _ ?_
   rw [len_of S11 M11]
   exact k_)
  have P13 := P12.bt X10 hx hby b98_ rfl
  obtain ⟨_, T14, L14, X14, hQ14, P14⟩ := cVi P13 X10 hx hZ hown hw e10 E_xs hml 134 137 136 138 2 (rm_coder1 hw xs G1 Z0 Fc_xs Sc OL hz) rfl rfl rfl rfl rfl rfl rfl [] [(.int (Int32.ofNat (2 * ds.length)))] 1 (lenOf pd_18 rfl) rfl (Nat.le_of_eq rfl) (hb hby d27_6) rfl (by decide)
  obtain ⟨rfl, N14q, e14⟩ := hQ14
  have N14 := Fr.app N0 N14q
  have P15 : PP p e below T14 (mkF m 10 #[rv xs] [(.int ((Int32.ofNat (2 * ds.length)) >>> ((1 : Int32) &&& 31)))]) s0 := fun q_ k_ => P14 q_ (by
   exact bt X14 hx hby b99_ rfl k_)
  have P16 : PP p e below T14 (mkF m 10 #[rv xs] [(.int (Int32.ofNat ds.length))]) s0 := fun q_ k_ => P15 q_ (by rw [(own_shr1 ds.length (by omega))]; exact k_)
  exact endI 10 #[rv xs] (rest := []) X14 hx hrt hlk P16 (hb hby d27_10) e14 (by decide) (by decide) (show Q_sLen Z xs ts ks (1 : Int32) (Int32.ofNat (2 * ds.length)) (wid ds) ds G1 Gf h0 n0 _ _ _ from ⟨rfl, N14, rfl⟩)
abbrev k28_ := jdk_43_method_2_code
theorem b100_ : dl k28_ 0 [(.iload_n 1, 1), (.aload_n 0, 1)] = true := by decide +kernel
theorem d28_2 : decode k28_ 2 = .ok (.arraylength, 1) := by decide +kernel
theorem d28_3 : decode k28_ 3 = .ok (.invokestatic 9, 3) := by decide +kernel
theorem b101_ : dl k28_ 6 [(.aload_n 0, 1), (.iload_n 1, 1)] = true := by decide +kernel
theorem d28_8 : decode k28_ 8 = .ok (.baload, 1) := by decide +kernel
theorem b102_ : dl k28_ 9 [(.sipush 255, 3), (.iand, 1)] = true := by decide +kernel
theorem b103_ : dl k28_ 13 [(.i2c, 1)] = true := by decide +kernel
theorem d28_14 : decode k28_ 14 = .ok (.ireturn, 1) := by decide +kernel
def Q_lCh (Z : State) (tb : Addr) (kb : ClassId) (ds : List Int32) (Gf : Value) (k : Nat) (cc : Int32) : QT := fun h0 n0 v h L => v = some (.int cc) ∧ Fr n0 L ∧ h = h0
abbrev mn_28 : MethodName := ⟨"java/lang/StringLatin1", "charAt", "([BI)C"⟩
theorem rm_lCh (hw : HW a0 Z) (tb : Addr) (kb : ClassId) (ds : List Int32) (Gf : Value) (k : Nat) (cc : Int32) (Z0 : n0 ≤ h0.size) (V_tb : Arv Z h0 tb kb .byte (Int32.ofNat ds.length) (ds.map bv) i0) (rGf : Gf.isRef = true) (Sf : SU5 Z Gf) (OL : Old Z n0 h0) (hkx : ds[k]? = some cc) (hdl : ds.length ≤ 100) (icd : CC ds) (lld : LL ds) :
  MetP l Z mn_28 k28_ 2 (some .char) (rr 2 0 0 27) ws #[(.ref tb), (.int (Int32.ofNat k))] h0 (Q_lCh Z tb kb ds Gf k cc h0 n0) := by
 refine begH n0 "java/lang/StringLatin1" rfl (plainFor_of_name pn_3) fun p e s m below meth c s₁ s0 hrt hlk hZ hx hby hml hown hnm X0 e0 N0 P0 => ?_
 replace P0 : PP p e below s₁ (mkF m 0 #[rv tb, iv (Int32.ofNat k)] []) s0 := castPP (ef_3 m tb (Int32.ofNat k)) P0
 have P1 := P0.bt X0 hx hby b100_ rfl
 obtain ⟨cl2, Ar2, -, S2, M2, -, -⟩ := id V_tb
 have P3 : PP p e below s₁ (mkF m 3 #[rv tb, iv (Int32.ofNat k)] [(.int (Int32.ofNat ds.length)), (.int (Int32.ofNat k))]) s0 := fun q_ k_ => P1 q_ (by
  refine X0.arraylength hx (by rw [e0]; exact Ar2.1) (State.isArrayOf_alike hZ.alike Ar2.2.1) (g := P1.g) rfl rfl (hb hby d28_2) _ ?_
  rw [len_of S2 M2]
  exact k_)
 obtain ⟨_, T4, L4, X4, hQ4, P4⟩ := cSt P3 X0 hx hZ hown hw e0 hml 289 290 2 291 (rm_ckS hw (Int32.ofNat k) (Int32.ofNat ds.length) Gf Z0 ((own_inb k ds.length (own_klt hkx) (by omega)).1) ((own_inb k ds.length (own_klt hkx) (by omega)).2) rGf Sf OL) rfl rfl rfl rfl rfl rfl [(.int (Int32.ofNat k)), (.int (Int32.ofNat ds.length))] [] 0 (lenOf pd_3 rfl) rfl (Nat.le_of_eq rfl) (hb hby d28_3) rfl (by decide)
 obtain ⟨rfl, N4q, e4⟩ := hQ4
 have N4 := Fr.app N0 N4q
 have P5 := P4.bt X4 hx hby b101_ rfl
 obtain ⟨cl6, Ar6, q6, S6, M6, Hs6, G6⟩ := id V_tb
 have hin6 := inb_of (j := (Int32.ofNat k)) S6 (own_inb k ds.length (own_klt hkx) (by omega))
 have hat6 : cl6.slots[((Int32.ofNat k)).toNatClampNeg]? = some (.int (nar .byte (cc.toInt8.toInt32))) := Has.at Hs6 hin6 (by rw [own_cl _ (by have q := own_klt hkx; omega)]; exact own_lat0 ds k cc _ hkx)
 have P7 : PP p e below T4 (mkF m 9 #[rv tb, iv (Int32.ofNat k)] [(.int (nar .byte (cc.toInt8.toInt32)))]) s0 := fun q_ k_ => P5 q_ (by
  exact X4.baloadBytes hx (j := (Int32.ofNat k)) (v := (.int (nar .byte (cc.toInt8.toInt32)))) (by rw [e4]; exact Ar6.1) (State.isArrayOf_alike hZ.alike Ar6.2.1) Ar6.2.2 hin6 hat6 (g := P5.g) rfl rfl (hb hby d28_8) _ k_)
 have P8 := P7.bt X4 hx hby b102_ rfl
 have P9 : PP p e below T4 (mkF m 13 #[rv tb, iv (Int32.ofNat k)] [(.int cc)]) s0 := fun q_ k_ => P8 q_ (by show GG p e below T4 (mkF m 13 #[rv tb, iv (Int32.ofNat k)] [(.int ((nar .byte (cc.toInt8.toInt32)) &&& (255 : Int32)))]) q_; rw [(own_lat255 (icd _ (own_mem hkx)) (lld _ (own_mem hkx)))]; exact k_)
 have P10 := P9.bt X4 hx hby b103_ rfl
 exact endN 14 #[rv tb, iv (Int32.ofNat k)] (rest := []) X4 hx hrt (by simp) hlk P10 (hb hby d28_14) e4 (by decide) (by decide) (show Q_lCh Z tb kb ds Gf k cc h0 n0 _ _ _ from ⟨congrArg (fun z => some (Value.int z)) ((congrArg (nar .char) (own_i2c (icd _ (own_mem hkx)))).trans (own_narc (icd _ (own_mem hkx)))), N4, rfl⟩)
abbrev k29_ := jdk_52_method_83_code
theorem b104_ : dl k29_ 0 [(.iload_n 1, 1), (.aload_n 0, 1)] = true := by decide +kernel
theorem pd_19 : parseMethodDescriptor "(I[B)V" = some ⟨[.int, (.array .byte)], none⟩ := by decide +kernel
theorem d29_2 : decode k29_ 2 = .ok (.invokestatic 67, 3) := by decide +kernel
theorem b105_ : dl k29_ 5 [(.aload_n 0, 1), (.iload_n 1, 1)] = true := by decide +kernel
theorem d29_7 : decode k29_ 7 = .ok (.invokestatic 71, 3) := by decide +kernel
theorem d29_10 : decode k29_ 10 = .ok (.ireturn, 1) := by decide +kernel
def Q_uCh (Z : State) (tb : Addr) (kb : ClassId) (cs : List Int32) (Gf : Value) (k : Nat) (cc : Int32) : QT := fun h0 n0 v h L => v = some (.int cc) ∧ Fr n0 L ∧ h = h0
abbrev mn_29 : MethodName := ⟨"java/lang/StringUTF16", "charAt", "([BI)C"⟩
theorem rm_uCh (hw : HW a0 Z) (tb : Addr) (kb : ClassId) (cs : List Int32) (Gf : Value) (k : Nat) (cc : Int32) (Z0 : n0 ≤ h0.size) (V_tb : Arv Z h0 tb kb .byte (Int32.ofNat (2 * cs.length)) (wid cs) i0) (rGf : Gf.isRef = true) (Sf : SU5 Z Gf) (Sa : SU1 Z) (Sh : SU2 Z) (Sl : SU3 Z) (OL : Old Z n0 h0) (hkx : cs[k]? = some cc) (icc : isC cc) (hdl : cs.length ≤ 100) :
  MetP l Z mn_29 k29_ 2 (some .char) (rr 3 0 0 40) ws #[(.ref tb), (.int (Int32.ofNat k))] h0 (Q_uCh Z tb kb cs Gf k cc h0 n0) := by
 refine begH n0 "java/lang/StringUTF16" rfl (plainFor_of_name pn_0) fun p e s m below meth c s₁ s0 hrt hlk hZ hx hby hml hown hnm X0 e0 N0 P0 => ?_
 replace P0 : PP p e below s₁ (mkF m 0 #[rv tb, iv (Int32.ofNat k)] []) s0 := castPP (ef_3 m tb (Int32.ofNat k)) P0
 have P1 := P0.bt X0 hx hby b104_ rfl
 obtain ⟨_, T2, L2, X2, hQ2, P2⟩ := cSt P1 X0 hx hZ hown hw e0 hml 479 480 17 481 (rm_ckU hw tb kb cs.length (wid cs) k Gf Z0 V_tb rGf Sf OL (by omega) (own_klt hkx)) rfl rfl rfl rfl rfl rfl [(.int (Int32.ofNat k)), (.ref tb)] [] 0 (lenOf pd_19 rfl) rfl (Nat.le_of_eq rfl) (hb hby d29_2) rfl (by decide)
 obtain ⟨rfl, N2q, e2⟩ := hQ2
 have N2 := Fr.app N0 N2q
 have P3 : PP p e below T2 (mkF m 7 #[rv tb, iv (Int32.ofNat k)] [(.int (Int32.ofNat k)), (.ref tb)]) s0 := fun q_ k_ => P2 q_ (by
  exact bt X2 hx hby b105_ rfl k_)
 obtain ⟨_, T4, L4, X4, hQ4, P4⟩ := cSt P3 X2 hx hZ hown hw e2 hml 488 489 17 490 (rm_get hw tb kb (2 * cs.length) cs k cc Z0 V_tb Sa Sh Sl OL hkx icc (Nat.le_refl _) (by omega)) rfl rfl rfl rfl rfl rfl [(.ref tb), (.int (Int32.ofNat k))] [] 0 (lenOf pd_16 rfl) rfl (Nat.le_of_eq rfl) (hb hby d29_7) rfl (by decide)
 obtain ⟨rfl, N4q, e4⟩ := hQ4
 have N4 := Fr.app N2 N4q
 exact endN 10 #[rv tb, iv (Int32.ofNat k)] (rest := []) X4 hx hrt (by simp) hlk P4 (hb hby d29_10) e4 (by decide) (by decide) (show Q_uCh Z tb kb cs Gf k cc h0 n0 _ _ _ from ⟨congrArg (fun z => some (Value.int z)) (own_narc icc), N4, rfl⟩)
abbrev k30_ := jdk_42_method_56_code
theorem b106_ : dl k30_ 0 [(.aload_n 0, 1)] = true := by decide +kernel
theorem pd_20 : parseMethodDescriptor "()Z" = some ⟨[], some .boolean⟩ := by decide +kernel
theorem d30_1 : decode k30_ 1 = .ok (.invokevirtual 492, 3) := by decide +kernel
theorem d30_4 : decode k30_ 4 = .ok (.ifCond .eq 12, 3) := by decide +kernel
theorem b107_ : dl k30_ 7 [(.aload_n 0, 1)] = true := by decide +kernel
theorem d30_8 : decode k30_ 8 = .ok (.getfield 9, 3) := by decide +kernel
theorem b108_ : dl k30_ 11 [(.iload_n 1, 1)] = true := by decide +kernel
theorem d30_12 : decode k30_ 12 = .ok (.invokestatic 495, 3) := by decide +kernel
theorem d30_15 : decode k30_ 15 = .ok (.ireturn, 1) := by decide +kernel
theorem b109_ : dl k30_ 16 [(.aload_n 0, 1)] = true := by decide +kernel
theorem d30_17 : decode k30_ 17 = .ok (.getfield 9, 3) := by decide +kernel
theorem b110_ : dl k30_ 20 [(.iload_n 1, 1)] = true := by decide +kernel
theorem d30_21 : decode k30_ 21 = .ok (.invokestatic 498, 3) := by decide +kernel
theorem d30_24 : decode k30_ 24 = .ok (.ireturn, 1) := by decide +kernel
def Q_sCh (Z : State) (xs ts : Addr) (ks : ClassId) (ce ze : Int32) (wv : List Value) (ds : List Int32) (G1 : Int32) (Gf : Value) (k : Nat) (cc : Int32) : QT := fun h0 n0 v h L => v = some (.int cc) ∧ Fr n0 L ∧ h = h0
abbrev mn_30 : MethodName := ⟨"java/lang/String", "charAt", "(I)C"⟩
theorem rm_sCh (hw : HW a0 Z) (xs ts : Addr) (ks : ClassId) (ce ze : Int32) (wv : List Value) (ds : List Int32) (G1 : Int32) (Gf : Value) (k : Nat) (cc : Int32) (Z0 : n0 ≤ h0.size) (E_xs : Exa Z h0 xs cS) (Fv_xs : Fld Z h0 xs cS "value" "[B" (.ref ts)) (Fc_xs : Fld Z h0 xs cS "coder" "B" (.int ce)) (V_ts : Arv Z h0 ts ks .byte ze wv i0) (hkb : KB ce ze wv ds) (Sc : SU4 Z G1) (hz : ¬ G1 = 0) (Sa : SU1 Z) (Sh : SU2 Z) (Sl : SU3 Z) (Sf : SU5 Z Gf) (rGf : Gf.isRef = true) (OL : Old Z n0 h0) (hkx : ds[k]? = some cc) (hdl : ds.length ≤ 100) :
  MetP l Z mn_30 k30_ 2 (some .char) (rr 4 0 0 53) ws #[(.ref xs), (.int (Int32.ofNat k))] h0 (Q_sCh Z xs ts ks ce ze wv ds G1 Gf k cc h0 n0) := by
 refine begH n0 cS rfl (plainFor_of_name pn_2) fun p e s m below meth c s₁ s0 hrt hlk hZ hx hby hml hown hnm X0 e0 N0 P0 => ?_
 replace P0 : PP p e below s₁ (mkF m 0 #[rv xs, iv (Int32.ofNat k)] []) s0 := castPP (ef_3 m xs (Int32.ofNat k)) P0
 rcases hkb with ⟨icd, ⟨rfl, rfl, rfl, lld⟩ | ⟨rfl, rfl, rfl⟩⟩
 ·
  have P1 := P0.bt X0 hx hby b106_ rfl
  obtain ⟨_, T2, L2, X2, hQ2, P2⟩ := cVi P1 X0 hx hZ hown hw e0 E_xs hml 280 283 282 284 2 (rm_isLat0 hw xs G1 Z0 Fc_xs Sc OL hz) rfl rfl rfl rfl rfl rfl rfl [] [] 0 (lenOf pd_20 rfl) rfl (Nat.le_of_eq rfl) (hb hby d30_1) rfl (by decide)
  obtain ⟨rfl, N2q, e2⟩ := hQ2
  have N2 := Fr.app N0 N2q
  have P3 : PP p e below T2 (mkF m 8 #[rv xs, iv (Int32.ofNat k)] [(.ref xs)]) s0 := fun q_ k_ => P2 q_ (by
   refine XS.ifNo X2.here hx rfl (hb hby d30_4) rfl ((if0 _ _).trans (feq ((by decide) : ¬ ((1 : Int32) = (0 : Int32)))).1) ?_
   exact bt X2 hx hby b107_ rfl k_)
  obtain ⟨T4, X4, e4, P4⟩ := gF P3 X2 hx hZ hown hw 28 e2 Fv_xs (hb hby d30_8)
  have P5 := P4.bt X4 hx hby b108_ rfl
  obtain ⟨_, T6, L6, X6, hQ6, P6⟩ := cSt P5 X4 hx hZ hown hw e4 hml 285 286 287 288 (rm_lCh hw ts ks ds Gf k cc Z0 V_ts rGf Sf OL hkx hdl icd lld) rfl rfl rfl rfl rfl rfl [(.ref ts), (.int (Int32.ofNat k))] [] 0 (lenOf pd_16 rfl) rfl (Nat.le_of_eq rfl) (hb hby d30_12) rfl (by decide)
  obtain ⟨rfl, N6q, e6⟩ := hQ6
  have N6 := Fr.app N2 N6q
  exact endN 15 #[rv xs, iv (Int32.ofNat k)] (rest := []) X6 hx hrt (by simp) hlk P6 (hb hby d30_15) e6 (by decide) (by decide) (show Q_sCh Z xs ts ks (0 : Int32) (Int32.ofNat ds.length) (ds.map bv) ds G1 Gf k cc h0 n0 _ _ _ from ⟨congrArg (fun z => some (Value.int z)) (own_narc (icd _ (own_mem hkx))), N6, rfl⟩)
 ·
  have P7 := P0.bt X0 hx hby b106_ rfl
  obtain ⟨_, T8, L8, X8, hQ8, P8⟩ := cVi P7 X0 hx hZ hown hw e0 E_xs hml 280 283 282 284 2 (rm_isLat1 hw xs G1 Z0 Fc_xs Sc OL hz) rfl rfl rfl rfl rfl rfl rfl [] [] 0 (lenOf pd_20 rfl) rfl (Nat.le_of_eq rfl) (hb hby d30_1) rfl (by decide)
  obtain ⟨rfl, N8q, e8⟩ := hQ8
  have N8 := Fr.app N0 N8q
  have P9 : PP p e below T8 (mkF m 17 #[rv xs, iv (Int32.ofNat k)] [(.ref xs)]) s0 := fun q_ k_ => P8 q_ (by
   refine XS.ifYes X8.here hx rfl (pc0 := 4) (pc' := 16) rfl (hb hby d30_4) rfl ((if0 _ _).trans (teq ((by decide) : (0 : Int32) = (0 : Int32))).1) (by decide) (by decide) ?_
   exact bt X8 hx hby b109_ rfl k_)
  obtain ⟨T10, X10, e10, P10⟩ := gF P9 X8 hx hZ hown hw 28 e8 Fv_xs (hb hby d30_17)
  have P11 := P10.bt X10 hx hby b110_ rfl
  obtain ⟨_, T12, L12, X12, hQ12, P12⟩ := cSt P11 X10 hx hZ hown hw e10 hml 485 486 17 487 (rm_uCh hw ts ks ds Gf k cc Z0 V_ts rGf Sf Sa Sh Sl OL hkx (icd _ (own_mem hkx)) hdl) rfl rfl rfl rfl rfl rfl [(.ref ts), (.int (Int32.ofNat k))] [] 0 (lenOf pd_16 rfl) rfl (Nat.le_of_eq rfl) (hb hby d30_21) rfl (by decide)
  obtain ⟨rfl, N12q, e12⟩ := hQ12
  have N12 := Fr.app N8 N12q
  exact endN 24 #[rv xs, iv (Int32.ofNat k)] (rest := []) X12 hx hrt (by simp) hlk P12 (hb hby d30_24) e12 (by decide) (by decide) (show Q_sCh Z xs ts ks (1 : Int32) (Int32.ofNat (2 * ds.length)) (wid ds) ds G1 Gf k cc h0 n0 _ _ _ from ⟨congrArg (fun z => some (Value.int z)) (own_narc (icd _ (own_mem hkx))), N12, rfl⟩)
abbrev k31_ := jdk_29_method_69_code
theorem d31_2 : decode k31_ 2 = .ok (.if_icmp .gt 7, 3) := by decide +kernel
theorem b111_ : dl k31_ 0 [(.iload_n 0, 1), (.iload_n 1, 1)] = true := by decide +kernel
theorem b112_ : dl k31_ 9 [(.iload_n 1, 1)] = true := by decide +kernel
theorem d31_10 : decode k31_ 10 = .ok (.ireturn, 1) := by decide +kernel
theorem b113_ : dl k31_ 5 [(.iload_n 0, 1), (.goto 4, 3)] = true := by decide +kernel
def Q_mMin (Z : State) (na nb : Nat) : QT := fun h0 n0 v h L => v = some (.int (Int32.ofNat (min na nb))) ∧ Fr n0 L ∧ h = h0
abbrev mn_31 : MethodName := ⟨"java/lang/Math", "min", "(II)I"⟩
theorem rm_mMin (hw : HW a0 Z) (na nb : Nat) (Z0 : n0 ≤ h0.size) (hna : na < 2147483648) (hnb : nb < 2147483648) :
  MetP l Z mn_31 k31_ 2 (some .int) (rr 0 0 0 0) ws #[(.int (Int32.ofNat na)), (.int (Int32.ofNat nb))] h0 (Q_mMin Z na nb h0 n0) := by
 refine begH n0 "java/lang/Math" rfl (by decide +kernel) fun p e s m below meth c s₁ s0 hrt hlk hZ hx hby hml hown hnm X0 e0 N0 P0 => ?_
 replace P0 : PP p e below s₁ (mkF m 0 #[iv (Int32.ofNat na), iv (Int32.ofNat nb)] []) s0 := castPP (ef_6 m (Int32.ofNat na) (Int32.ofNat nb)) P0
 have P1 := P0.bt X0 hx hby b111_ rfl
 by_cases hc2_2 : (Int32.ofNat nb) < (Int32.ofNat na)
 ·
  have P3 : PP p e below s₁ (mkF m 10 #[iv (Int32.ofNat na), iv (Int32.ofNat nb)] [(.int (Int32.ofNat nb))]) s0 := fun q_ k_ => P1 q_ (by
   refine XS.icmpYes X0.here hx rfl (pc0 := 2) (pc' := 9) rfl (hb hby d31_2) rfl (tlt (hc2_2 : (Int32.ofNat nb) < (Int32.ofNat na))).2.2.1 (by decide) (by decide) ?_
   exact bt X0 hx hby b112_ rfl k_)
  exact endI 10 #[iv (Int32.ofNat na), iv (Int32.ofNat nb)] (rest := []) X0 hx hrt hlk P3 (hb hby d31_10) e0 (by decide) (by decide) (show Q_mMin Z na nb h0 n0 _ _ _ from ⟨congrArg (fun z => some (Value.int z)) (congrArg Int32.ofNat ((Nat.min_eq_right (Nat.le_of_lt ((own_ltn _ _ hnb hna).mp hc2_2))).symm)), N0, rfl⟩)
 ·
  have P4 : PP p e below s₁ (mkF m 10 #[iv (Int32.ofNat na), iv (Int32.ofNat nb)] [(.int (Int32.ofNat na))]) s0 := fun q_ k_ => P1 q_ (by
   refine XS.icmpNo X0.here hx rfl (hb hby d31_2) rfl (flt (hc2_2 : ¬ ((Int32.ofNat nb) < (Int32.ofNat na)))).2.2.1 ?_
   exact bt X0 hx hby b113_ rfl k_)
  exact endI 10 #[iv (Int32.ofNat na), iv (Int32.ofNat nb)] (rest := []) X0 hx hrt hlk P4 (hb hby d31_10) e0 (by decide) (by decide) (show Q_mMin Z na nb h0 n0 _ _ _ from ⟨congrArg (fun z => some (Value.int z)) (congrArg Int32.ofNat ((Nat.min_eq_left (Nat.le_of_not_lt fun q => hc2_2 ((own_ltn _ _ hnb hna).mpr q))).symm)), N0, rfl⟩)
theorem ef_23 (m : MethodId) (x1 : Int32) : entryFrame m #[(.int 0), (.int x1)] 2 = mkF m 0 #[.val (.int 0), .val (.int x1)] [] := by first | (simp [entryFrame, mkF, argsToLocals, Value.category]; done) | rfl
theorem pn_5 : plainName "java/util/Arrays" = true := by first | (simp [plainName, overriddenIn]; done) | decide +kernel
abbrev k32_ := jdk_65_method_131_code
theorem d32_2 : decode k32_ 2 = .ok (.if_icmp .ge 35, 3) := by decide +kernel
theorem b114_ : dl k32_ 0 [(.iload_n 1, 1), (.iload_n 0, 1)] = true := by decide +kernel
theorem d32_37 : decode k32_ 37 = .ok (.return_, 1) := by decide +kernel
def Q_ckLen (Z : State) (nb : Nat) : QT := fun h0 n0 v h L => v = none ∧ Fr n0 L ∧ h = h0
abbrev mn_32 : MethodName := ⟨"java/util/Arrays", "checkLength", "(II)V"⟩
theorem rm_ckLen (hw : HW a0 Z) (nb : Nat) (Z0 : n0 ≤ h0.size) (hnb : nb < 2147483648) :
  MetP l Z mn_32 k32_ 2 none (rr 0 0 0 0) ws #[i0, (.int (Int32.ofNat nb))] h0 (Q_ckLen Z nb h0 n0) := by
 refine begH n0 "java/util/Arrays" rfl (plainFor_of_name pn_5) fun p e s m below meth c s₁ s0 hrt hlk hZ hx hby hml hown hnm X0 e0 N0 P0 => ?_
 replace P0 : PP p e below s₁ (mkF m 0 #[iv 0, iv (Int32.ofNat nb)] []) s0 := castPP (ef_23 m (Int32.ofNat nb)) P0
 have P1 : PP p e below s₁ (mkF m 37 #[iv 0, iv (Int32.ofNat nb)] []) s0 := fun q_ k_ => P0 q_ (by
  refine bt X0 hx hby b114_ rfl ?_
  exact XS.icmpYes X0.here hx rfl (pc0 := 2) (pc' := 37) rfl (hb hby d32_2) rfl (flt ((own_nn nb hnb) : ¬ ((Int32.ofNat nb) < (0 : Int32)))).2.1 (by decide) (by decide) k_)
 exact endV 37 #[iv 0, iv (Int32.ofNat nb)] X0 hx hrt hlk P1 (hb hby d32_37) e0 (by decide) (by decide) (show Q_ckLen Z nb h0 n0 _ _ _ from ⟨rfl, N0, rfl⟩)
theorem ef_24 (m : MethodId) (x0 : Addr) (x2 : Int32) : entryFrame m #[(.ref x0), (.int 0), (.int x2)] 5 = mkF m 0 #[.val (.ref x0), .val (.int 0), .val (.int x2), .unset, .unset] [] := by first | (simp [entryFrame, mkF, argsToLocals, Value.category]; done) | rfl
abbrev k33_ := jdk_65_method_133_code
theorem b115_ : dl k33_ 0 [(.iload_n 1, 1), (.iload_n 2, 1)] = true := by decide +kernel
theorem d33_2 : decode k33_ 2 = .ok (.invokestatic 343, 3) := by decide +kernel
theorem b116_ : dl k33_ 5 [(.iload_n 2, 1), (.iload_n 1, 1), (.isub, 1)] = true := by decide +kernel
theorem b117_ : dl k33_ 8 [(.istore_n 3, 1), (.iload_n 3, 1)] = true := by decide +kernel
theorem d33_10 : decode k33_ 10 = .ok (.newarray .byte, 2) := by decide +kernel
theorem b118_ : dl k33_ 12 [(.astore 4, 2), (.aload_n 0, 1), (.iload_n 1, 1), (.aload 4, 2), (.iconst 0, 1), (.aload_n 0, 1)] = true := by decide +kernel
theorem d33_20 : decode k33_ 20 = .ok (.arraylength, 1) := by decide +kernel
theorem b119_ : dl k33_ 21 [(.iload_n 1, 1), (.isub, 1)] = true := by decide +kernel
theorem b120_ : dl k33_ 23 [(.iload_n 3, 1)] = true := by decide +kernel
theorem pd_21 : parseMethodDescriptor "(II)I" = some ⟨[.int, .int], some .int⟩ := by decide +kernel
theorem d33_24 : decode k33_ 24 = .ok (.invokestatic 304, 3) := by decide +kernel
theorem d33_27 : decode k33_ 27 = .ok (.invokestatic 150, 3) := by decide +kernel
theorem b121_ : dl k33_ 30 [(.aload 4, 2)] = true := by decide +kernel
theorem d33_32 : decode k33_ 32 = .ok (.areturn, 1) := by decide +kernel
def Q_cprB (Z : State) (t : Addr) (kb : ClassId) (bs : List Value) (cp : Nat) : QT := fun h0 n0 v h L => ∃ (tn : Addr) (kn : ClassId), v = some (.ref tn) ∧ Fr n0 L ∧ Keep h0 h [] ∧ (h0.size ≤ tn) ∧ (Arv Z h tn kn .byte (Int32.ofNat bs.length) bs i0)
abbrev mn_33 : MethodName := ⟨"java/util/Arrays", "copyOfRangeByte", "([BII)[B"⟩
theorem rm_cprB (hw : HW a0 Z) (t : Addr) (kb : ClassId) (bs : List Value) (cp : Nat) (Z0 : n0 ≤ h0.size) (V_t : Arv Z h0 t kb .byte (Int32.ofNat cp) bs i0) (hm : bs.length < cp) (hn : cp ≤ 32) :
  MetP l Z mn_33 k33_ 5 (some (.array .byte)) (rr 1 1 32 18) ws #[(.ref t), i0, (.int (Int32.ofNat bs.length))] h0 (Q_cprB Z t kb bs cp h0 n0) := by
 refine begH n0 "java/util/Arrays" rfl (plainFor_of_name pn_5) fun p e s m below meth c s₁ s0 hrt hlk hZ hx hby hml hown hnm X0 e0 N0 P0 => ?_
 replace P0 : PP p e below s₁ (mkF m 0 #[rv t, iv 0, iv (Int32.ofNat bs.length), .unset, .unset] []) s0 := castPP (ef_24 m t (Int32.ofNat bs.length)) P0
 have P1 := P0.bt X0 hx hby b115_ rfl
 obtain ⟨_, T2, L2, X2, hQ2, P2⟩ := cSt P1 X0 hx hZ hown hw e0 hml 262 263 257 264 (rm_ckLen hw bs.length Z0 (by omega)) rfl rfl rfl rfl rfl rfl [i0, (.int (Int32.ofNat bs.length))] [] 0 (lenOf pd_3 rfl) rfl (Nat.le_of_eq rfl) (hb hby d33_2) rfl (by decide)
 obtain ⟨rfl, N2q, e2⟩ := hQ2
 have N2 := Fr.app N0 N2q
 have P3 : PP p e below T2 (mkF m 8 #[rv t, iv 0, iv (Int32.ofNat bs.length), .unset, .unset] [(.int ((Int32.ofNat bs.length) - (0 : Int32)))]) s0 := fun q_ k_ => P2 q_ (by
  exact bt X2 hx hby b116_ rfl k_)
 have P4 : PP p e below T2 (mkF m 8 #[rv t, iv 0, iv (Int32.ofNat bs.length), .unset, .unset] [(.int (Int32.ofNat bs.length))]) s0 := fun q_ k_ => P3 q_ (by rw [show Int32.ofNat bs.length - (0 : Int32) = Int32.ofNat bs.length from own_sub bs.length 0 (Nat.zero_le _)]; exact k_)
 have P5 := P4.bt X2 hx hby b117_ rfl
 obtain ⟨T6, h6, k6, X6, e6, E6, A6, st6⟩ := newP X2 hx hZ (ww hw 19 rfl) e2 (g := P5.g) rfl (hb hby d33_10) rfl (own_nn _ (by omega)) (cap := 32) (by rw [own_cl _ (by omega)]; omega) (by decide) (by decide) (by decide)
 obtain ⟨b6, g6⟩ : ∃ z, z = h0.size := ⟨_, rfl⟩
 rw [← g6] at A6 st6
 have P7 := P5.st st6
 have sz_b6 : h0.size ≤ b6 := Nat.le_trans (Nat.le_refl h0.size) (Nat.le_of_eq g6.symm)
 replace V_t := V_t.ext E6
 have K6 := (Keep.refl h0 []).ext E6
 obtain ⟨Lf8, X6, N8⟩ := fixL X6 N2 1 32 rfl rfl
 have V_b6 : Arv Z h6 b6 k6 .byte (Int32.ofNat bs.length) (List.replicate bs.length i0) i0 := (Arv.new A6 (own_nn _ (by omega))).pad (fun i => pad_rep [] i0 bs.length i)
 have P9 : PP p e below T6 (mkF m 20 #[rv t, iv 0, iv (Int32.ofNat bs.length), iv (Int32.ofNat bs.length), rv b6] [(.ref t), i0, (.ref b6), i0, (.ref t)]) s0 := fun q_ k_ => P7 q_ (by
  exact bt X6 hx hby b118_ rfl k_)
 obtain ⟨cl10, Ar10, -, S10, M10, -, -⟩ := id V_t
 have P11 : PP p e below T6 (mkF m 21 #[rv t, iv 0, iv (Int32.ofNat bs.length), iv (Int32.ofNat bs.length), rv b6] [(.int (Int32.ofNat cp)), i0, (.ref b6), i0, (.ref t)]) s0 := fun q_ k_ => P9 q_ (by
  refine X6.arraylength hx (by rw [e6]; exact Ar10.1) (State.isArrayOf_alike hZ.alike Ar10.2.1) (g := P9.g) rfl rfl (hb hby d33_20) _ ?_
  rw [len_of S10 M10]
  exact k_)
 have P12 := P11.bt X6 hx hby b119_ rfl
 have P13 : PP p e below T6 (mkF m 23 #[rv t, iv 0, iv (Int32.ofNat bs.length), iv (Int32.ofNat bs.length), rv b6] [(.int (Int32.ofNat cp)), i0, (.ref b6), i0, (.ref t)]) s0 := fun q_ k_ => P12 q_ (by show GG p e below T6 (mkF m 23 #[rv t, iv 0, iv (Int32.ofNat bs.length), iv (Int32.ofNat bs.length), rv b6] [(.int ((Int32.ofNat cp) - (0 : Int32))), i0, (.ref b6), i0, (.ref t)]) q_; rw [show Int32.ofNat cp - (0 : Int32) = Int32.ofNat cp from own_sub cp 0 (Nat.zero_le _)]; exact k_)
 have P14 := P13.bt X6 hx hby b120_ rfl
 obtain ⟨_, T15, L15, X15, hQ15, P15⟩ := cSt P14 X6 hx hZ hown hw e6 hml 265 266 267 268 (rm_mMin hw cp bs.length (zT Z0 K6.1) (by omega) (by omega)) rfl rfl rfl rfl rfl rfl [(.int (Int32.ofNat cp)), (.int (Int32.ofNat bs.length))] [i0, (.ref b6), i0, (.ref t)] 4 (lenOf pd_21 rfl) rfl (Nat.le_of_eq rfl) (hb hby d33_24) rfl (by decide)
 obtain ⟨rfl, N15q, e15⟩ := hQ15
 have N15 := Fr.app N8 N15q
 have P16 : PP p e below T15 (mkF m 27 #[rv t, iv 0, iv (Int32.ofNat bs.length), iv (Int32.ofNat bs.length), rv b6] [(.int (Int32.ofNat bs.length)), i0, (.ref b6), i0, (.ref t)]) s0 := fun q_ k_ => P15 q_ (by show GG p e below T15 (mkF m 27 #[rv t, iv 0, iv (Int32.ofNat bs.length), iv (Int32.ofNat bs.length), rv b6] [(.int (Int32.ofNat (min cp bs.length))), i0, (.ref b6), i0, (.ref t)]) q_; rw [show Int32.ofNat (min cp bs.length) = Int32.ofNat bs.length by rw [Nat.min_eq_right (by omega)]]; exact k_)
 obtain ⟨T17, h17, L17, X17, e17, N17, Kc17, Va17, st17⟩ := cpA X15 hx hZ hown (ww hw 269 rfl) (ww hw 165 rfl) (ww hw 163 rfl) (ww hw 164 rfl) e15 V_t V_b6 (us := bs) (Or.inl ⟨rfl, rfl⟩) (by decide) (by decide) (own_nn _ (by omega)) (by rw [own_cl _ (by omega), own_cl _ (by omega)]; show 0 + _ ≤ _; omega) (by rw [own_cl _ (by omega)]; show 0 + _ ≤ _; omega) (by rw [own_cl _ (by omega)]; exact own_us bs _) (by rw [own_cl _ (by omega), List.length_replicate]; show 0 + _ ≤ _; omega) N15 (Nat.le_trans Z0 sz_b6) (g := P16.g) rfl (by rw [hml]; rfl) rfl (hb hby d33_27) (by decide) (W := 0) (by show 2 * 0 + _ ≤ _; exact Nat.le_of_eq rfl) (by decide)
 have P18 := P16.st st17
 have K17 := K6.trans Kc17 (allS (P := fun x => x ∈ [] ∨ h0.size ≤ x) (Or.inr sz_b6) all0)
 have V_b6 : Arv Z h17 b6 k6 .byte (Int32.ofNat bs.length) bs i0 := by
   have q := Va17
   rw [own_cl _ (by omega), show (0 : Int32).toNatClampNeg = 0 from rfl, own_cpD bs _ _ rfl] at q
   exact q
 have P19 := P18.bt X17 hx hby b121_ rfl
 exact endA 32 #[rv t, iv 0, iv (Int32.ofNat bs.length), iv (Int32.ofNat bs.length), rv b6] (rest := []) X17 hx hrt rfl hlk P19 (hb hby d33_32) e17 (by decide) (by decide) (show Q_cprB Z t kb bs cp h0 n0 _ _ _ from ⟨b6, k6, rfl, N17, K17, sz_b6, V_b6⟩)
theorem ef_25 (m : MethodId) (x0 : Addr) (x2 : Int32) : entryFrame m #[(.ref x0), (.int 0), (.int x2)] 3 = mkF m 0 #[.val (.ref x0), .val (.int 0), .val (.int x2)] [] := by first | (simp [entryFrame, mkF, argsToLocals, Value.category]; done) | rfl
abbrev k34_ := jdk_65_method_132_code
theorem d34_1 : decode k34_ 1 = .ok (.ifCond .ne 9, 3) := by decide +kernel
theorem b122_ : dl k34_ 0 [(.iload_n 1, 1)] = true := by decide +kernel
theorem b123_ : dl k34_ 4 [(.iload_n 2, 1), (.aload_n 0, 1)] = true := by decide +kernel
theorem d34_6 : decode k34_ 6 = .ok (.arraylength, 1) := by decide +kernel
theorem d34_7 : decode k34_ 7 = .ok (.if_icmp .eq 10, 3) := by decide +kernel
theorem b124_ : dl k34_ 10 [(.aload_n 0, 1), (.iload_n 1, 1), (.iload_n 2, 1)] = true := by decide +kernel
theorem pd_22 : parseMethodDescriptor "([BII)[B" = some ⟨[(.array .byte), .int, .int], some (.array .byte)⟩ := by decide +kernel
theorem d34_13 : decode k34_ 13 = .ok (.invokestatic 339, 3) := by decide +kernel
theorem d34_16 : decode k34_ 16 = .ok (.areturn, 1) := by decide +kernel
def Q_cpr (Z : State) (t : Addr) (kb : ClassId) (bs : List Value) (cp nl : Nat) : QT := fun h0 n0 v h L => ∃ (tn : Addr) (kn : ClassId), v = some (.ref tn) ∧ Fr n0 L ∧ Keep h0 h [] ∧ (h0.size ≤ tn) ∧ (Arv Z h tn kn .byte (Int32.ofNat nl) bs i0)
abbrev mn_34 : MethodName := ⟨"java/util/Arrays", "copyOfRange", "([BII)[B"⟩
theorem rm_cpr (hw : HW a0 Z) (t : Addr) (kb : ClassId) (bs : List Value) (cp nl : Nat) (Z0 : n0 ≤ h0.size) (V_t : Arv Z h0 t kb .byte (Int32.ofNat cp) bs i0) (hm : bs.length < cp) (hn : cp ≤ 32) (hnl : bs.length = nl) :
  MetP l Z mn_34 k34_ 3 (some (.array .byte)) (rr 2 1 32 34) ws #[(.ref t), i0, (.int (Int32.ofNat nl))] h0 (Q_cpr Z t kb bs cp nl h0 n0) := by
 refine begH n0 "java/util/Arrays" rfl (plainFor_of_name pn_5) fun p e s m below meth c s₁ s0 hrt hlk hZ hx hby hml hown hnm X0 e0 N0 P0 => ?_
 replace P0 : PP p e below s₁ (mkF m 0 #[rv t, iv 0, iv (Int32.ofNat nl)] []) s0 := castPP (ef_25 m t (Int32.ofNat nl)) P0
 subst hnl
 have P1 : PP p e below s₁ (mkF m 6 #[rv t, iv 0, iv (Int32.ofNat (bs.length))] [(.ref t), (.int (Int32.ofNat (bs.length)))]) s0 := fun q_ k_ => P0 q_ (by
  refine bt X0 hx hby b122_ rfl ?_
  refine XS.ifNo X0.here hx rfl (hb hby d34_1) rfl ((if0 _ _).trans (teq ((by decide) : (0 : Int32) = (0 : Int32))).2) ?_
  exact bt X0 hx hby b123_ rfl k_)
 obtain ⟨cl2, Ar2, -, S2, M2, -, -⟩ := id V_t
 have P3 : PP p e below s₁ (mkF m 7 #[rv t, iv 0, iv (Int32.ofNat (bs.length))] [(.int (Int32.ofNat cp)), (.int (Int32.ofNat (bs.length)))]) s0 := fun q_ k_ => P1 q_ (by
  refine X0.arraylength hx (by rw [e0]; exact Ar2.1) (State.isArrayOf_alike hZ.alike Ar2.2.1) (g := P1.g) rfl rfl (hb hby d34_6) _ ?_
  rw [len_of S2 M2]
  exact k_)
 have P4 : PP p e below s₁ (mkF m 13 #[rv t, iv 0, iv (Int32.ofNat (bs.length))] [(.int (Int32.ofNat (bs.length))), i0, (.ref t)]) s0 := fun q_ k_ => P3 q_ (by
  refine XS.icmpNo X0.here hx rfl (hb hby d34_7) rfl (feq ((fun q => absurd ((own_eqn bs.length cp (by omega) (by omega)).mp q) (by omega)) : ¬ ((Int32.ofNat (bs.length)) = (Int32.ofNat cp)))).1 ?_
  exact bt X0 hx hby b124_ rfl k_)
 obtain ⟨_, T5, L5, X5, hQ5, P5⟩ := cSt P4 X0 hx hZ hown hw e0 hml 259 260 257 261 (rm_cprB hw t kb bs cp Z0 V_t hm hn) rfl rfl rfl rfl rfl rfl [(.ref t), i0, (.int (Int32.ofNat (bs.length)))] [] 0 (lenOf pd_22 rfl) rfl (Nat.le_of_eq rfl) (hb hby d34_13) rfl (by decide)
 obtain ⟨tn_5, kn_5, rfl, N5q, Kc5, po5_0, po5_1⟩ := hQ5
 have N5 := Fr.app N0 N5q
 obtain ⟨Lf6, X5, N6⟩ := fixL X5 N5 1 32 rfl rfl
 have sz_tn_5 : h0.size ≤ tn_5 := Nat.le_trans (Nat.le_refl h0.size) po5_0
 have K5 := (Keep.refl h0 []).trans Kc5 all0
 have V_tn_5 := po5_1
 exact endA 16 #[rv t, iv 0, iv (Int32.ofNat (bs.length))] (rest := []) X5 hx hrt rfl hlk P5 (hb hby d34_16) rfl (by decide) (by decide) (show Q_cpr Z t kb bs cp (bs.length) h0 n0 _ _ _ from ⟨tn_5, kn_5, rfl, N6, K5, sz_tn_5, V_tn_5⟩)
theorem ef_26 (m : MethodId) (x0 : Addr) : entryFrame m #[(.ref x0), (.int 16)] 2 = mkF m 0 #[.val (.ref x0), .val (.int 16)] [] := by first | (simp [entryFrame, mkF, argsToLocals, Value.category]; done) | rfl
abbrev k35_ := jdk_68_method_2_code
theorem b125_ : dl k35_ 0 [(.aload_n 0, 1)] = true := by decide +kernel
theorem d35_1 : decode k35_ 1 = .ok (.invokespecial 3, 3) := by decide +kernel
theorem d35_4 : decode k35_ 4 = .ok (.getstatic 18, 3) := by decide +kernel
theorem d35_7 : decode k35_ 7 = .ok (.ifCond .eq 18, 3) := by decide +kernel
theorem b126_ : dl k35_ 10 [(.aload_n 0, 1), (.iload_n 1, 1)] = true := by decide +kernel
theorem d35_12 : decode k35_ 12 = .ok (.newarray .byte, 2) := by decide +kernel
theorem d35_14 : decode k35_ 14 = .ok (.putfield 15, 3) := by decide +kernel
theorem b127_ : dl k35_ 17 [(.aload_n 0, 1), (.iconst 0, 1)] = true := by decide +kernel
theorem d35_19 : decode k35_ 19 = .ok (.putfield 22, 3) := by decide +kernel
theorem b128_ : dl k35_ 22 [(.goto 16, 3)] = true := by decide +kernel
theorem d35_38 : decode k35_ 38 = .ok (.return_, 1) := by decide +kernel
def Q_asbInit (Z : State) (sb : Addr) (u1 u2 : Value) (G1 : Int32) : QT := fun h0 n0 v h L => ∃ (tn : Addr) (kn : ClassId) (cd2 : Int32) (zb2 : Int32) (vs2 : List Value), v = none ∧ Fr n0 L ∧ Keep h0 h [sb] ∧ (h0.size ≤ tn) ∧ (Exa Z h sb cB) ∧ (Fld Z h sb cA "value" "[B" (.ref tn)) ∧ (Fld Z h sb cA "coder" "B" (.int cd2)) ∧ (Fld Z h sb cA "count" "I" (.int (Int32.ofNat ([] : List Int32).length))) ∧ (Fld Z h sb cA "maybeLatin1" "Z" i0) ∧ (Arv Z h tn kn .byte zb2 vs2 i0) ∧ (sb ≠ tn) ∧ (BB cd2 zb2 vs2 ([] : List Int32))
abbrev mn_35 : MethodName := ⟨"java/lang/AbstractStringBuilder", "<init>", "(I)V"⟩
theorem rm_asbInit (hw : HW a0 Z) (sb : Addr) (u1 u2 : Value) (G1 : Int32) (Z0 : n0 ≤ h0.size) (E_sb : Exa Z h0 sb cB) (Fv_sb : Fld Z h0 sb cA "value" "[B" u1) (Fc_sb : Fld Z h0 sb cA "coder" "B" u2) (Fn_sb : Fld Z h0 sb cA "count" "I" i0) (Fm_sb : Fld Z h0 sb cA "maybeLatin1" "Z" i0) (g_sb : n0 ≤ sb) (Sc : SU4 Z G1) (OL : Old Z n0 h0) (hz : ¬ G1 = 0) :
  MetP l Z mn_35 k35_ 2 none (rr 1 1 16 12) ws #[(.ref sb), (.int 16)] h0 (Q_asbInit Z sb u1 u2 G1 h0 n0) := by
 refine begH n0 cA rfl (plainFor_of_name pn_4) fun p e s m below meth c s₁ s0 hrt hlk hZ hx hby hml hown hnm X0 e0 N0 P0 => ?_
 replace P0 : PP p e below s₁ (mkF m 0 #[rv sb, iv 16] []) s0 := castPP (ef_26 m sb) P0
 have P1 := P0.bt X0 hx hby b125_ rfl
 obtain ⟨T2, X2, e2, st2⟩ := initO X0 hx hZ hown (ww hw 113 rfl) (ww hw 12 rfl) (ww hw 13 rfl) e0 (g := P1.g) rfl (by rw [hml]; rfl) rfl (hb hby d35_1) (by decide) (W := 0) (by show 2 * 0 + _ ≤ _; exact Nat.le_of_eq rfl) (by decide)
 have P3 := P1.st st2
 obtain ⟨T4, X4, e4, P4⟩ := gS P3 X2 hx hZ hown hw 114 e2 (Sc.ext OL.2) (hb hby d35_4)
 have P5 : PP p e below T4 (mkF m 12 #[rv sb, iv 16] [(.int 16), (.ref sb)]) s0 := fun q_ k_ => P4 q_ (by
  refine XS.ifNo X4.here hx rfl (hb hby d35_7) rfl ((if0 _ _).trans (feq (hz : ¬ (G1 = (0 : Int32)))).1) ?_
  exact bt X4 hx hby b126_ rfl k_)
 obtain ⟨T6, h6, k6, X6, e6, E6, A6, st6⟩ := newP X4 hx hZ (ww hw 19 rfl) e4 (g := P5.g) rfl (hb hby d35_12) rfl (by decide) (cap := 16) (by decide) (by decide) (by decide) (by decide)
 obtain ⟨b6, g6⟩ : ∃ z, z = h0.size := ⟨_, rfl⟩
 rw [← g6] at A6 st6
 have P7 := P5.st st6
 have ne_sb_b6 := neL E_sb.lt (Nat.le_of_eq g6.symm)
 have sz_b6 : h0.size ≤ b6 := Nat.le_trans (Nat.le_refl h0.size) (Nat.le_of_eq g6.symm)
 replace E_sb := E_sb.ext E6
 replace Fv_sb := Fv_sb.ext E6
 replace Fc_sb := Fc_sb.ext E6
 replace Fn_sb := Fn_sb.ext E6
 replace Fm_sb := Fm_sb.ext E6
 have K6 := (Keep.refl h0 [sb]).ext E6
 obtain ⟨Lf8, X6, N8⟩ := fixL X6 N0 1 16 rfl rfl
 have V_b6 : Arv Z h6 b6 k6 .byte 16 [i0, i0, i0, i0, i0, i0, i0, i0, i0, i0, i0, i0, i0, i0, i0, i0] i0 := (Arv.new A6 (by decide)).pad (pad_rep [] i0 16)
 obtain ⟨T9, h9, X9, e9, W9, st9⟩ := putF X6 hx hZ hown (host := "") (Or.inl (ww hw 115 rfl)) Via.refl e6 Fv_sb E_sb (Or.inl (ww hw 116 rfl)) (ww hw 102 rfl) (ty := (.array .byte)) (by decide) rfl rfl (g := P7.g) rfl rfl (hb hby d35_14)
 have P10 := P7.st st9
 have N9 := Fr.snoc X9 N8 g_sb
 have K9 := K6.wr W9 (Or.inl (mi 0))
 replace E_sb := E_sb.wr W9
 replace Fv_sb : Fld Z h9 sb cA "value" "[B" (.ref b6) := Fv_sb.same W9
 replace Fc_sb := Fc_sb.other W9 (Or.inr (slot_ne (Or.inl (ww hw 118 rfl)) (Or.inl (ww hw 116 rfl)) (by decide) (t := .byte) (t' := (.array .byte)) (by decide) (by decide)))
 replace Fn_sb := Fn_sb.other W9 (Or.inr (slot_ne (Or.inl (ww hw 140 rfl)) (Or.inl (ww hw 116 rfl)) (by decide) (t := .int) (t' := (.array .byte)) (by decide) (by decide)))
 replace Fm_sb := Fm_sb.other W9 (Or.inr (slot_ne (Or.inl (ww hw 484 rfl)) (Or.inl (ww hw 116 rfl)) (by decide) (t := .boolean) (t' := (.array .byte)) (by decide) (by decide)))
 replace V_b6 := V_b6.other W9 (Ne.symm ne_sb_b6)
 have P11 := P10.bt X9 hx hby b127_ rfl
 obtain ⟨T12, h12, X12, e12, W12, st12⟩ := putFN X9 hx hZ hown (ww hw 117 rfl) Via.refl e9 Fc_sb E_sb (Or.inl (ww hw 118 rfl)) (ww hw 102 rfl) (ty := .byte) (v' := i0) (by decide) rfl (rfl) (g := P11.g) rfl rfl (hb hby d35_19)
 have P13 := P11.st st12
 have N12 := Fr.snoc X12 N9 g_sb
 have K12 := K9.wr W12 (Or.inl (mi 0))
 replace E_sb := E_sb.wr W12
 replace Fv_sb := Fv_sb.other W12 (Or.inr (slot_ne (Or.inl (ww hw 116 rfl)) (Or.inl (ww hw 118 rfl)) (by decide) (t := (.array .byte)) (t' := .byte) (by decide) (by decide)))
 replace Fc_sb : Fld Z h12 sb cA "coder" "B" i0 := Fc_sb.same W12
 replace Fn_sb := Fn_sb.other W12 (Or.inr (slot_ne (Or.inl (ww hw 140 rfl)) (Or.inl (ww hw 118 rfl)) (by decide) (t := .int) (t' := .byte) (by decide) (by decide)))
 replace Fm_sb := Fm_sb.other W12 (Or.inr (slot_ne (Or.inl (ww hw 484 rfl)) (Or.inl (ww hw 118 rfl)) (by decide) (t := .boolean) (t' := .byte) (by decide) (by decide)))
 replace V_b6 := V_b6.other W12 (Ne.symm ne_sb_b6)
 have P14 : PP p e below T12 (mkF m 38 #[rv sb, iv 16] []) s0 := fun q_ k_ => P13 q_ (by
  exact bt X12 hx hby b128_ rfl k_)
 replace V_b6 : Arv Z h12 b6 k6 .byte 16 [] i0 := V_b6.pad (fun i => (pad_rep [] i0 16 i).symm)
 exact endV 38 #[rv sb, iv 16] X12 hx hrt hlk P14 (hb hby d35_38) e12 (by decide) (by decide) (show Q_asbInit Z sb u1 u2 G1 h0 n0 _ _ _ from ⟨b6, k6, (0 : Int32), (16 : Int32), [], rfl, N12, K12, sz_b6, E_sb, Fv_sb, Fc_sb, Fn_sb, Fm_sb, V_b6, ne_sb_b6, own_bb0⟩)
theorem pn_6 : plainName "java/lang/StringBuilder" = true := by first | (simp [plainName, overriddenIn]; done) | decide +kernel
abbrev k36_ := jdk_67_method_1_code
theorem b129_ : dl k36_ 0 [(.aload_n 0, 1), (.bipush 16, 2)] = true := by decide +kernel
theorem pd_23 : parseMethodDescriptor "(I)V" = some ⟨[.int], none⟩ := by decide +kernel
theorem d36_3 : decode k36_ 3 = .ok (.invokespecial 1, 3) := by decide +kernel
theorem d36_6 : decode k36_ 6 = .ok (.return_, 1) := by decide +kernel
abbrev mn_36 : MethodName := ⟨"java/lang/StringBuilder", "<init>", "()V"⟩
theorem rm_sbInit (hw : HW a0 Z) (sb : Addr) (u1 u2 : Value) (G1 : Int32) (Z0 : n0 ≤ h0.size) (E_sb : Exa Z h0 sb cB) (Fv_sb : Fld Z h0 sb cA "value" "[B" u1) (Fc_sb : Fld Z h0 sb cA "coder" "B" u2) (Fn_sb : Fld Z h0 sb cA "count" "I" i0) (Fm_sb : Fld Z h0 sb cA "maybeLatin1" "Z" i0) (g_sb : n0 ≤ sb) (Sc : SU4 Z G1) (OL : Old Z n0 h0) (hz : ¬ G1 = 0) :
  MetP l Z mn_36 k36_ 1 none (rr 2 1 16 25) ws #[(.ref sb)] h0 (Q_asbInit Z sb u1 u2 G1 h0 n0) := by
 refine begH n0 cB rfl (plainFor_of_name pn_6) fun p e s m below meth c s₁ s0 hrt hlk hZ hx hby hml hown hnm X0 e0 N0 P0 => ?_
 replace P0 : PP p e below s₁ (mkF m 0 #[rv sb] []) s0 := castPP (ef_4 m sb) P0
 have P1 := P0.bt X0 hx hby b129_ rfl
 obtain ⟨_, T2, L2, X2, hQ2, P2⟩ := cIn P1 X0 hx hZ hown hw e0 hml 107 108 112 111 (rm_asbInit hw sb u1 u2 G1 Z0 E_sb Fv_sb Fc_sb Fn_sb Fm_sb g_sb Sc OL hz) rfl rfl rfl rfl rfl rfl rfl [(.int 16)] [] 0 (lenOf pd_23 rfl) rfl (Nat.le_of_eq rfl) (hb hby d36_3) rfl (by decide)
 obtain ⟨tn_2, kn_2, cd2_2, zb2_2, vs2_2, rfl, N2q, Kc2, po2_0, po2_1, po2_2, po2_3, po2_4, po2_5, po2_6, po2_7, po2_8⟩ := hQ2
 have N2 := Fr.app N0 N2q
 obtain ⟨Lf3, X2, N3⟩ := fixL X2 N2 1 16 rfl rfl
 have sz_tn_2 : h0.size ≤ tn_2 := Nat.le_trans (Nat.le_refl h0.size) po2_0
 have K2 := Kt1 (Keep.refl h0 [sb]) Kc2 (Or.inl (mi 0))
 have E_sb := po2_1
 have Fv_sb := po2_2
 have Fc_sb := po2_3
 have Fn_sb := po2_4
 have Fm_sb := po2_5
 have V_tn_2 := po2_6
 have hbb2_2 := po2_8
 exact endV 6 #[rv sb] X2 hx hrt hlk P2 (hb hby d36_6) rfl (by decide) (by decide) (show Q_asbInit Z sb u1 u2 G1 h0 n0 _ _ _ from ⟨tn_2, kn_2, cd2_2, zb2_2, vs2_2, rfl, N3, K2, sz_tn_2, E_sb, Fv_sb, Fc_sb, Fn_sb, Fm_sb, V_tn_2, po2_7, hbb2_2⟩)
theorem ef_27 (m : MethodId) (x0 : Addr) (x1 : Int32) : entryFrame m #[(.ref x0), (.int x1)] 3 = mkF m 0 #[.val (.ref x0), .val (.int x1), .unset] [] := by first | (simp [entryFrame, mkF, argsToLocals, Value.category]; done) | rfl
abbrev k37_ := jdk_68_method_9_code
theorem b130_ : dl k37_ 0 [(.aload_n 0, 1)] = true := by decide +kernel
theorem d37_1 : decode k37_ 1 = .ok (.getfield 15, 3) := by decide +kernel
theorem d37_4 : decode k37_ 4 = .ok (.arraylength, 1) := by decide +kernel
theorem b131_ : dl k37_ 5 [(.aload_n 0, 1)] = true := by decide +kernel
theorem d37_6 : decode k37_ 6 = .ok (.getfield 22, 3) := by decide +kernel
theorem d37_14 : decode k37_ 14 = .ok (.ifCond .le 24, 3) := by decide +kernel
theorem b132_ : dl k37_ 9 [(.ishr, 1), (.istore_n 2, 1), (.iload_n 1, 1), (.iload_n 2, 1), (.isub, 1)] = true := by decide +kernel
theorem d37_38 : decode k37_ 38 = .ok (.return_, 1) := by decide +kernel
def Q_ensC0 (Z : State) (sb t : Addr) (kb : ClassId) (vs : List Value) (mc : Nat) : QT := fun h0 n0 v h L => v = none ∧ Fr n0 L ∧ h = h0
abbrev mn_37 : MethodName := ⟨"java/lang/AbstractStringBuilder", "ensureCapacityInternal", "(I)V"⟩
theorem rm_ensC0 (hw : HW a0 Z) (sb t : Addr) (kb : ClassId) (vs : List Value) (mc : Nat) (Z0 : n0 ≤ h0.size) (E_sb : Exa Z h0 sb cB) (Fv_sb : Fld Z h0 sb cA "value" "[B" (.ref t)) (Fc_sb : Fld Z h0 sb cA "coder" "B" i0) (V_t : Arv Z h0 t kb .byte 16 vs i0) (hmc : mc ≤ 16) :
  MetP l Z mn_37 k37_ 3 none (rr 0 0 0 0) ws #[(.ref sb), (.int (Int32.ofNat mc))] h0 (Q_ensC0 Z sb t kb vs mc h0 n0) := by
 refine begH n0 cA rfl (plainFor_of_name pn_4) fun p e s m below meth c s₁ s0 hrt hlk hZ hx hby hml hown hnm X0 e0 N0 P0 => ?_
 replace P0 : PP p e below s₁ (mkF m 0 #[rv sb, iv (Int32.ofNat mc), .unset] []) s0 := castPP (ef_27 m sb (Int32.ofNat mc)) P0
 have P1 := P0.bt X0 hx hby b130_ rfl
 obtain ⟨T2, X2, e2, P2⟩ := gF P1 X0 hx hZ hown hw 115 e0 Fv_sb (hb hby d37_1)
 obtain ⟨cl3, Ar3, -, S3, M3, -, -⟩ := id V_t
 have P4 : PP p e below T2 (mkF m 5 #[rv sb, iv (Int32.ofNat mc), .unset] [(.int 16)]) s0 := fun q_ k_ => P2 q_ (by
  refine X2.arraylength hx (by rw [e2]; exact Ar3.1) (State.isArrayOf_alike hZ.alike Ar3.2.1) (g := P2.g) rfl rfl (hb hby d37_4) _ ?_
  rw [len_of S3 M3]
  exact k_)
 have P5 := P4.bt X2 hx hby b131_ rfl
 obtain ⟨T6, X6, e6, P6⟩ := gF P5 X2 hx hZ hown hw 117 e2 Fc_sb (hb hby d37_6)
 have P7 : PP p e below T6 (mkF m 38 #[rv sb, iv (Int32.ofNat mc), iv 16] []) s0 := fun q_ k_ => P6 q_ (by
  refine bt X6 hx hby b132_ rfl ?_
  exact XS.ifYes X6.here hx rfl (pc0 := 14) (pc' := 38) rfl (hb hby d37_14) rfl ((if0 _ _).trans (flt ((own_cap mc 16 hmc (by decide)) : ¬ ((0 : Int32) < ((Int32.ofNat mc) - (16 : Int32))))).2.2.2) (by decide) (by decide) k_)
 exact endV 38 #[rv sb, iv (Int32.ofNat mc), iv 16] X6 hx hrt hlk P7 (hb hby d37_38) e6 (by decide) (by decide) (show Q_ensC0 Z sb t kb vs mc h0 n0 _ _ _ from ⟨rfl, N0, rfl⟩)
theorem rm_ensC1 (hw : HW a0 Z) (sb t : Addr) (kb : ClassId) (vs : List Value) (mc : Nat) (Z0 : n0 ≤ h0.size) (E_sb : Exa Z h0 sb cB) (Fv_sb : Fld Z h0 sb cA "value" "[B" (.ref t)) (Fc_sb : Fld Z h0 sb cA "coder" "B" (.int 1)) (V_t : Arv Z h0 t kb .byte 32 vs i0) (hmc : mc ≤ 16) :
  MetP l Z mn_37 k37_ 3 none (rr 0 0 0 0) ws #[(.ref sb), (.int (Int32.ofNat mc))] h0 (Q_ensC0 Z sb t kb vs mc h0 n0) := by
 refine begH n0 cA rfl (plainFor_of_name pn_4) fun p e s m below meth c s₁ s0 hrt hlk hZ hx hby hml hown hnm X0 e0 N0 P0 => ?_
 replace P0 : PP p e below s₁ (mkF m 0 #[rv sb, iv (Int32.ofNat mc), .unset] []) s0 := castPP (ef_27 m sb (Int32.ofNat mc)) P0
 have P1 := P0.bt X0 hx hby b130_ rfl
 obtain ⟨T2, X2, e2, P2⟩ := gF P1 X0 hx hZ hown hw 115 e0 Fv_sb (hb hby d37_1)
 obtain ⟨cl3, Ar3, -, S3, M3, -, -⟩ := id V_t
 have P4 : PP p e below T2 (mkF m 5 #[rv sb, iv (Int32.ofNat mc), .unset] [(.int 32)]) s0 := fun q_ k_ => P2 q_ (by
  refine X2.arraylength hx (by rw [e2]; exact Ar3.1) (State.isArrayOf_alike hZ.alike Ar3.2.1) (g := P2.g) rfl rfl (hb hby d37_4) _ ?_
  rw [len_of S3 M3]
  exact k_)
 have P5 := P4.bt X2 hx hby b131_ rfl
 obtain ⟨T6, X6, e6, P6⟩ := gF P5 X2 hx hZ hown hw 117 e2 Fc_sb (hb hby d37_6)
 have P7 : PP p e below T6 (mkF m 38 #[rv sb, iv (Int32.ofNat mc), iv 16] []) s0 := fun q_ k_ => P6 q_ (by
  refine bt X6 hx hby b132_ rfl ?_
  exact XS.ifYes X6.here hx rfl (pc0 := 14) (pc' := 38) rfl (hb hby d37_14) rfl ((if0 _ _).trans (flt ((own_cap mc 16 hmc (by decide)) : ¬ ((0 : Int32) < ((Int32.ofNat mc) - (16 : Int32))))).2.2.2) (by decide) (by decide) k_)
 exact endV 38 #[rv sb, iv (Int32.ofNat mc), iv 16] X6 hx hrt hlk P7 (hb hby d37_38) e6 (by decide) (by decide) (show Q_ensC0 Z sb t kb vs mc h0 n0 _ _ _ from ⟨rfl, N0, rfl⟩)
theorem ef_28 (m : MethodId) (x0 : Addr) : entryFrame m #[(.ref x0)] 2 = mkF m 0 #[.val (.ref x0), .unset] [] := by first | (simp [entryFrame, mkF, argsToLocals, Value.category]; done) | rfl
abbrev k38_ := jdk_68_method_11_code
theorem b133_ : dl k38_ 0 [(.aload_n 0, 1)] = true := by decide +kernel
theorem d38_1 : decode k38_ 1 = .ok (.invokevirtual 83, 3) := by decide +kernel
theorem d38_4 : decode k38_ 4 = .ok (.ifCond .ne 4, 3) := by decide +kernel
theorem b134_ : dl k38_ 8 [(.aload_n 0, 1)] = true := by decide +kernel
theorem d38_9 : decode k38_ 9 = .ok (.getfield 15, 3) := by decide +kernel
theorem d38_12 : decode k38_ 12 = .ok (.arraylength, 1) := by decide +kernel
theorem d38_13 : decode k38_ 13 = .ok (.invokestatic 26, 3) := by decide +kernel
theorem b135_ : dl k38_ 16 [(.astore_n 1, 1), (.aload_n 0, 1)] = true := by decide +kernel
theorem d38_18 : decode k38_ 18 = .ok (.getfield 15, 3) := by decide +kernel
theorem b136_ : dl k38_ 21 [(.iconst 0, 1), (.aload_n 1, 1), (.iconst 0, 1), (.aload_n 0, 1)] = true := by decide +kernel
theorem d38_25 : decode k38_ 25 = .ok (.getfield 79, 3) := by decide +kernel
theorem d38_28 : decode k38_ 28 = .ok (.invokestatic 125, 3) := by decide +kernel
theorem b137_ : dl k38_ 31 [(.aload_n 0, 1), (.aload_n 1, 1)] = true := by decide +kernel
theorem d38_33 : decode k38_ 33 = .ok (.putfield 15, 3) := by decide +kernel
theorem b138_ : dl k38_ 36 [(.aload_n 0, 1), (.iconst 1, 1)] = true := by decide +kernel
theorem d38_38 : decode k38_ 38 = .ok (.putfield 22, 3) := by decide +kernel
theorem d38_41 : decode k38_ 41 = .ok (.return_, 1) := by decide +kernel
def Q_infl0 (Z : State) (sb t : Addr) (kb : ClassId) (cs : List Int32) (G1 : Int32) (Gf : Value) : QT := fun h0 n0 v h L => ∃ (tn : Addr) (kn : ClassId), v = none ∧ Fr n0 L ∧ Keep h0 h [sb] ∧ (h0.size ≤ tn) ∧ (Exa Z h sb cB) ∧ (Fld Z h sb cA "value" "[B" (.ref tn)) ∧ (Fld Z h sb cA "coder" "B" (.int 1)) ∧ (Fld Z h sb cA "count" "I" (.int (Int32.ofNat cs.length))) ∧ (Fld Z h sb cA "maybeLatin1" "Z" i0) ∧ (Arv Z h tn kn .byte 32 (wid cs) i0) ∧ (sb ≠ tn)
abbrev mn_38 : MethodName := ⟨"java/lang/AbstractStringBuilder", "inflate", "()V"⟩
theorem rm_infl0 (hw : HW a0 Z) (sb t : Addr) (kb : ClassId) (cs : List Int32) (G1 : Int32) (Gf : Value) (Z0 : n0 ≤ h0.size) (E_sb : Exa Z h0 sb cB) (Fv_sb : Fld Z h0 sb cA "value" "[B" (.ref t)) (Fc_sb : Fld Z h0 sb cA "coder" "B" i0) (Fn_sb : Fld Z h0 sb cA "count" "I" (.int (Int32.ofNat cs.length))) (Fm_sb : Fld Z h0 sb cA "maybeLatin1" "Z" i0) (V_t : Arv Z h0 t kb .byte 16 (cs.map bv) i0) (g_sb : n0 ≤ sb) (ne_sb_t : sb ≠ t) (Sc : SU4 Z G1) (hz : ¬ G1 = 0) (Sa : SU1 Z) (Sh : SU2 Z) (Sl : SU3 Z) (Sf : SU5 Z Gf) (rGf : Gf.isRef = true) (OL : Old Z n0 h0) (hcl : cs.length ≤ 16) (icb : CC cs) (llb : LL cs) :
  MetP l Z mn_38 k38_ 2 none (rr 5 1 32 76) ws #[(.ref sb)] h0 (Q_infl0 Z sb t kb cs G1 Gf h0 n0) := by
 refine begH n0 cA rfl (plainFor_of_name pn_4) fun p e s m below meth c s₁ s0 hrt hlk hZ hx hby hml hown hnm X0 e0 N0 P0 => ?_
 replace P0 : PP p e below s₁ (mkF m 0 #[rv sb, .unset] []) s0 := castPP (ef_28 m sb) P0
 have P1 := P0.bt X0 hx hby b133_ rfl
 obtain ⟨_, T2, L2, X2, hQ2, P2⟩ := cVi P1 X0 hx hZ hown hw e0 E_sb hml 410 253 252 254 111 (rm_asbLat0 hw sb G1 Z0 Fc_sb Sc OL hz) rfl rfl rfl rfl rfl rfl rfl [] [] 0 (lenOf pd_20 rfl) rfl (Nat.le_of_eq rfl) (hb hby d38_1) rfl (by decide)
 obtain ⟨rfl, N2q, e2⟩ := hQ2
 have N2 := Fr.app N0 N2q
 have P3 : PP p e below T2 (mkF m 9 #[rv sb, .unset] [(.ref sb)]) s0 := fun q_ k_ => P2 q_ (by
  refine XS.ifYes X2.here hx rfl (pc0 := 4) (pc' := 8) rfl (hb hby d38_4) rfl ((if0 _ _).trans (feq ((by decide) : ¬ ((1 : Int32) = (0 : Int32)))).2) (by decide) (by decide) ?_
  exact bt X2 hx hby b134_ rfl k_)
 obtain ⟨T4, X4, e4, P4⟩ := gF P3 X2 hx hZ hown hw 115 e2 Fv_sb (hb hby d38_9)
 obtain ⟨cl5, Ar5, -, S5, M5, -, -⟩ := id V_t
 have P6 : PP p e below T4 (mkF m 13 #[rv sb, .unset] [(.int 16)]) s0 := fun q_ k_ => P4 q_ (by
  refine X4.arraylength hx (by rw [e4]; exact Ar5.1) (State.isArrayOf_alike hZ.alike Ar5.2.1) (g := P4.g) rfl rfl (hb hby d38_12) _ ?_
  rw [len_of S5 M5]
  exact k_)
 obtain ⟨_, T7, L7, X7, hQ7, P7⟩ := cSt P6 X4 hx hZ hown hw e4 hml 451 452 17 453 (rm_nbf16 hw Z0) rfl rfl rfl rfl rfl rfl [(.int 16)] [] 0 (lenOf pd_9 rfl) rfl (Nat.le_of_eq rfl) (hb hby d38_13) rfl (by decide)
 obtain ⟨t_7, kb_7, rfl, N7q, Kc7, po7_0, po7_1⟩ := hQ7
 have N7 := Fr.app N2 N7q
 obtain ⟨Lf8, X7, N8⟩ := fixL X7 N7 1 32 rfl rfl
 have ne_sb_t_7 := neL E_sb.lt po7_0
 have ne_t_t_7 := neL V_t.lt po7_0
 have sz_t_7 : h0.size ≤ t_7 := Nat.le_trans (Nat.le_refl h0.size) po7_0
 replace E_sb := E_sb.keep Kc7
 replace Fv_sb := Fv_sb.keep Kc7 nin0
 replace Fc_sb := Fc_sb.keep Kc7 nin0
 replace Fn_sb := Fn_sb.keep Kc7 nin0
 replace Fm_sb := Fm_sb.keep Kc7 nin0
 replace V_t := V_t.keep Kc7 nin0
 replace OL := OL.keep Kc7 all0
 have K7 := (Keep.refl h0 [sb]).trans Kc7 all0
 have V_t_7 := po7_1
 have P9 := P7.bt X7 hx hby b135_ rfl
 obtain ⟨T10, X10, e10, P10⟩ := gF P9 X7 hx hZ hown hw 115 rfl Fv_sb (hb hby d38_18)
 have P11 : PP p e below T10 (mkF m 25 #[rv sb, rv t_7] [(.ref sb), i0, (.ref t_7), i0, (.ref t)]) s0 := fun q_ k_ => P10 q_ (by
  exact bt X10 hx hby b136_ rfl k_)
 obtain ⟨T12, X12, e12, P12⟩ := gF P11 X10 hx hZ hown hw 139 e10 Fn_sb (hb hby d38_25)
 obtain ⟨_, T13, L13, X13, hQ13, P13⟩ := cSt P12 X12 hx hZ hown hw e12 hml 458 459 287 460 (rm_lInf hw t kb 16 cs t_7 kb_7 ([] : List Int32) Gf (zT Z0 K7.1) V_t V_t_7 ne_t_t_7 (Nat.le_trans Z0 sz_t_7) Sa Sh Sl Sf rGf OL hcl (by decide) (by rw [List.length_nil]; omega) icb llb) rfl rfl rfl rfl rfl rfl [(.ref t), i0, (.ref t_7), i0, (.int (Int32.ofNat cs.length))] [] 0 (lenOf pd_8 rfl) rfl (Nat.le_of_eq rfl) (hb hby d38_28) rfl (by decide)
 obtain ⟨rfl, N13q, Kc13, po13_0⟩ := hQ13
 have N13 := Fr.app N8 N13q
 obtain ⟨Lf14, X13, N14⟩ := fixL X13 N13 1 32 rfl rfl
 replace E_sb := E_sb.keep Kc13
 replace Fv_sb := Fv_sb.keep Kc13 (ninS ne_sb_t_7 nin0)
 replace Fc_sb := Fc_sb.keep Kc13 (ninS ne_sb_t_7 nin0)
 replace Fn_sb := Fn_sb.keep Kc13 (ninS ne_sb_t_7 nin0)
 replace Fm_sb := Fm_sb.keep Kc13 (ninS ne_sb_t_7 nin0)
 have K13 := Kt1 K7 Kc13 (Or.inr sz_t_7)
 have V_t_7 := po13_0
 replace V_t_7 : Arv Z T13.heap t_7 kb_7 .byte 32 (wid cs) i0 := V_t_7
 have P15 := P13.bt X13 hx hby b137_ rfl
 obtain ⟨T16, h16, X16, e16, W16, st16⟩ := putF X13 hx hZ hown (host := "") (Or.inl (ww hw 115 rfl)) Via.refl rfl Fv_sb E_sb (Or.inl (ww hw 116 rfl)) (ww hw 102 rfl) (ty := (.array .byte)) (by decide) rfl rfl (g := P15.g) rfl rfl (hb hby d38_33)
 have P17 := P15.st st16
 have N16 := Fr.snoc X16 N14 g_sb
 have K16 := K13.wr W16 (Or.inl (mi 0))
 replace E_sb := E_sb.wr W16
 replace Fv_sb : Fld Z h16 sb cA "value" "[B" (.ref t_7) := Fv_sb.same W16
 replace Fc_sb := Fc_sb.other W16 (Or.inr (slot_ne (Or.inl (ww hw 118 rfl)) (Or.inl (ww hw 116 rfl)) (by decide) (t := .byte) (t' := (.array .byte)) (by decide) (by decide)))
 replace Fn_sb := Fn_sb.other W16 (Or.inr (slot_ne (Or.inl (ww hw 140 rfl)) (Or.inl (ww hw 116 rfl)) (by decide) (t := .int) (t' := (.array .byte)) (by decide) (by decide)))
 replace Fm_sb := Fm_sb.other W16 (Or.inr (slot_ne (Or.inl (ww hw 484 rfl)) (Or.inl (ww hw 116 rfl)) (by decide) (t := .boolean) (t' := (.array .byte)) (by decide) (by decide)))
 replace V_t_7 := V_t_7.other W16 (Ne.symm ne_sb_t_7)
 have P18 : PP p e below T16 (mkF m 38 #[rv sb, rv t_7] [(.int 1), (.ref sb)]) s0 := fun q_ k_ => P17 q_ (by
  exact bt X16 hx hby b138_ rfl k_)
 obtain ⟨T19, h19, X19, e19, W19, st19⟩ := putFN X16 hx hZ hown (ww hw 117 rfl) Via.refl e16 Fc_sb E_sb (Or.inl (ww hw 118 rfl)) (ww hw 102 rfl) (ty := .byte) (v' := (.int 1)) (by decide) rfl (rfl) (g := P18.g) rfl rfl (hb hby d38_38)
 have P20 := P18.st st19
 have N19 := Fr.snoc X19 N16 g_sb
 have K19 := K16.wr W19 (Or.inl (mi 0))
 replace E_sb := E_sb.wr W19
 replace Fv_sb := Fv_sb.other W19 (Or.inr (slot_ne (Or.inl (ww hw 116 rfl)) (Or.inl (ww hw 118 rfl)) (by decide) (t := (.array .byte)) (t' := .byte) (by decide) (by decide)))
 replace Fc_sb : Fld Z h19 sb cA "coder" "B" (.int 1) := Fc_sb.same W19
 replace Fn_sb := Fn_sb.other W19 (Or.inr (slot_ne (Or.inl (ww hw 140 rfl)) (Or.inl (ww hw 118 rfl)) (by decide) (t := .int) (t' := .byte) (by decide) (by decide)))
 replace Fm_sb := Fm_sb.other W19 (Or.inr (slot_ne (Or.inl (ww hw 484 rfl)) (Or.inl (ww hw 118 rfl)) (by decide) (t := .boolean) (t' := .byte) (by decide) (by decide)))
 replace V_t_7 := V_t_7.other W19 (Ne.symm ne_sb_t_7)
 exact endV 41 #[rv sb, rv t_7] X19 hx hrt hlk P20 (hb hby d38_41) e19 (by decide) (by decide) (show Q_infl0 Z sb t kb cs G1 Gf h0 n0 _ _ _ from ⟨t_7, kb_7, rfl, N19, K19, sz_t_7, E_sb, Fv_sb, Fc_sb, Fn_sb, Fm_sb, V_t_7, ne_sb_t_7⟩)
theorem d38_7 : decode k38_ 7 = .ok (.return_, 1) := by decide +kernel
def Q_infl1 (Z : State) (sb : Addr) (G1 : Int32) : QT := fun h0 n0 v h L => v = none ∧ Fr n0 L ∧ h = h0
theorem rm_infl1 (hw : HW a0 Z) (sb : Addr) (G1 : Int32) (Z0 : n0 ≤ h0.size) (E_sb : Exa Z h0 sb cB) (Fc_sb : Fld Z h0 sb cA "coder" "B" (.int 1)) (Sc : SU4 Z G1) (hz : ¬ G1 = 0) (OL : Old Z n0 h0) :
  MetP l Z mn_38 k38_ 2 none (rr 1 0 0 12) ws #[(.ref sb)] h0 (Q_infl1 Z sb G1 h0 n0) := by
 refine begH n0 cA rfl (plainFor_of_name pn_4) fun p e s m below meth c s₁ s0 hrt hlk hZ hx hby hml hown hnm X0 e0 N0 P0 => ?_
 replace P0 : PP p e below s₁ (mkF m 0 #[rv sb, .unset] []) s0 := castPP (ef_28 m sb) P0
 have P1 := P0.bt X0 hx hby b133_ rfl
 obtain ⟨_, T2, L2, X2, hQ2, P2⟩ := cVi P1 X0 hx hZ hown hw e0 E_sb hml 410 253 252 254 111 (rm_asbLat1 hw sb G1 Z0 Fc_sb Sc OL hz) rfl rfl rfl rfl rfl rfl rfl [] [] 0 (lenOf pd_20 rfl) rfl (Nat.le_of_eq rfl) (hb hby d38_1) rfl (by decide)
 obtain ⟨rfl, N2q, e2⟩ := hQ2
 have N2 := Fr.app N0 N2q
 have P3 : PP p e below T2 (mkF m 7 #[rv sb, .unset] []) s0 := fun q_ k_ => P2 q_ (by
  exact XS.ifNo X2.here hx rfl (hb hby d38_4) rfl ((if0 _ _).trans (teq ((by decide) : (0 : Int32) = (0 : Int32))).2) k_)
 exact endV 7 #[rv sb, .unset] X2 hx hrt hlk P3 (hb hby d38_7) e2 (by decide) (by decide) (show Q_infl1 Z sb G1 h0 n0 _ _ _ from ⟨rfl, N2, rfl⟩)
abbrev k39_ := jdk_68_method_71_code
theorem d39_0 : decode k39_ 0 = .ok (.getstatic 18, 3) := by decide +kernel
theorem d39_3 : decode k39_ 3 = .ok (.ifCond .eq 18, 3) := by decide +kernel
theorem b139_ : dl k39_ 6 [(.aload_n 0, 1)] = true := by decide +kernel
theorem d39_7 : decode k39_ 7 = .ok (.getfield 22, 3) := by decide +kernel
theorem b140_ : dl k39_ 10 [(.aload_n 1, 1)] = true := by decide +kernel
theorem d39_11 : decode k39_ 11 = .ok (.invokevirtual 40, 3) := by decide +kernel
theorem d39_14 : decode k39_ 14 = .ok (.if_icmp .eq 7, 3) := by decide +kernel
theorem d39_21 : decode k39_ 21 = .ok (.return_, 1) := by decide +kernel
def Q_ifn00 (Z : State) (sb t : Addr) (kb : ClassId) (cs : List Int32) (xs : Addr) (G1 : Int32) (Gf : Value) : QT := fun h0 n0 v h L => v = none ∧ Fr n0 L ∧ h = h0
abbrev mn_39 : MethodName := ⟨"java/lang/AbstractStringBuilder", "inflateIfNeededFor", "(Ljava/lang/String;)V"⟩
theorem rm_ifn00 (hw : HW a0 Z) (sb t : Addr) (kb : ClassId) (cs : List Int32) (xs : Addr) (G1 : Int32) (Gf : Value) (Z0 : n0 ≤ h0.size) (E_sb : Exa Z h0 sb cB) (Fv_sb : Fld Z h0 sb cA "value" "[B" (.ref t)) (Fc_sb : Fld Z h0 sb cA "coder" "B" i0) (Fn_sb : Fld Z h0 sb cA "count" "I" (.int (Int32.ofNat cs.length))) (Fm_sb : Fld Z h0 sb cA "maybeLatin1" "Z" i0) (V_t : Arv Z h0 t kb .byte 16 (cs.map bv) i0) (E_xs : Exa Z h0 xs cS) (Fc_xs : Fld Z h0 xs cS "coder" "B" i0) (g_sb : n0 ≤ sb) (ne_sb_t : sb ≠ t) (ne_xs_sb : xs ≠ sb) (Sc : SU4 Z G1) (hz : ¬ G1 = 0) (Sa : SU1 Z) (Sh : SU2 Z) (Sl : SU3 Z) (Sf : SU5 Z Gf) (rGf : Gf.isRef = true) (OL : Old Z n0 h0) :
  MetP l Z mn_39 k39_ 2 none (rr 1 0 0 13) ws #[(.ref sb), (.ref xs)] h0 (Q_ifn00 Z sb t kb cs xs G1 Gf h0 n0) := by
 refine begH n0 cA rfl (plainFor_of_name pn_4) fun p e s m below meth c s₁ s0 hrt hlk hZ hx hby hml hown hnm X0 e0 N0 P0 => ?_
 replace P0 : PP p e below s₁ (mkF m 0 #[rv sb, rv xs] []) s0 := castPP (ef_21 m sb xs) P0
 obtain ⟨T1, X1, e1, P1⟩ := gS P0 X0 hx hZ hown hw 114 e0 (Sc.ext OL.2) (hb hby d39_0)
 have P2 : PP p e below T1 (mkF m 7 #[rv sb, rv xs] [(.ref sb)]) s0 := fun q_ k_ => P1 q_ (by
  refine XS.ifNo X1.here hx rfl (hb hby d39_3) rfl ((if0 _ _).trans (feq (hz : ¬ (G1 = (0 : Int32)))).1) ?_
  exact bt X1 hx hby b139_ rfl k_)
 obtain ⟨T3, X3, e3, P3⟩ := gF P2 X1 hx hZ hown hw 117 e1 Fc_sb (hb hby d39_7)
 have P4 := P3.bt X3 hx hby b140_ rfl
 obtain ⟨_, T5, L5, X5, hQ5, P5⟩ := cVi P4 X3 hx hZ hown hw e3 E_xs hml 156 137 136 138 2 (rm_coder0 hw xs G1 Z0 Fc_xs Sc OL hz) rfl rfl rfl rfl rfl rfl rfl [] [i0] 1 (lenOf pd_18 rfl) rfl (Nat.le_of_eq rfl) (hb hby d39_11) rfl (by decide)
 obtain ⟨rfl, N5q, e5⟩ := hQ5
 have N5 := Fr.app N0 N5q
 have P6 : PP p e below T5 (mkF m 21 #[rv sb, rv xs] []) s0 := fun q_ k_ => P5 q_ (by
  exact XS.icmpYes X5.here hx rfl (pc0 := 14) (pc' := 21) rfl (hb hby d39_14) rfl (teq ((by decide) : (0 : Int32) = (0 : Int32))).1 (by decide) (by decide) k_)
 exact endV 21 #[rv sb, rv xs] X5 hx hrt hlk P6 (hb hby d39_21) e5 (by decide) (by decide) (show Q_ifn00 Z sb t kb cs xs G1 Gf h0 n0 _ _ _ from ⟨rfl, N5, rfl⟩)
theorem b141_ : dl k39_ 17 [(.aload_n 0, 1)] = true := by decide +kernel
theorem pd_24 : parseMethodDescriptor "()V" = some ⟨[], none⟩ := by decide +kernel
theorem d39_18 : decode k39_ 18 = .ok (.invokevirtual 195, 3) := by decide +kernel
def Q_ifn01 (Z : State) (sb t : Addr) (kb : ClassId) (cs : List Int32) (xs : Addr) (G1 : Int32) (Gf : Value) : QT := fun h0 n0 v h L => ∃ (tn : Addr) (kn : ClassId), v = none ∧ Fr n0 L ∧ Keep h0 h [sb] ∧ (h0.size ≤ tn) ∧ (Exa Z h sb cB) ∧ (Fld Z h sb cA "value" "[B" (.ref tn)) ∧ (Fld Z h sb cA "coder" "B" (.int 1)) ∧ (Fld Z h sb cA "count" "I" (.int (Int32.ofNat cs.length))) ∧ (Fld Z h sb cA "maybeLatin1" "Z" i0) ∧ (Arv Z h tn kn .byte 32 (wid cs) i0) ∧ (sb ≠ tn)
theorem rm_ifn01 (hw : HW a0 Z) (sb t : Addr) (kb : ClassId) (cs : List Int32) (xs : Addr) (G1 : Int32) (Gf : Value) (Z0 : n0 ≤ h0.size) (E_sb : Exa Z h0 sb cB) (Fv_sb : Fld Z h0 sb cA "value" "[B" (.ref t)) (Fc_sb : Fld Z h0 sb cA "coder" "B" i0) (Fn_sb : Fld Z h0 sb cA "count" "I" (.int (Int32.ofNat cs.length))) (Fm_sb : Fld Z h0 sb cA "maybeLatin1" "Z" i0) (V_t : Arv Z h0 t kb .byte 16 (cs.map bv) i0) (E_xs : Exa Z h0 xs cS) (Fc_xs : Fld Z h0 xs cS "coder" "B" (.int 1)) (g_sb : n0 ≤ sb) (ne_sb_t : sb ≠ t) (ne_xs_sb : xs ≠ sb) (Sc : SU4 Z G1) (hz : ¬ G1 = 0) (Sa : SU1 Z) (Sh : SU2 Z) (Sl : SU3 Z) (Sf : SU5 Z Gf) (rGf : Gf.isRef = true) (OL : Old Z n0 h0) (hcl : cs.length ≤ 16) (icb : CC cs) (llb : LL cs) :
  MetP l Z mn_39 k39_ 2 none (rr 6 1 32 89) ws #[(.ref sb), (.ref xs)] h0 (Q_ifn01 Z sb t kb cs xs G1 Gf h0 n0) := by
 refine begH n0 cA rfl (plainFor_of_name pn_4) fun p e s m below meth c s₁ s0 hrt hlk hZ hx hby hml hown hnm X0 e0 N0 P0 => ?_
 replace P0 : PP p e below s₁ (mkF m 0 #[rv sb, rv xs] []) s0 := castPP (ef_21 m sb xs) P0
 obtain ⟨T1, X1, e1, P1⟩ := gS P0 X0 hx hZ hown hw 114 e0 (Sc.ext OL.2) (hb hby d39_0)
 have P2 : PP p e below T1 (mkF m 7 #[rv sb, rv xs] [(.ref sb)]) s0 := fun q_ k_ => P1 q_ (by
  refine XS.ifNo X1.here hx rfl (hb hby d39_3) rfl ((if0 _ _).trans (feq (hz : ¬ (G1 = (0 : Int32)))).1) ?_
  exact bt X1 hx hby b139_ rfl k_)
 obtain ⟨T3, X3, e3, P3⟩ := gF P2 X1 hx hZ hown hw 117 e1 Fc_sb (hb hby d39_7)
 have P4 := P3.bt X3 hx hby b140_ rfl
 obtain ⟨_, T5, L5, X5, hQ5, P5⟩ := cVi P4 X3 hx hZ hown hw e3 E_xs hml 156 137 136 138 2 (rm_coder1 hw xs G1 Z0 Fc_xs Sc OL hz) rfl rfl rfl rfl rfl rfl rfl [] [i0] 1 (lenOf pd_18 rfl) rfl (Nat.le_of_eq rfl) (hb hby d39_11) rfl (by decide)
 obtain ⟨rfl, N5q, e5⟩ := hQ5
 have N5 := Fr.app N0 N5q
 have P6 : PP p e below T5 (mkF m 18 #[rv sb, rv xs] [(.ref sb)]) s0 := fun q_ k_ => P5 q_ (by
  refine XS.icmpNo X5.here hx rfl (hb hby d39_14) rfl (feq ((by decide) : ¬ ((0 : Int32) = (1 : Int32)))).1 ?_
  exact bt X5 hx hby b141_ rfl k_)
 obtain ⟨_, T7, L7, X7, hQ7, P7⟩ := cVi P6 X5 hx hZ hown hw e5 E_sb hml 446 449 447 450 111 (rm_infl0 hw sb t kb cs G1 Gf Z0 E_sb Fv_sb Fc_sb Fn_sb Fm_sb V_t g_sb ne_sb_t Sc hz Sa Sh Sl Sf rGf OL hcl icb llb) rfl rfl rfl rfl rfl rfl rfl [] [] 0 (lenOf pd_24 rfl) rfl (Nat.le_of_eq rfl) (hb hby d39_18) rfl (by decide)
 obtain ⟨tn_7, kn_7, rfl, N7q, Kc7, po7_0, po7_1, po7_2, po7_3, po7_4, po7_5, po7_6, po7_7⟩ := hQ7
 have N7 := Fr.app N5 N7q
 obtain ⟨Lf8, X7, N8⟩ := fixL X7 N7 1 32 rfl rfl
 have sz_tn_7 : h0.size ≤ tn_7 := Nat.le_trans (Nat.le_refl h0.size) po7_0
 have K7 := Kt1 (Keep.refl h0 [sb]) Kc7 (Or.inl (mi 0))
 have E_sb := po7_1
 have Fv_sb := po7_2
 have Fc_sb := po7_3
 have Fn_sb := po7_4
 have Fm_sb := po7_5
 have V_tn_7 := po7_6
 exact endV 21 #[rv sb, rv xs] X7 hx hrt hlk P7 (hb hby d39_21) rfl (by decide) (by decide) (show Q_ifn01 Z sb t kb cs xs G1 Gf h0 n0 _ _ _ from ⟨tn_7, kn_7, rfl, N8, K7, sz_tn_7, E_sb, Fv_sb, Fc_sb, Fn_sb, Fm_sb, V_tn_7, po7_7⟩)
theorem rm_ifn10 (hw : HW a0 Z) (sb t : Addr) (kb : ClassId) (cs : List Int32) (xs : Addr) (G1 : Int32) (Gf : Value) (Z0 : n0 ≤ h0.size) (E_sb : Exa Z h0 sb cB) (Fv_sb : Fld Z h0 sb cA "value" "[B" (.ref t)) (Fc_sb : Fld Z h0 sb cA "coder" "B" (.int 1)) (Fn_sb : Fld Z h0 sb cA "count" "I" (.int (Int32.ofNat cs.length))) (Fm_sb : Fld Z h0 sb cA "maybeLatin1" "Z" i0) (V_t : Arv Z h0 t kb .byte 32 (wid cs) i0) (E_xs : Exa Z h0 xs cS) (Fc_xs : Fld Z h0 xs cS "coder" "B" i0) (g_sb : n0 ≤ sb) (ne_sb_t : sb ≠ t) (ne_xs_sb : xs ≠ sb) (Sc : SU4 Z G1) (hz : ¬ G1 = 0) (Sa : SU1 Z) (Sh : SU2 Z) (Sl : SU3 Z) (Sf : SU5 Z Gf) (rGf : Gf.isRef = true) (OL : Old Z n0 h0) :
  MetP l Z mn_39 k39_ 2 none (rr 2 0 0 25) ws #[(.ref sb), (.ref xs)] h0 (Q_ifn00 Z sb t kb cs xs G1 Gf h0 n0) := by
 refine begH n0 cA rfl (plainFor_of_name pn_4) fun p e s m below meth c s₁ s0 hrt hlk hZ hx hby hml hown hnm X0 e0 N0 P0 => ?_
 replace P0 : PP p e below s₁ (mkF m 0 #[rv sb, rv xs] []) s0 := castPP (ef_21 m sb xs) P0
 obtain ⟨T1, X1, e1, P1⟩ := gS P0 X0 hx hZ hown hw 114 e0 (Sc.ext OL.2) (hb hby d39_0)
 have P2 : PP p e below T1 (mkF m 7 #[rv sb, rv xs] [(.ref sb)]) s0 := fun q_ k_ => P1 q_ (by
  refine XS.ifNo X1.here hx rfl (hb hby d39_3) rfl ((if0 _ _).trans (feq (hz : ¬ (G1 = (0 : Int32)))).1) ?_
  exact bt X1 hx hby b139_ rfl k_)
 obtain ⟨T3, X3, e3, P3⟩ := gF P2 X1 hx hZ hown hw 117 e1 Fc_sb (hb hby d39_7)
 have P4 := P3.bt X3 hx hby b140_ rfl
 obtain ⟨_, T5, L5, X5, hQ5, P5⟩ := cVi P4 X3 hx hZ hown hw e3 E_xs hml 156 137 136 138 2 (rm_coder0 hw xs G1 Z0 Fc_xs Sc OL hz) rfl rfl rfl rfl rfl rfl rfl [] [(.int 1)] 1 (lenOf pd_18 rfl) rfl (Nat.le_of_eq rfl) (hb hby d39_11) rfl (by decide)
 obtain ⟨rfl, N5q, e5⟩ := hQ5
 have N5 := Fr.app N0 N5q
 have P6 : PP p e below T5 (mkF m 18 #[rv sb, rv xs] [(.ref sb)]) s0 := fun q_ k_ => P5 q_ (by
  refine XS.icmpNo X5.here hx rfl (hb hby d39_14) rfl (feq ((by decide) : ¬ ((1 : Int32) = (0 : Int32)))).1 ?_
  exact bt X5 hx hby b141_ rfl k_)
 obtain ⟨_, T7, L7, X7, hQ7, P7⟩ := cVi P6 X5 hx hZ hown hw e5 E_sb hml 446 449 447 450 111 (rm_infl1 hw sb G1 Z0 E_sb Fc_sb Sc hz OL) rfl rfl rfl rfl rfl rfl rfl [] [] 0 (lenOf pd_24 rfl) rfl (Nat.le_of_eq rfl) (hb hby d39_18) rfl (by decide)
 obtain ⟨rfl, N7q, e7⟩ := hQ7
 have N7 := Fr.app N5 N7q
 exact endV 21 #[rv sb, rv xs] X7 hx hrt hlk P7 (hb hby d39_21) e7 (by decide) (by decide) (show Q_ifn00 Z sb t kb cs xs G1 Gf h0 n0 _ _ _ from ⟨rfl, N7, rfl⟩)
theorem rm_ifn11 (hw : HW a0 Z) (sb t : Addr) (kb : ClassId) (cs : List Int32) (xs : Addr) (G1 : Int32) (Gf : Value) (Z0 : n0 ≤ h0.size) (E_sb : Exa Z h0 sb cB) (Fv_sb : Fld Z h0 sb cA "value" "[B" (.ref t)) (Fc_sb : Fld Z h0 sb cA "coder" "B" (.int 1)) (Fn_sb : Fld Z h0 sb cA "count" "I" (.int (Int32.ofNat cs.length))) (Fm_sb : Fld Z h0 sb cA "maybeLatin1" "Z" i0) (V_t : Arv Z h0 t kb .byte 32 (wid cs) i0) (E_xs : Exa Z h0 xs cS) (Fc_xs : Fld Z h0 xs cS "coder" "B" (.int 1)) (g_sb : n0 ≤ sb) (ne_sb_t : sb ≠ t) (ne_xs_sb : xs ≠ sb) (Sc : SU4 Z G1) (hz : ¬ G1 = 0) (Sa : SU1 Z) (Sh : SU2 Z) (Sl : SU3 Z) (Sf : SU5 Z Gf) (rGf : Gf.isRef = true) (OL : Old Z n0 h0) :
  MetP l Z mn_39 k39_ 2 none (rr 1 0 0 13) ws #[(.ref sb), (.ref xs)] h0 (Q_ifn00 Z sb t kb cs xs G1 Gf h0 n0) := by
 refine begH n0 cA rfl (plainFor_of_name pn_4) fun p e s m below meth c s₁ s0 hrt hlk hZ hx hby hml hown hnm X0 e0 N0 P0 => ?_
 replace P0 : PP p e below s₁ (mkF m 0 #[rv sb, rv xs] []) s0 := castPP (ef_21 m sb xs) P0
 obtain ⟨T1, X1, e1, P1⟩ := gS P0 X0 hx hZ hown hw 114 e0 (Sc.ext OL.2) (hb hby d39_0)
 have P2 : PP p e below T1 (mkF m 7 #[rv sb, rv xs] [(.ref sb)]) s0 := fun q_ k_ => P1 q_ (by
  refine XS.ifNo X1.here hx rfl (hb hby d39_3) rfl ((if0 _ _).trans (feq (hz : ¬ (G1 = (0 : Int32)))).1) ?_
  exact bt X1 hx hby b139_ rfl k_)
 obtain ⟨T3, X3, e3, P3⟩ := gF P2 X1 hx hZ hown hw 117 e1 Fc_sb (hb hby d39_7)
 have P4 := P3.bt X3 hx hby b140_ rfl
 obtain ⟨_, T5, L5, X5, hQ5, P5⟩ := cVi P4 X3 hx hZ hown hw e3 E_xs hml 156 137 136 138 2 (rm_coder1 hw xs G1 Z0 Fc_xs Sc OL hz) rfl rfl rfl rfl rfl rfl rfl [] [(.int 1)] 1 (lenOf pd_18 rfl) rfl (Nat.le_of_eq rfl) (hb hby d39_11) rfl (by decide)
 obtain ⟨rfl, N5q, e5⟩ := hQ5
 have N5 := Fr.app N0 N5q
 have P6 : PP p e below T5 (mkF m 21 #[rv sb, rv xs] []) s0 := fun q_ k_ => P5 q_ (by
  exact XS.icmpYes X5.here hx rfl (pc0 := 14) (pc' := 21) rfl (hb hby d39_14) rfl (teq ((by decide) : (1 : Int32) = (1 : Int32))).1 (by decide) (by decide) k_)
 exact endV 21 #[rv sb, rv xs] X5 hx hrt hlk P6 (hb hby d39_21) e5 (by decide) (by decide) (show Q_ifn00 Z sb t kb cs xs G1 Gf h0 n0 _ _ _ from ⟨rfl, N5, rfl⟩)
theorem ef_29 (m : MethodId) (x0 : Addr) (x1 : Addr) (x2 : Int32) : entryFrame m #[(.ref x0), (.ref x1), (.int x2), (.int 0)] 4 = mkF m 0 #[.val (.ref x0), .val (.ref x1), .val (.int x2), .val (.int 0)] [] := by first | (simp [entryFrame, mkF, argsToLocals, Value.category]; done) | rfl
abbrev k40_ := jdk_42_method_147_code
theorem b142_ : dl k40_ 0 [(.aload_n 0, 1)] = true := by decide +kernel
theorem d40_1 : decode k40_ 1 = .ok (.invokevirtual 335, 3) := by decide +kernel
theorem d40_5 : decode k40_ 5 = .ok (.if_icmp .ne 23, 3) := by decide +kernel
theorem b143_ : dl k40_ 4 [(.iload_n 3, 1)] = true := by decide +kernel
theorem b144_ : dl k40_ 8 [(.aload_n 0, 1)] = true := by decide +kernel
theorem d40_9 : decode k40_ 9 = .ok (.getfield 9, 3) := by decide +kernel
theorem b145_ : dl k40_ 12 [(.iconst 0, 1), (.aload_n 1, 1), (.iload_n 2, 1), (.iload_n 3, 1), (.ishl, 1)] = true := by decide +kernel
theorem b146_ : dl k40_ 17 [(.aload_n 0, 1)] = true := by decide +kernel
theorem d40_18 : decode k40_ 18 = .ok (.getfield 9, 3) := by decide +kernel
theorem d40_21 : decode k40_ 21 = .ok (.arraylength, 1) := by decide +kernel
theorem d40_22 : decode k40_ 22 = .ok (.invokestatic 212, 3) := by decide +kernel
theorem b147_ : dl k40_ 25 [(.goto 18, 3)] = true := by decide +kernel
theorem d40_43 : decode k40_ 43 = .ok (.return_, 1) := by decide +kernel
def Q_getB0 (Z : State) (xs ts : Addr) (ks : ClassId) (ss : List Value) (ns : Nat) (t : Addr) (kb : ClassId) (bs : List Value) (ni cp : Nat) (G1 : Int32) : QT := fun h0 n0 v h L => v = none ∧ Fr n0 L ∧ Keep h0 h [t] ∧ (Arv Z h t kb .byte (Int32.ofNat cp) (bs ++ ss) i0)
abbrev mn_40 : MethodName := ⟨"java/lang/String", "getBytes", "([BIB)V"⟩
theorem rm_getB0 (hw : HW a0 Z) (xs ts : Addr) (ks : ClassId) (ss : List Value) (ns : Nat) (t : Addr) (kb : ClassId) (bs : List Value) (ni cp : Nat) (G1 : Int32) (Z0 : n0 ≤ h0.size) (E_xs : Exa Z h0 xs cS) (Fv_xs : Fld Z h0 xs cS "value" "[B" (.ref ts)) (Fc_xs : Fld Z h0 xs cS "coder" "B" i0) (V_ts : Arv Z h0 ts ks .byte (Int32.ofNat ns) ss i0) (V_t : Arv Z h0 t kb .byte (Int32.ofNat cp) bs i0) (g_t : n0 ≤ t) (ne_xs_t : xs ≠ t) (ne_ts_t : ts ≠ t) (Sc : SU4 Z G1) (OL : Old Z n0 h0) (hz : ¬ G1 = 0) (hns : ss.length = ns) (hni : bs.length = ni) (hle : bs.length + ss.length ≤ cp) (hcp : cp ≤ 1000) :
  MetP l Z mn_40 k40_ 4 none (rr 1 0 0 18) ws #[(.ref xs), (.ref t), (.int (Int32.ofNat ni)), i0] h0 (Q_getB0 Z xs ts ks ss ns t kb bs ni cp G1 h0 n0) := by
 refine begH n0 cS rfl (plainFor_of_name pn_2) fun p e s m below meth c s₁ s0 hrt hlk hZ hx hby hml hown hnm X0 e0 N0 P0 => ?_
 replace P0 : PP p e below s₁ (mkF m 0 #[rv xs, rv t, iv (Int32.ofNat ni), iv 0] []) s0 := castPP (ef_29 m xs t (Int32.ofNat ni)) P0
 subst hns
 have P1 := P0.bt X0 hx hby b142_ rfl
 obtain ⟨_, T2, L2, X2, hQ2, P2⟩ := cVi P1 X0 hx hZ hown hw e0 E_xs hml 134 137 136 138 2 (rm_coder0 hw xs G1 Z0 Fc_xs Sc OL hz) rfl rfl rfl rfl rfl rfl rfl [] [] 0 (lenOf pd_18 rfl) rfl (Nat.le_of_eq rfl) (hb hby d40_1) rfl (by decide)
 obtain ⟨rfl, N2q, e2⟩ := hQ2
 have N2 := Fr.app N0 N2q
 have P3 : PP p e below T2 (mkF m 9 #[rv xs, rv t, iv (Int32.ofNat ni), iv 0] [(.ref xs)]) s0 := fun q_ k_ => P2 q_ (by
  refine bt X2 hx hby b143_ rfl ?_
  refine XS.icmpNo X2.here hx rfl (hb hby d40_5) rfl (teq ((by decide) : (0 : Int32) = (0 : Int32))).2 ?_
  exact bt X2 hx hby b144_ rfl k_)
 obtain ⟨T4, X4, e4, P4⟩ := gF P3 X2 hx hZ hown hw 28 e2 Fv_xs (hb hby d40_9)
 have P5 := P4.bt X4 hx hby b145_ rfl
 have P6 : PP p e below T4 (mkF m 17 #[rv xs, rv t, iv (Int32.ofNat ni), iv 0] [(.int (Int32.ofNat bs.length)), (.ref t), i0, (.ref ts)]) s0 := fun q_ k_ => P5 q_ (by show GG p e below T4 (mkF m 17 #[rv xs, rv t, iv (Int32.ofNat ni), iv 0] [(.int ((Int32.ofNat ni) <<< ((0 : Int32) &&& 31))), (.ref t), i0, (.ref ts)]) q_; rw [show Int32.ofNat ni <<< ((0 : Int32) &&& 31) = Int32.ofNat bs.length by rw [own_shl0, hni]]; exact k_)
 have P7 := P6.bt X4 hx hby b146_ rfl
 obtain ⟨T8, X8, e8, P8⟩ := gF P7 X4 hx hZ hown hw 28 e4 Fv_xs (hb hby d40_18)
 obtain ⟨cl9, Ar9, -, S9, M9, -, -⟩ := id V_ts
 have P10 : PP p e below T8 (mkF m 22 #[rv xs, rv t, iv (Int32.ofNat ni), iv 0] [(.int (Int32.ofNat (ss.length))), (.int (Int32.ofNat bs.length)), (.ref t), i0, (.ref ts)]) s0 := fun q_ k_ => P8 q_ (by
  refine X8.arraylength hx (by rw [e8]; exact Ar9.1) (State.isArrayOf_alike hZ.alike Ar9.2.1) (g := P8.g) rfl rfl (hb hby d40_21) _ ?_
  rw [len_of S9 M9]
  exact k_)
 replace V_t : Arv Z h0 t kb .byte (Int32.ofNat cp) (bs ++ List.replicate ss.length i0) i0 := V_t.pad (pad_rep bs i0 ss.length)
 obtain ⟨T11, h11, L11, X11, e11, N11, Kc11, Va11, st11⟩ := cpA X8 hx hZ hown (ww hw 162 rfl) (ww hw 165 rfl) (ww hw 163 rfl) (ww hw 164 rfl) e8 V_ts V_t (us := ss) (Or.inl ⟨rfl, rfl⟩) (by decide) (own_nn _ (by omega)) (own_nn _ (by omega)) (by rw [own_cl _ (by omega)]; show 0 + _ ≤ _; omega) (by rw [own_cl _ (by omega), own_cl _ (by omega), own_cl _ (by omega)]; omega) (by rw [own_cl _ (by omega)]; exact own_us ss _) (by rw [own_cl _ (by omega), own_cl _ (by omega)]; simp) N2 g_t (g := P10.g) rfl (by rw [hml]; rfl) rfl (hb hby d40_22) (by decide) (W := 0) (by show 2 * 0 + _ ≤ _; exact Nat.le_of_eq rfl) (by decide)
 have P12 := P10.st st11
 have K11 := (Keep.refl h0 [t]).trans Kc11 (allS (P := fun x => x ∈ [t] ∨ h0.size ≤ x) (Or.inl (List.mem_of_getElem? (i := 0) rfl)) all0)
 have V_t : Arv Z h11 t kb .byte (Int32.ofNat cp) (bs ++ ss) i0 := by
   have q := Va11
   rw [own_cl _ (by omega), own_cl _ (by omega), own_cp bs ss _ (by simp)] at q
   exact q
 have P13 := P12.bt X11 hx hby b147_ rfl
 exact endV 43 #[rv xs, rv t, iv (Int32.ofNat ni), iv 0] X11 hx hrt hlk P13 (hb hby d40_43) e11 (by decide) (by decide) (show Q_getB0 Z xs ts ks ss (ss.length) t kb bs ni cp G1 h0 n0 _ _ _ from ⟨rfl, N11, K11, V_t⟩)
theorem ef_30 (m : MethodId) (x0 : Addr) (x1 : Addr) (x2 : Int32) : entryFrame m #[(.ref x0), (.ref x1), (.int x2), (.int 1)] 4 = mkF m 0 #[.val (.ref x0), .val (.ref x1), .val (.int x2), .val (.int 1)] [] := by first | (simp [entryFrame, mkF, argsToLocals, Value.category]; done) | rfl
theorem rm_getB1 (hw : HW a0 Z) (xs ts : Addr) (ks : ClassId) (ss : List Value) (ns : Nat) (t : Addr) (kb : ClassId) (bs : List Value) (ni cp : Nat) (G1 : Int32) (Z0 : n0 ≤ h0.size) (E_xs : Exa Z h0 xs cS) (Fv_xs : Fld Z h0 xs cS "value" "[B" (.ref ts)) (Fc_xs : Fld Z h0 xs cS "coder" "B" (.int 1)) (V_ts : Arv Z h0 ts ks .byte (Int32.ofNat ns) ss i0) (V_t : Arv Z h0 t kb .byte (Int32.ofNat cp) bs i0) (g_t : n0 ≤ t) (ne_xs_t : xs ≠ t) (ne_ts_t : ts ≠ t) (Sc : SU4 Z G1) (OL : Old Z n0 h0) (hz : ¬ G1 = 0) (hns : ss.length = ns) (hni : bs.length = 2 * ni) (hle : bs.length + ss.length ≤ cp) (hcp : cp ≤ 1000) :
  MetP l Z mn_40 k40_ 4 none (rr 1 0 0 18) ws #[(.ref xs), (.ref t), (.int (Int32.ofNat ni)), (.int 1)] h0 (Q_getB0 Z xs ts ks ss ns t kb bs ni cp G1 h0 n0) := by
 refine begH n0 cS rfl (plainFor_of_name pn_2) fun p e s m below meth c s₁ s0 hrt hlk hZ hx hby hml hown hnm X0 e0 N0 P0 => ?_
 replace P0 : PP p e below s₁ (mkF m 0 #[rv xs, rv t, iv (Int32.ofNat ni), iv 1] []) s0 := castPP (ef_30 m xs t (Int32.ofNat ni)) P0
 subst hns
 have P1 := P0.bt X0 hx hby b142_ rfl
 obtain ⟨_, T2, L2, X2, hQ2, P2⟩ := cVi P1 X0 hx hZ hown hw e0 E_xs hml 134 137 136 138 2 (rm_coder1 hw xs G1 Z0 Fc_xs Sc OL hz) rfl rfl rfl rfl rfl rfl rfl [] [] 0 (lenOf pd_18 rfl) rfl (Nat.le_of_eq rfl) (hb hby d40_1) rfl (by decide)
 obtain ⟨rfl, N2q, e2⟩ := hQ2
 have N2 := Fr.app N0 N2q
 have P3 : PP p e below T2 (mkF m 9 #[rv xs, rv t, iv (Int32.ofNat ni), iv 1] [(.ref xs)]) s0 := fun q_ k_ => P2 q_ (by
  refine bt X2 hx hby b143_ rfl ?_
  refine XS.icmpNo X2.here hx rfl (hb hby d40_5) rfl (teq ((by decide) : (1 : Int32) = (1 : Int32))).2 ?_
  exact bt X2 hx hby b144_ rfl k_)
 obtain ⟨T4, X4, e4, P4⟩ := gF P3 X2 hx hZ hown hw 28 e2 Fv_xs (hb hby d40_9)
 have P5 := P4.bt X4 hx hby b145_ rfl
 have P6 : PP p e below T4 (mkF m 17 #[rv xs, rv t, iv (Int32.ofNat ni), iv 1] [(.int (Int32.ofNat bs.length)), (.ref t), i0, (.ref ts)]) s0 := fun q_ k_ => P5 q_ (by show GG p e below T4 (mkF m 17 #[rv xs, rv t, iv (Int32.ofNat ni), iv 1] [(.int ((Int32.ofNat ni) <<< ((1 : Int32) &&& 31))), (.ref t), i0, (.ref ts)]) q_; rw [show Int32.ofNat ni <<< ((1 : Int32) &&& 31) = Int32.ofNat bs.length by rw [own_shl1, hni]]; exact k_)
 have P7 := P6.bt X4 hx hby b146_ rfl
 obtain ⟨T8, X8, e8, P8⟩ := gF P7 X4 hx hZ hown hw 28 e4 Fv_xs (hb hby d40_18)
 obtain ⟨cl9, Ar9, -, S9, M9, -, -⟩ := id V_ts
 have P10 : PP p e below T8 (mkF m 22 #[rv xs, rv t, iv (Int32.ofNat ni), iv 1] [(.int (Int32.ofNat (ss.length))), (.int (Int32.ofNat bs.length)), (.ref t), i0, (.ref ts)]) s0 := fun q_ k_ => P8 q_ (by
  refine X8.arraylength hx (by rw [e8]; exact Ar9.1) (State.isArrayOf_alike hZ.alike Ar9.2.1) (g := P8.g) rfl rfl (hb hby d40_21) _ ?_
  rw [len_of S9 M9]
  exact k_)
 replace V_t : Arv Z h0 t kb .byte (Int32.ofNat cp) (bs ++ List.replicate ss.length i0) i0 := V_t.pad (pad_rep bs i0 ss.length)
 obtain ⟨T11, h11, L11, X11, e11, N11, Kc11, Va11, st11⟩ := cpA X8 hx hZ hown (ww hw 162 rfl) (ww hw 165 rfl) (ww hw 163 rfl) (ww hw 164 rfl) e8 V_ts V_t (us := ss) (Or.inl ⟨rfl, rfl⟩) (by decide) (own_nn _ (by omega)) (own_nn _ (by omega)) (by rw [own_cl _ (by omega)]; show 0 + _ ≤ _; omega) (by rw [own_cl _ (by omega), own_cl _ (by omega), own_cl _ (by omega)]; omega) (by rw [own_cl _ (by omega)]; exact own_us ss _) (by rw [own_cl _ (by omega), own_cl _ (by omega)]; simp) N2 g_t (g := P10.g) rfl (by rw [hml]; rfl) rfl (hb hby d40_22) (by decide) (W := 0) (by show 2 * 0 + _ ≤ _; exact Nat.le_of_eq rfl) (by decide)
 have P12 := P10.st st11
 have K11 := (Keep.refl h0 [t]).trans Kc11 (allS (P := fun x => x ∈ [t] ∨ h0.size ≤ x) (Or.inl (List.mem_of_getElem? (i := 0) rfl)) all0)
 have V_t : Arv Z h11 t kb .byte (Int32.ofNat cp) (bs ++ ss) i0 := by
   have q := Va11
   rw [own_cl _ (by omega), own_cl _ (by omega), own_cp bs ss _ (by simp)] at q
   exact q
 have P13 := P12.bt X11 hx hby b147_ rfl
 exact endV 43 #[rv xs, rv t, iv (Int32.ofNat ni), iv 1] X11 hx hrt hlk P13 (hb hby d40_43) e11 (by decide) (by decide) (show Q_getB0 Z xs ts ks ss (ss.length) t kb bs ni cp G1 h0 n0 _ _ _ from ⟨rfl, N11, K11, V_t⟩)
theorem b148_ : dl k40_ 28 [(.aload_n 0, 1)] = true := by decide +kernel
theorem d40_29 : decode k40_ 29 = .ok (.getfield 9, 3) := by decide +kernel
theorem b149_ : dl k40_ 32 [(.iconst 0, 1), (.aload_n 1, 1), (.iload_n 2, 1), (.aload_n 0, 1)] = true := by decide +kernel
theorem d40_36 : decode k40_ 36 = .ok (.getfield 9, 3) := by decide +kernel
theorem d40_39 : decode k40_ 39 = .ok (.arraylength, 1) := by decide +kernel
theorem d40_40 : decode k40_ 40 = .ok (.invokestatic 106, 3) := by decide +kernel
def Q_getB10 (Z : State) (xs ts : Addr) (ks : ClassId) (ds : List Int32) (t : Addr) (kb : ClassId) (cs : List Int32) (G1 : Int32) (Gf : Value) : QT := fun h0 n0 v h L => v = none ∧ Fr n0 L ∧ Keep h0 h [t] ∧ (Arv Z h t kb .byte 32 (wid (cs ++ ds)) i0)
theorem rm_getB10 (hw : HW a0 Z) (xs ts : Addr) (ks : ClassId) (ds : List Int32) (t : Addr) (kb : ClassId) (cs : List Int32) (G1 : Int32) (Gf : Value) (Z0 : n0 ≤ h0.size) (E_xs : Exa Z h0 xs cS) (Fv_xs : Fld Z h0 xs cS "value" "[B" (.ref ts)) (Fc_xs : Fld Z h0 xs cS "coder" "B" i0) (V_ts : Arv Z h0 ts ks .byte (Int32.ofNat ds.length) (ds.map bv) i0) (V_t : Arv Z h0 t kb .byte 32 (wid cs) i0) (g_t : n0 ≤ t) (ne_xs_t : xs ≠ t) (ne_ts_t : ts ≠ t) (Sc : SU4 Z G1) (hz : ¬ G1 = 0) (Sa : SU1 Z) (Sh : SU2 Z) (Sl : SU3 Z) (Sf : SU5 Z Gf) (rGf : Gf.isRef = true) (OL : Old Z n0 h0) (hle : cs.length + ds.length ≤ 16) (icd : CC ds) (lld : LL ds) :
  MetP l Z mn_40 k40_ 4 none (rr 5 0 0 76) ws #[(.ref xs), (.ref t), (.int (Int32.ofNat cs.length)), (.int 1)] h0 (Q_getB10 Z xs ts ks ds t kb cs G1 Gf h0 n0) := by
 refine begH n0 cS rfl (plainFor_of_name pn_2) fun p e s m below meth c s₁ s0 hrt hlk hZ hx hby hml hown hnm X0 e0 N0 P0 => ?_
 replace P0 : PP p e below s₁ (mkF m 0 #[rv xs, rv t, iv (Int32.ofNat cs.length), iv 1] []) s0 := castPP (ef_30 m xs t (Int32.ofNat cs.length)) P0
 have P1 := P0.bt X0 hx hby b142_ rfl
 obtain ⟨_, T2, L2, X2, hQ2, P2⟩ := cVi P1 X0 hx hZ hown hw e0 E_xs hml 134 137 136 138 2 (rm_coder0 hw xs G1 Z0 Fc_xs Sc OL hz) rfl rfl rfl rfl rfl rfl rfl [] [] 0 (lenOf pd_18 rfl) rfl (Nat.le_of_eq rfl) (hb hby d40_1) rfl (by decide)
 obtain ⟨rfl, N2q, e2⟩ := hQ2
 have N2 := Fr.app N0 N2q
 have P3 : PP p e below T2 (mkF m 29 #[rv xs, rv t, iv (Int32.ofNat cs.length), iv 1] [(.ref xs)]) s0 := fun q_ k_ => P2 q_ (by
  refine bt X2 hx hby b143_ rfl ?_
  refine XS.icmpYes X2.here hx rfl (pc0 := 5) (pc' := 28) rfl (hb hby d40_5) rfl (feq ((by decide) : ¬ ((0 : Int32) = (1 : Int32)))).2 (by decide) (by decide) ?_
  exact bt X2 hx hby b148_ rfl k_)
 obtain ⟨T4, X4, e4, P4⟩ := gF P3 X2 hx hZ hown hw 28 e2 Fv_xs (hb hby d40_29)
 have P5 := P4.bt X4 hx hby b149_ rfl
 obtain ⟨T6, X6, e6, P6⟩ := gF P5 X4 hx hZ hown hw 28 e4 Fv_xs (hb hby d40_36)
 obtain ⟨cl7, Ar7, -, S7, M7, -, -⟩ := id V_ts
 have P8 : PP p e below T6 (mkF m 40 #[rv xs, rv t, iv (Int32.ofNat cs.length), iv 1] [(.int (Int32.ofNat ds.length)), (.int (Int32.ofNat cs.length)), (.ref t), i0, (.ref ts)]) s0 := fun q_ k_ => P6 q_ (by
  refine X6.arraylength hx (by rw [e6]; exact Ar7.1) (State.isArrayOf_alike hZ.alike Ar7.2.1) (g := P6.g) rfl rfl (hb hby d40_39) _ ?_
  rw [len_of S7 M7]
  exact k_)
 obtain ⟨_, T9, L9, X9, hQ9, P9⟩ := cSt P8 X6 hx hZ hown hw e6 hml 491 459 287 460 (rm_lInf hw ts ks ds.length ds t kb cs Gf Z0 V_ts V_t ne_ts_t g_t Sa Sh Sl Sf rGf OL (Nat.le_refl _) (by omega) hle icd lld) rfl rfl rfl rfl rfl rfl [(.ref ts), i0, (.ref t), (.int (Int32.ofNat cs.length)), (.int (Int32.ofNat ds.length))] [] 0 (lenOf pd_8 rfl) rfl (Nat.le_of_eq rfl) (hb hby d40_40) rfl (by decide)
 obtain ⟨rfl, N9q, Kc9, po9_0⟩ := hQ9
 have N9 := Fr.app N2 N9q
 obtain ⟨Lf10, X9, N10⟩ := fixL X9 N9 0 0 rfl rfl
 have K9 := Kt1 (Keep.refl h0 [t]) Kc9 (Or.inl (mi 0))
 have V_t := po9_0
 exact endV 43 #[rv xs, rv t, iv (Int32.ofNat cs.length), iv 1] X9 hx hrt hlk P9 (hb hby d40_43) rfl (by decide) (by decide) (show Q_getB10 Z xs ts ks ds t kb cs G1 Gf h0 n0 _ _ _ from ⟨rfl, N10, K9, V_t⟩)
theorem ef_31 (m : MethodId) (x0 : Addr) (x1 : Int32) (x2 : Addr) : entryFrame m #[(.ref x0), (.int x1), (.ref x2)] 3 = mkF m 0 #[.val (.ref x0), .val (.int x1), .val (.ref x2)] [] := by first | (simp [entryFrame, mkF, argsToLocals, Value.category]; done) | rfl
abbrev k41_ := jdk_68_method_73_code
theorem b150_ : dl k41_ 0 [(.aload_n 0, 1), (.aload_n 2, 1)] = true := by decide +kernel
theorem pd_25 : parseMethodDescriptor "(Ljava/lang/String;)V" = some ⟨[(.object "java/lang/String")], none⟩ := by decide +kernel
theorem d41_2 : decode k41_ 2 = .ok (.invokevirtual 397, 3) := by decide +kernel
theorem b151_ : dl k41_ 5 [(.aload_n 2, 1), (.aload_n 0, 1)] = true := by decide +kernel
theorem d41_7 : decode k41_ 7 = .ok (.getfield 15, 3) := by decide +kernel
theorem b152_ : dl k41_ 10 [(.iload_n 1, 1), (.aload_n 0, 1)] = true := by decide +kernel
theorem d41_12 : decode k41_ 12 = .ok (.getfield 22, 3) := by decide +kernel
theorem pd_26 : parseMethodDescriptor "([BIB)V" = some ⟨[(.array .byte), .int, .byte], none⟩ := by decide +kernel
theorem d41_15 : decode k41_ 15 = .ok (.invokevirtual 399, 3) := by decide +kernel
theorem d41_18 : decode k41_ 18 = .ok (.return_, 1) := by decide +kernel
def Q_putS00 (Z : State) (sb t : Addr) (kb : ClassId) (cs : List Int32) (xs ts : Addr) (ks : ClassId) (ds : List Int32) (G1 : Int32) (Gf : Value) : QT := fun h0 n0 v h L => v = none ∧ Fr n0 L ∧ Keep h0 h [t] ∧ (Arv Z h t kb .byte 16 (cs.map bv ++ ds.map bv) i0)
abbrev mn_41 : MethodName := ⟨"java/lang/AbstractStringBuilder", "putStringAt", "(ILjava/lang/String;)V"⟩
theorem rm_putS00 (hw : HW a0 Z) (sb t : Addr) (kb : ClassId) (cs : List Int32) (xs ts : Addr) (ks : ClassId) (ds : List Int32) (G1 : Int32) (Gf : Value) (Z0 : n0 ≤ h0.size) (E_sb : Exa Z h0 sb cB) (Fv_sb : Fld Z h0 sb cA "value" "[B" (.ref t)) (Fc_sb : Fld Z h0 sb cA "coder" "B" i0) (Fn_sb : Fld Z h0 sb cA "count" "I" (.int (Int32.ofNat cs.length))) (Fm_sb : Fld Z h0 sb cA "maybeLatin1" "Z" i0) (V_t : Arv Z h0 t kb .byte 16 (cs.map bv) i0) (E_xs : Exa Z h0 xs cS) (Fv_xs : Fld Z h0 xs cS "value" "[B" (.ref ts)) (Fc_xs : Fld Z h0 xs cS "coder" "B" i0) (V_ts : Arv Z h0 ts ks .byte (Int32.ofNat ds.length) (ds.map bv) i0) (g_t : n0 ≤ t) (g_sb : n0 ≤ sb) (ne_xs_t : xs ≠ t) (ne_ts_t : ts ≠ t) (ne_sb_t : sb ≠ t) (ne_xs_sb : xs ≠ sb) (ne_ts_sb : ts ≠ sb) (Sc : SU4 Z G1) (hz : ¬ G1 = 0) (Sa : SU1 Z) (Sh : SU2 Z) (Sl : SU3 Z) (Sf : SU5 Z Gf) (rGf : Gf.isRef = true) (OL : Old Z n0 h0) (hle : cs.length + ds.length ≤ 16) (icb : CC cs) (icd : CC ds) (llb : LL cs) (lld : LL ds) :
  MetP l Z mn_41 k41_ 3 none (rr 2 0 0 33) ws #[(.ref sb), (.int (Int32.ofNat cs.length)), (.ref xs)] h0 (Q_putS00 Z sb t kb cs xs ts ks ds G1 Gf h0 n0) := by
 refine begH n0 cA rfl (plainFor_of_name pn_4) fun p e s m below meth c s₁ s0 hrt hlk hZ hx hby hml hown hnm X0 e0 N0 P0 => ?_
 replace P0 : PP p e below s₁ (mkF m 0 #[rv sb, iv (Int32.ofNat cs.length), rv xs] []) s0 := castPP (ef_31 m sb (Int32.ofNat cs.length) xs) P0
 have P1 := P0.bt X0 hx hby b150_ rfl
 obtain ⟨_, T2, L2, X2, hQ2, P2⟩ := cVi P1 X0 hx hZ hown hw e0 E_sb hml 151 154 152 155 111 (rm_ifn00 hw sb t kb cs xs G1 Gf Z0 E_sb Fv_sb Fc_sb Fn_sb Fm_sb V_t E_xs Fc_xs g_sb ne_sb_t ne_xs_sb Sc hz Sa Sh Sl Sf rGf OL) rfl rfl rfl rfl rfl rfl rfl [(.ref xs)] [] 0 (lenOf pd_25 rfl) rfl (Nat.le_of_eq rfl) (hb hby d41_2) rfl (by decide)
 obtain ⟨rfl, N2q, e2⟩ := hQ2
 have N2 := Fr.app N0 N2q
 have P3 : PP p e below T2 (mkF m 7 #[rv sb, iv (Int32.ofNat cs.length), rv xs] [(.ref sb), (.ref xs)]) s0 := fun q_ k_ => P2 q_ (by
  exact bt X2 hx hby b151_ rfl k_)
 obtain ⟨T4, X4, e4, P4⟩ := gF P3 X2 hx hZ hown hw 115 e2 Fv_sb (hb hby d41_7)
 have P5 := P4.bt X4 hx hby b152_ rfl
 obtain ⟨T6, X6, e6, P6⟩ := gF P5 X4 hx hZ hown hw 117 e4 Fc_sb (hb hby d41_12)
 obtain ⟨_, T7, L7, X7, hQ7, P7⟩ := cVi P6 X6 hx hZ hown hw e6 E_xs hml 157 160 159 161 2 (rm_getB0 hw xs ts ks (ds.map bv) ds.length t kb (cs.map bv) cs.length 16 G1 Z0 E_xs Fv_xs Fc_xs V_ts V_t g_t ne_xs_t ne_ts_t Sc OL hz (List.length_map ..) (List.length_map ..) (by rw [List.length_map, List.length_map]; exact hle) (by decide)) rfl rfl rfl rfl rfl rfl rfl [(.ref t), (.int (Int32.ofNat cs.length)), i0] [] 0 (lenOf pd_26 rfl) rfl (Nat.le_of_eq rfl) (hb hby d41_15) rfl (by decide)
 obtain ⟨rfl, N7q, Kc7, po7_0⟩ := hQ7
 have N7 := Fr.app N2 N7q
 obtain ⟨Lf8, X7, N8⟩ := fixL X7 N7 0 0 rfl rfl
 have K7 := Kt1 (Keep.refl h0 [t]) Kc7 (Or.inl (mi 0))
 have V_t := po7_0
 exact endV 18 #[rv sb, iv (Int32.ofNat cs.length), rv xs] X7 hx hrt hlk P7 (hb hby d41_18) rfl (by decide) (by decide) (show Q_putS00 Z sb t kb cs xs ts ks ds G1 Gf h0 n0 _ _ _ from ⟨rfl, N8, K7, V_t⟩)
def Q_putS01 (Z : State) (sb t : Addr) (kb : ClassId) (cs : List Int32) (xs ts : Addr) (ks : ClassId) (ds : List Int32) (G1 : Int32) (Gf : Value) : QT := fun h0 n0 v h L => ∃ (tn : Addr) (kn : ClassId), v = none ∧ Fr n0 L ∧ Keep h0 h [sb] ∧ (h0.size ≤ tn) ∧ (Exa Z h sb cB) ∧ (Fld Z h sb cA "value" "[B" (.ref tn)) ∧ (Fld Z h sb cA "coder" "B" (.int 1)) ∧ (Fld Z h sb cA "count" "I" (.int (Int32.ofNat cs.length))) ∧ (Fld Z h sb cA "maybeLatin1" "Z" i0) ∧ (Arv Z h tn kn .byte 32 (wid cs ++ wid ds) i0) ∧ (sb ≠ tn)
theorem rm_putS01 (hw : HW a0 Z) (sb t : Addr) (kb : ClassId) (cs : List Int32) (xs ts : Addr) (ks : ClassId) (ds : List Int32) (G1 : Int32) (Gf : Value) (Z0 : n0 ≤ h0.size) (E_sb : Exa Z h0 sb cB) (Fv_sb : Fld Z h0 sb cA "value" "[B" (.ref t)) (Fc_sb : Fld Z h0 sb cA "coder" "B" i0) (Fn_sb : Fld Z h0 sb cA "count" "I" (.int (Int32.ofNat cs.length))) (Fm_sb : Fld Z h0 sb cA "maybeLatin1" "Z" i0) (V_t : Arv Z h0 t kb .byte 16 (cs.map bv) i0) (E_xs : Exa Z h0 xs cS) (Fv_xs : Fld Z h0 xs cS "value" "[B" (.ref ts)) (Fc_xs : Fld Z h0 xs cS "coder" "B" (.int 1)) (V_ts : Arv Z h0 ts ks .byte (Int32.ofNat (2 * ds.length)) (wid ds) i0) (g_t : n0 ≤ t) (g_sb : n0 ≤ sb) (ne_xs_t : xs ≠ t) (ne_ts_t : ts ≠ t) (ne_sb_t : sb ≠ t) (ne_xs_sb : xs ≠ sb) (ne_ts_sb : ts ≠ sb) (Sc : SU4 Z G1) (hz : ¬ G1 = 0) (Sa : SU1 Z) (Sh : SU2 Z) (Sl : SU3 Z) (Sf : SU5 Z Gf) (rGf : Gf.isRef = true) (OL : Old Z n0 h0) (hle : cs.length + ds.length ≤ 16) (icb : CC cs) (icd : CC ds) (llb : LL cs) :
  MetP l Z mn_41 k41_ 3 none (rr 7 1 32 102) ws #[(.ref sb), (.int (Int32.ofNat cs.length)), (.ref xs)] h0 (Q_putS01 Z sb t kb cs xs ts ks ds G1 Gf h0 n0) := by
 refine begH n0 cA rfl (plainFor_of_name pn_4) fun p e s m below meth c s₁ s0 hrt hlk hZ hx hby hml hown hnm X0 e0 N0 P0 => ?_
 replace P0 : PP p e below s₁ (mkF m 0 #[rv sb, iv (Int32.ofNat cs.length), rv xs] []) s0 := castPP (ef_31 m sb (Int32.ofNat cs.length) xs) P0
 have P1 := P0.bt X0 hx hby b150_ rfl
 obtain ⟨_, T2, L2, X2, hQ2, P2⟩ := cVi P1 X0 hx hZ hown hw e0 E_sb hml 151 154 152 155 111 (rm_ifn01 hw sb t kb cs xs G1 Gf Z0 E_sb Fv_sb Fc_sb Fn_sb Fm_sb V_t E_xs Fc_xs g_sb ne_sb_t ne_xs_sb Sc hz Sa Sh Sl Sf rGf OL (by omega) icb llb) rfl rfl rfl rfl rfl rfl rfl [(.ref xs)] [] 0 (lenOf pd_25 rfl) rfl (Nat.le_of_eq rfl) (hb hby d41_2) rfl (by decide)
 obtain ⟨tn_2, kn_2, rfl, N2q, Kc2, po2_0, po2_1, po2_2, po2_3, po2_4, po2_5, po2_6, po2_7⟩ := hQ2
 have N2 := Fr.app N0 N2q
 obtain ⟨Lf3, X2, N3⟩ := fixL X2 N2 1 32 rfl rfl
 have ne_xs_tn_2 := neL E_xs.lt po2_0
 have ne_ts_tn_2 := neL V_ts.lt po2_0
 have sz_tn_2 : h0.size ≤ tn_2 := Nat.le_trans (Nat.le_refl h0.size) po2_0
 replace E_xs := E_xs.keep Kc2
 replace Fv_xs := Fv_xs.keep Kc2 (ninS ne_xs_sb nin0)
 replace Fc_xs := Fc_xs.keep Kc2 (ninS ne_xs_sb nin0)
 replace V_ts := V_ts.keep Kc2 (ninS ne_ts_sb nin0)
 replace OL := OL.keep Kc2 (allS g_sb all0)
 have K2 := Kt1 (Keep.refl h0 [sb]) Kc2 (Or.inl (mi 0))
 have E_sb := po2_1
 have Fv_sb := po2_2
 have Fc_sb := po2_3
 have Fn_sb := po2_4
 have Fm_sb := po2_5
 have V_tn_2 := po2_6
 have P4 : PP p e below T2 (mkF m 7 #[rv sb, iv (Int32.ofNat cs.length), rv xs] [(.ref sb), (.ref xs)]) s0 := fun q_ k_ => P2 q_ (by
  exact bt X2 hx hby b151_ rfl k_)
 obtain ⟨T5, X5, e5, P5⟩ := gF P4 X2 hx hZ hown hw 115 rfl Fv_sb (hb hby d41_7)
 have P6 := P5.bt X5 hx hby b152_ rfl
 obtain ⟨T7, X7, e7, P7⟩ := gF P6 X5 hx hZ hown hw 117 e5 Fc_sb (hb hby d41_12)
 obtain ⟨_, T8, L8, X8, hQ8, P8⟩ := cVi P7 X7 hx hZ hown hw e7 E_xs hml 157 160 159 161 2 (rm_getB1 hw xs ts ks (wid ds) (2 * ds.length) tn_2 kn_2 (wid cs) cs.length 32 G1 (zT Z0 K2.1) E_xs Fv_xs Fc_xs V_ts V_tn_2 (Nat.le_trans Z0 sz_tn_2) ne_xs_tn_2 ne_ts_tn_2 Sc OL hz (own_widL ds) (own_widL cs) (by rw [own_widL, own_widL]; omega) (by decide)) rfl rfl rfl rfl rfl rfl rfl [(.ref tn_2), (.int (Int32.ofNat cs.length)), (.int 1)] [] 0 (lenOf pd_26 rfl) rfl (Nat.le_of_eq rfl) (hb hby d41_15) rfl (by decide)
 obtain ⟨rfl, N8q, Kc8, po8_0⟩ := hQ8
 have N8 := Fr.app N3 N8q
 obtain ⟨Lf9, X8, N9⟩ := fixL X8 N8 1 32 rfl rfl
 replace E_sb := E_sb.keep Kc8
 replace Fv_sb := Fv_sb.keep Kc8 (ninS po2_7 nin0)
 replace Fc_sb := Fc_sb.keep Kc8 (ninS po2_7 nin0)
 replace Fn_sb := Fn_sb.keep Kc8 (ninS po2_7 nin0)
 replace Fm_sb := Fm_sb.keep Kc8 (ninS po2_7 nin0)
 have K8 := Kt1 K2 Kc8 (Or.inr sz_tn_2)
 have V_tn_2 := po8_0
 exact endV 18 #[rv sb, iv (Int32.ofNat cs.length), rv xs] X8 hx hrt hlk P8 (hb hby d41_18) rfl (by decide) (by decide) (show Q_putS01 Z sb t kb cs xs ts ks ds G1 Gf h0 n0 _ _ _ from ⟨tn_2, kn_2, rfl, N9, K8, sz_tn_2, E_sb, Fv_sb, Fc_sb, Fn_sb, Fm_sb, V_tn_2, po2_7⟩)
def Q_putS10 (Z : State) (sb t : Addr) (kb : ClassId) (cs : List Int32) (xs ts : Addr) (ks : ClassId) (ds : List Int32) (G1 : Int32) (Gf : Value) : QT := fun h0 n0 v h L => v = none ∧ Fr n0 L ∧ Keep h0 h [t] ∧ (Arv Z h t kb .byte 32 (wid (cs ++ ds)) i0)
theorem rm_putS10 (hw : HW a0 Z) (sb t : Addr) (kb : ClassId) (cs : List Int32) (xs ts : Addr) (ks : ClassId) (ds : List Int32) (G1 : Int32) (Gf : Value) (Z0 : n0 ≤ h0.size) (E_sb : Exa Z h0 sb cB) (Fv_sb : Fld Z h0 sb cA "value" "[B" (.ref t)) (Fc_sb : Fld Z h0 sb cA "coder" "B" (.int 1)) (Fn_sb : Fld Z h0 sb cA "count" "I" (.int (Int32.ofNat cs.length))) (Fm_sb : Fld Z h0 sb cA "maybeLatin1" "Z" i0) (V_t : Arv Z h0 t kb .byte 32 (wid cs) i0) (E_xs : Exa Z h0 xs cS) (Fv_xs : Fld Z h0 xs cS "value" "[B" (.ref ts)) (Fc_xs : Fld Z h0 xs cS "coder" "B" i0) (V_ts : Arv Z h0 ts ks .byte (Int32.ofNat ds.length) (ds.map bv) i0) (g_t : n0 ≤ t) (g_sb : n0 ≤ sb) (ne_xs_t : xs ≠ t) (ne_ts_t : ts ≠ t) (ne_sb_t : sb ≠ t) (ne_xs_sb : xs ≠ sb) (ne_ts_sb : ts ≠ sb) (Sc : SU4 Z G1) (hz : ¬ G1 = 0) (Sa : SU1 Z) (Sh : SU2 Z) (Sl : SU3 Z) (Sf : SU5 Z Gf) (rGf : Gf.isRef = true) (OL : Old Z n0 h0) (hle : cs.length + ds.length ≤ 16) (icb : CC cs) (icd : CC ds) (lld : LL ds) :
  MetP l Z mn_41 k41_ 3 none (rr 6 0 0 91) ws #[(.ref sb), (.int (Int32.ofNat cs.length)), (.ref xs)] h0 (Q_putS10 Z sb t kb cs xs ts ks ds G1 Gf h0 n0) := by
 refine begH n0 cA rfl (plainFor_of_name pn_4) fun p e s m below meth c s₁ s0 hrt hlk hZ hx hby hml hown hnm X0 e0 N0 P0 => ?_
 replace P0 : PP p e below s₁ (mkF m 0 #[rv sb, iv (Int32.ofNat cs.length), rv xs] []) s0 := castPP (ef_31 m sb (Int32.ofNat cs.length) xs) P0
 have P1 := P0.bt X0 hx hby b150_ rfl
 obtain ⟨_, T2, L2, X2, hQ2, P2⟩ := cVi P1 X0 hx hZ hown hw e0 E_sb hml 151 154 152 155 111 (rm_ifn10 hw sb t kb cs xs G1 Gf Z0 E_sb Fv_sb Fc_sb Fn_sb Fm_sb V_t E_xs Fc_xs g_sb ne_sb_t ne_xs_sb Sc hz Sa Sh Sl Sf rGf OL) rfl rfl rfl rfl rfl rfl rfl [(.ref xs)] [] 0 (lenOf pd_25 rfl) rfl (Nat.le_of_eq rfl) (hb hby d41_2) rfl (by decide)
 obtain ⟨rfl, N2q, e2⟩ := hQ2
 have N2 := Fr.app N0 N2q
 have P3 : PP p e below T2 (mkF m 7 #[rv sb, iv (Int32.ofNat cs.length), rv xs] [(.ref sb), (.ref xs)]) s0 := fun q_ k_ => P2 q_ (by
  exact bt X2 hx hby b151_ rfl k_)
 obtain ⟨T4, X4, e4, P4⟩ := gF P3 X2 hx hZ hown hw 115 e2 Fv_sb (hb hby d41_7)
 have P5 := P4.bt X4 hx hby b152_ rfl
 obtain ⟨T6, X6, e6, P6⟩ := gF P5 X4 hx hZ hown hw 117 e4 Fc_sb (hb hby d41_12)
 obtain ⟨_, T7, L7, X7, hQ7, P7⟩ := cVi P6 X6 hx hZ hown hw e6 E_xs hml 157 160 159 161 2 (rm_getB10 hw xs ts ks ds t kb cs G1 Gf Z0 E_xs Fv_xs Fc_xs V_ts V_t g_t ne_xs_t ne_ts_t Sc hz Sa Sh Sl Sf rGf OL hle icd lld) rfl rfl rfl rfl rfl rfl rfl [(.ref t), (.int (Int32.ofNat cs.length)), (.int 1)] [] 0 (lenOf pd_26 rfl) rfl (Nat.le_of_eq rfl) (hb hby d41_15) rfl (by decide)
 obtain ⟨rfl, N7q, Kc7, po7_0⟩ := hQ7
 have N7 := Fr.app N2 N7q
 obtain ⟨Lf8, X7, N8⟩ := fixL X7 N7 0 0 rfl rfl
 have K7 := Kt1 (Keep.refl h0 [t]) Kc7 (Or.inl (mi 0))
 have V_t := po7_0
 exact endV 18 #[rv sb, iv (Int32.ofNat cs.length), rv xs] X7 hx hrt hlk P7 (hb hby d41_18) rfl (by decide) (by decide) (show Q_putS10 Z sb t kb cs xs ts ks ds G1 Gf h0 n0 _ _ _ from ⟨rfl, N8, K7, V_t⟩)
def Q_putS11 (Z : State) (sb t : Addr) (kb : ClassId) (cs : List Int32) (xs ts : Addr) (ks : ClassId) (ds : List Int32) (G1 : Int32) (Gf : Value) : QT := fun h0 n0 v h L => v = none ∧ Fr n0 L ∧ Keep h0 h [t] ∧ (Arv Z h t kb .byte 32 (wid cs ++ wid ds) i0)
theorem rm_putS11 (hw : HW a0 Z) (sb t : Addr) (kb : ClassId) (cs : List Int32) (xs ts : Addr) (ks : ClassId) (ds : List Int32) (G1 : Int32) (Gf : Value) (Z0 : n0 ≤ h0.size) (E_sb : Exa Z h0 sb cB) (Fv_sb : Fld Z h0 sb cA "value" "[B" (.ref t)) (Fc_sb : Fld Z h0 sb cA "coder" "B" (.int 1)) (Fn_sb : Fld Z h0 sb cA "count" "I" (.int (Int32.ofNat cs.length))) (Fm_sb : Fld Z h0 sb cA "maybeLatin1" "Z" i0) (V_t : Arv Z h0 t kb .byte 32 (wid cs) i0) (E_xs : Exa Z h0 xs cS) (Fv_xs : Fld Z h0 xs cS "value" "[B" (.ref ts)) (Fc_xs : Fld Z h0 xs cS "coder" "B" (.int 1)) (V_ts : Arv Z h0 ts ks .byte (Int32.ofNat (2 * ds.length)) (wid ds) i0) (g_t : n0 ≤ t) (g_sb : n0 ≤ sb) (ne_xs_t : xs ≠ t) (ne_ts_t : ts ≠ t) (ne_sb_t : sb ≠ t) (ne_xs_sb : xs ≠ sb) (ne_ts_sb : ts ≠ sb) (Sc : SU4 Z G1) (hz : ¬ G1 = 0) (Sa : SU1 Z) (Sh : SU2 Z) (Sl : SU3 Z) (Sf : SU5 Z Gf) (rGf : Gf.isRef = true) (OL : Old Z n0 h0) (hle : cs.length + ds.length ≤ 16) (icb : CC cs) (icd : CC ds) :
  MetP l Z mn_41 k41_ 3 none (rr 2 0 0 33) ws #[(.ref sb), (.int (Int32.ofNat cs.length)), (.ref xs)] h0 (Q_putS11 Z sb t kb cs xs ts ks ds G1 Gf h0 n0) := by
 refine begH n0 cA rfl (plainFor_of_name pn_4) fun p e s m below meth c s₁ s0 hrt hlk hZ hx hby hml hown hnm X0 e0 N0 P0 => ?_
 replace P0 : PP p e below s₁ (mkF m 0 #[rv sb, iv (Int32.ofNat cs.length), rv xs] []) s0 := castPP (ef_31 m sb (Int32.ofNat cs.length) xs) P0
 have P1 := P0.bt X0 hx hby b150_ rfl
 obtain ⟨_, T2, L2, X2, hQ2, P2⟩ := cVi P1 X0 hx hZ hown hw e0 E_sb hml 151 154 152 155 111 (rm_ifn11 hw sb t kb cs xs G1 Gf Z0 E_sb Fv_sb Fc_sb Fn_sb Fm_sb V_t E_xs Fc_xs g_sb ne_sb_t ne_xs_sb Sc hz Sa Sh Sl Sf rGf OL) rfl rfl rfl rfl rfl rfl rfl [(.ref xs)] [] 0 (lenOf pd_25 rfl) rfl (Nat.le_of_eq rfl) (hb hby d41_2) rfl (by decide)
 obtain ⟨rfl, N2q, e2⟩ := hQ2
 have N2 := Fr.app N0 N2q
 have P3 : PP p e below T2 (mkF m 7 #[rv sb, iv (Int32.ofNat cs.length), rv xs] [(.ref sb), (.ref xs)]) s0 := fun q_ k_ => P2 q_ (by
  exact bt X2 hx hby b151_ rfl k_)
 obtain ⟨T4, X4, e4, P4⟩ := gF P3 X2 hx hZ hown hw 115 e2 Fv_sb (hb hby d41_7)
 have P5 := P4.bt X4 hx hby b152_ rfl
 obtain ⟨T6, X6, e6, P6⟩ := gF P5 X4 hx hZ hown hw 117 e4 Fc_sb (hb hby d41_12)
 obtain ⟨_, T7, L7, X7, hQ7, P7⟩ := cVi P6 X6 hx hZ hown hw e6 E_xs hml 157 160 159 161 2 (rm_getB1 hw xs ts ks (wid ds) (2 * ds.length) t kb (wid cs) cs.length 32 G1 Z0 E_xs Fv_xs Fc_xs V_ts V_t g_t ne_xs_t ne_ts_t Sc OL hz (own_widL ds) (own_widL cs) (by rw [own_widL, own_widL]; omega) (by decide)) rfl rfl rfl rfl rfl rfl rfl [(.ref t), (.int (Int32.ofNat cs.length)), (.int 1)] [] 0 (lenOf pd_26 rfl) rfl (Nat.le_of_eq rfl) (hb hby d41_15) rfl (by decide)
 obtain ⟨rfl, N7q, Kc7, po7_0⟩ := hQ7
 have N7 := Fr.app N2 N7q
 obtain ⟨Lf8, X7, N8⟩ := fixL X7 N7 0 0 rfl rfl
 have K7 := Kt1 (Keep.refl h0 [t]) Kc7 (Or.inl (mi 0))
 have V_t := po7_0
 exact endV 18 #[rv sb, iv (Int32.ofNat cs.length), rv xs] X7 hx hrt hlk P7 (hb hby d41_18) rfl (by decide) (by decide) (show Q_putS11 Z sb t kb cs xs ts ks ds G1 Gf h0 n0 _ _ _ from ⟨rfl, N8, K7, V_t⟩)
theorem ef_32 (m : MethodId) (x0 : Addr) (x1 : Addr) : entryFrame m #[(.ref x0), (.ref x1)] 3 = mkF m 0 #[.val (.ref x0), .val (.ref x1), .unset] [] := by first | (simp [entryFrame, mkF, argsToLocals, Value.category]; done) | rfl
abbrev k42_ := jdk_68_method_22_code
theorem d42_1 : decode k42_ 1 = .ok (.ifnonnull 8, 3) := by decide +kernel
theorem b153_ : dl k42_ 0 [(.aload_n 1, 1)] = true := by decide +kernel
theorem b154_ : dl k42_ 9 [(.aload_n 1, 1)] = true := by decide +kernel
theorem pd_27 : parseMethodDescriptor "()I" = some ⟨[], some .int⟩ := by decide +kernel
theorem d42_10 : decode k42_ 10 = .ok (.invokevirtual 32, 3) := by decide +kernel
theorem b155_ : dl k42_ 13 [(.istore_n 2, 1), (.aload_n 0, 1), (.aload_n 0, 1)] = true := by decide +kernel
theorem d42_16 : decode k42_ 16 = .ok (.getfield 79, 3) := by decide +kernel
theorem b156_ : dl k42_ 19 [(.iload_n 2, 1), (.iadd, 1)] = true := by decide +kernel
theorem d42_21 : decode k42_ 21 = .ok (.invokevirtual 100, 3) := by decide +kernel
theorem b157_ : dl k42_ 24 [(.aload_n 0, 1), (.aload_n 0, 1)] = true := by decide +kernel
theorem d42_26 : decode k42_ 26 = .ok (.getfield 79, 3) := by decide +kernel
theorem b158_ : dl k42_ 29 [(.aload_n 1, 1)] = true := by decide +kernel
theorem pd_28 : parseMethodDescriptor "(ILjava/lang/String;)V" = some ⟨[.int, (.object "java/lang/String")], none⟩ := by decide +kernel
theorem d42_30 : decode k42_ 30 = .ok (.invokevirtual 208, 3) := by decide +kernel
theorem b159_ : dl k42_ 33 [(.aload_n 0, 1), (.dup, 1)] = true := by decide +kernel
theorem d42_35 : decode k42_ 35 = .ok (.getfield 79, 3) := by decide +kernel
theorem b160_ : dl k42_ 38 [(.iload_n 2, 1), (.iadd, 1)] = true := by decide +kernel
theorem d42_40 : decode k42_ 40 = .ok (.putfield 79, 3) := by decide +kernel
theorem b161_ : dl k42_ 43 [(.aload_n 0, 1)] = true := by decide +kernel
theorem d42_44 : decode k42_ 44 = .ok (.areturn, 1) := by decide +kernel
def Q_asbApp (Z : State) (sb t : Addr) (kb : ClassId) (cd zb : Int32) (vs : List Value) (cs : List Int32) (xs ts : Addr) (ks : ClassId) (ce ze : Int32) (wv : List Value) (ds : List Int32) (G1 : Int32) (Gf : Value) : QT := fun h0 n0 v h L => ∃ (tn : Addr) (kn : ClassId) (cd2 : Int32) (zb2 : Int32) (vs2 : List Value), v = some (.ref sb) ∧ Fr n0 L ∧ Keep h0 h [sb, t] ∧ (tn = t ∨ h0.size ≤ tn) ∧ (Exa Z h sb cB) ∧ (Fld Z h sb cA "value" "[B" (.ref tn)) ∧ (Fld Z h sb cA "coder" "B" (.int cd2)) ∧ (Fld Z h sb cA "count" "I" (.int (Int32.ofNat (cs ++ ds).length))) ∧ (Fld Z h sb cA "maybeLatin1" "Z" i0) ∧ (Arv Z h tn kn .byte zb2 vs2 i0) ∧ (sb ≠ tn) ∧ (BB cd2 zb2 vs2 (cs ++ ds))
abbrev mn_42 : MethodName := ⟨"java/lang/AbstractStringBuilder", "append", "(Ljava/lang/String;)Ljava/lang/AbstractStringBuilder;"⟩
theorem rm_asbApp (hw : HW a0 Z) (sb t : Addr) (kb : ClassId) (cd zb : Int32) (vs : List Value) (cs : List Int32) (xs ts : Addr) (ks : ClassId) (ce ze : Int32) (wv : List Value) (ds : List Int32) (G1 : Int32) (Gf : Value) (Z0 : n0 ≤ h0.size) (E_sb : Exa Z h0 sb cB) (Fv_sb : Fld Z h0 sb cA "value" "[B" (.ref t)) (Fc_sb : Fld Z h0 sb cA "coder" "B" (.int cd)) (Fn_sb : Fld Z h0 sb cA "count" "I" (.int (Int32.ofNat cs.length))) (Fm_sb : Fld Z h0 sb cA "maybeLatin1" "Z" i0) (V_t : Arv Z h0 t kb .byte zb vs i0) (E_xs : Exa Z h0 xs cS) (Fv_xs : Fld Z h0 xs cS "value" "[B" (.ref ts)) (Fc_xs : Fld Z h0 xs cS "coder" "B" (.int ce)) (V_ts : Arv Z h0 ts ks .byte ze wv i0) (g_t : n0 ≤ t) (g_sb : n0 ≤ sb) (ne_xs_t : xs ≠ t) (ne_ts_t : ts ≠ t) (ne_sb_t : sb ≠ t) (ne_xs_sb : xs ≠ sb) (ne_ts_sb : ts ≠ sb) (Sc : SU4 Z G1) (hz : ¬ G1 = 0) (Sa : SU1 Z) (Sh : SU2 Z) (Sl : SU3 Z) (Sf : SU5 Z Gf) (rGf : Gf.isRef = true) (OL : Old Z n0 h0) (hbb : BB cd zb vs cs) (hkb : KB ce ze wv ds) (hle : cs.length + ds.length ≤ 16) :
  MetP l Z mn_42 k42_ 3 (some (.object cA)) (rr 8 1 32 116) ws #[(.ref sb), (.ref xs)] h0 (Q_asbApp Z sb t kb cd zb vs cs xs ts ks ce ze wv ds G1 Gf h0 n0) := by
 refine begH n0 cA rfl (plainFor_of_name pn_4) fun p e s m below meth c s₁ s0 hrt hlk hZ hx hby hml hown hnm X0 e0 N0 P0 => ?_
 replace P0 : PP p e below s₁ (mkF m 0 #[rv sb, rv xs, .unset] []) s0 := castPP (ef_32 m sb xs) P0
 rcases hbb with ⟨icb, ⟨rfl, rfl, rfl, llb⟩ | ⟨rfl, rfl, rfl⟩⟩ <;> rcases hkb with ⟨icd, ⟨rfl, rfl, rfl, lld⟩ | ⟨rfl, rfl, rfl⟩⟩
 ·
  have P1 : PP p e below s₁ (mkF m 10 #[rv sb, rv xs, .unset] [(.ref xs)]) s0 := fun q_ k_ => P0 q_ (by
   refine bt X0 hx hby b153_ rfl ?_
   refine XS.ifnonnullYes X0.here hx rfl (pc0 := 1) (pc' := 9) rfl (hb hby d42_1) rfl (by decide) (by decide) ?_
   exact bt X0 hx hby b154_ rfl k_)
  obtain ⟨_, T2, L2, X2, hQ2, P2⟩ := cVi P1 X0 hx hZ hown hw e0 E_xs hml 129 132 131 133 2 (rm_sLen hw xs ts ks (0 : Int32) (Int32.ofNat ds.length) (ds.map bv) ds G1 Gf Z0 E_xs Fv_xs Fc_xs V_ts (⟨icd, Or.inl ⟨rfl, rfl, rfl, lld⟩⟩) Sc hz Sa Sh Sl Sf rGf OL (by omega)) rfl rfl rfl rfl rfl rfl rfl [] [] 0 (lenOf pd_27 rfl) rfl (Nat.le_of_eq rfl) (hb hby d42_10) rfl (by decide)
  obtain ⟨rfl, N2q, e2⟩ := hQ2
  have N2 := Fr.app N0 N2q
  have P3 := P2.bt X2 hx hby b155_ rfl
  obtain ⟨T4, X4, e4, P4⟩ := gF P3 X2 hx hZ hown hw 139 e2 Fn_sb (hb hby d42_16)
  have P5 : PP p e below T4 (mkF m 21 #[rv sb, rv xs, iv (Int32.ofNat ds.length)] [(.int ((Int32.ofNat cs.length) + (Int32.ofNat ds.length))), (.ref sb)]) s0 := fun q_ k_ => P4 q_ (by
   exact bt X4 hx hby b156_ rfl k_)
  have P6 : PP p e below T4 (mkF m 21 #[rv sb, rv xs, iv (Int32.ofNat ds.length)] [(.int (Int32.ofNat (cs.length + ds.length))), (.ref sb)]) s0 := fun q_ k_ => P5 q_ (by rw [own_add]; exact k_)
  obtain ⟨_, T7, L7, X7, hQ7, P7⟩ := cVi P6 X4 hx hZ hown hw e4 E_sb hml 141 144 142 145 111 (rm_ensC0 hw sb t kb (cs.map bv) (cs.length + ds.length) Z0 E_sb Fv_sb Fc_sb V_t hle) rfl rfl rfl rfl rfl rfl rfl [(.int (Int32.ofNat (cs.length + ds.length)))] [] 0 (lenOf pd_23 rfl) rfl (Nat.le_of_eq rfl) (hb hby d42_21) rfl (by decide)
  obtain ⟨rfl, N7q, e7⟩ := hQ7
  have N7 := Fr.app N2 N7q
  have P8 := P7.bt X7 hx hby b157_ rfl
  obtain ⟨T9, X9, e9, P9⟩ := gF P8 X7 hx hZ hown hw 139 e7 Fn_sb (hb hby d42_26)
  have P10 : PP p e below T9 (mkF m 30 #[rv sb, rv xs, iv (Int32.ofNat ds.length)] [(.ref xs), (.int (Int32.ofNat cs.length)), (.ref sb)]) s0 := fun q_ k_ => P9 q_ (by
   exact bt X9 hx hby b158_ rfl k_)
  obtain ⟨_, T11, L11, X11, hQ11, P11⟩ := cVi P10 X9 hx hZ hown hw e9 E_sb hml 146 149 147 150 111 (rm_putS00 hw sb t kb cs xs ts ks ds G1 Gf Z0 E_sb Fv_sb Fc_sb Fn_sb Fm_sb V_t E_xs Fv_xs Fc_xs V_ts g_t g_sb ne_xs_t ne_ts_t ne_sb_t ne_xs_sb ne_ts_sb Sc hz Sa Sh Sl Sf rGf OL hle icb icd llb lld) rfl rfl rfl rfl rfl rfl rfl [(.int (Int32.ofNat cs.length)), (.ref xs)] [] 0 (lenOf pd_28 rfl) rfl (Nat.le_of_eq rfl) (hb hby d42_30) rfl (by decide)
  obtain ⟨rfl, N11q, Kc11, po11_0⟩ := hQ11
  have N11 := Fr.app N7 N11q
  obtain ⟨Lf12, X11, N12⟩ := fixL X11 N11 0 0 rfl rfl
  replace E_sb := E_sb.keep Kc11
  replace Fv_sb := Fv_sb.keep Kc11 (ninS ne_sb_t nin0)
  replace Fc_sb := Fc_sb.keep Kc11 (ninS ne_sb_t nin0)
  replace Fn_sb := Fn_sb.keep Kc11 (ninS ne_sb_t nin0)
  replace Fm_sb := Fm_sb.keep Kc11 (ninS ne_sb_t nin0)
  have K11 := Kt1 (Keep.refl h0 [sb, t]) Kc11 (Or.inl (mi 1))
  have V_t := po11_0
  have P13 := P11.bt X11 hx hby b159_ rfl
  obtain ⟨T14, X14, e14, P14⟩ := gF P13 X11 hx hZ hown hw 139 rfl Fn_sb (hb hby d42_35)
  have P15 : PP p e below T14 (mkF m 40 #[rv sb, rv xs, iv (Int32.ofNat ds.length)] [(.int ((Int32.ofNat cs.length) + (Int32.ofNat ds.length))), (.ref sb)]) s0 := fun q_ k_ => P14 q_ (by
   exact bt X14 hx hby b160_ rfl k_)
  have P16 : PP p e below T14 (mkF m 40 #[rv sb, rv xs, iv (Int32.ofNat ds.length)] [(.int (Int32.ofNat (cs ++ ds).length)), (.ref sb)]) s0 := fun q_ k_ => P15 q_ (by rw [show Int32.ofNat cs.length + Int32.ofNat ds.length = Int32.ofNat (cs ++ ds).length by rw [own_add, List.length_append]]; exact k_)
  obtain ⟨T17, h17, X17, e17, W17, st17⟩ := putF X14 hx hZ hown (host := "") (Or.inl (ww hw 139 rfl)) Via.refl e14 Fn_sb E_sb (Or.inl (ww hw 140 rfl)) (ww hw 102 rfl) (ty := .int) (by decide) rfl rfl (g := P16.g) rfl rfl (hb hby d42_40)
  have P18 := P16.st st17
  have N17 := Fr.snoc X17 N12 g_sb
  have K17 := K11.wr W17 (Or.inl (mi 0))
  replace E_sb := E_sb.wr W17
  replace Fv_sb := Fv_sb.other W17 (Or.inr (slot_ne (Or.inl (ww hw 116 rfl)) (Or.inl (ww hw 140 rfl)) (by decide) (t := (.array .byte)) (t' := .int) (by decide) (by decide)))
  replace Fc_sb := Fc_sb.other W17 (Or.inr (slot_ne (Or.inl (ww hw 118 rfl)) (Or.inl (ww hw 140 rfl)) (by decide) (t := .byte) (t' := .int) (by decide) (by decide)))
  replace Fn_sb : Fld Z h17 sb cA "count" "I" (.int (Int32.ofNat (cs ++ ds).length)) := Fn_sb.same W17
  replace Fm_sb := Fm_sb.other W17 (Or.inr (slot_ne (Or.inl (ww hw 484 rfl)) (Or.inl (ww hw 140 rfl)) (by decide) (t := .boolean) (t' := .int) (by decide) (by decide)))
  replace V_t := V_t.other W17 (Ne.symm ne_sb_t)
  have P19 := P18.bt X17 hx hby b161_ rfl
  exact endA 44 #[rv sb, rv xs, iv (Int32.ofNat ds.length)] (rest := []) X17 hx hrt rfl hlk P19 (hb hby d42_44) e17 (by decide) (by decide) (show Q_asbApp Z sb t kb (0 : Int32) (16 : Int32) (cs.map bv) cs xs ts ks (0 : Int32) (Int32.ofNat ds.length) (ds.map bv) ds G1 Gf h0 n0 _ _ _ from ⟨t, kb, (0 : Int32), (16 : Int32), (cs.map bv ++ ds.map bv), rfl, N17, K17, (Or.inl rfl), E_sb, Fv_sb, Fc_sb, Fn_sb, Fm_sb, V_t, ne_sb_t, ⟨own_ccA icb icd, Or.inl ⟨rfl, rfl, (List.map_append ..).symm, own_llA llb lld⟩⟩⟩)
 ·
  have P20 : PP p e below s₁ (mkF m 10 #[rv sb, rv xs, .unset] [(.ref xs)]) s0 := fun q_ k_ => P0 q_ (by
   refine bt X0 hx hby b153_ rfl ?_
   refine XS.ifnonnullYes X0.here hx rfl (pc0 := 1) (pc' := 9) rfl (hb hby d42_1) rfl (by decide) (by decide) ?_
   exact bt X0 hx hby b154_ rfl k_)
  obtain ⟨_, T21, L21, X21, hQ21, P21⟩ := cVi P20 X0 hx hZ hown hw e0 E_xs hml 129 132 131 133 2 (rm_sLen hw xs ts ks (1 : Int32) (Int32.ofNat (2 * ds.length)) (wid ds) ds G1 Gf Z0 E_xs Fv_xs Fc_xs V_ts (⟨icd, Or.inr ⟨rfl, rfl, rfl⟩⟩) Sc hz Sa Sh Sl Sf rGf OL (by omega)) rfl rfl rfl rfl rfl rfl rfl [] [] 0 (lenOf pd_27 rfl) rfl (Nat.le_of_eq rfl) (hb hby d42_10) rfl (by decide)
  obtain ⟨rfl, N21q, e21⟩ := hQ21
  have N21 := Fr.app N0 N21q
  have P22 := P21.bt X21 hx hby b155_ rfl
  obtain ⟨T23, X23, e23, P23⟩ := gF P22 X21 hx hZ hown hw 139 e21 Fn_sb (hb hby d42_16)
  have P24 : PP p e below T23 (mkF m 21 #[rv sb, rv xs, iv (Int32.ofNat ds.length)] [(.int ((Int32.ofNat cs.length) + (Int32.ofNat ds.length))), (.ref sb)]) s0 := fun q_ k_ => P23 q_ (by
   exact bt X23 hx hby b156_ rfl k_)
  have P25 : PP p e below T23 (mkF m 21 #[rv sb, rv xs, iv (Int32.ofNat ds.length)] [(.int (Int32.ofNat (cs.length + ds.length))), (.ref sb)]) s0 := fun q_ k_ => P24 q_ (by rw [own_add]; exact k_)
  obtain ⟨_, T26, L26, X26, hQ26, P26⟩ := cVi P25 X23 hx hZ hown hw e23 E_sb hml 141 144 142 145 111 (rm_ensC0 hw sb t kb (cs.map bv) (cs.length + ds.length) Z0 E_sb Fv_sb Fc_sb V_t hle) rfl rfl rfl rfl rfl rfl rfl [(.int (Int32.ofNat (cs.length + ds.length)))] [] 0 (lenOf pd_23 rfl) rfl (Nat.le_of_eq rfl) (hb hby d42_21) rfl (by decide)
  obtain ⟨rfl, N26q, e26⟩ := hQ26
  have N26 := Fr.app N21 N26q
  have P27 := P26.bt X26 hx hby b157_ rfl
  obtain ⟨T28, X28, e28, P28⟩ := gF P27 X26 hx hZ hown hw 139 e26 Fn_sb (hb hby d42_26)
  have P29 : PP p e below T28 (mkF m 30 #[rv sb, rv xs, iv (Int32.ofNat ds.length)] [(.ref xs), (.int (Int32.ofNat cs.length)), (.ref sb)]) s0 := fun q_ k_ => P28 q_ (by
   exact bt X28 hx hby b158_ rfl k_)
  obtain ⟨_, T30, L30, X30, hQ30, P30⟩ := cVi P29 X28 hx hZ hown hw e28 E_sb hml 146 149 147 150 111 (rm_putS01 hw sb t kb cs xs ts ks ds G1 Gf Z0 E_sb Fv_sb Fc_sb Fn_sb Fm_sb V_t E_xs Fv_xs Fc_xs V_ts g_t g_sb ne_xs_t ne_ts_t ne_sb_t ne_xs_sb ne_ts_sb Sc hz Sa Sh Sl Sf rGf OL hle icb icd llb) rfl rfl rfl rfl rfl rfl rfl [(.int (Int32.ofNat cs.length)), (.ref xs)] [] 0 (lenOf pd_28 rfl) rfl (Nat.le_of_eq rfl) (hb hby d42_30) rfl (by decide)
  obtain ⟨tn_30, kn_30, rfl, N30q, Kc30, po30_0, po30_1, po30_2, po30_3, po30_4, po30_5, po30_6, po30_7⟩ := hQ30
  have N30 := Fr.app N26 N30q
  obtain ⟨Lf31, X30, N31⟩ := fixL X30 N30 1 32 rfl rfl
  have sz_tn_30 : h0.size ≤ tn_30 := Nat.le_trans (Nat.le_refl h0.size) po30_0
  have K30 := Kt1 (Keep.refl h0 [sb, t]) Kc30 (Or.inl (mi 0))
  have E_sb := po30_1
  have Fv_sb := po30_2
  have Fc_sb := po30_3
  have Fn_sb := po30_4
  have Fm_sb := po30_5
  have V_tn_30 := po30_6
  have P32 := P30.bt X30 hx hby b159_ rfl
  obtain ⟨T33, X33, e33, P33⟩ := gF P32 X30 hx hZ hown hw 139 rfl Fn_sb (hb hby d42_35)
  have P34 : PP p e below T33 (mkF m 40 #[rv sb, rv xs, iv (Int32.ofNat ds.length)] [(.int ((Int32.ofNat cs.length) + (Int32.ofNat ds.length))), (.ref sb)]) s0 := fun q_ k_ => P33 q_ (by
   exact bt X33 hx hby b160_ rfl k_)
  have P35 : PP p e below T33 (mkF m 40 #[rv sb, rv xs, iv (Int32.ofNat ds.length)] [(.int (Int32.ofNat (cs ++ ds).length)), (.ref sb)]) s0 := fun q_ k_ => P34 q_ (by rw [show Int32.ofNat cs.length + Int32.ofNat ds.length = Int32.ofNat (cs ++ ds).length by rw [own_add, List.length_append]]; exact k_)
  obtain ⟨T36, h36, X36, e36, W36, st36⟩ := putF X33 hx hZ hown (host := "") (Or.inl (ww hw 139 rfl)) Via.refl e33 Fn_sb E_sb (Or.inl (ww hw 140 rfl)) (ww hw 102 rfl) (ty := .int) (by decide) rfl rfl (g := P35.g) rfl rfl (hb hby d42_40)
  have P37 := P35.st st36
  have N36 := Fr.snoc X36 N31 g_sb
  have K36 := K30.wr W36 (Or.inl (mi 0))
  replace E_sb := E_sb.wr W36
  replace Fv_sb := Fv_sb.other W36 (Or.inr (slot_ne (Or.inl (ww hw 116 rfl)) (Or.inl (ww hw 140 rfl)) (by decide) (t := (.array .byte)) (t' := .int) (by decide) (by decide)))
  replace Fc_sb := Fc_sb.other W36 (Or.inr (slot_ne (Or.inl (ww hw 118 rfl)) (Or.inl (ww hw 140 rfl)) (by decide) (t := .byte) (t' := .int) (by decide) (by decide)))
  replace Fn_sb : Fld Z h36 sb cA "count" "I" (.int (Int32.ofNat (cs ++ ds).length)) := Fn_sb.same W36
  replace Fm_sb := Fm_sb.other W36 (Or.inr (slot_ne (Or.inl (ww hw 484 rfl)) (Or.inl (ww hw 140 rfl)) (by decide) (t := .boolean) (t' := .int) (by decide) (by decide)))
  replace V_tn_30 := V_tn_30.other W36 (Ne.symm po30_7)
  have P38 := P37.bt X36 hx hby b161_ rfl
  exact endA 44 #[rv sb, rv xs, iv (Int32.ofNat ds.length)] (rest := []) X36 hx hrt rfl hlk P38 (hb hby d42_44) e36 (by decide) (by decide) (show Q_asbApp Z sb t kb (0 : Int32) (16 : Int32) (cs.map bv) cs xs ts ks (1 : Int32) (Int32.ofNat (2 * ds.length)) (wid ds) ds G1 Gf h0 n0 _ _ _ from ⟨tn_30, kn_30, (1 : Int32), (32 : Int32), (wid cs ++ wid ds), rfl, N36, K36, (Or.inr sz_tn_30), E_sb, Fv_sb, Fc_sb, Fn_sb, Fm_sb, V_tn_30, po30_7, ⟨own_ccA icb icd, Or.inr ⟨rfl, rfl, (own_widA cs ds).symm⟩⟩⟩)
 ·
  have P39 : PP p e below s₁ (mkF m 10 #[rv sb, rv xs, .unset] [(.ref xs)]) s0 := fun q_ k_ => P0 q_ (by
   refine bt X0 hx hby b153_ rfl ?_
   refine XS.ifnonnullYes X0.here hx rfl (pc0 := 1) (pc' := 9) rfl (hb hby d42_1) rfl (by decide) (by decide) ?_
   exact bt X0 hx hby b154_ rfl k_)
  obtain ⟨_, T40, L40, X40, hQ40, P40⟩ := cVi P39 X0 hx hZ hown hw e0 E_xs hml 129 132 131 133 2 (rm_sLen hw xs ts ks (0 : Int32) (Int32.ofNat ds.length) (ds.map bv) ds G1 Gf Z0 E_xs Fv_xs Fc_xs V_ts (⟨icd, Or.inl ⟨rfl, rfl, rfl, lld⟩⟩) Sc hz Sa Sh Sl Sf rGf OL (by omega)) rfl rfl rfl rfl rfl rfl rfl [] [] 0 (lenOf pd_27 rfl) rfl (Nat.le_of_eq rfl) (hb hby d42_10) rfl (by decide)
  obtain ⟨rfl, N40q, e40⟩ := hQ40
  have N40 := Fr.app N0 N40q
  have P41 := P40.bt X40 hx hby b155_ rfl
  obtain ⟨T42, X42, e42, P42⟩ := gF P41 X40 hx hZ hown hw 139 e40 Fn_sb (hb hby d42_16)
  have P43 : PP p e below T42 (mkF m 21 #[rv sb, rv xs, iv (Int32.ofNat ds.length)] [(.int ((Int32.ofNat cs.length) + (Int32.ofNat ds.length))), (.ref sb)]) s0 := fun q_ k_ => P42 q_ (by
   exact bt X42 hx hby b156_ rfl k_)
  have P44 : PP p e below T42 (mkF m 21 #[rv sb, rv xs, iv (Int32.ofNat ds.length)] [(.int (Int32.ofNat (cs.length + ds.length))), (.ref sb)]) s0 := fun q_ k_ => P43 q_ (by rw [own_add]; exact k_)
  obtain ⟨_, T45, L45, X45, hQ45, P45⟩ := cVi P44 X42 hx hZ hown hw e42 E_sb hml 141 144 142 145 111 (rm_ensC1 hw sb t kb (wid cs) (cs.length + ds.length) Z0 E_sb Fv_sb Fc_sb V_t hle) rfl rfl rfl rfl rfl rfl rfl [(.int (Int32.ofNat (cs.length + ds.length)))] [] 0 (lenOf pd_23 rfl) rfl (Nat.le_of_eq rfl) (hb hby d42_21) rfl (by decide)
  obtain ⟨rfl, N45q, e45⟩ := hQ45
  have N45 := Fr.app N40 N45q
  have P46 := P45.bt X45 hx hby b157_ rfl
  obtain ⟨T47, X47, e47, P47⟩ := gF P46 X45 hx hZ hown hw 139 e45 Fn_sb (hb hby d42_26)
  have P48 : PP p e below T47 (mkF m 30 #[rv sb, rv xs, iv (Int32.ofNat ds.length)] [(.ref xs), (.int (Int32.ofNat cs.length)), (.ref sb)]) s0 := fun q_ k_ => P47 q_ (by
   exact bt X47 hx hby b158_ rfl k_)
  obtain ⟨_, T49, L49, X49, hQ49, P49⟩ := cVi P48 X47 hx hZ hown hw e47 E_sb hml 146 149 147 150 111 (rm_putS10 hw sb t kb cs xs ts ks ds G1 Gf Z0 E_sb Fv_sb Fc_sb Fn_sb Fm_sb V_t E_xs Fv_xs Fc_xs V_ts g_t g_sb ne_xs_t ne_ts_t ne_sb_t ne_xs_sb ne_ts_sb Sc hz Sa Sh Sl Sf rGf OL hle icb icd lld) rfl rfl rfl rfl rfl rfl rfl [(.int (Int32.ofNat cs.length)), (.ref xs)] [] 0 (lenOf pd_28 rfl) rfl (Nat.le_of_eq rfl) (hb hby d42_30) rfl (by decide)
  obtain ⟨rfl, N49q, Kc49, po49_0⟩ := hQ49
  have N49 := Fr.app N45 N49q
  obtain ⟨Lf50, X49, N50⟩ := fixL X49 N49 0 0 rfl rfl
  replace E_sb := E_sb.keep Kc49
  replace Fv_sb := Fv_sb.keep Kc49 (ninS ne_sb_t nin0)
  replace Fc_sb := Fc_sb.keep Kc49 (ninS ne_sb_t nin0)
  replace Fn_sb := Fn_sb.keep Kc49 (ninS ne_sb_t nin0)
  replace Fm_sb := Fm_sb.keep Kc49 (ninS ne_sb_t nin0)
  have K49 := Kt1 (Keep.refl h0 [sb, t]) Kc49 (Or.inl (mi 1))
  have V_t := po49_0
  have P51 := P49.bt X49 hx hby b159_ rfl
  obtain ⟨T52, X52, e52, P52⟩ := gF P51 X49 hx hZ hown hw 139 rfl Fn_sb (hb hby d42_35)
  have P53 : PP p e below T52 (mkF m 40 #[rv sb, rv xs, iv (Int32.ofNat ds.length)] [(.int ((Int32.ofNat cs.length) + (Int32.ofNat ds.length))), (.ref sb)]) s0 := fun q_ k_ => P52 q_ (by
   exact bt X52 hx hby b160_ rfl k_)
  have P54 : PP p e below T52 (mkF m 40 #[rv sb, rv xs, iv (Int32.ofNat ds.length)] [(.int (Int32.ofNat (cs ++ ds).length)), (.ref sb)]) s0 := fun q_ k_ => P53 q_ (by rw [show Int32.ofNat cs.length + Int32.ofNat ds.length = Int32.ofNat (cs ++ ds).length by rw [own_add, List.length_append]]; exact k_)
  obtain ⟨T55, h55, X55, e55, W55, st55⟩ := putF X52 hx hZ hown (host := "") (Or.inl (ww hw 139 rfl)) Via.refl e52 Fn_sb E_sb (Or.inl (ww hw 140 rfl)) (ww hw 102 rfl) (ty := .int) (by decide) rfl rfl (g := P54.g) rfl rfl (hb hby d42_40)
  have P56 := P54.st st55
  have N55 := Fr.snoc X55 N50 g_sb
  have K55 := K49.wr W55 (Or.inl (mi 0))
  replace E_sb := E_sb.wr W55
  replace Fv_sb := Fv_sb.other W55 (Or.inr (slot_ne (Or.inl (ww hw 116 rfl)) (Or.inl (ww hw 140 rfl)) (by decide) (t := (.array .byte)) (t' := .int) (by decide) (by decide)))
  replace Fc_sb := Fc_sb.other W55 (Or.inr (slot_ne (Or.inl (ww hw 118 rfl)) (Or.inl (ww hw 140 rfl)) (by decide) (t := .byte) (t' := .int) (by decide) (by decide)))
  replace Fn_sb : Fld Z h55 sb cA "count" "I" (.int (Int32.ofNat (cs ++ ds).length)) := Fn_sb.same W55
  replace Fm_sb := Fm_sb.other W55 (Or.inr (slot_ne (Or.inl (ww hw 484 rfl)) (Or.inl (ww hw 140 rfl)) (by decide) (t := .boolean) (t' := .int) (by decide) (by decide)))
  replace V_t := V_t.other W55 (Ne.symm ne_sb_t)
  have P57 := P56.bt X55 hx hby b161_ rfl
  exact endA 44 #[rv sb, rv xs, iv (Int32.ofNat ds.length)] (rest := []) X55 hx hrt rfl hlk P57 (hb hby d42_44) e55 (by decide) (by decide) (show Q_asbApp Z sb t kb (1 : Int32) (32 : Int32) (wid cs) cs xs ts ks (0 : Int32) (Int32.ofNat ds.length) (ds.map bv) ds G1 Gf h0 n0 _ _ _ from ⟨t, kb, (1 : Int32), (32 : Int32), (wid (cs ++ ds)), rfl, N55, K55, (Or.inl rfl), E_sb, Fv_sb, Fc_sb, Fn_sb, Fm_sb, V_t, ne_sb_t, ⟨own_ccA icb icd, Or.inr ⟨rfl, rfl, rfl⟩⟩⟩)
 ·
  have P58 : PP p e below s₁ (mkF m 10 #[rv sb, rv xs, .unset] [(.ref xs)]) s0 := fun q_ k_ => P0 q_ (by
   refine bt X0 hx hby b153_ rfl ?_
   refine XS.ifnonnullYes X0.here hx rfl (pc0 := 1) (pc' := 9) rfl (hb hby d42_1) rfl (by decide) (by decide) ?_
   exact bt X0 hx hby b154_ rfl k_)
  obtain ⟨_, T59, L59, X59, hQ59, P59⟩ := cVi P58 X0 hx hZ hown hw e0 E_xs hml 129 132 131 133 2 (rm_sLen hw xs ts ks (1 : Int32) (Int32.ofNat (2 * ds.length)) (wid ds) ds G1 Gf Z0 E_xs Fv_xs Fc_xs V_ts (⟨icd, Or.inr ⟨rfl, rfl, rfl⟩⟩) Sc hz Sa Sh Sl Sf rGf OL (by omega)) rfl rfl rfl rfl rfl rfl rfl [] [] 0 (lenOf pd_27 rfl) rfl (Nat.le_of_eq rfl) (hb hby d42_10) rfl (by decide)
  obtain ⟨rfl, N59q, e59⟩ := hQ59
  have N59 := Fr.app N0 N59q
  have P60 := P59.bt X59 hx hby b155_ rfl
  obtain ⟨T61, X61, e61, P61⟩ := gF P60 X59 hx hZ hown hw 139 e59 Fn_sb (hb hby d42_16)
  have P62 : PP p e below T61 (mkF m 21 #[rv sb, rv xs, iv (Int32.ofNat ds.length)] [(.int ((Int32.ofNat cs.length) + (Int32.ofNat ds.length))), (.ref sb)]) s0 := fun q_ k_ => P61 q_ (by
   exact bt X61 hx hby b156_ rfl k_)
  have P63 : PP p e below T61 (mkF m 21 #[rv sb, rv xs, iv (Int32.ofNat ds.length)] [(.int (Int32.ofNat (cs.length + ds.length))), (.ref sb)]) s0 := fun q_ k_ => P62 q_ (by rw [own_add]; exact k_)
  obtain ⟨_, T64, L64, X64, hQ64, P64⟩ := cVi P63 X61 hx hZ hown hw e61 E_sb hml 141 144 142 145 111 (rm_ensC1 hw sb t kb (wid cs) (cs.length + ds.length) Z0 E_sb Fv_sb Fc_sb V_t hle) rfl rfl rfl rfl rfl rfl rfl [(.int (Int32.ofNat (cs.length + ds.length)))] [] 0 (lenOf pd_23 rfl) rfl (Nat.le_of_eq rfl) (hb hby d42_21) rfl (by decide)
  obtain ⟨rfl, N64q, e64⟩ := hQ64
  have N64 := Fr.app N59 N64q
  have P65 := P64.bt X64 hx hby b157_ rfl
  obtain ⟨T66, X66, e66, P66⟩ := gF P65 X64 hx hZ hown hw 139 e64 Fn_sb (hb hby d42_26)
  have P67 : PP p e below T66 (mkF m 30 #[rv sb, rv xs, iv (Int32.ofNat ds.length)] [(.ref xs), (.int (Int32.ofNat cs.length)), (.ref sb)]) s0 := fun q_ k_ => P66 q_ (by
   exact bt X66 hx hby b158_ rfl k_)
  obtain ⟨_, T68, L68, X68, hQ68, P68⟩ := cVi P67 X66 hx hZ hown hw e66 E_sb hml 146 149 147 150 111 (rm_putS11 hw sb t kb cs xs ts ks ds G1 Gf Z0 E_sb Fv_sb Fc_sb Fn_sb Fm_sb V_t E_xs Fv_xs Fc_xs V_ts g_t g_sb ne_xs_t ne_ts_t ne_sb_t ne_xs_sb ne_ts_sb Sc hz Sa Sh Sl Sf rGf OL hle icb icd) rfl rfl rfl rfl rfl rfl rfl [(.int (Int32.ofNat cs.length)), (.ref xs)] [] 0 (lenOf pd_28 rfl) rfl (Nat.le_of_eq rfl) (hb hby d42_30) rfl (by decide)
  obtain ⟨rfl, N68q, Kc68, po68_0⟩ := hQ68
  have N68 := Fr.app N64 N68q
  obtain ⟨Lf69, X68, N69⟩ := fixL X68 N68 0 0 rfl rfl
  replace E_sb := E_sb.keep Kc68
  replace Fv_sb := Fv_sb.keep Kc68 (ninS ne_sb_t nin0)
  replace Fc_sb := Fc_sb.keep Kc68 (ninS ne_sb_t nin0)
  replace Fn_sb := Fn_sb.keep Kc68 (ninS ne_sb_t nin0)
  replace Fm_sb := Fm_sb.keep Kc68 (ninS ne_sb_t nin0)
  have K68 := Kt1 (Keep.refl h0 [sb, t]) Kc68 (Or.inl (mi 1))
  have V_t := po68_0
  have P70 := P68.bt X68 hx hby b159_ rfl
  obtain ⟨T71, X71, e71, P71⟩ := gF P70 X68 hx hZ hown hw 139 rfl Fn_sb (hb hby d42_35)
  have P72 : PP p e below T71 (mkF m 40 #[rv sb, rv xs, iv (Int32.ofNat ds.length)] [(.int ((Int32.ofNat cs.length) + (Int32.ofNat ds.length))), (.ref sb)]) s0 := fun q_ k_ => P71 q_ (by
   exact bt X71 hx hby b160_ rfl k_)
  have P73 : PP p e below T71 (mkF m 40 #[rv sb, rv xs, iv (Int32.ofNat ds.length)] [(.int (Int32.ofNat (cs ++ ds).length)), (.ref sb)]) s0 := fun q_ k_ => P72 q_ (by rw [show Int32.ofNat cs.length + Int32.ofNat ds.length = Int32.ofNat (cs ++ ds).length by rw [own_add, List.length_append]]; exact k_)
  obtain ⟨T74, h74, X74, e74, W74, st74⟩ := putF X71 hx hZ hown (host := "") (Or.inl (ww hw 139 rfl)) Via.refl e71 Fn_sb E_sb (Or.inl (ww hw 140 rfl)) (ww hw 102 rfl) (ty := .int) (by decide) rfl rfl (g := P73.g) rfl rfl (hb hby d42_40)
  have P75 := P73.st st74
  have N74 := Fr.snoc X74 N69 g_sb
  have K74 := K68.wr W74 (Or.inl (mi 0))
  replace E_sb := E_sb.wr W74
  replace Fv_sb := Fv_sb.other W74 (Or.inr (slot_ne (Or.inl (ww hw 116 rfl)) (Or.inl (ww hw 140 rfl)) (by decide) (t := (.array .byte)) (t' := .int) (by decide) (by decide)))
  replace Fc_sb := Fc_sb.other W74 (Or.inr (slot_ne (Or.inl (ww hw 118 rfl)) (Or.inl (ww hw 140 rfl)) (by decide) (t := .byte) (t' := .int) (by decide) (by decide)))
  replace Fn_sb : Fld Z h74 sb cA "count" "I" (.int (Int32.ofNat (cs ++ ds).length)) := Fn_sb.same W74
  replace Fm_sb := Fm_sb.other W74 (Or.inr (slot_ne (Or.inl (ww hw 484 rfl)) (Or.inl (ww hw 140 rfl)) (by decide) (t := .boolean) (t' := .int) (by decide) (by decide)))
  replace V_t := V_t.other W74 (Ne.symm ne_sb_t)
  have P76 := P75.bt X74 hx hby b161_ rfl
  exact endA 44 #[rv sb, rv xs, iv (Int32.ofNat ds.length)] (rest := []) X74 hx hrt rfl hlk P76 (hb hby d42_44) e74 (by decide) (by decide) (show Q_asbApp Z sb t kb (1 : Int32) (32 : Int32) (wid cs) cs xs ts ks (1 : Int32) (Int32.ofNat (2 * ds.length)) (wid ds) ds G1 Gf h0 n0 _ _ _ from ⟨t, kb, (1 : Int32), (32 : Int32), (wid cs ++ wid ds), rfl, N74, K74, (Or.inl rfl), E_sb, Fv_sb, Fc_sb, Fn_sb, Fm_sb, V_t, ne_sb_t, ⟨own_ccA icb icd, Or.inr ⟨rfl, rfl, (own_widA cs ds).symm⟩⟩⟩)
abbrev k43_ := jdk_67_method_7_code
theorem b162_ : dl k43_ 0 [(.aload_n 0, 1), (.aload_n 1, 1)] = true := by decide +kernel
theorem pd_29 : parseMethodDescriptor "(Ljava/lang/String;)Ljava/lang/AbstractStringBuilder;" = some ⟨[(.object "java/lang/String")], some (.object "java/lang/AbstractStringBuilder")⟩ := by decide +kernel
theorem d43_2 : decode k43_ 2 = .ok (.invokespecial 29, 3) := by decide +kernel
theorem b163_ : dl k43_ 5 [(.pop, 1), (.aload_n 0, 1)] = true := by decide +kernel
theorem d43_7 : decode k43_ 7 = .ok (.areturn, 1) := by decide +kernel
abbrev mn_43 : MethodName := ⟨"java/lang/StringBuilder", "append", "(Ljava/lang/String;)Ljava/lang/StringBuilder;"⟩
theorem rm_sbApp (hw : HW a0 Z) (sb t : Addr) (kb : ClassId) (cd zb : Int32) (vs : List Value) (cs : List Int32) (xs ts : Addr) (ks : ClassId) (ce ze : Int32) (wv : List Value) (ds : List Int32) (G1 : Int32) (Gf : Value) (Z0 : n0 ≤ h0.size) (E_sb : Exa Z h0 sb cB) (Fv_sb : Fld Z h0 sb cA "value" "[B" (.ref t)) (Fc_sb : Fld Z h0 sb cA "coder" "B" (.int cd)) (Fn_sb : Fld Z h0 sb cA "count" "I" (.int (Int32.ofNat cs.length))) (Fm_sb : Fld Z h0 sb cA "maybeLatin1" "Z" i0) (V_t : Arv Z h0 t kb .byte zb vs i0) (E_xs : Exa Z h0 xs cS) (Fv_xs : Fld Z h0 xs cS "value" "[B" (.ref ts)) (Fc_xs : Fld Z h0 xs cS "coder" "B" (.int ce)) (V_ts : Arv Z h0 ts ks .byte ze wv i0) (g_t : n0 ≤ t) (g_sb : n0 ≤ sb) (ne_xs_t : xs ≠ t) (ne_ts_t : ts ≠ t) (ne_sb_t : sb ≠ t) (ne_xs_sb : xs ≠ sb) (ne_ts_sb : ts ≠ sb) (Sc : SU4 Z G1) (hz : ¬ G1 = 0) (Sa : SU1 Z) (Sh : SU2 Z) (Sl : SU3 Z) (Sf : SU5 Z Gf) (rGf : Gf.isRef = true) (OL : Old Z n0 h0) (hbb : BB cd zb vs cs) (hkb : KB ce ze wv ds) (hle : cs.length + ds.length ≤ 16) :
  MetP l Z mn_43 k43_ 2 (some (.object cB)) (rr 9 1 32 130) ws #[(.ref sb), (.ref xs)] h0 (Q_asbApp Z sb t kb cd zb vs cs xs ts ks ce ze wv ds G1 Gf h0 n0) := by
 refine begH n0 cB rfl (plainFor_of_name pn_6) fun p e s m below meth c s₁ s0 hrt hlk hZ hx hby hml hown hnm X0 e0 N0 P0 => ?_
 replace P0 : PP p e below s₁ (mkF m 0 #[rv sb, rv xs] []) s0 := castPP (ef_21 m sb xs) P0
 have P1 := P0.bt X0 hx hby b162_ rfl
 obtain ⟨_, _, ⟨T2, L2, k2, n2⟩, -, X2, ⟨Lc2, hQ2, l2, y2, z2⟩, st2⟩ := superBack X0 hx hZ (y := mn_42) hown (ww hw 124 rfl) (own_same (y := mn_42) (ww hw 127 rfl) (ww hw 144 rfl) rfl (by decide)) (ww hw 125 rfl) (ww hw 126 rfl) (by decide) (backOf (W := 0) (rm_asbApp hw sb t kb cd zb vs cs xs ts ks ce ze wv ds G1 Gf Z0 E_sb Fv_sb Fc_sb Fn_sb Fm_sb V_t E_xs Fv_xs Fc_xs V_ts g_t g_sb ne_xs_t ne_ts_t ne_sb_t ne_xs_sb ne_ts_sb Sc hz Sa Sh Sl Sf rGf OL hbb hkb hle) hZ (ww hw 128 rfl) (ww hw 111 rfl) (by decide) (by decide)) e0 (Ins.self E_sb) (g := P1.g) rfl (by rw [hml]; rfl) (ww hw 128 rfl) (argsL := [(.ref xs)]) (rest := []) (lenOf pd_29 rfl) rfl (by show 2 * 0 + _ ≤ _; exact Nat.le_of_eq rfl) (hb hby d43_2) (fun _ _ => ⟨rfl, e0, (by decide : 0 + 1 ≤ _), (by decide : 0 + 32 ≤ _)⟩)
 dsimp only [Pt.U, Pt.locs, Pt.cells, Pt.slots] at X2 l2 y2 z2 st2 hQ2
 subst l2 y2 z2
 obtain ⟨tn_2, kn_2, cd2_2, zb2_2, vs2_2, rfl, N2q, Kc2, po2_0, po2_1, po2_2, po2_3, po2_4, po2_5, po2_6, po2_7, po2_8⟩ := hQ2
 have N2 := Fr.app N0 N2q
 obtain ⟨Lf3, X2, N3⟩ := fixL X2 N2 1 32 rfl rfl
 have P4 := P1.tr st2
 have g_tn_2 : n0 ≤ tn_2 := own_tof2 po2_0 g_t (Nat.le_trans Z0 (Nat.le_refl h0.size))
 have tf_tn_2 : tn_2 = t ∨ h0.size ≤ tn_2 := own_tof3 po2_0 (Nat.le_refl h0.size)
 have K2 := Kt2 (Keep.refl h0 [sb, t]) Kc2 (Or.inl (mi 0)) (Or.inl (mi 1))
 have E_sb := po2_1
 have Fv_sb := po2_2
 have Fc_sb := po2_3
 have Fn_sb := po2_4
 have Fm_sb := po2_5
 have V_tn_2 := po2_6
 have hbb2_2 := po2_8
 have P5 : PP p e below T2 (mkF m 7 #[rv sb, rv xs] [(.ref sb)]) s0 := fun q_ k_ => P4 q_ (by
  exact bt X2 hx hby b163_ rfl k_)
 exact endA 7 #[rv sb, rv xs] (rest := []) X2 hx hrt rfl hlk P5 (hb hby d43_7) rfl (by decide) (by decide) (show Q_asbApp Z sb t kb cd zb vs cs xs ts ks ce ze wv ds G1 Gf h0 n0 _ _ _ from ⟨tn_2, kn_2, cd2_2, zb2_2, vs2_2, rfl, N3, K2, tf_tn_2, E_sb, Fv_sb, Fc_sb, Fn_sb, Fm_sb, V_tn_2, po2_7, hbb2_2⟩)
abbrev k44_ := jdk_52_method_71_code
theorem b164_ : dl k44_ 0 [(.iload_n 1, 1), (.aload_n 0, 1)] = true := by decide +kernel
theorem d44_2 : decode k44_ 2 = .ok (.invokestatic 67, 3) := by decide +kernel
theorem b165_ : dl k44_ 5 [(.aload_n 0, 1), (.iload_n 1, 1), (.iload_n 2, 1)] = true := by decide +kernel
theorem d44_8 : decode k44_ 8 = .ok (.invokestatic 111, 3) := by decide +kernel
theorem d44_11 : decode k44_ 11 = .ok (.return_, 1) := by decide +kernel
def Q_putSB (Z : State) (tb : Addr) (kb : ClassId) (cs : List Int32) (cc : Int32) (Gf : Value) : QT := fun h0 n0 v h L => v = none ∧ Fr n0 L ∧ Keep h0 h [tb] ∧ (Arv Z h tb kb .byte 32 (wid (cs ++ [cc])) i0)
abbrev mn_44 : MethodName := ⟨"java/lang/StringUTF16", "putCharSB", "([BII)V"⟩
theorem rm_putSB (hw : HW a0 Z) (tb : Addr) (kb : ClassId) (cs : List Int32) (cc : Int32) (Gf : Value) (Z0 : n0 ≤ h0.size) (V_tb : Arv Z h0 tb kb .byte 32 (wid cs) i0) (g_tb : n0 ≤ tb) (Sf : SU5 Z Gf) (rGf : Gf.isRef = true) (Sa : SU1 Z) (Sh : SU2 Z) (Sl : SU3 Z) (OL : Old Z n0 h0) (hlc : cs.length ≤ 15) :
  MetP l Z mn_44 k44_ 3 none (rr 3 0 0 40) ws #[(.ref tb), (.int (Int32.ofNat cs.length)), (.int cc)] h0 (Q_putSB Z tb kb cs cc Gf h0 n0) := by
 refine begH n0 "java/lang/StringUTF16" rfl (plainFor_of_name pn_0) fun p e s m below meth c s₁ s0 hrt hlk hZ hx hby hml hown hnm X0 e0 N0 P0 => ?_
 replace P0 : PP p e below s₁ (mkF m 0 #[rv tb, iv (Int32.ofNat cs.length), iv cc] []) s0 := castPP (ef_2 m tb (Int32.ofNat cs.length) cc) P0
 have P1 := P0.bt X0 hx hby b164_ rfl
 obtain ⟨_, T2, L2, X2, hQ2, P2⟩ := cSt P1 X0 hx hZ hown hw e0 hml 479 480 17 481 (rm_ckU hw tb kb 16 (wid cs) cs.length Gf Z0 V_tb rGf Sf OL (by decide) (by omega)) rfl rfl rfl rfl rfl rfl [(.int (Int32.ofNat cs.length)), (.ref tb)] [] 0 (lenOf pd_19 rfl) rfl (Nat.le_of_eq rfl) (hb hby d44_2) rfl (by decide)
 obtain ⟨rfl, N2q, e2⟩ := hQ2
 have N2 := Fr.app N0 N2q
 have P3 : PP p e below T2 (mkF m 8 #[rv tb, iv (Int32.ofNat cs.length), iv cc] [(.int cc), (.int (Int32.ofNat cs.length)), (.ref tb)]) s0 := fun q_ k_ => P2 q_ (by
  exact bt X2 hx hby b165_ rfl k_)
 obtain ⟨_, T4, L4, X4, hQ4, P4⟩ := cSt P3 X2 hx hZ hown hw e2 hml 440 441 17 442 (rm_put hw tb kb 32 cs cs.length cc Z0 V_tb g_tb Sa Sh Sl OL rfl (by omega) (by decide)) rfl rfl rfl rfl rfl rfl [(.ref tb), (.int (Int32.ofNat cs.length)), (.int cc)] [] 0 (lenOf pd_7 rfl) rfl (Nat.le_of_eq rfl) (hb hby d44_8) rfl (by decide)
 obtain ⟨rfl, N4q, Kc4, po4_0⟩ := hQ4
 have N4 := Fr.app N2 N4q
 obtain ⟨Lf5, X4, N5⟩ := fixL X4 N4 0 0 rfl rfl
 have K4 := Kt1 (Keep.refl h0 [tb]) Kc4 (Or.inl (mi 0))
 have V_tb := po4_0
 exact endV 11 #[rv tb, iv (Int32.ofNat cs.length), iv cc] X4 hx hrt hlk P4 (hb hby d44_11) rfl (by decide) (by decide) (show Q_putSB Z tb kb cs cc Gf h0 n0 _ _ _ from ⟨rfl, N5, K4, V_tb⟩)
abbrev k45_ := jdk_68_method_31_code
theorem b166_ : dl k45_ 0 [(.aload_n 0, 1), (.aload_n 0, 1)] = true := by decide +kernel
theorem d45_2 : decode k45_ 2 = .ok (.getfield 79, 3) := by decide +kernel
theorem b167_ : dl k45_ 5 [(.iconst 1, 1), (.iadd, 1)] = true := by decide +kernel
theorem d45_7 : decode k45_ 7 = .ok (.invokevirtual 100, 3) := by decide +kernel
theorem b168_ : dl k45_ 10 [(.aload_n 0, 1)] = true := by decide +kernel
theorem d45_11 : decode k45_ 11 = .ok (.invokevirtual 83, 3) := by decide +kernel
theorem d45_14 : decode k45_ 14 = .ok (.ifCond .eq 31, 3) := by decide +kernel
theorem b169_ : dl k45_ 17 [(.iload_n 1, 1)] = true := by decide +kernel
theorem d45_18 : decode k45_ 18 = .ok (.invokestatic 191, 3) := by decide +kernel
theorem d45_21 : decode k45_ 21 = .ok (.ifCond .eq 24, 3) := by decide +kernel
theorem b170_ : dl k45_ 24 [(.aload_n 0, 1)] = true := by decide +kernel
theorem d45_25 : decode k45_ 25 = .ok (.getfield 15, 3) := by decide +kernel
theorem b171_ : dl k45_ 28 [(.aload_n 0, 1), (.dup, 1)] = true := by decide +kernel
theorem d45_30 : decode k45_ 30 = .ok (.getfield 79, 3) := by decide +kernel
theorem d45_33 : decode k45_ 33 = .ok (.dup_x1, 1) := by decide +kernel
theorem b172_ : dl k45_ 34 [(.iconst 1, 1), (.iadd, 1)] = true := by decide +kernel
theorem d45_36 : decode k45_ 36 = .ok (.putfield 79, 3) := by decide +kernel
theorem b173_ : dl k45_ 39 [(.iload_n 1, 1), (.i2b, 1)] = true := by decide +kernel
theorem d45_41 : decode k45_ 41 = .ok (.bastore, 1) := by decide +kernel
theorem b174_ : dl k45_ 42 [(.goto 33, 3)] = true := by decide +kernel
theorem b175_ : dl k45_ 75 [(.aload_n 0, 1)] = true := by decide +kernel
theorem d45_76 : decode k45_ 76 = .ok (.areturn, 1) := by decide +kernel
theorem b176_ : dl k45_ 45 [(.aload_n 0, 1)] = true := by decide +kernel
theorem d45_46 : decode k45_ 46 = .ok (.invokevirtual 83, 3) := by decide +kernel
theorem d45_49 : decode k45_ 49 = .ok (.ifCond .eq 7, 3) := by decide +kernel
theorem b177_ : dl k45_ 56 [(.aload_n 0, 1)] = true := by decide +kernel
theorem d45_57 : decode k45_ 57 = .ok (.getfield 15, 3) := by decide +kernel
theorem b178_ : dl k45_ 60 [(.aload_n 0, 1), (.dup, 1)] = true := by decide +kernel
theorem d45_62 : decode k45_ 62 = .ok (.getfield 79, 3) := by decide +kernel
theorem d45_65 : decode k45_ 65 = .ok (.dup_x1, 1) := by decide +kernel
theorem b179_ : dl k45_ 66 [(.iconst 1, 1), (.iadd, 1)] = true := by decide +kernel
theorem d45_68 : decode k45_ 68 = .ok (.putfield 79, 3) := by decide +kernel
theorem b180_ : dl k45_ 71 [(.iload_n 1, 1)] = true := by decide +kernel
theorem d45_72 : decode k45_ 72 = .ok (.invokestatic 197, 3) := by decide +kernel
def Q_asbAppC (Z : State) (sb t : Addr) (kb : ClassId) (cd zb : Int32) (vs : List Value) (cs : List Int32) (cc G1 : Int32) (Gf : Value) : QT := fun h0 n0 v h L => ∃ (tn : Addr) (kn : ClassId) (cd2 : Int32) (zb2 : Int32) (vs2 : List Value), v = some (.ref sb) ∧ Fr n0 L ∧ Keep h0 h [sb, t] ∧ (tn = t ∨ h0.size ≤ tn) ∧ (Exa Z h sb cB) ∧ (Fld Z h sb cA "value" "[B" (.ref tn)) ∧ (Fld Z h sb cA "coder" "B" (.int cd2)) ∧ (Fld Z h sb cA "count" "I" (.int (Int32.ofNat (cs ++ [cc]).length))) ∧ (Fld Z h sb cA "maybeLatin1" "Z" i0) ∧ (Arv Z h tn kn .byte zb2 vs2 i0) ∧ (sb ≠ tn) ∧ (BB cd2 zb2 vs2 (cs ++ [cc]))
abbrev mn_45 : MethodName := ⟨"java/lang/AbstractStringBuilder", "append", "(C)Ljava/lang/AbstractStringBuilder;"⟩
theorem rm_asbAppC (hw : HW a0 Z) (sb t : Addr) (kb : ClassId) (cd zb : Int32) (vs : List Value) (cs : List Int32) (cc G1 : Int32) (Gf : Value) (Z0 : n0 ≤ h0.size) (E_sb : Exa Z h0 sb cB) (Fv_sb : Fld Z h0 sb cA "value" "[B" (.ref t)) (Fc_sb : Fld Z h0 sb cA "coder" "B" (.int cd)) (Fn_sb : Fld Z h0 sb cA "count" "I" (.int (Int32.ofNat cs.length))) (Fm_sb : Fld Z h0 sb cA "maybeLatin1" "Z" i0) (V_t : Arv Z h0 t kb .byte zb vs i0) (g_t : n0 ≤ t) (g_sb : n0 ≤ sb) (ne_sb_t : sb ≠ t) (Sc : SU4 Z G1) (hz : ¬ G1 = 0) (Sa : SU1 Z) (Sh : SU2 Z) (Sl : SU3 Z) (Sf : SU5 Z Gf) (rGf : Gf.isRef = true) (OL : Old Z n0 h0) (hbb : BB cd zb vs cs) (hlc : cs.length ≤ 15) (icc : isC cc) (lcc : ¬ (255 : Int32) < cc) :
  MetP l Z mn_45 k45_ 2 (some (.object cA)) (rr 4 0 0 54) ws #[(.ref sb), (.int cc)] h0 (Q_asbAppC Z sb t kb cd zb vs cs cc G1 Gf h0 n0) := by
 refine begH n0 cA rfl (plainFor_of_name pn_4) fun p e s m below meth c s₁ s0 hrt hlk hZ hx hby hml hown hnm X0 e0 N0 P0 => ?_
 replace P0 : PP p e below s₁ (mkF m 0 #[rv sb, iv cc] []) s0 := castPP (ef_3 m sb cc) P0
 rcases hbb with ⟨icb, ⟨rfl, rfl, rfl, llb⟩ | ⟨rfl, rfl, rfl⟩⟩
 ·
  have P1 := P0.bt X0 hx hby b166_ rfl
  obtain ⟨T2, X2, e2, P2⟩ := gF P1 X0 hx hZ hown hw 139 e0 Fn_sb (hb hby d45_2)
  have P3 : PP p e below T2 (mkF m 7 #[rv sb, iv cc] [(.int ((Int32.ofNat cs.length) + (1 : Int32))), (.ref sb)]) s0 := fun q_ k_ => P2 q_ (by
   exact bt X2 hx hby b167_ rfl k_)
  have P4 : PP p e below T2 (mkF m 7 #[rv sb, iv cc] [(.int (Int32.ofNat (cs.length + 1))), (.ref sb)]) s0 := fun q_ k_ => P3 q_ (by rw [show Int32.ofNat cs.length + (1 : Int32) = Int32.ofNat (cs.length + 1) from own_add cs.length 1]; exact k_)
  obtain ⟨_, T5, L5, X5, hQ5, P5⟩ := cVi P4 X2 hx hZ hown hw e2 E_sb hml 141 144 142 145 111 (rm_ensC0 hw sb t kb (cs.map bv) (cs.length + 1) Z0 E_sb Fv_sb Fc_sb V_t (by omega)) rfl rfl rfl rfl rfl rfl rfl [(.int (Int32.ofNat (cs.length + 1)))] [] 0 (lenOf pd_23 rfl) rfl (Nat.le_of_eq rfl) (hb hby d45_7) rfl (by decide)
  obtain ⟨rfl, N5q, e5⟩ := hQ5
  have N5 := Fr.app N0 N5q
  have P6 := P5.bt X5 hx hby b168_ rfl
  obtain ⟨_, T7, L7, X7, hQ7, P7⟩ := cVi P6 X5 hx hZ hown hw e5 E_sb hml 410 253 252 254 111 (rm_asbLat0 hw sb G1 Z0 Fc_sb Sc OL hz) rfl rfl rfl rfl rfl rfl rfl [] [] 0 (lenOf pd_20 rfl) rfl (Nat.le_of_eq rfl) (hb hby d45_11) rfl (by decide)
  obtain ⟨rfl, N7q, e7⟩ := hQ7
  have N7 := Fr.app N5 N7q
  have P8 : PP p e below T7 (mkF m 18 #[rv sb, iv cc] [(.int cc)]) s0 := fun q_ k_ => P7 q_ (by
   refine XS.ifNo X7.here hx rfl (hb hby d45_14) rfl ((if0 _ _).trans (feq ((by decide) : ¬ ((1 : Int32) = (0 : Int32)))).1) ?_
   exact bt X7 hx hby b169_ rfl k_)
  obtain ⟨_, T9, L9, X9, hQ9, P9⟩ := cSt P8 X7 hx hZ hown hw e7 hml 411 302 287 303 (rm_canE0 hw cc Z0 lcc) rfl rfl rfl rfl rfl rfl [(.int cc)] [] 0 (lenOf pd_10 rfl) rfl (Nat.le_of_eq rfl) (hb hby d45_18) rfl (by decide)
  obtain ⟨rfl, N9q, e9⟩ := hQ9
  have N9 := Fr.app N7 N9q
  have P10 : PP p e below T9 (mkF m 25 #[rv sb, iv cc] [(.ref sb)]) s0 := fun q_ k_ => P9 q_ (by
   refine XS.ifNo X9.here hx rfl (hb hby d45_21) rfl ((if0 _ _).trans (feq ((by decide) : ¬ ((1 : Int32) = (0 : Int32)))).1) ?_
   exact bt X9 hx hby b170_ rfl k_)
  obtain ⟨T11, X11, e11, P11⟩ := gF P10 X9 hx hZ hown hw 115 e9 Fv_sb (hb hby d45_25)
  have P12 := P11.bt X11 hx hby b171_ rfl
  obtain ⟨T13, X13, e13, P13⟩ := gF P12 X11 hx hZ hown hw 139 e11 Fn_sb (hb hby d45_30)
  have P14 : PP p e below T13 (mkF m 36 #[rv sb, iv cc] [(.int ((Int32.ofNat cs.length) + (1 : Int32))), (.ref sb), (.int (Int32.ofNat cs.length)), (.ref t)]) s0 := fun q_ k_ => P13 q_ (by
   refine XS.dupX1 X13.here hx rfl (hb hby d45_33) rfl rfl rfl ?_
   exact bt X13 hx hby b172_ rfl k_)
  have P15 : PP p e below T13 (mkF m 36 #[rv sb, iv cc] [(.int (Int32.ofNat (cs ++ [cc]).length)), (.ref sb), (.int (Int32.ofNat cs.length)), (.ref t)]) s0 := fun q_ k_ => P14 q_ (by rw [(own_ls cs cc)]; exact k_)
  obtain ⟨T16, h16, X16, e16, W16, st16⟩ := putF X13 hx hZ hown (host := "") (Or.inl (ww hw 139 rfl)) Via.refl e13 Fn_sb E_sb (Or.inl (ww hw 140 rfl)) (ww hw 102 rfl) (ty := .int) (by decide) rfl rfl (g := P15.g) rfl rfl (hb hby d45_36)
  have P17 := P15.st st16
  have N16 := Fr.snoc X16 N9 g_sb
  have K16 := (Keep.refl h0 [sb, t]).wr W16 (Or.inl (mi 0))
  replace E_sb := E_sb.wr W16
  replace Fv_sb := Fv_sb.other W16 (Or.inr (slot_ne (Or.inl (ww hw 116 rfl)) (Or.inl (ww hw 140 rfl)) (by decide) (t := (.array .byte)) (t' := .int) (by decide) (by decide)))
  replace Fc_sb := Fc_sb.other W16 (Or.inr (slot_ne (Or.inl (ww hw 118 rfl)) (Or.inl (ww hw 140 rfl)) (by decide) (t := .byte) (t' := .int) (by decide) (by decide)))
  replace Fn_sb : Fld Z h16 sb cA "count" "I" (.int (Int32.ofNat (cs ++ [cc]).length)) := Fn_sb.same W16
  replace Fm_sb := Fm_sb.other W16 (Or.inr (slot_ne (Or.inl (ww hw 484 rfl)) (Or.inl (ww hw 140 rfl)) (by decide) (t := .boolean) (t' := .int) (by decide) (by decide)))
  replace V_t := V_t.other W16 (Ne.symm ne_sb_t)
  have P18 := P17.bt X16 hx hby b173_ rfl
  replace V_t : Arv Z h16 t kb .byte 16 (cs.map bv ++ [i0]) i0 := V_t.pad (pad_rep _ i0 1)
  obtain ⟨cl19, Ar19, q19, S19, M19, Hs19, G19⟩ := V_t
  obtain ⟨T19, h19, X19, e19, W19, st19⟩ := stB X16 hx hZ e16 Ar19 (j := (Int32.ofNat cs.length)) (inb_of S19 (own_inb cs.length 16 (by omega) (by decide))) (g := P18.g) rfl rfl (hb hby d45_41)
  have P20 := P18.st st19
  have N19 := Fr.snoc X19 N16 g_t
  have K19 := K16.wr W19 (Or.inl (mi 1))
  replace E_sb := E_sb.wr W19
  replace Fv_sb := Fv_sb.other W19 (Or.inl ne_sb_t)
  replace Fc_sb := Fc_sb.other W19 (Or.inl ne_sb_t)
  replace Fn_sb := Fn_sb.other W19 (Or.inl ne_sb_t)
  replace Fm_sb := Fm_sb.other W19 (Or.inl ne_sb_t)
  have V_t : Arv Z h19 t kb .byte 16 ((cs.map bv ++ [i0]).set cs.length (.int (nar .byte (cc.toInt8.toInt32)))) i0 := Arv.set Ar19 q19 S19 M19 Hs19 G19 (fits_nar_byte _) W19 cs.length (own_cl _ (by omega)) (by simp)
  replace V_t : Arv Z h19 t kb .byte 16 ((cs ++ [cc]).map bv) i0 := by
      have q := V_t
      rw [own_set1 _ _ _ _ (List.length_map ..)] at q
      rw [List.map_append]
      exact q
  have P21 : PP p e below T19 (mkF m 76 #[rv sb, iv cc] [(.ref sb)]) s0 := fun q_ k_ => P20 q_ (by
   refine bt X19 hx hby b174_ rfl ?_
   exact bt X19 hx hby b175_ rfl k_)
  exact endA 76 #[rv sb, iv cc] (rest := []) X19 hx hrt rfl hlk P21 (hb hby d45_76) e19 (by decide) (by decide) (show Q_asbAppC Z sb t kb (0 : Int32) (16 : Int32) (cs.map bv) cs cc G1 Gf h0 n0 _ _ _ from ⟨t, kb, (0 : Int32), (16 : Int32), ((cs ++ [cc]).map bv), rfl, N19, K19, (Or.inl rfl), E_sb, Fv_sb, Fc_sb, Fn_sb, Fm_sb, V_t, ne_sb_t, ⟨own_ccA icb (own_cc1 icc), Or.inl ⟨rfl, rfl, rfl, own_llA llb (own_ll1 lcc)⟩⟩⟩)
 ·
  have P22 := P0.bt X0 hx hby b166_ rfl
  obtain ⟨T23, X23, e23, P23⟩ := gF P22 X0 hx hZ hown hw 139 e0 Fn_sb (hb hby d45_2)
  have P24 : PP p e below T23 (mkF m 7 #[rv sb, iv cc] [(.int ((Int32.ofNat cs.length) + (1 : Int32))), (.ref sb)]) s0 := fun q_ k_ => P23 q_ (by
   exact bt X23 hx hby b167_ rfl k_)
  have P25 : PP p e below T23 (mkF m 7 #[rv sb, iv cc] [(.int (Int32.ofNat (cs.length + 1))), (.ref sb)]) s0 := fun q_ k_ => P24 q_ (by rw [show Int32.ofNat cs.length + (1 : Int32) = Int32.ofNat (cs.length + 1) from own_add cs.length 1]; exact k_)
  obtain ⟨_, T26, L26, X26, hQ26, P26⟩ := cVi P25 X23 hx hZ hown hw e23 E_sb hml 141 144 142 145 111 (rm_ensC1 hw sb t kb (wid cs) (cs.length + 1) Z0 E_sb Fv_sb Fc_sb V_t (by omega)) rfl rfl rfl rfl rfl rfl rfl [(.int (Int32.ofNat (cs.length + 1)))] [] 0 (lenOf pd_23 rfl) rfl (Nat.le_of_eq rfl) (hb hby d45_7) rfl (by decide)
  obtain ⟨rfl, N26q, e26⟩ := hQ26
  have N26 := Fr.app N0 N26q
  have P27 := P26.bt X26 hx hby b168_ rfl
  obtain ⟨_, T28, L28, X28, hQ28, P28⟩ := cVi P27 X26 hx hZ hown hw e26 E_sb hml 410 253 252 254 111 (rm_asbLat1 hw sb G1 Z0 Fc_sb Sc OL hz) rfl rfl rfl rfl rfl rfl rfl [] [] 0 (lenOf pd_20 rfl) rfl (Nat.le_of_eq rfl) (hb hby d45_11) rfl (by decide)
  obtain ⟨rfl, N28q, e28⟩ := hQ28
  have N28 := Fr.app N26 N28q
  have P29 : PP p e below T28 (mkF m 46 #[rv sb, iv cc] [(.ref sb)]) s0 := fun q_ k_ => P28 q_ (by
   refine XS.ifYes X28.here hx rfl (pc0 := 14) (pc' := 45) rfl (hb hby d45_14) rfl ((if0 _ _).trans (teq ((by decide) : (0 : Int32) = (0 : Int32))).1) (by decide) (by decide) ?_
   exact bt X28 hx hby b176_ rfl k_)
  obtain ⟨_, T30, L30, X30, hQ30, P30⟩ := cVi P29 X28 hx hZ hown hw e28 E_sb hml 410 253 252 254 111 (rm_asbLat1 hw sb G1 Z0 Fc_sb Sc OL hz) rfl rfl rfl rfl rfl rfl rfl [] [] 0 (lenOf pd_20 rfl) rfl (Nat.le_of_eq rfl) (hb hby d45_46) rfl (by decide)
  obtain ⟨rfl, N30q, e30⟩ := hQ30
  have N30 := Fr.app N28 N30q
  have P31 : PP p e below T30 (mkF m 57 #[rv sb, iv cc] [(.ref sb)]) s0 := fun q_ k_ => P30 q_ (by
   refine XS.ifYes X30.here hx rfl (pc0 := 49) (pc' := 56) rfl (hb hby d45_49) rfl ((if0 _ _).trans (teq ((by decide) : (0 : Int32) = (0 : Int32))).1) (by decide) (by decide) ?_
   exact bt X30 hx hby b177_ rfl k_)
  obtain ⟨T32, X32, e32, P32⟩ := gF P31 X30 hx hZ hown hw 115 e30 Fv_sb (hb hby d45_57)
  have P33 := P32.bt X32 hx hby b178_ rfl
  obtain ⟨T34, X34, e34, P34⟩ := gF P33 X32 hx hZ hown hw 139 e32 Fn_sb (hb hby d45_62)
  have P35 : PP p e below T34 (mkF m 68 #[rv sb, iv cc] [(.int ((Int32.ofNat cs.length) + (1 : Int32))), (.ref sb), (.int (Int32.ofNat cs.length)), (.ref t)]) s0 := fun q_ k_ => P34 q_ (by
   refine XS.dupX1 X34.here hx rfl (hb hby d45_65) rfl rfl rfl ?_
   exact bt X34 hx hby b179_ rfl k_)
  have P36 : PP p e below T34 (mkF m 68 #[rv sb, iv cc] [(.int (Int32.ofNat (cs ++ [cc]).length)), (.ref sb), (.int (Int32.ofNat cs.length)), (.ref t)]) s0 := fun q_ k_ => P35 q_ (by rw [(own_ls cs cc)]; exact k_)
  obtain ⟨T37, h37, X37, e37, W37, st37⟩ := putF X34 hx hZ hown (host := "") (Or.inl (ww hw 139 rfl)) Via.refl e34 Fn_sb E_sb (Or.inl (ww hw 140 rfl)) (ww hw 102 rfl) (ty := .int) (by decide) rfl rfl (g := P36.g) rfl rfl (hb hby d45_68)
  have P38 := P36.st st37
  have N37 := Fr.snoc X37 N30 g_sb
  have K37 := (Keep.refl h0 [sb, t]).wr W37 (Or.inl (mi 0))
  replace E_sb := E_sb.wr W37
  replace Fv_sb := Fv_sb.other W37 (Or.inr (slot_ne (Or.inl (ww hw 116 rfl)) (Or.inl (ww hw 140 rfl)) (by decide) (t := (.array .byte)) (t' := .int) (by decide) (by decide)))
  replace Fc_sb := Fc_sb.other W37 (Or.inr (slot_ne (Or.inl (ww hw 118 rfl)) (Or.inl (ww hw 140 rfl)) (by decide) (t := .byte) (t' := .int) (by decide) (by decide)))
  replace Fn_sb : Fld Z h37 sb cA "count" "I" (.int (Int32.ofNat (cs ++ [cc]).length)) := Fn_sb.same W37
  replace Fm_sb := Fm_sb.other W37 (Or.inr (slot_ne (Or.inl (ww hw 484 rfl)) (Or.inl (ww hw 140 rfl)) (by decide) (t := .boolean) (t' := .int) (by decide) (by decide)))
  replace V_t := V_t.other W37 (Ne.symm ne_sb_t)
  replace OL := OL.wr W37 g_sb
  have P39 := P38.bt X37 hx hby b180_ rfl
  obtain ⟨_, T40, L40, X40, hQ40, P40⟩ := cSt P39 X37 hx hZ hown hw e37 hml 476 477 17 478 (rm_putSB hw t kb cs cc Gf (zT Z0 K37.1) V_t g_t Sf rGf Sa Sh Sl OL hlc) rfl rfl rfl rfl rfl rfl [(.ref t), (.int (Int32.ofNat cs.length)), (.int cc)] [] 0 (lenOf pd_7 rfl) rfl (Nat.le_of_eq rfl) (hb hby d45_72) rfl (by decide)
  obtain ⟨rfl, N40q, Kc40, po40_0⟩ := hQ40
  have N40 := Fr.app N37 N40q
  obtain ⟨Lf41, X40, N41⟩ := fixL X40 N40 0 0 rfl rfl
  replace E_sb := E_sb.keep Kc40
  replace Fv_sb := Fv_sb.keep Kc40 (ninS ne_sb_t nin0)
  replace Fc_sb := Fc_sb.keep Kc40 (ninS ne_sb_t nin0)
  replace Fn_sb := Fn_sb.keep Kc40 (ninS ne_sb_t nin0)
  replace Fm_sb := Fm_sb.keep Kc40 (ninS ne_sb_t nin0)
  have K40 := Kt1 K37 Kc40 (Or.inl (mi 1))
  have V_t := po40_0
  have P42 : PP p e below T40 (mkF m 76 #[rv sb, iv cc] [(.ref sb)]) s0 := fun q_ k_ => P40 q_ (by
   exact bt X40 hx hby b175_ rfl k_)
  exact endA 76 #[rv sb, iv cc] (rest := []) X40 hx hrt rfl hlk P42 (hb hby d45_76) rfl (by decide) (by decide) (show Q_asbAppC Z sb t kb (1 : Int32) (32 : Int32) (wid cs) cs cc G1 Gf h0 n0 _ _ _ from ⟨t, kb, (1 : Int32), (32 : Int32), (wid (cs ++ [cc])), rfl, N41, K40, (Or.inl rfl), E_sb, Fv_sb, Fc_sb, Fn_sb, Fm_sb, V_t, ne_sb_t, ⟨own_ccA icb (own_cc1 icc), Or.inr ⟨rfl, rfl, rfl⟩⟩⟩)
abbrev k46_ := jdk_67_method_14_code
theorem b181_ : dl k46_ 0 [(.aload_n 0, 1), (.iload_n 1, 1)] = true := by decide +kernel
theorem pd_30 : parseMethodDescriptor "(C)Ljava/lang/AbstractStringBuilder;" = some ⟨[.char], some (.object "java/lang/AbstractStringBuilder")⟩ := by decide +kernel
theorem d46_2 : decode k46_ 2 = .ok (.invokespecial 50, 3) := by decide +kernel
theorem b182_ : dl k46_ 5 [(.pop, 1), (.aload_n 0, 1)] = true := by decide +kernel
theorem d46_7 : decode k46_ 7 = .ok (.areturn, 1) := by decide +kernel
abbrev mn_46 : MethodName := ⟨"java/lang/StringBuilder", "append", "(C)Ljava/lang/StringBuilder;"⟩
theorem rm_sbAppC (hw : HW a0 Z) (sb t : Addr) (kb : ClassId) (cd zb : Int32) (vs : List Value) (cs : List Int32) (cc G1 : Int32) (Gf : Value) (Z0 : n0 ≤ h0.size) (E_sb : Exa Z h0 sb cB) (Fv_sb : Fld Z h0 sb cA "value" "[B" (.ref t)) (Fc_sb : Fld Z h0 sb cA "coder" "B" (.int cd)) (Fn_sb : Fld Z h0 sb cA "count" "I" (.int (Int32.ofNat cs.length))) (Fm_sb : Fld Z h0 sb cA "maybeLatin1" "Z" i0) (V_t : Arv Z h0 t kb .byte zb vs i0) (g_t : n0 ≤ t) (g_sb : n0 ≤ sb) (ne_sb_t : sb ≠ t) (Sc : SU4 Z G1) (hz : ¬ G1 = 0) (Sa : SU1 Z) (Sh : SU2 Z) (Sl : SU3 Z) (Sf : SU5 Z Gf) (rGf : Gf.isRef = true) (OL : Old Z n0 h0) (hbb : BB cd zb vs cs) (hlc : cs.length ≤ 15) (icc : isC cc) (lcc : ¬ (255 : Int32) < cc) :
  MetP l Z mn_46 k46_ 2 (some (.object cB)) (rr 5 0 0 67) ws #[(.ref sb), (.int cc)] h0 (Q_asbAppC Z sb t kb cd zb vs cs cc G1 Gf h0 n0) := by
 refine begH n0 cB rfl (plainFor_of_name pn_6) fun p e s m below meth c s₁ s0 hrt hlk hZ hx hby hml hown hnm X0 e0 N0 P0 => ?_
 replace P0 : PP p e below s₁ (mkF m 0 #[rv sb, iv cc] []) s0 := castPP (ef_3 m sb cc) P0
 have P1 := P0.bt X0 hx hby b181_ rfl
 obtain ⟨_, _, ⟨T2, L2, k2, n2⟩, -, X2, ⟨Lc2, hQ2, l2, y2, z2⟩, st2⟩ := superBack X0 hx hZ (y := mn_45) hown (ww hw 406 rfl) (own_same (y := mn_45) (ww hw 408 rfl) (ww hw 144 rfl) rfl (by decide)) (ww hw 407 rfl) (ww hw 126 rfl) (by decide) (backOf (W := 0) (rm_asbAppC hw sb t kb cd zb vs cs cc G1 Gf Z0 E_sb Fv_sb Fc_sb Fn_sb Fm_sb V_t g_t g_sb ne_sb_t Sc hz Sa Sh Sl Sf rGf OL hbb hlc icc lcc) hZ (ww hw 409 rfl) (ww hw 111 rfl) (by decide) (by decide)) e0 (Ins.self E_sb) (g := P1.g) rfl (by rw [hml]; rfl) (ww hw 409 rfl) (argsL := [(.int cc)]) (rest := []) (lenOf pd_30 rfl) rfl (by show 2 * 0 + _ ≤ _; exact Nat.le_of_eq rfl) (hb hby d46_2) (fun _ _ => ⟨rfl, e0, (by decide : 0 + 0 ≤ _), (by decide : 0 + 0 ≤ _)⟩)
 dsimp only [Pt.U, Pt.locs, Pt.cells, Pt.slots] at X2 l2 y2 z2 st2 hQ2
 subst l2 y2 z2
 obtain ⟨tn_2, kn_2, cd2_2, zb2_2, vs2_2, rfl, N2q, Kc2, po2_0, po2_1, po2_2, po2_3, po2_4, po2_5, po2_6, po2_7, po2_8⟩ := hQ2
 have N2 := Fr.app N0 N2q
 obtain ⟨Lf3, X2, N3⟩ := fixL X2 N2 0 0 rfl rfl
 have P4 := P1.tr st2
 have g_tn_2 : n0 ≤ tn_2 := own_tof2 po2_0 g_t (Nat.le_trans Z0 (Nat.le_refl h0.size))
 have tf_tn_2 : tn_2 = t ∨ h0.size ≤ tn_2 := own_tof3 po2_0 (Nat.le_refl h0.size)
 have K2 := Kt2 (Keep.refl h0 [sb, t]) Kc2 (Or.inl (mi 0)) (Or.inl (mi 1))
 have E_sb := po2_1
 have Fv_sb := po2_2
 have Fc_sb := po2_3
 have Fn_sb := po2_4
 have Fm_sb := po2_5
 have V_tn_2 := po2_6
 have hbb2_2 := po2_8
 have P5 : PP p e below T2 (mkF m 7 #[rv sb, iv cc] [(.ref sb)]) s0 := fun q_ k_ => P4 q_ (by
  exact bt X2 hx hby b182_ rfl k_)
 exact endA 7 #[rv sb, iv cc] (rest := []) X2 hx hrt rfl hlk P5 (hb hby d46_7) rfl (by decide) (by decide) (show Q_asbAppC Z sb t kb cd zb vs cs cc G1 Gf h0 n0 _ _ _ from ⟨tn_2, kn_2, cd2_2, zb2_2, vs2_2, rfl, N3, K2, tf_tn_2, E_sb, Fv_sb, Fc_sb, Fn_sb, Fm_sb, V_tn_2, po2_7, hbb2_2⟩)
abbrev k47_ := jdk_68_method_64_code
theorem b183_ : dl k47_ 0 [(.aload_n 0, 1)] = true := by decide +kernel
theorem d47_1 : decode k47_ 1 = .ok (.getfield 15, 3) := by decide +kernel
theorem d47_4 : decode k47_ 4 = .ok (.areturn, 1) := by decide +kernel
def Q_getVal (Z : State) (sb t : Addr) : QT := fun h0 n0 v h L => v = some (.ref t) ∧ Fr n0 L ∧ h = h0
abbrev mn_47 : MethodName := ⟨"java/lang/AbstractStringBuilder", "getValue", "()[B"⟩
theorem rm_getVal (hw : HW a0 Z) (sb t : Addr) (Z0 : n0 ≤ h0.size) (Fv_sb : Fld Z h0 sb cA "value" "[B" (.ref t)) :
  MetP l Z mn_47 k47_ 1 (some (.array .byte)) (rr 0 0 0 0) ws #[(.ref sb)] h0 (Q_getVal Z sb t h0 n0) := by
 refine begH n0 cA rfl (plainFor_of_name pn_4) fun p e s m below meth c s₁ s0 hrt hlk hZ hx hby hml hown hnm X0 e0 N0 P0 => ?_
 replace P0 : PP p e below s₁ (mkF m 0 #[rv sb] []) s0 := castPP (ef_4 m sb) P0
 have P1 := P0.bt X0 hx hby b183_ rfl
 obtain ⟨T2, X2, e2, P2⟩ := gF P1 X0 hx hZ hown hw 115 e0 Fv_sb (hb hby d47_1)
 exact endA 4 #[rv sb] (rest := []) X2 hx hrt rfl hlk P2 (hb hby d47_4) e2 (by decide) (by decide) (show Q_getVal Z sb t h0 n0 _ _ _ from ⟨rfl, N0, rfl⟩)
abbrev k48_ := jdk_68_method_6_code
theorem b184_ : dl k48_ 0 [(.aload_n 0, 1)] = true := by decide +kernel
theorem d48_1 : decode k48_ 1 = .ok (.getfield 79, 3) := by decide +kernel
theorem d48_4 : decode k48_ 4 = .ok (.ireturn, 1) := by decide +kernel
def Q_asbLen (Z : State) (sb : Addr) (cn : Int32) : QT := fun h0 n0 v h L => v = some (.int cn) ∧ Fr n0 L ∧ h = h0
abbrev mn_48 : MethodName := ⟨"java/lang/AbstractStringBuilder", "length", "()I"⟩
theorem rm_asbLen (hw : HW a0 Z) (sb : Addr) (cn : Int32) (Z0 : n0 ≤ h0.size) (Fn_sb : Fld Z h0 sb cA "count" "I" (.int cn)) :
  MetP l Z mn_48 k48_ 1 (some .int) (rr 0 0 0 0) ws #[(.ref sb)] h0 (Q_asbLen Z sb cn h0 n0) := by
 refine begH n0 cA rfl (plainFor_of_name pn_4) fun p e s m below meth c s₁ s0 hrt hlk hZ hx hby hml hown hnm X0 e0 N0 P0 => ?_
 replace P0 : PP p e below s₁ (mkF m 0 #[rv sb] []) s0 := castPP (ef_4 m sb) P0
 have P1 := P0.bt X0 hx hby b184_ rfl
 obtain ⟨T2, X2, e2, P2⟩ := gF P1 X0 hx hZ hown hw 139 e0 Fn_sb (hb hby d48_1)
 exact endI 4 #[rv sb] (rest := []) X2 hx hrt hlk P2 (hb hby d48_4) e2 (by decide) (by decide) (show Q_asbLen Z sb cn h0 n0 _ _ _ from ⟨rfl, N0, rfl⟩)
abbrev k49_ := jdk_67_method_93_code
theorem b185_ : dl k49_ 0 [(.aload_n 0, 1)] = true := by decide +kernel
theorem d49_1 : decode k49_ 1 = .ok (.invokespecial 343, 3) := by decide +kernel
theorem d49_4 : decode k49_ 4 = .ok (.ireturn, 1) := by decide +kernel
abbrev mn_49 : MethodName := ⟨"java/lang/StringBuilder", "length", "()I"⟩
theorem rm_sbLen (hw : HW a0 Z) (sb : Addr) (cn : Int32) (Z0 : n0 ≤ h0.size) (E_sb : Exa Z h0 sb cB) (Fn_sb : Fld Z h0 sb cA "count" "I" (.int cn)) :
  MetP l Z mn_49 k49_ 1 (some .int) (rr 1 0 0 12) ws #[(.ref sb)] h0 (Q_asbLen Z sb cn h0 n0) := by
 refine begH n0 cB rfl (plainFor_of_name pn_6) fun p e s m below meth c s₁ s0 hrt hlk hZ hx hby hml hown hnm X0 e0 N0 P0 => ?_
 replace P0 : PP p e below s₁ (mkF m 0 #[rv sb] []) s0 := castPP (ef_4 m sb) P0
 have P1 := P0.bt X0 hx hby b185_ rfl
 obtain ⟨_, _, ⟨T2, L2, k2, n2⟩, -, X2, ⟨Lc2, hQ2, l2, y2, z2⟩, st2⟩ := superBack X0 hx hZ (y := mn_48) hown (ww hw 248 rfl) (own_same (y := mn_48) (ww hw 243 rfl) (ww hw 144 rfl) rfl (by decide)) (ww hw 244 rfl) (ww hw 126 rfl) (by decide) (backOf (W := 0) (rm_asbLen hw sb cn Z0 Fn_sb) hZ (ww hw 249 rfl) (ww hw 111 rfl) (by decide) (by decide)) e0 (Ins.self E_sb) (g := P1.g) rfl (by rw [hml]; rfl) (ww hw 249 rfl) (argsL := []) (rest := []) (lenOf pd_27 rfl) rfl (by show 2 * 0 + _ ≤ _; exact Nat.le_of_eq rfl) (hb hby d49_1) (fun _ _ => ⟨rfl, e0, (by decide : 0 + 0 ≤ _), (by decide : 0 + 0 ≤ _)⟩)
 dsimp only [Pt.U, Pt.locs, Pt.cells, Pt.slots] at X2 l2 y2 z2 st2 hQ2
 subst l2 y2 z2
 obtain ⟨rfl, N2q, e2⟩ := hQ2
 have N2 := Fr.app N0 N2q
 have P3 := P1.tr st2
 exact endI 4 #[rv sb] (rest := []) X2 hx hrt hlk P3 (hb hby d49_4) e2 (by decide) (by decide) (show Q_asbLen Z sb cn h0 n0 _ _ _ from ⟨rfl, N2, rfl⟩)
theorem ef_33 (m : MethodId) (x0 : Addr) (x1 : Addr) : entryFrame m #[(.ref x0), (.ref x1), .null] 5 = mkF m 0 #[.val (.ref x0), .val (.ref x1), .val .null, .unset, .unset] [] := by first | (simp [entryFrame, mkF, argsToLocals, Value.category]; done) | rfl
abbrev k50_ := jdk_42_method_150_code
theorem b186_ : dl k50_ 0 [(.aload_n 0, 1)] = true := by decide +kernel
theorem d50_1 : decode k50_ 1 = .ok (.invokespecial 1, 3) := by decide +kernel
theorem b187_ : dl k50_ 4 [(.aload_n 1, 1)] = true := by decide +kernel
theorem pd_31 : parseMethodDescriptor "()[B" = some ⟨[], some (.array .byte)⟩ := by decide +kernel
theorem d50_5 : decode k50_ 5 = .ok (.invokevirtual 552, 3) := by decide +kernel
theorem b188_ : dl k50_ 8 [(.astore_n 3, 1), (.aload_n 1, 1)] = true := by decide +kernel
theorem d50_10 : decode k50_ 10 = .ok (.invokevirtual 549, 3) := by decide +kernel
theorem b189_ : dl k50_ 13 [(.istore 4, 2), (.aload_n 1, 1)] = true := by decide +kernel
theorem d50_16 : decode k50_ 16 = .ok (.invokevirtual 1047, 3) := by decide +kernel
theorem d50_19 : decode k50_ 19 = .ok (.ifCond .eq 22, 3) := by decide +kernel
theorem b190_ : dl k50_ 22 [(.aload_n 0, 1), (.iconst 0, 1)] = true := by decide +kernel
theorem d50_24 : decode k50_ 24 = .ok (.putfield 15, 3) := by decide +kernel
theorem b191_ : dl k50_ 27 [(.aload_n 0, 1), (.aload_n 3, 1), (.iconst 0, 1), (.iload 4, 2)] = true := by decide +kernel
theorem d50_32 : decode k50_ 32 = .ok (.invokestatic 54, 3) := by decide +kernel
theorem d50_35 : decode k50_ 35 = .ok (.putfield 9, 3) := by decide +kernel
theorem b192_ : dl k50_ 38 [(.goto 59, 3)] = true := by decide +kernel
theorem d50_97 : decode k50_ 97 = .ok (.return_, 1) := by decide +kernel
theorem d50_41 : decode k50_ 41 = .ok (.getstatic 38, 3) := by decide +kernel
theorem d50_44 : decode k50_ 44 = .ok (.ifCond .eq 35, 3) := by decide +kernel
theorem b193_ : dl k50_ 47 [(.aload_n 1, 1)] = true := by decide +kernel
theorem d50_48 : decode k50_ 48 = .ok (.getfield 1048, 3) := by decide +kernel
theorem d50_51 : decode k50_ 51 = .ok (.ifCond .eq 28, 3) := by decide +kernel
theorem b194_ : dl k50_ 79 [(.aload_n 0, 1), (.iconst 1, 1)] = true := by decide +kernel
theorem d50_81 : decode k50_ 81 = .ok (.putfield 15, 3) := by decide +kernel
theorem b195_ : dl k50_ 84 [(.aload_n 0, 1), (.aload_n 3, 1), (.iconst 0, 1), (.iload 4, 2), (.iconst 1, 1), (.ishl, 1)] = true := by decide +kernel
theorem d50_91 : decode k50_ 91 = .ok (.invokestatic 54, 3) := by decide +kernel
theorem d50_94 : decode k50_ 94 = .ok (.putfield 9, 3) := by decide +kernel
def Q_sInitA (Z : State) (xs sb t : Addr) (kb : ClassId) (cd zb : Int32) (vs : List Value) (cs : List Int32) (u1 u2 : Value) (G1 : Int32) (Gf : Value) : QT := fun h0 n0 v h L => ∃ (ts : Addr) (ks : ClassId) (ce : Int32) (ze : Int32) (wv : List Value), v = none ∧ Fr n0 L ∧ Keep h0 h [xs] ∧ (h0.size ≤ ts) ∧ (Exa Z h xs cS) ∧ (Fld Z h xs cS "value" "[B" (.ref ts)) ∧ (Fld Z h xs cS "coder" "B" (.int ce)) ∧ (Arv Z h ts ks .byte ze wv i0) ∧ (KB ce ze wv cs)
abbrev mn_50 : MethodName := ⟨"java/lang/String", "<init>", "(Ljava/lang/AbstractStringBuilder;Ljava/lang/Void;)V"⟩
theorem rm_sInitA (hw : HW a0 Z) (xs sb t : Addr) (kb : ClassId) (cd zb : Int32) (vs : List Value) (cs : List Int32) (u1 u2 : Value) (G1 : Int32) (Gf : Value) (Z0 : n0 ≤ h0.size) (E_sb : Exa Z h0 sb cB) (Fv_sb : Fld Z h0 sb cA "value" "[B" (.ref t)) (Fc_sb : Fld Z h0 sb cA "coder" "B" (.int cd)) (Fn_sb : Fld Z h0 sb cA "count" "I" (.int (Int32.ofNat cs.length))) (Fm_sb : Fld Z h0 sb cA "maybeLatin1" "Z" i0) (V_t : Arv Z h0 t kb .byte zb vs i0) (E_xs : Exa Z h0 xs cS) (Fv_xs : Fld Z h0 xs cS "value" "[B" u1) (Fc_xs : Fld Z h0 xs cS "coder" "B" u2) (g_xs : n0 ≤ xs) (ne_xs_sb : xs ≠ sb) (ne_t_xs : t ≠ xs) (Sc : SU4 Z G1) (hz : ¬ G1 = 0) (Sa : SU1 Z) (Sh : SU2 Z) (Sl : SU3 Z) (Sf : SU5 Z Gf) (rGf : Gf.isRef = true) (OL : Old Z n0 h0) (hbb : BB cd zb vs cs) (hlc : cs.length ≤ 15) :
  MetP l Z mn_50 k50_ 5 none (rr 3 1 32 49) ws #[(.ref xs), (.ref sb), .null] h0 (Q_sInitA Z xs sb t kb cd zb vs cs u1 u2 G1 Gf h0 n0) := by
 refine begH n0 cS rfl (plainFor_of_name pn_2) fun p e s m below meth c s₁ s0 hrt hlk hZ hx hby hml hown hnm X0 e0 N0 P0 => ?_
 replace P0 : PP p e below s₁ (mkF m 0 #[rv xs, rv sb, .val .null, .unset, .unset] []) s0 := castPP (ef_33 m xs sb) P0
 rcases hbb with ⟨icb, ⟨rfl, rfl, rfl, llb⟩ | ⟨rfl, rfl, rfl⟩⟩
 ·
  have P1 := P0.bt X0 hx hby b186_ rfl
  obtain ⟨T2, X2, e2, st2⟩ := initO X0 hx hZ hown (ww hw 11 rfl) (ww hw 12 rfl) (ww hw 13 rfl) e0 (g := P1.g) rfl (by rw [hml]; rfl) rfl (hb hby d50_1) (by decide) (W := 0) (by show 2 * 0 + _ ≤ _; exact Nat.le_of_eq rfl) (by decide)
  have P3 := P1.st st2
  have P4 : PP p e below T2 (mkF m 5 #[rv xs, rv sb, .val .null, .unset, .unset] [(.ref sb)]) s0 := fun q_ k_ => P3 q_ (by
   exact bt X2 hx hby b187_ rfl k_)
  obtain ⟨_, T5, L5, X5, hQ5, P5⟩ := cVi P4 X2 hx hZ hown hw e2 E_sb hml 237 240 239 241 111 (rm_getVal hw sb t Z0 Fv_sb) rfl rfl rfl rfl rfl rfl rfl [] [] 0 (lenOf pd_31 rfl) rfl (Nat.le_of_eq rfl) (hb hby d50_5) rfl (by decide)
  obtain ⟨rfl, N5q, e5⟩ := hQ5
  have N5 := Fr.app N0 N5q
  have P6 := P5.bt X5 hx hby b188_ rfl
  obtain ⟨cq7, kq7, q7a, q7b, q7c⟩ := isOf hZ e5 E_sb
  obtain ⟨_, _, ⟨T7, L7, k7, n7⟩, -, X7, ⟨Lc7, hQ7, l7, y7, z7⟩, st7⟩ := X5.virtualBack hx (y := mn_48) (z := mn_49) hown (mw hZ hw 242 rfl) (mw hZ hw 243 rfl) (own_nf (args := #[]) (mw hZ hw 144 rfl) rfl) (mw hZ hw 245 rfl) (mw hZ hw 246 rfl) (by decide) (backOf (W := 0) (rm_sbLen hw sb (Int32.ofNat cs.length) Z0 E_sb Fn_sb) hZ (ww hw 247 rfl) (ww hw 103 rfl) (by decide) (by decide)) q7a q7c (g := P6.g) rfl (by rw [hml]; rfl) (Steps.refl _) (argsL := []) (rest := []) (lenOf pd_27 rfl) rfl (by show 2 * 0 + _ ≤ _; exact Nat.le_of_eq rfl) (hb hby d50_10) (fun _ _ => ⟨rfl, e5, (by decide : 0 + 0 ≤ _), (by decide : 0 + 0 ≤ _)⟩)
  dsimp only [Pt.U, Pt.locs, Pt.cells, Pt.slots] at X7 l7 y7 z7 st7 hQ7
  subst l7 y7 z7
  obtain ⟨rfl, N7q, e7⟩ := hQ7
  have N7 := Fr.app N5 N7q
  have P8 := P6.tr st7
  have P9 : PP p e below T7 (mkF m 16 #[rv xs, rv sb, .val .null, rv t, iv (Int32.ofNat cs.length)] [(.ref sb)]) s0 := fun q_ k_ => P8 q_ (by
   exact bt X7 hx hby b189_ rfl k_)
  obtain ⟨_, T10, L10, X10, hQ10, P10⟩ := cVi P9 X7 hx hZ hown hw e7 E_sb hml 250 253 252 254 111 (rm_asbLat0 hw sb G1 Z0 Fc_sb Sc OL hz) rfl rfl rfl rfl rfl rfl rfl [] [] 0 (lenOf pd_20 rfl) rfl (Nat.le_of_eq rfl) (hb hby d50_16) rfl (by decide)
  obtain ⟨rfl, N10q, e10⟩ := hQ10
  have N10 := Fr.app N7 N10q
  have P11 : PP p e below T10 (mkF m 24 #[rv xs, rv sb, .val .null, rv t, iv (Int32.ofNat cs.length)] [i0, (.ref xs)]) s0 := fun q_ k_ => P10 q_ (by
   refine XS.ifNo X10.here hx rfl (hb hby d50_19) rfl ((if0 _ _).trans (feq ((by decide) : ¬ ((1 : Int32) = (0 : Int32)))).1) ?_
   exact bt X10 hx hby b190_ rfl k_)
  obtain ⟨T12, h12, X12, e12, W12, st12⟩ := putFN X10 hx hZ hown (ww hw 26 rfl) Via.refl e10 Fc_xs E_xs (Or.inr ⟨(ww hw 27 rfl), rfl, hnm⟩) (ww hw 1 rfl) (ty := .byte) (v' := i0) (by decide) rfl (rfl) (g := P11.g) rfl rfl (hb hby d50_24)
  have P13 := P11.st st12
  have N12 := Fr.snoc X12 N10 g_xs
  have K12 := (Keep.refl h0 [xs]).wr W12 (Or.inl (mi 0))
  replace V_t := V_t.other W12 ne_t_xs
  replace E_xs := E_xs.wr W12
  replace Fv_xs := Fv_xs.other W12 (Or.inr (slot_ne (Or.inr (ww hw 29 rfl)) (Or.inr (ww hw 27 rfl)) (by decide) (t := (.array .byte)) (t' := .byte) (by decide) (by decide)))
  replace Fc_xs : Fld Z h12 xs cS "coder" "B" i0 := Fc_xs.same W12
  have P14 := P13.bt X12 hx hby b191_ rfl
  obtain ⟨_, T15, L15, X15, hQ15, P15⟩ := cSt P14 X12 hx hZ hown hw e12 hml 255 256 257 258 (rm_cpr hw t kb (cs.map bv) 16 cs.length (zT Z0 K12.1) V_t (by rw [List.length_map]; omega) (by decide) (List.length_map ..)) rfl rfl rfl rfl rfl rfl [(.ref t), i0, (.int (Int32.ofNat cs.length))] [(.ref xs)] 1 (lenOf pd_22 rfl) rfl (Nat.le_of_eq rfl) (hb hby d50_32) rfl (by decide)
  obtain ⟨tn_15, kn_15, rfl, N15q, Kc15, po15_0, po15_1⟩ := hQ15
  have N15 := Fr.app N12 N15q
  obtain ⟨Lf16, X15, N16⟩ := fixL X15 N15 1 32 rfl rfl
  have ne_xs_tn_15 := neL E_xs.lt po15_0
  have sz_tn_15 : h0.size ≤ tn_15 := Nat.le_trans K12.1 po15_0
  replace E_xs := E_xs.keep Kc15
  replace Fv_xs := Fv_xs.keep Kc15 nin0
  replace Fc_xs := Fc_xs.keep Kc15 nin0
  have K15 := K12.trans Kc15 all0
  have V_tn_15 := po15_1
  obtain ⟨T17, h17, X17, e17, W17, st17⟩ := putF X15 hx hZ hown (host := "") (Or.inl (ww hw 28 rfl)) Via.refl rfl Fv_xs E_xs (Or.inr ⟨(ww hw 29 rfl), rfl, hnm⟩) (ww hw 1 rfl) (ty := (.array .byte)) (by decide) rfl rfl (g := P15.g) rfl rfl (hb hby d50_35)
  have P18 := P15.st st17
  have N17 := Fr.snoc X17 N16 g_xs
  have K17 := K15.wr W17 (Or.inl (mi 0))
  replace E_xs := E_xs.wr W17
  replace Fv_xs : Fld Z h17 xs cS "value" "[B" (.ref tn_15) := Fv_xs.same W17
  replace Fc_xs := Fc_xs.other W17 (Or.inr (slot_ne (Or.inr (ww hw 27 rfl)) (Or.inr (ww hw 29 rfl)) (by decide) (t := .byte) (t' := (.array .byte)) (by decide) (by decide)))
  replace V_tn_15 := V_tn_15.other W17 (Ne.symm ne_xs_tn_15)
  have P19 : PP p e below T17 (mkF m 97 #[rv xs, rv sb, .val .null, rv t, iv (Int32.ofNat cs.length)] []) s0 := fun q_ k_ => P18 q_ (by
   exact bt X17 hx hby b192_ rfl k_)
  exact endV 97 #[rv xs, rv sb, .val .null, rv t, iv (Int32.ofNat cs.length)] X17 hx hrt hlk P19 (hb hby d50_97) e17 (by decide) (by decide) (show Q_sInitA Z xs sb t kb (0 : Int32) (16 : Int32) (cs.map bv) cs u1 u2 G1 Gf h0 n0 _ _ _ from ⟨tn_15, kn_15, (0 : Int32), (Int32.ofNat cs.length), (cs.map bv), rfl, N17, K17, sz_tn_15, E_xs, Fv_xs, Fc_xs, V_tn_15, ⟨icb, Or.inl ⟨rfl, rfl, rfl, llb⟩⟩⟩)
 ·
  have P20 := P0.bt X0 hx hby b186_ rfl
  obtain ⟨T21, X21, e21, st21⟩ := initO X0 hx hZ hown (ww hw 11 rfl) (ww hw 12 rfl) (ww hw 13 rfl) e0 (g := P20.g) rfl (by rw [hml]; rfl) rfl (hb hby d50_1) (by decide) (W := 0) (by show 2 * 0 + _ ≤ _; exact Nat.le_of_eq rfl) (by decide)
  have P22 := P20.st st21
  have P23 : PP p e below T21 (mkF m 5 #[rv xs, rv sb, .val .null, .unset, .unset] [(.ref sb)]) s0 := fun q_ k_ => P22 q_ (by
   exact bt X21 hx hby b187_ rfl k_)
  obtain ⟨_, T24, L24, X24, hQ24, P24⟩ := cVi P23 X21 hx hZ hown hw e21 E_sb hml 237 240 239 241 111 (rm_getVal hw sb t Z0 Fv_sb) rfl rfl rfl rfl rfl rfl rfl [] [] 0 (lenOf pd_31 rfl) rfl (Nat.le_of_eq rfl) (hb hby d50_5) rfl (by decide)
  obtain ⟨rfl, N24q, e24⟩ := hQ24
  have N24 := Fr.app N0 N24q
  have P25 := P24.bt X24 hx hby b188_ rfl
  obtain ⟨cq26, kq26, q26a, q26b, q26c⟩ := isOf hZ e24 E_sb
  obtain ⟨_, _, ⟨T26, L26, k26, n26⟩, -, X26, ⟨Lc26, hQ26, l26, y26, z26⟩, st26⟩ := X24.virtualBack hx (y := mn_48) (z := mn_49) hown (mw hZ hw 242 rfl) (mw hZ hw 243 rfl) (own_nf (args := #[]) (mw hZ hw 144 rfl) rfl) (mw hZ hw 245 rfl) (mw hZ hw 246 rfl) (by decide) (backOf (W := 0) (rm_sbLen hw sb (Int32.ofNat cs.length) Z0 E_sb Fn_sb) hZ (ww hw 247 rfl) (ww hw 103 rfl) (by decide) (by decide)) q26a q26c (g := P25.g) rfl (by rw [hml]; rfl) (Steps.refl _) (argsL := []) (rest := []) (lenOf pd_27 rfl) rfl (by show 2 * 0 + _ ≤ _; exact Nat.le_of_eq rfl) (hb hby d50_10) (fun _ _ => ⟨rfl, e24, (by decide : 0 + 0 ≤ _), (by decide : 0 + 0 ≤ _)⟩)
  dsimp only [Pt.U, Pt.locs, Pt.cells, Pt.slots] at X26 l26 y26 z26 st26 hQ26
  subst l26 y26 z26
  obtain ⟨rfl, N26q, e26⟩ := hQ26
  have N26 := Fr.app N24 N26q
  have P27 := P25.tr st26
  have P28 : PP p e below T26 (mkF m 16 #[rv xs, rv sb, .val .null, rv t, iv (Int32.ofNat cs.length)] [(.ref sb)]) s0 := fun q_ k_ => P27 q_ (by
   exact bt X26 hx hby b189_ rfl k_)
  obtain ⟨_, T29, L29, X29, hQ29, P29⟩ := cVi P28 X26 hx hZ hown hw e26 E_sb hml 250 253 252 254 111 (rm_asbLat1 hw sb G1 Z0 Fc_sb Sc OL hz) rfl rfl rfl rfl rfl rfl rfl [] [] 0 (lenOf pd_20 rfl) rfl (Nat.le_of_eq rfl) (hb hby d50_16) rfl (by decide)
  obtain ⟨rfl, N29q, e29⟩ := hQ29
  have N29 := Fr.app N26 N29q
  have P30 : PP p e below T29 (mkF m 41 #[rv xs, rv sb, .val .null, rv t, iv (Int32.ofNat cs.length)] []) s0 := fun q_ k_ => P29 q_ (by
   exact XS.ifYes X29.here hx rfl (pc0 := 19) (pc' := 41) rfl (hb hby d50_19) rfl ((if0 _ _).trans (teq ((by decide) : (0 : Int32) = (0 : Int32))).1) (by decide) (by decide) k_)
  obtain ⟨T31, X31, e31, P31⟩ := gS P30 X29 hx hZ hown hw 14 e29 (Sc.ext OL.2) (hb hby d50_41)
  have P32 : PP p e below T31 (mkF m 48 #[rv xs, rv sb, .val .null, rv t, iv (Int32.ofNat cs.length)] [(.ref sb)]) s0 := fun q_ k_ => P31 q_ (by
   refine XS.ifNo X31.here hx rfl (hb hby d50_44) rfl ((if0 _ _).trans (feq (hz : ¬ (G1 = (0 : Int32)))).1) ?_
   exact bt X31 hx hby b193_ rfl k_)
  obtain ⟨T33, X33, e33, P33⟩ := gF P32 X31 hx hZ hown hw 483 e31 Fm_sb (hb hby d50_48)
  have P34 : PP p e below T33 (mkF m 81 #[rv xs, rv sb, .val .null, rv t, iv (Int32.ofNat cs.length)] [(.int 1), (.ref xs)]) s0 := fun q_ k_ => P33 q_ (by
   refine XS.ifYes X33.here hx rfl (pc0 := 51) (pc' := 79) rfl (hb hby d50_51) rfl ((if0 _ _).trans (teq ((by decide) : (0 : Int32) = (0 : Int32))).1) (by decide) (by decide) ?_
   exact bt X33 hx hby b194_ rfl k_)
  obtain ⟨T35, h35, X35, e35, W35, st35⟩ := putFN X33 hx hZ hown (ww hw 26 rfl) Via.refl e33 Fc_xs E_xs (Or.inr ⟨(ww hw 27 rfl), rfl, hnm⟩) (ww hw 1 rfl) (ty := .byte) (v' := (.int 1)) (by decide) rfl (rfl) (g := P34.g) rfl rfl (hb hby d50_81)
  have P36 := P34.st st35
  have N35 := Fr.snoc X35 N29 g_xs
  have K35 := (Keep.refl h0 [xs]).wr W35 (Or.inl (mi 0))
  replace V_t := V_t.other W35 ne_t_xs
  replace E_xs := E_xs.wr W35
  replace Fv_xs := Fv_xs.other W35 (Or.inr (slot_ne (Or.inr (ww hw 29 rfl)) (Or.inr (ww hw 27 rfl)) (by decide) (t := (.array .byte)) (t' := .byte) (by decide) (by decide)))
  replace Fc_xs : Fld Z h35 xs cS "coder" "B" (.int 1) := Fc_xs.same W35
  have P37 := P36.bt X35 hx hby b195_ rfl
  have P38 : PP p e below T35 (mkF m 91 #[rv xs, rv sb, .val .null, rv t, iv (Int32.ofNat cs.length)] [(.int (Int32.ofNat (2 * cs.length))), i0, (.ref t), (.ref xs)]) s0 := fun q_ k_ => P37 q_ (by show GG p e below T35 (mkF m 91 #[rv xs, rv sb, .val .null, rv t, iv (Int32.ofNat cs.length)] [(.int ((Int32.ofNat cs.length) <<< ((1 : Int32) &&& 31))), i0, (.ref t), (.ref xs)]) q_; rw [(own_shl1 cs.length)]; exact k_)
  obtain ⟨_, T39, L39, X39, hQ39, P39⟩ := cSt P38 X35 hx hZ hown hw e35 hml 255 256 257 258 (rm_cpr hw t kb (wid cs) 32 (2 * cs.length) (zT Z0 K35.1) V_t (by rw [own_widL]; omega) (by decide) (own_widL cs)) rfl rfl rfl rfl rfl rfl [(.ref t), i0, (.int (Int32.ofNat (2 * cs.length)))] [(.ref xs)] 1 (lenOf pd_22 rfl) rfl (Nat.le_of_eq rfl) (hb hby d50_91) rfl (by decide)
  obtain ⟨tn_39, kn_39, rfl, N39q, Kc39, po39_0, po39_1⟩ := hQ39
  have N39 := Fr.app N35 N39q
  obtain ⟨Lf40, X39, N40⟩ := fixL X39 N39 1 32 rfl rfl
  have ne_xs_tn_39 := neL E_xs.lt po39_0
  have sz_tn_39 : h0.size ≤ tn_39 := Nat.le_trans K35.1 po39_0
  replace E_xs := E_xs.keep Kc39
  replace Fv_xs := Fv_xs.keep Kc39 nin0
  replace Fc_xs := Fc_xs.keep Kc39 nin0
  have K39 := K35.trans Kc39 all0
  have V_tn_39 := po39_1
  obtain ⟨T41, h41, X41, e41, W41, st41⟩ := putF X39 hx hZ hown (host := "") (Or.inl (ww hw 28 rfl)) Via.refl rfl Fv_xs E_xs (Or.inr ⟨(ww hw 29 rfl), rfl, hnm⟩) (ww hw 1 rfl) (ty := (.array .byte)) (by decide) rfl rfl (g := P39.g) rfl rfl (hb hby d50_94)
  have P42 := P39.st st41
  have N41 := Fr.snoc X41 N40 g_xs
  have K41 := K39.wr W41 (Or.inl (mi 0))
  replace E_xs := E_xs.wr W41
  replace Fv_xs : Fld Z h41 xs cS "value" "[B" (.ref tn_39) := Fv_xs.same W41
  replace Fc_xs := Fc_xs.other W41 (Or.inr (slot_ne (Or.inr (ww hw 27 rfl)) (Or.inr (ww hw 29 rfl)) (by decide) (t := .byte) (t' := (.array .byte)) (by decide) (by decide)))
  replace V_tn_39 := V_tn_39.other W41 (Ne.symm ne_xs_tn_39)
  exact endV 97 #[rv xs, rv sb, .val .null, rv t, iv (Int32.ofNat cs.length)] X41 hx hrt hlk P42 (hb hby d50_97) e41 (by decide) (by decide) (show Q_sInitA Z xs sb t kb (1 : Int32) (32 : Int32) (wid cs) cs u1 u2 G1 Gf h0 n0 _ _ _ from ⟨tn_39, kn_39, (1 : Int32), (Int32.ofNat (2 * cs.length)), (wid cs), rfl, N41, K41, sz_tn_39, E_xs, Fv_xs, Fc_xs, V_tn_39, ⟨icb, Or.inr ⟨rfl, rfl, rfl⟩⟩⟩)
abbrev k51_ := jdk_42_method_53_code
theorem b196_ : dl k51_ 0 [(.aload_n 0, 1), (.aload_n 1, 1), (.aconst_null, 1)] = true := by decide +kernel
theorem pd_32 : parseMethodDescriptor "(Ljava/lang/AbstractStringBuilder;Ljava/lang/Void;)V" = some ⟨[(.object "java/lang/AbstractStringBuilder"), (.object "java/lang/Void")], none⟩ := by decide +kernel
theorem d51_3 : decode k51_ 3 = .ok (.invokespecial 489, 3) := by decide +kernel
theorem d51_6 : decode k51_ 6 = .ok (.return_, 1) := by decide +kernel
abbrev mn_51 : MethodName := ⟨"java/lang/String", "<init>", "(Ljava/lang/StringBuilder;)V"⟩
theorem rm_sInitB (hw : HW a0 Z) (xs sb t : Addr) (kb : ClassId) (cd zb : Int32) (vs : List Value) (cs : List Int32) (u1 u2 : Value) (G1 : Int32) (Gf : Value) (Z0 : n0 ≤ h0.size) (E_sb : Exa Z h0 sb cB) (Fv_sb : Fld Z h0 sb cA "value" "[B" (.ref t)) (Fc_sb : Fld Z h0 sb cA "coder" "B" (.int cd)) (Fn_sb : Fld Z h0 sb cA "count" "I" (.int (Int32.ofNat cs.length))) (Fm_sb : Fld Z h0 sb cA "maybeLatin1" "Z" i0) (V_t : Arv Z h0 t kb .byte zb vs i0) (E_xs : Exa Z h0 xs cS) (Fv_xs : Fld Z h0 xs cS "value" "[B" u1) (Fc_xs : Fld Z h0 xs cS "coder" "B" u2) (g_xs : n0 ≤ xs) (ne_xs_sb : xs ≠ sb) (ne_t_xs : t ≠ xs) (Sc : SU4 Z G1) (hz : ¬ G1 = 0) (Sa : SU1 Z) (Sh : SU2 Z) (Sl : SU3 Z) (Sf : SU5 Z Gf) (rGf : Gf.isRef = true) (OL : Old Z n0 h0) (hbb : BB cd zb vs cs) (hlc : cs.length ≤ 15) :
  MetP l Z mn_51 k51_ 2 none (rr 4 1 32 65) ws #[(.ref xs), (.ref sb)] h0 (Q_sInitA Z xs sb t kb cd zb vs cs u1 u2 G1 Gf h0 n0) := by
 refine begH n0 cS rfl (plainFor_of_name pn_2) fun p e s m below meth c s₁ s0 hrt hlk hZ hx hby hml hown hnm X0 e0 N0 P0 => ?_
 replace P0 : PP p e below s₁ (mkF m 0 #[rv xs, rv sb] []) s0 := castPP (ef_21 m xs sb) P0
 have P1 := P0.bt X0 hx hby b196_ rfl
 obtain ⟨_, T2, L2, X2, hQ2, P2⟩ := cIn P1 X0 hx hZ hown hw e0 hml 234 235 236 2 (rm_sInitA hw xs sb t kb cd zb vs cs u1 u2 G1 Gf Z0 E_sb Fv_sb Fc_sb Fn_sb Fm_sb V_t E_xs Fv_xs Fc_xs g_xs ne_xs_sb ne_t_xs Sc hz Sa Sh Sl Sf rGf OL hbb hlc) rfl rfl rfl rfl rfl rfl rfl [(.ref sb), .null] [] 0 (lenOf pd_32 rfl) rfl (Nat.le_of_eq rfl) (hb hby d51_3) rfl (by decide)
 obtain ⟨ts_2, ks_2, ce_2, ze_2, wv_2, rfl, N2q, Kc2, po2_0, po2_1, po2_2, po2_3, po2_4, po2_5⟩ := hQ2
 have N2 := Fr.app N0 N2q
 obtain ⟨Lf3, X2, N3⟩ := fixL X2 N2 1 32 rfl rfl
 have sz_ts_2 : h0.size ≤ ts_2 := Nat.le_trans (Nat.le_refl h0.size) po2_0
 have K2 := Kt1 (Keep.refl h0 [xs]) Kc2 (Or.inl (mi 0))
 have E_xs := po2_1
 have Fv_xs := po2_2
 have Fc_xs := po2_3
 have V_ts_2 := po2_4
 have hkb_2 := po2_5
 exact endV 6 #[rv xs, rv sb] X2 hx hrt hlk P2 (hb hby d51_6) rfl (by decide) (by decide) (show Q_sInitA Z xs sb t kb cd zb vs cs u1 u2 G1 Gf h0 n0 _ _ _ from ⟨ts_2, ks_2, ce_2, ze_2, wv_2, rfl, N3, K2, sz_ts_2, E_xs, Fv_xs, Fc_xs, V_ts_2, hkb_2⟩)
abbrev k52_ := jdk_67_method_42_code
theorem d52_0 : decode k52_ 0 = .ok (.new 18, 3) := by decide +kernel
theorem b197_ : dl k52_ 3 [(.dup, 1), (.aload_n 0, 1)] = true := by decide +kernel
theorem pd_33 : parseMethodDescriptor "(Ljava/lang/StringBuilder;)V" = some ⟨[(.object "java/lang/StringBuilder")], none⟩ := by decide +kernel
theorem d52_5 : decode k52_ 5 = .ok (.invokespecial 137, 3) := by decide +kernel
theorem d52_8 : decode k52_ 8 = .ok (.areturn, 1) := by decide +kernel
def Q_sbStr (Z : State) (sb t : Addr) (kb : ClassId) (cd zb : Int32) (vs : List Value) (cs : List Int32) (G1 : Int32) (Gf : Value) : QT := fun h0 n0 v h L => ∃ (xs : Addr) (ts : Addr) (ks : ClassId) (ce : Int32) (ze : Int32) (wv : List Value), v = some (.ref xs) ∧ Fr n0 L ∧ Keep h0 h [] ∧ (h0.size ≤ xs) ∧ (h0.size ≤ ts) ∧ (Exa Z h xs cS) ∧ (Fld Z h xs cS "value" "[B" (.ref ts)) ∧ (Fld Z h xs cS "coder" "B" (.int ce)) ∧ (Arv Z h ts ks .byte ze wv i0) ∧ (KB ce ze wv cs)
abbrev mn_52 : MethodName := ⟨"java/lang/StringBuilder", "toString", "()Ljava/lang/String;"⟩
theorem rm_sbStr (hw : HW a0 Z) (sb t : Addr) (kb : ClassId) (cd zb : Int32) (vs : List Value) (cs : List Int32) (G1 : Int32) (Gf : Value) (Z0 : n0 ≤ h0.size) (E_sb : Exa Z h0 sb cB) (Fv_sb : Fld Z h0 sb cA "value" "[B" (.ref t)) (Fc_sb : Fld Z h0 sb cA "coder" "B" (.int cd)) (Fn_sb : Fld Z h0 sb cA "count" "I" (.int (Int32.ofNat cs.length))) (Fm_sb : Fld Z h0 sb cA "maybeLatin1" "Z" i0) (V_t : Arv Z h0 t kb .byte zb vs i0) (Sc : SU4 Z G1) (hz : ¬ G1 = 0) (Sa : SU1 Z) (Sh : SU2 Z) (Sl : SU3 Z) (Sf : SU5 Z Gf) (rGf : Gf.isRef = true) (OL : Old Z n0 h0) (hbb : BB cd zb vs cs) (hlc : cs.length ≤ 15) :
  MetP l Z mn_52 k52_ 1 (some (.object cS)) (rr 5 2 36 79) ws #[(.ref sb)] h0 (Q_sbStr Z sb t kb cd zb vs cs G1 Gf h0 n0) := by
 refine begH n0 cB rfl (plainFor_of_name pn_6) fun p e s m below meth c s₁ s0 hrt hlk hZ hx hby hml hown hnm X0 e0 N0 P0 => ?_
 replace P0 : PP p e below s₁ (mkF m 0 #[rv sb] []) s0 := castPP (ef_4 m sb) P0
 obtain ⟨T1, h1, X1, e1, E1, A1, D1, -, st1⟩ := newO X0 hx hZ hown (ww hw 230 rfl) (ww hw 1 rfl) (ww hw 2 rfl) e0 (g := P0.g) rfl (hb hby d52_0) (by decide) (by decide)
 obtain ⟨b1, g1⟩ : ∃ z, z = h0.size := ⟨_, rfl⟩
 rw [← g1] at A1 D1 st1
 have P2 := P0.st st1
 have ne_sb_b1 := neL E_sb.lt (Nat.le_of_eq g1.symm)
 have ne_t_b1 := neL V_t.lt (Nat.le_of_eq g1.symm)
 have sz_b1 : h0.size ≤ b1 := Nat.le_trans (Nat.le_refl h0.size) (Nat.le_of_eq g1.symm)
 replace E_sb := E_sb.ext E1
 replace Fv_sb := Fv_sb.ext E1
 replace Fc_sb := Fc_sb.ext E1
 replace Fn_sb := Fn_sb.ext E1
 replace Fm_sb := Fm_sb.ext E1
 replace V_t := V_t.ext E1
 replace OL := OL.ext E1
 have K1 := (Keep.refl h0 []).ext E1
 obtain ⟨Lf3, X1, N3⟩ := fixL X1 N0 1 4 rfl rfl
 have E_b1 : Exa Z h1 b1 cS := A1
 have Fc_b1 : Fld Z h1 b1 cS "coder" "B" i0 := D1 (Or.inr (ww hw 27 rfl)) (ty := .byte) (by decide)
 have Fv_b1 : Fld Z h1 b1 cS "value" "[B" .null := D1 (Or.inr (ww hw 29 rfl)) (ty := (.array .byte)) (by decide)
 have P4 := P2.bt X1 hx hby b197_ rfl
 obtain ⟨_, T5, L5, X5, hQ5, P5⟩ := cIn P4 X1 hx hZ hown hw e1 hml 231 232 233 2 (rm_sInitB hw b1 sb t kb cd zb vs cs .null i0 G1 Gf (zT Z0 K1.1) E_sb Fv_sb Fc_sb Fn_sb Fm_sb V_t E_b1 Fv_b1 Fc_b1 (Nat.le_trans Z0 sz_b1) (Ne.symm ne_sb_b1) ne_t_b1 Sc hz Sa Sh Sl Sf rGf OL hbb hlc) rfl rfl rfl rfl rfl rfl rfl [(.ref sb)] [(.ref b1)] 1 (lenOf pd_33 rfl) rfl (Nat.le_of_eq rfl) (hb hby d52_5) rfl (by decide)
 obtain ⟨ts_5, ks_5, ce_5, ze_5, wv_5, rfl, N5q, Kc5, po5_0, po5_1, po5_2, po5_3, po5_4, po5_5⟩ := hQ5
 have N5 := Fr.app N3 N5q
 obtain ⟨Lf6, X5, N6⟩ := fixL X5 N5 2 36 rfl rfl
 have sz_ts_5 : h0.size ≤ ts_5 := Nat.le_trans K1.1 po5_0
 have K5 := Kt1 K1 Kc5 (Or.inr sz_b1)
 have E_b1 := po5_1
 have Fv_b1 := po5_2
 have Fc_b1 := po5_3
 have V_ts_5 := po5_4
 have hkb_5 := po5_5
 exact endA 8 #[rv sb] (rest := []) X5 hx hrt rfl hlk P5 (hb hby d52_8) rfl (by decide) (by decide) (show Q_sbStr Z sb t kb cd zb vs cs G1 Gf h0 n0 _ _ _ from ⟨b1, ts_5, ks_5, ce_5, ze_5, wv_5, rfl, N6, K5, sz_b1, sz_ts_5, E_b1, Fv_b1, Fc_b1, V_ts_5, hkb_5⟩)
theorem pn_7 : plainName "java/util/AbstractCollection" = true := by first | (simp [plainName, overriddenIn]; done) | decide +kernel
abbrev k53_ := jdk_22_method_1_code
theorem b198_ : dl k53_ 0 [(.aload_n 0, 1)] = true := by decide +kernel
theorem d53_1 : decode k53_ 1 = .ok (.invokespecial 1, 3) := by decide +kernel
theorem d53_4 : decode k53_ 4 = .ok (.return_, 1) := by decide +kernel
def Q_acInit (Z : State) (ob : Addr) : QT := fun h0 n0 v h L => v = none ∧ Fr n0 L ∧ h = h0
abbrev mn_53 : MethodName := ⟨"java/util/AbstractCollection", "<init>", "()V"⟩
theorem rm_acInit (hw : HW a0 Z) (ob : Addr) (Z0 : n0 ≤ h0.size) :
  MetP l Z mn_53 k53_ 1 none (rr 1 0 0 12) ws #[(.ref ob)] h0 (Q_acInit Z ob h0 n0) := by
 refine begH n0 "java/util/AbstractCollection" rfl (plainFor_of_name pn_7) fun p e s m below meth c s₁ s0 hrt hlk hZ hx hby hml hown hnm X0 e0 N0 P0 => ?_
 replace P0 : PP p e below s₁ (mkF m 0 #[rv ob] []) s0 := castPP (ef_4 m ob) P0
 have P1 := P0.bt X0 hx hby b198_ rfl
 obtain ⟨T2, X2, e2, st2⟩ := initO X0 hx hZ hown (ww hw 48 rfl) (ww hw 12 rfl) (ww hw 13 rfl) e0 (g := P1.g) rfl (by rw [hml]; rfl) rfl (hb hby d53_1) (by decide) (W := 0) (by show 2 * 0 + _ ≤ _; exact Nat.le_of_eq rfl) (by decide)
 have P3 := P1.st st2
 exact endV 4 #[rv ob] X2 hx hrt hlk P3 (hb hby d53_4) e2 (by decide) (by decide) (show Q_acInit Z ob h0 n0 _ _ _ from ⟨rfl, N0, rfl⟩)
theorem pn_8 : plainName "java/util/AbstractList" = true := by first | (simp [plainName, overriddenIn]; done) | decide +kernel
abbrev k54_ := jdk_39_method_1_code
theorem b199_ : dl k54_ 0 [(.aload_n 0, 1)] = true := by decide +kernel
theorem d54_1 : decode k54_ 1 = .ok (.invokespecial 1, 3) := by decide +kernel
theorem b200_ : dl k54_ 4 [(.aload_n 0, 1), (.iconst 0, 1)] = true := by decide +kernel
theorem d54_6 : decode k54_ 6 = .ok (.putfield 7, 3) := by decide +kernel
theorem d54_9 : decode k54_ 9 = .ok (.return_, 1) := by decide +kernel
def Q_ablInit (Z : State) (al : Addr) (m0 : Int32) (u1 : Value) : QT := fun h0 n0 v h L => v = none ∧ Fr n0 L ∧ Keep h0 h [al] ∧ (Exa Z h al cAL) ∧ (Fld Z h al cAL "elementData" dOA u1) ∧ (Fld Z h al cAL "size" "I" i0) ∧ (Fld Z h al cAb "modCount" "I" i0)
abbrev mn_54 : MethodName := ⟨"java/util/AbstractList", "<init>", "()V"⟩
theorem rm_ablInit (hw : HW a0 Z) (al : Addr) (m0 : Int32) (u1 : Value) (Z0 : n0 ≤ h0.size) (E_al : Exa Z h0 al cAL) (Fe_al : Fld Z h0 al cAL "elementData" dOA u1) (Fz_al : Fld Z h0 al cAL "size" "I" i0) (Fd_al : Fld Z h0 al cAb "modCount" "I" (.int m0)) (g_al : n0 ≤ al) :
  MetP l Z mn_54 k54_ 1 none (rr 2 0 0 24) ws #[(.ref al)] h0 (Q_ablInit Z al m0 u1 h0 n0) := by
 refine begH n0 cAb rfl (plainFor_of_name pn_8) fun p e s m below meth c s₁ s0 hrt hlk hZ hx hby hml hown hnm X0 e0 N0 P0 => ?_
 replace P0 : PP p e below s₁ (mkF m 0 #[rv al] []) s0 := castPP (ef_4 m al) P0
 have P1 := P0.bt X0 hx hby b199_ rfl
 obtain ⟨_, T2, L2, X2, hQ2, P2⟩ := cIn P1 X0 hx hZ hown hw e0 hml 42 43 47 46 (rm_acInit hw al Z0) rfl rfl rfl rfl rfl rfl rfl [] [] 0 (lenOf pd_24 rfl) rfl (Nat.le_of_eq rfl) (hb hby d54_1) rfl (by decide)
 obtain ⟨rfl, N2q, e2⟩ := hQ2
 have N2 := Fr.app N0 N2q
 have P3 : PP p e below T2 (mkF m 6 #[rv al] [i0, (.ref al)]) s0 := fun q_ k_ => P2 q_ (by
  exact bt X2 hx hby b200_ rfl k_)
 obtain ⟨T4, h4, X4, e4, W4, st4⟩ := putF X2 hx hZ hown (host := "") (Or.inl (ww hw 49 rfl)) Via.refl e2 Fd_al E_al (Or.inl (ww hw 50 rfl)) (ww hw 31 rfl) (ty := .int) (by decide) rfl rfl (g := P3.g) rfl rfl (hb hby d54_6)
 have P5 := P3.st st4
 have N4 := Fr.snoc X4 N2 g_al
 have K4 := (Keep.refl h0 [al]).wr W4 (Or.inl (mi 0))
 replace E_al := E_al.wr W4
 replace Fe_al := Fe_al.other W4 (Or.inr (slot_ne (Or.inl (ww hw 53 rfl)) (Or.inl (ww hw 50 rfl)) (by decide) (t := (.array tOb)) (t' := .int) (by decide) (by decide)))
 replace Fz_al := Fz_al.other W4 (Or.inr (slot_ne (Or.inl (ww hw 87 rfl)) (Or.inl (ww hw 50 rfl)) (by decide) (t := .int) (t' := .int) (by decide) (by decide)))
 replace Fd_al : Fld Z h4 al cAb "modCount" "I" i0 := Fd_al.same W4
 exact endV 9 #[rv al] X4 hx hrt hlk P5 (hb hby d54_9) e4 (by decide) (by decide) (show Q_ablInit Z al m0 u1 h0 n0 _ _ _ from ⟨rfl, N4, K4, E_al, Fe_al, Fz_al, Fd_al⟩)
theorem pn_9 : plainName "java/util/ArrayList" = true := by first | (simp [plainName, overriddenIn]; done) | decide +kernel
abbrev k55_ := jdk_38_method_2_code
theorem b201_ : dl k55_ 0 [(.aload_n 0, 1)] = true := by decide +kernel
theorem d55_1 : decode k55_ 1 = .ok (.invokespecial 1, 3) := by decide +kernel
theorem b202_ : dl k55_ 4 [(.aload_n 0, 1)] = true := by decide +kernel
theorem d55_5 : decode k55_ 5 = .ok (.getstatic 39, 3) := by decide +kernel
theorem d55_8 : decode k55_ 8 = .ok (.putfield 9, 3) := by decide +kernel
theorem d55_11 : decode k55_ 11 = .ok (.return_, 1) := by decide +kernel
def Q_alInit (Z : State) (al de : Addr) (m0 : Int32) (u1 : Value) : QT := fun h0 n0 v h L => v = none ∧ Fr n0 L ∧ Keep h0 h [al] ∧ (Exa Z h al cAL) ∧ (Fld Z h al cAL "elementData" dOA (.ref de)) ∧ (Fld Z h al cAL "size" "I" i0) ∧ (Fld Z h al cAb "modCount" "I" i0)
abbrev mn_55 : MethodName := ⟨"java/util/ArrayList", "<init>", "()V"⟩
theorem rm_alInit (hw : HW a0 Z) (al de : Addr) (m0 : Int32) (u1 : Value) (Z0 : n0 ≤ h0.size) (E_al : Exa Z h0 al cAL) (Fe_al : Fld Z h0 al cAL "elementData" dOA u1) (Fz_al : Fld Z h0 al cAL "size" "I" i0) (Fd_al : Fld Z h0 al cAb "modCount" "I" (.int m0)) (g_al : n0 ≤ al) (Sd : SU7 Z de) (OL : Old Z n0 h0) :
  MetP l Z mn_55 k55_ 1 none (rr 3 0 0 36) ws #[(.ref al)] h0 (Q_alInit Z al de m0 u1 h0 n0) := by
 refine begH n0 cAL rfl (plainFor_of_name pn_9) fun p e s m below meth c s₁ s0 hrt hlk hZ hx hby hml hown hnm X0 e0 N0 P0 => ?_
 replace P0 : PP p e below s₁ (mkF m 0 #[rv al] []) s0 := castPP (ef_4 m al) P0
 have P1 := P0.bt X0 hx hby b201_ rfl
 obtain ⟨_, T2, L2, X2, hQ2, P2⟩ := cIn P1 X0 hx hZ hown hw e0 hml 36 37 41 40 (rm_ablInit hw al m0 u1 Z0 E_al Fe_al Fz_al Fd_al g_al) rfl rfl rfl rfl rfl rfl rfl [] [] 0 (lenOf pd_24 rfl) rfl (Nat.le_of_eq rfl) (hb hby d55_1) rfl (by decide)
 obtain ⟨rfl, N2q, Kc2, po2_0, po2_1, po2_2, po2_3⟩ := hQ2
 have N2 := Fr.app N0 N2q
 obtain ⟨Lf3, X2, N3⟩ := fixL X2 N2 0 0 rfl rfl
 replace OL := OL.keep Kc2 (allS g_al all0)
 have K2 := Kt1 (Keep.refl h0 [al]) Kc2 (Or.inl (mi 0))
 have E_al := po2_0
 have Fe_al := po2_1
 have Fz_al := po2_2
 have Fd_al := po2_3
 have P4 : PP p e below T2 (mkF m 5 #[rv al] [(.ref al)]) s0 := fun q_ k_ => P2 q_ (by
  exact bt X2 hx hby b202_ rfl k_)
 obtain ⟨T5, X5, e5, P5⟩ := gS P4 X2 hx hZ hown hw 51 rfl (Sd.ext OL.2) (hb hby d55_5)
 obtain ⟨T6, h6, X6, e6, W6, st6⟩ := putF X5 hx hZ hown (host := "") (Or.inl (ww hw 52 rfl)) Via.refl e5 Fe_al E_al (Or.inl (ww hw 53 rfl)) (ww hw 31 rfl) (ty := (.array tOb)) (by decide) rfl rfl (g := P5.g) rfl rfl (hb hby d55_8)
 have P7 := P5.st st6
 have N6 := Fr.snoc X6 N3 g_al
 have K6 := K2.wr W6 (Or.inl (mi 0))
 replace E_al := E_al.wr W6
 replace Fe_al : Fld Z h6 al cAL "elementData" dOA (.ref de) := Fe_al.same W6
 replace Fz_al := Fz_al.other W6 (Or.inr (slot_ne (Or.inl (ww hw 87 rfl)) (Or.inl (ww hw 53 rfl)) (by decide) (t := .int) (t' := (.array tOb)) (by decide) (by decide)))
 replace Fd_al := Fd_al.other W6 (Or.inr (slot_ne (Or.inl (ww hw 50 rfl)) (Or.inl (ww hw 53 rfl)) (by decide) (t := .int) (t' := (.array tOb)) (by decide) (by decide)))
 exact endV 11 #[rv al] X6 hx hrt hlk P7 (hb hby d55_11) e6 (by decide) (by decide) (show Q_alInit Z al de m0 u1 h0 n0 _ _ _ from ⟨rfl, N6, K6, E_al, Fe_al, Fz_al, Fd_al⟩)
theorem ef_34 (m : MethodId)  : entryFrame m #[(.int 10), (.int 1)] 2 = mkF m 0 #[.val (.int 10), .val (.int 1)] [] := by first | (simp [entryFrame, mkF, argsToLocals, Value.category]; done) | rfl
abbrev k56_ := jdk_29_method_65_code
theorem d56_2 : decode k56_ 2 = .ok (.if_icmp .lt 7, 3) := by decide +kernel
theorem b203_ : dl k56_ 0 [(.iload_n 0, 1), (.iload_n 1, 1)] = true := by decide +kernel
theorem b204_ : dl k56_ 5 [(.iload_n 0, 1), (.goto 4, 3)] = true := by decide +kernel
theorem d56_10 : decode k56_ 10 = .ok (.ireturn, 1) := by decide +kernel
def Q_mMax (Z : State) : QT := fun h0 n0 v h L => v = some (.int 10) ∧ Fr n0 L ∧ h = h0
abbrev mn_56 : MethodName := ⟨"java/lang/Math", "max", "(II)I"⟩
theorem rm_mMax (hw : HW a0 Z) (Z0 : n0 ≤ h0.size) :
  MetP l Z mn_56 k56_ 2 (some .int) (rr 0 0 0 0) ws #[(.int 10), (.int 1)] h0 (Q_mMax Z h0 n0) := by
 refine begH n0 "java/lang/Math" rfl (by decide +kernel) fun p e s m below meth c s₁ s0 hrt hlk hZ hx hby hml hown hnm X0 e0 N0 P0 => ?_
 replace P0 : PP p e below s₁ (mkF m 0 #[iv 10, iv 1] []) s0 := castPP (ef_34 m ) P0
 have P1 : PP p e below s₁ (mkF m 10 #[iv 10, iv 1] [(.int 10)]) s0 := fun q_ k_ => P0 q_ (by
  refine bt X0 hx hby b203_ rfl ?_
  refine XS.icmpNo X0.here hx rfl (hb hby d56_2) rfl (flt ((by decide) : ¬ ((10 : Int32) < (1 : Int32)))).1 ?_
  exact bt X0 hx hby b204_ rfl k_)
 exact endI 10 #[iv 10, iv 1] (rest := []) X0 hx hrt hlk P1 (hb hby d56_10) e0 (by decide) (by decide) (show Q_mMax Z h0 n0 _ _ _ from ⟨rfl, N0, rfl⟩)
theorem ef_35 (m : MethodId) (x0 : Addr) : entryFrame m #[(.ref x0), (.int 1)] 4 = mkF m 0 #[.val (.ref x0), .val (.int 1), .unset, .unset] [] := by first | (simp [entryFrame, mkF, argsToLocals, Value.category]; done) | rfl
abbrev k57_ := jdk_38_method_6_code
theorem b205_ : dl k57_ 0 [(.aload_n 0, 1)] = true := by decide +kernel
theorem d57_1 : decode k57_ 1 = .ok (.getfield 9, 3) := by decide +kernel
theorem d57_4 : decode k57_ 4 = .ok (.arraylength, 1) := by decide +kernel
theorem d57_7 : decode k57_ 7 = .ok (.ifCond .gt 13, 3) := by decide +kernel
theorem b206_ : dl k57_ 5 [(.istore_n 2, 1), (.iload_n 2, 1)] = true := by decide +kernel
theorem b207_ : dl k57_ 10 [(.aload_n 0, 1)] = true := by decide +kernel
theorem d57_11 : decode k57_ 11 = .ok (.getfield 9, 3) := by decide +kernel
theorem d57_14 : decode k57_ 14 = .ok (.getstatic 39, 3) := by decide +kernel
theorem d57_17 : decode k57_ 17 = .ok (.if_acmp .eq 28, 3) := by decide +kernel
theorem b208_ : dl k57_ 45 [(.aload_n 0, 1), (.bipush 10, 2), (.iload_n 1, 1)] = true := by decide +kernel
theorem d57_49 : decode k57_ 49 = .ok (.invokestatic 79, 3) := by decide +kernel
theorem d57_52 : decode k57_ 52 = .ok (.anewarray 7, 3) := by decide +kernel
theorem d57_55 : decode k57_ 55 = .ok (.dup_x1, 1) := by decide +kernel
theorem d57_56 : decode k57_ 56 = .ok (.putfield 9, 3) := by decide +kernel
theorem d57_59 : decode k57_ 59 = .ok (.areturn, 1) := by decide +kernel
def Q_growI (Z : State) (al : Addr) (m1 : Int32) (de : Addr) (kde : ClassId) : QT := fun h0 n0 v h L => ∃ (ed : Addr) (ked : ClassId), v = some (.ref ed) ∧ Fr n0 L ∧ Keep h0 h [al] ∧ (h0.size ≤ ed) ∧ (Arv Z h ed ked tOb (10 : Int32) [.null, .null, .null, .null, .null, .null, .null, .null, .null, .null] .null) ∧ (Exa Z h ed dOA) ∧ (Ovr Z ked "java/lang/Object") ∧ (Exa Z h al cAL) ∧ (Fld Z h al cAL "elementData" dOA (.ref ed)) ∧ (Fld Z h al cAL "size" "I" i0) ∧ (Fld Z h al cAb "modCount" "I" (.int m1)) ∧ (al ≠ ed)
abbrev mn_57 : MethodName := ⟨"java/util/ArrayList", "grow", "(I)[Ljava/lang/Object;"⟩
theorem rm_growI (hw : HW a0 Z) (al : Addr) (m1 : Int32) (de : Addr) (kde : ClassId) (Z0 : n0 ≤ h0.size) (E_al : Exa Z h0 al cAL) (Fe_al : Fld Z h0 al cAL "elementData" dOA (.ref de)) (Fz_al : Fld Z h0 al cAL "size" "I" i0) (Fd_al : Fld Z h0 al cAb "modCount" "I" (.int m1)) (g_al : n0 ≤ al) (Sd : SU7 Z de) (VDE : Arv Z Z.heap de kde tOb (0 : Int32) [] .null) (OL : Old Z n0 h0) :
  MetP l Z mn_57 k57_ 4 (some (.array tOb)) (rr 1 1 10 14) ws #[(.ref al), (.int 1)] h0 (Q_growI Z al m1 de kde h0 n0) := by
 refine begH n0 cAL rfl (plainFor_of_name pn_9) fun p e s m below meth c s₁ s0 hrt hlk hZ hx hby hml hown hnm X0 e0 N0 P0 => ?_
 replace P0 : PP p e below s₁ (mkF m 0 #[rv al, iv 1, .unset, .unset] []) s0 := castPP (ef_35 m al) P0
 have V_de : Arv Z h0 de kde tOb (0 : Int32) [] .null := VDE.ext OL.2
 have P1 := P0.bt X0 hx hby b205_ rfl
 obtain ⟨T2, X2, e2, P2⟩ := gF P1 X0 hx hZ hown hw 52 e0 Fe_al (hb hby d57_1)
 obtain ⟨cl3, Ar3, -, S3, M3, -, -⟩ := id V_de
 have P4 : PP p e below T2 (mkF m 5 #[rv al, iv 1, .unset, .unset] [i0]) s0 := fun q_ k_ => P2 q_ (by
  refine X2.arraylength hx (by rw [e2]; exact Ar3.1) (State.isArrayOf_alike hZ.alike Ar3.2.1) (g := P2.g) rfl rfl (hb hby d57_4) _ ?_
  rw [len_of S3 M3]
  exact k_)
 have P5 : PP p e below T2 (mkF m 11 #[rv al, iv 1, iv 0, .unset] [(.ref al)]) s0 := fun q_ k_ => P4 q_ (by
  refine bt X2 hx hby b206_ rfl ?_
  refine XS.ifNo X2.here hx rfl (hb hby d57_7) rfl ((if0 _ _).trans (flt ((by decide) : ¬ ((0 : Int32) < (0 : Int32)))).2.2.1) ?_
  exact bt X2 hx hby b207_ rfl k_)
 obtain ⟨T6, X6, e6, P6⟩ := gF P5 X2 hx hZ hown hw 52 e2 Fe_al (hb hby d57_11)
 obtain ⟨T7, X7, e7, P7⟩ := gS P6 X6 hx hZ hown hw 51 e6 (Sd.ext OL.2) (hb hby d57_14)
 have P8 : PP p e below T7 (mkF m 49 #[rv al, iv 1, iv 0, .unset] [(.int 1), (.int 10), (.ref al)]) s0 := fun q_ k_ => P7 q_ (by
  refine Jvm.RoadKit.acmp X7 hx rfl rfl rfl (pc0 := 17) (pc' := 45) (same := true) rfl (hb hby d57_17) rfl (decide_eq_true rfl) (by decide) (by decide) ?_
  exact bt X7 hx hby b208_ rfl k_)
 obtain ⟨_, T9, L9, X9, hQ9, P9⟩ := cSt P8 X7 hx hZ hown hw e7 hml 333 334 267 335 (rm_mMax hw Z0) rfl rfl rfl rfl rfl rfl [(.int 10), (.int 1)] [(.ref al)] 1 (lenOf pd_21 rfl) rfl (Nat.le_of_eq rfl) (hb hby d57_49) rfl (by decide)
 obtain ⟨rfl, N9q, e9⟩ := hQ9
 have N9 := Fr.app N0 N9q
 obtain ⟨T10, h10, k10, X10, e10, E10, A10, B10, O10, st10⟩ := newRE X9 hx hZ hown (ww hw 336 rfl) (ww hw 337 rfl) e9 (g := P9.g) rfl (hb hby d57_52) rfl (by decide) (cap := 10) (by decide) (by decide) (by decide) (by decide) (ad := dOA) (by first | rfl | decide +kernel)
 obtain ⟨b10, g10⟩ : ∃ z, z = h0.size := ⟨_, rfl⟩
 rw [← g10] at A10 B10 st10
 have P11 := P9.st st10
 have ne_al_b10 := neL E_al.lt (Nat.le_of_eq g10.symm)
 have sz_b10 : h0.size ≤ b10 := Nat.le_trans (Nat.le_refl h0.size) (Nat.le_of_eq g10.symm)
 replace E_al := E_al.ext E10
 replace Fe_al := Fe_al.ext E10
 replace Fz_al := Fz_al.ext E10
 replace Fd_al := Fd_al.ext E10
 have K10 := (Keep.refl h0 [al]).ext E10
 obtain ⟨Lf12, X10, N12⟩ := fixL X10 N9 1 10 rfl rfl
 have V_b10 : Arv Z h10 b10 k10 tOb (10 : Int32) [.null, .null, .null, .null, .null, .null, .null, .null, .null, .null] .null := (Arv.new A10 (by decide)).pad (pad_rep [] .null 10)
 have E_b10 : Exa Z h10 b10 dOA := B10
 have P13 : PP p e below T10 (mkF m 56 #[rv al, iv 1, iv 0, .unset] [(.ref b10), (.ref al), (.ref b10)]) s0 := fun q_ k_ => P11 q_ (by
  exact XS.dupX1 X10.here hx rfl (hb hby d57_55) rfl rfl rfl k_)
 obtain ⟨T14, h14, X14, e14, W14, st14⟩ := putF X10 hx hZ hown (host := "") (Or.inl (ww hw 52 rfl)) Via.refl e10 Fe_al E_al (Or.inl (ww hw 53 rfl)) (ww hw 31 rfl) (ty := (.array tOb)) (by decide) rfl rfl (g := P13.g) rfl rfl (hb hby d57_56)
 have P15 := P13.st st14
 have N14 := Fr.snoc X14 N12 g_al
 have K14 := K10.wr W14 (Or.inl (mi 0))
 replace E_al := E_al.wr W14
 replace Fe_al : Fld Z h14 al cAL "elementData" dOA (.ref b10) := Fe_al.same W14
 replace Fz_al := Fz_al.other W14 (Or.inr (slot_ne (Or.inl (ww hw 87 rfl)) (Or.inl (ww hw 53 rfl)) (by decide) (t := .int) (t' := (.array tOb)) (by decide) (by decide)))
 replace Fd_al := Fd_al.other W14 (Or.inr (slot_ne (Or.inl (ww hw 50 rfl)) (Or.inl (ww hw 53 rfl)) (by decide) (t := .int) (t' := (.array tOb)) (by decide) (by decide)))
 replace V_b10 := V_b10.other W14 (Ne.symm ne_al_b10)
 replace E_b10 := E_b10.wr W14
 exact endA 59 #[rv al, iv 1, iv 0, .unset] (rest := []) X14 hx hrt rfl hlk P15 (hb hby d57_59) e14 (by decide) (by decide) (show Q_growI Z al m1 de kde h0 n0 _ _ _ from ⟨b10, k10, rfl, N14, K14, sz_b10, V_b10, E_b10, O10, E_al, Fe_al, Fz_al, Fd_al, ne_al_b10⟩)
abbrev k58_ := jdk_38_method_7_code
theorem b209_ : dl k58_ 0 [(.aload_n 0, 1), (.aload_n 0, 1)] = true := by decide +kernel
theorem d58_2 : decode k58_ 2 = .ok (.getfield 48, 3) := by decide +kernel
theorem b210_ : dl k58_ 5 [(.iconst 1, 1), (.iadd, 1)] = true := by decide +kernel
theorem pd_34 : parseMethodDescriptor "(I)[Ljava/lang/Object;" = some ⟨[.int], some (.array (.object "java/lang/Object"))⟩ := by decide +kernel
theorem d58_7 : decode k58_ 7 = .ok (.invokevirtual 69, 3) := by decide +kernel
theorem d58_10 : decode k58_ 10 = .ok (.areturn, 1) := by decide +kernel
abbrev mn_58 : MethodName := ⟨"java/util/ArrayList", "grow", "()[Ljava/lang/Object;"⟩
theorem rm_grow0 (hw : HW a0 Z) (al : Addr) (m1 : Int32) (de : Addr) (kde : ClassId) (Z0 : n0 ≤ h0.size) (E_al : Exa Z h0 al cAL) (Fe_al : Fld Z h0 al cAL "elementData" dOA (.ref de)) (Fz_al : Fld Z h0 al cAL "size" "I" i0) (Fd_al : Fld Z h0 al cAb "modCount" "I" (.int m1)) (g_al : n0 ≤ al) (Sd : SU7 Z de) (VDE : Arv Z Z.heap de kde tOb (0 : Int32) [] .null) (OL : Old Z n0 h0) :
  MetP l Z mn_58 k58_ 1 (some (.array tOb)) (rr 2 1 10 29) ws #[(.ref al)] h0 (Q_growI Z al m1 de kde h0 n0) := by
 refine begH n0 cAL rfl (plainFor_of_name pn_9) fun p e s m below meth c s₁ s0 hrt hlk hZ hx hby hml hown hnm X0 e0 N0 P0 => ?_
 replace P0 : PP p e below s₁ (mkF m 0 #[rv al] []) s0 := castPP (ef_4 m al) P0
 have P1 := P0.bt X0 hx hby b209_ rfl
 obtain ⟨T2, X2, e2, P2⟩ := gF P1 X0 hx hZ hown hw 86 e0 Fz_al (hb hby d58_2)
 have P3 : PP p e below T2 (mkF m 7 #[rv al] [(.int 1), (.ref al)]) s0 := fun q_ k_ => P2 q_ (by
  exact bt X2 hx hby b210_ rfl k_)
 obtain ⟨cq4, q4, q4'⟩ := E_al.cell
 obtain ⟨_, _, ⟨T4, L4, k4, n4⟩, -, X4, ⟨Lc4, hQ4, l4, y4, z4⟩, st4⟩ := X2.privateBack hx (y := mn_57) hown (mw hZ hw 328 rfl) (mw hZ hw 329 rfl) (mw hZ hw 331 rfl) (Cond.privateMethod_at (mvP hZ (ww hw 330 rfl) (args := #[]))) (mw hZ hw 332 rfl) (by decide) (backOf (W := 0) (rm_growI hw al m1 de kde Z0 E_al Fe_al Fz_al Fd_al g_al Sd VDE OL) hZ (ww hw 332 rfl) (ww hw 32 rfl) (by decide) (by decide)) (g := P3.g) rfl (by rw [hml]; rfl) (Steps.refl _) (a := al) (by rw [e2]; exact q4) q4' (argsL := [(.int 1)]) (rest := []) (lenOf pd_34 rfl) rfl (by show 2 * 0 + _ ≤ _; exact Nat.le_of_eq rfl) (hb hby d58_7) (fun _ _ => ⟨rfl, e2, (by decide : 0 + 1 ≤ _), (by decide : 0 + 10 ≤ _)⟩)
 dsimp only [Pt.U, Pt.locs, Pt.cells, Pt.slots] at X4 l4 y4 z4 st4 hQ4
 subst l4 y4 z4
 obtain ⟨ed_4, ked_4, rfl, N4q, Kc4, po4_0, po4_1, po4_2, po4_3, po4_4, po4_5, po4_6, po4_7, po4_8⟩ := hQ4
 have N4 := Fr.app N0 N4q
 obtain ⟨Lf5, X4, N5⟩ := fixL X4 N4 1 10 rfl rfl
 have P6 := P3.tr st4
 have sz_ed_4 : h0.size ≤ ed_4 := Nat.le_trans (Nat.le_refl h0.size) po4_0
 have K4 := Kt1 (Keep.refl h0 [al]) Kc4 (Or.inl (mi 0))
 have V_ed_4 := po4_1
 have E_ed_4 := po4_2
 have ovd_4 := po4_3
 have E_al := po4_4
 have Fe_al := po4_5
 have Fz_al := po4_6
 have Fd_al := po4_7
 exact endA 10 #[rv al] (rest := []) X4 hx hrt rfl hlk P6 (hb hby d58_10) rfl (by decide) (by decide) (show Q_growI Z al m1 de kde h0 n0 _ _ _ from ⟨ed_4, ked_4, rfl, N5, K4, sz_ed_4, V_ed_4, E_ed_4, ovd_4, E_al, Fe_al, Fz_al, Fd_al, po4_8⟩)
theorem ef_36 (m : MethodId) (x0 : Addr) (x1 : Addr) (x2 : Addr) : entryFrame m #[(.ref x0), (.ref x1), (.ref x2), (.int 0)] 4 = mkF m 0 #[.val (.ref x0), .val (.ref x1), .val (.ref x2), .val (.int 0)] [] := by first | (simp [entryFrame, mkF, argsToLocals, Value.category]; done) | rfl
abbrev k59_ := jdk_38_method_24_code
theorem b211_ : dl k59_ 0 [(.iload_n 3, 1), (.aload_n 2, 1)] = true := by decide +kernel
theorem d59_2 : decode k59_ 2 = .ok (.arraylength, 1) := by decide +kernel
theorem d59_3 : decode k59_ 3 = .ok (.if_icmp .ne 8, 3) := by decide +kernel
theorem b212_ : dl k59_ 6 [(.aload_n 0, 1)] = true := by decide +kernel
theorem pd_35 : parseMethodDescriptor "()[Ljava/lang/Object;" = some ⟨[], some (.array (.object "java/lang/Object"))⟩ := by decide +kernel
theorem d59_7 : decode k59_ 7 = .ok (.invokevirtual 129, 3) := by decide +kernel
theorem b213_ : dl k59_ 10 [(.astore_n 2, 1), (.aload_n 2, 1), (.iload_n 3, 1), (.aload_n 1, 1)] = true := by decide +kernel
theorem d59_14 : decode k59_ 14 = .ok (.aastore, 1) := by decide +kernel
theorem b214_ : dl k59_ 15 [(.aload_n 0, 1), (.iload_n 3, 1), (.iconst 1, 1), (.iadd, 1)] = true := by decide +kernel
theorem d59_19 : decode k59_ 19 = .ok (.putfield 48, 3) := by decide +kernel
theorem d59_22 : decode k59_ 22 = .ok (.return_, 1) := by decide +kernel
def Q_add3_0 (Z : State) (al : Addr) (m1 : Int32) (pa de : Addr) (kde : ClassId) : QT := fun h0 n0 v h L => ∃ (ed : Addr) (ked : ClassId), v = none ∧ Fr n0 L ∧ Keep h0 h [al] ∧ (h0.size ≤ ed) ∧ (Arv Z h ed ked tOb (10 : Int32) [(.ref pa), .null, .null, .null, .null, .null, .null, .null, .null, .null] .null) ∧ (Exa Z h ed dOA) ∧ (Ovr Z ked "java/lang/Object") ∧ (Exa Z h al cAL) ∧ (Fld Z h al cAL "elementData" dOA (.ref ed)) ∧ (Fld Z h al cAL "size" "I" (.int 1)) ∧ (Fld Z h al cAb "modCount" "I" (.int m1)) ∧ (al ≠ ed)
abbrev mn_59 : MethodName := ⟨"java/util/ArrayList", "add", "(Ljava/lang/Object;[Ljava/lang/Object;I)V"⟩
theorem rm_add3_0 (hw : HW a0 Z) (al : Addr) (m1 : Int32) (pa de : Addr) (kde : ClassId) (Z0 : n0 ≤ h0.size) (E_al : Exa Z h0 al cAL) (Fe_al : Fld Z h0 al cAL "elementData" dOA (.ref de)) (Fz_al : Fld Z h0 al cAL "size" "I" i0) (Fd_al : Fld Z h0 al cAb "modCount" "I" (.int m1)) (E_pa : Exa Z h0 pa cS) (g_al : n0 ≤ al) (Sd : SU7 Z de) (VDE : Arv Z Z.heap de kde tOb (0 : Int32) [] .null) (OL : Old Z n0 h0) :
  MetP l Z mn_59 k59_ 4 none (rr 3 1 10 41) ws #[(.ref al), (.ref pa), (.ref de), i0] h0 (Q_add3_0 Z al m1 pa de kde h0 n0) := by
 refine begH n0 cAL rfl (plainFor_of_name pn_9) fun p e s m below meth c s₁ s0 hrt hlk hZ hx hby hml hown hnm X0 e0 N0 P0 => ?_
 replace P0 : PP p e below s₁ (mkF m 0 #[rv al, rv pa, rv de, iv 0] []) s0 := castPP (ef_36 m al pa de) P0
 have V_de : Arv Z h0 de kde tOb (0 : Int32) [] .null := VDE.ext OL.2
 have P1 := P0.bt X0 hx hby b211_ rfl
 obtain ⟨cl2, Ar2, -, S2, M2, -, -⟩ := id V_de
 have P3 : PP p e below s₁ (mkF m 3 #[rv al, rv pa, rv de, iv 0] [i0, i0]) s0 := fun q_ k_ => P1 q_ (by
  refine X0.arraylength hx (by rw [e0]; exact Ar2.1) (State.isArrayOf_alike hZ.alike Ar2.2.1) (g := P1.g) rfl rfl (hb hby d59_2) _ ?_
  rw [len_of S2 M2]
  exact k_)
 have P4 : PP p e below s₁ (mkF m 7 #[rv al, rv pa, rv de, iv 0] [(.ref al)]) s0 := fun q_ k_ => P3 q_ (by
  refine XS.icmpNo X0.here hx rfl (hb hby d59_3) rfl (teq ((by decide) : (0 : Int32) = (0 : Int32))).2 ?_
  exact bt X0 hx hby b212_ rfl k_)
 obtain ⟨cq5, q5, q5'⟩ := E_al.cell
 obtain ⟨_, _, ⟨T5, L5, k5, n5⟩, -, X5, ⟨Lc5, hQ5, l5, y5, z5⟩, st5⟩ := X0.privateBack hx (y := mn_58) hown (mw hZ hw 323 rfl) (mw hZ hw 324 rfl) (mw hZ hw 326 rfl) (Cond.privateMethod_at (mvP hZ (ww hw 325 rfl) (args := #[]))) (mw hZ hw 327 rfl) (by decide) (backOf (W := 0) (rm_grow0 hw al m1 de kde Z0 E_al Fe_al Fz_al Fd_al g_al Sd VDE OL) hZ (ww hw 327 rfl) (ww hw 32 rfl) (by decide) (by decide)) (g := P4.g) rfl (by rw [hml]; rfl) (Steps.refl _) (a := al) (by rw [e0]; exact q5) q5' (argsL := []) (rest := []) (lenOf pd_35 rfl) rfl (by show 2 * 0 + _ ≤ _; exact Nat.le_of_eq rfl) (hb hby d59_7) (fun _ _ => ⟨rfl, e0, (by decide : 0 + 1 ≤ _), (by decide : 0 + 10 ≤ _)⟩)
 dsimp only [Pt.U, Pt.locs, Pt.cells, Pt.slots] at X5 l5 y5 z5 st5 hQ5
 subst l5 y5 z5
 obtain ⟨ed_5, ked_5, rfl, N5q, Kc5, po5_0, po5_1, po5_2, po5_3, po5_4, po5_5, po5_6, po5_7, po5_8⟩ := hQ5
 have N5 := Fr.app N0 N5q
 obtain ⟨Lf6, X5, N6⟩ := fixL X5 N5 1 10 rfl rfl
 have P7 := P4.tr st5
 have sz_ed_5 : h0.size ≤ ed_5 := Nat.le_trans (Nat.le_refl h0.size) po5_0
 replace E_pa := E_pa.keep Kc5
 have K5 := Kt1 (Keep.refl h0 [al]) Kc5 (Or.inl (mi 0))
 have V_ed_5 := po5_1
 have E_ed_5 := po5_2
 have ovd_5 := po5_3
 have E_al := po5_4
 have Fe_al := po5_5
 have Fz_al := po5_6
 have Fd_al := po5_7
 have P8 := P7.bt X5 hx hby b213_ rfl
 obtain ⟨cl9, Ar9, q9, S9, M9, Hs9, G9⟩ := V_ed_5
 obtain ⟨T9, h9, X9, e9, W9, st9⟩ := stR X5 hx hZ rfl Ar9 (j := (0 : Int32)) (inb_of S9 ⟨by decide, by decide⟩) rfl (Sto.ofV Ar9 q9 ovd_5 (Ins.of_exa E_pa (ww hw 338 rfl))) (g := P8.g) rfl rfl (hb hby d59_14)
 have P10 := P8.st st9
 have N9 := Fr.snoc X9 N6 (Nat.le_trans Z0 sz_ed_5)
 have K9 := K5.wr W9 (Or.inr sz_ed_5)
 replace E_al := E_al.wr W9
 replace E_ed_5 := E_ed_5.wr W9
 replace Fe_al := Fe_al.other W9 (Or.inl po5_8)
 replace Fz_al := Fz_al.other W9 (Or.inl po5_8)
 replace Fd_al := Fd_al.other W9 (Or.inl po5_8)
 have V_ed_5 : Arv Z h9 ed_5 ked_5 tOb (10 : Int32) [(.ref pa), .null, .null, .null, .null, .null, .null, .null, .null, .null] .null := Arv.set Ar9 q9 S9 M9 Hs9 G9 rfl W9 0 rfl (Nat.le_of_ble_eq_true rfl)
 have P11 : PP p e below T9 (mkF m 19 #[rv al, rv pa, rv ed_5, iv 0] [(.int 1), (.ref al)]) s0 := fun q_ k_ => P10 q_ (by
  exact bt X9 hx hby b214_ rfl k_)
 obtain ⟨T12, h12, X12, e12, W12, st12⟩ := putF X9 hx hZ hown (host := "") (Or.inl (ww hw 86 rfl)) Via.refl e9 Fz_al E_al (Or.inl (ww hw 87 rfl)) (ww hw 31 rfl) (ty := .int) (by decide) rfl rfl (g := P11.g) rfl rfl (hb hby d59_19)
 have P13 := P11.st st12
 have N12 := Fr.snoc X12 N9 g_al
 have K12 := K9.wr W12 (Or.inl (mi 0))
 replace E_al := E_al.wr W12
 replace E_ed_5 := E_ed_5.wr W12
 replace Fe_al := Fe_al.other W12 (Or.inr (slot_ne (Or.inl (ww hw 53 rfl)) (Or.inl (ww hw 87 rfl)) (by decide) (t := (.array tOb)) (t' := .int) (by decide) (by decide)))
 replace Fz_al : Fld Z h12 al cAL "size" "I" (.int 1) := Fz_al.same W12
 replace Fd_al := Fd_al.other W12 (Or.inr (slot_ne (Or.inl (ww hw 50 rfl)) (Or.inl (ww hw 87 rfl)) (by decide) (t := .int) (t' := .int) (by decide) (by decide)))
 replace V_ed_5 := V_ed_5.other W12 (Ne.symm po5_8)
 exact endV 22 #[rv al, rv pa, rv ed_5, iv 0] X12 hx hrt hlk P13 (hb hby d59_22) e12 (by decide) (by decide) (show Q_add3_0 Z al m1 pa de kde h0 n0 _ _ _ from ⟨ed_5, ked_5, rfl, N12, K12, sz_ed_5, V_ed_5, E_ed_5, ovd_5, E_al, Fe_al, Fz_al, Fd_al, po5_8⟩)
abbrev k60_ := jdk_38_method_25_code
theorem b215_ : dl k60_ 0 [(.aload_n 0, 1), (.dup, 1)] = true := by decide +kernel
theorem d60_2 : decode k60_ 2 = .ok (.getfield 63, 3) := by decide +kernel
theorem b216_ : dl k60_ 5 [(.iconst 1, 1), (.iadd, 1)] = true := by decide +kernel
theorem d60_7 : decode k60_ 7 = .ok (.putfield 63, 3) := by decide +kernel
theorem b217_ : dl k60_ 10 [(.aload_n 0, 1), (.aload_n 1, 1), (.aload_n 0, 1)] = true := by decide +kernel
theorem d60_13 : decode k60_ 13 = .ok (.getfield 9, 3) := by decide +kernel
theorem b218_ : dl k60_ 16 [(.aload_n 0, 1)] = true := by decide +kernel
theorem d60_17 : decode k60_ 17 = .ok (.getfield 48, 3) := by decide +kernel
theorem pd_36 : parseMethodDescriptor "(Ljava/lang/Object;[Ljava/lang/Object;I)V" = some ⟨[(.object "java/lang/Object"), (.array (.object "java/lang/Object")), .int], none⟩ := by decide +kernel
theorem d60_20 : decode k60_ 20 = .ok (.invokevirtual 131, 3) := by decide +kernel
theorem b219_ : dl k60_ 23 [(.iconst 1, 1)] = true := by decide +kernel
theorem d60_24 : decode k60_ 24 = .ok (.ireturn, 1) := by decide +kernel
def Q_add0 (Z : State) (al : Addr) (m1 : Int32) (pa de : Addr) (kde : ClassId) : QT := fun h0 n0 v h L => ∃ (ed : Addr) (ked : ClassId), v = some (.int 1) ∧ Fr n0 L ∧ Keep h0 h [al] ∧ (h0.size ≤ ed) ∧ (Arv Z h ed ked tOb (10 : Int32) [(.ref pa), .null, .null, .null, .null, .null, .null, .null, .null, .null] .null) ∧ (Exa Z h ed dOA) ∧ (Ovr Z ked "java/lang/Object") ∧ (Exa Z h al cAL) ∧ (Fld Z h al cAL "elementData" dOA (.ref ed)) ∧ (Fld Z h al cAL "size" "I" (.int 1)) ∧ (Fld Z h al cAb "modCount" "I" (.int (m1 + (1 : Int32)))) ∧ (al ≠ ed)
abbrev mn_60 : MethodName := ⟨"java/util/ArrayList", "add", "(Ljava/lang/Object;)Z"⟩
theorem rm_add0 (hw : HW a0 Z) (al : Addr) (m1 : Int32) (pa de : Addr) (kde : ClassId) (Z0 : n0 ≤ h0.size) (E_al : Exa Z h0 al cAL) (Fe_al : Fld Z h0 al cAL "elementData" dOA (.ref de)) (Fz_al : Fld Z h0 al cAL "size" "I" i0) (Fd_al : Fld Z h0 al cAb "modCount" "I" (.int m1)) (E_pa : Exa Z h0 pa cS) (g_al : n0 ≤ al) (Sd : SU7 Z de) (VDE : Arv Z Z.heap de kde tOb (0 : Int32) [] .null) (OL : Old Z n0 h0) :
  MetP l Z mn_60 k60_ 2 (some .boolean) (rr 4 1 10 56) ws #[(.ref al), (.ref pa)] h0 (Q_add0 Z al m1 pa de kde h0 n0) := by
 refine begH n0 cAL rfl (plainFor_of_name pn_9) fun p e s m below meth c s₁ s0 hrt hlk hZ hx hby hml hown hnm X0 e0 N0 P0 => ?_
 replace P0 : PP p e below s₁ (mkF m 0 #[rv al, rv pa] []) s0 := castPP (ef_21 m al pa) P0
 have P1 := P0.bt X0 hx hby b215_ rfl
 obtain ⟨T2, X2, e2, st2⟩ := getF X0 hx hZ hown (host := "") (Or.inl (ww hw 316 rfl)) (Via.of (ww hw 317 rfl)) e0 Fd_al (g := P1.g) rfl rfl (hb hby d60_2)
 have P3 := P1.st st2
 have P4 : PP p e below T2 (mkF m 7 #[rv al, rv pa] [(.int (m1 + (1 : Int32))), (.ref al)]) s0 := fun q_ k_ => P3 q_ (by
  exact bt X2 hx hby b216_ rfl k_)
 obtain ⟨T5, h5, X5, e5, W5, st5⟩ := putF X2 hx hZ hown (host := "") (Or.inl (ww hw 316 rfl)) (Via.of (ww hw 317 rfl)) e2 Fd_al E_al (Or.inl (ww hw 50 rfl)) (ww hw 31 rfl) (ty := .int) (by decide) rfl rfl (g := P4.g) rfl rfl (hb hby d60_7)
 have P6 := P4.st st5
 have N5 := Fr.snoc X5 N0 g_al
 have K5 := (Keep.refl h0 [al]).wr W5 (Or.inl (mi 0))
 replace E_al := E_al.wr W5
 replace Fe_al := Fe_al.other W5 (Or.inr (slot_ne (Or.inl (ww hw 53 rfl)) (Or.inl (ww hw 50 rfl)) (by decide) (t := (.array tOb)) (t' := .int) (by decide) (by decide)))
 replace Fz_al := Fz_al.other W5 (Or.inr (slot_ne (Or.inl (ww hw 87 rfl)) (Or.inl (ww hw 50 rfl)) (by decide) (t := .int) (t' := .int) (by decide) (by decide)))
 replace Fd_al : Fld Z h5 al cAb "modCount" "I" (.int (m1 + (1 : Int32))) := Fd_al.same W5
 replace E_pa := E_pa.wr W5
 replace OL := OL.wr W5 g_al
 have P7 := P6.bt X5 hx hby b217_ rfl
 obtain ⟨T8, X8, e8, P8⟩ := gF P7 X5 hx hZ hown hw 52 e5 Fe_al (hb hby d60_13)
 have P9 : PP p e below T8 (mkF m 17 #[rv al, rv pa] [(.ref al), (.ref de), (.ref pa), (.ref al)]) s0 := fun q_ k_ => P8 q_ (by
  exact bt X8 hx hby b218_ rfl k_)
 obtain ⟨T10, X10, e10, P10⟩ := gF P9 X8 hx hZ hown hw 86 e8 Fz_al (hb hby d60_17)
 obtain ⟨cq11, q11, q11'⟩ := E_al.cell
 obtain ⟨_, _, ⟨T11, L11, k11, n11⟩, -, X11, ⟨Lc11, hQ11, l11, y11, z11⟩, st11⟩ := X10.privateBack hx (y := mn_59) hown (mw hZ hw 318 rfl) (mw hZ hw 319 rfl) (mw hZ hw 321 rfl) (Cond.privateMethod_at (mvP hZ (ww hw 320 rfl) (args := #[]))) (mw hZ hw 322 rfl) (by decide) (backOf (W := 0) (rm_add3_0 hw al (m1 + (1 : Int32)) pa de kde (zT Z0 K5.1) E_al Fe_al Fz_al Fd_al E_pa g_al Sd VDE OL) hZ (ww hw 322 rfl) (ww hw 32 rfl) (by decide) (by decide)) (g := P10.g) rfl (by rw [hml]; rfl) (Steps.refl _) (a := al) (by rw [e10]; exact q11) q11' (argsL := [(.ref pa), (.ref de), i0]) (rest := []) (lenOf pd_36 rfl) rfl (by show 2 * 0 + _ ≤ _; exact Nat.le_of_eq rfl) (hb hby d60_20) (fun _ _ => ⟨rfl, e10, (by decide : 0 + 1 ≤ _), (by decide : 0 + 10 ≤ _)⟩)
 dsimp only [Pt.U, Pt.locs, Pt.cells, Pt.slots] at X11 l11 y11 z11 st11 hQ11
 subst l11 y11 z11
 obtain ⟨ed_11, ked_11, rfl, N11q, Kc11, po11_0, po11_1, po11_2, po11_3, po11_4, po11_5, po11_6, po11_7, po11_8⟩ := hQ11
 have N11 := Fr.app N5 N11q
 obtain ⟨Lf12, X11, N12⟩ := fixL X11 N11 1 10 rfl rfl
 have P13 := P10.tr st11
 have sz_ed_11 : h0.size ≤ ed_11 := Nat.le_trans K5.1 po11_0
 have K11 := Kt1 K5 Kc11 (Or.inl (mi 0))
 have V_ed_11 := po11_1
 have E_ed_11 := po11_2
 have ovd_11 := po11_3
 have E_al := po11_4
 have Fe_al := po11_5
 have Fz_al := po11_6
 have Fd_al := po11_7
 have P14 := P13.bt X11 hx hby b219_ rfl
 exact endN 24 #[rv al, rv pa] (rest := []) X11 hx hrt (by simp) hlk P14 (hb hby d60_24) rfl (by decide) (by decide) (show Q_add0 Z al m1 pa de kde h0 n0 _ _ _ from ⟨ed_11, ked_11, rfl, N12, K11, sz_ed_11, V_ed_11, E_ed_11, ovd_11, E_al, Fe_al, Fz_al, Fd_al, po11_8⟩)
theorem ef_37 (m : MethodId) (x0 : Addr) (x1 : Addr) (x2 : Addr) : entryFrame m #[(.ref x0), (.ref x1), (.ref x2), (.int 1)] 4 = mkF m 0 #[.val (.ref x0), .val (.ref x1), .val (.ref x2), .val (.int 1)] [] := by first | (simp [entryFrame, mkF, argsToLocals, Value.category]; done) | rfl
theorem b220_ : dl k59_ 11 [(.aload_n 2, 1), (.iload_n 3, 1), (.aload_n 1, 1)] = true := by decide +kernel
def Q_add3_1 (Z : State) (al : Addr) (m1 : Int32) (pb pa ed : Addr) (ked : ClassId) : QT := fun h0 n0 v h L => v = none ∧ Fr n0 L ∧ Keep h0 h [al, ed] ∧ (Arv Z h ed ked tOb (10 : Int32) [(.ref pa), (.ref pb), .null, .null, .null, .null, .null, .null, .null, .null] .null) ∧ (Exa Z h ed dOA) ∧ (Exa Z h al cAL) ∧ (Fld Z h al cAL "elementData" dOA (.ref ed)) ∧ (Fld Z h al cAL "size" "I" (.int 2)) ∧ (Fld Z h al cAb "modCount" "I" (.int m1))
theorem rm_add3_1 (hw : HW a0 Z) (al : Addr) (m1 : Int32) (pb pa ed : Addr) (ked : ClassId) (Z0 : n0 ≤ h0.size) (E_al : Exa Z h0 al cAL) (Fe_al : Fld Z h0 al cAL "elementData" dOA (.ref ed)) (Fz_al : Fld Z h0 al cAL "size" "I" (.int 1)) (Fd_al : Fld Z h0 al cAb "modCount" "I" (.int m1)) (E_pb : Exa Z h0 pb cS) (V_ed : Arv Z h0 ed ked tOb (10 : Int32) [(.ref pa), .null, .null, .null, .null, .null, .null, .null, .null, .null] .null) (E_ed : Exa Z h0 ed dOA) (ovd : Ovr Z ked "java/lang/Object") (g_al : n0 ≤ al) (g_ed : n0 ≤ ed) (ne_al_ed : al ≠ ed) (OL : Old Z n0 h0) :
  MetP l Z mn_59 k59_ 4 none (rr 0 0 0 0) ws #[(.ref al), (.ref pb), (.ref ed), (.int 1)] h0 (Q_add3_1 Z al m1 pb pa ed ked h0 n0) := by
 refine begH n0 cAL rfl (plainFor_of_name pn_9) fun p e s m below meth c s₁ s0 hrt hlk hZ hx hby hml hown hnm X0 e0 N0 P0 => ?_
 replace P0 : PP p e below s₁ (mkF m 0 #[rv al, rv pb, rv ed, iv 1] []) s0 := castPP (ef_37 m al pb ed) P0
 have P1 := P0.bt X0 hx hby b211_ rfl
 obtain ⟨cl2, Ar2, -, S2, M2, -, -⟩ := id V_ed
 have P3 : PP p e below s₁ (mkF m 3 #[rv al, rv pb, rv ed, iv 1] [(.int 10), (.int 1)]) s0 := fun q_ k_ => P1 q_ (by
  refine X0.arraylength hx (by rw [e0]; exact Ar2.1) (State.isArrayOf_alike hZ.alike Ar2.2.1) (g := P1.g) rfl rfl (hb hby d59_2) _ ?_
  rw [len_of S2 M2]
  exact k_)
 have P4 : PP p e below s₁ (mkF m 14 #[rv al, rv pb, rv ed, iv 1] [(.ref pb), (.int 1), (.ref ed)]) s0 := fun q_ k_ => P3 q_ (by
  refine XS.icmpYes X0.here hx rfl (pc0 := 3) (pc' := 11) rfl (hb hby d59_3) rfl (feq ((by decide) : ¬ ((1 : Int32) = (10 : Int32)))).2 (by decide) (by decide) ?_
  exact bt X0 hx hby b220_ rfl k_)
 obtain ⟨cl5, Ar5, q5, S5, M5, Hs5, G5⟩ := V_ed
 obtain ⟨T5, h5, X5, e5, W5, st5⟩ := stR X0 hx hZ e0 Ar5 (j := (1 : Int32)) (inb_of S5 ⟨by decide, by decide⟩) rfl (Sto.ofV Ar5 q5 ovd (Ins.of_exa E_pb (ww hw 338 rfl))) (g := P4.g) rfl rfl (hb hby d59_14)
 have P6 := P4.st st5
 have N5 := Fr.snoc X5 N0 g_ed
 have K5 := (Keep.refl h0 [al, ed]).wr W5 (Or.inl (mi 1))
 replace E_al := E_al.wr W5
 replace Fe_al := Fe_al.other W5 (Or.inl ne_al_ed)
 replace Fz_al := Fz_al.other W5 (Or.inl ne_al_ed)
 replace Fd_al := Fd_al.other W5 (Or.inl ne_al_ed)
 replace E_ed := E_ed.wr W5
 have V_ed : Arv Z h5 ed ked tOb (10 : Int32) [(.ref pa), (.ref pb), .null, .null, .null, .null, .null, .null, .null, .null] .null := Arv.set Ar5 q5 S5 M5 Hs5 G5 rfl W5 1 rfl (Nat.le_of_ble_eq_true rfl)
 have P7 := P6.bt X5 hx hby b214_ rfl
 obtain ⟨T8, h8, X8, e8, W8, st8⟩ := putF X5 hx hZ hown (host := "") (Or.inl (ww hw 86 rfl)) Via.refl e5 Fz_al E_al (Or.inl (ww hw 87 rfl)) (ww hw 31 rfl) (ty := .int) (by decide) rfl rfl (g := P7.g) rfl rfl (hb hby d59_19)
 have P9 := P7.st st8
 have N8 := Fr.snoc X8 N5 g_al
 have K8 := K5.wr W8 (Or.inl (mi 0))
 replace E_al := E_al.wr W8
 replace Fe_al := Fe_al.other W8 (Or.inr (slot_ne (Or.inl (ww hw 53 rfl)) (Or.inl (ww hw 87 rfl)) (by decide) (t := (.array tOb)) (t' := .int) (by decide) (by decide)))
 replace Fz_al : Fld Z h8 al cAL "size" "I" (.int 2) := Fz_al.same W8
 replace Fd_al := Fd_al.other W8 (Or.inr (slot_ne (Or.inl (ww hw 50 rfl)) (Or.inl (ww hw 87 rfl)) (by decide) (t := .int) (t' := .int) (by decide) (by decide)))
 replace E_ed := E_ed.wr W8
 replace V_ed := V_ed.other W8 (Ne.symm ne_al_ed)
 exact endV 22 #[rv al, rv pb, rv ed, iv 1] X8 hx hrt hlk P9 (hb hby d59_22) e8 (by decide) (by decide) (show Q_add3_1 Z al m1 pb pa ed ked h0 n0 _ _ _ from ⟨rfl, N8, K8, V_ed, E_ed, E_al, Fe_al, Fz_al, Fd_al⟩)
def Q_add1 (Z : State) (al : Addr) (m1 : Int32) (pb pa ed : Addr) (ked : ClassId) : QT := fun h0 n0 v h L => v = some (.int 1) ∧ Fr n0 L ∧ Keep h0 h [al, ed] ∧ (Arv Z h ed ked tOb (10 : Int32) [(.ref pa), (.ref pb), .null, .null, .null, .null, .null, .null, .null, .null] .null) ∧ (Exa Z h ed dOA) ∧ (Exa Z h al cAL) ∧ (Fld Z h al cAL "elementData" dOA (.ref ed)) ∧ (Fld Z h al cAL "size" "I" (.int 2)) ∧ (Fld Z h al cAb "modCount" "I" (.int (m1 + (1 : Int32))))
theorem rm_add1 (hw : HW a0 Z) (al : Addr) (m1 : Int32) (pb pa ed : Addr) (ked : ClassId) (Z0 : n0 ≤ h0.size) (E_al : Exa Z h0 al cAL) (Fe_al : Fld Z h0 al cAL "elementData" dOA (.ref ed)) (Fz_al : Fld Z h0 al cAL "size" "I" (.int 1)) (Fd_al : Fld Z h0 al cAb "modCount" "I" (.int m1)) (E_pb : Exa Z h0 pb cS) (V_ed : Arv Z h0 ed ked tOb (10 : Int32) [(.ref pa), .null, .null, .null, .null, .null, .null, .null, .null, .null] .null) (E_ed : Exa Z h0 ed dOA) (ovd : Ovr Z ked "java/lang/Object") (g_al : n0 ≤ al) (g_ed : n0 ≤ ed) (ne_al_ed : al ≠ ed) (OL : Old Z n0 h0) :
  MetP l Z mn_60 k60_ 2 (some .boolean) (rr 1 0 0 15) ws #[(.ref al), (.ref pb)] h0 (Q_add1 Z al m1 pb pa ed ked h0 n0) := by
 refine begH n0 cAL rfl (plainFor_of_name pn_9) fun p e s m below meth c s₁ s0 hrt hlk hZ hx hby hml hown hnm X0 e0 N0 P0 => ?_
 replace P0 : PP p e below s₁ (mkF m 0 #[rv al, rv pb] []) s0 := castPP (ef_21 m al pb) P0
 have P1 := P0.bt X0 hx hby b215_ rfl
 obtain ⟨T2, X2, e2, st2⟩ := getF X0 hx hZ hown (host := "") (Or.inl (ww hw 316 rfl)) (Via.of (ww hw 317 rfl)) e0 Fd_al (g := P1.g) rfl rfl (hb hby d60_2)
 have P3 := P1.st st2
 have P4 : PP p e below T2 (mkF m 7 #[rv al, rv pb] [(.int (m1 + (1 : Int32))), (.ref al)]) s0 := fun q_ k_ => P3 q_ (by
  exact bt X2 hx hby b216_ rfl k_)
 obtain ⟨T5, h5, X5, e5, W5, st5⟩ := putF X2 hx hZ hown (host := "") (Or.inl (ww hw 316 rfl)) (Via.of (ww hw 317 rfl)) e2 Fd_al E_al (Or.inl (ww hw 50 rfl)) (ww hw 31 rfl) (ty := .int) (by decide) rfl rfl (g := P4.g) rfl rfl (hb hby d60_7)
 have P6 := P4.st st5
 have N5 := Fr.snoc X5 N0 g_al
 have K5 := (Keep.refl h0 [al, ed]).wr W5 (Or.inl (mi 0))
 replace E_al := E_al.wr W5
 replace Fe_al := Fe_al.other W5 (Or.inr (slot_ne (Or.inl (ww hw 53 rfl)) (Or.inl (ww hw 50 rfl)) (by decide) (t := (.array tOb)) (t' := .int) (by decide) (by decide)))
 replace Fz_al := Fz_al.other W5 (Or.inr (slot_ne (Or.inl (ww hw 87 rfl)) (Or.inl (ww hw 50 rfl)) (by decide) (t := .int) (t' := .int) (by decide) (by decide)))
 replace Fd_al : Fld Z h5 al cAb "modCount" "I" (.int (m1 + (1 : Int32))) := Fd_al.same W5
 replace E_pb := E_pb.wr W5
 replace V_ed := V_ed.other W5 (Ne.symm ne_al_ed)
 replace E_ed := E_ed.wr W5
 replace OL := OL.wr W5 g_al
 have P7 := P6.bt X5 hx hby b217_ rfl
 obtain ⟨T8, X8, e8, P8⟩ := gF P7 X5 hx hZ hown hw 52 e5 Fe_al (hb hby d60_13)
 have P9 : PP p e below T8 (mkF m 17 #[rv al, rv pb] [(.ref al), (.ref ed), (.ref pb), (.ref al)]) s0 := fun q_ k_ => P8 q_ (by
  exact bt X8 hx hby b218_ rfl k_)
 obtain ⟨T10, X10, e10, P10⟩ := gF P9 X8 hx hZ hown hw 86 e8 Fz_al (hb hby d60_17)
 obtain ⟨cq11, q11, q11'⟩ := E_al.cell
 obtain ⟨_, _, ⟨T11, L11, k11, n11⟩, -, X11, ⟨Lc11, hQ11, l11, y11, z11⟩, st11⟩ := X10.privateBack hx (y := mn_59) hown (mw hZ hw 318 rfl) (mw hZ hw 319 rfl) (mw hZ hw 321 rfl) (Cond.privateMethod_at (mvP hZ (ww hw 320 rfl) (args := #[]))) (mw hZ hw 322 rfl) (by decide) (backOf (W := 0) (rm_add3_1 hw al (m1 + (1 : Int32)) pb pa ed ked (zT Z0 K5.1) E_al Fe_al Fz_al Fd_al E_pb V_ed E_ed ovd g_al g_ed ne_al_ed OL) hZ (ww hw 322 rfl) (ww hw 32 rfl) (by decide) (by decide)) (g := P10.g) rfl (by rw [hml]; rfl) (Steps.refl _) (a := al) (by rw [e10]; exact q11) q11' (argsL := [(.ref pb), (.ref ed), (.int 1)]) (rest := []) (lenOf pd_36 rfl) rfl (by show 2 * 0 + _ ≤ _; exact Nat.le_of_eq rfl) (hb hby d60_20) (fun _ _ => ⟨rfl, e10, (by decide : 0 + 0 ≤ _), (by decide : 0 + 0 ≤ _)⟩)
 dsimp only [Pt.U, Pt.locs, Pt.cells, Pt.slots] at X11 l11 y11 z11 st11 hQ11
 subst l11 y11 z11
 obtain ⟨rfl, N11q, Kc11, po11_0, po11_1, po11_2, po11_3, po11_4, po11_5⟩ := hQ11
 have N11 := Fr.app N5 N11q
 obtain ⟨Lf12, X11, N12⟩ := fixL X11 N11 0 0 rfl rfl
 have P13 := P10.tr st11
 have K11 := Kt2 K5 Kc11 (Or.inl (mi 0)) (Or.inl (mi 1))
 have V_ed := po11_0
 have E_ed := po11_1
 have E_al := po11_2
 have Fe_al := po11_3
 have Fz_al := po11_4
 have Fd_al := po11_5
 have P14 := P13.bt X11 hx hby b219_ rfl
 exact endN 24 #[rv al, rv pb] (rest := []) X11 hx hrt (by simp) hlk P14 (hb hby d60_24) rfl (by decide) (by decide) (show Q_add1 Z al m1 pb pa ed ked h0 n0 _ _ _ from ⟨rfl, N12, K11, V_ed, E_ed, E_al, Fe_al, Fz_al, Fd_al⟩)
theorem pn_10 : plainName "java/util/Objects" = true := by first | (simp [plainName, overriddenIn]; done) | decide +kernel
abbrev k61_ := jdk_31_method_10_code
theorem d61_1 : decode k61_ 1 = .ok (.ifnonnull 11, 3) := by decide +kernel
theorem b221_ : dl k61_ 0 [(.aload_n 0, 1)] = true := by decide +kernel
theorem b222_ : dl k61_ 12 [(.aload_n 0, 1)] = true := by decide +kernel
theorem d61_13 : decode k61_ 13 = .ok (.areturn, 1) := by decide +kernel
def Q_rnn (Z : State) (ob : Addr) : QT := fun h0 n0 v h L => v = some (.ref ob) ∧ Fr n0 L ∧ h = h0
abbrev mn_61 : MethodName := ⟨"java/util/Objects", "requireNonNull", "(Ljava/lang/Object;)Ljava/lang/Object;"⟩
theorem rm_rnn (hw : HW a0 Z) (ob : Addr) (Z0 : n0 ≤ h0.size) :
  MetP l Z mn_61 k61_ 1 (some tOb) (rr 0 0 0 0) ws #[(.ref ob)] h0 (Q_rnn Z ob h0 n0) := by
 refine begH n0 "java/util/Objects" rfl (plainFor_of_name pn_10) fun p e s m below meth c s₁ s0 hrt hlk hZ hx hby hml hown hnm X0 e0 N0 P0 => ?_
 replace P0 : PP p e below s₁ (mkF m 0 #[rv ob] []) s0 := castPP (ef_4 m ob) P0
 have P1 : PP p e below s₁ (mkF m 13 #[rv ob] [(.ref ob)]) s0 := fun q_ k_ => P0 q_ (by
  refine bt X0 hx hby b221_ rfl ?_
  refine XS.ifnonnullYes X0.here hx rfl (pc0 := 1) (pc' := 12) rfl (hb hby d61_1) rfl (by decide) (by decide) ?_
  exact bt X0 hx hby b222_ rfl k_)
 exact endA 13 #[rv ob] (rest := []) X0 hx hrt rfl hlk P1 (hb hby d61_13) e0 (by decide) (by decide) (show Q_rnn Z ob h0 n0 _ _ _ from ⟨rfl, N0, rfl⟩)
theorem pn_11 : plainName "java/util/ImmutableCollections$AbstractImmutableCollection" = true := by first | (simp [plainName, overriddenIn]; done) | decide +kernel
abbrev k62_ := jdk_47_method_1_code
theorem b223_ : dl k62_ 0 [(.aload_n 0, 1)] = true := by decide +kernel
theorem d62_1 : decode k62_ 1 = .ok (.invokespecial 1, 3) := by decide +kernel
theorem d62_4 : decode k62_ 4 = .ok (.return_, 1) := by decide +kernel
abbrev mn_62 : MethodName := ⟨"java/util/ImmutableCollections$AbstractImmutableCollection", "<init>", "()V"⟩
theorem rm_aicInit (hw : HW a0 Z) (ob : Addr) (Z0 : n0 ≤ h0.size) :
  MetP l Z mn_62 k62_ 1 none (rr 2 0 0 24) ws #[(.ref ob)] h0 (Q_acInit Z ob h0 n0) := by
 refine begH n0 "java/util/ImmutableCollections$AbstractImmutableCollection" rfl (plainFor_of_name pn_11) fun p e s m below meth c s₁ s0 hrt hlk hZ hx hby hml hown hnm X0 e0 N0 P0 => ?_
 replace P0 : PP p e below s₁ (mkF m 0 #[rv ob] []) s0 := castPP (ef_4 m ob) P0
 have P1 := P0.bt X0 hx hby b223_ rfl
 obtain ⟨_, T2, L2, X2, hQ2, P2⟩ := cIn P1 X0 hx hZ hown hw e0 hml 382 43 47 46 (rm_acInit hw ob Z0) rfl rfl rfl rfl rfl rfl rfl [] [] 0 (lenOf pd_24 rfl) rfl (Nat.le_of_eq rfl) (hb hby d62_1) rfl (by decide)
 obtain ⟨rfl, N2q, e2⟩ := hQ2
 have N2 := Fr.app N0 N2q
 exact endV 4 #[rv ob] X2 hx hrt hlk P2 (hb hby d62_4) e2 (by decide) (by decide) (show Q_acInit Z ob h0 n0 _ _ _ from ⟨rfl, N2, rfl⟩)
theorem pn_12 : plainName "java/util/ImmutableCollections$AbstractImmutableList" = true := by first | (simp [plainName, overriddenIn]; done) | decide +kernel
abbrev k63_ := jdk_46_method_1_code
theorem b224_ : dl k63_ 0 [(.aload_n 0, 1)] = true := by decide +kernel
theorem d63_1 : decode k63_ 1 = .ok (.invokespecial 1, 3) := by decide +kernel
theorem d63_4 : decode k63_ 4 = .ok (.return_, 1) := by decide +kernel
abbrev mn_63 : MethodName := ⟨"java/util/ImmutableCollections$AbstractImmutableList", "<init>", "()V"⟩
theorem rm_ailInit (hw : HW a0 Z) (ob : Addr) (Z0 : n0 ≤ h0.size) :
  MetP l Z mn_63 k63_ 1 none (rr 3 0 0 36) ws #[(.ref ob)] h0 (Q_acInit Z ob h0 n0) := by
 refine begH n0 "java/util/ImmutableCollections$AbstractImmutableList" rfl (plainFor_of_name pn_12) fun p e s m below meth c s₁ s0 hrt hlk hZ hx hby hml hown hnm X0 e0 N0 P0 => ?_
 replace P0 : PP p e below s₁ (mkF m 0 #[rv ob] []) s0 := castPP (ef_4 m ob) P0
 have P1 := P0.bt X0 hx hby b224_ rfl
 obtain ⟨_, T2, L2, X2, hQ2, P2⟩ := cIn P1 X0 hx hZ hown hw e0 hml 376 377 381 380 (rm_aicInit hw ob Z0) rfl rfl rfl rfl rfl rfl rfl [] [] 0 (lenOf pd_24 rfl) rfl (Nat.le_of_eq rfl) (hb hby d63_1) rfl (by decide)
 obtain ⟨rfl, N2q, e2⟩ := hQ2
 have N2 := Fr.app N0 N2q
 exact endV 4 #[rv ob] X2 hx hrt hlk P2 (hb hby d63_4) e2 (by decide) (by decide) (show Q_acInit Z ob h0 n0 _ _ _ from ⟨rfl, N2, rfl⟩)
theorem ef_38 (m : MethodId)  : entryFrame m #[] 0 = mkF m 0 #[] [] := by first | (simp [entryFrame, mkF, argsToLocals, Value.category]; done) | rfl
theorem pn_13 : plainName "java/util/List" = true := by first | (simp [plainName, overriddenIn]; done) | decide +kernel
abbrev k64_ := jdk_40_method_36_code
theorem d64_0 : decode k64_ 0 = .ok (.getstatic 90, 3) := by decide +kernel
theorem d64_3 : decode k64_ 3 = .ok (.areturn, 1) := by decide +kernel
def Q_listOf0 (Z : State) (el : Addr) : QT := fun h0 n0 v h L => v = some (.ref el) ∧ Fr n0 L ∧ h = h0
abbrev mn_64 : MethodName := ⟨"java/util/List", "of", "()Ljava/util/List;"⟩
theorem rm_listOf0 (hw : HW a0 Z) (el : Addr) (Z0 : n0 ≤ h0.size) (Sn : Sta Z Z.heap cIC "EMPTY_LIST" "Ljava/util/ImmutableCollections$ListN;" (.ref el)) (OL : Old Z n0 h0) :
  MetP l Z mn_64 k64_ 0 (some (.object "java/util/List")) (rr 0 0 0 0) ws #[] h0 (Q_listOf0 Z el h0 n0) := by
 refine begH n0 "java/util/List" rfl (plainFor_of_name pn_13) fun p e s m below meth c s₁ s0 hrt hlk hZ hx hby hml hown hnm X0 e0 N0 P0 => ?_
 replace P0 : PP p e below s₁ (mkF m 0 #[] []) s0 := castPP (ef_38 m ) P0
 obtain ⟨T1, X1, e1, P1⟩ := gS P0 X0 hx hZ hown hw 91 e0 (Sn.ext OL.2) (hb hby d64_0)
 exact endA 3 #[] (rest := []) X1 hx hrt rfl hlk P1 (hb hby d64_3) e1 (by decide) (by decide) (show Q_listOf0 Z el h0 n0 _ _ _ from ⟨rfl, N0, rfl⟩)
abbrev k65_ := jdk_38_method_9_code
theorem b225_ : dl k65_ 0 [(.aload_n 0, 1)] = true := by decide +kernel
theorem d65_1 : decode k65_ 1 = .ok (.getfield 48, 3) := by decide +kernel
theorem d65_4 : decode k65_ 4 = .ok (.ifCond .ne 7, 3) := by decide +kernel
theorem b226_ : dl k65_ 7 [(.iconst 1, 1), (.goto 4, 3)] = true := by decide +kernel
theorem d65_12 : decode k65_ 12 = .ok (.ireturn, 1) := by decide +kernel
def Q_isE0 (Z : State) (al : Addr) : QT := fun h0 n0 v h L => v = some (.int 1) ∧ Fr n0 L ∧ h = h0
abbrev mn_65 : MethodName := ⟨"java/util/ArrayList", "isEmpty", "()Z"⟩
theorem rm_isE0 (hw : HW a0 Z) (al : Addr) (Z0 : n0 ≤ h0.size) (Fz_al : Fld Z h0 al cAL "size" "I" i0) :
  MetP l Z mn_65 k65_ 1 (some .boolean) (rr 0 0 0 0) ws #[(.ref al)] h0 (Q_isE0 Z al h0 n0) := by
 refine begH n0 cAL rfl (plainFor_of_name pn_9) fun p e s m below meth c s₁ s0 hrt hlk hZ hx hby hml hown hnm X0 e0 N0 P0 => ?_
 replace P0 : PP p e below s₁ (mkF m 0 #[rv al] []) s0 := castPP (ef_4 m al) P0
 have P1 := P0.bt X0 hx hby b225_ rfl
 obtain ⟨T2, X2, e2, P2⟩ := gF P1 X0 hx hZ hown hw 86 e0 Fz_al (hb hby d65_1)
 have P3 : PP p e below T2 (mkF m 12 #[rv al] [(.int 1)]) s0 := fun q_ k_ => P2 q_ (by
  refine XS.ifNo X2.here hx rfl (hb hby d65_4) rfl ((if0 _ _).trans (teq ((by decide) : (0 : Int32) = (0 : Int32))).2) ?_
  exact bt X2 hx hby b226_ rfl k_)
 exact endN 12 #[rv al] (rest := []) X2 hx hrt (by simp) hlk P3 (hb hby d65_12) e2 (by decide) (by decide) (show Q_isE0 Z al h0 n0 _ _ _ from ⟨rfl, N0, rfl⟩)
theorem pn_14 : plainName "java/util/ImmutableCollections" = true := by first | (simp [plainName, overriddenIn]; done) | decide +kernel
abbrev k66_ := jdk_56_method_3_code
theorem b227_ : dl k66_ 0 [(.aload_n 0, 1)] = true := by decide +kernel
theorem d66_1 : decode k66_ 1 = .ok (.instanceof 10, 3) := by decide +kernel
theorem d66_4 : decode k66_ 4 = .ok (.ifCond .ne 22, 3) := by decide +kernel
theorem b228_ : dl k66_ 7 [(.aload_n 0, 1)] = true := by decide +kernel
theorem d66_8 : decode k66_ 8 = .ok (.instanceof 12, 3) := by decide +kernel
theorem d66_11 : decode k66_ 11 = .ok (.ifCond .eq 20, 3) := by decide +kernel
theorem b229_ : dl k66_ 31 [(.aload_n 0, 1)] = true := by decide +kernel
theorem d66_32 : decode k66_ 32 = .ok (.invokeinterface 20 1, 5) := by decide +kernel
abbrev mn_66 : MethodName := ⟨"java/util/Collection", "isEmpty", "()Z"⟩
theorem d66_37 : decode k66_ 37 = .ok (.ifCond .eq 7, 3) := by decide +kernel
theorem pd_37 : parseMethodDescriptor "()Ljava/util/List;" = some ⟨[], some (.object "java/util/List")⟩ := by decide +kernel
theorem d66_40 : decode k66_ 40 = .ok (.invokestatic 26, 3) := by decide +kernel
theorem d66_43 : decode k66_ 43 = .ok (.areturn, 1) := by decide +kernel
def Q_lCp0 (Z : State) (al ed : Addr) (m1 : Int32) (el : Addr) : QT := fun h0 n0 v h L => v = some (.ref el) ∧ Fr n0 L ∧ h = h0
abbrev mn_67 : MethodName := ⟨"java/util/ImmutableCollections", "listCopy", "(Ljava/util/Collection;)Ljava/util/List;"⟩
theorem rm_lCp0 (hw : HW a0 Z) (al ed : Addr) (m1 : Int32) (el : Addr) (Z0 : n0 ≤ h0.size) (E_al : Exa Z h0 al cAL) (Fe_al : Fld Z h0 al cAL "elementData" dOA (.ref ed)) (Fz_al : Fld Z h0 al cAL "size" "I" i0) (Fd_al : Fld Z h0 al cAb "modCount" "I" (.int m1)) (Sn : Sta Z Z.heap cIC "EMPTY_LIST" "Ljava/util/ImmutableCollections$ListN;" (.ref el)) (OL : Old Z n0 h0) :
  MetP l Z mn_67 k66_ 2 (some (.object "java/util/List")) (rr 1 0 0 12) ws #[(.ref al)] h0 (Q_lCp0 Z al ed m1 el h0 n0) := by
 refine begH n0 cIC rfl (plainFor_of_name pn_14) fun p e s m below meth c s₁ s0 hrt hlk hZ hx hby hml hown hnm X0 e0 N0 P0 => ?_
 replace P0 : PP p e below s₁ (mkF m 0 #[rv al, .unset] []) s0 := castPP (ef_28 m al) P0
 have P1 := P0.bt X0 hx hby b227_ rfl
 obtain ⟨T2, X2, e2, st2⟩ := instNo X0 hx hZ hown (ww hw 71 rfl) e0 E_al (own_inst (ww hw 72 rfl) (ww hw 73 rfl) (ww hw 74 rfl) (ww hw 75 rfl) (ww hw 395 rfl) rfl (by decide) (by decide) (by decide) (by decide)) (g := P1.g) rfl rfl (hb hby d66_1)
 have P3 := P1.st st2
 have P4 : PP p e below T2 (mkF m 8 #[rv al, .unset] [(.ref al)]) s0 := fun q_ k_ => P3 q_ (by
  refine XS.ifNo X2.here hx rfl (hb hby d66_4) rfl ((if0 _ _).trans (teq ((by decide) : (0 : Int32) = (0 : Int32))).2) ?_
  exact bt X2 hx hby b228_ rfl k_)
 obtain ⟨T5, X5, e5, st5⟩ := instNo X2 hx hZ hown (ww hw 76 rfl) e2 E_al (own_inst (ww hw 72 rfl) (ww hw 73 rfl) (ww hw 74 rfl) (ww hw 75 rfl) (ww hw 195 rfl) rfl (by decide) (by decide) (by decide) (by decide)) (g := P4.g) rfl rfl (hb hby d66_8)
 have P6 := P4.st st5
 have P7 : PP p e below T5 (mkF m 32 #[rv al, .unset] [(.ref al)]) s0 := fun q_ k_ => P6 q_ (by
  refine XS.ifYes X5.here hx rfl (pc0 := 11) (pc' := 31) rfl (hb hby d66_11) rfl ((if0 _ _).trans (teq ((by decide) : (0 : Int32) = (0 : Int32))).1) (by decide) (by decide) ?_
  exact bt X5 hx hby b229_ rfl k_)
 obtain ⟨cq8, kq8, q8a, q8b, q8c⟩ := isOf hZ e5 E_al
 obtain ⟨_, _, ⟨T8, L8, k8, n8⟩, -, X8, ⟨Lc8, hQ8, l8, y8, z8⟩, st8⟩ := X5.interfaceBack hx (xi := mn_66) (y := mn_65) hown (mw hZ hw 77 rfl) (mw hZ hw 78 rfl) (mw hZ hw 79 rfl) (mw hZ hw 80 rfl) (mw hZ hw 81 rfl) (mw hZ hw 82 rfl) (mw hZ hw 83 rfl) (mw hZ hw 84 rfl) (by decide) (backOf (W := 0) (rm_isE0 hw al Z0 Fz_al) hZ (ww hw 85 rfl) (ww hw 32 rfl) (by decide) (by decide)) q8a q8b q8c (g := P7.g) rfl (by rw [hml]; rfl) (Steps.refl _) (argsL := []) (rest := []) (lenOf pd_20 rfl) rfl (by show 2 * 0 + _ ≤ _; exact Nat.le_of_eq rfl) (hb hby d66_32) (fun _ _ => ⟨rfl, e5, (by decide : 0 + 0 ≤ _), (by decide : 0 + 0 ≤ _)⟩)
 dsimp only [Pt.U, Pt.locs, Pt.cells, Pt.slots] at X8 l8 y8 z8 st8 hQ8
 subst l8 y8 z8
 obtain ⟨rfl, N8q, e8⟩ := hQ8
 have N8 := Fr.app N0 N8q
 have P9 := P7.tr st8
 have P10 : PP p e below T8 (mkF m 40 #[rv al, .unset] []) s0 := fun q_ k_ => P9 q_ (by
  exact XS.ifNo X8.here hx rfl (hb hby d66_37) rfl ((if0 _ _).trans (feq ((by decide) : ¬ ((1 : Int32) = (0 : Int32)))).1) k_)
 obtain ⟨_, T11, L11, X11, hQ11, P11⟩ := cSt P10 X8 hx hZ hown hw e8 hml 88 89 65 90 (rm_listOf0 hw el Z0 Sn OL) rfl rfl rfl rfl rfl rfl [] [] 0 (lenOf pd_37 rfl) rfl (Nat.le_of_eq rfl) (hb hby d66_40) rfl (by decide)
 obtain ⟨rfl, N11q, e11⟩ := hQ11
 have N11 := Fr.app N8 N11q
 exact endA 43 #[rv al, .unset] (rest := []) X11 hx hrt rfl hlk P11 (hb hby d66_43) e11 (by decide) (by decide) (show Q_lCp0 Z al ed m1 el h0 n0 _ _ _ from ⟨rfl, N11, rfl⟩)
abbrev k67_ := jdk_40_method_48_code
theorem b230_ : dl k67_ 0 [(.aload_n 0, 1)] = true := by decide +kernel
theorem pd_38 : parseMethodDescriptor "(Ljava/util/Collection;)Ljava/util/List;" = some ⟨[(.object "java/util/Collection")], some (.object "java/util/List")⟩ := by decide +kernel
theorem d67_1 : decode k67_ 1 = .ok (.invokestatic 112, 3) := by decide +kernel
theorem d67_4 : decode k67_ 4 = .ok (.areturn, 1) := by decide +kernel
abbrev mn_68 : MethodName := ⟨"java/util/List", "copyOf", "(Ljava/util/Collection;)Ljava/util/List;"⟩
theorem rm_cpOf0 (hw : HW a0 Z) (al ed : Addr) (m1 : Int32) (el : Addr) (Z0 : n0 ≤ h0.size) (E_al : Exa Z h0 al cAL) (Fe_al : Fld Z h0 al cAL "elementData" dOA (.ref ed)) (Fz_al : Fld Z h0 al cAL "size" "I" i0) (Fd_al : Fld Z h0 al cAb "modCount" "I" (.int m1)) (Sn : Sta Z Z.heap cIC "EMPTY_LIST" "Ljava/util/ImmutableCollections$ListN;" (.ref el)) (OL : Old Z n0 h0) :
  MetP l Z mn_68 k67_ 1 (some (.object "java/util/List")) (rr 2 0 0 25) ws #[(.ref al)] h0 (Q_lCp0 Z al ed m1 el h0 n0) := by
 refine begH n0 "java/util/List" rfl (plainFor_of_name pn_13) fun p e s m below meth c s₁ s0 hrt hlk hZ hx hby hml hown hnm X0 e0 N0 P0 => ?_
 replace P0 : PP p e below s₁ (mkF m 0 #[rv al] []) s0 := castPP (ef_4 m al) P0
 have P1 := P0.bt X0 hx hby b230_ rfl
 obtain ⟨_, T2, L2, X2, hQ2, P2⟩ := cSt P1 X0 hx hZ hown hw e0 hml 67 68 69 70 (rm_lCp0 hw al ed m1 el Z0 E_al Fe_al Fz_al Fd_al Sn OL) rfl rfl rfl rfl rfl rfl [(.ref al)] [] 0 (lenOf pd_38 rfl) rfl (Nat.le_of_eq rfl) (hb hby d67_1) rfl (by decide)
 obtain ⟨rfl, N2q, e2⟩ := hQ2
 have N2 := Fr.app N0 N2q
 exact endA 4 #[rv al] (rest := []) X2 hx hrt rfl hlk P2 (hb hby d67_4) e2 (by decide) (by decide) (show Q_lCp0 Z al ed m1 el h0 n0 _ _ _ from ⟨rfl, N2, rfl⟩)
theorem b231_ : dl k65_ 11 [(.iconst 0, 1)] = true := by decide +kernel
def Q_isE1 (Z : State) (al : Addr) : QT := fun h0 n0 v h L => v = some i0 ∧ Fr n0 L ∧ h = h0
theorem rm_isE1 (hw : HW a0 Z) (al : Addr) (Z0 : n0 ≤ h0.size) (Fz_al : Fld Z h0 al cAL "size" "I" (.int 1)) :
  MetP l Z mn_65 k65_ 1 (some .boolean) (rr 0 0 0 0) ws #[(.ref al)] h0 (Q_isE1 Z al h0 n0) := by
 refine begH n0 cAL rfl (plainFor_of_name pn_9) fun p e s m below meth c s₁ s0 hrt hlk hZ hx hby hml hown hnm X0 e0 N0 P0 => ?_
 replace P0 : PP p e below s₁ (mkF m 0 #[rv al] []) s0 := castPP (ef_4 m al) P0
 have P1 := P0.bt X0 hx hby b225_ rfl
 obtain ⟨T2, X2, e2, P2⟩ := gF P1 X0 hx hZ hown hw 86 e0 Fz_al (hb hby d65_1)
 have P3 : PP p e below T2 (mkF m 12 #[rv al] [i0]) s0 := fun q_ k_ => P2 q_ (by
  refine XS.ifYes X2.here hx rfl (pc0 := 4) (pc' := 11) rfl (hb hby d65_4) rfl ((if0 _ _).trans (feq ((by decide) : ¬ ((1 : Int32) = (0 : Int32)))).2) (by decide) (by decide) ?_
  exact bt X2 hx hby b231_ rfl k_)
 exact endN 12 #[rv al] (rest := []) X2 hx hrt (by simp) hlk P3 (hb hby d65_12) e2 (by decide) (by decide) (show Q_isE1 Z al h0 n0 _ _ _ from ⟨rfl, N0, rfl⟩)
def Q_mMin1 (Z : State) : QT := fun h0 n0 v h L => v = some (.int 1) ∧ Fr n0 L ∧ h = h0
theorem rm_mMin1 (hw : HW a0 Z) (Z0 : n0 ≤ h0.size) :
  MetP l Z mn_31 k31_ 2 (some .int) (rr 0 0 0 0) ws #[(.int 10), (.int 1)] h0 (Q_mMin1 Z h0 n0) := by
 refine begH n0 "java/lang/Math" rfl (by decide +kernel) fun p e s m below meth c s₁ s0 hrt hlk hZ hx hby hml hown hnm X0 e0 N0 P0 => ?_
 replace P0 : PP p e below s₁ (mkF m 0 #[iv 10, iv 1] []) s0 := castPP (ef_34 m ) P0
 have P1 : PP p e below s₁ (mkF m 10 #[iv 10, iv 1] [(.int 1)]) s0 := fun q_ k_ => P0 q_ (by
  refine bt X0 hx hby b111_ rfl ?_
  refine XS.icmpYes X0.here hx rfl (pc0 := 2) (pc' := 9) rfl (hb hby d31_2) rfl (tlt ((by decide) : (1 : Int32) < (10 : Int32))).2.2.1 (by decide) (by decide) ?_
  exact bt X0 hx hby b112_ rfl k_)
 exact endI 10 #[iv 10, iv 1] (rest := []) X0 hx hrt hlk P1 (hb hby d31_10) e0 (by decide) (by decide) (show Q_mMin1 Z h0 n0 _ _ _ from ⟨rfl, N0, rfl⟩)
theorem ef_39 (m : MethodId) (x0 : Addr) (x2 : Addr) : entryFrame m #[(.ref x0), (.int 1), (.ref x2)] 4 = mkF m 0 #[.val (.ref x0), .val (.int 1), .val (.ref x2), .unset] [] := by first | (simp [entryFrame, mkF, argsToLocals, Value.category]; done) | rfl
abbrev k68_ := jdk_65_method_120_code
theorem b232_ : dl k68_ 0 [(.aload_n 2, 1)] = true := by decide +kernel
theorem d68_1 : decode k68_ 1 = .ok (.ldc 110, 2) := by decide +kernel
theorem d68_3 : decode k68_ 3 = .ok (.if_acmp .ne 10, 3) := by decide +kernel
theorem b233_ : dl k68_ 6 [(.iload_n 1, 1)] = true := by decide +kernel
theorem d68_7 : decode k68_ 7 = .ok (.anewarray 2, 3) := by decide +kernel
theorem b234_ : dl k68_ 10 [(.goto 14, 3)] = true := by decide +kernel
theorem b235_ : dl k68_ 24 [(.astore_n 3, 1), (.aload_n 0, 1), (.iconst 0, 1), (.aload_n 3, 1), (.iconst 0, 1), (.aload_n 0, 1)] = true := by decide +kernel
theorem d68_30 : decode k68_ 30 = .ok (.arraylength, 1) := by decide +kernel
theorem b236_ : dl k68_ 31 [(.iload_n 1, 1)] = true := by decide +kernel
theorem d68_32 : decode k68_ 32 = .ok (.invokestatic 304, 3) := by decide +kernel
theorem d68_35 : decode k68_ 35 = .ok (.invokestatic 150, 3) := by decide +kernel
theorem b237_ : dl k68_ 38 [(.aload_n 3, 1)] = true := by decide +kernel
theorem d68_39 : decode k68_ 39 = .ok (.areturn, 1) := by decide +kernel
def Q_cp3_1 (Z : State) (ed : Addr) (ked : ClassId) (pa mr : Addr) : QT := fun h0 n0 v h L => ∃ (ra : Addr) (kra : ClassId), v = some (.ref ra) ∧ Fr n0 L ∧ Keep h0 h [] ∧ (h0.size ≤ ra) ∧ (Arv Z h ra kra tOb (1 : Int32) [(.ref pa)] .null)
abbrev mn_69 : MethodName := ⟨"java/util/Arrays", "copyOf", "([Ljava/lang/Object;ILjava/lang/Class;)[Ljava/lang/Object;"⟩
theorem rm_cp3_1 (hw : HW a0 Z) (ed : Addr) (ked : ClassId) (pa mr : Addr) (Z0 : n0 ≤ h0.size) (V_ed : Arv Z h0 ed ked tOb (10 : Int32) [(.ref pa), .null, .null, .null, .null, .null, .null, .null, .null, .null] .null) (MIR : MirW Z dOA mr) (OL : Old Z n0 h0) (E_pa : Exa Z h0 pa cS) :
  MetP l Z mn_69 k68_ 4 (some (.array tOb)) (rr 1 1 1 18) ws #[(.ref ed), (.int 1), (.ref mr)] h0 (Q_cp3_1 Z ed ked pa mr h0 n0) := by
 refine begH n0 "java/util/Arrays" rfl (plainFor_of_name pn_5) fun p e s m below meth c s₁ s0 hrt hlk hZ hx hby hml hown hnm X0 e0 N0 P0 => ?_
 replace P0 : PP p e below s₁ (mkF m 0 #[rv ed, iv 1, rv mr, .unset] []) s0 := castPP (ef_39 m ed mr) P0
 have P1 := P0.bt X0 hx hby b232_ rfl
 obtain ⟨T2, X2, e2, st2⟩ := ldcM X0 hx hZ hown (ww hw 359 rfl) e0 MIR (g := P1.g) rfl (hb hby d68_1)
 have P3 := P1.st st2
 have P4 : PP p e below T2 (mkF m 7 #[rv ed, iv 1, rv mr, .unset] [(.int 1)]) s0 := fun q_ k_ => P3 q_ (by
  refine Jvm.RoadKit.acmp X2 hx rfl rfl rfl (pc0 := 3) (pc' := 6) (same := true) rfl (hb hby d68_3) rfl (decide_eq_true rfl) (by decide) (by decide) ?_
  exact bt X2 hx hby b233_ rfl k_)
 obtain ⟨T5, h5, k5, X5, e5, E5, A5, B5, O5, st5⟩ := newRE X2 hx hZ hown (ww hw 360 rfl) (ww hw 337 rfl) e2 (g := P4.g) rfl (hb hby d68_7) rfl (by decide) (cap := 1) (by decide) (by decide) (by decide) (by decide) (ad := dOA) (by first | rfl | decide +kernel)
 obtain ⟨b5, g5⟩ : ∃ z, z = h0.size := ⟨_, rfl⟩
 rw [← g5] at A5 B5 st5
 have P6 := P4.st st5
 have sz_b5 : h0.size ≤ b5 := Nat.le_trans (Nat.le_refl h0.size) (Nat.le_of_eq g5.symm)
 replace V_ed := V_ed.ext E5
 replace E_pa := E_pa.ext E5
 have K5 := (Keep.refl h0 []).ext E5
 obtain ⟨Lf7, X5, N7⟩ := fixL X5 N0 1 1 rfl rfl
 have V_b5 : Arv Z h5 b5 k5 tOb (1 : Int32) [.null] .null := (Arv.new A5 (by decide)).pad (pad_rep [] .null 1)
 have P8 : PP p e below T5 (mkF m 30 #[rv ed, iv 1, rv mr, rv b5] [(.ref ed), i0, (.ref b5), i0, (.ref ed)]) s0 := fun q_ k_ => P6 q_ (by
  refine bt X5 hx hby b234_ rfl ?_
  exact bt X5 hx hby b235_ rfl k_)
 obtain ⟨cl9, Ar9, -, S9, M9, -, -⟩ := id V_ed
 have P10 : PP p e below T5 (mkF m 31 #[rv ed, iv 1, rv mr, rv b5] [(.int 10), i0, (.ref b5), i0, (.ref ed)]) s0 := fun q_ k_ => P8 q_ (by
  refine X5.arraylength hx (by rw [e5]; exact Ar9.1) (State.isArrayOf_alike hZ.alike Ar9.2.1) (g := P8.g) rfl rfl (hb hby d68_30) _ ?_
  rw [len_of S9 M9]
  exact k_)
 have P11 := P10.bt X5 hx hby b236_ rfl
 obtain ⟨_, T12, L12, X12, hQ12, P12⟩ := cSt P11 X5 hx hZ hown hw e5 hml 265 266 267 268 (rm_mMin1 hw (zT Z0 K5.1)) rfl rfl rfl rfl rfl rfl [(.int 10), (.int 1)] [i0, (.ref b5), i0, (.ref ed)] 4 (lenOf pd_21 rfl) rfl (Nat.le_of_eq rfl) (hb hby d68_32) rfl (by decide)
 obtain ⟨rfl, N12q, e12⟩ := hQ12
 have N12 := Fr.app N7 N12q
 obtain ⟨clb13, Arb13, qb13, -, -, -, -⟩ := id V_b5
 obtain ⟨T13, h13, L13, X13, e13, N13, Kc13, Va13, st13⟩ := cpA X12 hx hZ hown (ww hw 269 rfl) (ww hw 165 rfl) (ww hw 163 rfl) (ww hw 164 rfl) e12 V_ed V_b5 (us := [(.ref pa)]) (Or.inr ⟨rfl, rfl, ⟨Sto.ofV Arb13 qb13 O5 (Ins.of_exa E_pa (ww hw 338 rfl)), trivial⟩⟩) (by decide) (by decide) (by decide) (by decide) (by decide) rfl (by decide) N12 (Nat.le_trans Z0 sz_b5) (g := P12.g) rfl (by rw [hml]; rfl) rfl (hb hby d68_35) (by decide) (W := 0) (by show 2 * 0 + _ ≤ _; exact Nat.le_of_eq rfl) (by decide)
 have P14 := P12.st st13
 have K13 := K5.trans Kc13 (allS (P := fun x => x ∈ [] ∨ h0.size ≤ x) (Or.inr sz_b5) all0)
 have V_b5 : Arv Z h13 b5 k5 tOb (1 : Int32) [(.ref pa)] .null := by
   have q := Va13
   exact q
 have P15 : PP p e below T13 (mkF m 39 #[rv ed, iv 1, rv mr, rv b5] [(.ref b5)]) s0 := fun q_ k_ => P14 q_ (by
  exact bt X13 hx hby b237_ rfl k_)
 exact endA 39 #[rv ed, iv 1, rv mr, rv b5] (rest := []) X13 hx hrt rfl hlk P15 (hb hby d68_39) e13 (by decide) (by decide) (show Q_cp3_1 Z ed ked pa mr h0 n0 _ _ _ from ⟨b5, k5, rfl, N13, K13, sz_b5, V_b5⟩)
theorem ef_40 (m : MethodId) (x0 : Addr) : entryFrame m #[(.ref x0), (.int 1)] 2 = mkF m 0 #[.val (.ref x0), .val (.int 1)] [] := by first | (simp [entryFrame, mkF, argsToLocals, Value.category]; done) | rfl
abbrev k69_ := jdk_65_method_119_code
theorem b238_ : dl k69_ 0 [(.aload_n 0, 1), (.iload_n 1, 1), (.aload_n 0, 1)] = true := by decide +kernel
theorem d69_3 : decode k69_ 3 = .ok (.invokevirtual 86, 3) := by decide +kernel
theorem pd_39 : parseMethodDescriptor "([Ljava/lang/Object;ILjava/lang/Class;)[Ljava/lang/Object;" = some ⟨[(.array (.object "java/lang/Object")), .int, (.object "java/lang/Class")], some (.array (.object "java/lang/Object"))⟩ := by decide +kernel
theorem d69_6 : decode k69_ 6 = .ok (.invokestatic 300, 3) := by decide +kernel
theorem d69_9 : decode k69_ 9 = .ok (.areturn, 1) := by decide +kernel
abbrev mn_70 : MethodName := ⟨"java/util/Arrays", "copyOf", "([Ljava/lang/Object;I)[Ljava/lang/Object;"⟩
theorem rm_cp2_1 (hw : HW a0 Z) (ed : Addr) (ked : ClassId) (pa mr : Addr) (Z0 : n0 ≤ h0.size) (V_ed : Arv Z h0 ed ked tOb (10 : Int32) [(.ref pa), .null, .null, .null, .null, .null, .null, .null, .null, .null] .null) (E_ed : Exa Z h0 ed dOA) (MIR : MirW Z dOA mr) (OL : Old Z n0 h0) (E_pa : Exa Z h0 pa cS) :
  MetP l Z mn_70 k69_ 2 (some (.array tOb)) (rr 2 1 1 33) ws #[(.ref ed), (.int 1)] h0 (Q_cp3_1 Z ed ked pa mr h0 n0) := by
 refine begH n0 "java/util/Arrays" rfl (plainFor_of_name pn_5) fun p e s m below meth c s₁ s0 hrt hlk hZ hx hby hml hown hnm X0 e0 N0 P0 => ?_
 replace P0 : PP p e below s₁ (mkF m 0 #[rv ed, iv 1] []) s0 := castPP (ef_40 m ed) P0
 have P1 := P0.bt X0 hx hby b238_ rfl
 obtain ⟨T2, X2, e2, st2⟩ := gclsW X0 hx hZ hown (ww hw 350 rfl) (ww hw 351 rfl) (ww hw 75 rfl) (ww hw 353 rfl) (ww hw 352 rfl) (ww hw 354 rfl) e0 E_ed MIR (g := P1.g) rfl (by rw [hml]; rfl) rfl (hb hby d69_3) (by decide) (W := 2) (by show 2 * 0 + _ ≤ _; exact Nat.le_of_eq rfl) (by decide)
 have P3 := P1.st st2
 obtain ⟨_, T4, L4, X4, hQ4, P4⟩ := cSt P3 X2 hx hZ hown hw e2 hml 356 357 257 358 (rm_cp3_1 hw ed ked pa mr Z0 V_ed MIR OL E_pa) rfl rfl rfl rfl rfl rfl [(.ref ed), (.int 1), (.ref mr)] [] 0 (lenOf pd_39 rfl) rfl (Nat.le_of_eq rfl) (hb hby d69_6) rfl (by decide)
 obtain ⟨ra_4, kra_4, rfl, N4q, Kc4, po4_0, po4_1⟩ := hQ4
 have N4 := Fr.app N0 N4q
 obtain ⟨Lf5, X4, N5⟩ := fixL X4 N4 1 1 rfl rfl
 have sz_ra_4 : h0.size ≤ ra_4 := Nat.le_trans (Nat.le_refl h0.size) po4_0
 have K4 := (Keep.refl h0 []).trans Kc4 all0
 have V_ra_4 := po4_1
 exact endA 9 #[rv ed, iv 1] (rest := []) X4 hx hrt rfl hlk P4 (hb hby d69_9) rfl (by decide) (by decide) (show Q_cp3_1 Z ed ked pa mr h0 n0 _ _ _ from ⟨ra_4, kra_4, rfl, N5, K4, sz_ra_4, V_ra_4⟩)
abbrev k70_ := jdk_38_method_16_code
theorem b239_ : dl k70_ 0 [(.aload_n 0, 1)] = true := by decide +kernel
theorem d70_1 : decode k70_ 1 = .ok (.getfield 9, 3) := by decide +kernel
theorem b240_ : dl k70_ 4 [(.aload_n 0, 1)] = true := by decide +kernel
theorem d70_5 : decode k70_ 5 = .ok (.getfield 48, 3) := by decide +kernel
theorem pd_40 : parseMethodDescriptor "([Ljava/lang/Object;I)[Ljava/lang/Object;" = some ⟨[(.array (.object "java/lang/Object")), .int], some (.array (.object "java/lang/Object"))⟩ := by decide +kernel
theorem d70_8 : decode k70_ 8 = .ok (.invokestatic 66, 3) := by decide +kernel
theorem d70_11 : decode k70_ 11 = .ok (.areturn, 1) := by decide +kernel
def Q_toArr1 (Z : State) (al : Addr) (m1 : Int32) (mr ed : Addr) (ked : ClassId) (pa : Addr) : QT := fun h0 n0 v h L => ∃ (ra : Addr) (kra : ClassId), v = some (.ref ra) ∧ Fr n0 L ∧ Keep h0 h [] ∧ (h0.size ≤ ra) ∧ (Arv Z h ra kra tOb (1 : Int32) [(.ref pa)] .null)
abbrev mn_71 : MethodName := ⟨"java/util/ArrayList", "toArray", "()[Ljava/lang/Object;"⟩
theorem rm_toArr1 (hw : HW a0 Z) (al : Addr) (m1 : Int32) (mr ed : Addr) (ked : ClassId) (pa : Addr) (Z0 : n0 ≤ h0.size) (E_al : Exa Z h0 al cAL) (Fe_al : Fld Z h0 al cAL "elementData" dOA (.ref ed)) (Fz_al : Fld Z h0 al cAL "size" "I" (.int 1)) (Fd_al : Fld Z h0 al cAb "modCount" "I" (.int m1)) (V_ed : Arv Z h0 ed ked tOb (10 : Int32) [(.ref pa), .null, .null, .null, .null, .null, .null, .null, .null, .null] .null) (E_ed : Exa Z h0 ed dOA) (MIR : MirW Z dOA mr) (OL : Old Z n0 h0) (E_pa : Exa Z h0 pa cS) :
  MetP l Z mn_71 k70_ 1 (some (.array tOb)) (rr 3 1 1 46) ws #[(.ref al)] h0 (Q_toArr1 Z al m1 mr ed ked pa h0 n0) := by
 refine begH n0 cAL rfl (plainFor_of_name pn_9) fun p e s m below meth c s₁ s0 hrt hlk hZ hx hby hml hown hnm X0 e0 N0 P0 => ?_
 replace P0 : PP p e below s₁ (mkF m 0 #[rv al] []) s0 := castPP (ef_4 m al) P0
 have P1 := P0.bt X0 hx hby b239_ rfl
 obtain ⟨T2, X2, e2, P2⟩ := gF P1 X0 hx hZ hown hw 52 e0 Fe_al (hb hby d70_1)
 have P3 : PP p e below T2 (mkF m 5 #[rv al] [(.ref al), (.ref ed)]) s0 := fun q_ k_ => P2 q_ (by
  exact bt X2 hx hby b240_ rfl k_)
 obtain ⟨T4, X4, e4, P4⟩ := gF P3 X2 hx hZ hown hw 86 e2 Fz_al (hb hby d70_5)
 obtain ⟨_, T5, L5, X5, hQ5, P5⟩ := cSt P4 X4 hx hZ hown hw e4 hml 347 348 257 349 (rm_cp2_1 hw ed ked pa mr Z0 V_ed E_ed MIR OL E_pa) rfl rfl rfl rfl rfl rfl [(.ref ed), (.int 1)] [] 0 (lenOf pd_40 rfl) rfl (Nat.le_of_eq rfl) (hb hby d70_8) rfl (by decide)
 obtain ⟨ra_5, kra_5, rfl, N5q, Kc5, po5_0, po5_1⟩ := hQ5
 have N5 := Fr.app N0 N5q
 obtain ⟨Lf6, X5, N6⟩ := fixL X5 N5 1 1 rfl rfl
 have sz_ra_5 : h0.size ≤ ra_5 := Nat.le_trans (Nat.le_refl h0.size) po5_0
 have K5 := (Keep.refl h0 []).trans Kc5 all0
 have V_ra_5 := po5_1
 exact endA 11 #[rv al] (rest := []) X5 hx hrt rfl hlk P5 (hb hby d70_11) rfl (by decide) (by decide) (show Q_toArr1 Z al m1 mr ed ked pa h0 n0 _ _ _ from ⟨ra_5, kra_5, rfl, N6, K5, sz_ra_5, V_ra_5⟩)
theorem pn_15 : plainName "java/util/ImmutableCollections$List12" = true := by first | (simp [plainName, overriddenIn]; done) | decide +kernel
abbrev k71_ := jdk_44_method_1_code
theorem b241_ : dl k71_ 0 [(.aload_n 0, 1)] = true := by decide +kernel
theorem d71_1 : decode k71_ 1 = .ok (.invokespecial 1, 3) := by decide +kernel
theorem b242_ : dl k71_ 4 [(.aload_n 0, 1), (.aload_n 1, 1)] = true := by decide +kernel
theorem pd_41 : parseMethodDescriptor "(Ljava/lang/Object;)Ljava/lang/Object;" = some ⟨[(.object "java/lang/Object")], some (.object "java/lang/Object")⟩ := by decide +kernel
theorem d71_6 : decode k71_ 6 = .ok (.invokestatic 7, 3) := by decide +kernel
theorem d71_9 : decode k71_ 9 = .ok (.putfield 13, 3) := by decide +kernel
theorem b243_ : dl k71_ 12 [(.aload_n 0, 1)] = true := by decide +kernel
theorem d71_13 : decode k71_ 13 = .ok (.getstatic 19, 3) := by decide +kernel
theorem d71_16 : decode k71_ 16 = .ok (.putfield 24, 3) := by decide +kernel
theorem d71_19 : decode k71_ 19 = .ok (.return_, 1) := by decide +kernel
def Q_l12i1 (Z : State) (ls pa em : Addr) (u1 u2 : Value) : QT := fun h0 n0 v h L => v = none ∧ Fr n0 L ∧ Keep h0 h [ls] ∧ (Exa Z h ls cL2) ∧ (Fld Z h ls cL2 "e0" dO (.ref pa)) ∧ (Fld Z h ls cL2 "e1" dO (.ref em))
abbrev mn_72 : MethodName := ⟨"java/util/ImmutableCollections$List12", "<init>", "(Ljava/lang/Object;)V"⟩
theorem rm_l12i1 (hw : HW a0 Z) (ls pa em : Addr) (u1 u2 : Value) (Z0 : n0 ≤ h0.size) (E_ls : Exa Z h0 ls cL2) (F_e0_ls : Fld Z h0 ls cL2 "e0" dO u1) (F_e1_ls : Fld Z h0 ls cL2 "e1" dO u2) (g_ls : n0 ≤ ls) (Se : SU6 Z em) (OL : Old Z n0 h0) :
  MetP l Z mn_72 k71_ 2 none (rr 4 0 0 48) ws #[(.ref ls), (.ref pa)] h0 (Q_l12i1 Z ls pa em u1 u2 h0 n0) := by
 refine begH n0 cL2 rfl (plainFor_of_name pn_15) fun p e s m below meth c s₁ s0 hrt hlk hZ hx hby hml hown hnm X0 e0 N0 P0 => ?_
 replace P0 : PP p e below s₁ (mkF m 0 #[rv ls, rv pa] []) s0 := castPP (ef_21 m ls pa) P0
 have P1 := P0.bt X0 hx hby b241_ rfl
 obtain ⟨_, T2, L2, X2, hQ2, P2⟩ := cIn P1 X0 hx hZ hown hw e0 hml 371 372 375 187 (rm_ailInit hw ls Z0) rfl rfl rfl rfl rfl rfl rfl [] [] 0 (lenOf pd_24 rfl) rfl (Nat.le_of_eq rfl) (hb hby d71_1) rfl (by decide)
 obtain ⟨rfl, N2q, e2⟩ := hQ2
 have N2 := Fr.app N0 N2q
 have P3 : PP p e below T2 (mkF m 6 #[rv ls, rv pa] [(.ref pa), (.ref ls)]) s0 := fun q_ k_ => P2 q_ (by
  exact bt X2 hx hby b242_ rfl k_)
 obtain ⟨_, T4, L4, X4, hQ4, P4⟩ := cSt P3 X2 hx hZ hown hw e2 hml 384 385 386 387 (rm_rnn hw pa Z0) rfl rfl rfl rfl rfl rfl [(.ref pa)] [(.ref ls)] 1 (lenOf pd_41 rfl) rfl (Nat.le_of_eq rfl) (hb hby d71_6) rfl (by decide)
 obtain ⟨rfl, N4q, e4⟩ := hQ4
 have N4 := Fr.app N2 N4q
 obtain ⟨T5, h5, X5, e5, W5, st5⟩ := putF X4 hx hZ hown (host := "") (Or.inl (ww hw 388 rfl)) Via.refl e4 F_e0_ls E_ls (Or.inr ⟨(ww hw 389 rfl), rfl, hnm⟩) (ww hw 365 rfl) (ty := tOb) (by decide) rfl rfl (g := P4.g) rfl rfl (hb hby d71_9)
 have P6 := P4.st st5
 have N5 := Fr.snoc X5 N4 g_ls
 have K5 := (Keep.refl h0 [ls]).wr W5 (Or.inl (mi 0))
 replace E_ls := E_ls.wr W5
 replace F_e0_ls : Fld Z h5 ls cL2 "e0" dO (.ref pa) := F_e0_ls.same W5
 replace F_e1_ls := F_e1_ls.other W5 (Or.inr (slot_ne (Or.inr (ww hw 392 rfl)) (Or.inr (ww hw 389 rfl)) (by decide) (t := tOb) (t' := tOb) (by decide) (by decide)))
 replace OL := OL.wr W5 g_ls
 have P7 := P6.bt X5 hx hby b243_ rfl
 obtain ⟨T8, X8, e8, P8⟩ := gN P7 X5 hx hZ hown hw 390 e5 (Se.ext OL.2) (hb hby d71_13)
 obtain ⟨T9, h9, X9, e9, W9, st9⟩ := putF X8 hx hZ hown (host := "") (Or.inl (ww hw 391 rfl)) Via.refl e8 F_e1_ls E_ls (Or.inr ⟨(ww hw 392 rfl), rfl, hnm⟩) (ww hw 365 rfl) (ty := tOb) (by decide) rfl rfl (g := P8.g) rfl rfl (hb hby d71_16)
 have P10 := P8.st st9
 have N9 := Fr.snoc X9 N5 g_ls
 have K9 := K5.wr W9 (Or.inl (mi 0))
 replace E_ls := E_ls.wr W9
 replace F_e0_ls := F_e0_ls.other W9 (Or.inr (slot_ne (Or.inr (ww hw 389 rfl)) (Or.inr (ww hw 392 rfl)) (by decide) (t := tOb) (t' := tOb) (by decide) (by decide)))
 replace F_e1_ls : Fld Z h9 ls cL2 "e1" dO (.ref em) := F_e1_ls.same W9
 exact endV 19 #[rv ls, rv pa] X9 hx hrt hlk P10 (hb hby d71_19) e9 (by decide) (by decide) (show Q_l12i1 Z ls pa em u1 u2 h0 n0 _ _ _ from ⟨rfl, N9, K9, E_ls, F_e0_ls, F_e1_ls⟩)
abbrev k72_ := jdk_40_method_47_code
theorem b244_ : dl k72_ 0 [(.aload_n 0, 1)] = true := by decide +kernel
theorem d72_1 : decode k72_ 1 = .ok (.arraylength, 1) := by decide +kernel
theorem d72_2 : decode k72_ 2 = .ok (.tableswitch 57 0 2 #[26, 32, 43], 26) := by decide +kernel
theorem d72_34 : decode k72_ 34 = .ok (.new 96, 3) := by decide +kernel
theorem b245_ : dl k72_ 37 [(.dup, 1), (.aload_n 0, 1), (.iconst 0, 1)] = true := by decide +kernel
theorem d72_40 : decode k72_ 40 = .ok (.aaload, 1) := by decide +kernel
theorem pd_42 : parseMethodDescriptor "(Ljava/lang/Object;)V" = some ⟨[(.object "java/lang/Object")], none⟩ := by decide +kernel
theorem d72_41 : decode k72_ 41 = .ok (.invokespecial 98, 3) := by decide +kernel
theorem d72_44 : decode k72_ 44 = .ok (.areturn, 1) := by decide +kernel
def Q_listOf1 (Z : State) (ra : Addr) (kra : ClassId) (pa em : Addr) : QT := fun h0 n0 v h L => ∃ (ls : Addr), v = some (.ref ls) ∧ Fr n0 L ∧ Keep h0 h [] ∧ (h0.size ≤ ls) ∧ (Exa Z h ls cL2) ∧ (Fld Z h ls cL2 "e0" dO (.ref pa)) ∧ (Fld Z h ls cL2 "e1" dO (.ref em))
abbrev mn_73 : MethodName := ⟨"java/util/List", "of", "([Ljava/lang/Object;)Ljava/util/List;"⟩
theorem rm_listOf1 (hw : HW a0 Z) (ra : Addr) (kra : ClassId) (pa em : Addr) (Z0 : n0 ≤ h0.size) (V_ra : Arv Z h0 ra kra tOb (1 : Int32) [(.ref pa)] .null) (Se : SU6 Z em) (OL : Old Z n0 h0) :
  MetP l Z mn_73 k72_ 2 (some (.object "java/util/List")) (rr 5 1 2 62) ws #[(.ref ra)] h0 (Q_listOf1 Z ra kra pa em h0 n0) := by
 refine begH n0 "java/util/List" rfl (plainFor_of_name pn_13) fun p e s m below meth c s₁ s0 hrt hlk hZ hx hby hml hown hnm X0 e0 N0 P0 => ?_
 replace P0 : PP p e below s₁ (mkF m 0 #[rv ra, .unset] []) s0 := castPP (ef_28 m ra) P0
 have P1 := P0.bt X0 hx hby b244_ rfl
 obtain ⟨cl2, Ar2, -, S2, M2, -, -⟩ := id V_ra
 have P3 : PP p e below s₁ (mkF m 2 #[rv ra, .unset] [(.int 1)]) s0 := fun q_ k_ => P1 q_ (by
  refine X0.arraylength hx (by rw [e0]; exact Ar2.1) (State.isArrayOf_alike hZ.alike Ar2.2.1) (g := P1.g) rfl rfl (hb hby d72_1) _ ?_
  rw [len_of S2 M2]
  exact k_)
 have P4 : PP p e below s₁ (mkF m 34 #[rv ra, .unset] []) s0 := fun q_ k_ => P3 q_ (by
  exact XS.tswIn X0.here hx rfl (pc0 := 2) (pc' := 34) (o := 32) rfl (hb hby d72_2) rfl (by decide) (by first | rfl | decide) (by decide) (by decide) k_)
 obtain ⟨T5, h5, X5, e5, E5, A5, D5, -, st5⟩ := newO X0 hx hZ hown (ww hw 364 rfl) (ww hw 365 rfl) (ww hw 366 rfl) e0 (g := P4.g) rfl (hb hby d72_34) (by decide) (by decide)
 obtain ⟨b5, g5⟩ : ∃ z, z = h0.size := ⟨_, rfl⟩
 rw [← g5] at A5 D5 st5
 have P6 := P4.st st5
 have sz_b5 : h0.size ≤ b5 := Nat.le_trans (Nat.le_refl h0.size) (Nat.le_of_eq g5.symm)
 replace V_ra := V_ra.ext E5
 replace OL := OL.ext E5
 have K5 := (Keep.refl h0 []).ext E5
 obtain ⟨Lf7, X5, N7⟩ := fixL X5 N0 1 2 rfl rfl
 have E_b5 : Exa Z h5 b5 cL2 := A5
 have F_e0_b5 : Fld Z h5 b5 cL2 "e0" dO .null := D5 (Or.inr (ww hw 389 rfl)) (ty := tOb) (by decide)
 have F_e1_b5 : Fld Z h5 b5 cL2 "e1" dO .null := D5 (Or.inr (ww hw 392 rfl)) (ty := tOb) (by decide)
 have P8 := P6.bt X5 hx hby b245_ rfl
 obtain ⟨cl9, Ar9, q9, S9, M9, Hs9, G9⟩ := id V_ra
 have hin9 := inb_of (j := (0 : Int32)) S9 ⟨by decide, by decide⟩
 have hat9 : cl9.slots[((0 : Int32)).toNatClampNeg]? = some (.ref pa) := Has.at Hs9 hin9 (rfl)
 have P10 : PP p e below T5 (mkF m 41 #[rv ra, .unset] [(.ref pa), (.ref b5), (.ref b5)]) s0 := fun q_ k_ => P8 q_ (by
  exact X5.aaload hx (j := (0 : Int32)) (v := (.ref pa)) (by rw [e5]; exact Ar9.1) (State.isArrayOf_alike hZ.alike Ar9.2.1) rfl Ar9.2.2 hin9 hat9 (g := P8.g) rfl rfl (hb hby d72_40) _ k_)
 obtain ⟨_, T11, L11, X11, hQ11, P11⟩ := cIn P10 X5 hx hZ hown hw e5 hml 367 368 370 366 (rm_l12i1 hw b5 pa em .null .null (zT Z0 K5.1) E_b5 F_e0_b5 F_e1_b5 (Nat.le_trans Z0 sz_b5) Se OL) rfl rfl rfl rfl rfl rfl rfl [(.ref pa)] [(.ref b5)] 1 (lenOf pd_42 rfl) rfl (Nat.le_of_eq rfl) (hb hby d72_41) rfl (by decide)
 obtain ⟨rfl, N11q, Kc11, po11_0, po11_1, po11_2⟩ := hQ11
 have N11 := Fr.app N7 N11q
 obtain ⟨Lf12, X11, N12⟩ := fixL X11 N11 1 2 rfl rfl
 have K11 := Kt1 K5 Kc11 (Or.inr sz_b5)
 have E_b5 := po11_0
 have F_e0_b5 := po11_1
 have F_e1_b5 := po11_2
 exact endA 44 #[rv ra, .unset] (rest := []) X11 hx hrt rfl hlk P11 (hb hby d72_44) rfl (by decide) (by decide) (show Q_listOf1 Z ra kra pa em h0 n0 _ _ _ from ⟨b5, rfl, N12, K11, sz_b5, E_b5, F_e0_b5, F_e1_b5⟩)
theorem b246_ : dl k66_ 44 [(.aload_n 0, 1)] = true := by decide +kernel
theorem d66_45 : decode k66_ 45 = .ok (.invokeinterface 30 1, 5) := by decide +kernel
abbrev mn_74 : MethodName := ⟨"java/util/Collection", "toArray", "()[Ljava/lang/Object;"⟩
theorem pd_43 : parseMethodDescriptor "([Ljava/lang/Object;)Ljava/util/List;" = some ⟨[(.array (.object "java/lang/Object"))], some (.object "java/util/List")⟩ := by decide +kernel
theorem d66_50 : decode k66_ 50 = .ok (.invokestatic 34, 3) := by decide +kernel
theorem d66_53 : decode k66_ 53 = .ok (.areturn, 1) := by decide +kernel
def Q_lCp1 (Z : State) (al : Addr) (m1 : Int32) (mr em ed : Addr) (ked : ClassId) (pa : Addr) : QT := fun h0 n0 v h L => ∃ (ls : Addr), v = some (.ref ls) ∧ Fr n0 L ∧ Keep h0 h [] ∧ (h0.size ≤ ls) ∧ (Exa Z h ls cL2) ∧ (Fld Z h ls cL2 "e0" dO (.ref pa)) ∧ (Fld Z h ls cL2 "e1" dO (.ref em))
theorem rm_lCp1 (hw : HW a0 Z) (al : Addr) (m1 : Int32) (mr em ed : Addr) (ked : ClassId) (pa : Addr) (Z0 : n0 ≤ h0.size) (E_al : Exa Z h0 al cAL) (Fe_al : Fld Z h0 al cAL "elementData" dOA (.ref ed)) (Fz_al : Fld Z h0 al cAL "size" "I" (.int 1)) (Fd_al : Fld Z h0 al cAb "modCount" "I" (.int m1)) (V_ed : Arv Z h0 ed ked tOb (10 : Int32) [(.ref pa), .null, .null, .null, .null, .null, .null, .null, .null, .null] .null) (E_ed : Exa Z h0 ed dOA) (MIR : MirW Z dOA mr) (Se : SU6 Z em) (OL : Old Z n0 h0) (E_pa : Exa Z h0 pa cS) :
  MetP l Z mn_67 k66_ 2 (some (.object "java/util/List")) (rr 6 2 3 75) ws #[(.ref al)] h0 (Q_lCp1 Z al m1 mr em ed ked pa h0 n0) := by
 refine begH n0 cIC rfl (plainFor_of_name pn_14) fun p e s m below meth c s₁ s0 hrt hlk hZ hx hby hml hown hnm X0 e0 N0 P0 => ?_
 replace P0 : PP p e below s₁ (mkF m 0 #[rv al, .unset] []) s0 := castPP (ef_28 m al) P0
 have P1 := P0.bt X0 hx hby b227_ rfl
 obtain ⟨T2, X2, e2, st2⟩ := instNo X0 hx hZ hown (ww hw 71 rfl) e0 E_al (own_inst (ww hw 72 rfl) (ww hw 73 rfl) (ww hw 74 rfl) (ww hw 75 rfl) (ww hw 395 rfl) rfl (by decide) (by decide) (by decide) (by decide)) (g := P1.g) rfl rfl (hb hby d66_1)
 have P3 := P1.st st2
 have P4 : PP p e below T2 (mkF m 8 #[rv al, .unset] [(.ref al)]) s0 := fun q_ k_ => P3 q_ (by
  refine XS.ifNo X2.here hx rfl (hb hby d66_4) rfl ((if0 _ _).trans (teq ((by decide) : (0 : Int32) = (0 : Int32))).2) ?_
  exact bt X2 hx hby b228_ rfl k_)
 obtain ⟨T5, X5, e5, st5⟩ := instNo X2 hx hZ hown (ww hw 76 rfl) e2 E_al (own_inst (ww hw 72 rfl) (ww hw 73 rfl) (ww hw 74 rfl) (ww hw 75 rfl) (ww hw 195 rfl) rfl (by decide) (by decide) (by decide) (by decide)) (g := P4.g) rfl rfl (hb hby d66_8)
 have P6 := P4.st st5
 have P7 : PP p e below T5 (mkF m 32 #[rv al, .unset] [(.ref al)]) s0 := fun q_ k_ => P6 q_ (by
  refine XS.ifYes X5.here hx rfl (pc0 := 11) (pc' := 31) rfl (hb hby d66_11) rfl ((if0 _ _).trans (teq ((by decide) : (0 : Int32) = (0 : Int32))).1) (by decide) (by decide) ?_
  exact bt X5 hx hby b229_ rfl k_)
 obtain ⟨cq8, kq8, q8a, q8b, q8c⟩ := isOf hZ e5 E_al
 obtain ⟨_, _, ⟨T8, L8, k8, n8⟩, -, X8, ⟨Lc8, hQ8, l8, y8, z8⟩, st8⟩ := X5.interfaceBack hx (xi := mn_66) (y := mn_65) hown (mw hZ hw 77 rfl) (mw hZ hw 78 rfl) (mw hZ hw 79 rfl) (mw hZ hw 80 rfl) (mw hZ hw 81 rfl) (mw hZ hw 82 rfl) (mw hZ hw 83 rfl) (mw hZ hw 84 rfl) (by decide) (backOf (W := 0) (rm_isE1 hw al Z0 Fz_al) hZ (ww hw 85 rfl) (ww hw 32 rfl) (by decide) (by decide)) q8a q8b q8c (g := P7.g) rfl (by rw [hml]; rfl) (Steps.refl _) (argsL := []) (rest := []) (lenOf pd_20 rfl) rfl (by show 2 * 0 + _ ≤ _; exact Nat.le_of_eq rfl) (hb hby d66_32) (fun _ _ => ⟨rfl, e5, (by decide : 0 + 0 ≤ _), (by decide : 0 + 0 ≤ _)⟩)
 dsimp only [Pt.U, Pt.locs, Pt.cells, Pt.slots] at X8 l8 y8 z8 st8 hQ8
 subst l8 y8 z8
 obtain ⟨rfl, N8q, e8⟩ := hQ8
 have N8 := Fr.app N0 N8q
 have P9 := P7.tr st8
 have P10 : PP p e below T8 (mkF m 45 #[rv al, .unset] [(.ref al)]) s0 := fun q_ k_ => P9 q_ (by
  refine XS.ifYes X8.here hx rfl (pc0 := 37) (pc' := 44) rfl (hb hby d66_37) rfl ((if0 _ _).trans (teq ((by decide) : (0 : Int32) = (0 : Int32))).1) (by decide) (by decide) ?_
  exact bt X8 hx hby b246_ rfl k_)
 obtain ⟨cq11, kq11, q11a, q11b, q11c⟩ := isOf hZ e8 E_al
 obtain ⟨_, _, ⟨T11, L11, k11, n11⟩, -, X11, ⟨Lc11, hQ11, l11, y11, z11⟩, st11⟩ := X8.interfaceBack hx (xi := mn_74) (y := mn_71) hown (mw hZ hw 339 rfl) (mw hZ hw 340 rfl) (mw hZ hw 341 rfl) (mw hZ hw 342 rfl) (mw hZ hw 343 rfl) (mw hZ hw 344 rfl) (mw hZ hw 345 rfl) (mw hZ hw 84 rfl) (by decide) (backOf (W := 0) (rm_toArr1 hw al m1 mr ed ked pa Z0 E_al Fe_al Fz_al Fd_al V_ed E_ed MIR OL E_pa) hZ (ww hw 346 rfl) (ww hw 32 rfl) (by decide) (by decide)) q11a q11b q11c (g := P10.g) rfl (by rw [hml]; rfl) (Steps.refl _) (argsL := []) (rest := []) (lenOf pd_35 rfl) rfl (by show 2 * 0 + _ ≤ _; exact Nat.le_of_eq rfl) (hb hby d66_45) (fun _ _ => ⟨rfl, e8, (by decide : 0 + 1 ≤ _), (by decide : 0 + 1 ≤ _)⟩)
 dsimp only [Pt.U, Pt.locs, Pt.cells, Pt.slots] at X11 l11 y11 z11 st11 hQ11
 subst l11 y11 z11
 obtain ⟨ra_11, kra_11, rfl, N11q, Kc11, po11_0, po11_1⟩ := hQ11
 have N11 := Fr.app N8 N11q
 obtain ⟨Lf12, X11, N12⟩ := fixL X11 N11 1 1 rfl rfl
 have P13 := P10.tr st11
 replace OL := OL.keep Kc11 all0
 have K11 := (Keep.refl h0 []).trans Kc11 all0
 have V_ra_11 := po11_1
 obtain ⟨_, T14, L14, X14, hQ14, P14⟩ := cSt P13 X11 hx hZ hown hw rfl hml 361 362 65 363 (rm_listOf1 hw ra_11 kra_11 pa em (zT Z0 K11.1) V_ra_11 Se OL) rfl rfl rfl rfl rfl rfl [(.ref ra_11)] [] 0 (lenOf pd_43 rfl) rfl (Nat.le_of_eq rfl) (hb hby d66_50) rfl (by decide)
 obtain ⟨ls_14, rfl, N14q, Kc14, po14_0, po14_1, po14_2, po14_3⟩ := hQ14
 have N14 := Fr.app N12 N14q
 obtain ⟨Lf15, X14, N15⟩ := fixL X14 N14 2 3 rfl rfl
 have sz_ls_14 : h0.size ≤ ls_14 := Nat.le_trans K11.1 po14_0
 have K14 := K11.trans Kc14 all0
 have E_ls_14 := po14_1
 have F_e0_ls_14 := po14_2
 have F_e1_ls_14 := po14_3
 exact endA 53 #[rv al, .unset] (rest := []) X14 hx hrt rfl hlk P14 (hb hby d66_53) rfl (by decide) (by decide) (show Q_lCp1 Z al m1 mr em ed ked pa h0 n0 _ _ _ from ⟨ls_14, rfl, N15, K14, sz_ls_14, E_ls_14, F_e0_ls_14, F_e1_ls_14⟩)
theorem rm_cpOf1 (hw : HW a0 Z) (al : Addr) (m1 : Int32) (mr em ed : Addr) (ked : ClassId) (pa : Addr) (Z0 : n0 ≤ h0.size) (E_al : Exa Z h0 al cAL) (Fe_al : Fld Z h0 al cAL "elementData" dOA (.ref ed)) (Fz_al : Fld Z h0 al cAL "size" "I" (.int 1)) (Fd_al : Fld Z h0 al cAb "modCount" "I" (.int m1)) (V_ed : Arv Z h0 ed ked tOb (10 : Int32) [(.ref pa), .null, .null, .null, .null, .null, .null, .null, .null, .null] .null) (E_ed : Exa Z h0 ed dOA) (MIR : MirW Z dOA mr) (Se : SU6 Z em) (OL : Old Z n0 h0) (E_pa : Exa Z h0 pa cS) :
  MetP l Z mn_68 k67_ 1 (some (.object "java/util/List")) (rr 7 2 3 88) ws #[(.ref al)] h0 (Q_lCp1 Z al m1 mr em ed ked pa h0 n0) := by
 refine begH n0 "java/util/List" rfl (plainFor_of_name pn_13) fun p e s m below meth c s₁ s0 hrt hlk hZ hx hby hml hown hnm X0 e0 N0 P0 => ?_
 replace P0 : PP p e below s₁ (mkF m 0 #[rv al] []) s0 := castPP (ef_4 m al) P0
 have P1 := P0.bt X0 hx hby b230_ rfl
 obtain ⟨_, T2, L2, X2, hQ2, P2⟩ := cSt P1 X0 hx hZ hown hw e0 hml 67 68 69 70 (rm_lCp1 hw al m1 mr em ed ked pa Z0 E_al Fe_al Fz_al Fd_al V_ed E_ed MIR Se OL E_pa) rfl rfl rfl rfl rfl rfl [(.ref al)] [] 0 (lenOf pd_38 rfl) rfl (Nat.le_of_eq rfl) (hb hby d67_1) rfl (by decide)
 obtain ⟨ls_2, rfl, N2q, Kc2, po2_0, po2_1, po2_2, po2_3⟩ := hQ2
 have N2 := Fr.app N0 N2q
 obtain ⟨Lf3, X2, N3⟩ := fixL X2 N2 2 3 rfl rfl
 have sz_ls_2 : h0.size ≤ ls_2 := Nat.le_trans (Nat.le_refl h0.size) po2_0
 have K2 := (Keep.refl h0 []).trans Kc2 all0
 have E_ls_2 := po2_1
 have F_e0_ls_2 := po2_2
 have F_e1_ls_2 := po2_3
 exact endA 4 #[rv al] (rest := []) X2 hx hrt rfl hlk P2 (hb hby d67_4) rfl (by decide) (by decide) (show Q_lCp1 Z al m1 mr em ed ked pa h0 n0 _ _ _ from ⟨ls_2, rfl, N3, K2, sz_ls_2, E_ls_2, F_e0_ls_2, F_e1_ls_2⟩)
theorem rm_isE2 (hw : HW a0 Z) (al : Addr) (Z0 : n0 ≤ h0.size) (Fz_al : Fld Z h0 al cAL "size" "I" (.int 2)) :
  MetP l Z mn_65 k65_ 1 (some .boolean) (rr 0 0 0 0) ws #[(.ref al)] h0 (Q_isE1 Z al h0 n0) := by
 refine begH n0 cAL rfl (plainFor_of_name pn_9) fun p e s m below meth c s₁ s0 hrt hlk hZ hx hby hml hown hnm X0 e0 N0 P0 => ?_
 replace P0 : PP p e below s₁ (mkF m 0 #[rv al] []) s0 := castPP (ef_4 m al) P0
 have P1 := P0.bt X0 hx hby b225_ rfl
 obtain ⟨T2, X2, e2, P2⟩ := gF P1 X0 hx hZ hown hw 86 e0 Fz_al (hb hby d65_1)
 have P3 : PP p e below T2 (mkF m 12 #[rv al] [i0]) s0 := fun q_ k_ => P2 q_ (by
  refine XS.ifYes X2.here hx rfl (pc0 := 4) (pc' := 11) rfl (hb hby d65_4) rfl ((if0 _ _).trans (feq ((by decide) : ¬ ((2 : Int32) = (0 : Int32)))).2) (by decide) (by decide) ?_
  exact bt X2 hx hby b231_ rfl k_)
 exact endN 12 #[rv al] (rest := []) X2 hx hrt (by simp) hlk P3 (hb hby d65_12) e2 (by decide) (by decide) (show Q_isE1 Z al h0 n0 _ _ _ from ⟨rfl, N0, rfl⟩)
theorem ef_41 (m : MethodId)  : entryFrame m #[(.int 10), (.int 2)] 2 = mkF m 0 #[.val (.int 10), .val (.int 2)] [] := by first | (simp [entryFrame, mkF, argsToLocals, Value.category]; done) | rfl
def Q_mMin2 (Z : State) : QT := fun h0 n0 v h L => v = some (.int 2) ∧ Fr n0 L ∧ h = h0
theorem rm_mMin2 (hw : HW a0 Z) (Z0 : n0 ≤ h0.size) :
  MetP l Z mn_31 k31_ 2 (some .int) (rr 0 0 0 0) ws #[(.int 10), (.int 2)] h0 (Q_mMin2 Z h0 n0) := by
 refine begH n0 "java/lang/Math" rfl (by decide +kernel) fun p e s m below meth c s₁ s0 hrt hlk hZ hx hby hml hown hnm X0 e0 N0 P0 => ?_
 replace P0 : PP p e below s₁ (mkF m 0 #[iv 10, iv 2] []) s0 := castPP (ef_41 m ) P0
 have P1 : PP p e below s₁ (mkF m 10 #[iv 10, iv 2] [(.int 2)]) s0 := fun q_ k_ => P0 q_ (by
  refine bt X0 hx hby b111_ rfl ?_
  refine XS.icmpYes X0.here hx rfl (pc0 := 2) (pc' := 9) rfl (hb hby d31_2) rfl (tlt ((by decide) : (2 : Int32) < (10 : Int32))).2.2.1 (by decide) (by decide) ?_
  exact bt X0 hx hby b112_ rfl k_)
 exact endI 10 #[iv 10, iv 2] (rest := []) X0 hx hrt hlk P1 (hb hby d31_10) e0 (by decide) (by decide) (show Q_mMin2 Z h0 n0 _ _ _ from ⟨rfl, N0, rfl⟩)
theorem ef_42 (m : MethodId) (x0 : Addr) (x2 : Addr) : entryFrame m #[(.ref x0), (.int 2), (.ref x2)] 4 = mkF m 0 #[.val (.ref x0), .val (.int 2), .val (.ref x2), .unset] [] := by first | (simp [entryFrame, mkF, argsToLocals, Value.category]; done) | rfl
def Q_cp3_2 (Z : State) (ed : Addr) (ked : ClassId) (pa pb mr : Addr) : QT := fun h0 n0 v h L => ∃ (ra : Addr) (kra : ClassId), v = some (.ref ra) ∧ Fr n0 L ∧ Keep h0 h [] ∧ (h0.size ≤ ra) ∧ (Arv Z h ra kra tOb (2 : Int32) [(.ref pa), (.ref pb)] .null)
theorem rm_cp3_2 (hw : HW a0 Z) (ed : Addr) (ked : ClassId) (pa pb mr : Addr) (Z0 : n0 ≤ h0.size) (V_ed : Arv Z h0 ed ked tOb (10 : Int32) [(.ref pa), (.ref pb), .null, .null, .null, .null, .null, .null, .null, .null] .null) (MIR : MirW Z dOA mr) (OL : Old Z n0 h0) (E_pa : Exa Z h0 pa cS) (E_pb : Exa Z h0 pb cS) :
  MetP l Z mn_69 k68_ 4 (some (.array tOb)) (rr 1 1 2 18) ws #[(.ref ed), (.int 2), (.ref mr)] h0 (Q_cp3_2 Z ed ked pa pb mr h0 n0) := by
 refine begH n0 "java/util/Arrays" rfl (plainFor_of_name pn_5) fun p e s m below meth c s₁ s0 hrt hlk hZ hx hby hml hown hnm X0 e0 N0 P0 => ?_
 replace P0 : PP p e below s₁ (mkF m 0 #[rv ed, iv 2, rv mr, .unset] []) s0 := castPP (ef_42 m ed mr) P0
 have P1 := P0.bt X0 hx hby b232_ rfl
 obtain ⟨T2, X2, e2, st2⟩ := ldcM X0 hx hZ hown (ww hw 359 rfl) e0 MIR (g := P1.g) rfl (hb hby d68_1)
 have P3 := P1.st st2
 have P4 : PP p e below T2 (mkF m 7 #[rv ed, iv 2, rv mr, .unset] [(.int 2)]) s0 := fun q_ k_ => P3 q_ (by
  refine Jvm.RoadKit.acmp X2 hx rfl rfl rfl (pc0 := 3) (pc' := 6) (same := true) rfl (hb hby d68_3) rfl (decide_eq_true rfl) (by decide) (by decide) ?_
  exact bt X2 hx hby b233_ rfl k_)
 obtain ⟨T5, h5, k5, X5, e5, E5, A5, B5, O5, st5⟩ := newRE X2 hx hZ hown (ww hw 360 rfl) (ww hw 337 rfl) e2 (g := P4.g) rfl (hb hby d68_7) rfl (by decide) (cap := 2) (by decide) (by decide) (by decide) (by decide) (ad := dOA) (by first | rfl | decide +kernel)
 obtain ⟨b5, g5⟩ : ∃ z, z = h0.size := ⟨_, rfl⟩
 rw [← g5] at A5 B5 st5
 have P6 := P4.st st5
 have sz_b5 : h0.size ≤ b5 := Nat.le_trans (Nat.le_refl h0.size) (Nat.le_of_eq g5.symm)
 replace V_ed := V_ed.ext E5
 replace E_pa := E_pa.ext E5
 replace E_pb := E_pb.ext E5
 have K5 := (Keep.refl h0 []).ext E5
 obtain ⟨Lf7, X5, N7⟩ := fixL X5 N0 1 2 rfl rfl
 have V_b5 : Arv Z h5 b5 k5 tOb (2 : Int32) [.null, .null] .null := (Arv.new A5 (by decide)).pad (pad_rep [] .null 2)
 have P8 : PP p e below T5 (mkF m 30 #[rv ed, iv 2, rv mr, rv b5] [(.ref ed), i0, (.ref b5), i0, (.ref ed)]) s0 := fun q_ k_ => P6 q_ (by
  refine bt X5 hx hby b234_ rfl ?_
  exact bt X5 hx hby b235_ rfl k_)
 obtain ⟨cl9, Ar9, -, S9, M9, -, -⟩ := id V_ed
 have P10 : PP p e below T5 (mkF m 31 #[rv ed, iv 2, rv mr, rv b5] [(.int 10), i0, (.ref b5), i0, (.ref ed)]) s0 := fun q_ k_ => P8 q_ (by
  refine X5.arraylength hx (by rw [e5]; exact Ar9.1) (State.isArrayOf_alike hZ.alike Ar9.2.1) (g := P8.g) rfl rfl (hb hby d68_30) _ ?_
  rw [len_of S9 M9]
  exact k_)
 have P11 := P10.bt X5 hx hby b236_ rfl
 obtain ⟨_, T12, L12, X12, hQ12, P12⟩ := cSt P11 X5 hx hZ hown hw e5 hml 265 266 267 268 (rm_mMin2 hw (zT Z0 K5.1)) rfl rfl rfl rfl rfl rfl [(.int 10), (.int 2)] [i0, (.ref b5), i0, (.ref ed)] 4 (lenOf pd_21 rfl) rfl (Nat.le_of_eq rfl) (hb hby d68_32) rfl (by decide)
 obtain ⟨rfl, N12q, e12⟩ := hQ12
 have N12 := Fr.app N7 N12q
 obtain ⟨clb13, Arb13, qb13, -, -, -, -⟩ := id V_b5
 obtain ⟨T13, h13, L13, X13, e13, N13, Kc13, Va13, st13⟩ := cpA X12 hx hZ hown (ww hw 269 rfl) (ww hw 165 rfl) (ww hw 163 rfl) (ww hw 164 rfl) e12 V_ed V_b5 (us := [(.ref pa), (.ref pb)]) (Or.inr ⟨rfl, rfl, ⟨Sto.ofV Arb13 qb13 O5 (Ins.of_exa E_pa (ww hw 338 rfl)), ⟨Sto.ofV Arb13 qb13 O5 (Ins.of_exa E_pb (ww hw 338 rfl)), trivial⟩⟩⟩) (by decide) (by decide) (by decide) (by decide) (by decide) rfl (by decide) N12 (Nat.le_trans Z0 sz_b5) (g := P12.g) rfl (by rw [hml]; rfl) rfl (hb hby d68_35) (by decide) (W := 0) (by show 2 * 0 + _ ≤ _; exact Nat.le_of_eq rfl) (by decide)
 have P14 := P12.st st13
 have K13 := K5.trans Kc13 (allS (P := fun x => x ∈ [] ∨ h0.size ≤ x) (Or.inr sz_b5) all0)
 have V_b5 : Arv Z h13 b5 k5 tOb (2 : Int32) [(.ref pa), (.ref pb)] .null := by
   have q := Va13
   exact q
 have P15 : PP p e below T13 (mkF m 39 #[rv ed, iv 2, rv mr, rv b5] [(.ref b5)]) s0 := fun q_ k_ => P14 q_ (by
  exact bt X13 hx hby b237_ rfl k_)
 exact endA 39 #[rv ed, iv 2, rv mr, rv b5] (rest := []) X13 hx hrt rfl hlk P15 (hb hby d68_39) e13 (by decide) (by decide) (show Q_cp3_2 Z ed ked pa pb mr h0 n0 _ _ _ from ⟨b5, k5, rfl, N13, K13, sz_b5, V_b5⟩)
theorem rm_cp2_2 (hw : HW a0 Z) (ed : Addr) (ked : ClassId) (pa pb mr : Addr) (Z0 : n0 ≤ h0.size) (V_ed : Arv Z h0 ed ked tOb (10 : Int32) [(.ref pa), (.ref pb), .null, .null, .null, .null, .null, .null, .null, .null] .null) (E_ed : Exa Z h0 ed dOA) (MIR : MirW Z dOA mr) (OL : Old Z n0 h0) (E_pa : Exa Z h0 pa cS) (E_pb : Exa Z h0 pb cS) :
  MetP l Z mn_70 k69_ 2 (some (.array tOb)) (rr 2 1 2 33) ws #[(.ref ed), (.int 2)] h0 (Q_cp3_2 Z ed ked pa pb mr h0 n0) := by
 refine begH n0 "java/util/Arrays" rfl (plainFor_of_name pn_5) fun p e s m below meth c s₁ s0 hrt hlk hZ hx hby hml hown hnm X0 e0 N0 P0 => ?_
 replace P0 : PP p e below s₁ (mkF m 0 #[rv ed, iv 2] []) s0 := castPP (ef_17 m ed) P0
 have P1 := P0.bt X0 hx hby b238_ rfl
 obtain ⟨T2, X2, e2, st2⟩ := gclsW X0 hx hZ hown (ww hw 350 rfl) (ww hw 351 rfl) (ww hw 75 rfl) (ww hw 353 rfl) (ww hw 352 rfl) (ww hw 354 rfl) e0 E_ed MIR (g := P1.g) rfl (by rw [hml]; rfl) rfl (hb hby d69_3) (by decide) (W := 2) (by show 2 * 0 + _ ≤ _; exact Nat.le_of_eq rfl) (by decide)
 have P3 := P1.st st2
 obtain ⟨_, T4, L4, X4, hQ4, P4⟩ := cSt P3 X2 hx hZ hown hw e2 hml 356 357 257 358 (rm_cp3_2 hw ed ked pa pb mr Z0 V_ed MIR OL E_pa E_pb) rfl rfl rfl rfl rfl rfl [(.ref ed), (.int 2), (.ref mr)] [] 0 (lenOf pd_39 rfl) rfl (Nat.le_of_eq rfl) (hb hby d69_6) rfl (by decide)
 obtain ⟨ra_4, kra_4, rfl, N4q, Kc4, po4_0, po4_1⟩ := hQ4
 have N4 := Fr.app N0 N4q
 obtain ⟨Lf5, X4, N5⟩ := fixL X4 N4 1 2 rfl rfl
 have sz_ra_4 : h0.size ≤ ra_4 := Nat.le_trans (Nat.le_refl h0.size) po4_0
 have K4 := (Keep.refl h0 []).trans Kc4 all0
 have V_ra_4 := po4_1
 exact endA 9 #[rv ed, iv 2] (rest := []) X4 hx hrt rfl hlk P4 (hb hby d69_9) rfl (by decide) (by decide) (show Q_cp3_2 Z ed ked pa pb mr h0 n0 _ _ _ from ⟨ra_4, kra_4, rfl, N5, K4, sz_ra_4, V_ra_4⟩)
def Q_toArr2 (Z : State) (al : Addr) (m1 : Int32) (mr ed : Addr) (ked : ClassId) (pa pb : Addr) : QT := fun h0 n0 v h L => ∃ (ra : Addr) (kra : ClassId), v = some (.ref ra) ∧ Fr n0 L ∧ Keep h0 h [] ∧ (h0.size ≤ ra) ∧ (Arv Z h ra kra tOb (2 : Int32) [(.ref pa), (.ref pb)] .null)
theorem rm_toArr2 (hw : HW a0 Z) (al : Addr) (m1 : Int32) (mr ed : Addr) (ked : ClassId) (pa pb : Addr) (Z0 : n0 ≤ h0.size) (E_al : Exa Z h0 al cAL) (Fe_al : Fld Z h0 al cAL "elementData" dOA (.ref ed)) (Fz_al : Fld Z h0 al cAL "size" "I" (.int 2)) (Fd_al : Fld Z h0 al cAb "modCount" "I" (.int m1)) (V_ed : Arv Z h0 ed ked tOb (10 : Int32) [(.ref pa), (.ref pb), .null, .null, .null, .null, .null, .null, .null, .null] .null) (E_ed : Exa Z h0 ed dOA) (MIR : MirW Z dOA mr) (OL : Old Z n0 h0) (E_pa : Exa Z h0 pa cS) (E_pb : Exa Z h0 pb cS) :
  MetP l Z mn_71 k70_ 1 (some (.array tOb)) (rr 3 1 2 46) ws #[(.ref al)] h0 (Q_toArr2 Z al m1 mr ed ked pa pb h0 n0) := by
 refine begH n0 cAL rfl (plainFor_of_name pn_9) fun p e s m below meth c s₁ s0 hrt hlk hZ hx hby hml hown hnm X0 e0 N0 P0 => ?_
 replace P0 : PP p e below s₁ (mkF m 0 #[rv al] []) s0 := castPP (ef_4 m al) P0
 have P1 := P0.bt X0 hx hby b239_ rfl
 obtain ⟨T2, X2, e2, P2⟩ := gF P1 X0 hx hZ hown hw 52 e0 Fe_al (hb hby d70_1)
 have P3 : PP p e below T2 (mkF m 5 #[rv al] [(.ref al), (.ref ed)]) s0 := fun q_ k_ => P2 q_ (by
  exact bt X2 hx hby b240_ rfl k_)
 obtain ⟨T4, X4, e4, P4⟩ := gF P3 X2 hx hZ hown hw 86 e2 Fz_al (hb hby d70_5)
 obtain ⟨_, T5, L5, X5, hQ5, P5⟩ := cSt P4 X4 hx hZ hown hw e4 hml 347 348 257 349 (rm_cp2_2 hw ed ked pa pb mr Z0 V_ed E_ed MIR OL E_pa E_pb) rfl rfl rfl rfl rfl rfl [(.ref ed), (.int 2)] [] 0 (lenOf pd_40 rfl) rfl (Nat.le_of_eq rfl) (hb hby d70_8) rfl (by decide)
 obtain ⟨ra_5, kra_5, rfl, N5q, Kc5, po5_0, po5_1⟩ := hQ5
 have N5 := Fr.app N0 N5q
 obtain ⟨Lf6, X5, N6⟩ := fixL X5 N5 1 2 rfl rfl
 have sz_ra_5 : h0.size ≤ ra_5 := Nat.le_trans (Nat.le_refl h0.size) po5_0
 have K5 := (Keep.refl h0 []).trans Kc5 all0
 have V_ra_5 := po5_1
 exact endA 11 #[rv al] (rest := []) X5 hx hrt rfl hlk P5 (hb hby d70_11) rfl (by decide) (by decide) (show Q_toArr2 Z al m1 mr ed ked pa pb h0 n0 _ _ _ from ⟨ra_5, kra_5, rfl, N6, K5, sz_ra_5, V_ra_5⟩)
theorem ef_43 (m : MethodId) (x0 : Addr) (x1 : Addr) (x2 : Addr) : entryFrame m #[(.ref x0), (.ref x1), (.ref x2)] 3 = mkF m 0 #[.val (.ref x0), .val (.ref x1), .val (.ref x2)] [] := by first | (simp [entryFrame, mkF, argsToLocals, Value.category]; done) | rfl
abbrev k73_ := jdk_44_method_2_code
theorem b247_ : dl k73_ 0 [(.aload_n 0, 1)] = true := by decide +kernel
theorem d73_1 : decode k73_ 1 = .ok (.invokespecial 1, 3) := by decide +kernel
theorem b248_ : dl k73_ 4 [(.aload_n 0, 1), (.aload_n 1, 1)] = true := by decide +kernel
theorem d73_6 : decode k73_ 6 = .ok (.invokestatic 7, 3) := by decide +kernel
theorem d73_9 : decode k73_ 9 = .ok (.putfield 13, 3) := by decide +kernel
theorem b249_ : dl k73_ 12 [(.aload_n 0, 1), (.aload_n 2, 1)] = true := by decide +kernel
theorem d73_14 : decode k73_ 14 = .ok (.invokestatic 7, 3) := by decide +kernel
theorem d73_17 : decode k73_ 17 = .ok (.putfield 24, 3) := by decide +kernel
theorem d73_20 : decode k73_ 20 = .ok (.return_, 1) := by decide +kernel
def Q_l12i2 (Z : State) (ls pa pb : Addr) (u1 u2 : Value) : QT := fun h0 n0 v h L => v = none ∧ Fr n0 L ∧ Keep h0 h [ls] ∧ (Exa Z h ls cL2) ∧ (Fld Z h ls cL2 "e0" dO (.ref pa)) ∧ (Fld Z h ls cL2 "e1" dO (.ref pb))
abbrev mn_75 : MethodName := ⟨"java/util/ImmutableCollections$List12", "<init>", "(Ljava/lang/Object;Ljava/lang/Object;)V"⟩
theorem rm_l12i2 (hw : HW a0 Z) (ls pa pb : Addr) (u1 u2 : Value) (Z0 : n0 ≤ h0.size) (E_ls : Exa Z h0 ls cL2) (F_e0_ls : Fld Z h0 ls cL2 "e0" dO u1) (F_e1_ls : Fld Z h0 ls cL2 "e1" dO u2) (g_ls : n0 ≤ ls) :
  MetP l Z mn_75 k73_ 3 none (rr 4 0 0 48) ws #[(.ref ls), (.ref pa), (.ref pb)] h0 (Q_l12i2 Z ls pa pb u1 u2 h0 n0) := by
 refine begH n0 cL2 rfl (plainFor_of_name pn_15) fun p e s m below meth c s₁ s0 hrt hlk hZ hx hby hml hown hnm X0 e0 N0 P0 => ?_
 replace P0 : PP p e below s₁ (mkF m 0 #[rv ls, rv pa, rv pb] []) s0 := castPP (ef_43 m ls pa pb) P0
 have P1 := P0.bt X0 hx hby b247_ rfl
 obtain ⟨_, T2, L2, X2, hQ2, P2⟩ := cIn P1 X0 hx hZ hown hw e0 hml 371 372 375 187 (rm_ailInit hw ls Z0) rfl rfl rfl rfl rfl rfl rfl [] [] 0 (lenOf pd_24 rfl) rfl (Nat.le_of_eq rfl) (hb hby d73_1) rfl (by decide)
 obtain ⟨rfl, N2q, e2⟩ := hQ2
 have N2 := Fr.app N0 N2q
 have P3 : PP p e below T2 (mkF m 6 #[rv ls, rv pa, rv pb] [(.ref pa), (.ref ls)]) s0 := fun q_ k_ => P2 q_ (by
  exact bt X2 hx hby b248_ rfl k_)
 obtain ⟨_, T4, L4, X4, hQ4, P4⟩ := cSt P3 X2 hx hZ hown hw e2 hml 384 385 386 387 (rm_rnn hw pa Z0) rfl rfl rfl rfl rfl rfl [(.ref pa)] [(.ref ls)] 1 (lenOf pd_41 rfl) rfl (Nat.le_of_eq rfl) (hb hby d73_6) rfl (by decide)
 obtain ⟨rfl, N4q, e4⟩ := hQ4
 have N4 := Fr.app N2 N4q
 obtain ⟨T5, h5, X5, e5, W5, st5⟩ := putF X4 hx hZ hown (host := "") (Or.inl (ww hw 388 rfl)) Via.refl e4 F_e0_ls E_ls (Or.inr ⟨(ww hw 389 rfl), rfl, hnm⟩) (ww hw 365 rfl) (ty := tOb) (by decide) rfl rfl (g := P4.g) rfl rfl (hb hby d73_9)
 have P6 := P4.st st5
 have N5 := Fr.snoc X5 N4 g_ls
 have K5 := (Keep.refl h0 [ls]).wr W5 (Or.inl (mi 0))
 replace E_ls := E_ls.wr W5
 replace F_e0_ls : Fld Z h5 ls cL2 "e0" dO (.ref pa) := F_e0_ls.same W5
 replace F_e1_ls := F_e1_ls.other W5 (Or.inr (slot_ne (Or.inr (ww hw 392 rfl)) (Or.inr (ww hw 389 rfl)) (by decide) (t := tOb) (t' := tOb) (by decide) (by decide)))
 have P7 := P6.bt X5 hx hby b249_ rfl
 obtain ⟨_, T8, L8, X8, hQ8, P8⟩ := cSt P7 X5 hx hZ hown hw e5 hml 384 385 386 387 (rm_rnn hw pb (zT Z0 K5.1)) rfl rfl rfl rfl rfl rfl [(.ref pb)] [(.ref ls)] 1 (lenOf pd_41 rfl) rfl (Nat.le_of_eq rfl) (hb hby d73_14) rfl (by decide)
 obtain ⟨rfl, N8q, e8⟩ := hQ8
 have N8 := Fr.app N5 N8q
 obtain ⟨T9, h9, X9, e9, W9, st9⟩ := putF X8 hx hZ hown (host := "") (Or.inl (ww hw 391 rfl)) Via.refl e8 F_e1_ls E_ls (Or.inr ⟨(ww hw 392 rfl), rfl, hnm⟩) (ww hw 365 rfl) (ty := tOb) (by decide) rfl rfl (g := P8.g) rfl rfl (hb hby d73_17)
 have P10 := P8.st st9
 have N9 := Fr.snoc X9 N8 g_ls
 have K9 := K5.wr W9 (Or.inl (mi 0))
 replace E_ls := E_ls.wr W9
 replace F_e0_ls := F_e0_ls.other W9 (Or.inr (slot_ne (Or.inr (ww hw 389 rfl)) (Or.inr (ww hw 392 rfl)) (by decide) (t := tOb) (t' := tOb) (by decide) (by decide)))
 replace F_e1_ls : Fld Z h9 ls cL2 "e1" dO (.ref pb) := F_e1_ls.same W9
 exact endV 20 #[rv ls, rv pa, rv pb] X9 hx hrt hlk P10 (hb hby d73_20) e9 (by decide) (by decide) (show Q_l12i2 Z ls pa pb u1 u2 h0 n0 _ _ _ from ⟨rfl, N9, K9, E_ls, F_e0_ls, F_e1_ls⟩)
theorem d72_45 : decode k72_ 45 = .ok (.new 96, 3) := by decide +kernel
theorem b250_ : dl k72_ 48 [(.dup, 1), (.aload_n 0, 1), (.iconst 0, 1)] = true := by decide +kernel
theorem d72_51 : decode k72_ 51 = .ok (.aaload, 1) := by decide +kernel
theorem b251_ : dl k72_ 52 [(.aload_n 0, 1), (.iconst 1, 1)] = true := by decide +kernel
theorem d72_54 : decode k72_ 54 = .ok (.aaload, 1) := by decide +kernel
theorem pd_44 : parseMethodDescriptor "(Ljava/lang/Object;Ljava/lang/Object;)V" = some ⟨[(.object "java/lang/Object"), (.object "java/lang/Object")], none⟩ := by decide +kernel
theorem d72_55 : decode k72_ 55 = .ok (.invokespecial 100, 3) := by decide +kernel
theorem d72_58 : decode k72_ 58 = .ok (.areturn, 1) := by decide +kernel
def Q_listOf2 (Z : State) (ra : Addr) (kra : ClassId) (pa pb em : Addr) : QT := fun h0 n0 v h L => ∃ (ls : Addr), v = some (.ref ls) ∧ Fr n0 L ∧ Keep h0 h [] ∧ (h0.size ≤ ls) ∧ (Exa Z h ls cL2) ∧ (Fld Z h ls cL2 "e0" dO (.ref pa)) ∧ (Fld Z h ls cL2 "e1" dO (.ref pb))
theorem rm_listOf2 (hw : HW a0 Z) (ra : Addr) (kra : ClassId) (pa pb em : Addr) (Z0 : n0 ≤ h0.size) (V_ra : Arv Z h0 ra kra tOb (2 : Int32) [(.ref pa), (.ref pb)] .null) (Se : SU6 Z em) (OL : Old Z n0 h0) :
  MetP l Z mn_73 k72_ 2 (some (.object "java/util/List")) (rr 5 1 2 63) ws #[(.ref ra)] h0 (Q_listOf2 Z ra kra pa pb em h0 n0) := by
 refine begH n0 "java/util/List" rfl (plainFor_of_name pn_13) fun p e s m below meth c s₁ s0 hrt hlk hZ hx hby hml hown hnm X0 e0 N0 P0 => ?_
 replace P0 : PP p e below s₁ (mkF m 0 #[rv ra, .unset] []) s0 := castPP (ef_28 m ra) P0
 have P1 := P0.bt X0 hx hby b244_ rfl
 obtain ⟨cl2, Ar2, -, S2, M2, -, -⟩ := id V_ra
 have P3 : PP p e below s₁ (mkF m 2 #[rv ra, .unset] [(.int 2)]) s0 := fun q_ k_ => P1 q_ (by
  refine X0.arraylength hx (by rw [e0]; exact Ar2.1) (State.isArrayOf_alike hZ.alike Ar2.2.1) (g := P1.g) rfl rfl (hb hby d72_1) _ ?_
  rw [len_of S2 M2]
  exact k_)
 have P4 : PP p e below s₁ (mkF m 45 #[rv ra, .unset] []) s0 := fun q_ k_ => P3 q_ (by
  exact XS.tswIn X0.here hx rfl (pc0 := 2) (pc' := 45) (o := 43) rfl (hb hby d72_2) rfl (by decide) (by first | rfl | decide) (by decide) (by decide) k_)
 obtain ⟨T5, h5, X5, e5, E5, A5, D5, -, st5⟩ := newO X0 hx hZ hown (ww hw 364 rfl) (ww hw 365 rfl) (ww hw 366 rfl) e0 (g := P4.g) rfl (hb hby d72_45) (by decide) (by decide)
 obtain ⟨b5, g5⟩ : ∃ z, z = h0.size := ⟨_, rfl⟩
 rw [← g5] at A5 D5 st5
 have P6 := P4.st st5
 have sz_b5 : h0.size ≤ b5 := Nat.le_trans (Nat.le_refl h0.size) (Nat.le_of_eq g5.symm)
 replace V_ra := V_ra.ext E5
 have K5 := (Keep.refl h0 []).ext E5
 obtain ⟨Lf7, X5, N7⟩ := fixL X5 N0 1 2 rfl rfl
 have E_b5 : Exa Z h5 b5 cL2 := A5
 have F_e0_b5 : Fld Z h5 b5 cL2 "e0" dO .null := D5 (Or.inr (ww hw 389 rfl)) (ty := tOb) (by decide)
 have F_e1_b5 : Fld Z h5 b5 cL2 "e1" dO .null := D5 (Or.inr (ww hw 392 rfl)) (ty := tOb) (by decide)
 have P8 := P6.bt X5 hx hby b250_ rfl
 obtain ⟨cl9, Ar9, q9, S9, M9, Hs9, G9⟩ := id V_ra
 have hin9 := inb_of (j := (0 : Int32)) S9 ⟨by decide, by decide⟩
 have hat9 : cl9.slots[((0 : Int32)).toNatClampNeg]? = some (.ref pa) := Has.at Hs9 hin9 (rfl)
 have P10 : PP p e below T5 (mkF m 52 #[rv ra, .unset] [(.ref pa), (.ref b5), (.ref b5)]) s0 := fun q_ k_ => P8 q_ (by
  exact X5.aaload hx (j := (0 : Int32)) (v := (.ref pa)) (by rw [e5]; exact Ar9.1) (State.isArrayOf_alike hZ.alike Ar9.2.1) rfl Ar9.2.2 hin9 hat9 (g := P8.g) rfl rfl (hb hby d72_51) _ k_)
 have P11 := P10.bt X5 hx hby b251_ rfl
 obtain ⟨cl12, Ar12, q12, S12, M12, Hs12, G12⟩ := id V_ra
 have hin12 := inb_of (j := (1 : Int32)) S12 ⟨by decide, by decide⟩
 have hat12 : cl12.slots[((1 : Int32)).toNatClampNeg]? = some (.ref pb) := Has.at Hs12 hin12 (rfl)
 have P13 : PP p e below T5 (mkF m 55 #[rv ra, .unset] [(.ref pb), (.ref pa), (.ref b5), (.ref b5)]) s0 := fun q_ k_ => P11 q_ (by
  exact X5.aaload hx (j := (1 : Int32)) (v := (.ref pb)) (by rw [e5]; exact Ar12.1) (State.isArrayOf_alike hZ.alike Ar12.2.1) rfl Ar12.2.2 hin12 hat12 (g := P11.g) rfl rfl (hb hby d72_54) _ k_)
 obtain ⟨_, T14, L14, X14, hQ14, P14⟩ := cIn P13 X5 hx hZ hown hw e5 hml 434 435 436 366 (rm_l12i2 hw b5 pa pb .null .null (zT Z0 K5.1) E_b5 F_e0_b5 F_e1_b5 (Nat.le_trans Z0 sz_b5)) rfl rfl rfl rfl rfl rfl rfl [(.ref pa), (.ref pb)] [(.ref b5)] 1 (lenOf pd_44 rfl) rfl (Nat.le_of_eq rfl) (hb hby d72_55) rfl (by decide)
 obtain ⟨rfl, N14q, Kc14, po14_0, po14_1, po14_2⟩ := hQ14
 have N14 := Fr.app N7 N14q
 obtain ⟨Lf15, X14, N15⟩ := fixL X14 N14 1 2 rfl rfl
 have K14 := Kt1 K5 Kc14 (Or.inr sz_b5)
 have E_b5 := po14_0
 have F_e0_b5 := po14_1
 have F_e1_b5 := po14_2
 exact endA 58 #[rv ra, .unset] (rest := []) X14 hx hrt rfl hlk P14 (hb hby d72_58) rfl (by decide) (by decide) (show Q_listOf2 Z ra kra pa pb em h0 n0 _ _ _ from ⟨b5, rfl, N15, K14, sz_b5, E_b5, F_e0_b5, F_e1_b5⟩)
def Q_lCp2 (Z : State) (al : Addr) (m1 : Int32) (mr em ed : Addr) (ked : ClassId) (pa pb : Addr) : QT := fun h0 n0 v h L => ∃ (ls : Addr), v = some (.ref ls) ∧ Fr n0 L ∧ Keep h0 h [] ∧ (h0.size ≤ ls) ∧ (Exa Z h ls cL2) ∧ (Fld Z h ls cL2 "e0" dO (.ref pa)) ∧ (Fld Z h ls cL2 "e1" dO (.ref pb))
theorem rm_lCp2 (hw : HW a0 Z) (al : Addr) (m1 : Int32) (mr em ed : Addr) (ked : ClassId) (pa pb : Addr) (Z0 : n0 ≤ h0.size) (E_al : Exa Z h0 al cAL) (Fe_al : Fld Z h0 al cAL "elementData" dOA (.ref ed)) (Fz_al : Fld Z h0 al cAL "size" "I" (.int 2)) (Fd_al : Fld Z h0 al cAb "modCount" "I" (.int m1)) (V_ed : Arv Z h0 ed ked tOb (10 : Int32) [(.ref pa), (.ref pb), .null, .null, .null, .null, .null, .null, .null, .null] .null) (E_ed : Exa Z h0 ed dOA) (MIR : MirW Z dOA mr) (Se : SU6 Z em) (OL : Old Z n0 h0) (E_pa : Exa Z h0 pa cS) (E_pb : Exa Z h0 pb cS) :
  MetP l Z mn_67 k66_ 2 (some (.object "java/util/List")) (rr 6 2 4 76) ws #[(.ref al)] h0 (Q_lCp2 Z al m1 mr em ed ked pa pb h0 n0) := by
 refine begH n0 cIC rfl (plainFor_of_name pn_14) fun p e s m below meth c s₁ s0 hrt hlk hZ hx hby hml hown hnm X0 e0 N0 P0 => ?_
 replace P0 : PP p e below s₁ (mkF m 0 #[rv al, .unset] []) s0 := castPP (ef_28 m al) P0
 have P1 := P0.bt X0 hx hby b227_ rfl
 obtain ⟨T2, X2, e2, st2⟩ := instNo X0 hx hZ hown (ww hw 71 rfl) e0 E_al (own_inst (ww hw 72 rfl) (ww hw 73 rfl) (ww hw 74 rfl) (ww hw 75 rfl) (ww hw 395 rfl) rfl (by decide) (by decide) (by decide) (by decide)) (g := P1.g) rfl rfl (hb hby d66_1)
 have P3 := P1.st st2
 have P4 : PP p e below T2 (mkF m 8 #[rv al, .unset] [(.ref al)]) s0 := fun q_ k_ => P3 q_ (by
  refine XS.ifNo X2.here hx rfl (hb hby d66_4) rfl ((if0 _ _).trans (teq ((by decide) : (0 : Int32) = (0 : Int32))).2) ?_
  exact bt X2 hx hby b228_ rfl k_)
 obtain ⟨T5, X5, e5, st5⟩ := instNo X2 hx hZ hown (ww hw 76 rfl) e2 E_al (own_inst (ww hw 72 rfl) (ww hw 73 rfl) (ww hw 74 rfl) (ww hw 75 rfl) (ww hw 195 rfl) rfl (by decide) (by decide) (by decide) (by decide)) (g := P4.g) rfl rfl (hb hby d66_8)
 have P6 := P4.st st5
 have P7 : PP p e below T5 (mkF m 32 #[rv al, .unset] [(.ref al)]) s0 := fun q_ k_ => P6 q_ (by
  refine XS.ifYes X5.here hx rfl (pc0 := 11) (pc' := 31) rfl (hb hby d66_11) rfl ((if0 _ _).trans (teq ((by decide) : (0 : Int32) = (0 : Int32))).1) (by decide) (by decide) ?_
  exact bt X5 hx hby b229_ rfl k_)
 obtain ⟨cq8, kq8, q8a, q8b, q8c⟩ := isOf hZ e5 E_al
 obtain ⟨_, _, ⟨T8, L8, k8, n8⟩, -, X8, ⟨Lc8, hQ8, l8, y8, z8⟩, st8⟩ := X5.interfaceBack hx (xi := mn_66) (y := mn_65) hown (mw hZ hw 77 rfl) (mw hZ hw 78 rfl) (mw hZ hw 79 rfl) (mw hZ hw 80 rfl) (mw hZ hw 81 rfl) (mw hZ hw 82 rfl) (mw hZ hw 83 rfl) (mw hZ hw 84 rfl) (by decide) (backOf (W := 0) (rm_isE2 hw al Z0 Fz_al) hZ (ww hw 85 rfl) (ww hw 32 rfl) (by decide) (by decide)) q8a q8b q8c (g := P7.g) rfl (by rw [hml]; rfl) (Steps.refl _) (argsL := []) (rest := []) (lenOf pd_20 rfl) rfl (by show 2 * 0 + _ ≤ _; exact Nat.le_of_eq rfl) (hb hby d66_32) (fun _ _ => ⟨rfl, e5, (by decide : 0 + 0 ≤ _), (by decide : 0 + 0 ≤ _)⟩)
 dsimp only [Pt.U, Pt.locs, Pt.cells, Pt.slots] at X8 l8 y8 z8 st8 hQ8
 subst l8 y8 z8
 obtain ⟨rfl, N8q, e8⟩ := hQ8
 have N8 := Fr.app N0 N8q
 have P9 := P7.tr st8
 have P10 : PP p e below T8 (mkF m 45 #[rv al, .unset] [(.ref al)]) s0 := fun q_ k_ => P9 q_ (by
  refine XS.ifYes X8.here hx rfl (pc0 := 37) (pc' := 44) rfl (hb hby d66_37) rfl ((if0 _ _).trans (teq ((by decide) : (0 : Int32) = (0 : Int32))).1) (by decide) (by decide) ?_
  exact bt X8 hx hby b246_ rfl k_)
 obtain ⟨cq11, kq11, q11a, q11b, q11c⟩ := isOf hZ e8 E_al
 obtain ⟨_, _, ⟨T11, L11, k11, n11⟩, -, X11, ⟨Lc11, hQ11, l11, y11, z11⟩, st11⟩ := X8.interfaceBack hx (xi := mn_74) (y := mn_71) hown (mw hZ hw 339 rfl) (mw hZ hw 340 rfl) (mw hZ hw 341 rfl) (mw hZ hw 342 rfl) (mw hZ hw 343 rfl) (mw hZ hw 344 rfl) (mw hZ hw 345 rfl) (mw hZ hw 84 rfl) (by decide) (backOf (W := 0) (rm_toArr2 hw al m1 mr ed ked pa pb Z0 E_al Fe_al Fz_al Fd_al V_ed E_ed MIR OL E_pa E_pb) hZ (ww hw 346 rfl) (ww hw 32 rfl) (by decide) (by decide)) q11a q11b q11c (g := P10.g) rfl (by rw [hml]; rfl) (Steps.refl _) (argsL := []) (rest := []) (lenOf pd_35 rfl) rfl (by show 2 * 0 + _ ≤ _; exact Nat.le_of_eq rfl) (hb hby d66_45) (fun _ _ => ⟨rfl, e8, (by decide : 0 + 1 ≤ _), (by decide : 0 + 2 ≤ _)⟩)
 dsimp only [Pt.U, Pt.locs, Pt.cells, Pt.slots] at X11 l11 y11 z11 st11 hQ11
 subst l11 y11 z11
 obtain ⟨ra_11, kra_11, rfl, N11q, Kc11, po11_0, po11_1⟩ := hQ11
 have N11 := Fr.app N8 N11q
 obtain ⟨Lf12, X11, N12⟩ := fixL X11 N11 1 2 rfl rfl
 have P13 := P10.tr st11
 replace OL := OL.keep Kc11 all0
 have K11 := (Keep.refl h0 []).trans Kc11 all0
 have V_ra_11 := po11_1
 obtain ⟨_, T14, L14, X14, hQ14, P14⟩ := cSt P13 X11 hx hZ hown hw rfl hml 361 362 65 363 (rm_listOf2 hw ra_11 kra_11 pa pb em (zT Z0 K11.1) V_ra_11 Se OL) rfl rfl rfl rfl rfl rfl [(.ref ra_11)] [] 0 (lenOf pd_43 rfl) rfl (Nat.le_of_eq rfl) (hb hby d66_50) rfl (by decide)
 obtain ⟨ls_14, rfl, N14q, Kc14, po14_0, po14_1, po14_2, po14_3⟩ := hQ14
 have N14 := Fr.app N12 N14q
 obtain ⟨Lf15, X14, N15⟩ := fixL X14 N14 2 4 rfl rfl
 have sz_ls_14 : h0.size ≤ ls_14 := Nat.le_trans K11.1 po14_0
 have K14 := K11.trans Kc14 all0
 have E_ls_14 := po14_1
 have F_e0_ls_14 := po14_2
 have F_e1_ls_14 := po14_3
 exact endA 53 #[rv al, .unset] (rest := []) X14 hx hrt rfl hlk P14 (hb hby d66_53) rfl (by decide) (by decide) (show Q_lCp2 Z al m1 mr em ed ked pa pb h0 n0 _ _ _ from ⟨ls_14, rfl, N15, K14, sz_ls_14, E_ls_14, F_e0_ls_14, F_e1_ls_14⟩)
theorem rm_cpOf2 (hw : HW a0 Z) (al : Addr) (m1 : Int32) (mr em ed : Addr) (ked : ClassId) (pa pb : Addr) (Z0 : n0 ≤ h0.size) (E_al : Exa Z h0 al cAL) (Fe_al : Fld Z h0 al cAL "elementData" dOA (.ref ed)) (Fz_al : Fld Z h0 al cAL "size" "I" (.int 2)) (Fd_al : Fld Z h0 al cAb "modCount" "I" (.int m1)) (V_ed : Arv Z h0 ed ked tOb (10 : Int32) [(.ref pa), (.ref pb), .null, .null, .null, .null, .null, .null, .null, .null] .null) (E_ed : Exa Z h0 ed dOA) (MIR : MirW Z dOA mr) (Se : SU6 Z em) (OL : Old Z n0 h0) (E_pa : Exa Z h0 pa cS) (E_pb : Exa Z h0 pb cS) :
  MetP l Z mn_68 k67_ 1 (some (.object "java/util/List")) (rr 7 2 4 89) ws #[(.ref al)] h0 (Q_lCp2 Z al m1 mr em ed ked pa pb h0 n0) := by
 refine begH n0 "java/util/List" rfl (plainFor_of_name pn_13) fun p e s m below meth c s₁ s0 hrt hlk hZ hx hby hml hown hnm X0 e0 N0 P0 => ?_
 replace P0 : PP p e below s₁ (mkF m 0 #[rv al] []) s0 := castPP (ef_4 m al) P0
 have P1 := P0.bt X0 hx hby b230_ rfl
 obtain ⟨_, T2, L2, X2, hQ2, P2⟩ := cSt P1 X0 hx hZ hown hw e0 hml 67 68 69 70 (rm_lCp2 hw al m1 mr em ed ked pa pb Z0 E_al Fe_al Fz_al Fd_al V_ed E_ed MIR Se OL E_pa E_pb) rfl rfl rfl rfl rfl rfl [(.ref al)] [] 0 (lenOf pd_38 rfl) rfl (Nat.le_of_eq rfl) (hb hby d67_1) rfl (by decide)
 obtain ⟨ls_2, rfl, N2q, Kc2, po2_0, po2_1, po2_2, po2_3⟩ := hQ2
 have N2 := Fr.app N0 N2q
 obtain ⟨Lf3, X2, N3⟩ := fixL X2 N2 2 4 rfl rfl
 have sz_ls_2 : h0.size ≤ ls_2 := Nat.le_trans (Nat.le_refl h0.size) po2_0
 have K2 := (Keep.refl h0 []).trans Kc2 all0
 have E_ls_2 := po2_1
 have F_e0_ls_2 := po2_2
 have F_e1_ls_2 := po2_3
 exact endA 4 #[rv al] (rest := []) X2 hx hrt rfl hlk P2 (hb hby d67_4) rfl (by decide) (by decide) (show Q_lCp2 Z al m1 mr em ed ked pa pb h0 n0 _ _ _ from ⟨ls_2, rfl, N3, K2, sz_ls_2, E_ls_2, F_e0_ls_2, F_e1_ls_2⟩)
theorem pn_16 : plainName "java/util/ImmutableCollections$ListN" = true := by first | (simp [plainName, overriddenIn]; done) | decide +kernel
abbrev k74_ := jdk_45_method_3_code
theorem b252_ : dl k74_ 0 [(.aload_n 0, 1)] = true := by decide +kernel
theorem d74_1 : decode k74_ 1 = .ok (.getfield 7, 3) := by decide +kernel
theorem d74_4 : decode k74_ 4 = .ok (.arraylength, 1) := by decide +kernel
theorem d74_5 : decode k74_ 5 = .ok (.ireturn, 1) := by decide +kernel
def Q_size0 (Z : State) (el ee : Addr) (kee : ClassId) : QT := fun h0 n0 v h L => v = some i0 ∧ Fr n0 L ∧ h = h0
abbrev mn_76 : MethodName := ⟨"java/util/ImmutableCollections$ListN", "size", "()I"⟩
theorem rm_size0 (hw : HW a0 Z) (el ee : Addr) (kee : ClassId) (Z0 : n0 ≤ h0.size) (F_elements_el : Fld Z h0 el cLN "elements" dOA (.ref ee)) (V_ee : Arv Z h0 ee kee tOb (0 : Int32) [] .null) :
  MetP l Z mn_76 k74_ 1 (some .int) (rr 0 0 0 0) ws #[(.ref el)] h0 (Q_size0 Z el ee kee h0 n0) := by
 refine begH n0 cLN rfl (plainFor_of_name pn_16) fun p e s m below meth c s₁ s0 hrt hlk hZ hx hby hml hown hnm X0 e0 N0 P0 => ?_
 replace P0 : PP p e below s₁ (mkF m 0 #[rv el] []) s0 := castPP (ef_4 m el) P0
 have P1 := P0.bt X0 hx hby b252_ rfl
 obtain ⟨T2, X2, e2, P2⟩ := gF P1 X0 hx hZ hown hw 199 e0 F_elements_el (hb hby d74_1)
 obtain ⟨cl3, Ar3, -, S3, M3, -, -⟩ := id V_ee
 have P4 : PP p e below T2 (mkF m 5 #[rv el] [i0]) s0 := fun q_ k_ => P2 q_ (by
  refine X2.arraylength hx (by rw [e2]; exact Ar3.1) (State.isArrayOf_alike hZ.alike Ar3.2.1) (g := P2.g) rfl rfl (hb hby d74_4) _ ?_
  rw [len_of S3 M3]
  exact k_)
 exact endI 5 #[rv el] (rest := []) X2 hx hrt hlk P4 (hb hby d74_5) e2 (by decide) (by decide) (show Q_size0 Z el ee kee h0 n0 _ _ _ from ⟨rfl, N0, rfl⟩)
theorem pn_17 : plainName "java/util/ImmutableCollections$ListItr" = true := by first | (simp [plainName, overriddenIn]; done) | decide +kernel
abbrev k75_ := jdk_53_method_1_code
theorem b253_ : dl k75_ 0 [(.aload_n 0, 1)] = true := by decide +kernel
theorem d75_1 : decode k75_ 1 = .ok (.invokespecial 1, 3) := by decide +kernel
theorem b254_ : dl k75_ 4 [(.aload_n 0, 1), (.aload_n 1, 1)] = true := by decide +kernel
theorem d75_6 : decode k75_ 6 = .ok (.putfield 7, 3) := by decide +kernel
theorem b255_ : dl k75_ 9 [(.aload_n 0, 1), (.iload_n 2, 1)] = true := by decide +kernel
theorem d75_11 : decode k75_ 11 = .ok (.putfield 13, 3) := by decide +kernel
theorem b256_ : dl k75_ 14 [(.aload_n 0, 1), (.iconst 0, 1)] = true := by decide +kernel
theorem d75_16 : decode k75_ 16 = .ok (.putfield 17, 3) := by decide +kernel
theorem b257_ : dl k75_ 19 [(.aload_n 0, 1), (.iconst 0, 1)] = true := by decide +kernel
theorem d75_21 : decode k75_ 21 = .ok (.putfield 20, 3) := by decide +kernel
theorem d75_24 : decode k75_ 24 = .ok (.return_, 1) := by decide +kernel
def Q_itInit (Z : State) (it ls : Addr) (nz : Int32) (u1 u2 u3 u4 : Value) : QT := fun h0 n0 v h L => v = none ∧ Fr n0 L ∧ Keep h0 h [it] ∧ (Exa Z h it cLI) ∧ (Fld Z h it cLI "list" dL (.ref ls)) ∧ (Fld Z h it cLI "size" "I" (.int nz)) ∧ (Fld Z h it cLI "cursor" "I" i0)
abbrev mn_77 : MethodName := ⟨"java/util/ImmutableCollections$ListItr", "<init>", "(Ljava/util/List;I)V"⟩
theorem rm_itInit (hw : HW a0 Z) (it ls : Addr) (nz : Int32) (u1 u2 u3 u4 : Value) (Z0 : n0 ≤ h0.size) (E_it : Exa Z h0 it cLI) (F_list_it : Fld Z h0 it cLI "list" dL u1) (Fz_it : Fld Z h0 it cLI "size" "I" u2) (F_cursor_it : Fld Z h0 it cLI "cursor" "I" u3) (F_isListIterator_it : Fld Z h0 it cLI "isListIterator" "Z" u4) (g_it : n0 ≤ it) :
  MetP l Z mn_77 k75_ 3 none (rr 1 0 0 12) ws #[(.ref it), (.ref ls), (.int nz)] h0 (Q_itInit Z it ls nz u1 u2 u3 u4 h0 n0) := by
 refine begH n0 cLI rfl (plainFor_of_name pn_17) fun p e s m below meth c s₁ s0 hrt hlk hZ hx hby hml hown hnm X0 e0 N0 P0 => ?_
 replace P0 : PP p e below s₁ (mkF m 0 #[rv it, rv ls, iv nz] []) s0 := castPP (ef_16 m it ls nz) P0
 have P1 := P0.bt X0 hx hby b253_ rfl
 obtain ⟨T2, X2, e2, st2⟩ := initO X0 hx hZ hown (ww hw 205 rfl) (ww hw 12 rfl) (ww hw 13 rfl) e0 (g := P1.g) rfl (by rw [hml]; rfl) rfl (hb hby d75_1) (by decide) (W := 0) (by show 2 * 0 + _ ≤ _; exact Nat.le_of_eq rfl) (by decide)
 have P3 := P1.st st2
 have P4 : PP p e below T2 (mkF m 6 #[rv it, rv ls, iv nz] [(.ref ls), (.ref it)]) s0 := fun q_ k_ => P3 q_ (by
  exact bt X2 hx hby b254_ rfl k_)
 obtain ⟨T5, h5, X5, e5, W5, st5⟩ := putF X2 hx hZ hown (host := "") (Or.inl (ww hw 206 rfl)) Via.refl e2 F_list_it E_it (Or.inr ⟨(ww hw 207 rfl), rfl, hnm⟩) (ww hw 190 rfl) (ty := (.object "java/util/List")) (by decide) rfl rfl (g := P4.g) rfl rfl (hb hby d75_6)
 have P6 := P4.st st5
 have N5 := Fr.snoc X5 N0 g_it
 have K5 := (Keep.refl h0 [it]).wr W5 (Or.inl (mi 0))
 replace E_it := E_it.wr W5
 replace F_list_it : Fld Z h5 it cLI "list" dL (.ref ls) := F_list_it.same W5
 replace Fz_it := Fz_it.other W5 (Or.inr (slot_ne (Or.inr (ww hw 209 rfl)) (Or.inr (ww hw 207 rfl)) (by decide) (t := .int) (t' := (.object "java/util/List")) (by decide) (by decide)))
 replace F_cursor_it := F_cursor_it.other W5 (Or.inr (slot_ne (Or.inl (ww hw 211 rfl)) (Or.inr (ww hw 207 rfl)) (by decide) (t := .int) (t' := (.object "java/util/List")) (by decide) (by decide)))
 replace F_isListIterator_it := F_isListIterator_it.other W5 (Or.inr (slot_ne (Or.inr (ww hw 213 rfl)) (Or.inr (ww hw 207 rfl)) (by decide) (t := .boolean) (t' := (.object "java/util/List")) (by decide) (by decide)))
 have P7 := P6.bt X5 hx hby b255_ rfl
 obtain ⟨T8, h8, X8, e8, W8, st8⟩ := putF X5 hx hZ hown (host := "") (Or.inl (ww hw 208 rfl)) Via.refl e5 Fz_it E_it (Or.inr ⟨(ww hw 209 rfl), rfl, hnm⟩) (ww hw 190 rfl) (ty := .int) (by decide) rfl rfl (g := P7.g) rfl rfl (hb hby d75_11)
 have P9 := P7.st st8
 have N8 := Fr.snoc X8 N5 g_it
 have K8 := K5.wr W8 (Or.inl (mi 0))
 replace E_it := E_it.wr W8
 replace F_list_it := F_list_it.other W8 (Or.inr (slot_ne (Or.inr (ww hw 207 rfl)) (Or.inr (ww hw 209 rfl)) (by decide) (t := (.object "java/util/List")) (t' := .int) (by decide) (by decide)))
 replace Fz_it : Fld Z h8 it cLI "size" "I" (.int nz) := Fz_it.same W8
 replace F_cursor_it := F_cursor_it.other W8 (Or.inr (slot_ne (Or.inl (ww hw 211 rfl)) (Or.inr (ww hw 209 rfl)) (by decide) (t := .int) (t' := .int) (by decide) (by decide)))
 replace F_isListIterator_it := F_isListIterator_it.other W8 (Or.inr (slot_ne (Or.inr (ww hw 213 rfl)) (Or.inr (ww hw 209 rfl)) (by decide) (t := .boolean) (t' := .int) (by decide) (by decide)))
 have P10 : PP p e below T8 (mkF m 16 #[rv it, rv ls, iv nz] [i0, (.ref it)]) s0 := fun q_ k_ => P9 q_ (by
  exact bt X8 hx hby b256_ rfl k_)
 obtain ⟨T11, h11, X11, e11, W11, st11⟩ := putF X8 hx hZ hown (host := "") (Or.inl (ww hw 210 rfl)) Via.refl e8 F_cursor_it E_it (Or.inl (ww hw 211 rfl)) (ww hw 190 rfl) (ty := .int) (by decide) rfl rfl (g := P10.g) rfl rfl (hb hby d75_16)
 have P12 := P10.st st11
 have N11 := Fr.snoc X11 N8 g_it
 have K11 := K8.wr W11 (Or.inl (mi 0))
 replace E_it := E_it.wr W11
 replace F_list_it := F_list_it.other W11 (Or.inr (slot_ne (Or.inr (ww hw 207 rfl)) (Or.inl (ww hw 211 rfl)) (by decide) (t := (.object "java/util/List")) (t' := .int) (by decide) (by decide)))
 replace Fz_it := Fz_it.other W11 (Or.inr (slot_ne (Or.inr (ww hw 209 rfl)) (Or.inl (ww hw 211 rfl)) (by decide) (t := .int) (t' := .int) (by decide) (by decide)))
 replace F_cursor_it : Fld Z h11 it cLI "cursor" "I" i0 := F_cursor_it.same W11
 replace F_isListIterator_it := F_isListIterator_it.other W11 (Or.inr (slot_ne (Or.inr (ww hw 213 rfl)) (Or.inl (ww hw 211 rfl)) (by decide) (t := .boolean) (t' := .int) (by decide) (by decide)))
 have P13 := P12.bt X11 hx hby b257_ rfl
 obtain ⟨T14, h14, X14, e14, W14, st14⟩ := putFN X11 hx hZ hown (ww hw 212 rfl) Via.refl e11 F_isListIterator_it E_it (Or.inr ⟨(ww hw 213 rfl), rfl, hnm⟩) (ww hw 190 rfl) (ty := .boolean) (v' := (.int (nar .boolean (0 : Int32)))) (by decide) rfl (fits_nar_bool _) (g := P13.g) rfl rfl (hb hby d75_21)
 have P15 := P13.st st14
 have N14 := Fr.snoc X14 N11 g_it
 have K14 := K11.wr W14 (Or.inl (mi 0))
 replace E_it := E_it.wr W14
 replace F_list_it := F_list_it.other W14 (Or.inr (slot_ne (Or.inr (ww hw 207 rfl)) (Or.inr (ww hw 213 rfl)) (by decide) (t := (.object "java/util/List")) (t' := .boolean) (by decide) (by decide)))
 replace Fz_it := Fz_it.other W14 (Or.inr (slot_ne (Or.inr (ww hw 209 rfl)) (Or.inr (ww hw 213 rfl)) (by decide) (t := .int) (t' := .boolean) (by decide) (by decide)))
 replace F_cursor_it := F_cursor_it.other W14 (Or.inr (slot_ne (Or.inl (ww hw 211 rfl)) (Or.inr (ww hw 213 rfl)) (by decide) (t := .int) (t' := .boolean) (by decide) (by decide)))
 exact endV 24 #[rv it, rv ls, iv nz] X14 hx hrt hlk P15 (hb hby d75_24) e14 (by decide) (by decide) (show Q_itInit Z it ls nz u1 u2 u3 u4 h0 n0 _ _ _ from ⟨rfl, N14, K14, E_it, F_list_it, Fz_it, F_cursor_it⟩)
abbrev k76_ := jdk_46_method_10_code
theorem d76_0 : decode k76_ 0 = .ok (.new 61, 3) := by decide +kernel
theorem b258_ : dl k76_ 3 [(.dup, 1), (.aload_n 0, 1), (.aload_n 0, 1)] = true := by decide +kernel
theorem d76_6 : decode k76_ 6 = .ok (.invokevirtual 13, 3) := by decide +kernel
abbrev mn_78 : MethodName := ⟨"java/util/ImmutableCollections$AbstractImmutableList", "size", "()I"⟩
theorem pd_45 : parseMethodDescriptor "(Ljava/util/List;I)V" = some ⟨[(.object "java/util/List"), .int], none⟩ := by decide +kernel
theorem d76_9 : decode k76_ 9 = .ok (.invokespecial 63, 3) := by decide +kernel
theorem d76_12 : decode k76_ 12 = .ok (.areturn, 1) := by decide +kernel
def Q_iter0 (Z : State) (el ee : Addr) (kee : ClassId) : QT := fun h0 n0 v h L => ∃ (it : Addr), v = some (.ref it) ∧ Fr n0 L ∧ Keep h0 h [] ∧ (h0.size ≤ it) ∧ (Exa Z h it cLI) ∧ (Fld Z h it cLI "list" dL (.ref el)) ∧ (Fld Z h it cLI "size" "I" i0) ∧ (Fld Z h it cLI "cursor" "I" i0)
abbrev mn_79 : MethodName := ⟨"java/util/ImmutableCollections$AbstractImmutableList", "iterator", "()Ljava/util/Iterator;"⟩
theorem rm_iter0 (hw : HW a0 Z) (el ee : Addr) (kee : ClassId) (Z0 : n0 ≤ h0.size) (XEL : Exa Z Z.heap el cLN) (FEL : Fld Z Z.heap el cLN "elements" dOA (.ref ee)) (VEE : Arv Z Z.heap ee kee tOb (0 : Int32) [] .null) (OL : Old Z n0 h0) :
  MetP l Z mn_79 k76_ 1 (some (.object "java/util/Iterator")) (rr 2 1 4 27) ws #[(.ref el)] h0 (Q_iter0 Z el ee kee h0 n0) := by
 refine begH n0 "java/util/ImmutableCollections$AbstractImmutableList" rfl (plainFor_of_name pn_12) fun p e s m below meth c s₁ s0 hrt hlk hZ hx hby hml hown hnm X0 e0 N0 P0 => ?_
 replace P0 : PP p e below s₁ (mkF m 0 #[rv el] []) s0 := castPP (ef_4 m el) P0
 have E_el : Exa Z h0 el cLN := XEL.ext OL.2
 have F_elements_el : Fld Z h0 el cLN "elements" dOA (.ref ee) := FEL.ext OL.2
 have V_ee : Arv Z h0 ee kee tOb (0 : Int32) [] .null := VEE.ext OL.2
 obtain ⟨T1, h1, X1, e1, E1, A1, D1, -, st1⟩ := newO X0 hx hZ hown (ww hw 189 rfl) (ww hw 190 rfl) (ww hw 191 rfl) e0 (g := P0.g) rfl (hb hby d76_0) (by decide) (by decide)
 obtain ⟨b1, g1⟩ : ∃ z, z = h0.size := ⟨_, rfl⟩
 rw [← g1] at A1 D1 st1
 have P2 := P0.st st1
 have sz_b1 : h0.size ≤ b1 := Nat.le_trans (Nat.le_refl h0.size) (Nat.le_of_eq g1.symm)
 replace E_el := E_el.ext E1
 replace F_elements_el := F_elements_el.ext E1
 replace V_ee := V_ee.ext E1
 have K1 := (Keep.refl h0 []).ext E1
 obtain ⟨Lf3, X1, N3⟩ := fixL X1 N0 1 4 rfl rfl
 have E_b1 : Exa Z h1 b1 cLI := A1
 have F_list_b1 : Fld Z h1 b1 cLI "list" dL .null := D1 (Or.inr (ww hw 207 rfl)) (ty := (.object "java/util/List")) (by decide)
 have Fz_b1 : Fld Z h1 b1 cLI "size" "I" i0 := D1 (Or.inr (ww hw 209 rfl)) (ty := .int) (by decide)
 have F_cursor_b1 : Fld Z h1 b1 cLI "cursor" "I" i0 := D1 (Or.inl (ww hw 211 rfl)) (ty := .int) (by decide)
 have F_isListIterator_b1 : Fld Z h1 b1 cLI "isListIterator" "Z" i0 := D1 (Or.inr (ww hw 213 rfl)) (ty := .boolean) (by decide)
 have P4 := P2.bt X1 hx hby b258_ rfl
 obtain ⟨cq5, kq5, q5a, q5b, q5c⟩ := isOf hZ e1 E_el
 obtain ⟨_, _, ⟨T5, L5, k5, n5⟩, -, X5, ⟨Lc5, hQ5, l5, y5, z5⟩, st5⟩ := X1.virtualBackUp hx (owner := "java/util/AbstractCollection") (x := mn_78) (y := mn_76) hown (mw hZ hw 192 rfl) (mw hZ hw 193 rfl) (mw hZ hw 194 rfl) (by decide) (mw hZ hw 195 rfl) (mw hZ hw 196 rfl) (backOf (W := 3) (rm_size0 hw el ee kee (zT Z0 K1.1) F_elements_el V_ee) hZ (ww hw 198 rfl) (ww hw 197 rfl) (by decide) (by decide)) q5a q5c (g := P4.g) rfl (by rw [hml]; rfl) (Steps.refl _) (argsL := []) (rest := [(.ref el), (.ref b1), (.ref b1)]) (lenOf pd_27 rfl) rfl (by show 2 * 0 + _ ≤ _; exact Nat.le_of_eq rfl) (hb hby d76_6) (fun _ _ => ⟨rfl, e1, (by decide : 1 + 0 ≤ _), (by decide : 4 + 0 ≤ _)⟩)
 dsimp only [Pt.U, Pt.locs, Pt.cells, Pt.slots] at X5 l5 y5 z5 st5 hQ5
 subst l5 y5 z5
 obtain ⟨rfl, N5q, e5⟩ := hQ5
 have N5 := Fr.app N3 N5q
 have P6 := P4.tr st5
 obtain ⟨_, T7, L7, X7, hQ7, P7⟩ := cIn P6 X5 hx hZ hown hw e5 hml 201 202 204 191 (rm_itInit hw b1 el (0 : Int32) .null i0 i0 i0 (zT Z0 K1.1) E_b1 F_list_b1 Fz_b1 F_cursor_b1 F_isListIterator_b1 (Nat.le_trans Z0 sz_b1)) rfl rfl rfl rfl rfl rfl rfl [(.ref el), i0] [(.ref b1)] 1 (lenOf pd_45 rfl) rfl (Nat.le_of_eq rfl) (hb hby d76_9) rfl (by decide)
 obtain ⟨rfl, N7q, Kc7, po7_0, po7_1, po7_2, po7_3⟩ := hQ7
 have N7 := Fr.app N5 N7q
 obtain ⟨Lf8, X7, N8⟩ := fixL X7 N7 1 4 rfl rfl
 have K7 := Kt1 K1 Kc7 (Or.inr sz_b1)
 have E_b1 := po7_0
 have F_list_b1 := po7_1
 have Fz_b1 := po7_2
 have F_cursor_b1 := po7_3
 exact endA 12 #[rv el] (rest := []) X7 hx hrt rfl hlk P7 (hb hby d76_12) rfl (by decide) (by decide) (show Q_iter0 Z el ee kee h0 n0 _ _ _ from ⟨b1, rfl, N8, K7, sz_b1, E_b1, F_list_b1, Fz_b1, F_cursor_b1⟩)
abbrev k77_ := jdk_53_method_3_code
theorem b259_ : dl k77_ 0 [(.aload_n 0, 1)] = true := by decide +kernel
theorem d77_1 : decode k77_ 1 = .ok (.getfield 17, 3) := by decide +kernel
theorem b260_ : dl k77_ 4 [(.aload_n 0, 1)] = true := by decide +kernel
theorem d77_5 : decode k77_ 5 = .ok (.getfield 13, 3) := by decide +kernel
theorem d77_8 : decode k77_ 8 = .ok (.if_icmp .eq 7, 3) := by decide +kernel
theorem b261_ : dl k77_ 15 [(.iconst 0, 1)] = true := by decide +kernel
theorem d77_16 : decode k77_ 16 = .ok (.ireturn, 1) := by decide +kernel
def Q_hasN00 (Z : State) (it ls : Addr) : QT := fun h0 n0 v h L => v = some i0 ∧ Fr n0 L ∧ h = h0
abbrev mn_80 : MethodName := ⟨"java/util/ImmutableCollections$ListItr", "hasNext", "()Z"⟩
theorem rm_hasN00 (hw : HW a0 Z) (it ls : Addr) (Z0 : n0 ≤ h0.size) (E_it : Exa Z h0 it cLI) (F_list_it : Fld Z h0 it cLI "list" dL (.ref ls)) (Fz_it : Fld Z h0 it cLI "size" "I" i0) (F_cursor_it : Fld Z h0 it cLI "cursor" "I" i0) :
  MetP l Z mn_80 k77_ 1 (some .boolean) (rr 0 0 0 0) ws #[(.ref it)] h0 (Q_hasN00 Z it ls h0 n0) := by
 refine begH n0 cLI rfl (plainFor_of_name pn_17) fun p e s m below meth c s₁ s0 hrt hlk hZ hx hby hml hown hnm X0 e0 N0 P0 => ?_
 replace P0 : PP p e below s₁ (mkF m 0 #[rv it] []) s0 := castPP (ef_4 m it) P0
 have P1 := P0.bt X0 hx hby b259_ rfl
 obtain ⟨T2, X2, e2, P2⟩ := gF P1 X0 hx hZ hown hw 210 e0 F_cursor_it (hb hby d77_1)
 have P3 : PP p e below T2 (mkF m 5 #[rv it] [(.ref it), i0]) s0 := fun q_ k_ => P2 q_ (by
  exact bt X2 hx hby b260_ rfl k_)
 obtain ⟨T4, X4, e4, P4⟩ := gF P3 X2 hx hZ hown hw 208 e2 Fz_it (hb hby d77_5)
 have P5 : PP p e below T4 (mkF m 16 #[rv it] [i0]) s0 := fun q_ k_ => P4 q_ (by
  refine XS.icmpYes X4.here hx rfl (pc0 := 8) (pc' := 15) rfl (hb hby d77_8) rfl (teq ((by decide) : (0 : Int32) = (0 : Int32))).1 (by decide) (by decide) ?_
  exact bt X4 hx hby b261_ rfl k_)
 exact endN 16 #[rv it] (rest := []) X4 hx hrt (by simp) hlk P5 (hb hby d77_16) e4 (by decide) (by decide) (show Q_hasN00 Z it ls h0 n0 _ _ _ from ⟨rfl, N0, rfl⟩)
abbrev k78_ := jdk_44_method_3_code
theorem b262_ : dl k78_ 0 [(.aload_n 0, 1)] = true := by decide +kernel
theorem d78_1 : decode k78_ 1 = .ok (.getfield 24, 3) := by decide +kernel
theorem d78_4 : decode k78_ 4 = .ok (.getstatic 19, 3) := by decide +kernel
theorem d78_7 : decode k78_ 7 = .ok (.if_acmp .eq 7, 3) := by decide +kernel
theorem b263_ : dl k78_ 14 [(.iconst 1, 1)] = true := by decide +kernel
theorem d78_15 : decode k78_ 15 = .ok (.ireturn, 1) := by decide +kernel
def Q_size1 (Z : State) (ls em pa : Addr) : QT := fun h0 n0 v h L => v = some (.int 1) ∧ Fr n0 L ∧ h = h0
abbrev mn_81 : MethodName := ⟨"java/util/ImmutableCollections$List12", "size", "()I"⟩
theorem rm_size1 (hw : HW a0 Z) (ls em pa : Addr) (Z0 : n0 ≤ h0.size) (E_ls : Exa Z h0 ls cL2) (F_e0_ls : Fld Z h0 ls cL2 "e0" dO (.ref pa)) (F_e1_ls : Fld Z h0 ls cL2 "e1" dO (.ref em)) (Se : SU6 Z em) (OL : Old Z n0 h0) :
  MetP l Z mn_81 k78_ 1 (some .int) (rr 0 0 0 0) ws #[(.ref ls)] h0 (Q_size1 Z ls em pa h0 n0) := by
 refine begH n0 cL2 rfl (plainFor_of_name pn_15) fun p e s m below meth c s₁ s0 hrt hlk hZ hx hby hml hown hnm X0 e0 N0 P0 => ?_
 replace P0 : PP p e below s₁ (mkF m 0 #[rv ls] []) s0 := castPP (ef_4 m ls) P0
 have P1 := P0.bt X0 hx hby b262_ rfl
 obtain ⟨T2, X2, e2, P2⟩ := gF P1 X0 hx hZ hown hw 391 e0 F_e1_ls (hb hby d78_1)
 obtain ⟨T3, X3, e3, P3⟩ := gN P2 X2 hx hZ hown hw 390 e2 (Se.ext OL.2) (hb hby d78_4)
 have P4 : PP p e below T3 (mkF m 15 #[rv ls] [(.int 1)]) s0 := fun q_ k_ => P3 q_ (by
  refine Jvm.RoadKit.acmp X3 hx rfl rfl rfl (pc0 := 7) (pc' := 14) (same := true) rfl (hb hby d78_7) rfl (decide_eq_true rfl) (by decide) (by decide) ?_
  exact bt X3 hx hby b263_ rfl k_)
 exact endI 15 #[rv ls] (rest := []) X3 hx hrt hlk P4 (hb hby d78_15) e3 (by decide) (by decide) (show Q_size1 Z ls em pa h0 n0 _ _ _ from ⟨rfl, N0, rfl⟩)
def Q_iter1 (Z : State) (ls em pa : Addr) : QT := fun h0 n0 v h L => ∃ (it : Addr), v = some (.ref it) ∧ Fr n0 L ∧ Keep h0 h [] ∧ (h0.size ≤ it) ∧ (Exa Z h it cLI) ∧ (Fld Z h it cLI "list" dL (.ref ls)) ∧ (Fld Z h it cLI "size" "I" (.int 1)) ∧ (Fld Z h it cLI "cursor" "I" i0)
theorem rm_iter1 (hw : HW a0 Z) (ls em pa : Addr) (Z0 : n0 ≤ h0.size) (E_ls : Exa Z h0 ls cL2) (F_e0_ls : Fld Z h0 ls cL2 "e0" dO (.ref pa)) (F_e1_ls : Fld Z h0 ls cL2 "e1" dO (.ref em)) (Se : SU6 Z em) (OL : Old Z n0 h0) :
  MetP l Z mn_79 k76_ 1 (some (.object "java/util/Iterator")) (rr 2 1 4 27) ws #[(.ref ls)] h0 (Q_iter1 Z ls em pa h0 n0) := by
 refine begH n0 "java/util/ImmutableCollections$AbstractImmutableList" rfl (plainFor_of_name pn_12) fun p e s m below meth c s₁ s0 hrt hlk hZ hx hby hml hown hnm X0 e0 N0 P0 => ?_
 replace P0 : PP p e below s₁ (mkF m 0 #[rv ls] []) s0 := castPP (ef_4 m ls) P0
 obtain ⟨T1, h1, X1, e1, E1, A1, D1, -, st1⟩ := newO X0 hx hZ hown (ww hw 189 rfl) (ww hw 190 rfl) (ww hw 191 rfl) e0 (g := P0.g) rfl (hb hby d76_0) (by decide) (by decide)
 obtain ⟨b1, g1⟩ : ∃ z, z = h0.size := ⟨_, rfl⟩
 rw [← g1] at A1 D1 st1
 have P2 := P0.st st1
 have sz_b1 : h0.size ≤ b1 := Nat.le_trans (Nat.le_refl h0.size) (Nat.le_of_eq g1.symm)
 replace E_ls := E_ls.ext E1
 replace F_e0_ls := F_e0_ls.ext E1
 replace F_e1_ls := F_e1_ls.ext E1
 replace OL := OL.ext E1
 have K1 := (Keep.refl h0 []).ext E1
 obtain ⟨Lf3, X1, N3⟩ := fixL X1 N0 1 4 rfl rfl
 have E_b1 : Exa Z h1 b1 cLI := A1
 have F_list_b1 : Fld Z h1 b1 cLI "list" dL .null := D1 (Or.inr (ww hw 207 rfl)) (ty := (.object "java/util/List")) (by decide)
 have Fz_b1 : Fld Z h1 b1 cLI "size" "I" i0 := D1 (Or.inr (ww hw 209 rfl)) (ty := .int) (by decide)
 have F_cursor_b1 : Fld Z h1 b1 cLI "cursor" "I" i0 := D1 (Or.inl (ww hw 211 rfl)) (ty := .int) (by decide)
 have F_isListIterator_b1 : Fld Z h1 b1 cLI "isListIterator" "Z" i0 := D1 (Or.inr (ww hw 213 rfl)) (ty := .boolean) (by decide)
 have P4 := P2.bt X1 hx hby b258_ rfl
 obtain ⟨cq5, kq5, q5a, q5b, q5c⟩ := isOf hZ e1 E_ls
 obtain ⟨_, _, ⟨T5, L5, k5, n5⟩, -, X5, ⟨Lc5, hQ5, l5, y5, z5⟩, st5⟩ := X1.virtualBackUp hx (owner := "java/util/AbstractCollection") (x := mn_78) (y := mn_81) hown (mw hZ hw 192 rfl) (mw hZ hw 193 rfl) (mw hZ hw 194 rfl) (by decide) (mw hZ hw 395 rfl) (mw hZ hw 396 rfl) (backOf (W := 3) (rm_size1 hw ls em pa (zT Z0 K1.1) E_ls F_e0_ls F_e1_ls Se OL) hZ (ww hw 397 rfl) (ww hw 366 rfl) (by decide) (by decide)) q5a q5c (g := P4.g) rfl (by rw [hml]; rfl) (Steps.refl _) (argsL := []) (rest := [(.ref ls), (.ref b1), (.ref b1)]) (lenOf pd_27 rfl) rfl (by show 2 * 0 + _ ≤ _; exact Nat.le_of_eq rfl) (hb hby d76_6) (fun _ _ => ⟨rfl, e1, (by decide : 1 + 0 ≤ _), (by decide : 4 + 0 ≤ _)⟩)
 dsimp only [Pt.U, Pt.locs, Pt.cells, Pt.slots] at X5 l5 y5 z5 st5 hQ5
 subst l5 y5 z5
 obtain ⟨rfl, N5q, e5⟩ := hQ5
 have N5 := Fr.app N3 N5q
 have P6 := P4.tr st5
 obtain ⟨_, T7, L7, X7, hQ7, P7⟩ := cIn P6 X5 hx hZ hown hw e5 hml 201 202 204 191 (rm_itInit hw b1 ls (1 : Int32) .null i0 i0 i0 (zT Z0 K1.1) E_b1 F_list_b1 Fz_b1 F_cursor_b1 F_isListIterator_b1 (Nat.le_trans Z0 sz_b1)) rfl rfl rfl rfl rfl rfl rfl [(.ref ls), (.int 1)] [(.ref b1)] 1 (lenOf pd_45 rfl) rfl (Nat.le_of_eq rfl) (hb hby d76_9) rfl (by decide)
 obtain ⟨rfl, N7q, Kc7, po7_0, po7_1, po7_2, po7_3⟩ := hQ7
 have N7 := Fr.app N5 N7q
 obtain ⟨Lf8, X7, N8⟩ := fixL X7 N7 1 4 rfl rfl
 have K7 := Kt1 K1 Kc7 (Or.inr sz_b1)
 have E_b1 := po7_0
 have F_list_b1 := po7_1
 have Fz_b1 := po7_2
 have F_cursor_b1 := po7_3
 exact endA 12 #[rv ls] (rest := []) X7 hx hrt rfl hlk P7 (hb hby d76_12) rfl (by decide) (by decide) (show Q_iter1 Z ls em pa h0 n0 _ _ _ from ⟨b1, rfl, N8, K7, sz_b1, E_b1, F_list_b1, Fz_b1, F_cursor_b1⟩)
theorem b264_ : dl k77_ 11 [(.iconst 1, 1), (.goto 4, 3)] = true := by decide +kernel
def Q_hasN10 (Z : State) (it ls : Addr) : QT := fun h0 n0 v h L => v = some (.int 1) ∧ Fr n0 L ∧ h = h0
theorem rm_hasN10 (hw : HW a0 Z) (it ls : Addr) (Z0 : n0 ≤ h0.size) (E_it : Exa Z h0 it cLI) (F_list_it : Fld Z h0 it cLI "list" dL (.ref ls)) (Fz_it : Fld Z h0 it cLI "size" "I" (.int 1)) (F_cursor_it : Fld Z h0 it cLI "cursor" "I" i0) :
  MetP l Z mn_80 k77_ 1 (some .boolean) (rr 0 0 0 0) ws #[(.ref it)] h0 (Q_hasN10 Z it ls h0 n0) := by
 refine begH n0 cLI rfl (plainFor_of_name pn_17) fun p e s m below meth c s₁ s0 hrt hlk hZ hx hby hml hown hnm X0 e0 N0 P0 => ?_
 replace P0 : PP p e below s₁ (mkF m 0 #[rv it] []) s0 := castPP (ef_4 m it) P0
 have P1 := P0.bt X0 hx hby b259_ rfl
 obtain ⟨T2, X2, e2, P2⟩ := gF P1 X0 hx hZ hown hw 210 e0 F_cursor_it (hb hby d77_1)
 have P3 : PP p e below T2 (mkF m 5 #[rv it] [(.ref it), i0]) s0 := fun q_ k_ => P2 q_ (by
  exact bt X2 hx hby b260_ rfl k_)
 obtain ⟨T4, X4, e4, P4⟩ := gF P3 X2 hx hZ hown hw 208 e2 Fz_it (hb hby d77_5)
 have P5 : PP p e below T4 (mkF m 16 #[rv it] [(.int 1)]) s0 := fun q_ k_ => P4 q_ (by
  refine XS.icmpNo X4.here hx rfl (hb hby d77_8) rfl (feq ((by decide) : ¬ ((0 : Int32) = (1 : Int32)))).1 ?_
  exact bt X4 hx hby b264_ rfl k_)
 exact endN 16 #[rv it] (rest := []) X4 hx hrt (by simp) hlk P5 (hb hby d77_16) e4 (by decide) (by decide) (show Q_hasN10 Z it ls h0 n0 _ _ _ from ⟨rfl, N0, rfl⟩)
theorem rm_hasN11 (hw : HW a0 Z) (it ls : Addr) (Z0 : n0 ≤ h0.size) (E_it : Exa Z h0 it cLI) (F_list_it : Fld Z h0 it cLI "list" dL (.ref ls)) (Fz_it : Fld Z h0 it cLI "size" "I" (.int 1)) (F_cursor_it : Fld Z h0 it cLI "cursor" "I" (.int 1)) :
  MetP l Z mn_80 k77_ 1 (some .boolean) (rr 0 0 0 0) ws #[(.ref it)] h0 (Q_hasN00 Z it ls h0 n0) := by
 refine begH n0 cLI rfl (plainFor_of_name pn_17) fun p e s m below meth c s₁ s0 hrt hlk hZ hx hby hml hown hnm X0 e0 N0 P0 => ?_
 replace P0 : PP p e below s₁ (mkF m 0 #[rv it] []) s0 := castPP (ef_4 m it) P0
 have P1 := P0.bt X0 hx hby b259_ rfl
 obtain ⟨T2, X2, e2, P2⟩ := gF P1 X0 hx hZ hown hw 210 e0 F_cursor_it (hb hby d77_1)
 have P3 : PP p e below T2 (mkF m 5 #[rv it] [(.ref it), (.int 1)]) s0 := fun q_ k_ => P2 q_ (by
  exact bt X2 hx hby b260_ rfl k_)
 obtain ⟨T4, X4, e4, P4⟩ := gF P3 X2 hx hZ hown hw 208 e2 Fz_it (hb hby d77_5)
 have P5 : PP p e below T4 (mkF m 16 #[rv it] [i0]) s0 := fun q_ k_ => P4 q_ (by
  refine XS.icmpYes X4.here hx rfl (pc0 := 8) (pc' := 15) rfl (hb hby d77_8) rfl (teq ((by decide) : (1 : Int32) = (1 : Int32))).1 (by decide) (by decide) ?_
  exact bt X4 hx hby b261_ rfl k_)
 exact endN 16 #[rv it] (rest := []) X4 hx hrt (by simp) hlk P5 (hb hby d77_16) e4 (by decide) (by decide) (show Q_hasN00 Z it ls h0 n0 _ _ _ from ⟨rfl, N0, rfl⟩)
theorem ef_44 (m : MethodId) (x0 : Addr) : entryFrame m #[(.ref x0), (.int 0)] 2 = mkF m 0 #[.val (.ref x0), .val (.int 0)] [] := by first | (simp [entryFrame, mkF, argsToLocals, Value.category]; done) | rfl
abbrev k79_ := jdk_44_method_5_code
theorem d79_1 : decode k79_ 1 = .ok (.ifCond .ne 8, 3) := by decide +kernel
theorem b265_ : dl k79_ 0 [(.iload_n 1, 1)] = true := by decide +kernel
theorem b266_ : dl k79_ 4 [(.aload_n 0, 1)] = true := by decide +kernel
theorem d79_5 : decode k79_ 5 = .ok (.getfield 13, 3) := by decide +kernel
theorem d79_8 : decode k79_ 8 = .ok (.areturn, 1) := by decide +kernel
def Q_get12_0 (Z : State) (ls pa : Addr) : QT := fun h0 n0 v h L => v = some (.ref pa) ∧ Fr n0 L ∧ h = h0
abbrev mn_82 : MethodName := ⟨"java/util/ImmutableCollections$List12", "get", "(I)Ljava/lang/Object;"⟩
theorem rm_get12_0 (hw : HW a0 Z) (ls pa : Addr) (Z0 : n0 ≤ h0.size) (F_e0_ls : Fld Z h0 ls cL2 "e0" dO (.ref pa)) :
  MetP l Z mn_82 k79_ 2 (some tOb) (rr 0 0 0 0) ws #[(.ref ls), i0] h0 (Q_get12_0 Z ls pa h0 n0) := by
 refine begH n0 cL2 rfl (plainFor_of_name pn_15) fun p e s m below meth c s₁ s0 hrt hlk hZ hx hby hml hown hnm X0 e0 N0 P0 => ?_
 replace P0 : PP p e below s₁ (mkF m 0 #[rv ls, iv 0] []) s0 := castPP (ef_44 m ls) P0
 have P1 : PP p e below s₁ (mkF m 5 #[rv ls, iv 0] [(.ref ls)]) s0 := fun q_ k_ => P0 q_ (by
  refine bt X0 hx hby b265_ rfl ?_
  refine XS.ifNo X0.here hx rfl (hb hby d79_1) rfl ((if0 _ _).trans (teq ((by decide) : (0 : Int32) = (0 : Int32))).2) ?_
  exact bt X0 hx hby b266_ rfl k_)
 obtain ⟨T2, X2, e2, P2⟩ := gF P1 X0 hx hZ hown hw 388 e0 F_e0_ls (hb hby d79_5)
 exact endA 8 #[rv ls, iv 0] (rest := []) X2 hx hrt rfl hlk P2 (hb hby d79_8) e2 (by decide) (by decide) (show Q_get12_0 Z ls pa h0 n0 _ _ _ from ⟨rfl, N0, rfl⟩)
theorem ef_45 (m : MethodId) (x0 : Addr) : entryFrame m #[(.ref x0)] 3 = mkF m 0 #[.val (.ref x0), .unset, .unset] [] := by first | (simp [entryFrame, mkF, argsToLocals, Value.category]; done) | rfl
abbrev k80_ := jdk_53_method_4_code
theorem b267_ : dl k80_ 0 [(.aload_n 0, 1)] = true := by decide +kernel
theorem d80_1 : decode k80_ 1 = .ok (.getfield 17, 3) := by decide +kernel
theorem b268_ : dl k80_ 4 [(.istore_n 1, 1), (.aload_n 0, 1)] = true := by decide +kernel
theorem d80_6 : decode k80_ 6 = .ok (.getfield 7, 3) := by decide +kernel
theorem b269_ : dl k80_ 9 [(.iload_n 1, 1)] = true := by decide +kernel
theorem pd_46 : parseMethodDescriptor "(I)Ljava/lang/Object;" = some ⟨[.int], some (.object "java/lang/Object")⟩ := by decide +kernel
theorem d80_10 : decode k80_ 10 = .ok (.invokeinterface 24 2, 5) := by decide +kernel
abbrev mn_83 : MethodName := ⟨"java/util/List", "get", "(I)Ljava/lang/Object;"⟩
theorem b270_ : dl k80_ 15 [(.astore_n 2, 1), (.aload_n 0, 1), (.iload_n 1, 1), (.iconst 1, 1), (.iadd, 1)] = true := by decide +kernel
theorem d80_20 : decode k80_ 20 = .ok (.putfield 17, 3) := by decide +kernel
theorem b271_ : dl k80_ 23 [(.aload_n 2, 1)] = true := by decide +kernel
theorem d80_24 : decode k80_ 24 = .ok (.areturn, 1) := by decide +kernel
def Q_next10 (Z : State) (it ls em pa : Addr) : QT := fun h0 n0 v h L => v = some (.ref pa) ∧ Fr n0 L ∧ Keep h0 h [it] ∧ (Exa Z h it cLI) ∧ (Fld Z h it cLI "list" dL (.ref ls)) ∧ (Fld Z h it cLI "size" "I" (.int 1)) ∧ (Fld Z h it cLI "cursor" "I" (.int 1))
abbrev mn_84 : MethodName := ⟨"java/util/ImmutableCollections$ListItr", "next", "()Ljava/lang/Object;"⟩
theorem rm_next10 (hw : HW a0 Z) (it ls em pa : Addr) (Z0 : n0 ≤ h0.size) (E_it : Exa Z h0 it cLI) (F_list_it : Fld Z h0 it cLI "list" dL (.ref ls)) (Fz_it : Fld Z h0 it cLI "size" "I" (.int 1)) (F_cursor_it : Fld Z h0 it cLI "cursor" "I" i0) (E_ls : Exa Z h0 ls cL2) (F_e0_ls : Fld Z h0 ls cL2 "e0" dO (.ref pa)) (F_e1_ls : Fld Z h0 ls cL2 "e1" dO (.ref em)) (g_it : n0 ≤ it) (ne_ls_it : ls ≠ it) (Se : SU6 Z em) (OL : Old Z n0 h0) :
  MetW l Z mn_84 k80_ 3 (some tOb) (rr 1 0 0 13) [((0 : Nat), (24 : Nat), (25 : Nat), (30 : Nat))] ws #[(.ref it)] h0 (Q_next10 Z it ls em pa h0 n0) := by
 refine MetFree.of_bodySF (plainFor_of_name pn_17) hisWith ?_
 intro p e s m args below meth c s₁ Bd hml0 hP hK; obtain ⟨rfl, hZ, hh⟩ := hP; have hx := Bd.exec; have hby := Bd.bytes; have hml : c.maxLocals = 3 := hml0
 have hown : s.vm.findClass cLI = some m.cls := findClass_of_methodNamed Bd.named
 have X0 : Stand _ _ _ (rr 1 0 0 13) _ _ _ _ _ _ _ _ _ _ := Stand.of_body Bd
 have e0 : s₁.heap = h0 := by rw [← hh, Bd.state]; rfl
 have N0 := Fr.nil n0
 obtain ⟨s0, hs0⟩ := exi (s₁.setTop (entryFrame m #[(.ref it)] 3))
 have P0 : PP p e below s₁ (mkF m 0 #[rv it, .unset, .unset] []) s0 := fun q_ k_ => by rw [hs0]; exact castTop (ef_45 m it) k_
 have P1 := P0.bt X0 hx hby b267_ rfl
 obtain ⟨T2, X2, e2, P2⟩ := gF P1 X0 hx hZ hown hw 210 e0 F_cursor_it (hb hby d80_1)
 have P3 : PP p e below T2 (mkF m 6 #[rv it, iv 0, .unset] [(.ref it)]) s0 := fun q_ k_ => P2 q_ (by
  exact bt X2 hx hby b268_ rfl k_)
 obtain ⟨T4, X4, e4, P4⟩ := gF P3 X2 hx hZ hown hw 206 e2 F_list_it (hb hby d80_6)
 have P5 := P4.bt X4 hx hby b269_ rfl
 obtain ⟨cq6, kq6, q6a, q6b, q6c⟩ := isOf hZ e4 E_ls
 obtain ⟨_, _, ⟨T6, L6, k6, n6⟩, -, X6, ⟨Lc6, hQ6, l6, y6, z6⟩, st6⟩ := X4.interfaceBack hx (xi := mn_83) (y := mn_82) hown (mw hZ hw 420 rfl) (mw hZ hw 421 rfl) (mw hZ hw 422 rfl) (mw hZ hw 423 rfl) (mw hZ hw 424 rfl) (mw hZ hw 425 rfl) (mw hZ hw 426 rfl) (mw hZ hw 427 rfl) (by decide) (backOf (W := 0) (rm_get12_0 hw ls pa Z0 F_e0_ls) hZ (ww hw 428 rfl) (ww hw 366 rfl) (by decide) (by decide)) q6a q6b q6c (g := P5.g) rfl (by rw [hml]; rfl) (Steps.refl _) (argsL := [i0]) (rest := []) (lenOf pd_46 rfl) rfl (by show 2 * 0 + _ ≤ _; exact Nat.le_of_eq rfl) (hb hby d80_10) (fun _ _ => ⟨rfl, e4, (by decide : 0 + 0 ≤ _), (by decide : 0 + 0 ≤ _)⟩)
 dsimp only [Pt.U, Pt.locs, Pt.cells, Pt.slots] at X6 l6 y6 z6 st6 hQ6
 subst l6 y6 z6
 obtain ⟨rfl, N6q, e6⟩ := hQ6
 have N6 := Fr.app N0 N6q
 have P7 := P5.tr st6
 have P8 : PP p e below T6 (mkF m 20 #[rv it, iv 0, rv pa] [(.int 1), (.ref it)]) s0 := fun q_ k_ => P7 q_ (by
  exact bt X6 hx hby b270_ rfl k_)
 obtain ⟨T9, h9, X9, e9, W9, st9⟩ := putF X6 hx hZ hown (host := "") (Or.inl (ww hw 210 rfl)) Via.refl e6 F_cursor_it E_it (Or.inl (ww hw 211 rfl)) (ww hw 190 rfl) (ty := .int) (by decide) rfl rfl (g := P8.g) rfl rfl (hb hby d80_20)
 have P10 := P8.st st9
 have N9 := Fr.snoc X9 N6 g_it
 have K9 := (Keep.refl h0 [it]).wr W9 (Or.inl (mi 0))
 replace E_it := E_it.wr W9
 replace F_list_it := F_list_it.other W9 (Or.inr (slot_ne (Or.inr (ww hw 207 rfl)) (Or.inl (ww hw 211 rfl)) (by decide) (t := (.object "java/util/List")) (t' := .int) (by decide) (by decide)))
 replace Fz_it := Fz_it.other W9 (Or.inr (slot_ne (Or.inr (ww hw 209 rfl)) (Or.inl (ww hw 211 rfl)) (by decide) (t := .int) (t' := .int) (by decide) (by decide)))
 replace F_cursor_it : Fld Z h9 it cLI "cursor" "I" (.int 1) := F_cursor_it.same W9
 have P11 := P10.bt X9 hx hby b271_ rfl
 subst hs0
 obtain ⟨fs_, hr, hrun, hended, hW, hsame⟩ := X9.leave (v := some (.ref pa)) (fun h => by rw [Bd.returns] at h; cases h)
 refine ⟨_, _, P11 _ ?_, hrun, hended, _, _, rfl, ?_, ⟨_, rfl⟩, hW, hsame.mono (by decide) (by decide)⟩
 · show GG p e below T9 (mkF m 24 #[rv it, iv 0, rv pa] [(.ref pa)]) _
   jvm_step X9.here [X9.here.top, hx, (hb hby d80_24), X9.method', Bd.returns, Value.isRef, FieldType.isReference]
   first | (intro acts; rw [hr _ acts rfl rfl rfl]) | rw [hr _ _ rfl rfl rfl]
   exact Steps.refl _
 · show Q_next10 Z it ls em pa h0 n0 _ T9.heap _
   rw [e9]
   exact ⟨rfl, N9, K9, E_it, F_list_it, Fz_it, F_cursor_it⟩
theorem b272_ : dl k78_ 10 [(.iconst 2, 1), (.goto 4, 3)] = true := by decide +kernel
def Q_size2 (Z : State) (ls em pa pb : Addr) : QT := fun h0 n0 v h L => v = some (.int 2) ∧ Fr n0 L ∧ h = h0
theorem rm_size2 (hw : HW a0 Z) (ls em pa pb : Addr) (Z0 : n0 ≤ h0.size) (E_ls : Exa Z h0 ls cL2) (F_e0_ls : Fld Z h0 ls cL2 "e0" dO (.ref pa)) (F_e1_ls : Fld Z h0 ls cL2 "e1" dO (.ref pb)) (Se : SU6 Z em) (OL : Old Z n0 h0) (ne_pb_em : pb ≠ em) :
  MetP l Z mn_81 k78_ 1 (some .int) (rr 0 0 0 0) ws #[(.ref ls)] h0 (Q_size2 Z ls em pa pb h0 n0) := by
 refine begH n0 cL2 rfl (plainFor_of_name pn_15) fun p e s m below meth c s₁ s0 hrt hlk hZ hx hby hml hown hnm X0 e0 N0 P0 => ?_
 replace P0 : PP p e below s₁ (mkF m 0 #[rv ls] []) s0 := castPP (ef_4 m ls) P0
 have P1 := P0.bt X0 hx hby b262_ rfl
 obtain ⟨T2, X2, e2, P2⟩ := gF P1 X0 hx hZ hown hw 391 e0 F_e1_ls (hb hby d78_1)
 obtain ⟨T3, X3, e3, P3⟩ := gN P2 X2 hx hZ hown hw 390 e2 (Se.ext OL.2) (hb hby d78_4)
 have P4 : PP p e below T3 (mkF m 15 #[rv ls] [(.int 2)]) s0 := fun q_ k_ => P3 q_ (by
  refine Jvm.RoadKit.acmp X3 hx rfl rfl rfl (pc0 := 7) (pc' := 10) (same := false) rfl (hb hby d78_7) rfl (decide_eq_false fun q => ne_pb_em (Value.ref.inj q)) (by decide) (by decide) ?_
  exact bt X3 hx hby b272_ rfl k_)
 exact endI 15 #[rv ls] (rest := []) X3 hx hrt hlk P4 (hb hby d78_15) e3 (by decide) (by decide) (show Q_size2 Z ls em pa pb h0 n0 _ _ _ from ⟨rfl, N0, rfl⟩)
def Q_iter2 (Z : State) (ls em pa pb : Addr) : QT := fun h0 n0 v h L => ∃ (it : Addr), v = some (.ref it) ∧ Fr n0 L ∧ Keep h0 h [] ∧ (h0.size ≤ it) ∧ (Exa Z h it cLI) ∧ (Fld Z h it cLI "list" dL (.ref ls)) ∧ (Fld Z h it cLI "size" "I" (.int 2)) ∧ (Fld Z h it cLI "cursor" "I" i0)
theorem rm_iter2 (hw : HW a0 Z) (ls em pa pb : Addr) (Z0 : n0 ≤ h0.size) (E_ls : Exa Z h0 ls cL2) (F_e0_ls : Fld Z h0 ls cL2 "e0" dO (.ref pa)) (F_e1_ls : Fld Z h0 ls cL2 "e1" dO (.ref pb)) (Se : SU6 Z em) (OL : Old Z n0 h0) (ne_pb_em : pb ≠ em) :
  MetP l Z mn_79 k76_ 1 (some (.object "java/util/Iterator")) (rr 2 1 4 27) ws #[(.ref ls)] h0 (Q_iter2 Z ls em pa pb h0 n0) := by
 refine begH n0 "java/util/ImmutableCollections$AbstractImmutableList" rfl (plainFor_of_name pn_12) fun p e s m below meth c s₁ s0 hrt hlk hZ hx hby hml hown hnm X0 e0 N0 P0 => ?_
 replace P0 : PP p e below s₁ (mkF m 0 #[rv ls] []) s0 := castPP (ef_4 m ls) P0
 obtain ⟨T1, h1, X1, e1, E1, A1, D1, -, st1⟩ := newO X0 hx hZ hown (ww hw 189 rfl) (ww hw 190 rfl) (ww hw 191 rfl) e0 (g := P0.g) rfl (hb hby d76_0) (by decide) (by decide)
 obtain ⟨b1, g1⟩ : ∃ z, z = h0.size := ⟨_, rfl⟩
 rw [← g1] at A1 D1 st1
 have P2 := P0.st st1
 have sz_b1 : h0.size ≤ b1 := Nat.le_trans (Nat.le_refl h0.size) (Nat.le_of_eq g1.symm)
 replace E_ls := E_ls.ext E1
 replace F_e0_ls := F_e0_ls.ext E1
 replace F_e1_ls := F_e1_ls.ext E1
 replace OL := OL.ext E1
 have K1 := (Keep.refl h0 []).ext E1
 obtain ⟨Lf3, X1, N3⟩ := fixL X1 N0 1 4 rfl rfl
 have E_b1 : Exa Z h1 b1 cLI := A1
 have F_list_b1 : Fld Z h1 b1 cLI "list" dL .null := D1 (Or.inr (ww hw 207 rfl)) (ty := (.object "java/util/List")) (by decide)
 have Fz_b1 : Fld Z h1 b1 cLI "size" "I" i0 := D1 (Or.inr (ww hw 209 rfl)) (ty := .int) (by decide)
 have F_cursor_b1 : Fld Z h1 b1 cLI "cursor" "I" i0 := D1 (Or.inl (ww hw 211 rfl)) (ty := .int) (by decide)
 have F_isListIterator_b1 : Fld Z h1 b1 cLI "isListIterator" "Z" i0 := D1 (Or.inr (ww hw 213 rfl)) (ty := .boolean) (by decide)
 have P4 := P2.bt X1 hx hby b258_ rfl
 obtain ⟨cq5, kq5, q5a, q5b, q5c⟩ := isOf hZ e1 E_ls
 obtain ⟨_, _, ⟨T5, L5, k5, n5⟩, -, X5, ⟨Lc5, hQ5, l5, y5, z5⟩, st5⟩ := X1.virtualBackUp hx (owner := "java/util/AbstractCollection") (x := mn_78) (y := mn_81) hown (mw hZ hw 192 rfl) (mw hZ hw 193 rfl) (mw hZ hw 194 rfl) (by decide) (mw hZ hw 395 rfl) (mw hZ hw 396 rfl) (backOf (W := 3) (rm_size2 hw ls em pa pb (zT Z0 K1.1) E_ls F_e0_ls F_e1_ls Se OL ne_pb_em) hZ (ww hw 397 rfl) (ww hw 366 rfl) (by decide) (by decide)) q5a q5c (g := P4.g) rfl (by rw [hml]; rfl) (Steps.refl _) (argsL := []) (rest := [(.ref ls), (.ref b1), (.ref b1)]) (lenOf pd_27 rfl) rfl (by show 2 * 0 + _ ≤ _; exact Nat.le_of_eq rfl) (hb hby d76_6) (fun _ _ => ⟨rfl, e1, (by decide : 1 + 0 ≤ _), (by decide : 4 + 0 ≤ _)⟩)
 dsimp only [Pt.U, Pt.locs, Pt.cells, Pt.slots] at X5 l5 y5 z5 st5 hQ5
 subst l5 y5 z5
 obtain ⟨rfl, N5q, e5⟩ := hQ5
 have N5 := Fr.app N3 N5q
 have P6 := P4.tr st5
 obtain ⟨_, T7, L7, X7, hQ7, P7⟩ := cIn P6 X5 hx hZ hown hw e5 hml 201 202 204 191 (rm_itInit hw b1 ls (2 : Int32) .null i0 i0 i0 (zT Z0 K1.1) E_b1 F_list_b1 Fz_b1 F_cursor_b1 F_isListIterator_b1 (Nat.le_trans Z0 sz_b1)) rfl rfl rfl rfl rfl rfl rfl [(.ref ls), (.int 2)] [(.ref b1)] 1 (lenOf pd_45 rfl) rfl (Nat.le_of_eq rfl) (hb hby d76_9) rfl (by decide)
 obtain ⟨rfl, N7q, Kc7, po7_0, po7_1, po7_2, po7_3⟩ := hQ7
 have N7 := Fr.app N5 N7q
 obtain ⟨Lf8, X7, N8⟩ := fixL X7 N7 1 4 rfl rfl
 have K7 := Kt1 K1 Kc7 (Or.inr sz_b1)
 have E_b1 := po7_0
 have F_list_b1 := po7_1
 have Fz_b1 := po7_2
 have F_cursor_b1 := po7_3
 exact endA 12 #[rv ls] (rest := []) X7 hx hrt rfl hlk P7 (hb hby d76_12) rfl (by decide) (by decide) (show Q_iter2 Z ls em pa pb h0 n0 _ _ _ from ⟨b1, rfl, N8, K7, sz_b1, E_b1, F_list_b1, Fz_b1, F_cursor_b1⟩)
theorem rm_hasN20 (hw : HW a0 Z) (it ls : Addr) (Z0 : n0 ≤ h0.size) (E_it : Exa Z h0 it cLI) (F_list_it : Fld Z h0 it cLI "list" dL (.ref ls)) (Fz_it : Fld Z h0 it cLI "size" "I" (.int 2)) (F_cursor_it : Fld Z h0 it cLI "cursor" "I" i0) :
  MetP l Z mn_80 k77_ 1 (some .boolean) (rr 0 0 0 0) ws #[(.ref it)] h0 (Q_hasN10 Z it ls h0 n0) := by
 refine begH n0 cLI rfl (plainFor_of_name pn_17) fun p e s m below meth c s₁ s0 hrt hlk hZ hx hby hml hown hnm X0 e0 N0 P0 => ?_
 replace P0 : PP p e below s₁ (mkF m 0 #[rv it] []) s0 := castPP (ef_4 m it) P0
 have P1 := P0.bt X0 hx hby b259_ rfl
 obtain ⟨T2, X2, e2, P2⟩ := gF P1 X0 hx hZ hown hw 210 e0 F_cursor_it (hb hby d77_1)
 have P3 : PP p e below T2 (mkF m 5 #[rv it] [(.ref it), i0]) s0 := fun q_ k_ => P2 q_ (by
  exact bt X2 hx hby b260_ rfl k_)
 obtain ⟨T4, X4, e4, P4⟩ := gF P3 X2 hx hZ hown hw 208 e2 Fz_it (hb hby d77_5)
 have P5 : PP p e below T4 (mkF m 16 #[rv it] [(.int 1)]) s0 := fun q_ k_ => P4 q_ (by
  refine XS.icmpNo X4.here hx rfl (hb hby d77_8) rfl (feq ((by decide) : ¬ ((0 : Int32) = (2 : Int32)))).1 ?_
  exact bt X4 hx hby b264_ rfl k_)
 exact endN 16 #[rv it] (rest := []) X4 hx hrt (by simp) hlk P5 (hb hby d77_16) e4 (by decide) (by decide) (show Q_hasN10 Z it ls h0 n0 _ _ _ from ⟨rfl, N0, rfl⟩)
theorem rm_hasN21 (hw : HW a0 Z) (it ls : Addr) (Z0 : n0 ≤ h0.size) (E_it : Exa Z h0 it cLI) (F_list_it : Fld Z h0 it cLI "list" dL (.ref ls)) (Fz_it : Fld Z h0 it cLI "size" "I" (.int 2)) (F_cursor_it : Fld Z h0 it cLI "cursor" "I" (.int 1)) :
  MetP l Z mn_80 k77_ 1 (some .boolean) (rr 0 0 0 0) ws #[(.ref it)] h0 (Q_hasN10 Z it ls h0 n0) := by
 refine begH n0 cLI rfl (plainFor_of_name pn_17) fun p e s m below meth c s₁ s0 hrt hlk hZ hx hby hml hown hnm X0 e0 N0 P0 => ?_
 replace P0 : PP p e below s₁ (mkF m 0 #[rv it] []) s0 := castPP (ef_4 m it) P0
 have P1 := P0.bt X0 hx hby b259_ rfl
 obtain ⟨T2, X2, e2, P2⟩ := gF P1 X0 hx hZ hown hw 210 e0 F_cursor_it (hb hby d77_1)
 have P3 : PP p e below T2 (mkF m 5 #[rv it] [(.ref it), (.int 1)]) s0 := fun q_ k_ => P2 q_ (by
  exact bt X2 hx hby b260_ rfl k_)
 obtain ⟨T4, X4, e4, P4⟩ := gF P3 X2 hx hZ hown hw 208 e2 Fz_it (hb hby d77_5)
 have P5 : PP p e below T4 (mkF m 16 #[rv it] [(.int 1)]) s0 := fun q_ k_ => P4 q_ (by
  refine XS.icmpNo X4.here hx rfl (hb hby d77_8) rfl (feq ((by decide) : ¬ ((1 : Int32) = (2 : Int32)))).1 ?_
  exact bt X4 hx hby b264_ rfl k_)
 exact endN 16 #[rv it] (rest := []) X4 hx hrt (by simp) hlk P5 (hb hby d77_16) e4 (by decide) (by decide) (show Q_hasN10 Z it ls h0 n0 _ _ _ from ⟨rfl, N0, rfl⟩)
theorem rm_hasN22 (hw : HW a0 Z) (it ls : Addr) (Z0 : n0 ≤ h0.size) (E_it : Exa Z h0 it cLI) (F_list_it : Fld Z h0 it cLI "list" dL (.ref ls)) (Fz_it : Fld Z h0 it cLI "size" "I" (.int 2)) (F_cursor_it : Fld Z h0 it cLI "cursor" "I" (.int 2)) :
  MetP l Z mn_80 k77_ 1 (some .boolean) (rr 0 0 0 0) ws #[(.ref it)] h0 (Q_hasN00 Z it ls h0 n0) := by
 refine begH n0 cLI rfl (plainFor_of_name pn_17) fun p e s m below meth c s₁ s0 hrt hlk hZ hx hby hml hown hnm X0 e0 N0 P0 => ?_
 replace P0 : PP p e below s₁ (mkF m 0 #[rv it] []) s0 := castPP (ef_4 m it) P0
 have P1 := P0.bt X0 hx hby b259_ rfl
 obtain ⟨T2, X2, e2, P2⟩ := gF P1 X0 hx hZ hown hw 210 e0 F_cursor_it (hb hby d77_1)
 have P3 : PP p e below T2 (mkF m 5 #[rv it] [(.ref it), (.int 2)]) s0 := fun q_ k_ => P2 q_ (by
  exact bt X2 hx hby b260_ rfl k_)
 obtain ⟨T4, X4, e4, P4⟩ := gF P3 X2 hx hZ hown hw 208 e2 Fz_it (hb hby d77_5)
 have P5 : PP p e below T4 (mkF m 16 #[rv it] [i0]) s0 := fun q_ k_ => P4 q_ (by
  refine XS.icmpYes X4.here hx rfl (pc0 := 8) (pc' := 15) rfl (hb hby d77_8) rfl (teq ((by decide) : (2 : Int32) = (2 : Int32))).1 (by decide) (by decide) ?_
  exact bt X4 hx hby b261_ rfl k_)
 exact endN 16 #[rv it] (rest := []) X4 hx hrt (by simp) hlk P5 (hb hby d77_16) e4 (by decide) (by decide) (show Q_hasN00 Z it ls h0 n0 _ _ _ from ⟨rfl, N0, rfl⟩)
def Q_next20 (Z : State) (it ls em pa pb : Addr) : QT := fun h0 n0 v h L => v = some (.ref pa) ∧ Fr n0 L ∧ Keep h0 h [it] ∧ (Exa Z h it cLI) ∧ (Fld Z h it cLI "list" dL (.ref ls)) ∧ (Fld Z h it cLI "size" "I" (.int 2)) ∧ (Fld Z h it cLI "cursor" "I" (.int 1))
theorem rm_next20 (hw : HW a0 Z) (it ls em pa pb : Addr) (Z0 : n0 ≤ h0.size) (E_it : Exa Z h0 it cLI) (F_list_it : Fld Z h0 it cLI "list" dL (.ref ls)) (Fz_it : Fld Z h0 it cLI "size" "I" (.int 2)) (F_cursor_it : Fld Z h0 it cLI "cursor" "I" i0) (E_ls : Exa Z h0 ls cL2) (F_e0_ls : Fld Z h0 ls cL2 "e0" dO (.ref pa)) (F_e1_ls : Fld Z h0 ls cL2 "e1" dO (.ref pb)) (g_it : n0 ≤ it) (ne_ls_it : ls ≠ it) (Se : SU6 Z em) (OL : Old Z n0 h0) (ne_pb_em : pb ≠ em) :
  MetW l Z mn_84 k80_ 3 (some tOb) (rr 1 0 0 13) [((0 : Nat), (24 : Nat), (25 : Nat), (30 : Nat))] ws #[(.ref it)] h0 (Q_next20 Z it ls em pa pb h0 n0) := by
 refine MetFree.of_bodySF (plainFor_of_name pn_17) hisWith ?_
 intro p e s m args below meth c s₁ Bd hml0 hP hK; obtain ⟨rfl, hZ, hh⟩ := hP; have hx := Bd.exec; have hby := Bd.bytes; have hml : c.maxLocals = 3 := hml0
 have hown : s.vm.findClass cLI = some m.cls := findClass_of_methodNamed Bd.named
 have X0 : Stand _ _ _ (rr 1 0 0 13) _ _ _ _ _ _ _ _ _ _ := Stand.of_body Bd
 have e0 : s₁.heap = h0 := by rw [← hh, Bd.state]; rfl
 have N0 := Fr.nil n0
 obtain ⟨s0, hs0⟩ := exi (s₁.setTop (entryFrame m #[(.ref it)] 3))
 have P0 : PP p e below s₁ (mkF m 0 #[rv it, .unset, .unset] []) s0 := fun q_ k_ => by rw [hs0]; exact castTop (ef_45 m it) k_
 have P1 := P0.bt X0 hx hby b267_ rfl
 obtain ⟨T2, X2, e2, P2⟩ := gF P1 X0 hx hZ hown hw 210 e0 F_cursor_it (hb hby d80_1)
 have P3 : PP p e below T2 (mkF m 6 #[rv it, iv 0, .unset] [(.ref it)]) s0 := fun q_ k_ => P2 q_ (by
  exact bt X2 hx hby b268_ rfl k_)
 obtain ⟨T4, X4, e4, P4⟩ := gF P3 X2 hx hZ hown hw 206 e2 F_list_it (hb hby d80_6)
 have P5 := P4.bt X4 hx hby b269_ rfl
 obtain ⟨cq6, kq6, q6a, q6b, q6c⟩ := isOf hZ e4 E_ls
 obtain ⟨_, _, ⟨T6, L6, k6, n6⟩, -, X6, ⟨Lc6, hQ6, l6, y6, z6⟩, st6⟩ := X4.interfaceBack hx (xi := mn_83) (y := mn_82) hown (mw hZ hw 420 rfl) (mw hZ hw 421 rfl) (mw hZ hw 422 rfl) (mw hZ hw 423 rfl) (mw hZ hw 424 rfl) (mw hZ hw 425 rfl) (mw hZ hw 426 rfl) (mw hZ hw 427 rfl) (by decide) (backOf (W := 0) (rm_get12_0 hw ls pa Z0 F_e0_ls) hZ (ww hw 428 rfl) (ww hw 366 rfl) (by decide) (by decide)) q6a q6b q6c (g := P5.g) rfl (by rw [hml]; rfl) (Steps.refl _) (argsL := [i0]) (rest := []) (lenOf pd_46 rfl) rfl (by show 2 * 0 + _ ≤ _; exact Nat.le_of_eq rfl) (hb hby d80_10) (fun _ _ => ⟨rfl, e4, (by decide : 0 + 0 ≤ _), (by decide : 0 + 0 ≤ _)⟩)
 dsimp only [Pt.U, Pt.locs, Pt.cells, Pt.slots] at X6 l6 y6 z6 st6 hQ6
 subst l6 y6 z6
 obtain ⟨rfl, N6q, e6⟩ := hQ6
 have N6 := Fr.app N0 N6q
 have P7 := P5.tr st6
 have P8 : PP p e below T6 (mkF m 20 #[rv it, iv 0, rv pa] [(.int 1), (.ref it)]) s0 := fun q_ k_ => P7 q_ (by
  exact bt X6 hx hby b270_ rfl k_)
 obtain ⟨T9, h9, X9, e9, W9, st9⟩ := putF X6 hx hZ hown (host := "") (Or.inl (ww hw 210 rfl)) Via.refl e6 F_cursor_it E_it (Or.inl (ww hw 211 rfl)) (ww hw 190 rfl) (ty := .int) (by decide) rfl rfl (g := P8.g) rfl rfl (hb hby d80_20)
 have P10 := P8.st st9
 have N9 := Fr.snoc X9 N6 g_it
 have K9 := (Keep.refl h0 [it]).wr W9 (Or.inl (mi 0))
 replace E_it := E_it.wr W9
 replace F_list_it := F_list_it.other W9 (Or.inr (slot_ne (Or.inr (ww hw 207 rfl)) (Or.inl (ww hw 211 rfl)) (by decide) (t := (.object "java/util/List")) (t' := .int) (by decide) (by decide)))
 replace Fz_it := Fz_it.other W9 (Or.inr (slot_ne (Or.inr (ww hw 209 rfl)) (Or.inl (ww hw 211 rfl)) (by decide) (t := .int) (t' := .int) (by decide) (by decide)))
 replace F_cursor_it : Fld Z h9 it cLI "cursor" "I" (.int 1) := F_cursor_it.same W9
 have P11 := P10.bt X9 hx hby b271_ rfl
 subst hs0
 obtain ⟨fs_, hr, hrun, hended, hW, hsame⟩ := X9.leave (v := some (.ref pa)) (fun h => by rw [Bd.returns] at h; cases h)
 refine ⟨_, _, P11 _ ?_, hrun, hended, _, _, rfl, ?_, ⟨_, rfl⟩, hW, hsame.mono (by decide) (by decide)⟩
 · show GG p e below T9 (mkF m 24 #[rv it, iv 0, rv pa] [(.ref pa)]) _
   jvm_step X9.here [X9.here.top, hx, (hb hby d80_24), X9.method', Bd.returns, Value.isRef, FieldType.isReference]
   first | (intro acts; rw [hr _ acts rfl rfl rfl]) | rw [hr _ _ rfl rfl rfl]
   exact Steps.refl _
 · show Q_next20 Z it ls em pa pb h0 n0 _ T9.heap _
   rw [e9]
   exact ⟨rfl, N9, K9, E_it, F_list_it, Fz_it, F_cursor_it⟩
theorem d79_11 : decode k79_ 11 = .ok (.if_icmp .ne 18, 3) := by decide +kernel
theorem b273_ : dl k79_ 9 [(.iload_n 1, 1), (.iconst 1, 1)] = true := by decide +kernel
theorem b274_ : dl k79_ 14 [(.aload_n 0, 1)] = true := by decide +kernel
theorem d79_15 : decode k79_ 15 = .ok (.getfield 24, 3) := by decide +kernel
theorem d79_18 : decode k79_ 18 = .ok (.getstatic 19, 3) := by decide +kernel
theorem d79_21 : decode k79_ 21 = .ok (.if_acmp .eq 8, 3) := by decide +kernel
theorem b275_ : dl k79_ 24 [(.aload_n 0, 1)] = true := by decide +kernel
theorem d79_25 : decode k79_ 25 = .ok (.getfield 24, 3) := by decide +kernel
theorem d79_28 : decode k79_ 28 = .ok (.areturn, 1) := by decide +kernel
def Q_get12_1 (Z : State) (ls pb em : Addr) : QT := fun h0 n0 v h L => v = some (.ref pb) ∧ Fr n0 L ∧ h = h0
theorem rm_get12_1 (hw : HW a0 Z) (ls pb em : Addr) (Z0 : n0 ≤ h0.size) (F_e1_ls : Fld Z h0 ls cL2 "e1" dO (.ref pb)) (Se : SU6 Z em) (OL : Old Z n0 h0) (ne_pb_em : pb ≠ em) :
  MetP l Z mn_82 k79_ 2 (some tOb) (rr 0 0 0 0) ws #[(.ref ls), (.int 1)] h0 (Q_get12_1 Z ls pb em h0 n0) := by
 refine begH n0 cL2 rfl (plainFor_of_name pn_15) fun p e s m below meth c s₁ s0 hrt hlk hZ hx hby hml hown hnm X0 e0 N0 P0 => ?_
 replace P0 : PP p e below s₁ (mkF m 0 #[rv ls, iv 1] []) s0 := castPP (ef_40 m ls) P0
 have P1 : PP p e below s₁ (mkF m 15 #[rv ls, iv 1] [(.ref ls)]) s0 := fun q_ k_ => P0 q_ (by
  refine bt X0 hx hby b265_ rfl ?_
  refine XS.ifYes X0.here hx rfl (pc0 := 1) (pc' := 9) rfl (hb hby d79_1) rfl ((if0 _ _).trans (feq ((by decide) : ¬ ((1 : Int32) = (0 : Int32)))).2) (by decide) (by decide) ?_
  refine bt X0 hx hby b273_ rfl ?_
  refine XS.icmpNo X0.here hx rfl (hb hby d79_11) rfl (teq ((by decide) : (1 : Int32) = (1 : Int32))).2 ?_
  exact bt X0 hx hby b274_ rfl k_)
 obtain ⟨T2, X2, e2, P2⟩ := gF P1 X0 hx hZ hown hw 391 e0 F_e1_ls (hb hby d79_15)
 obtain ⟨T3, X3, e3, P3⟩ := gN P2 X2 hx hZ hown hw 390 e2 (Se.ext OL.2) (hb hby d79_18)
 have P4 : PP p e below T3 (mkF m 25 #[rv ls, iv 1] [(.ref ls)]) s0 := fun q_ k_ => P3 q_ (by
  refine Jvm.RoadKit.acmp X3 hx rfl rfl rfl (pc0 := 21) (pc' := 24) (same := false) rfl (hb hby d79_21) rfl (decide_eq_false fun q => ne_pb_em (Value.ref.inj q)) (by decide) (by decide) ?_
  exact bt X3 hx hby b275_ rfl k_)
 obtain ⟨T5, X5, e5, P5⟩ := gF P4 X3 hx hZ hown hw 391 e3 F_e1_ls (hb hby d79_25)
 exact endA 28 #[rv ls, iv 1] (rest := []) X5 hx hrt rfl hlk P5 (hb hby d79_28) e5 (by decide) (by decide) (show Q_get12_1 Z ls pb em h0 n0 _ _ _ from ⟨rfl, N0, rfl⟩)
def Q_next21 (Z : State) (it ls em pa pb : Addr) : QT := fun h0 n0 v h L => v = some (.ref pb) ∧ Fr n0 L ∧ Keep h0 h [it] ∧ (Exa Z h it cLI) ∧ (Fld Z h it cLI "list" dL (.ref ls)) ∧ (Fld Z h it cLI "size" "I" (.int 2)) ∧ (Fld Z h it cLI "cursor" "I" (.int 2))
theorem rm_next21 (hw : HW a0 Z) (it ls em pa pb : Addr) (Z0 : n0 ≤ h0.size) (E_it : Exa Z h0 it cLI) (F_list_it : Fld Z h0 it cLI "list" dL (.ref ls)) (Fz_it : Fld Z h0 it cLI "size" "I" (.int 2)) (F_cursor_it : Fld Z h0 it cLI "cursor" "I" (.int 1)) (E_ls : Exa Z h0 ls cL2) (F_e0_ls : Fld Z h0 ls cL2 "e0" dO (.ref pa)) (F_e1_ls : Fld Z h0 ls cL2 "e1" dO (.ref pb)) (g_it : n0 ≤ it) (ne_ls_it : ls ≠ it) (Se : SU6 Z em) (OL : Old Z n0 h0) (ne_pb_em : pb ≠ em) :
  MetW l Z mn_84 k80_ 3 (some tOb) (rr 1 0 0 13) [((0 : Nat), (24 : Nat), (25 : Nat), (30 : Nat))] ws #[(.ref it)] h0 (Q_next21 Z it ls em pa pb h0 n0) := by
 refine MetFree.of_bodySF (plainFor_of_name pn_17) hisWith ?_
 intro p e s m args below meth c s₁ Bd hml0 hP hK; obtain ⟨rfl, hZ, hh⟩ := hP; have hx := Bd.exec; have hby := Bd.bytes; have hml : c.maxLocals = 3 := hml0
 have hown : s.vm.findClass cLI = some m.cls := findClass_of_methodNamed Bd.named
 have X0 : Stand _ _ _ (rr 1 0 0 13) _ _ _ _ _ _ _ _ _ _ := Stand.of_body Bd
 have e0 : s₁.heap = h0 := by rw [← hh, Bd.state]; rfl
 have N0 := Fr.nil n0
 obtain ⟨s0, hs0⟩ := exi (s₁.setTop (entryFrame m #[(.ref it)] 3))
 have P0 : PP p e below s₁ (mkF m 0 #[rv it, .unset, .unset] []) s0 := fun q_ k_ => by rw [hs0]; exact castTop (ef_45 m it) k_
 have P1 := P0.bt X0 hx hby b267_ rfl
 obtain ⟨T2, X2, e2, P2⟩ := gF P1 X0 hx hZ hown hw 210 e0 F_cursor_it (hb hby d80_1)
 have P3 : PP p e below T2 (mkF m 6 #[rv it, iv 1, .unset] [(.ref it)]) s0 := fun q_ k_ => P2 q_ (by
  exact bt X2 hx hby b268_ rfl k_)
 obtain ⟨T4, X4, e4, P4⟩ := gF P3 X2 hx hZ hown hw 206 e2 F_list_it (hb hby d80_6)
 have P5 := P4.bt X4 hx hby b269_ rfl
 obtain ⟨cq6, kq6, q6a, q6b, q6c⟩ := isOf hZ e4 E_ls
 obtain ⟨_, _, ⟨T6, L6, k6, n6⟩, -, X6, ⟨Lc6, hQ6, l6, y6, z6⟩, st6⟩ := X4.interfaceBack hx (xi := mn_83) (y := mn_82) hown (mw hZ hw 420 rfl) (mw hZ hw 421 rfl) (mw hZ hw 422 rfl) (mw hZ hw 423 rfl) (mw hZ hw 424 rfl) (mw hZ hw 425 rfl) (mw hZ hw 426 rfl) (mw hZ hw 427 rfl) (by decide) (backOf (W := 0) (rm_get12_1 hw ls pb em Z0 F_e1_ls Se OL ne_pb_em) hZ (ww hw 428 rfl) (ww hw 366 rfl) (by decide) (by decide)) q6a q6b q6c (g := P5.g) rfl (by rw [hml]; rfl) (Steps.refl _) (argsL := [(.int 1)]) (rest := []) (lenOf pd_46 rfl) rfl (by show 2 * 0 + _ ≤ _; exact Nat.le_of_eq rfl) (hb hby d80_10) (fun _ _ => ⟨rfl, e4, (by decide : 0 + 0 ≤ _), (by decide : 0 + 0 ≤ _)⟩)
 dsimp only [Pt.U, Pt.locs, Pt.cells, Pt.slots] at X6 l6 y6 z6 st6 hQ6
 subst l6 y6 z6
 obtain ⟨rfl, N6q, e6⟩ := hQ6
 have N6 := Fr.app N0 N6q
 have P7 := P5.tr st6
 have P8 : PP p e below T6 (mkF m 20 #[rv it, iv 1, rv pb] [(.int 2), (.ref it)]) s0 := fun q_ k_ => P7 q_ (by
  exact bt X6 hx hby b270_ rfl k_)
 obtain ⟨T9, h9, X9, e9, W9, st9⟩ := putF X6 hx hZ hown (host := "") (Or.inl (ww hw 210 rfl)) Via.refl e6 F_cursor_it E_it (Or.inl (ww hw 211 rfl)) (ww hw 190 rfl) (ty := .int) (by decide) rfl rfl (g := P8.g) rfl rfl (hb hby d80_20)
 have P10 := P8.st st9
 have N9 := Fr.snoc X9 N6 g_it
 have K9 := (Keep.refl h0 [it]).wr W9 (Or.inl (mi 0))
 replace E_it := E_it.wr W9
 replace F_list_it := F_list_it.other W9 (Or.inr (slot_ne (Or.inr (ww hw 207 rfl)) (Or.inl (ww hw 211 rfl)) (by decide) (t := (.object "java/util/List")) (t' := .int) (by decide) (by decide)))
 replace Fz_it := Fz_it.other W9 (Or.inr (slot_ne (Or.inr (ww hw 209 rfl)) (Or.inl (ww hw 211 rfl)) (by decide) (t := .int) (t' := .int) (by decide) (by decide)))
 replace F_cursor_it : Fld Z h9 it cLI "cursor" "I" (.int 2) := F_cursor_it.same W9
 have P11 := P10.bt X9 hx hby b271_ rfl
 subst hs0
 obtain ⟨fs_, hr, hrun, hended, hW, hsame⟩ := X9.leave (v := some (.ref pb)) (fun h => by rw [Bd.returns] at h; cases h)
 refine ⟨_, _, P11 _ ?_, hrun, hended, _, _, rfl, ?_, ⟨_, rfl⟩, hW, hsame.mono (by decide) (by decide)⟩
 · show GG p e below T9 (mkF m 24 #[rv it, iv 1, rv pb] [(.ref pb)]) _
   jvm_step X9.here [X9.here.top, hx, (hb hby d80_24), X9.method', Bd.returns, Value.isRef, FieldType.isReference]
   first | (intro acts; rw [hr _ acts rfl rfl rfl]) | rw [hr _ _ rfl rfl rfl]
   exact Steps.refl _
 · show Q_next21 Z it ls em pa pb h0 n0 _ T9.heap _
   rw [e9]
   exact ⟨rfl, N9, K9, E_it, F_list_it, Fz_it, F_cursor_it⟩
abbrev k81_ := jdk_42_method_126_code
theorem b276_ : dl k81_ 0 [(.aload_n 0, 1)] = true := by decide +kernel
theorem d81_1 : decode k81_ 1 = .ok (.areturn, 1) := by decide +kernel
def Q_strStr (Z : State) (xs : Addr) : QT := fun h0 n0 v h L => v = some (.ref xs) ∧ Fr n0 L ∧ h = h0
abbrev mn_85 : MethodName := ⟨"java/lang/String", "toString", "()Ljava/lang/String;"⟩
theorem rm_strStr (hw : HW a0 Z) (xs : Addr) (Z0 : n0 ≤ h0.size) :
  MetP l Z mn_85 k81_ 1 (some (.object cS)) (rr 0 0 0 0) ws #[(.ref xs)] h0 (Q_strStr Z xs h0 n0) := by
 refine begH n0 cS rfl (plainFor_of_name pn_2) fun p e s m below meth c s₁ s0 hrt hlk hZ hx hby hml hown hnm X0 e0 N0 P0 => ?_
 replace P0 : PP p e below s₁ (mkF m 0 #[rv xs] []) s0 := castPP (ef_4 m xs) P0
 have P1 := P0.bt X0 hx hby b276_ rfl
 exact endA 1 #[rv xs] (rest := []) X0 hx hrt rfl hlk P1 (hb hby d81_1) e0 (by decide) (by decide) (show Q_strStr Z xs h0 n0 _ _ _ from ⟨rfl, N0, rfl⟩)
abbrev k82_ := jdk_42_method_133_code
theorem d82_1 : decode k82_ 1 = .ok (.ifnonnull 9, 3) := by decide +kernel
theorem b277_ : dl k82_ 0 [(.aload_n 0, 1)] = true := by decide +kernel
theorem b278_ : dl k82_ 10 [(.aload_n 0, 1)] = true := by decide +kernel
theorem pd_47 : parseMethodDescriptor "()Ljava/lang/String;" = some ⟨[], some (.object "java/lang/String")⟩ := by decide +kernel
theorem d82_11 : decode k82_ 11 = .ok (.invokevirtual 1007, 3) := by decide +kernel
abbrev mn_86 : MethodName := ⟨"java/lang/Object", "toString", "()Ljava/lang/String;"⟩
theorem d82_14 : decode k82_ 14 = .ok (.areturn, 1) := by decide +kernel
abbrev mn_87 : MethodName := ⟨"java/lang/String", "valueOf", "(Ljava/lang/Object;)Ljava/lang/String;"⟩
theorem rm_valS (hw : HW a0 Z) (xs : Addr) (Z0 : n0 ≤ h0.size) (E_xs : Exa Z h0 xs cS) (OL : Old Z n0 h0) :
  MetP l Z mn_87 k82_ 1 (some (.object cS)) (rr 1 0 0 12) ws #[(.ref xs)] h0 (Q_strStr Z xs h0 n0) := by
 refine begH n0 cS rfl (plainFor_of_name pn_2) fun p e s m below meth c s₁ s0 hrt hlk hZ hx hby hml hown hnm X0 e0 N0 P0 => ?_
 replace P0 : PP p e below s₁ (mkF m 0 #[rv xs] []) s0 := castPP (ef_4 m xs) P0
 have P1 : PP p e below s₁ (mkF m 11 #[rv xs] [(.ref xs)]) s0 := fun q_ k_ => P0 q_ (by
  refine bt X0 hx hby b277_ rfl ?_
  refine XS.ifnonnullYes X0.here hx rfl (pc0 := 1) (pc' := 10) rfl (hb hby d82_1) rfl (by decide) (by decide) ?_
  exact bt X0 hx hby b278_ rfl k_)
 obtain ⟨cq2, kq2, q2a, q2b, q2c⟩ := isOf hZ e0 E_xs
 obtain ⟨_, _, ⟨T2, L2, k2, n2⟩, -, X2, ⟨Lc2, hQ2, l2, y2, z2⟩, st2⟩ := X0.virtualBack hx (y := mn_86) (z := mn_85) hown (mw hZ hw 177 rfl) (mw hZ hw 178 rfl) (own_nf (args := #[]) (mw hZ hw 353 rfl) rfl) (mw hZ hw 430 rfl) (mw hZ hw 431 rfl) (by decide) (backOf (W := 0) (rm_strStr hw xs Z0) hZ (ww hw 432 rfl) (ww hw 2 rfl) (by decide) (by decide)) q2a q2c (g := P1.g) rfl (by rw [hml]; rfl) (Steps.refl _) (argsL := []) (rest := []) (lenOf pd_47 rfl) rfl (by show 2 * 0 + _ ≤ _; exact Nat.le_of_eq rfl) (hb hby d82_11) (fun _ _ => ⟨rfl, e0, (by decide : 0 + 0 ≤ _), (by decide : 0 + 0 ≤ _)⟩)
 dsimp only [Pt.U, Pt.locs, Pt.cells, Pt.slots] at X2 l2 y2 z2 st2 hQ2
 subst l2 y2 z2
 obtain ⟨rfl, N2q, e2⟩ := hQ2
 have N2 := Fr.app N0 N2q
 have P3 := P1.tr st2
 exact endA 14 #[rv xs] (rest := []) X2 hx hrt rfl hlk P3 (hb hby d82_14) e2 (by decide) (by decide) (show Q_strStr Z xs h0 n0 _ _ _ from ⟨rfl, N2, rfl⟩)
abbrev k83_ := jdk_67_method_6_code
theorem b279_ : dl k83_ 0 [(.aload_n 0, 1), (.aload_n 1, 1)] = true := by decide +kernel
theorem pd_48 : parseMethodDescriptor "(Ljava/lang/Object;)Ljava/lang/String;" = some ⟨[(.object "java/lang/Object")], some (.object "java/lang/String")⟩ := by decide +kernel
theorem d83_2 : decode k83_ 2 = .ok (.invokestatic 17, 3) := by decide +kernel
theorem pd_49 : parseMethodDescriptor "(Ljava/lang/String;)Ljava/lang/StringBuilder;" = some ⟨[(.object "java/lang/String")], some (.object "java/lang/StringBuilder")⟩ := by decide +kernel
theorem d83_5 : decode k83_ 5 = .ok (.invokevirtual 23, 3) := by decide +kernel
theorem d83_8 : decode k83_ 8 = .ok (.areturn, 1) := by decide +kernel
abbrev mn_88 : MethodName := ⟨"java/lang/StringBuilder", "append", "(Ljava/lang/Object;)Ljava/lang/StringBuilder;"⟩
theorem rm_sbAppO (hw : HW a0 Z) (sb t : Addr) (kb : ClassId) (cd zb : Int32) (vs : List Value) (cs : List Int32) (xs ts : Addr) (ks : ClassId) (ce ze : Int32) (wv : List Value) (ds : List Int32) (G1 : Int32) (Gf : Value) (Z0 : n0 ≤ h0.size) (E_sb : Exa Z h0 sb cB) (Fv_sb : Fld Z h0 sb cA "value" "[B" (.ref t)) (Fc_sb : Fld Z h0 sb cA "coder" "B" (.int cd)) (Fn_sb : Fld Z h0 sb cA "count" "I" (.int (Int32.ofNat cs.length))) (Fm_sb : Fld Z h0 sb cA "maybeLatin1" "Z" i0) (V_t : Arv Z h0 t kb .byte zb vs i0) (E_xs : Exa Z h0 xs cS) (Fv_xs : Fld Z h0 xs cS "value" "[B" (.ref ts)) (Fc_xs : Fld Z h0 xs cS "coder" "B" (.int ce)) (V_ts : Arv Z h0 ts ks .byte ze wv i0) (g_t : n0 ≤ t) (g_sb : n0 ≤ sb) (ne_xs_t : xs ≠ t) (ne_ts_t : ts ≠ t) (ne_sb_t : sb ≠ t) (ne_xs_sb : xs ≠ sb) (ne_ts_sb : ts ≠ sb) (Sc : SU4 Z G1) (hz : ¬ G1 = 0) (Sa : SU1 Z) (Sh : SU2 Z) (Sl : SU3 Z) (Sf : SU5 Z Gf) (rGf : Gf.isRef = true) (OL : Old Z n0 h0) (hbb : BB cd zb vs cs) (hkb : KB ce ze wv ds) (hle : cs.length + ds.length ≤ 16) :
  MetP l Z mn_88 k83_ 2 (some (.object cB)) (rr 10 1 32 143) ws #[(.ref sb), (.ref xs)] h0 (Q_asbApp Z sb t kb cd zb vs cs xs ts ks ce ze wv ds G1 Gf h0 n0) := by
 refine begH n0 cB rfl (plainFor_of_name pn_6) fun p e s m below meth c s₁ s0 hrt hlk hZ hx hby hml hown hnm X0 e0 N0 P0 => ?_
 replace P0 : PP p e below s₁ (mkF m 0 #[rv sb, rv xs] []) s0 := castPP (ef_21 m sb xs) P0
 have P1 := P0.bt X0 hx hby b279_ rfl
 obtain ⟨_, T2, L2, X2, hQ2, P2⟩ := cSt P1 X0 hx hZ hown hw e0 hml 174 175 2 176 (rm_valS hw xs Z0 E_xs OL) rfl rfl rfl rfl rfl rfl [(.ref xs)] [(.ref sb)] 1 (lenOf pd_48 rfl) rfl (Nat.le_of_eq rfl) (hb hby d83_2) rfl (by decide)
 obtain ⟨rfl, N2q, e2⟩ := hQ2
 have N2 := Fr.app N0 N2q
 obtain ⟨_, T3, L3, X3, hQ3, P3⟩ := cVi P2 X2 hx hZ hown hw e2 E_sb hml 224 122 121 123 103 (rm_sbApp hw sb t kb cd zb vs cs xs ts ks ce ze wv ds G1 Gf Z0 E_sb Fv_sb Fc_sb Fn_sb Fm_sb V_t E_xs Fv_xs Fc_xs V_ts g_t g_sb ne_xs_t ne_ts_t ne_sb_t ne_xs_sb ne_ts_sb Sc hz Sa Sh Sl Sf rGf OL hbb hkb hle) rfl rfl rfl rfl rfl rfl rfl [(.ref xs)] [] 0 (lenOf pd_49 rfl) rfl (Nat.le_of_eq rfl) (hb hby d83_5) rfl (by decide)
 obtain ⟨tn_3, kn_3, cd2_3, zb2_3, vs2_3, rfl, N3q, Kc3, po3_0, po3_1, po3_2, po3_3, po3_4, po3_5, po3_6, po3_7, po3_8⟩ := hQ3
 have N3 := Fr.app N2 N3q
 obtain ⟨Lf4, X3, N4⟩ := fixL X3 N3 1 32 rfl rfl
 have g_tn_3 : n0 ≤ tn_3 := own_tof2 po3_0 g_t (Nat.le_trans Z0 (Nat.le_refl h0.size))
 have tf_tn_3 : tn_3 = t ∨ h0.size ≤ tn_3 := own_tof3 po3_0 (Nat.le_refl h0.size)
 have K3 := Kt2 (Keep.refl h0 [sb, t]) Kc3 (Or.inl (mi 0)) (Or.inl (mi 1))
 have E_sb := po3_1
 have Fv_sb := po3_2
 have Fc_sb := po3_3
 have Fn_sb := po3_4
 have Fm_sb := po3_5
 have V_tn_3 := po3_6
 have hbb2_3 := po3_8
 exact endA 8 #[rv sb, rv xs] (rest := []) X3 hx hrt rfl hlk P3 (hb hby d83_8) rfl (by decide) (by decide) (show Q_asbApp Z sb t kb cd zb vs cs xs ts ks ce ze wv ds G1 Gf h0 n0 _ _ _ from ⟨tn_3, kn_3, cd2_3, zb2_3, vs2_3, rfl, N4, K3, tf_tn_3, E_sb, Fv_sb, Fc_sb, Fn_sb, Fm_sb, V_tn_3, po3_7, hbb2_3⟩)
theorem ef_46 (m : MethodId) (x0 : Addr) : entryFrame m #[(.ref x0)] 4 = mkF m 0 #[.val (.ref x0), .unset, .unset, .unset] [] := by first | (simp [entryFrame, mkF, argsToLocals, Value.category]; done) | rfl
abbrev k84_ := jdk_22_method_16_code
theorem b280_ : dl k84_ 0 [(.aload_n 0, 1)] = true := by decide +kernel
theorem pd_50 : parseMethodDescriptor "()Ljava/util/Iterator;" = some ⟨[], some (.object "java/util/Iterator")⟩ := by decide +kernel
theorem d84_1 : decode k84_ 1 = .ok (.invokevirtual 13, 3) := by decide +kernel
abbrev mn_89 : MethodName := ⟨"java/util/AbstractCollection", "iterator", "()Ljava/util/Iterator;"⟩
theorem b281_ : dl k84_ 4 [(.astore_n 1, 1), (.aload_n 1, 1)] = true := by decide +kernel
theorem d84_6 : decode k84_ 6 = .ok (.invokeinterface 17 1, 5) := by decide +kernel
abbrev mn_90 : MethodName := ⟨"java/util/Iterator", "hasNext", "()Z"⟩
theorem d84_11 : decode k84_ 11 = .ok (.ifCond .ne 6, 3) := by decide +kernel
theorem d84_14 : decode k84_ 14 = .ok (.ldc 92, 2) := by decide +kernel
theorem d84_16 : decode k84_ 16 = .ok (.areturn, 1) := by decide +kernel
def Q_acStr0 (Z : State) (el ee : Addr) (kee : ClassId) : QT := fun h0 n0 v h L => ∃ (xs : Addr) (ts : Addr) (ks : ClassId), v = some (.ref xs) ∧ Fr n0 L ∧ Keep h0 h [] ∧ (Exa Z h xs cS) ∧ (Fld Z h xs cS "value" "[B" (.ref ts)) ∧ (Fld Z h xs cS "coder" "B" i0) ∧ (Arv Z h ts ks .byte 2 [(.int 91), (.int 93)] i0)
abbrev mn_91 : MethodName := ⟨"java/util/AbstractCollection", "toString", "()Ljava/lang/String;"⟩
theorem rm_acStr0 (hw : HW a0 Z) (hEL : EW Z a0 ELs) (el ee : Addr) (kee : ClassId) (Z0 : n0 ≤ h0.size) (XEL : Exa Z Z.heap el cLN) (FEL : Fld Z Z.heap el cLN "elements" dOA (.ref ee)) (VEE : Arv Z Z.heap ee kee tOb (0 : Int32) [] .null) (OL : Old Z n0 h0) :
  MetQ l Z mn_91 k84_ 4 (some (.object cS)) (rr 3 3 16 39) ws #[(.ref el)] h0 ELs (Q_acStr0 Z el ee kee h0 n0) := by
 refine MetFree.of_bodySF (plainFor_of_name pn_7) hisR ?_
 intro p e s m args below meth c s₁ Bd hml0 hP hK; obtain ⟨rfl, hZ, hh, hCH⟩ := hP; have hx := Bd.exec; have hby := Bd.bytes; have hml : c.maxLocals = 4 := hml0
 have hown : s.vm.findClass "java/util/AbstractCollection" = some m.cls := findClass_of_methodNamed Bd.named
 have X0 : Stand p l e (rr 3 3 16 39) (s.setVm s.vm) m #[(.ref el)] below meth c s₁ [] 0 0 := Stand.of_body Bd
 replace hZ : Z.Warmed39 (s.setVm s.vm).vm := hZ
 replace hown : (s.setVm s.vm).vm.findClass "java/util/AbstractCollection" = some m.cls := hown
 have hS : s.Since s.vm 0 := (State.WarmedH.refl s).since 0
 have hk : 0 ≤ h0.size := Nat.zero_le _
 have CR : CHr Z ELs s.vm h0 s.vm h0 := CHr.refl hCH
 have e0 : s₁.heap = h0 := by rw [← hh, Bd.state]; rfl
 have N0 := Fr.nil n0
 obtain ⟨s0, hs0⟩ := exi (s₁.setTop (entryFrame m #[(.ref el)] 4))
 have P0 : PP p e below s₁ (mkF m 0 #[rv el, .unset, .unset, .unset] []) s0 := fun q_ k_ => by rw [hs0]; exact castTop (ef_46 m el) k_
 have E_el : Exa Z h0 el cLN := XEL.ext OL.2
 have P1 := P0.bt X0 hx hby b280_ rfl
 obtain ⟨cq2, kq2, q2a, q2b, q2c⟩ := isOf hZ e0 E_el
 obtain ⟨_, _, ⟨T2, L2, k2, n2⟩, -, X2, ⟨Lc2, hQ2, l2, y2, z2⟩, st2⟩ := X0.virtualBack hx (y := mn_89) (z := mn_79) hown (mw hZ hw 183 rfl) (mw hZ hw 184 rfl) (own_nf (args := #[]) (mw hZ hw 180 rfl) rfl) (mw hZ hw 185 rfl) (mw hZ hw 186 rfl) (by decide) (backOf (W := 0) (rm_iter0 hw el ee kee Z0 XEL FEL VEE OL) hZ (ww hw 188 rfl) (ww hw 187 rfl) (by decide) (by decide)) q2a q2c (g := P1.g) rfl (by rw [hml]; rfl) (Steps.refl _) (argsL := []) (rest := []) (lenOf pd_50 rfl) rfl (by show 2 * 0 + _ ≤ _; exact Nat.le_of_eq rfl) (hb hby d84_1) (fun _ _ => ⟨rfl, e0, (by decide : 0 + 1 ≤ _), (by decide : 0 + 4 ≤ _)⟩)
 dsimp only [Pt.U, Pt.locs, Pt.cells, Pt.slots] at X2 l2 y2 z2 st2 hQ2
 subst l2 y2 z2
 obtain ⟨it_2, rfl, N2q, Kc2, po2_0, po2_1, po2_2, po2_3, po2_4⟩ := hQ2
 have N2 := Fr.app N0 N2q
 obtain ⟨Lf3, X2, N3⟩ := fixL X2 N2 1 4 rfl rfl
 have P4 := P1.tr st2
 have sfk2 := (sf0 : ∀ x ∈ [], Safe Z ELs s.vm h0 x)
 replace CR : CHr Z ELs s.vm h0 s.vm T2.heap := CR.trans (CHr.keep Kc2 sfk2 CR.1)
 replace hk := Nat.le_trans hk Kc2.1
 have K2 := (Keep.refl h0 []).trans Kc2 all0
 have E_it_2 := po2_1
 have F_list_it_2 := po2_2
 have Fz_it_2 := po2_3
 have F_cursor_it_2 := po2_4
 have P5 : PP p e below T2 (mkF m 6 #[rv el, rv it_2, .unset, .unset] [(.ref it_2)]) s0 := fun q_ k_ => P4 q_ (by
  exact bt X2 hx hby b281_ rfl k_)
 obtain ⟨cq6, kq6, q6a, q6b, q6c⟩ := isOf hZ rfl E_it_2
 obtain ⟨_, _, ⟨T6, L6, k6, n6⟩, -, X6, ⟨Lc6, hQ6, l6, y6, z6⟩, st6⟩ := X2.interfaceBack hx (xi := mn_90) (y := mn_80) hown (mw hZ hw 214 rfl) (mw hZ hw 215 rfl) (mw hZ hw 216 rfl) (mw hZ hw 217 rfl) (mw hZ hw 218 rfl) (mw hZ hw 219 rfl) (mw hZ hw 220 rfl) (mw hZ hw 221 rfl) (by decide) (backOf (W := 0) (rm_hasN00 hw it_2 el (zT Z0 K2.1) E_it_2 F_list_it_2 Fz_it_2 F_cursor_it_2) hZ (ww hw 222 rfl) (ww hw 191 rfl) (by decide) (by decide)) q6a q6b q6c (g := P5.g) rfl (by rw [hml]; rfl) (Steps.refl _) (argsL := []) (rest := []) (lenOf pd_20 rfl) rfl (by show 2 * 0 + _ ≤ _; exact Nat.le_of_eq rfl) (hb hby d84_6) (fun _ _ => ⟨rfl, rfl, (by decide : 1 + 0 ≤ _), (by decide : 4 + 0 ≤ _)⟩)
 dsimp only [Pt.U, Pt.locs, Pt.cells, Pt.slots] at X6 l6 y6 z6 st6 hQ6
 subst l6 y6 z6
 obtain ⟨rfl, N6q, e6⟩ := hQ6
 have N6 := Fr.app N3 N6q
 have P7 := P5.tr st6
 have P8 : PP p e below T6 (mkF m 14 #[rv el, rv it_2, .unset, .unset] []) s0 := fun q_ k_ => P7 q_ (by
  exact XS.ifNo X6.here hx rfl (hb hby d84_11) rfl ((if0 _ _).trans (teq ((by decide) : (0 : Int32) = (0 : Int32))).2) k_)
 obtain ⟨b9, T9, h9, ki9, bb9, kb9, X9, e9, E9, hS, hk, hZ, hown, lA9, lC9, lV9, lB9, la9, lb9, cC9, lL9, hsf9, st9⟩ := ldcCH X6 hx hZ hown (ww hw 223 rfl) (own_wS hw) e6 hS hk hEL (by decide) CR.1 (vs := [(.int 91), (.int 93)]) (z := (2 : Int32)) ⟨by decide, rfl⟩ (by decide) (by decide) (g := P8.g) rfl (hb hby d84_14) (n := 8) (by decide) (by decide) (by decide) (by decide)
 have P10 := P8.st st9
 replace CR : CHr Z ELs s.vm h0 T9.vm h9 := CR.trans cC9
 have K9 := K2.ext E9
 obtain ⟨Lf11, X9, N11⟩ := fixL X9 N6 3 16 rfl rfl
 have E_b9 : Exa Z h9 b9 cS := lA9
 have Fc_b9 : Fld Z h9 b9 cS "coder" "B" i0 := lC9
 have Fv_b9 : Fld Z h9 b9 cS "value" "[B" (.ref bb9) := lV9
 have V_bb9 : Arv Z h9 bb9 kb9 .byte 2 [(.int 91), (.int 93)] i0 := lB9
 subst hs0
 obtain ⟨fs_, hr, hrun, hended, hREW⟩ := X9.leaveW hS (by rw [e9]; exact hk) (v := some (.ref b9)) (fun h => by rw [Bd.returns] at h; cases h)
 have CRT := CR.trans (CHv.at X9 hZ hEL CR.1)
 refine ⟨_, _, P10 _ ?_, hrun, hended, _, _, rfl, ?_, ?_, hREW.1, hREW.2.1, hREW.2.2.1, hREW.2.2.2.mono (by decide) (by decide)⟩
 · show GG p e below T9 (mkF m 16 #[rv el, rv it_2, .unset, .unset] [(.ref b9)]) _
   jvm_step X9.here [X9.here.top, hx, (hb hby d84_16), X9.method', Bd.returns, Value.isRef, FieldType.isReference]
   first | (intro acts; rw [hr _ acts rfl rfl rfl]) | rw [hr _ _ rfl rfl rfl]
   exact Steps.refl _
 · show Q_acStr0 Z el ee kee h0 n0 _ T9.heap _
   rw [e9]
   exact ⟨b9, bb9, kb9, rfl, N11, K9, E_b9, Fv_b9, Fc_b9, V_bb9⟩
 · show CHr Z ELs s.vm s.heap T9.vm T9.heap
   rw [hh, e9]
   exact CRT
theorem rm_valL0 (hw : HW a0 Z) (hEL : EW Z a0 ELs) (el ee : Addr) (kee : ClassId) (Z0 : n0 ≤ h0.size) (XEL : Exa Z Z.heap el cLN) (FEL : Fld Z Z.heap el cLN "elements" dOA (.ref ee)) (VEE : Arv Z Z.heap ee kee tOb (0 : Int32) [] .null) (OL : Old Z n0 h0) :
  MetQ l Z mn_87 k82_ 1 (some (.object cS)) (rr 4 3 16 54) ws #[(.ref el)] h0 ELs (Q_acStr0 Z el ee kee h0 n0) := by
 refine MetFree.of_bodySF (plainFor_of_name pn_2) hisR ?_
 intro p e s m args below meth c s₁ Bd hml0 hP hK; obtain ⟨rfl, hZ, hh, hCH⟩ := hP; have hx := Bd.exec; have hby := Bd.bytes; have hml : c.maxLocals = 1 := hml0
 have hown : s.vm.findClass cS = some m.cls := findClass_of_methodNamed Bd.named
 have X0 : Stand p l e (rr 4 3 16 54) (s.setVm s.vm) m #[(.ref el)] below meth c s₁ [] 0 0 := Stand.of_body Bd
 replace hZ : Z.Warmed39 (s.setVm s.vm).vm := hZ
 replace hown : (s.setVm s.vm).vm.findClass cS = some m.cls := hown
 have hS : s.Since s.vm 0 := (State.WarmedH.refl s).since 0
 have hk : 0 ≤ h0.size := Nat.zero_le _
 have CR : CHr Z ELs s.vm h0 s.vm h0 := CHr.refl hCH
 have e0 : s₁.heap = h0 := by rw [← hh, Bd.state]; rfl
 have N0 := Fr.nil n0
 obtain ⟨s0, hs0⟩ := exi (s₁.setTop (entryFrame m #[(.ref el)] 1))
 have P0 : PP p e below s₁ (mkF m 0 #[rv el] []) s0 := fun q_ k_ => by rw [hs0]; exact castTop (ef_4 m el) k_
 have E_el : Exa Z h0 el cLN := XEL.ext OL.2
 have P1 : PP p e below s₁ (mkF m 11 #[rv el] [(.ref el)]) s0 := fun q_ k_ => P0 q_ (by
  refine bt X0 hx hby b277_ rfl ?_
  refine XS.ifnonnullYes X0.here hx rfl (pc0 := 1) (pc' := 10) rfl (hb hby d82_1) rfl (by decide) (by decide) ?_
  exact bt X0 hx hby b278_ rfl k_)
 obtain ⟨cq2, kq2, q2a, q2b, q2c⟩ := isOf hZ e0 E_el
 obtain ⟨_, _, ⟨T2, L2, k2, n2⟩, -, X2, hS2, hg2, ⟨Lc2, hQ2, l2, y2, z2, cC2⟩, st2⟩ := X0.virtualBackS hx (y := mn_86) (z := mn_91) hown (mw hZ hw 177 rfl) (mw hZ hw 178 rfl) (own_nf (args := #[]) (mw hZ hw 353 rfl) rfl) (mw hZ hw 180 rfl) (mw hZ hw 181 rfl) (by decide) (backOfSH (W := 0) (rm_acStr0 hw hEL el ee kee Z0 XEL FEL VEE OL) hZ (ww hw 182 rfl) (ww hw 46 rfl) (by decide) (by decide) hEL CR.1) q2a q2c (g := P1.g) rfl (by rw [hml]; rfl) (Steps.refl _) (argsL := []) (rest := []) (lenOf pd_47 rfl) rfl (by show 2 * 0 + _ ≤ _; exact Nat.le_of_eq rfl) (hb hby d82_11) (fun _ _ => ⟨rfl, e0, (by decide : 0 + 3 ≤ _), (by decide : 0 + 16 ≤ _)⟩)
 dsimp only [Pt.U, Pt.locs, Pt.cells, Pt.slots] at X2 l2 y2 z2 st2 hQ2 hS2 hg2 cC2
 subst l2 y2 z2
 obtain ⟨X2, hS, hZ, hown⟩ := rebS hS (by rw [e0]; exact hk) X2 hS2 hg2 hZ hown
 have hk : T2.heap.size ≤ T2.heap.size := Nat.le_refl _
 obtain ⟨xs_2, ts_2, ks_2, rfl, N2q, Kc2, po2_0, po2_1, po2_2, po2_3⟩ := hQ2
 have N2 := Fr.app N0 N2q
 obtain ⟨Lf3, X2, N3⟩ := fixL X2 N2 3 16 rfl rfl
 have P4 := P1.tr st2
 replace CR : CHr Z ELs s.vm h0 T2.vm T2.heap := CR.trans cC2
 have K2 := (Keep.refl h0 []).trans Kc2 all0
 have E_xs_2 := po2_0
 have Fv_xs_2 := po2_1
 have Fc_xs_2 := po2_2
 have V_ts_2 := po2_3
 subst hs0
 obtain ⟨fs_, hr, hrun, hended, hREW⟩ := X2.leaveW hS hk (v := some (.ref xs_2)) (fun h => by rw [Bd.returns] at h; cases h)
 have CRT := CR.trans (CHv.at X2 hZ hEL CR.1)
 refine ⟨_, _, P4 _ ?_, hrun, hended, _, _, rfl, ?_, ?_, hREW.1, hREW.2.1, hREW.2.2.1, hREW.2.2.2.mono (by decide) (by decide)⟩
 · show GG p e below T2 (mkF m 14 #[rv el] [(.ref xs_2)]) _
   jvm_step X2.here [X2.here.top, hx, (hb hby d82_14), X2.method', Bd.returns, Value.isRef, FieldType.isReference]
   first | (intro acts; rw [hr _ acts rfl rfl rfl]) | rw [hr _ _ rfl rfl rfl]
   exact Steps.refl _
 · show Q_acStr0 Z el ee kee h0 n0 _ T2.heap _
   exact ⟨xs_2, ts_2, ks_2, rfl, N3, K2, E_xs_2, Fv_xs_2, Fc_xs_2, V_ts_2⟩
 · show CHr Z ELs s.vm s.heap T2.vm T2.heap
   rw [hh]
   exact CRT
def Q_sbAppL0 (Z : State) (sb t : Addr) (kb : ClassId) (cd zb : Int32) (vs : List Value) (cs : List Int32) (G1 : Int32) (Gf : Value) (el ee : Addr) (kee : ClassId) : QT := fun h0 n0 v h L => ∃ (tn : Addr) (kn : ClassId) (cd2 : Int32) (zb2 : Int32) (vs2 : List Value), v = some (.ref sb) ∧ Fr n0 L ∧ Keep h0 h [sb, t] ∧ (tn = t ∨ h0.size ≤ tn) ∧ (Exa Z h sb cB) ∧ (Fld Z h sb cA "value" "[B" (.ref tn)) ∧ (Fld Z h sb cA "coder" "B" (.int cd2)) ∧ (Fld Z h sb cA "count" "I" (.int (Int32.ofNat (cs ++ [(91 : Int32), 93]).length))) ∧ (Fld Z h sb cA "maybeLatin1" "Z" i0) ∧ (Arv Z h tn kn .byte zb2 vs2 i0) ∧ (sb ≠ tn) ∧ (BB cd2 zb2 vs2 (cs ++ [(91 : Int32), 93]))
theorem rm_sbAppL0 (hw : HW a0 Z) (hEL : EW Z a0 ELs) (sb t : Addr) (kb : ClassId) (cd zb : Int32) (vs : List Value) (cs : List Int32) (G1 : Int32) (Gf : Value) (el ee : Addr) (kee : ClassId) (Z0 : n0 ≤ h0.size) (E_sb : Exa Z h0 sb cB) (Fv_sb : Fld Z h0 sb cA "value" "[B" (.ref t)) (Fc_sb : Fld Z h0 sb cA "coder" "B" (.int cd)) (Fn_sb : Fld Z h0 sb cA "count" "I" (.int (Int32.ofNat cs.length))) (Fm_sb : Fld Z h0 sb cA "maybeLatin1" "Z" i0) (V_t : Arv Z h0 t kb .byte zb vs i0) (g_t : n0 ≤ t) (g_sb : n0 ≤ sb) (ne_sb_t : sb ≠ t) (Sc : SU4 Z G1) (hz : ¬ G1 = 0) (Sa : SU1 Z) (Sh : SU2 Z) (Sl : SU3 Z) (Sf : SU5 Z Gf) (rGf : Gf.isRef = true) (OL : Old Z n0 h0) (hbb : BB cd zb vs cs) (hl3 : cs.length ≤ 3) (XEL : Exa Z Z.heap el cLN) (FEL : Fld Z Z.heap el cLN "elements" dOA (.ref ee)) (VEE : Arv Z Z.heap ee kee tOb (0 : Int32) [] .null) :
  MetS l Z mn_88 k83_ 2 (some (.object cB)) (rr 10 4 48 143) ws #[(.ref sb), (.ref el)] h0 ELs [t] (Q_sbAppL0 Z sb t kb cd zb vs cs G1 Gf el ee kee h0 n0) := by
 refine MetFree.of_bodySF (plainFor_of_name pn_6) hisR ?_
 intro p e s m args below meth c s₁ Bd hml0 hP hK; obtain ⟨rfl, hZ, hh, hCH, hSF⟩ := hP; have hx := Bd.exec; have hby := Bd.bytes; have hml : c.maxLocals = 2 := hml0
 have hown : s.vm.findClass cB = some m.cls := findClass_of_methodNamed Bd.named
 have X0 : Stand p l e (rr 10 4 48 143) (s.setVm s.vm) m #[(.ref sb), (.ref el)] below meth c s₁ [] 0 0 := Stand.of_body Bd
 replace hZ : Z.Warmed39 (s.setVm s.vm).vm := hZ
 replace hown : (s.setVm s.vm).vm.findClass cB = some m.cls := hown
 have hS : s.Since s.vm 0 := (State.WarmedH.refl s).since 0
 have hk : 0 ≤ h0.size := Nat.zero_le _
 have CR : CHr Z ELs s.vm h0 s.vm h0 := CHr.refl hCH
 have sf_t : Safe Z ELs s.vm h0 t := hSF _ (List.mem_of_getElem? (i := 0) rfl)
 have e0 : s₁.heap = h0 := by rw [← hh, Bd.state]; rfl
 have N0 := Fr.nil n0
 obtain ⟨s0, hs0⟩ := exi (s₁.setTop (entryFrame m #[(.ref sb), (.ref el)] 2))
 have P0 : PP p e below s₁ (mkF m 0 #[rv sb, rv el] []) s0 := fun q_ k_ => by rw [hs0]; exact castTop (ef_21 m sb el) k_
 have P1 := P0.bt X0 hx hby b279_ rfl
 obtain ⟨_, _, ⟨T2, L2, k2, n2⟩, -, X2, hS2, hg2, ⟨Lc2, hQ2, l2, y2, z2, cC2⟩, st2⟩ := callSS X0 hx (y := mn_87) hown (mw hZ hw 174 rfl) (mw hZ hw 175 rfl) (mw hZ hw 2 rfl) (mw hZ hw 176 rfl) (by decide) (backOfSH (W := 1) (rm_valL0 hw hEL el ee kee Z0 XEL FEL VEE OL) hZ (ww hw 176 rfl) (ww hw 2 rfl) (by decide) (by decide) hEL CR.1) (g := P1.g) rfl (by rw [hml]; rfl) (argsL := [(.ref el)]) (rest := [(.ref sb)]) (lenOf pd_48 rfl) rfl (by show 2 * 0 + _ ≤ _; exact Nat.le_of_eq rfl) (hb hby d83_2) (fun _ _ => ⟨rfl, e0, (by decide : 0 + 3 ≤ _), (by decide : 0 + 16 ≤ _)⟩)
 dsimp only [Pt.U, Pt.locs, Pt.cells, Pt.slots] at X2 l2 y2 z2 st2 hQ2 hS2 hg2 cC2
 subst l2 y2 z2
 obtain ⟨X2, hS, hZ, hown⟩ := rebS hS (by rw [e0]; exact hk) X2 hS2 hg2 hZ hown
 have hk : T2.heap.size ≤ T2.heap.size := Nat.le_refl _
 obtain ⟨xs_2, ts_2, ks_2, rfl, N2q, Kc2, po2_0, po2_1, po2_2, po2_3⟩ := hQ2
 have N2 := Fr.app N0 N2q
 obtain ⟨Lf3, X2, N3⟩ := fixL X2 N2 3 16 rfl rfl
 have P4 := P1.tr st2
 replace sf_t := cC2.safe V_t.lt sf_t
 replace E_sb := E_sb.keep Kc2
 replace Fv_sb := Fv_sb.keep Kc2 nin0
 replace Fc_sb := Fc_sb.keep Kc2 nin0
 replace Fn_sb := Fn_sb.keep Kc2 nin0
 replace Fm_sb := Fm_sb.keep Kc2 nin0
 replace V_t := V_t.keep Kc2 nin0
 replace OL := OL.keep Kc2 all0
 replace CR : CHr Z ELs s.vm h0 T2.vm T2.heap := CR.trans cC2
 have K2 := (Keep.refl h0 [sb, t]).trans Kc2 all0
 have E_xs_2 := po2_0
 have Fv_xs_2 := po2_1
 have Fc_xs_2 := po2_2
 have V_ts_2 := po2_3
 have ne_xs_2_sb : xs_2 ≠ sb := E_xs_2.ne E_sb (by decide)
 have ne_ts_2_sb : ts_2 ≠ sb := own_arvexa (ww hw 102 rfl) E_sb V_ts_2
 have ne_xs_2_t : xs_2 ≠ t := (own_arvexa (ww hw 1 rfl) E_xs_2 V_t).symm
 have ne_ts_2_t : ts_2 ≠ t := own_bbne hbb V_t V_ts_2
 obtain ⟨_, T5, L5, X5, hQ5, P5⟩ := cVi P4 X2 hx hZ hown hw rfl E_sb hml 224 122 121 123 103 (rm_sbApp hw sb t kb cd zb vs cs xs_2 ts_2 ks_2 (0 : Int32) (2 : Int32) ([(.int 91), (.int 93)] : List Value) ([91, 93] : List Int32) G1 Gf (zT Z0 K2.1) E_sb Fv_sb Fc_sb Fn_sb Fm_sb V_t E_xs_2 Fv_xs_2 Fc_xs_2 V_ts_2 g_t g_sb ne_xs_2_t ne_ts_2_t ne_sb_t ne_xs_2_sb ne_ts_2_sb Sc hz Sa Sh Sl Sf rGf OL hbb own_kbBr (by simp only [List.length_append, List.length_cons, List.length_nil] <;> omega)) rfl rfl rfl rfl rfl rfl rfl [(.ref xs_2)] [] 0 (lenOf pd_49 rfl) rfl (Nat.le_of_eq rfl) (hb hby d83_5) rfl (by decide)
 obtain ⟨tn_5, kn_5, cd2_5, zb2_5, vs2_5, rfl, N5q, Kc5, po5_0, po5_1, po5_2, po5_3, po5_4, po5_5, po5_6, po5_7, po5_8⟩ := hQ5
 have N5 := Fr.app N3 N5q
 obtain ⟨Lf6, X5, N6⟩ := fixL X5 N5 4 48 rfl rfl
 have g_tn_5 : n0 ≤ tn_5 := own_tof2 po5_0 g_t (Nat.le_trans Z0 K2.1)
 have tf_tn_5 : tn_5 = t ∨ h0.size ≤ tn_5 := own_tof3 po5_0 K2.1
 have sfk5 := ((sfS (Safe.exa hZ.alike E_sb (by decide) (by decide)) (sfS sf_t sf0)) : ∀ x ∈ [sb, t], Safe Z ELs T2.vm T2.heap x)
 replace CR : CHr Z ELs s.vm h0 T2.vm T5.heap := CR.trans (CHr.keep Kc5 sfk5 CR.1)
 replace hk := Nat.le_trans hk Kc5.1
 have K5 := Kt2 K2 Kc5 (Or.inl (mi 0)) (Or.inl (mi 1))
 have E_sb := po5_1
 have Fv_sb := po5_2
 have Fc_sb := po5_3
 have Fn_sb := po5_4
 have Fm_sb := po5_5
 have V_tn_5 := po5_6
 have hbb2_5 := po5_8
 subst hs0
 obtain ⟨fs_, hr, hrun, hended, hREW⟩ := X5.leaveW hS hk (v := some (.ref sb)) (fun h => by rw [Bd.returns] at h; cases h)
 have CRT := CR.trans (CHv.at X5 hZ hEL CR.1)
 refine ⟨_, _, P5 _ ?_, hrun, hended, _, _, rfl, ?_, ?_, hREW.1, hREW.2.1, hREW.2.2.1, hREW.2.2.2.mono (by decide) (by decide)⟩
 · show GG p e below T5 (mkF m 8 #[rv sb, rv el] [(.ref sb)]) _
   jvm_step X5.here [X5.here.top, hx, (hb hby d83_8), X5.method', Bd.returns, Value.isRef, FieldType.isReference]
   first | (intro acts; rw [hr _ acts rfl rfl rfl]) | rw [hr _ _ rfl rfl rfl]
   exact Steps.refl _
 · show Q_sbAppL0 Z sb t kb cd zb vs cs G1 Gf el ee kee h0 n0 _ T5.heap _
   exact ⟨tn_5, kn_5, cd2_5, zb2_5, vs2_5, rfl, N6, K5, tf_tn_5, E_sb, Fv_sb, Fc_sb, Fn_sb, Fm_sb, V_tn_5, po5_7, hbb2_5⟩
 · show CHr Z ELs s.vm s.heap T5.vm T5.heap
   rw [hh]
   exact CRT
theorem d84_17 : decode k84_ 17 = .ok (.new 94, 3) := by decide +kernel
theorem b282_ : dl k84_ 20 [(.dup, 1)] = true := by decide +kernel
theorem d84_21 : decode k84_ 21 = .ok (.invokespecial 96, 3) := by decide +kernel
theorem b283_ : dl k84_ 24 [(.astore_n 2, 1), (.aload_n 2, 1), (.bipush 91, 2)] = true := by decide +kernel
theorem pd_51 : parseMethodDescriptor "(C)Ljava/lang/StringBuilder;" = some ⟨[.char], some (.object "java/lang/StringBuilder")⟩ := by decide +kernel
theorem d84_28 : decode k84_ 28 = .ok (.invokevirtual 97, 3) := by decide +kernel
theorem b284_ : dl k84_ 31 [(.pop, 1), (.aload_n 1, 1)] = true := by decide +kernel
theorem pd_52 : parseMethodDescriptor "()Ljava/lang/Object;" = some ⟨[], some (.object "java/lang/Object")⟩ := by decide +kernel
theorem d84_33 : decode k84_ 33 = .ok (.invokeinterface 23 1, 5) := by decide +kernel
abbrev mn_92 : MethodName := ⟨"java/util/Iterator", "next", "()Ljava/lang/Object;"⟩
theorem d84_42 : decode k84_ 42 = .ok (.if_acmp .ne 8, 3) := by decide +kernel
theorem b285_ : dl k84_ 38 [(.astore_n 3, 1), (.aload_n 2, 1), (.aload_n 3, 1), (.aload_n 0, 1)] = true := by decide +kernel
theorem b286_ : dl k84_ 50 [(.aload_n 3, 1)] = true := by decide +kernel
theorem pd_53 : parseMethodDescriptor "(Ljava/lang/Object;)Ljava/lang/StringBuilder;" = some ⟨[(.object "java/lang/Object")], some (.object "java/lang/StringBuilder")⟩ := by decide +kernel
theorem d84_51 : decode k84_ 51 = .ok (.invokevirtual 103, 3) := by decide +kernel
theorem b287_ : dl k84_ 54 [(.pop, 1), (.aload_n 1, 1)] = true := by decide +kernel
theorem d84_56 : decode k84_ 56 = .ok (.invokeinterface 17 1, 5) := by decide +kernel
theorem d84_61 : decode k84_ 61 = .ok (.ifCond .ne 13, 3) := by decide +kernel
theorem b288_ : dl k84_ 64 [(.aload_n 2, 1), (.bipush 93, 2)] = true := by decide +kernel
theorem d84_67 : decode k84_ 67 = .ok (.invokevirtual 97, 3) := by decide +kernel
theorem d84_70 : decode k84_ 70 = .ok (.invokevirtual 106, 3) := by decide +kernel
theorem d84_73 : decode k84_ 73 = .ok (.areturn, 1) := by decide +kernel
def Q_acStr1 (Z : State) (ls em pa pta : Addr) (pka : ClassId) (pca pza : Int32) (pva : List Value) (qa G1 : Int32) (Gf : Value) : QT := fun h0 n0 v h L => ∃ (xs : Addr) (ts : Addr) (ks : ClassId) (ce : Int32) (ze : Int32) (wv : List Value), v = some (.ref xs) ∧ Fr n0 L ∧ Keep h0 h [] ∧ (h0.size ≤ xs) ∧ (h0.size ≤ ts) ∧ (Exa Z h xs cS) ∧ (Fld Z h xs cS "value" "[B" (.ref ts)) ∧ (Fld Z h xs cS "coder" "B" (.int ce)) ∧ (Arv Z h ts ks .byte ze wv i0) ∧ (KB ce ze wv [(91 : Int32), qa, 93])
theorem rm_acStr1 (hw : HW a0 Z) (ls em pa pta : Addr) (pka : ClassId) (pca pza : Int32) (pva : List Value) (qa G1 : Int32) (Gf : Value) (Z0 : n0 ≤ h0.size) (E_ls : Exa Z h0 ls cL2) (F_e0_ls : Fld Z h0 ls cL2 "e0" dO (.ref pa)) (F_e1_ls : Fld Z h0 ls cL2 "e1" dO (.ref em)) (Se : SU6 Z em) (E_pa : Exa Z h0 pa cS) (Fv_pa : Fld Z h0 pa cS "value" "[B" (.ref pta)) (Fc_pa : Fld Z h0 pa cS "coder" "B" (.int pca)) (V_pta : Arv Z h0 pta pka .byte pza pva i0) (hka : KB pca pza pva [qa]) (Sc : SU4 Z G1) (hz : ¬ G1 = 0) (Sa : SU1 Z) (Sh : SU2 Z) (Sl : SU3 Z) (Sf : SU5 Z Gf) (rGf : Gf.isRef = true) (OL : Old Z n0 h0) (ne_pa_ls : pa ≠ ls) :
  MetP l Z mn_91 k84_ 4 (some (.object cS)) (rr 11 6 92 156) ws #[(.ref ls)] h0 (Q_acStr1 Z ls em pa pta pka pca pza pva qa G1 Gf h0 n0) := by
 refine begH n0 "java/util/AbstractCollection" rfl (plainFor_of_name pn_7) fun p e s m below meth c s₁ s0 hrt hlk hZ hx hby hml hown hnm X0 e0 N0 P0 => ?_
 replace P0 : PP p e below s₁ (mkF m 0 #[rv ls, .unset, .unset, .unset] []) s0 := castPP (ef_46 m ls) P0
 have P1 := P0.bt X0 hx hby b280_ rfl
 obtain ⟨cq2, kq2, q2a, q2b, q2c⟩ := isOf hZ e0 E_ls
 obtain ⟨_, _, ⟨T2, L2, k2, n2⟩, -, X2, ⟨Lc2, hQ2, l2, y2, z2⟩, st2⟩ := X0.virtualBack hx (y := mn_89) (z := mn_79) hown (mw hZ hw 183 rfl) (mw hZ hw 184 rfl) (own_nf (args := #[]) (mw hZ hw 180 rfl) rfl) (mw hZ hw 394 rfl) (mw hZ hw 186 rfl) (by decide) (backOf (W := 0) (rm_iter1 hw ls em pa Z0 E_ls F_e0_ls F_e1_ls Se OL) hZ (ww hw 188 rfl) (ww hw 187 rfl) (by decide) (by decide)) q2a q2c (g := P1.g) rfl (by rw [hml]; rfl) (Steps.refl _) (argsL := []) (rest := []) (lenOf pd_50 rfl) rfl (by show 2 * 0 + _ ≤ _; exact Nat.le_of_eq rfl) (hb hby d84_1) (fun _ _ => ⟨rfl, e0, (by decide : 0 + 1 ≤ _), (by decide : 0 + 4 ≤ _)⟩)
 dsimp only [Pt.U, Pt.locs, Pt.cells, Pt.slots] at X2 l2 y2 z2 st2 hQ2
 subst l2 y2 z2
 obtain ⟨it_2, rfl, N2q, Kc2, po2_0, po2_1, po2_2, po2_3, po2_4⟩ := hQ2
 have N2 := Fr.app N0 N2q
 obtain ⟨Lf3, X2, N3⟩ := fixL X2 N2 1 4 rfl rfl
 have P4 := P1.tr st2
 have ne_ls_it_2 := neL E_ls.lt po2_0
 have ne_pa_it_2 := neL E_pa.lt po2_0
 have ne_pta_it_2 := neL V_pta.lt po2_0
 have sz_it_2 : h0.size ≤ it_2 := Nat.le_trans (Nat.le_refl h0.size) po2_0
 replace E_ls := E_ls.keep Kc2
 replace F_e0_ls := F_e0_ls.keep Kc2 nin0
 replace F_e1_ls := F_e1_ls.keep Kc2 nin0
 replace E_pa := E_pa.keep Kc2
 replace Fv_pa := Fv_pa.keep Kc2 nin0
 replace Fc_pa := Fc_pa.keep Kc2 nin0
 replace V_pta := V_pta.keep Kc2 nin0
 replace OL := OL.keep Kc2 all0
 have K2 := (Keep.refl h0 []).trans Kc2 all0
 have E_it_2 := po2_1
 have F_list_it_2 := po2_2
 have Fz_it_2 := po2_3
 have F_cursor_it_2 := po2_4
 have P5 : PP p e below T2 (mkF m 6 #[rv ls, rv it_2, .unset, .unset] [(.ref it_2)]) s0 := fun q_ k_ => P4 q_ (by
  exact bt X2 hx hby b281_ rfl k_)
 obtain ⟨cq6, kq6, q6a, q6b, q6c⟩ := isOf hZ rfl E_it_2
 obtain ⟨_, _, ⟨T6, L6, k6, n6⟩, -, X6, ⟨Lc6, hQ6, l6, y6, z6⟩, st6⟩ := X2.interfaceBack hx (xi := mn_90) (y := mn_80) hown (mw hZ hw 214 rfl) (mw hZ hw 215 rfl) (mw hZ hw 216 rfl) (mw hZ hw 217 rfl) (mw hZ hw 218 rfl) (mw hZ hw 219 rfl) (mw hZ hw 220 rfl) (mw hZ hw 221 rfl) (by decide) (backOf (W := 0) (rm_hasN10 hw it_2 ls (zT Z0 K2.1) E_it_2 F_list_it_2 Fz_it_2 F_cursor_it_2) hZ (ww hw 222 rfl) (ww hw 191 rfl) (by decide) (by decide)) q6a q6b q6c (g := P5.g) rfl (by rw [hml]; rfl) (Steps.refl _) (argsL := []) (rest := []) (lenOf pd_20 rfl) rfl (by show 2 * 0 + _ ≤ _; exact Nat.le_of_eq rfl) (hb hby d84_6) (fun _ _ => ⟨rfl, rfl, (by decide : 1 + 0 ≤ _), (by decide : 4 + 0 ≤ _)⟩)
 dsimp only [Pt.U, Pt.locs, Pt.cells, Pt.slots] at X6 l6 y6 z6 st6 hQ6
 subst l6 y6 z6
 obtain ⟨rfl, N6q, e6⟩ := hQ6
 have N6 := Fr.app N3 N6q
 have P7 := P5.tr st6
 have P8 : PP p e below T6 (mkF m 17 #[rv ls, rv it_2, .unset, .unset] []) s0 := fun q_ k_ => P7 q_ (by
  exact XS.ifYes X6.here hx rfl (pc0 := 11) (pc' := 17) rfl (hb hby d84_11) rfl ((if0 _ _).trans (feq ((by decide) : ¬ ((1 : Int32) = (0 : Int32)))).2) (by decide) (by decide) k_)
 obtain ⟨T9, h9, X9, e9, E9, A9, D9, -, st9⟩ := newO X6 hx hZ hown (ww hw 398 rfl) (ww hw 102 rfl) (ww hw 103 rfl) e6 (g := P8.g) rfl (hb hby d84_17) (by decide) (by decide)
 obtain ⟨b9, g9⟩ : ∃ z, z = T2.heap.size := ⟨_, rfl⟩
 rw [← g9] at A9 D9 st9
 have P10 := P8.st st9
 have ne_ls_b9 := neL E_ls.lt (Nat.le_of_eq g9.symm)
 have ne_pa_b9 := neL E_pa.lt (Nat.le_of_eq g9.symm)
 have ne_pta_b9 := neL V_pta.lt (Nat.le_of_eq g9.symm)
 have ne_it_2_b9 := neL E_it_2.lt (Nat.le_of_eq g9.symm)
 have sz_b9 : h0.size ≤ b9 := Nat.le_trans K2.1 (Nat.le_of_eq g9.symm)
 replace E_ls := E_ls.ext E9
 replace F_e0_ls := F_e0_ls.ext E9
 replace F_e1_ls := F_e1_ls.ext E9
 replace E_pa := E_pa.ext E9
 replace Fv_pa := Fv_pa.ext E9
 replace Fc_pa := Fc_pa.ext E9
 replace V_pta := V_pta.ext E9
 replace OL := OL.ext E9
 replace E_it_2 := E_it_2.ext E9
 replace F_list_it_2 := F_list_it_2.ext E9
 replace Fz_it_2 := Fz_it_2.ext E9
 replace F_cursor_it_2 := F_cursor_it_2.ext E9
 have K9 := K2.ext E9
 obtain ⟨Lf11, X9, N11⟩ := fixL X9 N6 2 8 rfl rfl
 have E_b9 : Exa Z h9 b9 cB := A9
 have Fv_b9 : Fld Z h9 b9 cA "value" "[B" .null := D9 (Or.inl (ww hw 116 rfl)) (ty := (.array .byte)) (by decide)
 have Fc_b9 : Fld Z h9 b9 cA "coder" "B" i0 := D9 (Or.inl (ww hw 118 rfl)) (ty := .byte) (by decide)
 have Fn_b9 : Fld Z h9 b9 cA "count" "I" i0 := D9 (Or.inl (ww hw 140 rfl)) (ty := .int) (by decide)
 have Fm_b9 : Fld Z h9 b9 cA "maybeLatin1" "Z" i0 := D9 (Or.inl (ww hw 484 rfl)) (ty := .boolean) (by decide)
 have P12 := P10.bt X9 hx hby b282_ rfl
 obtain ⟨_, T13, L13, X13, hQ13, P13⟩ := cIn P12 X9 hx hZ hown hw e9 hml 399 105 106 103 (rm_sbInit hw b9 .null i0 G1 (zT Z0 K9.1) E_b9 Fv_b9 Fc_b9 Fn_b9 Fm_b9 (Nat.le_trans Z0 sz_b9) Sc OL hz) rfl rfl rfl rfl rfl rfl rfl [] [(.ref b9)] 1 (lenOf pd_24 rfl) rfl (Nat.le_of_eq rfl) (hb hby d84_21) rfl (by decide)
 obtain ⟨tn_13, kn_13, cd2_13, zb2_13, vs2_13, rfl, N13q, Kc13, po13_0, po13_1, po13_2, po13_3, po13_4, po13_5, po13_6, po13_7, po13_8⟩ := hQ13
 have N13 := Fr.app N11 N13q
 obtain ⟨Lf14, X13, N14⟩ := fixL X13 N13 3 24 rfl rfl
 have ne_ls_tn_13 := neL E_ls.lt po13_0
 have ne_pa_tn_13 := neL E_pa.lt po13_0
 have ne_pta_tn_13 := neL V_pta.lt po13_0
 have ne_it_2_tn_13 := neL E_it_2.lt po13_0
 have sz_tn_13 : h0.size ≤ tn_13 := Nat.le_trans K9.1 po13_0
 replace E_ls := E_ls.keep Kc13
 replace F_e0_ls := F_e0_ls.keep Kc13 (ninS ne_ls_b9 nin0)
 replace F_e1_ls := F_e1_ls.keep Kc13 (ninS ne_ls_b9 nin0)
 replace E_pa := E_pa.keep Kc13
 replace Fv_pa := Fv_pa.keep Kc13 (ninS ne_pa_b9 nin0)
 replace Fc_pa := Fc_pa.keep Kc13 (ninS ne_pa_b9 nin0)
 replace V_pta := V_pta.keep Kc13 (ninS ne_pta_b9 nin0)
 replace OL := OL.keep Kc13 (allS (Nat.le_trans Z0 sz_b9) all0)
 replace E_it_2 := E_it_2.keep Kc13
 replace F_list_it_2 := F_list_it_2.keep Kc13 (ninS ne_it_2_b9 nin0)
 replace Fz_it_2 := Fz_it_2.keep Kc13 (ninS ne_it_2_b9 nin0)
 replace F_cursor_it_2 := F_cursor_it_2.keep Kc13 (ninS ne_it_2_b9 nin0)
 have K13 := Kt1 K9 Kc13 (Or.inr sz_b9)
 have E_b9 := po13_1
 have Fv_b9 := po13_2
 have Fc_b9 := po13_3
 have Fn_b9 := po13_4
 have Fm_b9 := po13_5
 have V_tn_13 := po13_6
 have hbb2_13 := po13_8
 have P15 : PP p e below T13 (mkF m 28 #[rv ls, rv it_2, rv b9, .unset] [(.int 91), (.ref b9)]) s0 := fun q_ k_ => P13 q_ (by
  exact bt X13 hx hby b283_ rfl k_)
 obtain ⟨_, T16, L16, X16, hQ16, P16⟩ := cVi P15 X13 hx hZ hown hw rfl E_b9 hml 401 404 403 405 103 (rm_sbAppC hw b9 tn_13 kn_13 cd2_13 zb2_13 vs2_13 ([] : List Int32) (91 : Int32) G1 Gf (zT Z0 K13.1) E_b9 Fv_b9 Fc_b9 Fn_b9 Fm_b9 V_tn_13 (Nat.le_trans Z0 sz_tn_13) (Nat.le_trans Z0 sz_b9) po13_7 Sc hz Sa Sh Sl Sf rGf OL hbb2_13 (by simp only [List.length_append, List.length_cons, List.length_nil] <;> omega) (own_isC 91 (by decide)) (by decide)) rfl rfl rfl rfl rfl rfl rfl [(.int 91)] [] 0 (lenOf pd_51 rfl) rfl (Nat.le_of_eq rfl) (hb hby d84_28) rfl (by decide)
 obtain ⟨tn_16, kn_16, cd2_16, zb2_16, vs2_16, rfl, N16q, Kc16, po16_0, po16_1, po16_2, po16_3, po16_4, po16_5, po16_6, po16_7, po16_8⟩ := hQ16
 have N16 := Fr.app N14 N16q
 obtain ⟨Lf17, X16, N17⟩ := fixL X16 N16 3 24 rfl rfl
 have ne_pa_tn_16 := own_tof po16_0 ne_pa_tn_13 E_pa.lt
 have ne_pta_tn_16 := own_tof po16_0 ne_pta_tn_13 V_pta.lt
 have ne_it_2_tn_16 := own_tof po16_0 ne_it_2_tn_13 E_it_2.lt
 have sz_tn_16 : h0.size ≤ tn_16 := own_tof2 po16_0 sz_tn_13 K13.1
 have tf_tn_16 : tn_16 = tn_13 ∨ h0.size ≤ tn_16 := own_tof3 po16_0 K13.1
 replace E_ls := E_ls.keep Kc16
 replace F_e0_ls := F_e0_ls.keep Kc16 (ninS ne_ls_b9 (ninS ne_ls_tn_13 nin0))
 replace F_e1_ls := F_e1_ls.keep Kc16 (ninS ne_ls_b9 (ninS ne_ls_tn_13 nin0))
 replace E_pa := E_pa.keep Kc16
 replace Fv_pa := Fv_pa.keep Kc16 (ninS ne_pa_b9 (ninS ne_pa_tn_13 nin0))
 replace Fc_pa := Fc_pa.keep Kc16 (ninS ne_pa_b9 (ninS ne_pa_tn_13 nin0))
 replace V_pta := V_pta.keep Kc16 (ninS ne_pta_b9 (ninS ne_pta_tn_13 nin0))
 replace OL := OL.keep Kc16 (allS (Nat.le_trans Z0 sz_b9) (allS (Nat.le_trans Z0 sz_tn_13) all0))
 replace E_it_2 := E_it_2.keep Kc16
 replace F_list_it_2 := F_list_it_2.keep Kc16 (ninS ne_it_2_b9 (ninS ne_it_2_tn_13 nin0))
 replace Fz_it_2 := Fz_it_2.keep Kc16 (ninS ne_it_2_b9 (ninS ne_it_2_tn_13 nin0))
 replace F_cursor_it_2 := F_cursor_it_2.keep Kc16 (ninS ne_it_2_b9 (ninS ne_it_2_tn_13 nin0))
 have K16 := Kt2 K13 Kc16 (Or.inr sz_b9) (Or.inr sz_tn_13)
 have E_b9 := po16_1
 have Fv_b9 := po16_2
 have Fc_b9 := po16_3
 have Fn_b9 := po16_4
 have Fm_b9 := po16_5
 have V_tn_16 := po16_6
 have hbb2_16 := po16_8
 have P18 := P16.bt X16 hx hby b284_ rfl
 obtain ⟨cq19, kq19, q19a, q19b, q19c⟩ := isOf hZ rfl E_it_2
 obtain ⟨_, _, ⟨T19, L19, k19, n19⟩, -, X19, ⟨Lc19, hQ19, l19, y19, z19⟩, st19⟩ := X16.interfaceBack hx (xi := mn_92) (y := mn_84) hown (mw hZ hw 412 rfl) (mw hZ hw 413 rfl) (mw hZ hw 414 rfl) (mw hZ hw 415 rfl) (mw hZ hw 416 rfl) (mw hZ hw 417 rfl) (mw hZ hw 418 rfl) (mw hZ hw 221 rfl) (by decide) (backOfWith (W := 0) (rm_next10 hw it_2 ls em pa (zT Z0 K16.1) E_it_2 F_list_it_2 Fz_it_2 F_cursor_it_2 E_ls F_e0_ls F_e1_ls (Nat.le_trans Z0 sz_it_2) ne_ls_it_2 Se OL) hZ (ww hw 419 rfl) (ww hw 191 rfl) (by decide) (by decide)) q19a q19b q19c (g := P18.g) rfl (by rw [hml]; rfl) (Steps.refl _) (argsL := []) (rest := []) (lenOf pd_52 rfl) rfl (by show 2 * 0 + _ ≤ _; exact Nat.le_of_eq rfl) (hb hby d84_33) (fun _ _ => ⟨rfl, rfl, (by decide : 3 + 0 ≤ _), (by decide : 24 + 0 ≤ _)⟩)
 dsimp only [Pt.U, Pt.locs, Pt.cells, Pt.slots] at X19 l19 y19 z19 st19 hQ19
 subst l19 y19 z19
 obtain ⟨rfl, N19q, Kc19, po19_0, po19_1, po19_2, po19_3⟩ := hQ19
 have N19 := Fr.app N17 N19q
 obtain ⟨Lf20, X19, N20⟩ := fixL X19 N19 3 24 rfl rfl
 have P21 := P18.tr st19
 replace E_pa := E_pa.keep Kc19
 replace Fv_pa := Fv_pa.keep Kc19 (ninS ne_pa_it_2 nin0)
 replace Fc_pa := Fc_pa.keep Kc19 (ninS ne_pa_it_2 nin0)
 replace V_pta := V_pta.keep Kc19 (ninS ne_pta_it_2 nin0)
 replace OL := OL.keep Kc19 (allS (Nat.le_trans Z0 sz_it_2) all0)
 replace E_b9 := E_b9.keep Kc19
 replace Fv_b9 := Fv_b9.keep Kc19 (ninS (Ne.symm ne_it_2_b9) nin0)
 replace Fc_b9 := Fc_b9.keep Kc19 (ninS (Ne.symm ne_it_2_b9) nin0)
 replace Fn_b9 := Fn_b9.keep Kc19 (ninS (Ne.symm ne_it_2_b9) nin0)
 replace Fm_b9 := Fm_b9.keep Kc19 (ninS (Ne.symm ne_it_2_b9) nin0)
 replace V_tn_16 := V_tn_16.keep Kc19 (ninS (Ne.symm ne_it_2_tn_16) nin0)
 have K19 := Kt1 K16 Kc19 (Or.inr sz_it_2)
 have E_it_2 := po19_0
 have F_list_it_2 := po19_1
 have Fz_it_2 := po19_2
 have F_cursor_it_2 := po19_3
 have P22 : PP p e below T19 (mkF m 51 #[rv ls, rv it_2, rv b9, rv pa] [(.ref pa), (.ref b9)]) s0 := fun q_ k_ => P21 q_ (by
  refine bt X19 hx hby b285_ rfl ?_
  refine Jvm.RoadKit.acmp X19 hx rfl rfl rfl (pc0 := 42) (pc' := 50) (same := false) rfl (hb hby d84_42) rfl (decide_eq_false fun q => ne_pa_ls (Value.ref.inj q)) (by decide) (by decide) ?_
  exact bt X19 hx hby b286_ rfl k_)
 obtain ⟨_, T23, L23, X23, hQ23, P23⟩ := cVi P22 X19 hx hZ hown hw rfl E_b9 hml 429 172 171 173 103 (rm_sbAppO hw b9 tn_16 kn_16 cd2_16 zb2_16 vs2_16 (([] : List Int32) ++ [(91 : Int32)]) pa pta pka pca pza pva ([qa] : List Int32) G1 Gf (zT Z0 K19.1) E_b9 Fv_b9 Fc_b9 Fn_b9 Fm_b9 V_tn_16 E_pa Fv_pa Fc_pa V_pta (Nat.le_trans Z0 sz_tn_16) (Nat.le_trans Z0 sz_b9) ne_pa_tn_16 ne_pta_tn_16 po16_7 ne_pa_b9 ne_pta_b9 Sc hz Sa Sh Sl Sf rGf OL hbb2_16 hka (by simp only [List.length_append, List.length_cons, List.length_nil] <;> omega)) rfl rfl rfl rfl rfl rfl rfl [(.ref pa)] [] 0 (lenOf pd_53 rfl) rfl (Nat.le_of_eq rfl) (hb hby d84_51) rfl (by decide)
 obtain ⟨tn_23, kn_23, cd2_23, zb2_23, vs2_23, rfl, N23q, Kc23, po23_0, po23_1, po23_2, po23_3, po23_4, po23_5, po23_6, po23_7, po23_8⟩ := hQ23
 have N23 := Fr.app N20 N23q
 obtain ⟨Lf24, X23, N24⟩ := fixL X23 N23 4 56 rfl rfl
 have sz_tn_23 : h0.size ≤ tn_23 := own_tof2 po23_0 sz_tn_16 K19.1
 have tf_tn_23 : tn_23 = tn_16 ∨ h0.size ≤ tn_23 := own_tof3 po23_0 K19.1
 replace OL := OL.keep Kc23 (allS (Nat.le_trans Z0 sz_b9) (allS (Nat.le_trans Z0 sz_tn_16) all0))
 replace E_it_2 := E_it_2.keep Kc23
 replace F_list_it_2 := F_list_it_2.keep Kc23 (ninS ne_it_2_b9 (ninS ne_it_2_tn_16 nin0))
 replace Fz_it_2 := Fz_it_2.keep Kc23 (ninS ne_it_2_b9 (ninS ne_it_2_tn_16 nin0))
 replace F_cursor_it_2 := F_cursor_it_2.keep Kc23 (ninS ne_it_2_b9 (ninS ne_it_2_tn_16 nin0))
 have K23 := Kt2 K19 Kc23 (Or.inr sz_b9) (Or.inr sz_tn_16)
 have E_b9 := po23_1
 have Fv_b9 := po23_2
 have Fc_b9 := po23_3
 have Fn_b9 := po23_4
 have Fm_b9 := po23_5
 have V_tn_23 := po23_6
 have hbb2_23 := po23_8
 have P25 := P23.bt X23 hx hby b287_ rfl
 obtain ⟨cq26, kq26, q26a, q26b, q26c⟩ := isOf hZ rfl E_it_2
 obtain ⟨_, _, ⟨T26, L26, k26, n26⟩, -, X26, ⟨Lc26, hQ26, l26, y26, z26⟩, st26⟩ := X23.interfaceBack hx (xi := mn_90) (y := mn_80) hown (mw hZ hw 214 rfl) (mw hZ hw 215 rfl) (mw hZ hw 216 rfl) (mw hZ hw 217 rfl) (mw hZ hw 218 rfl) (mw hZ hw 219 rfl) (mw hZ hw 220 rfl) (mw hZ hw 221 rfl) (by decide) (backOf (W := 0) (rm_hasN11 hw it_2 ls (zT Z0 K23.1) E_it_2 F_list_it_2 Fz_it_2 F_cursor_it_2) hZ (ww hw 222 rfl) (ww hw 191 rfl) (by decide) (by decide)) q26a q26b q26c (g := P25.g) rfl (by rw [hml]; rfl) (Steps.refl _) (argsL := []) (rest := []) (lenOf pd_20 rfl) rfl (by show 2 * 0 + _ ≤ _; exact Nat.le_of_eq rfl) (hb hby d84_56) (fun _ _ => ⟨rfl, rfl, (by decide : 4 + 0 ≤ _), (by decide : 56 + 0 ≤ _)⟩)
 dsimp only [Pt.U, Pt.locs, Pt.cells, Pt.slots] at X26 l26 y26 z26 st26 hQ26
 subst l26 y26 z26
 obtain ⟨rfl, N26q, e26⟩ := hQ26
 have N26 := Fr.app N24 N26q
 have P27 := P25.tr st26
 have P28 : PP p e below T26 (mkF m 67 #[rv ls, rv it_2, rv b9, rv pa] [(.int 93), (.ref b9)]) s0 := fun q_ k_ => P27 q_ (by
  refine XS.ifNo X26.here hx rfl (hb hby d84_61) rfl ((if0 _ _).trans (teq ((by decide) : (0 : Int32) = (0 : Int32))).2) ?_
  exact bt X26 hx hby b288_ rfl k_)
 obtain ⟨_, T29, L29, X29, hQ29, P29⟩ := cVi P28 X26 hx hZ hown hw e26 E_b9 hml 401 404 403 405 103 (rm_sbAppC hw b9 tn_23 kn_23 cd2_23 zb2_23 vs2_23 ((([] : List Int32) ++ [(91 : Int32)]) ++ ([qa] : List Int32)) (93 : Int32) G1 Gf (zT Z0 K23.1) E_b9 Fv_b9 Fc_b9 Fn_b9 Fm_b9 V_tn_23 (Nat.le_trans Z0 sz_tn_23) (Nat.le_trans Z0 sz_b9) po23_7 Sc hz Sa Sh Sl Sf rGf OL hbb2_23 (by simp only [List.length_append, List.length_cons, List.length_nil] <;> omega) (own_isC 93 (by decide)) (by decide)) rfl rfl rfl rfl rfl rfl rfl [(.int 93)] [] 0 (lenOf pd_51 rfl) rfl (Nat.le_of_eq rfl) (hb hby d84_67) rfl (by decide)
 obtain ⟨tn_29, kn_29, cd2_29, zb2_29, vs2_29, rfl, N29q, Kc29, po29_0, po29_1, po29_2, po29_3, po29_4, po29_5, po29_6, po29_7, po29_8⟩ := hQ29
 have N29 := Fr.app N26 N29q
 obtain ⟨Lf30, X29, N30⟩ := fixL X29 N29 4 56 rfl rfl
 have tf_tn_29 : tn_29 = tn_23 ∨ h0.size ≤ tn_29 := own_tof3 po29_0 K23.1
 replace OL := OL.keep Kc29 (allS (Nat.le_trans Z0 sz_b9) (allS (Nat.le_trans Z0 sz_tn_23) all0))
 have K29 := Kt2 K23 Kc29 (Or.inr sz_b9) (Or.inr sz_tn_23)
 have E_b9 := po29_1
 have Fv_b9 := po29_2
 have Fc_b9 := po29_3
 have Fn_b9 := po29_4
 have Fm_b9 := po29_5
 have V_tn_29 := po29_6
 have hbb2_29 := po29_8
 obtain ⟨_, T31, L31, X31, hQ31, P31⟩ := cVi P29 X29 hx hZ hown hw rfl E_b9 hml 433 228 227 229 103 (rm_sbStr hw b9 tn_29 kn_29 cd2_29 zb2_29 vs2_29 (((([] : List Int32) ++ [(91 : Int32)]) ++ ([qa] : List Int32)) ++ [(93 : Int32)]) G1 Gf (zT Z0 K29.1) E_b9 Fv_b9 Fc_b9 Fn_b9 Fm_b9 V_tn_29 Sc hz Sa Sh Sl Sf rGf OL hbb2_29 (by simp only [List.length_append, List.length_cons, List.length_nil] <;> omega)) rfl rfl rfl rfl rfl rfl rfl [] [] 0 (lenOf pd_47 rfl) rfl (Nat.le_of_eq rfl) (hb hby d84_70) rfl (by decide)
 obtain ⟨xs_31, ts_31, ks_31, ce_31, ze_31, wv_31, rfl, N31q, Kc31, po31_0, po31_1, po31_2, po31_3, po31_4, po31_5, po31_6⟩ := hQ31
 have N31 := Fr.app N30 N31q
 obtain ⟨Lf32, X31, N32⟩ := fixL X31 N31 6 92 rfl rfl
 have sz_xs_31 : h0.size ≤ xs_31 := Nat.le_trans K29.1 po31_0
 have sz_ts_31 : h0.size ≤ ts_31 := Nat.le_trans K29.1 po31_1
 have K31 := K29.trans Kc31 all0
 have E_xs_31 := po31_2
 have Fv_xs_31 := po31_3
 have Fc_xs_31 := po31_4
 have V_ts_31 := po31_5
 have hkb_31 := po31_6
 exact endA 73 #[rv ls, rv it_2, rv b9, rv pa] (rest := []) X31 hx hrt rfl hlk P31 (hb hby d84_73) rfl (by decide) (by decide) (show Q_acStr1 Z ls em pa pta pka pca pza pva qa G1 Gf h0 n0 _ _ _ from ⟨xs_31, ts_31, ks_31, ce_31, ze_31, wv_31, rfl, N32, K31, sz_xs_31, sz_ts_31, E_xs_31, Fv_xs_31, Fc_xs_31, V_ts_31, hkb_31⟩)
theorem rm_valL1 (hw : HW a0 Z) (ls em pa pta : Addr) (pka : ClassId) (pca pza : Int32) (pva : List Value) (qa G1 : Int32) (Gf : Value) (Z0 : n0 ≤ h0.size) (E_ls : Exa Z h0 ls cL2) (F_e0_ls : Fld Z h0 ls cL2 "e0" dO (.ref pa)) (F_e1_ls : Fld Z h0 ls cL2 "e1" dO (.ref em)) (Se : SU6 Z em) (E_pa : Exa Z h0 pa cS) (Fv_pa : Fld Z h0 pa cS "value" "[B" (.ref pta)) (Fc_pa : Fld Z h0 pa cS "coder" "B" (.int pca)) (V_pta : Arv Z h0 pta pka .byte pza pva i0) (hka : KB pca pza pva [qa]) (Sc : SU4 Z G1) (hz : ¬ G1 = 0) (Sa : SU1 Z) (Sh : SU2 Z) (Sl : SU3 Z) (Sf : SU5 Z Gf) (rGf : Gf.isRef = true) (OL : Old Z n0 h0) (ne_pa_ls : pa ≠ ls) :
  MetP l Z mn_87 k82_ 1 (some (.object cS)) (rr 12 6 92 171) ws #[(.ref ls)] h0 (Q_acStr1 Z ls em pa pta pka pca pza pva qa G1 Gf h0 n0) := by
 refine begH n0 cS rfl (plainFor_of_name pn_2) fun p e s m below meth c s₁ s0 hrt hlk hZ hx hby hml hown hnm X0 e0 N0 P0 => ?_
 replace P0 : PP p e below s₁ (mkF m 0 #[rv ls] []) s0 := castPP (ef_4 m ls) P0
 have P1 : PP p e below s₁ (mkF m 11 #[rv ls] [(.ref ls)]) s0 := fun q_ k_ => P0 q_ (by
  refine bt X0 hx hby b277_ rfl ?_
  refine XS.ifnonnullYes X0.here hx rfl (pc0 := 1) (pc' := 10) rfl (hb hby d82_1) rfl (by decide) (by decide) ?_
  exact bt X0 hx hby b278_ rfl k_)
 obtain ⟨cq2, kq2, q2a, q2b, q2c⟩ := isOf hZ e0 E_ls
 obtain ⟨_, _, ⟨T2, L2, k2, n2⟩, -, X2, ⟨Lc2, hQ2, l2, y2, z2⟩, st2⟩ := X0.virtualBack hx (y := mn_86) (z := mn_91) hown (mw hZ hw 177 rfl) (mw hZ hw 178 rfl) (own_nf (args := #[]) (mw hZ hw 353 rfl) rfl) (mw hZ hw 393 rfl) (mw hZ hw 181 rfl) (by decide) (backOf (W := 0) (rm_acStr1 hw ls em pa pta pka pca pza pva qa G1 Gf Z0 E_ls F_e0_ls F_e1_ls Se E_pa Fv_pa Fc_pa V_pta hka Sc hz Sa Sh Sl Sf rGf OL ne_pa_ls) hZ (ww hw 182 rfl) (ww hw 46 rfl) (by decide) (by decide)) q2a q2c (g := P1.g) rfl (by rw [hml]; rfl) (Steps.refl _) (argsL := []) (rest := []) (lenOf pd_47 rfl) rfl (by show 2 * 0 + _ ≤ _; exact Nat.le_of_eq rfl) (hb hby d82_11) (fun _ _ => ⟨rfl, e0, (by decide : 0 + 6 ≤ _), (by decide : 0 + 92 ≤ _)⟩)
 dsimp only [Pt.U, Pt.locs, Pt.cells, Pt.slots] at X2 l2 y2 z2 st2 hQ2
 subst l2 y2 z2
 obtain ⟨xs_2, ts_2, ks_2, ce_2, ze_2, wv_2, rfl, N2q, Kc2, po2_0, po2_1, po2_2, po2_3, po2_4, po2_5, po2_6⟩ := hQ2
 have N2 := Fr.app N0 N2q
 obtain ⟨Lf3, X2, N3⟩ := fixL X2 N2 6 92 rfl rfl
 have P4 := P1.tr st2
 have sz_xs_2 : h0.size ≤ xs_2 := Nat.le_trans (Nat.le_refl h0.size) po2_0
 have sz_ts_2 : h0.size ≤ ts_2 := Nat.le_trans (Nat.le_refl h0.size) po2_1
 have K2 := (Keep.refl h0 []).trans Kc2 all0
 have E_xs_2 := po2_2
 have Fv_xs_2 := po2_3
 have Fc_xs_2 := po2_4
 have V_ts_2 := po2_5
 have hkb_2 := po2_6
 exact endA 14 #[rv ls] (rest := []) X2 hx hrt rfl hlk P4 (hb hby d82_14) rfl (by decide) (by decide) (show Q_acStr1 Z ls em pa pta pka pca pza pva qa G1 Gf h0 n0 _ _ _ from ⟨xs_2, ts_2, ks_2, ce_2, ze_2, wv_2, rfl, N3, K2, sz_xs_2, sz_ts_2, E_xs_2, Fv_xs_2, Fc_xs_2, V_ts_2, hkb_2⟩)
def Q_sbAppL1 (Z : State) (sb t : Addr) (kb : ClassId) (cd zb : Int32) (vs : List Value) (cs : List Int32) (G1 : Int32) (Gf : Value) (ls em pa pta : Addr) (pka : ClassId) (pca pza : Int32) (pva : List Value) (qa : Int32) : QT := fun h0 n0 v h L => ∃ (tn : Addr) (kn : ClassId) (cd2 : Int32) (zb2 : Int32) (vs2 : List Value), v = some (.ref sb) ∧ Fr n0 L ∧ Keep h0 h [sb, t] ∧ (tn = t ∨ h0.size ≤ tn) ∧ (Exa Z h sb cB) ∧ (Fld Z h sb cA "value" "[B" (.ref tn)) ∧ (Fld Z h sb cA "coder" "B" (.int cd2)) ∧ (Fld Z h sb cA "count" "I" (.int (Int32.ofNat (cs ++ [(91 : Int32), qa, 93]).length))) ∧ (Fld Z h sb cA "maybeLatin1" "Z" i0) ∧ (Arv Z h tn kn .byte zb2 vs2 i0) ∧ (sb ≠ tn) ∧ (BB cd2 zb2 vs2 (cs ++ [(91 : Int32), qa, 93]))
theorem rm_sbAppL1 (hw : HW a0 Z) (sb t : Addr) (kb : ClassId) (cd zb : Int32) (vs : List Value) (cs : List Int32) (G1 : Int32) (Gf : Value) (ls em pa pta : Addr) (pka : ClassId) (pca pza : Int32) (pva : List Value) (qa : Int32) (Z0 : n0 ≤ h0.size) (E_sb : Exa Z h0 sb cB) (Fv_sb : Fld Z h0 sb cA "value" "[B" (.ref t)) (Fc_sb : Fld Z h0 sb cA "coder" "B" (.int cd)) (Fn_sb : Fld Z h0 sb cA "count" "I" (.int (Int32.ofNat cs.length))) (Fm_sb : Fld Z h0 sb cA "maybeLatin1" "Z" i0) (V_t : Arv Z h0 t kb .byte zb vs i0) (g_t : n0 ≤ t) (g_sb : n0 ≤ sb) (ne_sb_t : sb ≠ t) (Sc : SU4 Z G1) (hz : ¬ G1 = 0) (Sa : SU1 Z) (Sh : SU2 Z) (Sl : SU3 Z) (Sf : SU5 Z Gf) (rGf : Gf.isRef = true) (OL : Old Z n0 h0) (hbb : BB cd zb vs cs) (hl3 : cs.length ≤ 3) (E_ls : Exa Z h0 ls cL2) (F_e0_ls : Fld Z h0 ls cL2 "e0" dO (.ref pa)) (F_e1_ls : Fld Z h0 ls cL2 "e1" dO (.ref em)) (Se : SU6 Z em) (E_pa : Exa Z h0 pa cS) (Fv_pa : Fld Z h0 pa cS "value" "[B" (.ref pta)) (Fc_pa : Fld Z h0 pa cS "coder" "B" (.int pca)) (V_pta : Arv Z h0 pta pka .byte pza pva i0) (hka : KB pca pza pva [qa]) (ne_pa_ls : pa ≠ ls) :
  MetP l Z mn_88 k83_ 2 (some (.object cB)) (rr 13 7 124 184) ws #[(.ref sb), (.ref ls)] h0 (Q_sbAppL1 Z sb t kb cd zb vs cs G1 Gf ls em pa pta pka pca pza pva qa h0 n0) := by
 refine begH n0 cB rfl (plainFor_of_name pn_6) fun p e s m below meth c s₁ s0 hrt hlk hZ hx hby hml hown hnm X0 e0 N0 P0 => ?_
 replace P0 : PP p e below s₁ (mkF m 0 #[rv sb, rv ls] []) s0 := castPP (ef_21 m sb ls) P0
 have P1 := P0.bt X0 hx hby b279_ rfl
 obtain ⟨_, T2, L2, X2, hQ2, P2⟩ := cSt P1 X0 hx hZ hown hw e0 hml 174 175 2 176 (rm_valL1 hw ls em pa pta pka pca pza pva qa G1 Gf Z0 E_ls F_e0_ls F_e1_ls Se E_pa Fv_pa Fc_pa V_pta hka Sc hz Sa Sh Sl Sf rGf OL ne_pa_ls) rfl rfl rfl rfl rfl rfl [(.ref ls)] [(.ref sb)] 1 (lenOf pd_48 rfl) rfl (Nat.le_of_eq rfl) (hb hby d83_2) rfl (by decide)
 obtain ⟨xs_2, ts_2, ks_2, ce_2, ze_2, wv_2, rfl, N2q, Kc2, po2_0, po2_1, po2_2, po2_3, po2_4, po2_5, po2_6⟩ := hQ2
 have N2 := Fr.app N0 N2q
 obtain ⟨Lf3, X2, N3⟩ := fixL X2 N2 6 92 rfl rfl
 have ne_sb_xs_2 := neL E_sb.lt po2_0
 have ne_t_xs_2 := neL V_t.lt po2_0
 have ne_sb_ts_2 := neL E_sb.lt po2_1
 have ne_t_ts_2 := neL V_t.lt po2_1
 replace E_sb := E_sb.keep Kc2
 replace Fv_sb := Fv_sb.keep Kc2 nin0
 replace Fc_sb := Fc_sb.keep Kc2 nin0
 replace Fn_sb := Fn_sb.keep Kc2 nin0
 replace Fm_sb := Fm_sb.keep Kc2 nin0
 replace V_t := V_t.keep Kc2 nin0
 replace OL := OL.keep Kc2 all0
 have K2 := (Keep.refl h0 [sb, t]).trans Kc2 all0
 have E_xs_2 := po2_2
 have Fv_xs_2 := po2_3
 have Fc_xs_2 := po2_4
 have V_ts_2 := po2_5
 have hkb_2 := po2_6
 obtain ⟨_, T4, L4, X4, hQ4, P4⟩ := cVi P2 X2 hx hZ hown hw rfl E_sb hml 224 122 121 123 103 (rm_sbApp hw sb t kb cd zb vs cs xs_2 ts_2 ks_2 ce_2 ze_2 wv_2 [(91 : Int32), qa, 93] G1 Gf (zT Z0 K2.1) E_sb Fv_sb Fc_sb Fn_sb Fm_sb V_t E_xs_2 Fv_xs_2 Fc_xs_2 V_ts_2 g_t g_sb (Ne.symm ne_t_xs_2) (Ne.symm ne_t_ts_2) ne_sb_t (Ne.symm ne_sb_xs_2) (Ne.symm ne_sb_ts_2) Sc hz Sa Sh Sl Sf rGf OL hbb hkb_2 (by simp only [List.length_append, List.length_cons, List.length_nil] <;> omega)) rfl rfl rfl rfl rfl rfl rfl [(.ref xs_2)] [] 0 (lenOf pd_49 rfl) rfl (Nat.le_of_eq rfl) (hb hby d83_5) rfl (by decide)
 obtain ⟨tn_4, kn_4, cd2_4, zb2_4, vs2_4, rfl, N4q, Kc4, po4_0, po4_1, po4_2, po4_3, po4_4, po4_5, po4_6, po4_7, po4_8⟩ := hQ4
 have N4 := Fr.app N3 N4q
 obtain ⟨Lf5, X4, N5⟩ := fixL X4 N4 7 124 rfl rfl
 have g_tn_4 : n0 ≤ tn_4 := own_tof2 po4_0 g_t (Nat.le_trans Z0 K2.1)
 have tf_tn_4 : tn_4 = t ∨ h0.size ≤ tn_4 := own_tof3 po4_0 K2.1
 have K4 := Kt2 K2 Kc4 (Or.inl (mi 0)) (Or.inl (mi 1))
 have E_sb := po4_1
 have Fv_sb := po4_2
 have Fc_sb := po4_3
 have Fn_sb := po4_4
 have Fm_sb := po4_5
 have V_tn_4 := po4_6
 have hbb2_4 := po4_8
 exact endA 8 #[rv sb, rv ls] (rest := []) X4 hx hrt rfl hlk P4 (hb hby d83_8) rfl (by decide) (by decide) (show Q_sbAppL1 Z sb t kb cd zb vs cs G1 Gf ls em pa pta pka pca pza pva qa h0 n0 _ _ _ from ⟨tn_4, kn_4, cd2_4, zb2_4, vs2_4, rfl, N5, K4, tf_tn_4, E_sb, Fv_sb, Fc_sb, Fn_sb, Fm_sb, V_tn_4, po4_7, hbb2_4⟩)
theorem b289_ : dl k84_ 74 [(.aload_n 2, 1), (.bipush 44, 2)] = true := by decide +kernel
theorem d84_77 : decode k84_ 77 = .ok (.invokevirtual 97, 3) := by decide +kernel
theorem b290_ : dl k84_ 80 [(.bipush 32, 2)] = true := by decide +kernel
theorem d84_82 : decode k84_ 82 = .ok (.invokevirtual 97, 3) := by decide +kernel
theorem b291_ : dl k84_ 85 [(.pop, 1), (.goto (-54), 3)] = true := by decide +kernel
theorem b292_ : dl k84_ 32 [(.aload_n 1, 1)] = true := by decide +kernel
def Q_acStr2 (Z : State) (ls em pa pta : Addr) (pka : ClassId) (pca pza : Int32) (pva : List Value) (qa : Int32) (pb ptb : Addr) (pkb : ClassId) (pcb pzb : Int32) (pvb : List Value) (qb G1 : Int32) (Gf : Value) : QT := fun h0 n0 v h L => ∃ (xs : Addr) (ts : Addr) (ks : ClassId) (ce : Int32) (ze : Int32) (wv : List Value), v = some (.ref xs) ∧ Fr n0 L ∧ Keep h0 h [] ∧ (h0.size ≤ xs) ∧ (h0.size ≤ ts) ∧ (Exa Z h xs cS) ∧ (Fld Z h xs cS "value" "[B" (.ref ts)) ∧ (Fld Z h xs cS "coder" "B" (.int ce)) ∧ (Arv Z h ts ks .byte ze wv i0) ∧ (KB ce ze wv [(91 : Int32), qa, 44, 32, qb, 93])
theorem rm_acStr2 (hw : HW a0 Z) (ls em pa pta : Addr) (pka : ClassId) (pca pza : Int32) (pva : List Value) (qa : Int32) (pb ptb : Addr) (pkb : ClassId) (pcb pzb : Int32) (pvb : List Value) (qb G1 : Int32) (Gf : Value) (Z0 : n0 ≤ h0.size) (E_ls : Exa Z h0 ls cL2) (F_e0_ls : Fld Z h0 ls cL2 "e0" dO (.ref pa)) (F_e1_ls : Fld Z h0 ls cL2 "e1" dO (.ref pb)) (Se : SU6 Z em) (ne_pb_em : pb ≠ em) (E_pa : Exa Z h0 pa cS) (Fv_pa : Fld Z h0 pa cS "value" "[B" (.ref pta)) (Fc_pa : Fld Z h0 pa cS "coder" "B" (.int pca)) (V_pta : Arv Z h0 pta pka .byte pza pva i0) (hka : KB pca pza pva [qa]) (E_pb : Exa Z h0 pb cS) (Fv_pb : Fld Z h0 pb cS "value" "[B" (.ref ptb)) (Fc_pb : Fld Z h0 pb cS "coder" "B" (.int pcb)) (V_ptb : Arv Z h0 ptb pkb .byte pzb pvb i0) (hkb : KB pcb pzb pvb [qb]) (Sc : SU4 Z G1) (hz : ¬ G1 = 0) (Sa : SU1 Z) (Sh : SU2 Z) (Sl : SU3 Z) (Sf : SU5 Z Gf) (rGf : Gf.isRef = true) (OL : Old Z n0 h0) (ne_pa_ls : pa ≠ ls) (ne_pb_ls : pb ≠ ls) :
  MetP l Z mn_91 k84_ 4 (some (.object cS)) (rr 11 7 124 156) ws #[(.ref ls)] h0 (Q_acStr2 Z ls em pa pta pka pca pza pva qa pb ptb pkb pcb pzb pvb qb G1 Gf h0 n0) := by
 refine begH n0 "java/util/AbstractCollection" rfl (plainFor_of_name pn_7) fun p e s m below meth c s₁ s0 hrt hlk hZ hx hby hml hown hnm X0 e0 N0 P0 => ?_
 replace P0 : PP p e below s₁ (mkF m 0 #[rv ls, .unset, .unset, .unset] []) s0 := castPP (ef_46 m ls) P0
 have P1 := P0.bt X0 hx hby b280_ rfl
 obtain ⟨cq2, kq2, q2a, q2b, q2c⟩ := isOf hZ e0 E_ls
 obtain ⟨_, _, ⟨T2, L2, k2, n2⟩, -, X2, ⟨Lc2, hQ2, l2, y2, z2⟩, st2⟩ := X0.virtualBack hx (y := mn_89) (z := mn_79) hown (mw hZ hw 183 rfl) (mw hZ hw 184 rfl) (own_nf (args := #[]) (mw hZ hw 180 rfl) rfl) (mw hZ hw 394 rfl) (mw hZ hw 186 rfl) (by decide) (backOf (W := 0) (rm_iter2 hw ls em pa pb Z0 E_ls F_e0_ls F_e1_ls Se OL ne_pb_em) hZ (ww hw 188 rfl) (ww hw 187 rfl) (by decide) (by decide)) q2a q2c (g := P1.g) rfl (by rw [hml]; rfl) (Steps.refl _) (argsL := []) (rest := []) (lenOf pd_50 rfl) rfl (by show 2 * 0 + _ ≤ _; exact Nat.le_of_eq rfl) (hb hby d84_1) (fun _ _ => ⟨rfl, e0, (by decide : 0 + 1 ≤ _), (by decide : 0 + 4 ≤ _)⟩)
 dsimp only [Pt.U, Pt.locs, Pt.cells, Pt.slots] at X2 l2 y2 z2 st2 hQ2
 subst l2 y2 z2
 obtain ⟨it_2, rfl, N2q, Kc2, po2_0, po2_1, po2_2, po2_3, po2_4⟩ := hQ2
 have N2 := Fr.app N0 N2q
 obtain ⟨Lf3, X2, N3⟩ := fixL X2 N2 1 4 rfl rfl
 have P4 := P1.tr st2
 have ne_ls_it_2 := neL E_ls.lt po2_0
 have ne_pa_it_2 := neL E_pa.lt po2_0
 have ne_pta_it_2 := neL V_pta.lt po2_0
 have ne_pb_it_2 := neL E_pb.lt po2_0
 have ne_ptb_it_2 := neL V_ptb.lt po2_0
 have sz_it_2 : h0.size ≤ it_2 := Nat.le_trans (Nat.le_refl h0.size) po2_0
 replace E_ls := E_ls.keep Kc2
 replace F_e0_ls := F_e0_ls.keep Kc2 nin0
 replace F_e1_ls := F_e1_ls.keep Kc2 nin0
 replace E_pa := E_pa.keep Kc2
 replace Fv_pa := Fv_pa.keep Kc2 nin0
 replace Fc_pa := Fc_pa.keep Kc2 nin0
 replace V_pta := V_pta.keep Kc2 nin0
 replace E_pb := E_pb.keep Kc2
 replace Fv_pb := Fv_pb.keep Kc2 nin0
 replace Fc_pb := Fc_pb.keep Kc2 nin0
 replace V_ptb := V_ptb.keep Kc2 nin0
 replace OL := OL.keep Kc2 all0
 have K2 := (Keep.refl h0 []).trans Kc2 all0
 have E_it_2 := po2_1
 have F_list_it_2 := po2_2
 have Fz_it_2 := po2_3
 have F_cursor_it_2 := po2_4
 have P5 : PP p e below T2 (mkF m 6 #[rv ls, rv it_2, .unset, .unset] [(.ref it_2)]) s0 := fun q_ k_ => P4 q_ (by
  exact bt X2 hx hby b281_ rfl k_)
 obtain ⟨cq6, kq6, q6a, q6b, q6c⟩ := isOf hZ rfl E_it_2
 obtain ⟨_, _, ⟨T6, L6, k6, n6⟩, -, X6, ⟨Lc6, hQ6, l6, y6, z6⟩, st6⟩ := X2.interfaceBack hx (xi := mn_90) (y := mn_80) hown (mw hZ hw 214 rfl) (mw hZ hw 215 rfl) (mw hZ hw 216 rfl) (mw hZ hw 217 rfl) (mw hZ hw 218 rfl) (mw hZ hw 219 rfl) (mw hZ hw 220 rfl) (mw hZ hw 221 rfl) (by decide) (backOf (W := 0) (rm_hasN20 hw it_2 ls (zT Z0 K2.1) E_it_2 F_list_it_2 Fz_it_2 F_cursor_it_2) hZ (ww hw 222 rfl) (ww hw 191 rfl) (by decide) (by decide)) q6a q6b q6c (g := P5.g) rfl (by rw [hml]; rfl) (Steps.refl _) (argsL := []) (rest := []) (lenOf pd_20 rfl) rfl (by show 2 * 0 + _ ≤ _; exact Nat.le_of_eq rfl) (hb hby d84_6) (fun _ _ => ⟨rfl, rfl, (by decide : 1 + 0 ≤ _), (by decide : 4 + 0 ≤ _)⟩)
 dsimp only [Pt.U, Pt.locs, Pt.cells, Pt.slots] at X6 l6 y6 z6 st6 hQ6
 subst l6 y6 z6
 obtain ⟨rfl, N6q, e6⟩ := hQ6
 have N6 := Fr.app N3 N6q
 have P7 := P5.tr st6
 have P8 : PP p e below T6 (mkF m 17 #[rv ls, rv it_2, .unset, .unset] []) s0 := fun q_ k_ => P7 q_ (by
  exact XS.ifYes X6.here hx rfl (pc0 := 11) (pc' := 17) rfl (hb hby d84_11) rfl ((if0 _ _).trans (feq ((by decide) : ¬ ((1 : Int32) = (0 : Int32)))).2) (by decide) (by decide) k_)
 obtain ⟨T9, h9, X9, e9, E9, A9, D9, -, st9⟩ := newO X6 hx hZ hown (ww hw 398 rfl) (ww hw 102 rfl) (ww hw 103 rfl) e6 (g := P8.g) rfl (hb hby d84_17) (by decide) (by decide)
 obtain ⟨b9, g9⟩ : ∃ z, z = T2.heap.size := ⟨_, rfl⟩
 rw [← g9] at A9 D9 st9
 have P10 := P8.st st9
 have ne_ls_b9 := neL E_ls.lt (Nat.le_of_eq g9.symm)
 have ne_pa_b9 := neL E_pa.lt (Nat.le_of_eq g9.symm)
 have ne_pta_b9 := neL V_pta.lt (Nat.le_of_eq g9.symm)
 have ne_pb_b9 := neL E_pb.lt (Nat.le_of_eq g9.symm)
 have ne_ptb_b9 := neL V_ptb.lt (Nat.le_of_eq g9.symm)
 have ne_it_2_b9 := neL E_it_2.lt (Nat.le_of_eq g9.symm)
 have sz_b9 : h0.size ≤ b9 := Nat.le_trans K2.1 (Nat.le_of_eq g9.symm)
 replace E_ls := E_ls.ext E9
 replace F_e0_ls := F_e0_ls.ext E9
 replace F_e1_ls := F_e1_ls.ext E9
 replace E_pa := E_pa.ext E9
 replace Fv_pa := Fv_pa.ext E9
 replace Fc_pa := Fc_pa.ext E9
 replace V_pta := V_pta.ext E9
 replace E_pb := E_pb.ext E9
 replace Fv_pb := Fv_pb.ext E9
 replace Fc_pb := Fc_pb.ext E9
 replace V_ptb := V_ptb.ext E9
 replace OL := OL.ext E9
 replace E_it_2 := E_it_2.ext E9
 replace F_list_it_2 := F_list_it_2.ext E9
 replace Fz_it_2 := Fz_it_2.ext E9
 replace F_cursor_it_2 := F_cursor_it_2.ext E9
 have K9 := K2.ext E9
 obtain ⟨Lf11, X9, N11⟩ := fixL X9 N6 2 8 rfl rfl
 have E_b9 : Exa Z h9 b9 cB := A9
 have Fv_b9 : Fld Z h9 b9 cA "value" "[B" .null := D9 (Or.inl (ww hw 116 rfl)) (ty := (.array .byte)) (by decide)
 have Fc_b9 : Fld Z h9 b9 cA "coder" "B" i0 := D9 (Or.inl (ww hw 118 rfl)) (ty := .byte) (by decide)
 have Fn_b9 : Fld Z h9 b9 cA "count" "I" i0 := D9 (Or.inl (ww hw 140 rfl)) (ty := .int) (by decide)
 have Fm_b9 : Fld Z h9 b9 cA "maybeLatin1" "Z" i0 := D9 (Or.inl (ww hw 484 rfl)) (ty := .boolean) (by decide)
 have P12 := P10.bt X9 hx hby b282_ rfl
 obtain ⟨_, T13, L13, X13, hQ13, P13⟩ := cIn P12 X9 hx hZ hown hw e9 hml 399 105 106 103 (rm_sbInit hw b9 .null i0 G1 (zT Z0 K9.1) E_b9 Fv_b9 Fc_b9 Fn_b9 Fm_b9 (Nat.le_trans Z0 sz_b9) Sc OL hz) rfl rfl rfl rfl rfl rfl rfl [] [(.ref b9)] 1 (lenOf pd_24 rfl) rfl (Nat.le_of_eq rfl) (hb hby d84_21) rfl (by decide)
 obtain ⟨tn_13, kn_13, cd2_13, zb2_13, vs2_13, rfl, N13q, Kc13, po13_0, po13_1, po13_2, po13_3, po13_4, po13_5, po13_6, po13_7, po13_8⟩ := hQ13
 have N13 := Fr.app N11 N13q
 obtain ⟨Lf14, X13, N14⟩ := fixL X13 N13 3 24 rfl rfl
 have ne_ls_tn_13 := neL E_ls.lt po13_0
 have ne_pa_tn_13 := neL E_pa.lt po13_0
 have ne_pta_tn_13 := neL V_pta.lt po13_0
 have ne_pb_tn_13 := neL E_pb.lt po13_0
 have ne_ptb_tn_13 := neL V_ptb.lt po13_0
 have ne_it_2_tn_13 := neL E_it_2.lt po13_0
 have sz_tn_13 : h0.size ≤ tn_13 := Nat.le_trans K9.1 po13_0
 replace E_ls := E_ls.keep Kc13
 replace F_e0_ls := F_e0_ls.keep Kc13 (ninS ne_ls_b9 nin0)
 replace F_e1_ls := F_e1_ls.keep Kc13 (ninS ne_ls_b9 nin0)
 replace E_pa := E_pa.keep Kc13
 replace Fv_pa := Fv_pa.keep Kc13 (ninS ne_pa_b9 nin0)
 replace Fc_pa := Fc_pa.keep Kc13 (ninS ne_pa_b9 nin0)
 replace V_pta := V_pta.keep Kc13 (ninS ne_pta_b9 nin0)
 replace E_pb := E_pb.keep Kc13
 replace Fv_pb := Fv_pb.keep Kc13 (ninS ne_pb_b9 nin0)
 replace Fc_pb := Fc_pb.keep Kc13 (ninS ne_pb_b9 nin0)
 replace V_ptb := V_ptb.keep Kc13 (ninS ne_ptb_b9 nin0)
 replace OL := OL.keep Kc13 (allS (Nat.le_trans Z0 sz_b9) all0)
 replace E_it_2 := E_it_2.keep Kc13
 replace F_list_it_2 := F_list_it_2.keep Kc13 (ninS ne_it_2_b9 nin0)
 replace Fz_it_2 := Fz_it_2.keep Kc13 (ninS ne_it_2_b9 nin0)
 replace F_cursor_it_2 := F_cursor_it_2.keep Kc13 (ninS ne_it_2_b9 nin0)
 have K13 := Kt1 K9 Kc13 (Or.inr sz_b9)
 have E_b9 := po13_1
 have Fv_b9 := po13_2
 have Fc_b9 := po13_3
 have Fn_b9 := po13_4
 have Fm_b9 := po13_5
 have V_tn_13 := po13_6
 have hbb2_13 := po13_8
 have P15 : PP p e below T13 (mkF m 28 #[rv ls, rv it_2, rv b9, .unset] [(.int 91), (.ref b9)]) s0 := fun q_ k_ => P13 q_ (by
  exact bt X13 hx hby b283_ rfl k_)
 obtain ⟨_, T16, L16, X16, hQ16, P16⟩ := cVi P15 X13 hx hZ hown hw rfl E_b9 hml 401 404 403 405 103 (rm_sbAppC hw b9 tn_13 kn_13 cd2_13 zb2_13 vs2_13 ([] : List Int32) (91 : Int32) G1 Gf (zT Z0 K13.1) E_b9 Fv_b9 Fc_b9 Fn_b9 Fm_b9 V_tn_13 (Nat.le_trans Z0 sz_tn_13) (Nat.le_trans Z0 sz_b9) po13_7 Sc hz Sa Sh Sl Sf rGf OL hbb2_13 (by simp only [List.length_append, List.length_cons, List.length_nil] <;> omega) (own_isC 91 (by decide)) (by decide)) rfl rfl rfl rfl rfl rfl rfl [(.int 91)] [] 0 (lenOf pd_51 rfl) rfl (Nat.le_of_eq rfl) (hb hby d84_28) rfl (by decide)
 obtain ⟨tn_16, kn_16, cd2_16, zb2_16, vs2_16, rfl, N16q, Kc16, po16_0, po16_1, po16_2, po16_3, po16_4, po16_5, po16_6, po16_7, po16_8⟩ := hQ16
 have N16 := Fr.app N14 N16q
 obtain ⟨Lf17, X16, N17⟩ := fixL X16 N16 3 24 rfl rfl
 have ne_ls_tn_16 := own_tof po16_0 ne_ls_tn_13 E_ls.lt
 have ne_pa_tn_16 := own_tof po16_0 ne_pa_tn_13 E_pa.lt
 have ne_pta_tn_16 := own_tof po16_0 ne_pta_tn_13 V_pta.lt
 have ne_pb_tn_16 := own_tof po16_0 ne_pb_tn_13 E_pb.lt
 have ne_ptb_tn_16 := own_tof po16_0 ne_ptb_tn_13 V_ptb.lt
 have ne_it_2_tn_16 := own_tof po16_0 ne_it_2_tn_13 E_it_2.lt
 have sz_tn_16 : h0.size ≤ tn_16 := own_tof2 po16_0 sz_tn_13 K13.1
 have tf_tn_16 : tn_16 = tn_13 ∨ h0.size ≤ tn_16 := own_tof3 po16_0 K13.1
 replace E_ls := E_ls.keep Kc16
 replace F_e0_ls := F_e0_ls.keep Kc16 (ninS ne_ls_b9 (ninS ne_ls_tn_13 nin0))
 replace F_e1_ls := F_e1_ls.keep Kc16 (ninS ne_ls_b9 (ninS ne_ls_tn_13 nin0))
 replace E_pa := E_pa.keep Kc16
 replace Fv_pa := Fv_pa.keep Kc16 (ninS ne_pa_b9 (ninS ne_pa_tn_13 nin0))
 replace Fc_pa := Fc_pa.keep Kc16 (ninS ne_pa_b9 (ninS ne_pa_tn_13 nin0))
 replace V_pta := V_pta.keep Kc16 (ninS ne_pta_b9 (ninS ne_pta_tn_13 nin0))
 replace E_pb := E_pb.keep Kc16
 replace Fv_pb := Fv_pb.keep Kc16 (ninS ne_pb_b9 (ninS ne_pb_tn_13 nin0))
 replace Fc_pb := Fc_pb.keep Kc16 (ninS ne_pb_b9 (ninS ne_pb_tn_13 nin0))
 replace V_ptb := V_ptb.keep Kc16 (ninS ne_ptb_b9 (ninS ne_ptb_tn_13 nin0))
 replace OL := OL.keep Kc16 (allS (Nat.le_trans Z0 sz_b9) (allS (Nat.le_trans Z0 sz_tn_13) all0))
 replace E_it_2 := E_it_2.keep Kc16
 replace F_list_it_2 := F_list_it_2.keep Kc16 (ninS ne_it_2_b9 (ninS ne_it_2_tn_13 nin0))
 replace Fz_it_2 := Fz_it_2.keep Kc16 (ninS ne_it_2_b9 (ninS ne_it_2_tn_13 nin0))
 replace F_cursor_it_2 := F_cursor_it_2.keep Kc16 (ninS ne_it_2_b9 (ninS ne_it_2_tn_13 nin0))
 have K16 := Kt2 K13 Kc16 (Or.inr sz_b9) (Or.inr sz_tn_13)
 have E_b9 := po16_1
 have Fv_b9 := po16_2
 have Fc_b9 := po16_3
 have Fn_b9 := po16_4
 have Fm_b9 := po16_5
 have V_tn_16 := po16_6
 have hbb2_16 := po16_8
 have P18 := P16.bt X16 hx hby b284_ rfl
 obtain ⟨cq19, kq19, q19a, q19b, q19c⟩ := isOf hZ rfl E_it_2
 obtain ⟨_, _, ⟨T19, L19, k19, n19⟩, -, X19, ⟨Lc19, hQ19, l19, y19, z19⟩, st19⟩ := X16.interfaceBack hx (xi := mn_92) (y := mn_84) hown (mw hZ hw 412 rfl) (mw hZ hw 413 rfl) (mw hZ hw 414 rfl) (mw hZ hw 415 rfl) (mw hZ hw 416 rfl) (mw hZ hw 417 rfl) (mw hZ hw 418 rfl) (mw hZ hw 221 rfl) (by decide) (backOfWith (W := 0) (rm_next20 hw it_2 ls em pa pb (zT Z0 K16.1) E_it_2 F_list_it_2 Fz_it_2 F_cursor_it_2 E_ls F_e0_ls F_e1_ls (Nat.le_trans Z0 sz_it_2) ne_ls_it_2 Se OL ne_pb_em) hZ (ww hw 419 rfl) (ww hw 191 rfl) (by decide) (by decide)) q19a q19b q19c (g := P18.g) rfl (by rw [hml]; rfl) (Steps.refl _) (argsL := []) (rest := []) (lenOf pd_52 rfl) rfl (by show 2 * 0 + _ ≤ _; exact Nat.le_of_eq rfl) (hb hby d84_33) (fun _ _ => ⟨rfl, rfl, (by decide : 3 + 0 ≤ _), (by decide : 24 + 0 ≤ _)⟩)
 dsimp only [Pt.U, Pt.locs, Pt.cells, Pt.slots] at X19 l19 y19 z19 st19 hQ19
 subst l19 y19 z19
 obtain ⟨rfl, N19q, Kc19, po19_0, po19_1, po19_2, po19_3⟩ := hQ19
 have N19 := Fr.app N17 N19q
 obtain ⟨Lf20, X19, N20⟩ := fixL X19 N19 3 24 rfl rfl
 have P21 := P18.tr st19
 replace E_ls := E_ls.keep Kc19
 replace F_e0_ls := F_e0_ls.keep Kc19 (ninS ne_ls_it_2 nin0)
 replace F_e1_ls := F_e1_ls.keep Kc19 (ninS ne_ls_it_2 nin0)
 replace E_pa := E_pa.keep Kc19
 replace Fv_pa := Fv_pa.keep Kc19 (ninS ne_pa_it_2 nin0)
 replace Fc_pa := Fc_pa.keep Kc19 (ninS ne_pa_it_2 nin0)
 replace V_pta := V_pta.keep Kc19 (ninS ne_pta_it_2 nin0)
 replace E_pb := E_pb.keep Kc19
 replace Fv_pb := Fv_pb.keep Kc19 (ninS ne_pb_it_2 nin0)
 replace Fc_pb := Fc_pb.keep Kc19 (ninS ne_pb_it_2 nin0)
 replace V_ptb := V_ptb.keep Kc19 (ninS ne_ptb_it_2 nin0)
 replace OL := OL.keep Kc19 (allS (Nat.le_trans Z0 sz_it_2) all0)
 replace E_b9 := E_b9.keep Kc19
 replace Fv_b9 := Fv_b9.keep Kc19 (ninS (Ne.symm ne_it_2_b9) nin0)
 replace Fc_b9 := Fc_b9.keep Kc19 (ninS (Ne.symm ne_it_2_b9) nin0)
 replace Fn_b9 := Fn_b9.keep Kc19 (ninS (Ne.symm ne_it_2_b9) nin0)
 replace Fm_b9 := Fm_b9.keep Kc19 (ninS (Ne.symm ne_it_2_b9) nin0)
 replace V_tn_16 := V_tn_16.keep Kc19 (ninS (Ne.symm ne_it_2_tn_16) nin0)
 have K19 := Kt1 K16 Kc19 (Or.inr sz_it_2)
 have E_it_2 := po19_0
 have F_list_it_2 := po19_1
 have Fz_it_2 := po19_2
 have F_cursor_it_2 := po19_3
 have P22 : PP p e below T19 (mkF m 51 #[rv ls, rv it_2, rv b9, rv pa] [(.ref pa), (.ref b9)]) s0 := fun q_ k_ => P21 q_ (by
  refine bt X19 hx hby b285_ rfl ?_
  refine Jvm.RoadKit.acmp X19 hx rfl rfl rfl (pc0 := 42) (pc' := 50) (same := false) rfl (hb hby d84_42) rfl (decide_eq_false fun q => ne_pa_ls (Value.ref.inj q)) (by decide) (by decide) ?_
  exact bt X19 hx hby b286_ rfl k_)
 obtain ⟨_, T23, L23, X23, hQ23, P23⟩ := cVi P22 X19 hx hZ hown hw rfl E_b9 hml 429 172 171 173 103 (rm_sbAppO hw b9 tn_16 kn_16 cd2_16 zb2_16 vs2_16 (([] : List Int32) ++ [(91 : Int32)]) pa pta pka pca pza pva ([qa] : List Int32) G1 Gf (zT Z0 K19.1) E_b9 Fv_b9 Fc_b9 Fn_b9 Fm_b9 V_tn_16 E_pa Fv_pa Fc_pa V_pta (Nat.le_trans Z0 sz_tn_16) (Nat.le_trans Z0 sz_b9) ne_pa_tn_16 ne_pta_tn_16 po16_7 ne_pa_b9 ne_pta_b9 Sc hz Sa Sh Sl Sf rGf OL hbb2_16 hka (by simp only [List.length_append, List.length_cons, List.length_nil] <;> omega)) rfl rfl rfl rfl rfl rfl rfl [(.ref pa)] [] 0 (lenOf pd_53 rfl) rfl (Nat.le_of_eq rfl) (hb hby d84_51) rfl (by decide)
 obtain ⟨tn_23, kn_23, cd2_23, zb2_23, vs2_23, rfl, N23q, Kc23, po23_0, po23_1, po23_2, po23_3, po23_4, po23_5, po23_6, po23_7, po23_8⟩ := hQ23
 have N23 := Fr.app N20 N23q
 obtain ⟨Lf24, X23, N24⟩ := fixL X23 N23 4 56 rfl rfl
 have ne_ls_tn_23 := own_tof po23_0 ne_ls_tn_16 E_ls.lt
 have ne_pb_tn_23 := own_tof po23_0 ne_pb_tn_16 E_pb.lt
 have ne_ptb_tn_23 := own_tof po23_0 ne_ptb_tn_16 V_ptb.lt
 have ne_it_2_tn_23 := own_tof po23_0 ne_it_2_tn_16 E_it_2.lt
 have sz_tn_23 : h0.size ≤ tn_23 := own_tof2 po23_0 sz_tn_16 K19.1
 have tf_tn_23 : tn_23 = tn_16 ∨ h0.size ≤ tn_23 := own_tof3 po23_0 K19.1
 replace E_ls := E_ls.keep Kc23
 replace F_e0_ls := F_e0_ls.keep Kc23 (ninS ne_ls_b9 (ninS ne_ls_tn_16 nin0))
 replace F_e1_ls := F_e1_ls.keep Kc23 (ninS ne_ls_b9 (ninS ne_ls_tn_16 nin0))
 replace E_pb := E_pb.keep Kc23
 replace Fv_pb := Fv_pb.keep Kc23 (ninS ne_pb_b9 (ninS ne_pb_tn_16 nin0))
 replace Fc_pb := Fc_pb.keep Kc23 (ninS ne_pb_b9 (ninS ne_pb_tn_16 nin0))
 replace V_ptb := V_ptb.keep Kc23 (ninS ne_ptb_b9 (ninS ne_ptb_tn_16 nin0))
 replace OL := OL.keep Kc23 (allS (Nat.le_trans Z0 sz_b9) (allS (Nat.le_trans Z0 sz_tn_16) all0))
 replace E_it_2 := E_it_2.keep Kc23
 replace F_list_it_2 := F_list_it_2.keep Kc23 (ninS ne_it_2_b9 (ninS ne_it_2_tn_16 nin0))
 replace Fz_it_2 := Fz_it_2.keep Kc23 (ninS ne_it_2_b9 (ninS ne_it_2_tn_16 nin0))
 replace F_cursor_it_2 := F_cursor_it_2.keep Kc23 (ninS ne_it_2_b9 (ninS ne_it_2_tn_16 nin0))
 have K23 := Kt2 K19 Kc23 (Or.inr sz_b9) (Or.inr sz_tn_16)
 have E_b9 := po23_1
 have Fv_b9 := po23_2
 have Fc_b9 := po23_3
 have Fn_b9 := po23_4
 have Fm_b9 := po23_5
 have V_tn_23 := po23_6
 have hbb2_23 := po23_8
 have P25 := P23.bt X23 hx hby b287_ rfl
 obtain ⟨cq26, kq26, q26a, q26b, q26c⟩ := isOf hZ rfl E_it_2
 obtain ⟨_, _, ⟨T26, L26, k26, n26⟩, -, X26, ⟨Lc26, hQ26, l26, y26, z26⟩, st26⟩ := X23.interfaceBack hx (xi := mn_90) (y := mn_80) hown (mw hZ hw 214 rfl) (mw hZ hw 215 rfl) (mw hZ hw 216 rfl) (mw hZ hw 217 rfl) (mw hZ hw 218 rfl) (mw hZ hw 219 rfl) (mw hZ hw 220 rfl) (mw hZ hw 221 rfl) (by decide) (backOf (W := 0) (rm_hasN21 hw it_2 ls (zT Z0 K23.1) E_it_2 F_list_it_2 Fz_it_2 F_cursor_it_2) hZ (ww hw 222 rfl) (ww hw 191 rfl) (by decide) (by decide)) q26a q26b q26c (g := P25.g) rfl (by rw [hml]; rfl) (Steps.refl _) (argsL := []) (rest := []) (lenOf pd_20 rfl) rfl (by show 2 * 0 + _ ≤ _; exact Nat.le_of_eq rfl) (hb hby d84_56) (fun _ _ => ⟨rfl, rfl, (by decide : 4 + 0 ≤ _), (by decide : 56 + 0 ≤ _)⟩)
 dsimp only [Pt.U, Pt.locs, Pt.cells, Pt.slots] at X26 l26 y26 z26 st26 hQ26
 subst l26 y26 z26
 obtain ⟨rfl, N26q, e26⟩ := hQ26
 have N26 := Fr.app N24 N26q
 have P27 := P25.tr st26
 have P28 : PP p e below T26 (mkF m 77 #[rv ls, rv it_2, rv b9, rv pa] [(.int 44), (.ref b9)]) s0 := fun q_ k_ => P27 q_ (by
  refine XS.ifYes X26.here hx rfl (pc0 := 61) (pc' := 74) rfl (hb hby d84_61) rfl ((if0 _ _).trans (feq ((by decide) : ¬ ((1 : Int32) = (0 : Int32)))).2) (by decide) (by decide) ?_
  exact bt X26 hx hby b289_ rfl k_)
 obtain ⟨_, T29, L29, X29, hQ29, P29⟩ := cVi P28 X26 hx hZ hown hw e26 E_b9 hml 401 404 403 405 103 (rm_sbAppC hw b9 tn_23 kn_23 cd2_23 zb2_23 vs2_23 ((([] : List Int32) ++ [(91 : Int32)]) ++ ([qa] : List Int32)) (44 : Int32) G1 Gf (zT Z0 K23.1) E_b9 Fv_b9 Fc_b9 Fn_b9 Fm_b9 V_tn_23 (Nat.le_trans Z0 sz_tn_23) (Nat.le_trans Z0 sz_b9) po23_7 Sc hz Sa Sh Sl Sf rGf OL hbb2_23 (by simp only [List.length_append, List.length_cons, List.length_nil] <;> omega) (own_isC 44 (by decide)) (by decide)) rfl rfl rfl rfl rfl rfl rfl [(.int 44)] [] 0 (lenOf pd_51 rfl) rfl (Nat.le_of_eq rfl) (hb hby d84_77) rfl (by decide)
 obtain ⟨tn_29, kn_29, cd2_29, zb2_29, vs2_29, rfl, N29q, Kc29, po29_0, po29_1, po29_2, po29_3, po29_4, po29_5, po29_6, po29_7, po29_8⟩ := hQ29
 have N29 := Fr.app N26 N29q
 obtain ⟨Lf30, X29, N30⟩ := fixL X29 N29 4 56 rfl rfl
 have ne_ls_tn_29 := own_tof po29_0 ne_ls_tn_23 E_ls.lt
 have ne_pb_tn_29 := own_tof po29_0 ne_pb_tn_23 E_pb.lt
 have ne_ptb_tn_29 := own_tof po29_0 ne_ptb_tn_23 V_ptb.lt
 have ne_it_2_tn_29 := own_tof po29_0 ne_it_2_tn_23 E_it_2.lt
 have sz_tn_29 : h0.size ≤ tn_29 := own_tof2 po29_0 sz_tn_23 K23.1
 have tf_tn_29 : tn_29 = tn_23 ∨ h0.size ≤ tn_29 := own_tof3 po29_0 K23.1
 replace E_ls := E_ls.keep Kc29
 replace F_e0_ls := F_e0_ls.keep Kc29 (ninS ne_ls_b9 (ninS ne_ls_tn_23 nin0))
 replace F_e1_ls := F_e1_ls.keep Kc29 (ninS ne_ls_b9 (ninS ne_ls_tn_23 nin0))
 replace E_pb := E_pb.keep Kc29
 replace Fv_pb := Fv_pb.keep Kc29 (ninS ne_pb_b9 (ninS ne_pb_tn_23 nin0))
 replace Fc_pb := Fc_pb.keep Kc29 (ninS ne_pb_b9 (ninS ne_pb_tn_23 nin0))
 replace V_ptb := V_ptb.keep Kc29 (ninS ne_ptb_b9 (ninS ne_ptb_tn_23 nin0))
 replace OL := OL.keep Kc29 (allS (Nat.le_trans Z0 sz_b9) (allS (Nat.le_trans Z0 sz_tn_23) all0))
 replace E_it_2 := E_it_2.keep Kc29
 replace F_list_it_2 := F_list_it_2.keep Kc29 (ninS ne_it_2_b9 (ninS ne_it_2_tn_23 nin0))
 replace Fz_it_2 := Fz_it_2.keep Kc29 (ninS ne_it_2_b9 (ninS ne_it_2_tn_23 nin0))
 replace F_cursor_it_2 := F_cursor_it_2.keep Kc29 (ninS ne_it_2_b9 (ninS ne_it_2_tn_23 nin0))
 have K29 := Kt2 K23 Kc29 (Or.inr sz_b9) (Or.inr sz_tn_23)
 have E_b9 := po29_1
 have Fv_b9 := po29_2
 have Fc_b9 := po29_3
 have Fn_b9 := po29_4
 have Fm_b9 := po29_5
 have V_tn_29 := po29_6
 have hbb2_29 := po29_8
 have P31 := P29.bt X29 hx hby b290_ rfl
 obtain ⟨_, T32, L32, X32, hQ32, P32⟩ := cVi P31 X29 hx hZ hown hw rfl E_b9 hml 401 404 403 405 103 (rm_sbAppC hw b9 tn_29 kn_29 cd2_29 zb2_29 vs2_29 (((([] : List Int32) ++ [(91 : Int32)]) ++ ([qa] : List Int32)) ++ [(44 : Int32)]) (32 : Int32) G1 Gf (zT Z0 K29.1) E_b9 Fv_b9 Fc_b9 Fn_b9 Fm_b9 V_tn_29 (Nat.le_trans Z0 sz_tn_29) (Nat.le_trans Z0 sz_b9) po29_7 Sc hz Sa Sh Sl Sf rGf OL hbb2_29 (by simp only [List.length_append, List.length_cons, List.length_nil] <;> omega) (own_isC 32 (by decide)) (by decide)) rfl rfl rfl rfl rfl rfl rfl [(.int 32)] [] 0 (lenOf pd_51 rfl) rfl (Nat.le_of_eq rfl) (hb hby d84_82) rfl (by decide)
 obtain ⟨tn_32, kn_32, cd2_32, zb2_32, vs2_32, rfl, N32q, Kc32, po32_0, po32_1, po32_2, po32_3, po32_4, po32_5, po32_6, po32_7, po32_8⟩ := hQ32
 have N32 := Fr.app N30 N32q
 obtain ⟨Lf33, X32, N33⟩ := fixL X32 N32 4 56 rfl rfl
 have ne_pb_tn_32 := own_tof po32_0 ne_pb_tn_29 E_pb.lt
 have ne_ptb_tn_32 := own_tof po32_0 ne_ptb_tn_29 V_ptb.lt
 have ne_it_2_tn_32 := own_tof po32_0 ne_it_2_tn_29 E_it_2.lt
 have sz_tn_32 : h0.size ≤ tn_32 := own_tof2 po32_0 sz_tn_29 K29.1
 have tf_tn_32 : tn_32 = tn_29 ∨ h0.size ≤ tn_32 := own_tof3 po32_0 K29.1
 replace E_ls := E_ls.keep Kc32
 replace F_e0_ls := F_e0_ls.keep Kc32 (ninS ne_ls_b9 (ninS ne_ls_tn_29 nin0))
 replace F_e1_ls := F_e1_ls.keep Kc32 (ninS ne_ls_b9 (ninS ne_ls_tn_29 nin0))
 replace E_pb := E_pb.keep Kc32
 replace Fv_pb := Fv_pb.keep Kc32 (ninS ne_pb_b9 (ninS ne_pb_tn_29 nin0))
 replace Fc_pb := Fc_pb.keep Kc32 (ninS ne_pb_b9 (ninS ne_pb_tn_29 nin0))
 replace V_ptb := V_ptb.keep Kc32 (ninS ne_ptb_b9 (ninS ne_ptb_tn_29 nin0))
 replace OL := OL.keep Kc32 (allS (Nat.le_trans Z0 sz_b9) (allS (Nat.le_trans Z0 sz_tn_29) all0))
 replace E_it_2 := E_it_2.keep Kc32
 replace F_list_it_2 := F_list_it_2.keep Kc32 (ninS ne_it_2_b9 (ninS ne_it_2_tn_29 nin0))
 replace Fz_it_2 := Fz_it_2.keep Kc32 (ninS ne_it_2_b9 (ninS ne_it_2_tn_29 nin0))
 replace F_cursor_it_2 := F_cursor_it_2.keep Kc32 (ninS ne_it_2_b9 (ninS ne_it_2_tn_29 nin0))
 have K32 := Kt2 K29 Kc32 (Or.inr sz_b9) (Or.inr sz_tn_29)
 have E_b9 := po32_1
 have Fv_b9 := po32_2
 have Fc_b9 := po32_3
 have Fn_b9 := po32_4
 have Fm_b9 := po32_5
 have V_tn_32 := po32_6
 have hbb2_32 := po32_8
 have P34 : PP p e below T32 (mkF m 33 #[rv ls, rv it_2, rv b9, rv pa] [(.ref it_2)]) s0 := fun q_ k_ => P32 q_ (by
  refine bt X32 hx hby b291_ rfl ?_
  exact bt X32 hx hby b292_ rfl k_)
 obtain ⟨cq35, kq35, q35a, q35b, q35c⟩ := isOf hZ rfl E_it_2
 obtain ⟨_, _, ⟨T35, L35, k35, n35⟩, -, X35, ⟨Lc35, hQ35, l35, y35, z35⟩, st35⟩ := X32.interfaceBack hx (xi := mn_92) (y := mn_84) hown (mw hZ hw 412 rfl) (mw hZ hw 413 rfl) (mw hZ hw 414 rfl) (mw hZ hw 415 rfl) (mw hZ hw 416 rfl) (mw hZ hw 417 rfl) (mw hZ hw 418 rfl) (mw hZ hw 221 rfl) (by decide) (backOfWith (W := 0) (rm_next21 hw it_2 ls em pa pb (zT Z0 K32.1) E_it_2 F_list_it_2 Fz_it_2 F_cursor_it_2 E_ls F_e0_ls F_e1_ls (Nat.le_trans Z0 sz_it_2) ne_ls_it_2 Se OL ne_pb_em) hZ (ww hw 419 rfl) (ww hw 191 rfl) (by decide) (by decide)) q35a q35b q35c (g := P34.g) rfl (by rw [hml]; rfl) (Steps.refl _) (argsL := []) (rest := []) (lenOf pd_52 rfl) rfl (by show 2 * 0 + _ ≤ _; exact Nat.le_of_eq rfl) (hb hby d84_33) (fun _ _ => ⟨rfl, rfl, (by decide : 4 + 0 ≤ _), (by decide : 56 + 0 ≤ _)⟩)
 dsimp only [Pt.U, Pt.locs, Pt.cells, Pt.slots] at X35 l35 y35 z35 st35 hQ35
 subst l35 y35 z35
 obtain ⟨rfl, N35q, Kc35, po35_0, po35_1, po35_2, po35_3⟩ := hQ35
 have N35 := Fr.app N33 N35q
 obtain ⟨Lf36, X35, N36⟩ := fixL X35 N35 4 56 rfl rfl
 have P37 := P34.tr st35
 replace E_pb := E_pb.keep Kc35
 replace Fv_pb := Fv_pb.keep Kc35 (ninS ne_pb_it_2 nin0)
 replace Fc_pb := Fc_pb.keep Kc35 (ninS ne_pb_it_2 nin0)
 replace V_ptb := V_ptb.keep Kc35 (ninS ne_ptb_it_2 nin0)
 replace OL := OL.keep Kc35 (allS (Nat.le_trans Z0 sz_it_2) all0)
 replace E_b9 := E_b9.keep Kc35
 replace Fv_b9 := Fv_b9.keep Kc35 (ninS (Ne.symm ne_it_2_b9) nin0)
 replace Fc_b9 := Fc_b9.keep Kc35 (ninS (Ne.symm ne_it_2_b9) nin0)
 replace Fn_b9 := Fn_b9.keep Kc35 (ninS (Ne.symm ne_it_2_b9) nin0)
 replace Fm_b9 := Fm_b9.keep Kc35 (ninS (Ne.symm ne_it_2_b9) nin0)
 replace V_tn_32 := V_tn_32.keep Kc35 (ninS (Ne.symm ne_it_2_tn_32) nin0)
 have K35 := Kt1 K32 Kc35 (Or.inr sz_it_2)
 have E_it_2 := po35_0
 have F_list_it_2 := po35_1
 have Fz_it_2 := po35_2
 have F_cursor_it_2 := po35_3
 have P38 : PP p e below T35 (mkF m 51 #[rv ls, rv it_2, rv b9, rv pb] [(.ref pb), (.ref b9)]) s0 := fun q_ k_ => P37 q_ (by
  refine bt X35 hx hby b285_ rfl ?_
  refine Jvm.RoadKit.acmp X35 hx rfl rfl rfl (pc0 := 42) (pc' := 50) (same := false) rfl (hb hby d84_42) rfl (decide_eq_false fun q => ne_pb_ls (Value.ref.inj q)) (by decide) (by decide) ?_
  exact bt X35 hx hby b286_ rfl k_)
 obtain ⟨_, T39, L39, X39, hQ39, P39⟩ := cVi P38 X35 hx hZ hown hw rfl E_b9 hml 429 172 171 173 103 (rm_sbAppO hw b9 tn_32 kn_32 cd2_32 zb2_32 vs2_32 ((((([] : List Int32) ++ [(91 : Int32)]) ++ ([qa] : List Int32)) ++ [(44 : Int32)]) ++ [(32 : Int32)]) pb ptb pkb pcb pzb pvb ([qb] : List Int32) G1 Gf (zT Z0 K35.1) E_b9 Fv_b9 Fc_b9 Fn_b9 Fm_b9 V_tn_32 E_pb Fv_pb Fc_pb V_ptb (Nat.le_trans Z0 sz_tn_32) (Nat.le_trans Z0 sz_b9) ne_pb_tn_32 ne_ptb_tn_32 po32_7 ne_pb_b9 ne_ptb_b9 Sc hz Sa Sh Sl Sf rGf OL hbb2_32 hkb (by simp only [List.length_append, List.length_cons, List.length_nil] <;> omega)) rfl rfl rfl rfl rfl rfl rfl [(.ref pb)] [] 0 (lenOf pd_53 rfl) rfl (Nat.le_of_eq rfl) (hb hby d84_51) rfl (by decide)
 obtain ⟨tn_39, kn_39, cd2_39, zb2_39, vs2_39, rfl, N39q, Kc39, po39_0, po39_1, po39_2, po39_3, po39_4, po39_5, po39_6, po39_7, po39_8⟩ := hQ39
 have N39 := Fr.app N36 N39q
 obtain ⟨Lf40, X39, N40⟩ := fixL X39 N39 5 88 rfl rfl
 have sz_tn_39 : h0.size ≤ tn_39 := own_tof2 po39_0 sz_tn_32 K35.1
 have tf_tn_39 : tn_39 = tn_32 ∨ h0.size ≤ tn_39 := own_tof3 po39_0 K35.1
 replace OL := OL.keep Kc39 (allS (Nat.le_trans Z0 sz_b9) (allS (Nat.le_trans Z0 sz_tn_32) all0))
 replace E_it_2 := E_it_2.keep Kc39
 replace F_list_it_2 := F_list_it_2.keep Kc39 (ninS ne_it_2_b9 (ninS ne_it_2_tn_32 nin0))
 replace Fz_it_2 := Fz_it_2.keep Kc39 (ninS ne_it_2_b9 (ninS ne_it_2_tn_32 nin0))
 replace F_cursor_it_2 := F_cursor_it_2.keep Kc39 (ninS ne_it_2_b9 (ninS ne_it_2_tn_32 nin0))
 have K39 := Kt2 K35 Kc39 (Or.inr sz_b9) (Or.inr sz_tn_32)
 have E_b9 := po39_1
 have Fv_b9 := po39_2
 have Fc_b9 := po39_3
 have Fn_b9 := po39_4
 have Fm_b9 := po39_5
 have V_tn_39 := po39_6
 have hbb2_39 := po39_8
 have P41 := P39.bt X39 hx hby b287_ rfl
 obtain ⟨cq42, kq42, q42a, q42b, q42c⟩ := isOf hZ rfl E_it_2
 obtain ⟨_, _, ⟨T42, L42, k42, n42⟩, -, X42, ⟨Lc42, hQ42, l42, y42, z42⟩, st42⟩ := X39.interfaceBack hx (xi := mn_90) (y := mn_80) hown (mw hZ hw 214 rfl) (mw hZ hw 215 rfl) (mw hZ hw 216 rfl) (mw hZ hw 217 rfl) (mw hZ hw 218 rfl) (mw hZ hw 219 rfl) (mw hZ hw 220 rfl) (mw hZ hw 221 rfl) (by decide) (backOf (W := 0) (rm_hasN22 hw it_2 ls (zT Z0 K39.1) E_it_2 F_list_it_2 Fz_it_2 F_cursor_it_2) hZ (ww hw 222 rfl) (ww hw 191 rfl) (by decide) (by decide)) q42a q42b q42c (g := P41.g) rfl (by rw [hml]; rfl) (Steps.refl _) (argsL := []) (rest := []) (lenOf pd_20 rfl) rfl (by show 2 * 0 + _ ≤ _; exact Nat.le_of_eq rfl) (hb hby d84_56) (fun _ _ => ⟨rfl, rfl, (by decide : 5 + 0 ≤ _), (by decide : 88 + 0 ≤ _)⟩)
 dsimp only [Pt.U, Pt.locs, Pt.cells, Pt.slots] at X42 l42 y42 z42 st42 hQ42
 subst l42 y42 z42
 obtain ⟨rfl, N42q, e42⟩ := hQ42
 have N42 := Fr.app N40 N42q
 have P43 := P41.tr st42
 have P44 : PP p e below T42 (mkF m 67 #[rv ls, rv it_2, rv b9, rv pb] [(.int 93), (.ref b9)]) s0 := fun q_ k_ => P43 q_ (by
  refine XS.ifNo X42.here hx rfl (hb hby d84_61) rfl ((if0 _ _).trans (teq ((by decide) : (0 : Int32) = (0 : Int32))).2) ?_
  exact bt X42 hx hby b288_ rfl k_)
 obtain ⟨_, T45, L45, X45, hQ45, P45⟩ := cVi P44 X42 hx hZ hown hw e42 E_b9 hml 401 404 403 405 103 (rm_sbAppC hw b9 tn_39 kn_39 cd2_39 zb2_39 vs2_39 (((((([] : List Int32) ++ [(91 : Int32)]) ++ ([qa] : List Int32)) ++ [(44 : Int32)]) ++ [(32 : Int32)]) ++ ([qb] : List Int32)) (93 : Int32) G1 Gf (zT Z0 K39.1) E_b9 Fv_b9 Fc_b9 Fn_b9 Fm_b9 V_tn_39 (Nat.le_trans Z0 sz_tn_39) (Nat.le_trans Z0 sz_b9) po39_7 Sc hz Sa Sh Sl Sf rGf OL hbb2_39 (by simp only [List.length_append, List.length_cons, List.length_nil] <;> omega) (own_isC 93 (by decide)) (by decide)) rfl rfl rfl rfl rfl rfl rfl [(.int 93)] [] 0 (lenOf pd_51 rfl) rfl (Nat.le_of_eq rfl) (hb hby d84_67) rfl (by decide)
 obtain ⟨tn_45, kn_45, cd2_45, zb2_45, vs2_45, rfl, N45q, Kc45, po45_0, po45_1, po45_2, po45_3, po45_4, po45_5, po45_6, po45_7, po45_8⟩ := hQ45
 have N45 := Fr.app N42 N45q
 obtain ⟨Lf46, X45, N46⟩ := fixL X45 N45 5 88 rfl rfl
 have tf_tn_45 : tn_45 = tn_39 ∨ h0.size ≤ tn_45 := own_tof3 po45_0 K39.1
 replace OL := OL.keep Kc45 (allS (Nat.le_trans Z0 sz_b9) (allS (Nat.le_trans Z0 sz_tn_39) all0))
 have K45 := Kt2 K39 Kc45 (Or.inr sz_b9) (Or.inr sz_tn_39)
 have E_b9 := po45_1
 have Fv_b9 := po45_2
 have Fc_b9 := po45_3
 have Fn_b9 := po45_4
 have Fm_b9 := po45_5
 have V_tn_45 := po45_6
 have hbb2_45 := po45_8
 obtain ⟨_, T47, L47, X47, hQ47, P47⟩ := cVi P45 X45 hx hZ hown hw rfl E_b9 hml 433 228 227 229 103 (rm_sbStr hw b9 tn_45 kn_45 cd2_45 zb2_45 vs2_45 ((((((([] : List Int32) ++ [(91 : Int32)]) ++ ([qa] : List Int32)) ++ [(44 : Int32)]) ++ [(32 : Int32)]) ++ ([qb] : List Int32)) ++ [(93 : Int32)]) G1 Gf (zT Z0 K45.1) E_b9 Fv_b9 Fc_b9 Fn_b9 Fm_b9 V_tn_45 Sc hz Sa Sh Sl Sf rGf OL hbb2_45 (by simp only [List.length_append, List.length_cons, List.length_nil] <;> omega)) rfl rfl rfl rfl rfl rfl rfl [] [] 0 (lenOf pd_47 rfl) rfl (Nat.le_of_eq rfl) (hb hby d84_70) rfl (by decide)
 obtain ⟨xs_47, ts_47, ks_47, ce_47, ze_47, wv_47, rfl, N47q, Kc47, po47_0, po47_1, po47_2, po47_3, po47_4, po47_5, po47_6⟩ := hQ47
 have N47 := Fr.app N46 N47q
 obtain ⟨Lf48, X47, N48⟩ := fixL X47 N47 7 124 rfl rfl
 have sz_xs_47 : h0.size ≤ xs_47 := Nat.le_trans K45.1 po47_0
 have sz_ts_47 : h0.size ≤ ts_47 := Nat.le_trans K45.1 po47_1
 have K47 := K45.trans Kc47 all0
 have E_xs_47 := po47_2
 have Fv_xs_47 := po47_3
 have Fc_xs_47 := po47_4
 have V_ts_47 := po47_5
 have hkb_47 := po47_6
 exact endA 73 #[rv ls, rv it_2, rv b9, rv pb] (rest := []) X47 hx hrt rfl hlk P47 (hb hby d84_73) rfl (by decide) (by decide) (show Q_acStr2 Z ls em pa pta pka pca pza pva qa pb ptb pkb pcb pzb pvb qb G1 Gf h0 n0 _ _ _ from ⟨xs_47, ts_47, ks_47, ce_47, ze_47, wv_47, rfl, N48, K47, sz_xs_47, sz_ts_47, E_xs_47, Fv_xs_47, Fc_xs_47, V_ts_47, hkb_47⟩)
theorem rm_valL2 (hw : HW a0 Z) (ls em pa pta : Addr) (pka : ClassId) (pca pza : Int32) (pva : List Value) (qa : Int32) (pb ptb : Addr) (pkb : ClassId) (pcb pzb : Int32) (pvb : List Value) (qb G1 : Int32) (Gf : Value) (Z0 : n0 ≤ h0.size) (E_ls : Exa Z h0 ls cL2) (F_e0_ls : Fld Z h0 ls cL2 "e0" dO (.ref pa)) (F_e1_ls : Fld Z h0 ls cL2 "e1" dO (.ref pb)) (Se : SU6 Z em) (ne_pb_em : pb ≠ em) (E_pa : Exa Z h0 pa cS) (Fv_pa : Fld Z h0 pa cS "value" "[B" (.ref pta)) (Fc_pa : Fld Z h0 pa cS "coder" "B" (.int pca)) (V_pta : Arv Z h0 pta pka .byte pza pva i0) (hka : KB pca pza pva [qa]) (E_pb : Exa Z h0 pb cS) (Fv_pb : Fld Z h0 pb cS "value" "[B" (.ref ptb)) (Fc_pb : Fld Z h0 pb cS "coder" "B" (.int pcb)) (V_ptb : Arv Z h0 ptb pkb .byte pzb pvb i0) (hkb : KB pcb pzb pvb [qb]) (Sc : SU4 Z G1) (hz : ¬ G1 = 0) (Sa : SU1 Z) (Sh : SU2 Z) (Sl : SU3 Z) (Sf : SU5 Z Gf) (rGf : Gf.isRef = true) (OL : Old Z n0 h0) (ne_pa_ls : pa ≠ ls) (ne_pb_ls : pb ≠ ls) :
  MetP l Z mn_87 k82_ 1 (some (.object cS)) (rr 12 7 124 171) ws #[(.ref ls)] h0 (Q_acStr2 Z ls em pa pta pka pca pza pva qa pb ptb pkb pcb pzb pvb qb G1 Gf h0 n0) := by
 refine begH n0 cS rfl (plainFor_of_name pn_2) fun p e s m below meth c s₁ s0 hrt hlk hZ hx hby hml hown hnm X0 e0 N0 P0 => ?_
 replace P0 : PP p e below s₁ (mkF m 0 #[rv ls] []) s0 := castPP (ef_4 m ls) P0
 have P1 : PP p e below s₁ (mkF m 11 #[rv ls] [(.ref ls)]) s0 := fun q_ k_ => P0 q_ (by
  refine bt X0 hx hby b277_ rfl ?_
  refine XS.ifnonnullYes X0.here hx rfl (pc0 := 1) (pc' := 10) rfl (hb hby d82_1) rfl (by decide) (by decide) ?_
  exact bt X0 hx hby b278_ rfl k_)
 obtain ⟨cq2, kq2, q2a, q2b, q2c⟩ := isOf hZ e0 E_ls
 obtain ⟨_, _, ⟨T2, L2, k2, n2⟩, -, X2, ⟨Lc2, hQ2, l2, y2, z2⟩, st2⟩ := X0.virtualBack hx (y := mn_86) (z := mn_91) hown (mw hZ hw 177 rfl) (mw hZ hw 178 rfl) (own_nf (args := #[]) (mw hZ hw 353 rfl) rfl) (mw hZ hw 393 rfl) (mw hZ hw 181 rfl) (by decide) (backOf (W := 0) (rm_acStr2 hw ls em pa pta pka pca pza pva qa pb ptb pkb pcb pzb pvb qb G1 Gf Z0 E_ls F_e0_ls F_e1_ls Se ne_pb_em E_pa Fv_pa Fc_pa V_pta hka E_pb Fv_pb Fc_pb V_ptb hkb Sc hz Sa Sh Sl Sf rGf OL ne_pa_ls ne_pb_ls) hZ (ww hw 182 rfl) (ww hw 46 rfl) (by decide) (by decide)) q2a q2c (g := P1.g) rfl (by rw [hml]; rfl) (Steps.refl _) (argsL := []) (rest := []) (lenOf pd_47 rfl) rfl (by show 2 * 0 + _ ≤ _; exact Nat.le_of_eq rfl) (hb hby d82_11) (fun _ _ => ⟨rfl, e0, (by decide : 0 + 7 ≤ _), (by decide : 0 + 124 ≤ _)⟩)
 dsimp only [Pt.U, Pt.locs, Pt.cells, Pt.slots] at X2 l2 y2 z2 st2 hQ2
 subst l2 y2 z2
 obtain ⟨xs_2, ts_2, ks_2, ce_2, ze_2, wv_2, rfl, N2q, Kc2, po2_0, po2_1, po2_2, po2_3, po2_4, po2_5, po2_6⟩ := hQ2
 have N2 := Fr.app N0 N2q
 obtain ⟨Lf3, X2, N3⟩ := fixL X2 N2 7 124 rfl rfl
 have P4 := P1.tr st2
 have sz_xs_2 : h0.size ≤ xs_2 := Nat.le_trans (Nat.le_refl h0.size) po2_0
 have sz_ts_2 : h0.size ≤ ts_2 := Nat.le_trans (Nat.le_refl h0.size) po2_1
 have K2 := (Keep.refl h0 []).trans Kc2 all0
 have E_xs_2 := po2_2
 have Fv_xs_2 := po2_3
 have Fc_xs_2 := po2_4
 have V_ts_2 := po2_5
 have hkb_2 := po2_6
 exact endA 14 #[rv ls] (rest := []) X2 hx hrt rfl hlk P4 (hb hby d82_14) rfl (by decide) (by decide) (show Q_acStr2 Z ls em pa pta pka pca pza pva qa pb ptb pkb pcb pzb pvb qb G1 Gf h0 n0 _ _ _ from ⟨xs_2, ts_2, ks_2, ce_2, ze_2, wv_2, rfl, N3, K2, sz_xs_2, sz_ts_2, E_xs_2, Fv_xs_2, Fc_xs_2, V_ts_2, hkb_2⟩)
def Q_sbAppL2 (Z : State) (sb t : Addr) (kb : ClassId) (cd zb : Int32) (vs : List Value) (cs : List Int32) (G1 : Int32) (Gf : Value) (ls em pa pta : Addr) (pka : ClassId) (pca pza : Int32) (pva : List Value) (qa : Int32) (pb ptb : Addr) (pkb : ClassId) (pcb pzb : Int32) (pvb : List Value) (qb : Int32) : QT := fun h0 n0 v h L => ∃ (tn : Addr) (kn : ClassId) (cd2 : Int32) (zb2 : Int32) (vs2 : List Value), v = some (.ref sb) ∧ Fr n0 L ∧ Keep h0 h [sb, t] ∧ (tn = t ∨ h0.size ≤ tn) ∧ (Exa Z h sb cB) ∧ (Fld Z h sb cA "value" "[B" (.ref tn)) ∧ (Fld Z h sb cA "coder" "B" (.int cd2)) ∧ (Fld Z h sb cA "count" "I" (.int (Int32.ofNat (cs ++ [(91 : Int32), qa, 44, 32, qb, 93]).length))) ∧ (Fld Z h sb cA "maybeLatin1" "Z" i0) ∧ (Arv Z h tn kn .byte zb2 vs2 i0) ∧ (sb ≠ tn) ∧ (BB cd2 zb2 vs2 (cs ++ [(91 : Int32), qa, 44, 32, qb, 93]))
theorem rm_sbAppL2 (hw : HW a0 Z) (sb t : Addr) (kb : ClassId) (cd zb : Int32) (vs : List Value) (cs : List Int32) (G1 : Int32) (Gf : Value) (ls em pa pta : Addr) (pka : ClassId) (pca pza : Int32) (pva : List Value) (qa : Int32) (pb ptb : Addr) (pkb : ClassId) (pcb pzb : Int32) (pvb : List Value) (qb : Int32) (Z0 : n0 ≤ h0.size) (E_sb : Exa Z h0 sb cB) (Fv_sb : Fld Z h0 sb cA "value" "[B" (.ref t)) (Fc_sb : Fld Z h0 sb cA "coder" "B" (.int cd)) (Fn_sb : Fld Z h0 sb cA "count" "I" (.int (Int32.ofNat cs.length))) (Fm_sb : Fld Z h0 sb cA "maybeLatin1" "Z" i0) (V_t : Arv Z h0 t kb .byte zb vs i0) (g_t : n0 ≤ t) (g_sb : n0 ≤ sb) (ne_sb_t : sb ≠ t) (Sc : SU4 Z G1) (hz : ¬ G1 = 0) (Sa : SU1 Z) (Sh : SU2 Z) (Sl : SU3 Z) (Sf : SU5 Z Gf) (rGf : Gf.isRef = true) (OL : Old Z n0 h0) (hbb : BB cd zb vs cs) (hl3 : cs.length ≤ 3) (E_ls : Exa Z h0 ls cL2) (F_e0_ls : Fld Z h0 ls cL2 "e0" dO (.ref pa)) (F_e1_ls : Fld Z h0 ls cL2 "e1" dO (.ref pb)) (Se : SU6 Z em) (ne_pb_em : pb ≠ em) (E_pa : Exa Z h0 pa cS) (Fv_pa : Fld Z h0 pa cS "value" "[B" (.ref pta)) (Fc_pa : Fld Z h0 pa cS "coder" "B" (.int pca)) (V_pta : Arv Z h0 pta pka .byte pza pva i0) (hka : KB pca pza pva [qa]) (E_pb : Exa Z h0 pb cS) (Fv_pb : Fld Z h0 pb cS "value" "[B" (.ref ptb)) (Fc_pb : Fld Z h0 pb cS "coder" "B" (.int pcb)) (V_ptb : Arv Z h0 ptb pkb .byte pzb pvb i0) (hkb : KB pcb pzb pvb [qb]) (ne_pa_ls : pa ≠ ls) (ne_pb_ls : pb ≠ ls) :
  MetP l Z mn_88 k83_ 2 (some (.object cB)) (rr 13 8 156 184) ws #[(.ref sb), (.ref ls)] h0 (Q_sbAppL2 Z sb t kb cd zb vs cs G1 Gf ls em pa pta pka pca pza pva qa pb ptb pkb pcb pzb pvb qb h0 n0) := by
 refine begH n0 cB rfl (plainFor_of_name pn_6) fun p e s m below meth c s₁ s0 hrt hlk hZ hx hby hml hown hnm X0 e0 N0 P0 => ?_
 replace P0 : PP p e below s₁ (mkF m 0 #[rv sb, rv ls] []) s0 := castPP (ef_21 m sb ls) P0
 have P1 := P0.bt X0 hx hby b279_ rfl
 obtain ⟨_, T2, L2, X2, hQ2, P2⟩ := cSt P1 X0 hx hZ hown hw e0 hml 174 175 2 176 (rm_valL2 hw ls em pa pta pka pca pza pva qa pb ptb pkb pcb pzb pvb qb G1 Gf Z0 E_ls F_e0_ls F_e1_ls Se ne_pb_em E_pa Fv_pa Fc_pa V_pta hka E_pb Fv_pb Fc_pb V_ptb hkb Sc hz Sa Sh Sl Sf rGf OL ne_pa_ls ne_pb_ls) rfl rfl rfl rfl rfl rfl [(.ref ls)] [(.ref sb)] 1 (lenOf pd_48 rfl) rfl (Nat.le_of_eq rfl) (hb hby d83_2) rfl (by decide)
 obtain ⟨xs_2, ts_2, ks_2, ce_2, ze_2, wv_2, rfl, N2q, Kc2, po2_0, po2_1, po2_2, po2_3, po2_4, po2_5, po2_6⟩ := hQ2
 have N2 := Fr.app N0 N2q
 obtain ⟨Lf3, X2, N3⟩ := fixL X2 N2 7 124 rfl rfl
 have ne_sb_xs_2 := neL E_sb.lt po2_0
 have ne_t_xs_2 := neL V_t.lt po2_0
 have ne_sb_ts_2 := neL E_sb.lt po2_1
 have ne_t_ts_2 := neL V_t.lt po2_1
 replace E_sb := E_sb.keep Kc2
 replace Fv_sb := Fv_sb.keep Kc2 nin0
 replace Fc_sb := Fc_sb.keep Kc2 nin0
 replace Fn_sb := Fn_sb.keep Kc2 nin0
 replace Fm_sb := Fm_sb.keep Kc2 nin0
 replace V_t := V_t.keep Kc2 nin0
 replace OL := OL.keep Kc2 all0
 have K2 := (Keep.refl h0 [sb, t]).trans Kc2 all0
 have E_xs_2 := po2_2
 have Fv_xs_2 := po2_3
 have Fc_xs_2 := po2_4
 have V_ts_2 := po2_5
 have hkb_2 := po2_6
 obtain ⟨_, T4, L4, X4, hQ4, P4⟩ := cVi P2 X2 hx hZ hown hw rfl E_sb hml 224 122 121 123 103 (rm_sbApp hw sb t kb cd zb vs cs xs_2 ts_2 ks_2 ce_2 ze_2 wv_2 [(91 : Int32), qa, 44, 32, qb, 93] G1 Gf (zT Z0 K2.1) E_sb Fv_sb Fc_sb Fn_sb Fm_sb V_t E_xs_2 Fv_xs_2 Fc_xs_2 V_ts_2 g_t g_sb (Ne.symm ne_t_xs_2) (Ne.symm ne_t_ts_2) ne_sb_t (Ne.symm ne_sb_xs_2) (Ne.symm ne_sb_ts_2) Sc hz Sa Sh Sl Sf rGf OL hbb hkb_2 (by simp only [List.length_append, List.length_cons, List.length_nil] <;> omega)) rfl rfl rfl rfl rfl rfl rfl [(.ref xs_2)] [] 0 (lenOf pd_49 rfl) rfl (Nat.le_of_eq rfl) (hb hby d83_5) rfl (by decide)
 obtain ⟨tn_4, kn_4, cd2_4, zb2_4, vs2_4, rfl, N4q, Kc4, po4_0, po4_1, po4_2, po4_3, po4_4, po4_5, po4_6, po4_7, po4_8⟩ := hQ4
 have N4 := Fr.app N3 N4q
 obtain ⟨Lf5, X4, N5⟩ := fixL X4 N4 8 156 rfl rfl
 have g_tn_4 : n0 ≤ tn_4 := own_tof2 po4_0 g_t (Nat.le_trans Z0 K2.1)
 have tf_tn_4 : tn_4 = t ∨ h0.size ≤ tn_4 := own_tof3 po4_0 K2.1
 have K4 := Kt2 K2 Kc4 (Or.inl (mi 0)) (Or.inl (mi 1))
 have E_sb := po4_1
 have Fv_sb := po4_2
 have Fc_sb := po4_3
 have Fn_sb := po4_4
 have Fm_sb := po4_5
 have V_tn_4 := po4_6
 have hbb2_4 := po4_8
 exact endA 8 #[rv sb, rv ls] (rest := []) X4 hx hrt rfl hlk P4 (hb hby d83_8) rfl (by decide) (by decide) (show Q_sbAppL2 Z sb t kb cd zb vs cs G1 Gf ls em pa pta pka pca pza pva qa pb ptb pkb pcb pzb pvb qb h0 n0 _ _ _ from ⟨tn_4, kn_4, cd2_4, zb2_4, vs2_4, rfl, N5, K4, tf_tn_4, E_sb, Fv_sb, Fc_sb, Fn_sb, Fm_sb, V_tn_4, po4_7, hbb2_4⟩)
theorem ef_47 (m : MethodId) (x0 : Addr) (x1 : Addr) (x2 : Addr) (x3 : Int32) : entryFrame m #[(.ref x0), (.ref x1), (.ref x2), (.int x3)] 4 = mkF m 0 #[.val (.ref x0), .val (.ref x1), .val (.ref x2), .val (.int x3)] [] := by first | (simp [entryFrame, mkF, argsToLocals, Value.category]; done) | rfl
theorem pn_18 : plainName "com/example/kvasir/kvasir/sql/SqlQuery" = true := by first | (simp [plainName, overriddenIn]; done) | decide +kernel
abbrev k85_ := prog_6_method_1_code
theorem b293_ : dl k85_ 0 [(.aload_n 0, 1)] = true := by decide +kernel
theorem d85_1 : decode k85_ 1 = .ok (.invokespecial 1, 3) := by decide +kernel
theorem b294_ : dl k85_ 4 [(.aload_n 0, 1), (.aload_n 1, 1)] = true := by decide +kernel
theorem d85_6 : decode k85_ 6 = .ok (.putfield 7, 3) := by decide +kernel
theorem b295_ : dl k85_ 9 [(.aload_n 0, 1), (.aload_n 2, 1)] = true := by decide +kernel
theorem d85_11 : decode k85_ 11 = .ok (.invokestatic 13, 3) := by decide +kernel
theorem d85_14 : decode k85_ 14 = .ok (.putfield 19, 3) := by decide +kernel
theorem b296_ : dl k85_ 17 [(.aload_n 0, 1), (.iload_n 3, 1)] = true := by decide +kernel
theorem d85_19 : decode k85_ 19 = .ok (.putfield 23, 3) := by decide +kernel
theorem d85_22 : decode k85_ 22 = .ok (.return_, 1) := by decide +kernel
def Q_sqInit0 (Z : State) (sq xt al : Addr) (m1 ar : Int32) (u1 u2 u3 : Value) (ed el : Addr) : QT := fun h0 n0 v h L => v = none ∧ Fr n0 L ∧ Keep h0 h [sq] ∧ (Exa Z h sq cQ) ∧ (Fld Z h sq cQ "text" dS (.ref xt)) ∧ (Fld Z h sq cQ "parameters" dL (.ref el))
abbrev mn_93 : MethodName := ⟨"com/example/kvasir/kvasir/sql/SqlQuery", "<init>", "(Ljava/lang/String;Ljava/util/List;I)V"⟩
theorem rm_sqInit0 (hw : HW a0 Z) (sq xt al : Addr) (m1 ar : Int32) (u1 u2 u3 : Value) (ed el : Addr) (Z0 : n0 ≤ h0.size) (E_sq : Exa Z h0 sq cQ) (F_text_sq : Fld Z h0 sq cQ "text" dS u1) (Fp_sq : Fld Z h0 sq cQ "parameters" dL u2) (F_arity_sq : Fld Z h0 sq cQ "arity" "I" u3) (g_sq : n0 ≤ sq) (ne_al_sq : al ≠ sq) (E_al : Exa Z h0 al cAL) (Fe_al : Fld Z h0 al cAL "elementData" dOA (.ref ed)) (Fz_al : Fld Z h0 al cAL "size" "I" i0) (Fd_al : Fld Z h0 al cAb "modCount" "I" (.int m1)) (Sn : Sta Z Z.heap cIC "EMPTY_LIST" "Ljava/util/ImmutableCollections$ListN;" (.ref el)) (OL : Old Z n0 h0) :
  MetP l Z mn_93 k85_ 4 none (rr 3 0 0 38) ws #[(.ref sq), (.ref xt), (.ref al), (.int ar)] h0 (Q_sqInit0 Z sq xt al m1 ar u1 u2 u3 ed el h0 n0) := by
 refine begH n0 cQ rfl (plainFor_of_name pn_18) fun p e s m below meth c s₁ s0 hrt hlk hZ hx hby hml hown hnm X0 e0 N0 P0 => ?_
 replace P0 : PP p e below s₁ (mkF m 0 #[rv sq, rv xt, rv al, iv ar] []) s0 := castPP (ef_47 m sq xt al ar) P0
 have P1 := P0.bt X0 hx hby b293_ rfl
 obtain ⟨T2, X2, e2, st2⟩ := initO X0 hx hZ hown (ww hw 60 rfl) (ww hw 12 rfl) (ww hw 13 rfl) e0 (g := P1.g) rfl (by rw [hml]; rfl) rfl (hb hby d85_1) (by decide) (W := 0) (by show 2 * 0 + _ ≤ _; exact Nat.le_of_eq rfl) (by decide)
 have P3 := P1.st st2
 have P4 : PP p e below T2 (mkF m 6 #[rv sq, rv xt, rv al, iv ar] [(.ref xt), (.ref sq)]) s0 := fun q_ k_ => P3 q_ (by
  exact bt X2 hx hby b294_ rfl k_)
 obtain ⟨T5, h5, X5, e5, W5, st5⟩ := putF X2 hx hZ hown (host := "") (Or.inl (ww hw 61 rfl)) Via.refl e2 F_text_sq E_sq (Or.inr ⟨(ww hw 62 rfl), rfl, hnm⟩) (ww hw 55 rfl) (ty := (.object cS)) (by decide) rfl rfl (g := P4.g) rfl rfl (hb hby d85_6)
 have P6 := P4.st st5
 have N5 := Fr.snoc X5 N0 g_sq
 have K5 := (Keep.refl h0 [sq]).wr W5 (Or.inl (mi 0))
 replace E_sq := E_sq.wr W5
 replace F_text_sq : Fld Z h5 sq cQ "text" dS (.ref xt) := F_text_sq.same W5
 replace Fp_sq := Fp_sq.other W5 (Or.inr (slot_ne (Or.inr (ww hw 93 rfl)) (Or.inr (ww hw 62 rfl)) (by decide) (t := (.object "java/util/List")) (t' := (.object cS)) (by decide) (by decide)))
 replace F_arity_sq := F_arity_sq.other W5 (Or.inr (slot_ne (Or.inr (ww hw 95 rfl)) (Or.inr (ww hw 62 rfl)) (by decide) (t := .int) (t' := (.object cS)) (by decide) (by decide)))
 replace E_al := E_al.wr W5
 replace Fe_al := Fe_al.other W5 (Or.inl ne_al_sq)
 replace Fz_al := Fz_al.other W5 (Or.inl ne_al_sq)
 replace Fd_al := Fd_al.other W5 (Or.inl ne_al_sq)
 replace OL := OL.wr W5 g_sq
 have P7 := P6.bt X5 hx hby b295_ rfl
 obtain ⟨_, T8, L8, X8, hQ8, P8⟩ := cSt P7 X5 hx hZ hown hw e5 hml 63 64 65 66 (rm_cpOf0 hw al ed m1 el (zT Z0 K5.1) E_al Fe_al Fz_al Fd_al Sn OL) rfl rfl rfl rfl rfl rfl [(.ref al)] [(.ref sq)] 1 (lenOf pd_38 rfl) rfl (Nat.le_of_eq rfl) (hb hby d85_11) rfl (by decide)
 obtain ⟨rfl, N8q, e8⟩ := hQ8
 have N8 := Fr.app N5 N8q
 obtain ⟨T9, h9, X9, e9, W9, st9⟩ := putF X8 hx hZ hown (host := "") (Or.inl (ww hw 92 rfl)) Via.refl e8 Fp_sq E_sq (Or.inr ⟨(ww hw 93 rfl), rfl, hnm⟩) (ww hw 55 rfl) (ty := (.object "java/util/List")) (by decide) rfl rfl (g := P8.g) rfl rfl (hb hby d85_14)
 have P10 := P8.st st9
 have N9 := Fr.snoc X9 N8 g_sq
 have K9 := K5.wr W9 (Or.inl (mi 0))
 replace E_sq := E_sq.wr W9
 replace F_text_sq := F_text_sq.other W9 (Or.inr (slot_ne (Or.inr (ww hw 62 rfl)) (Or.inr (ww hw 93 rfl)) (by decide) (t := (.object cS)) (t' := (.object "java/util/List")) (by decide) (by decide)))
 replace Fp_sq : Fld Z h9 sq cQ "parameters" dL (.ref el) := Fp_sq.same W9
 replace F_arity_sq := F_arity_sq.other W9 (Or.inr (slot_ne (Or.inr (ww hw 95 rfl)) (Or.inr (ww hw 93 rfl)) (by decide) (t := .int) (t' := (.object "java/util/List")) (by decide) (by decide)))
 have P11 : PP p e below T9 (mkF m 19 #[rv sq, rv xt, rv al, iv ar] [(.int ar), (.ref sq)]) s0 := fun q_ k_ => P10 q_ (by
  exact bt X9 hx hby b296_ rfl k_)
 obtain ⟨T12, h12, X12, e12, W12, st12⟩ := putF X9 hx hZ hown (host := "") (Or.inl (ww hw 94 rfl)) Via.refl e9 F_arity_sq E_sq (Or.inr ⟨(ww hw 95 rfl), rfl, hnm⟩) (ww hw 55 rfl) (ty := .int) (by decide) rfl rfl (g := P11.g) rfl rfl (hb hby d85_19)
 have P13 := P11.st st12
 have N12 := Fr.snoc X12 N9 g_sq
 have K12 := K9.wr W12 (Or.inl (mi 0))
 replace E_sq := E_sq.wr W12
 replace F_text_sq := F_text_sq.other W12 (Or.inr (slot_ne (Or.inr (ww hw 62 rfl)) (Or.inr (ww hw 95 rfl)) (by decide) (t := (.object cS)) (t' := .int) (by decide) (by decide)))
 replace Fp_sq := Fp_sq.other W12 (Or.inr (slot_ne (Or.inr (ww hw 93 rfl)) (Or.inr (ww hw 95 rfl)) (by decide) (t := (.object "java/util/List")) (t' := .int) (by decide) (by decide)))
 exact endV 22 #[rv sq, rv xt, rv al, iv ar] X12 hx hrt hlk P13 (hb hby d85_22) e12 (by decide) (by decide) (show Q_sqInit0 Z sq xt al m1 ar u1 u2 u3 ed el h0 n0 _ _ _ from ⟨rfl, N12, K12, E_sq, F_text_sq, Fp_sq⟩)
abbrev k86_ := prog_6_method_5_code
theorem d86_0 : decode k86_ 0 = .ok (.new 27, 3) := by decide +kernel
theorem b297_ : dl k86_ 3 [(.dup, 1)] = true := by decide +kernel
theorem d86_4 : decode k86_ 4 = .ok (.invokespecial 29, 3) := by decide +kernel
theorem b298_ : dl k86_ 7 [(.aload_n 0, 1)] = true := by decide +kernel
theorem d86_8 : decode k86_ 8 = .ok (.getfield 7, 3) := by decide +kernel
theorem d86_11 : decode k86_ 11 = .ok (.invokevirtual 30, 3) := by decide +kernel
theorem d86_14 : decode k86_ 14 = .ok (.ldc 34, 2) := by decide +kernel
theorem d86_16 : decode k86_ 16 = .ok (.invokevirtual 30, 3) := by decide +kernel
theorem b299_ : dl k86_ 19 [(.aload_n 0, 1)] = true := by decide +kernel
theorem d86_20 : decode k86_ 20 = .ok (.getfield 19, 3) := by decide +kernel
theorem d86_23 : decode k86_ 23 = .ok (.invokevirtual 36, 3) := by decide +kernel
theorem d86_26 : decode k86_ 26 = .ok (.invokevirtual 39, 3) := by decide +kernel
theorem d86_29 : decode k86_ 29 = .ok (.areturn, 1) := by decide +kernel
def Q_sqStr0 (Z : State) (sq xt tt : Addr) (kt : ClassId) (ct zt : Int32) (vt : List Value) (tcs : List Int32) (el ee : Addr) (kee : ClassId) (G1 : Int32) (Gf : Value) : QT := fun h0 n0 v h L => ∃ (xs : Addr) (ts : Addr) (ks : ClassId) (ce : Int32) (ze : Int32) (wv : List Value), v = some (.ref xs) ∧ Fr n0 L ∧ Keep h0 h [] ∧ (Exa Z h xs cS) ∧ (Fld Z h xs cS "value" "[B" (.ref ts)) ∧ (Fld Z h xs cS "coder" "B" (.int ce)) ∧ (Arv Z h ts ks .byte ze wv i0) ∧ (KB ce ze wv (tcs ++ [(32 : Int32), 91, 93]))
abbrev mn_94 : MethodName := ⟨"com/example/kvasir/kvasir/sql/SqlQuery", "toString", "()Ljava/lang/String;"⟩
theorem rm_sqStr0 (hw : HW a0 Z) (hEL : EW Z a0 ELs) (sq xt tt : Addr) (kt : ClassId) (ct zt : Int32) (vt : List Value) (tcs : List Int32) (el ee : Addr) (kee : ClassId) (G1 : Int32) (Gf : Value) (Z0 : n0 ≤ h0.size) (E_sq : Exa Z h0 sq cQ) (F_text_sq : Fld Z h0 sq cQ "text" dS (.ref xt)) (Fp_sq : Fld Z h0 sq cQ "parameters" dL (.ref el)) (E_xt : Exa Z h0 xt cS) (Fv_xt : Fld Z h0 xt cS "value" "[B" (.ref tt)) (Fc_xt : Fld Z h0 xt cS "coder" "B" (.int ct)) (V_tt : Arv Z h0 tt kt .byte zt vt i0) (hkt : KB ct zt vt tcs) (htl2 : tcs.length ≤ 2) (Sc : SU4 Z G1) (hz : ¬ G1 = 0) (Sa : SU1 Z) (Sh : SU2 Z) (Sl : SU3 Z) (Sf : SU5 Z Gf) (rGf : Gf.isRef = true) (OL : Old Z n0 h0) (XEL : Exa Z Z.heap el cLN) (FEL : Fld Z Z.heap el cLN "elements" dOA (.ref ee)) (VEE : Arv Z Z.heap ee kee tOb (0 : Int32) [] .null) :
  MetQ l Z mn_94 k86_ 1 (some (.object cS)) (rr 11 12 176 156) ws #[(.ref sq)] h0 ELs (Q_sqStr0 Z sq xt tt kt ct zt vt tcs el ee kee G1 Gf h0 n0) := by
 refine MetFree.of_bodySF (plainFor_of_name pn_18) hisR ?_
 intro p e s m args below meth c s₁ Bd hml0 hP hK; obtain ⟨rfl, hZ, hh, hCH⟩ := hP; have hx := Bd.exec; have hby := Bd.bytes; have hml : c.maxLocals = 1 := hml0
 have hown : s.vm.findClass cQ = some m.cls := findClass_of_methodNamed Bd.named
 have X0 : Stand p l e (rr 11 12 176 156) (s.setVm s.vm) m #[(.ref sq)] below meth c s₁ [] 0 0 := Stand.of_body Bd
 replace hZ : Z.Warmed39 (s.setVm s.vm).vm := hZ
 replace hown : (s.setVm s.vm).vm.findClass cQ = some m.cls := hown
 have hS : s.Since s.vm 0 := (State.WarmedH.refl s).since 0
 have hk : 0 ≤ h0.size := Nat.zero_le _
 have CR : CHr Z ELs s.vm h0 s.vm h0 := CHr.refl hCH
 have e0 : s₁.heap = h0 := by rw [← hh, Bd.state]; rfl
 have N0 := Fr.nil n0
 obtain ⟨s0, hs0⟩ := exi (s₁.setTop (entryFrame m #[(.ref sq)] 1))
 have P0 : PP p e below s₁ (mkF m 0 #[rv sq] []) s0 := fun q_ k_ => by rw [hs0]; exact castTop (ef_4 m sq) k_
 obtain ⟨T1, h1, X1, e1, E1, A1, D1, -, st1⟩ := newO X0 hx hZ hown (ww hw 101 rfl) (ww hw 102 rfl) (ww hw 103 rfl) e0 (g := P0.g) rfl (hb hby d86_0) (by decide) (by decide)
 obtain ⟨b1, g1⟩ : ∃ z, z = h0.size := ⟨_, rfl⟩
 rw [← g1] at A1 D1 st1
 have P2 := P0.st st1
 have ne_sq_b1 := neL E_sq.lt (Nat.le_of_eq g1.symm)
 have ne_xt_b1 := neL E_xt.lt (Nat.le_of_eq g1.symm)
 have ne_tt_b1 := neL V_tt.lt (Nat.le_of_eq g1.symm)
 have sz_b1 : h0.size ≤ b1 := Nat.le_trans (Nat.le_refl h0.size) (Nat.le_of_eq g1.symm)
 have sf_b1 : Safe Z ELs s.vm h0 b1 := Safe.new (Nat.le_of_eq g1.symm)
 replace sf_b1 := Safe.ext E1 CR.1 sf_b1
 replace E_sq := E_sq.ext E1
 replace F_text_sq := F_text_sq.ext E1
 replace Fp_sq := Fp_sq.ext E1
 replace E_xt := E_xt.ext E1
 replace Fv_xt := Fv_xt.ext E1
 replace Fc_xt := Fc_xt.ext E1
 replace V_tt := V_tt.ext E1
 replace OL := OL.ext E1
 replace CR : CHr Z ELs s.vm h0 s.vm h1 := CR.trans (CHr.ext E1 CR.1)
 replace hk := Nat.le_trans hk E1.1
 have K1 := (Keep.refl h0 []).ext E1
 obtain ⟨Lf3, X1, N3⟩ := fixL X1 N0 1 4 rfl rfl
 have E_b1 : Exa Z h1 b1 cB := A1
 have Fv_b1 : Fld Z h1 b1 cA "value" "[B" .null := D1 (Or.inl (ww hw 116 rfl)) (ty := (.array .byte)) (by decide)
 have Fc_b1 : Fld Z h1 b1 cA "coder" "B" i0 := D1 (Or.inl (ww hw 118 rfl)) (ty := .byte) (by decide)
 have Fn_b1 : Fld Z h1 b1 cA "count" "I" i0 := D1 (Or.inl (ww hw 140 rfl)) (ty := .int) (by decide)
 have Fm_b1 : Fld Z h1 b1 cA "maybeLatin1" "Z" i0 := D1 (Or.inl (ww hw 484 rfl)) (ty := .boolean) (by decide)
 have P4 := P2.bt X1 hx hby b297_ rfl
 obtain ⟨_, T5, L5, X5, hQ5, P5⟩ := cIn P4 X1 hx hZ hown hw e1 hml 104 105 106 103 (rm_sbInit hw b1 .null i0 G1 (zT Z0 K1.1) E_b1 Fv_b1 Fc_b1 Fn_b1 Fm_b1 (Nat.le_trans Z0 sz_b1) Sc OL hz) rfl rfl rfl rfl rfl rfl rfl [] [(.ref b1)] 1 (lenOf pd_24 rfl) rfl (Nat.le_of_eq rfl) (hb hby d86_4) rfl (by decide)
 obtain ⟨tn_5, kn_5, cd2_5, zb2_5, vs2_5, rfl, N5q, Kc5, po5_0, po5_1, po5_2, po5_3, po5_4, po5_5, po5_6, po5_7, po5_8⟩ := hQ5
 have N5 := Fr.app N3 N5q
 obtain ⟨Lf6, X5, N6⟩ := fixL X5 N5 2 20 rfl rfl
 have ne_sq_tn_5 := neL E_sq.lt po5_0
 have ne_xt_tn_5 := neL E_xt.lt po5_0
 have ne_tt_tn_5 := neL V_tt.lt po5_0
 have sz_tn_5 : h0.size ≤ tn_5 := Nat.le_trans K1.1 po5_0
 have sf_tn_5 : Safe Z ELs s.vm h1 tn_5 := Safe.new po5_0
 have sfk5 := ((sfS sf_b1 sf0) : ∀ x ∈ [b1], Safe Z ELs s.vm h1 x)
 replace sf_b1 := Safe.keep Kc5 sfk5 CR.1 sf_b1
 replace sf_tn_5 := Safe.keep Kc5 sfk5 CR.1 sf_tn_5
 replace E_sq := E_sq.keep Kc5
 replace F_text_sq := F_text_sq.keep Kc5 (ninS ne_sq_b1 nin0)
 replace Fp_sq := Fp_sq.keep Kc5 (ninS ne_sq_b1 nin0)
 replace E_xt := E_xt.keep Kc5
 replace Fv_xt := Fv_xt.keep Kc5 (ninS ne_xt_b1 nin0)
 replace Fc_xt := Fc_xt.keep Kc5 (ninS ne_xt_b1 nin0)
 replace V_tt := V_tt.keep Kc5 (ninS ne_tt_b1 nin0)
 replace OL := OL.keep Kc5 (allS (Nat.le_trans Z0 sz_b1) all0)
 replace CR : CHr Z ELs s.vm h0 s.vm T5.heap := CR.trans (CHr.keep Kc5 sfk5 CR.1)
 replace hk := Nat.le_trans hk Kc5.1
 have K5 := Kt1 K1 Kc5 (Or.inr sz_b1)
 have E_b1 := po5_1
 have Fv_b1 := po5_2
 have Fc_b1 := po5_3
 have Fn_b1 := po5_4
 have Fm_b1 := po5_5
 have V_tn_5 := po5_6
 have hbb2_5 := po5_8
 have P7 : PP p e below T5 (mkF m 8 #[rv sq] [(.ref sq), (.ref b1)]) s0 := fun q_ k_ => P5 q_ (by
  exact bt X5 hx hby b298_ rfl k_)
 obtain ⟨T8, X8, e8, P8⟩ := gF P7 X5 hx hZ hown hw 61 rfl F_text_sq (hb hby d86_8)
 obtain ⟨_, T9, L9, X9, hQ9, P9⟩ := cVi P8 X8 hx hZ hown hw e8 E_b1 hml 119 122 121 123 103 (rm_sbApp hw b1 tn_5 kn_5 cd2_5 zb2_5 vs2_5 ([] : List Int32) xt tt kt ct zt vt tcs G1 Gf (zT Z0 K5.1) E_b1 Fv_b1 Fc_b1 Fn_b1 Fm_b1 V_tn_5 E_xt Fv_xt Fc_xt V_tt (Nat.le_trans Z0 sz_tn_5) (Nat.le_trans Z0 sz_b1) ne_xt_tn_5 ne_tt_tn_5 po5_7 ne_xt_b1 ne_tt_b1 Sc hz Sa Sh Sl Sf rGf OL hbb2_5 hkt (by simp only [List.length_append, List.length_cons, List.length_nil] <;> omega)) rfl rfl rfl rfl rfl rfl rfl [(.ref xt)] [] 0 (lenOf pd_49 rfl) rfl (Nat.le_of_eq rfl) (hb hby d86_11) rfl (by decide)
 obtain ⟨tn_9, kn_9, cd2_9, zb2_9, vs2_9, rfl, N9q, Kc9, po9_0, po9_1, po9_2, po9_3, po9_4, po9_5, po9_6, po9_7, po9_8⟩ := hQ9
 have N9 := Fr.app N6 N9q
 obtain ⟨Lf10, X9, N10⟩ := fixL X9 N9 3 52 rfl rfl
 have ne_sq_tn_9 := own_tof po9_0 ne_sq_tn_5 E_sq.lt
 have sz_tn_9 : h0.size ≤ tn_9 := own_tof2 po9_0 sz_tn_5 K5.1
 have tf_tn_9 : tn_9 = tn_5 ∨ h0.size ≤ tn_9 := own_tof3 po9_0 K5.1
 have sf_tn_9 : Safe Z ELs s.vm T5.heap tn_9 := own_tof4 po9_0 sf_tn_5 Safe.new
 have sfk9 := ((sfS sf_b1 (sfS sf_tn_5 sf0)) : ∀ x ∈ [b1, tn_5], Safe Z ELs s.vm T5.heap x)
 replace sf_b1 := Safe.keep Kc9 sfk9 CR.1 sf_b1
 replace sf_tn_9 := Safe.keep Kc9 sfk9 CR.1 sf_tn_9
 replace Fp_sq := Fp_sq.keep Kc9 (ninS ne_sq_b1 (ninS ne_sq_tn_5 nin0))
 replace OL := OL.keep Kc9 (allS (Nat.le_trans Z0 sz_b1) (allS (Nat.le_trans Z0 sz_tn_5) all0))
 replace CR : CHr Z ELs s.vm h0 s.vm T9.heap := CR.trans (CHr.keep Kc9 sfk9 CR.1)
 replace hk := Nat.le_trans hk Kc9.1
 have K9 := Kt2 K5 Kc9 (Or.inr sz_b1) (Or.inr sz_tn_5)
 have E_b1 := po9_1
 have Fv_b1 := po9_2
 have Fc_b1 := po9_3
 have Fn_b1 := po9_4
 have Fm_b1 := po9_5
 have V_tn_9 := po9_6
 have hbb2_9 := po9_8
 obtain ⟨b11, T11, h11, ki11, bb11, kb11, X11, e11, E11, hS, hk, hZ, hown, lA11, lC11, lV11, lB11, la11, lb11, cC11, lL11, hsf11, st11⟩ := ldcCH X9 hx hZ hown (ww hw 166 rfl) (own_wS hw) rfl hS hk hEL (by decide) CR.1 (vs := [(.int 32)]) (z := (1 : Int32)) ⟨by decide, rfl⟩ (by decide) (by decide) (g := P9.g) rfl (hb hby d86_14) (n := 4) (by decide) (by decide) (by decide) (by decide)
 have P12 := P9.st st11
 replace sf_b1 := cC11.safe E_b1.lt sf_b1
 replace sf_tn_9 := cC11.safe V_tn_9.lt sf_tn_9
 replace Fp_sq := Fp_sq.ext E11
 replace OL := OL.ext E11
 replace E_b1 := E_b1.ext E11
 replace Fv_b1 := Fv_b1.ext E11
 replace Fc_b1 := Fc_b1.ext E11
 replace Fn_b1 := Fn_b1.ext E11
 replace Fm_b1 := Fm_b1.ext E11
 replace V_tn_9 := V_tn_9.ext E11
 replace CR : CHr Z ELs s.vm h0 T11.vm h11 := CR.trans cC11
 have K11 := K9.ext E11
 obtain ⟨Lf13, X11, N13⟩ := fixL X11 N10 5 60 rfl rfl
 have E_b11 : Exa Z h11 b11 cS := lA11
 have Fc_b11 : Fld Z h11 b11 cS "coder" "B" i0 := lC11
 have Fv_b11 : Fld Z h11 b11 cS "value" "[B" (.ref bb11) := lV11
 have V_bb11 : Arv Z h11 bb11 kb11 .byte 1 [(.int 32)] i0 := lB11
 have ne_b1_b11 : b1 ≠ b11 := (hsf11 _ sf_b1).1
 have ne_b1_bb11 : b1 ≠ bb11 := (hsf11 _ sf_b1).2
 have ne_tn_9_b11 : tn_9 ≠ b11 := (hsf11 _ sf_tn_9).1
 have ne_tn_9_bb11 : tn_9 ≠ bb11 := (hsf11 _ sf_tn_9).2
 obtain ⟨_, T14, L14, X14, hQ14, P14⟩ := cVi P12 X11 hx hZ hown hw e11 E_b1 hml 119 122 121 123 103 (rm_sbApp hw b1 tn_9 kn_9 cd2_9 zb2_9 vs2_9 (([] : List Int32) ++ tcs) b11 bb11 kb11 (0 : Int32) (1 : Int32) ([(.int 32)] : List Value) ([32] : List Int32) G1 Gf (zT Z0 K11.1) E_b1 Fv_b1 Fc_b1 Fn_b1 Fm_b1 V_tn_9 E_b11 Fv_b11 Fc_b11 V_bb11 (Nat.le_trans Z0 sz_tn_9) (Nat.le_trans Z0 sz_b1) (Ne.symm ne_tn_9_b11) (Ne.symm ne_tn_9_bb11) po9_7 (Ne.symm ne_b1_b11) (Ne.symm ne_b1_bb11) Sc hz Sa Sh Sl Sf rGf OL hbb2_9 own_kb32 (by simp only [List.length_append, List.length_cons, List.length_nil] <;> omega)) rfl rfl rfl rfl rfl rfl rfl [(.ref b11)] [] 0 (lenOf pd_49 rfl) rfl (Nat.le_of_eq rfl) (hb hby d86_16) rfl (by decide)
 obtain ⟨tn_14, kn_14, cd2_14, zb2_14, vs2_14, rfl, N14q, Kc14, po14_0, po14_1, po14_2, po14_3, po14_4, po14_5, po14_6, po14_7, po14_8⟩ := hQ14
 have N14 := Fr.app N13 N14q
 obtain ⟨Lf15, X14, N15⟩ := fixL X14 N14 6 92 rfl rfl
 have sz_tn_14 : h0.size ≤ tn_14 := own_tof2 po14_0 sz_tn_9 K11.1
 have tf_tn_14 : tn_14 = tn_9 ∨ h0.size ≤ tn_14 := own_tof3 po14_0 K11.1
 have sf_tn_14 : Safe Z ELs T11.vm h11 tn_14 := own_tof4 po14_0 sf_tn_9 Safe.new
 have sfk14 := ((sfS sf_b1 (sfS sf_tn_9 sf0)) : ∀ x ∈ [b1, tn_9], Safe Z ELs T11.vm h11 x)
 replace sf_tn_14 := Safe.keep Kc14 sfk14 CR.1 sf_tn_14
 replace Fp_sq := Fp_sq.keep Kc14 (ninS ne_sq_b1 (ninS ne_sq_tn_9 nin0))
 replace OL := OL.keep Kc14 (allS (Nat.le_trans Z0 sz_b1) (allS (Nat.le_trans Z0 sz_tn_9) all0))
 replace CR : CHr Z ELs s.vm h0 T11.vm T14.heap := CR.trans (CHr.keep Kc14 sfk14 CR.1)
 replace hk := Nat.le_trans hk Kc14.1
 have K14 := Kt2 K11 Kc14 (Or.inr sz_b1) (Or.inr sz_tn_9)
 have E_b1 := po14_1
 have Fv_b1 := po14_2
 have Fc_b1 := po14_3
 have Fn_b1 := po14_4
 have Fm_b1 := po14_5
 have V_tn_14 := po14_6
 have hbb2_14 := po14_8
 have P16 := P14.bt X14 hx hby b299_ rfl
 obtain ⟨T17, X17, e17, P17⟩ := gF P16 X14 hx hZ hown hw 92 rfl Fp_sq (hb hby d86_20)
 obtain ⟨cq18, kq18, q18a, q18b, q18c⟩ := isOf hZ e17 E_b1
 obtain ⟨_, _, ⟨T18, L18, k18, n18⟩, -, X18, hS18, hg18, ⟨Lc18, hQ18, l18, y18, z18, cC18⟩, st18⟩ := X17.virtualBackS hx (y := mn_88) (z := mn_88) hown (mw hZ hw 169 rfl) (mw hZ hw 170 rfl) (notFace_of_selects (args := #[]) (mw hZ hw 172 rfl)) (mw hZ hw 172 rfl) (mw hZ hw 171 rfl) (by decide) (backOfSS (W := 0) (rm_sbAppL0 hw hEL b1 tn_14 kn_14 cd2_14 zb2_14 vs2_14 ((([] : List Int32) ++ tcs) ++ ([32] : List Int32)) G1 Gf el ee kee (zT Z0 K14.1) E_b1 Fv_b1 Fc_b1 Fn_b1 Fm_b1 V_tn_14 (Nat.le_trans Z0 sz_tn_14) (Nat.le_trans Z0 sz_b1) po14_7 Sc hz Sa Sh Sl Sf rGf OL hbb2_14 (by simp only [List.length_append, List.length_cons, List.length_nil] <;> omega) XEL FEL VEE) hZ (ww hw 173 rfl) (ww hw 103 rfl) (by decide) (by decide) hEL CR.1 (sfS sf_tn_14 sf0) (allS (P := fun z => z < T14.heap.size) V_tn_14.lt all0)) q18a q18c (g := P17.g) rfl (by rw [hml]; rfl) (Steps.refl _) (argsL := [(.ref el)]) (rest := []) (lenOf pd_53 rfl) rfl (by show 2 * 0 + _ ≤ _; exact Nat.le_of_eq rfl) (hb hby d86_23) (fun _ _ => ⟨rfl, e17, (by decide : 6 + 4 ≤ _), (by decide : 92 + 48 ≤ _)⟩)
 dsimp only [Pt.U, Pt.locs, Pt.cells, Pt.slots] at X18 l18 y18 z18 st18 hQ18 hS18 hg18 cC18
 subst l18 y18 z18
 obtain ⟨X18, hS, hZ, hown⟩ := rebS hS (by rw [e17]; exact hk) X18 hS18 hg18 hZ hown
 have hk : T18.heap.size ≤ T18.heap.size := Nat.le_refl _
 obtain ⟨tn_18, kn_18, cd2_18, zb2_18, vs2_18, rfl, N18q, Kc18, po18_0, po18_1, po18_2, po18_3, po18_4, po18_5, po18_6, po18_7, po18_8⟩ := hQ18
 have N18 := Fr.app N15 N18q
 obtain ⟨Lf19, X18, N19⟩ := fixL X18 N18 10 140 rfl rfl
 have P20 := P17.tr st18
 have tf_tn_18 : tn_18 = tn_14 ∨ h0.size ≤ tn_18 := own_tof3 po18_0 K14.1
 replace OL := OL.keep Kc18 (allS (Nat.le_trans Z0 sz_b1) (allS (Nat.le_trans Z0 sz_tn_14) all0))
 replace CR : CHr Z ELs s.vm h0 T18.vm T18.heap := CR.trans cC18
 have K18 := Kt2 K14 Kc18 (Or.inr sz_b1) (Or.inr sz_tn_14)
 have E_b1 := po18_1
 have Fv_b1 := po18_2
 have Fc_b1 := po18_3
 have Fn_b1 := po18_4
 have Fm_b1 := po18_5
 have V_tn_18 := po18_6
 have hbb2_18 := po18_8
 obtain ⟨_, T21, L21, X21, hQ21, P21⟩ := cVi P20 X18 hx hZ hown hw rfl E_b1 hml 225 228 227 229 103 (rm_sbStr hw b1 tn_18 kn_18 cd2_18 zb2_18 vs2_18 (((([] : List Int32) ++ tcs) ++ ([32] : List Int32)) ++ [(91 : Int32), 93]) G1 Gf (zT Z0 K18.1) E_b1 Fv_b1 Fc_b1 Fn_b1 Fm_b1 V_tn_18 Sc hz Sa Sh Sl Sf rGf OL hbb2_18 (by simp only [List.length_append, List.length_cons, List.length_nil] <;> omega)) rfl rfl rfl rfl rfl rfl rfl [] [] 0 (lenOf pd_47 rfl) rfl (Nat.le_of_eq rfl) (hb hby d86_26) rfl (by decide)
 obtain ⟨xs_21, ts_21, ks_21, ce_21, ze_21, wv_21, rfl, N21q, Kc21, po21_0, po21_1, po21_2, po21_3, po21_4, po21_5, po21_6⟩ := hQ21
 have N21 := Fr.app N19 N21q
 obtain ⟨Lf22, X21, N22⟩ := fixL X21 N21 12 176 rfl rfl
 have sfk21 := (sf0 : ∀ x ∈ [], Safe Z ELs T18.vm T18.heap x)
 replace CR : CHr Z ELs s.vm h0 T18.vm T21.heap := CR.trans (CHr.keep Kc21 sfk21 CR.1)
 replace hk := Nat.le_trans hk Kc21.1
 have K21 := K18.trans Kc21 all0
 have E_xs_21 := po21_2
 have Fv_xs_21 := po21_3
 have Fc_xs_21 := po21_4
 have V_ts_21 := po21_5
 have hkb_21 := po21_6
 subst hs0
 obtain ⟨fs_, hr, hrun, hended, hREW⟩ := X21.leaveW hS hk (v := some (.ref xs_21)) (fun h => by rw [Bd.returns] at h; cases h)
 have CRT := CR.trans (CHv.at X21 hZ hEL CR.1)
 refine ⟨_, _, P21 _ ?_, hrun, hended, _, _, rfl, ?_, ?_, hREW.1, hREW.2.1, hREW.2.2.1, hREW.2.2.2.mono (by decide) (by decide)⟩
 · show GG p e below T21 (mkF m 29 #[rv sq] [(.ref xs_21)]) _
   jvm_step X21.here [X21.here.top, hx, (hb hby d86_29), X21.method', Bd.returns, Value.isRef, FieldType.isReference]
   first | (intro acts; rw [hr _ acts rfl rfl rfl]) | rw [hr _ _ rfl rfl rfl]
   exact Steps.refl _
 · show Q_sqStr0 Z sq xt tt kt ct zt vt tcs el ee kee G1 Gf h0 n0 _ T21.heap _
   exact ⟨xs_21, ts_21, ks_21, ce_21, ze_21, wv_21, rfl, N22, K21, E_xs_21, Fv_xs_21, Fc_xs_21, V_ts_21, (by have q := hkb_21; simpa only [List.nil_append, List.append_assoc, List.cons_append] using q)⟩
 · show CHr Z ELs s.vm s.heap T21.vm T21.heap
   rw [hh]
   exact CRT
def Q_sqInit1 (Z : State) (sq xt al : Addr) (m1 ar : Int32) (u1 u2 u3 : Value) (ed : Addr) (ked : ClassId) (pa mr em : Addr) : QT := fun h0 n0 v h L => ∃ (ls : Addr), v = none ∧ Fr n0 L ∧ Keep h0 h [sq] ∧ (h0.size ≤ ls) ∧ (Exa Z h ls cL2) ∧ (Fld Z h ls cL2 "e0" dO (.ref pa)) ∧ (Fld Z h ls cL2 "e1" dO (.ref em)) ∧ (Exa Z h sq cQ) ∧ (Fld Z h sq cQ "text" dS (.ref xt)) ∧ (Fld Z h sq cQ "parameters" dL (.ref ls))
theorem rm_sqInit1 (hw : HW a0 Z) (sq xt al : Addr) (m1 ar : Int32) (u1 u2 u3 : Value) (ed : Addr) (ked : ClassId) (pa mr em : Addr) (Z0 : n0 ≤ h0.size) (E_sq : Exa Z h0 sq cQ) (F_text_sq : Fld Z h0 sq cQ "text" dS u1) (Fp_sq : Fld Z h0 sq cQ "parameters" dL u2) (F_arity_sq : Fld Z h0 sq cQ "arity" "I" u3) (g_sq : n0 ≤ sq) (ne_al_sq : al ≠ sq) (E_al : Exa Z h0 al cAL) (Fe_al : Fld Z h0 al cAL "elementData" dOA (.ref ed)) (Fz_al : Fld Z h0 al cAL "size" "I" (.int 1)) (Fd_al : Fld Z h0 al cAb "modCount" "I" (.int m1)) (V_ed : Arv Z h0 ed ked tOb (10 : Int32) [(.ref pa), .null, .null, .null, .null, .null, .null, .null, .null, .null] .null) (E_ed : Exa Z h0 ed dOA) (MIR : MirW Z dOA mr) (Se : SU6 Z em) (OL : Old Z n0 h0) (E_pa : Exa Z h0 pa cS) (ne_ed_sq : ed ≠ sq) (ne_pa_sq : pa ≠ sq) :
  MetP l Z mn_93 k85_ 4 none (rr 8 2 3 101) ws #[(.ref sq), (.ref xt), (.ref al), (.int ar)] h0 (Q_sqInit1 Z sq xt al m1 ar u1 u2 u3 ed ked pa mr em h0 n0) := by
 refine begH n0 cQ rfl (plainFor_of_name pn_18) fun p e s m below meth c s₁ s0 hrt hlk hZ hx hby hml hown hnm X0 e0 N0 P0 => ?_
 replace P0 : PP p e below s₁ (mkF m 0 #[rv sq, rv xt, rv al, iv ar] []) s0 := castPP (ef_47 m sq xt al ar) P0
 have P1 := P0.bt X0 hx hby b293_ rfl
 obtain ⟨T2, X2, e2, st2⟩ := initO X0 hx hZ hown (ww hw 60 rfl) (ww hw 12 rfl) (ww hw 13 rfl) e0 (g := P1.g) rfl (by rw [hml]; rfl) rfl (hb hby d85_1) (by decide) (W := 0) (by show 2 * 0 + _ ≤ _; exact Nat.le_of_eq rfl) (by decide)
 have P3 := P1.st st2
 have P4 : PP p e below T2 (mkF m 6 #[rv sq, rv xt, rv al, iv ar] [(.ref xt), (.ref sq)]) s0 := fun q_ k_ => P3 q_ (by
  exact bt X2 hx hby b294_ rfl k_)
 obtain ⟨T5, h5, X5, e5, W5, st5⟩ := putF X2 hx hZ hown (host := "") (Or.inl (ww hw 61 rfl)) Via.refl e2 F_text_sq E_sq (Or.inr ⟨(ww hw 62 rfl), rfl, hnm⟩) (ww hw 55 rfl) (ty := (.object cS)) (by decide) rfl rfl (g := P4.g) rfl rfl (hb hby d85_6)
 have P6 := P4.st st5
 have N5 := Fr.snoc X5 N0 g_sq
 have K5 := (Keep.refl h0 [sq]).wr W5 (Or.inl (mi 0))
 replace E_sq := E_sq.wr W5
 replace F_text_sq : Fld Z h5 sq cQ "text" dS (.ref xt) := F_text_sq.same W5
 replace Fp_sq := Fp_sq.other W5 (Or.inr (slot_ne (Or.inr (ww hw 93 rfl)) (Or.inr (ww hw 62 rfl)) (by decide) (t := (.object "java/util/List")) (t' := (.object cS)) (by decide) (by decide)))
 replace F_arity_sq := F_arity_sq.other W5 (Or.inr (slot_ne (Or.inr (ww hw 95 rfl)) (Or.inr (ww hw 62 rfl)) (by decide) (t := .int) (t' := (.object cS)) (by decide) (by decide)))
 replace E_al := E_al.wr W5
 replace Fe_al := Fe_al.other W5 (Or.inl ne_al_sq)
 replace Fz_al := Fz_al.other W5 (Or.inl ne_al_sq)
 replace Fd_al := Fd_al.other W5 (Or.inl ne_al_sq)
 replace V_ed := V_ed.other W5 ne_ed_sq
 replace E_ed := E_ed.wr W5
 replace OL := OL.wr W5 g_sq
 replace E_pa := E_pa.wr W5
 have P7 := P6.bt X5 hx hby b295_ rfl
 obtain ⟨_, T8, L8, X8, hQ8, P8⟩ := cSt P7 X5 hx hZ hown hw e5 hml 63 64 65 66 (rm_cpOf1 hw al m1 mr em ed ked pa (zT Z0 K5.1) E_al Fe_al Fz_al Fd_al V_ed E_ed MIR Se OL E_pa) rfl rfl rfl rfl rfl rfl [(.ref al)] [(.ref sq)] 1 (lenOf pd_38 rfl) rfl (Nat.le_of_eq rfl) (hb hby d85_11) rfl (by decide)
 obtain ⟨ls_8, rfl, N8q, Kc8, po8_0, po8_1, po8_2, po8_3⟩ := hQ8
 have N8 := Fr.app N5 N8q
 obtain ⟨Lf9, X8, N9⟩ := fixL X8 N8 2 3 rfl rfl
 have ne_sq_ls_8 := neL E_sq.lt po8_0
 have sz_ls_8 : h0.size ≤ ls_8 := Nat.le_trans K5.1 po8_0
 replace E_sq := E_sq.keep Kc8
 replace F_text_sq := F_text_sq.keep Kc8 nin0
 replace Fp_sq := Fp_sq.keep Kc8 nin0
 replace F_arity_sq := F_arity_sq.keep Kc8 nin0
 have K8 := K5.trans Kc8 all0
 have E_ls_8 := po8_1
 have F_e0_ls_8 := po8_2
 have F_e1_ls_8 := po8_3
 obtain ⟨T10, h10, X10, e10, W10, st10⟩ := putF X8 hx hZ hown (host := "") (Or.inl (ww hw 92 rfl)) Via.refl rfl Fp_sq E_sq (Or.inr ⟨(ww hw 93 rfl), rfl, hnm⟩) (ww hw 55 rfl) (ty := (.object "java/util/List")) (by decide) rfl rfl (g := P8.g) rfl rfl (hb hby d85_14)
 have P11 := P8.st st10
 have N10 := Fr.snoc X10 N9 g_sq
 have K10 := K8.wr W10 (Or.inl (mi 0))
 replace E_sq := E_sq.wr W10
 replace F_text_sq := F_text_sq.other W10 (Or.inr (slot_ne (Or.inr (ww hw 62 rfl)) (Or.inr (ww hw 93 rfl)) (by decide) (t := (.object cS)) (t' := (.object "java/util/List")) (by decide) (by decide)))
 replace Fp_sq : Fld Z h10 sq cQ "parameters" dL (.ref ls_8) := Fp_sq.same W10
 replace F_arity_sq := F_arity_sq.other W10 (Or.inr (slot_ne (Or.inr (ww hw 95 rfl)) (Or.inr (ww hw 93 rfl)) (by decide) (t := .int) (t' := (.object "java/util/List")) (by decide) (by decide)))
 replace E_ls_8 := E_ls_8.wr W10
 replace F_e0_ls_8 := F_e0_ls_8.other W10 (Or.inl (Ne.symm ne_sq_ls_8))
 replace F_e1_ls_8 := F_e1_ls_8.other W10 (Or.inl (Ne.symm ne_sq_ls_8))
 have P12 : PP p e below T10 (mkF m 19 #[rv sq, rv xt, rv al, iv ar] [(.int ar), (.ref sq)]) s0 := fun q_ k_ => P11 q_ (by
  exact bt X10 hx hby b296_ rfl k_)
 obtain ⟨T13, h13, X13, e13, W13, st13⟩ := putF X10 hx hZ hown (host := "") (Or.inl (ww hw 94 rfl)) Via.refl e10 F_arity_sq E_sq (Or.inr ⟨(ww hw 95 rfl), rfl, hnm⟩) (ww hw 55 rfl) (ty := .int) (by decide) rfl rfl (g := P12.g) rfl rfl (hb hby d85_19)
 have P14 := P12.st st13
 have N13 := Fr.snoc X13 N10 g_sq
 have K13 := K10.wr W13 (Or.inl (mi 0))
 replace E_sq := E_sq.wr W13
 replace F_text_sq := F_text_sq.other W13 (Or.inr (slot_ne (Or.inr (ww hw 62 rfl)) (Or.inr (ww hw 95 rfl)) (by decide) (t := (.object cS)) (t' := .int) (by decide) (by decide)))
 replace Fp_sq := Fp_sq.other W13 (Or.inr (slot_ne (Or.inr (ww hw 93 rfl)) (Or.inr (ww hw 95 rfl)) (by decide) (t := (.object "java/util/List")) (t' := .int) (by decide) (by decide)))
 replace E_ls_8 := E_ls_8.wr W13
 replace F_e0_ls_8 := F_e0_ls_8.other W13 (Or.inl (Ne.symm ne_sq_ls_8))
 replace F_e1_ls_8 := F_e1_ls_8.other W13 (Or.inl (Ne.symm ne_sq_ls_8))
 exact endV 22 #[rv sq, rv xt, rv al, iv ar] X13 hx hrt hlk P14 (hb hby d85_22) e13 (by decide) (by decide) (show Q_sqInit1 Z sq xt al m1 ar u1 u2 u3 ed ked pa mr em h0 n0 _ _ _ from ⟨ls_8, rfl, N13, K13, sz_ls_8, E_ls_8, F_e0_ls_8, F_e1_ls_8, E_sq, F_text_sq, Fp_sq⟩)
def Q_sqStr1 (Z : State) (sq xt tt : Addr) (kt : ClassId) (ct zt : Int32) (vt : List Value) (tcs : List Int32) (ls em pa pta : Addr) (pka : ClassId) (pca pza : Int32) (pva : List Value) (qa G1 : Int32) (Gf : Value) : QT := fun h0 n0 v h L => ∃ (xs : Addr) (ts : Addr) (ks : ClassId) (ce : Int32) (ze : Int32) (wv : List Value), v = some (.ref xs) ∧ Fr n0 L ∧ Keep h0 h [] ∧ (Exa Z h xs cS) ∧ (Fld Z h xs cS "value" "[B" (.ref ts)) ∧ (Fld Z h xs cS "coder" "B" (.int ce)) ∧ (Arv Z h ts ks .byte ze wv i0) ∧ (KB ce ze wv (tcs ++ [(32 : Int32), 91, qa, 93]))
theorem rm_sqStr1 (hw : HW a0 Z) (hEL : EW Z a0 ELs) (sq xt tt : Addr) (kt : ClassId) (ct zt : Int32) (vt : List Value) (tcs : List Int32) (ls em pa pta : Addr) (pka : ClassId) (pca pza : Int32) (pva : List Value) (qa G1 : Int32) (Gf : Value) (Z0 : n0 ≤ h0.size) (E_sq : Exa Z h0 sq cQ) (F_text_sq : Fld Z h0 sq cQ "text" dS (.ref xt)) (Fp_sq : Fld Z h0 sq cQ "parameters" dL (.ref ls)) (E_xt : Exa Z h0 xt cS) (Fv_xt : Fld Z h0 xt cS "value" "[B" (.ref tt)) (Fc_xt : Fld Z h0 xt cS "coder" "B" (.int ct)) (V_tt : Arv Z h0 tt kt .byte zt vt i0) (hkt : KB ct zt vt tcs) (htl2 : tcs.length ≤ 2) (Sc : SU4 Z G1) (hz : ¬ G1 = 0) (Sa : SU1 Z) (Sh : SU2 Z) (Sl : SU3 Z) (Sf : SU5 Z Gf) (rGf : Gf.isRef = true) (OL : Old Z n0 h0) (E_ls : Exa Z h0 ls cL2) (F_e0_ls : Fld Z h0 ls cL2 "e0" dO (.ref pa)) (F_e1_ls : Fld Z h0 ls cL2 "e1" dO (.ref em)) (Se : SU6 Z em) (E_pa : Exa Z h0 pa cS) (Fv_pa : Fld Z h0 pa cS "value" "[B" (.ref pta)) (Fc_pa : Fld Z h0 pa cS "coder" "B" (.int pca)) (V_pta : Arv Z h0 pta pka .byte pza pva i0) (hka : KB pca pza pva [qa]) (ne_pa_ls : pa ≠ ls) :
  MetQ l Z mn_94 k86_ 1 (some (.object cS)) (rr 14 15 252 197) ws #[(.ref sq)] h0 ELs (Q_sqStr1 Z sq xt tt kt ct zt vt tcs ls em pa pta pka pca pza pva qa G1 Gf h0 n0) := by
 refine MetFree.of_bodySF (plainFor_of_name pn_18) hisR ?_
 intro p e s m args below meth c s₁ Bd hml0 hP hK; obtain ⟨rfl, hZ, hh, hCH⟩ := hP; have hx := Bd.exec; have hby := Bd.bytes; have hml : c.maxLocals = 1 := hml0
 have hown : s.vm.findClass cQ = some m.cls := findClass_of_methodNamed Bd.named
 have X0 : Stand p l e (rr 14 15 252 197) (s.setVm s.vm) m #[(.ref sq)] below meth c s₁ [] 0 0 := Stand.of_body Bd
 replace hZ : Z.Warmed39 (s.setVm s.vm).vm := hZ
 replace hown : (s.setVm s.vm).vm.findClass cQ = some m.cls := hown
 have hS : s.Since s.vm 0 := (State.WarmedH.refl s).since 0
 have hk : 0 ≤ h0.size := Nat.zero_le _
 have CR : CHr Z ELs s.vm h0 s.vm h0 := CHr.refl hCH
 have e0 : s₁.heap = h0 := by rw [← hh, Bd.state]; rfl
 have N0 := Fr.nil n0
 obtain ⟨s0, hs0⟩ := exi (s₁.setTop (entryFrame m #[(.ref sq)] 1))
 have P0 : PP p e below s₁ (mkF m 0 #[rv sq] []) s0 := fun q_ k_ => by rw [hs0]; exact castTop (ef_4 m sq) k_
 obtain ⟨T1, h1, X1, e1, E1, A1, D1, -, st1⟩ := newO X0 hx hZ hown (ww hw 101 rfl) (ww hw 102 rfl) (ww hw 103 rfl) e0 (g := P0.g) rfl (hb hby d86_0) (by decide) (by decide)
 obtain ⟨b1, g1⟩ : ∃ z, z = h0.size := ⟨_, rfl⟩
 rw [← g1] at A1 D1 st1
 have P2 := P0.st st1
 have ne_sq_b1 := neL E_sq.lt (Nat.le_of_eq g1.symm)
 have ne_xt_b1 := neL E_xt.lt (Nat.le_of_eq g1.symm)
 have ne_tt_b1 := neL V_tt.lt (Nat.le_of_eq g1.symm)
 have ne_ls_b1 := neL E_ls.lt (Nat.le_of_eq g1.symm)
 have ne_pa_b1 := neL E_pa.lt (Nat.le_of_eq g1.symm)
 have ne_pta_b1 := neL V_pta.lt (Nat.le_of_eq g1.symm)
 have sz_b1 : h0.size ≤ b1 := Nat.le_trans (Nat.le_refl h0.size) (Nat.le_of_eq g1.symm)
 have sf_b1 : Safe Z ELs s.vm h0 b1 := Safe.new (Nat.le_of_eq g1.symm)
 replace sf_b1 := Safe.ext E1 CR.1 sf_b1
 replace E_sq := E_sq.ext E1
 replace F_text_sq := F_text_sq.ext E1
 replace Fp_sq := Fp_sq.ext E1
 replace E_xt := E_xt.ext E1
 replace Fv_xt := Fv_xt.ext E1
 replace Fc_xt := Fc_xt.ext E1
 replace V_tt := V_tt.ext E1
 replace OL := OL.ext E1
 replace E_ls := E_ls.ext E1
 replace F_e0_ls := F_e0_ls.ext E1
 replace F_e1_ls := F_e1_ls.ext E1
 replace E_pa := E_pa.ext E1
 replace Fv_pa := Fv_pa.ext E1
 replace Fc_pa := Fc_pa.ext E1
 replace V_pta := V_pta.ext E1
 replace CR : CHr Z ELs s.vm h0 s.vm h1 := CR.trans (CHr.ext E1 CR.1)
 replace hk := Nat.le_trans hk E1.1
 have K1 := (Keep.refl h0 []).ext E1
 obtain ⟨Lf3, X1, N3⟩ := fixL X1 N0 1 4 rfl rfl
 have E_b1 : Exa Z h1 b1 cB := A1
 have Fv_b1 : Fld Z h1 b1 cA "value" "[B" .null := D1 (Or.inl (ww hw 116 rfl)) (ty := (.array .byte)) (by decide)
 have Fc_b1 : Fld Z h1 b1 cA "coder" "B" i0 := D1 (Or.inl (ww hw 118 rfl)) (ty := .byte) (by decide)
 have Fn_b1 : Fld Z h1 b1 cA "count" "I" i0 := D1 (Or.inl (ww hw 140 rfl)) (ty := .int) (by decide)
 have Fm_b1 : Fld Z h1 b1 cA "maybeLatin1" "Z" i0 := D1 (Or.inl (ww hw 484 rfl)) (ty := .boolean) (by decide)
 have P4 := P2.bt X1 hx hby b297_ rfl
 obtain ⟨_, T5, L5, X5, hQ5, P5⟩ := cIn P4 X1 hx hZ hown hw e1 hml 104 105 106 103 (rm_sbInit hw b1 .null i0 G1 (zT Z0 K1.1) E_b1 Fv_b1 Fc_b1 Fn_b1 Fm_b1 (Nat.le_trans Z0 sz_b1) Sc OL hz) rfl rfl rfl rfl rfl rfl rfl [] [(.ref b1)] 1 (lenOf pd_24 rfl) rfl (Nat.le_of_eq rfl) (hb hby d86_4) rfl (by decide)
 obtain ⟨tn_5, kn_5, cd2_5, zb2_5, vs2_5, rfl, N5q, Kc5, po5_0, po5_1, po5_2, po5_3, po5_4, po5_5, po5_6, po5_7, po5_8⟩ := hQ5
 have N5 := Fr.app N3 N5q
 obtain ⟨Lf6, X5, N6⟩ := fixL X5 N5 2 20 rfl rfl
 have ne_sq_tn_5 := neL E_sq.lt po5_0
 have ne_xt_tn_5 := neL E_xt.lt po5_0
 have ne_tt_tn_5 := neL V_tt.lt po5_0
 have ne_ls_tn_5 := neL E_ls.lt po5_0
 have ne_pa_tn_5 := neL E_pa.lt po5_0
 have ne_pta_tn_5 := neL V_pta.lt po5_0
 have sz_tn_5 : h0.size ≤ tn_5 := Nat.le_trans K1.1 po5_0
 have sf_tn_5 : Safe Z ELs s.vm h1 tn_5 := Safe.new po5_0
 have sfk5 := ((sfS sf_b1 sf0) : ∀ x ∈ [b1], Safe Z ELs s.vm h1 x)
 replace sf_b1 := Safe.keep Kc5 sfk5 CR.1 sf_b1
 replace sf_tn_5 := Safe.keep Kc5 sfk5 CR.1 sf_tn_5
 replace E_sq := E_sq.keep Kc5
 replace F_text_sq := F_text_sq.keep Kc5 (ninS ne_sq_b1 nin0)
 replace Fp_sq := Fp_sq.keep Kc5 (ninS ne_sq_b1 nin0)
 replace E_xt := E_xt.keep Kc5
 replace Fv_xt := Fv_xt.keep Kc5 (ninS ne_xt_b1 nin0)
 replace Fc_xt := Fc_xt.keep Kc5 (ninS ne_xt_b1 nin0)
 replace V_tt := V_tt.keep Kc5 (ninS ne_tt_b1 nin0)
 replace OL := OL.keep Kc5 (allS (Nat.le_trans Z0 sz_b1) all0)
 replace E_ls := E_ls.keep Kc5
 replace F_e0_ls := F_e0_ls.keep Kc5 (ninS ne_ls_b1 nin0)
 replace F_e1_ls := F_e1_ls.keep Kc5 (ninS ne_ls_b1 nin0)
 replace E_pa := E_pa.keep Kc5
 replace Fv_pa := Fv_pa.keep Kc5 (ninS ne_pa_b1 nin0)
 replace Fc_pa := Fc_pa.keep Kc5 (ninS ne_pa_b1 nin0)
 replace V_pta := V_pta.keep Kc5 (ninS ne_pta_b1 nin0)
 replace CR : CHr Z ELs s.vm h0 s.vm T5.heap := CR.trans (CHr.keep Kc5 sfk5 CR.1)
 replace hk := Nat.le_trans hk Kc5.1
 have K5 := Kt1 K1 Kc5 (Or.inr sz_b1)
 have E_b1 := po5_1
 have Fv_b1 := po5_2
 have Fc_b1 := po5_3
 have Fn_b1 := po5_4
 have Fm_b1 := po5_5
 have V_tn_5 := po5_6
 have hbb2_5 := po5_8
 have P7 : PP p e below T5 (mkF m 8 #[rv sq] [(.ref sq), (.ref b1)]) s0 := fun q_ k_ => P5 q_ (by
  exact bt X5 hx hby b298_ rfl k_)
 obtain ⟨T8, X8, e8, P8⟩ := gF P7 X5 hx hZ hown hw 61 rfl F_text_sq (hb hby d86_8)
 obtain ⟨_, T9, L9, X9, hQ9, P9⟩ := cVi P8 X8 hx hZ hown hw e8 E_b1 hml 119 122 121 123 103 (rm_sbApp hw b1 tn_5 kn_5 cd2_5 zb2_5 vs2_5 ([] : List Int32) xt tt kt ct zt vt tcs G1 Gf (zT Z0 K5.1) E_b1 Fv_b1 Fc_b1 Fn_b1 Fm_b1 V_tn_5 E_xt Fv_xt Fc_xt V_tt (Nat.le_trans Z0 sz_tn_5) (Nat.le_trans Z0 sz_b1) ne_xt_tn_5 ne_tt_tn_5 po5_7 ne_xt_b1 ne_tt_b1 Sc hz Sa Sh Sl Sf rGf OL hbb2_5 hkt (by simp only [List.length_append, List.length_cons, List.length_nil] <;> omega)) rfl rfl rfl rfl rfl rfl rfl [(.ref xt)] [] 0 (lenOf pd_49 rfl) rfl (Nat.le_of_eq rfl) (hb hby d86_11) rfl (by decide)
 obtain ⟨tn_9, kn_9, cd2_9, zb2_9, vs2_9, rfl, N9q, Kc9, po9_0, po9_1, po9_2, po9_3, po9_4, po9_5, po9_6, po9_7, po9_8⟩ := hQ9
 have N9 := Fr.app N6 N9q
 obtain ⟨Lf10, X9, N10⟩ := fixL X9 N9 3 52 rfl rfl
 have ne_sq_tn_9 := own_tof po9_0 ne_sq_tn_5 E_sq.lt
 have ne_ls_tn_9 := own_tof po9_0 ne_ls_tn_5 E_ls.lt
 have ne_pa_tn_9 := own_tof po9_0 ne_pa_tn_5 E_pa.lt
 have ne_pta_tn_9 := own_tof po9_0 ne_pta_tn_5 V_pta.lt
 have sz_tn_9 : h0.size ≤ tn_9 := own_tof2 po9_0 sz_tn_5 K5.1
 have tf_tn_9 : tn_9 = tn_5 ∨ h0.size ≤ tn_9 := own_tof3 po9_0 K5.1
 have sf_tn_9 : Safe Z ELs s.vm T5.heap tn_9 := own_tof4 po9_0 sf_tn_5 Safe.new
 have sfk9 := ((sfS sf_b1 (sfS sf_tn_5 sf0)) : ∀ x ∈ [b1, tn_5], Safe Z ELs s.vm T5.heap x)
 replace sf_b1 := Safe.keep Kc9 sfk9 CR.1 sf_b1
 replace sf_tn_9 := Safe.keep Kc9 sfk9 CR.1 sf_tn_9
 replace Fp_sq := Fp_sq.keep Kc9 (ninS ne_sq_b1 (ninS ne_sq_tn_5 nin0))
 replace OL := OL.keep Kc9 (allS (Nat.le_trans Z0 sz_b1) (allS (Nat.le_trans Z0 sz_tn_5) all0))
 replace E_ls := E_ls.keep Kc9
 replace F_e0_ls := F_e0_ls.keep Kc9 (ninS ne_ls_b1 (ninS ne_ls_tn_5 nin0))
 replace F_e1_ls := F_e1_ls.keep Kc9 (ninS ne_ls_b1 (ninS ne_ls_tn_5 nin0))
 replace E_pa := E_pa.keep Kc9
 replace Fv_pa := Fv_pa.keep Kc9 (ninS ne_pa_b1 (ninS ne_pa_tn_5 nin0))
 replace Fc_pa := Fc_pa.keep Kc9 (ninS ne_pa_b1 (ninS ne_pa_tn_5 nin0))
 replace V_pta := V_pta.keep Kc9 (ninS ne_pta_b1 (ninS ne_pta_tn_5 nin0))
 replace CR : CHr Z ELs s.vm h0 s.vm T9.heap := CR.trans (CHr.keep Kc9 sfk9 CR.1)
 replace hk := Nat.le_trans hk Kc9.1
 have K9 := Kt2 K5 Kc9 (Or.inr sz_b1) (Or.inr sz_tn_5)
 have E_b1 := po9_1
 have Fv_b1 := po9_2
 have Fc_b1 := po9_3
 have Fn_b1 := po9_4
 have Fm_b1 := po9_5
 have V_tn_9 := po9_6
 have hbb2_9 := po9_8
 obtain ⟨b11, T11, h11, ki11, bb11, kb11, X11, e11, E11, hS, hk, hZ, hown, lA11, lC11, lV11, lB11, la11, lb11, cC11, lL11, hsf11, st11⟩ := ldcCH X9 hx hZ hown (ww hw 166 rfl) (own_wS hw) rfl hS hk hEL (by decide) CR.1 (vs := [(.int 32)]) (z := (1 : Int32)) ⟨by decide, rfl⟩ (by decide) (by decide) (g := P9.g) rfl (hb hby d86_14) (n := 4) (by decide) (by decide) (by decide) (by decide)
 have P12 := P9.st st11
 replace sf_b1 := cC11.safe E_b1.lt sf_b1
 replace sf_tn_9 := cC11.safe V_tn_9.lt sf_tn_9
 replace Fp_sq := Fp_sq.ext E11
 replace OL := OL.ext E11
 replace E_ls := E_ls.ext E11
 replace F_e0_ls := F_e0_ls.ext E11
 replace F_e1_ls := F_e1_ls.ext E11
 replace E_pa := E_pa.ext E11
 replace Fv_pa := Fv_pa.ext E11
 replace Fc_pa := Fc_pa.ext E11
 replace V_pta := V_pta.ext E11
 replace E_b1 := E_b1.ext E11
 replace Fv_b1 := Fv_b1.ext E11
 replace Fc_b1 := Fc_b1.ext E11
 replace Fn_b1 := Fn_b1.ext E11
 replace Fm_b1 := Fm_b1.ext E11
 replace V_tn_9 := V_tn_9.ext E11
 replace CR : CHr Z ELs s.vm h0 T11.vm h11 := CR.trans cC11
 have K11 := K9.ext E11
 obtain ⟨Lf13, X11, N13⟩ := fixL X11 N10 5 60 rfl rfl
 have E_b11 : Exa Z h11 b11 cS := lA11
 have Fc_b11 : Fld Z h11 b11 cS "coder" "B" i0 := lC11
 have Fv_b11 : Fld Z h11 b11 cS "value" "[B" (.ref bb11) := lV11
 have V_bb11 : Arv Z h11 bb11 kb11 .byte 1 [(.int 32)] i0 := lB11
 have ne_b1_b11 : b1 ≠ b11 := (hsf11 _ sf_b1).1
 have ne_b1_bb11 : b1 ≠ bb11 := (hsf11 _ sf_b1).2
 have ne_tn_9_b11 : tn_9 ≠ b11 := (hsf11 _ sf_tn_9).1
 have ne_tn_9_bb11 : tn_9 ≠ bb11 := (hsf11 _ sf_tn_9).2
 obtain ⟨_, T14, L14, X14, hQ14, P14⟩ := cVi P12 X11 hx hZ hown hw e11 E_b1 hml 119 122 121 123 103 (rm_sbApp hw b1 tn_9 kn_9 cd2_9 zb2_9 vs2_9 (([] : List Int32) ++ tcs) b11 bb11 kb11 (0 : Int32) (1 : Int32) ([(.int 32)] : List Value) ([32] : List Int32) G1 Gf (zT Z0 K11.1) E_b1 Fv_b1 Fc_b1 Fn_b1 Fm_b1 V_tn_9 E_b11 Fv_b11 Fc_b11 V_bb11 (Nat.le_trans Z0 sz_tn_9) (Nat.le_trans Z0 sz_b1) (Ne.symm ne_tn_9_b11) (Ne.symm ne_tn_9_bb11) po9_7 (Ne.symm ne_b1_b11) (Ne.symm ne_b1_bb11) Sc hz Sa Sh Sl Sf rGf OL hbb2_9 own_kb32 (by simp only [List.length_append, List.length_cons, List.length_nil] <;> omega)) rfl rfl rfl rfl rfl rfl rfl [(.ref b11)] [] 0 (lenOf pd_49 rfl) rfl (Nat.le_of_eq rfl) (hb hby d86_16) rfl (by decide)
 obtain ⟨tn_14, kn_14, cd2_14, zb2_14, vs2_14, rfl, N14q, Kc14, po14_0, po14_1, po14_2, po14_3, po14_4, po14_5, po14_6, po14_7, po14_8⟩ := hQ14
 have N14 := Fr.app N13 N14q
 obtain ⟨Lf15, X14, N15⟩ := fixL X14 N14 6 92 rfl rfl
 have sz_tn_14 : h0.size ≤ tn_14 := own_tof2 po14_0 sz_tn_9 K11.1
 have tf_tn_14 : tn_14 = tn_9 ∨ h0.size ≤ tn_14 := own_tof3 po14_0 K11.1
 have sf_tn_14 : Safe Z ELs T11.vm h11 tn_14 := own_tof4 po14_0 sf_tn_9 Safe.new
 have sfk14 := ((sfS sf_b1 (sfS sf_tn_9 sf0)) : ∀ x ∈ [b1, tn_9], Safe Z ELs T11.vm h11 x)
 replace sf_b1 := Safe.keep Kc14 sfk14 CR.1 sf_b1
 replace sf_tn_14 := Safe.keep Kc14 sfk14 CR.1 sf_tn_14
 replace Fp_sq := Fp_sq.keep Kc14 (ninS ne_sq_b1 (ninS ne_sq_tn_9 nin0))
 replace OL := OL.keep Kc14 (allS (Nat.le_trans Z0 sz_b1) (allS (Nat.le_trans Z0 sz_tn_9) all0))
 replace E_ls := E_ls.keep Kc14
 replace F_e0_ls := F_e0_ls.keep Kc14 (ninS ne_ls_b1 (ninS ne_ls_tn_9 nin0))
 replace F_e1_ls := F_e1_ls.keep Kc14 (ninS ne_ls_b1 (ninS ne_ls_tn_9 nin0))
 replace E_pa := E_pa.keep Kc14
 replace Fv_pa := Fv_pa.keep Kc14 (ninS ne_pa_b1 (ninS ne_pa_tn_9 nin0))
 replace Fc_pa := Fc_pa.keep Kc14 (ninS ne_pa_b1 (ninS ne_pa_tn_9 nin0))
 replace V_pta := V_pta.keep Kc14 (ninS ne_pta_b1 (ninS ne_pta_tn_9 nin0))
 replace CR : CHr Z ELs s.vm h0 T11.vm T14.heap := CR.trans (CHr.keep Kc14 sfk14 CR.1)
 replace hk := Nat.le_trans hk Kc14.1
 have K14 := Kt2 K11 Kc14 (Or.inr sz_b1) (Or.inr sz_tn_9)
 have E_b1 := po14_1
 have Fv_b1 := po14_2
 have Fc_b1 := po14_3
 have Fn_b1 := po14_4
 have Fm_b1 := po14_5
 have V_tn_14 := po14_6
 have hbb2_14 := po14_8
 have P16 := P14.bt X14 hx hby b299_ rfl
 obtain ⟨T17, X17, e17, P17⟩ := gF P16 X14 hx hZ hown hw 92 rfl Fp_sq (hb hby d86_20)
 obtain ⟨_, T18, L18, X18, hQ18, P18⟩ := cVi P17 X17 hx hZ hown hw e17 E_b1 hml 169 172 171 173 103 (rm_sbAppL1 hw b1 tn_14 kn_14 cd2_14 zb2_14 vs2_14 ((([] : List Int32) ++ tcs) ++ ([32] : List Int32)) G1 Gf ls em pa pta pka pca pza pva qa (zT Z0 K14.1) E_b1 Fv_b1 Fc_b1 Fn_b1 Fm_b1 V_tn_14 (Nat.le_trans Z0 sz_tn_14) (Nat.le_trans Z0 sz_b1) po14_7 Sc hz Sa Sh Sl Sf rGf OL hbb2_14 (by simp only [List.length_append, List.length_cons, List.length_nil] <;> omega) E_ls F_e0_ls F_e1_ls Se E_pa Fv_pa Fc_pa V_pta hka ne_pa_ls) rfl rfl rfl rfl rfl rfl rfl [(.ref ls)] [] 0 (lenOf pd_53 rfl) rfl (Nat.le_of_eq rfl) (hb hby d86_23) rfl (by decide)
 obtain ⟨tn_18, kn_18, cd2_18, zb2_18, vs2_18, rfl, N18q, Kc18, po18_0, po18_1, po18_2, po18_3, po18_4, po18_5, po18_6, po18_7, po18_8⟩ := hQ18
 have N18 := Fr.app N15 N18q
 obtain ⟨Lf19, X18, N19⟩ := fixL X18 N18 13 216 rfl rfl
 have tf_tn_18 : tn_18 = tn_14 ∨ h0.size ≤ tn_18 := own_tof3 po18_0 K14.1
 have sfk18 := ((sfS sf_b1 (sfS sf_tn_14 sf0)) : ∀ x ∈ [b1, tn_14], Safe Z ELs T11.vm T14.heap x)
 replace OL := OL.keep Kc18 (allS (Nat.le_trans Z0 sz_b1) (allS (Nat.le_trans Z0 sz_tn_14) all0))
 replace CR : CHr Z ELs s.vm h0 T11.vm T18.heap := CR.trans (CHr.keep Kc18 sfk18 CR.1)
 replace hk := Nat.le_trans hk Kc18.1
 have K18 := Kt2 K14 Kc18 (Or.inr sz_b1) (Or.inr sz_tn_14)
 have E_b1 := po18_1
 have Fv_b1 := po18_2
 have Fc_b1 := po18_3
 have Fn_b1 := po18_4
 have Fm_b1 := po18_5
 have V_tn_18 := po18_6
 have hbb2_18 := po18_8
 obtain ⟨_, T20, L20, X20, hQ20, P20⟩ := cVi P18 X18 hx hZ hown hw rfl E_b1 hml 225 228 227 229 103 (rm_sbStr hw b1 tn_18 kn_18 cd2_18 zb2_18 vs2_18 (((([] : List Int32) ++ tcs) ++ ([32] : List Int32)) ++ [(91 : Int32), qa, 93]) G1 Gf (zT Z0 K18.1) E_b1 Fv_b1 Fc_b1 Fn_b1 Fm_b1 V_tn_18 Sc hz Sa Sh Sl Sf rGf OL hbb2_18 (by simp only [List.length_append, List.length_cons, List.length_nil] <;> omega)) rfl rfl rfl rfl rfl rfl rfl [] [] 0 (lenOf pd_47 rfl) rfl (Nat.le_of_eq rfl) (hb hby d86_26) rfl (by decide)
 obtain ⟨xs_20, ts_20, ks_20, ce_20, ze_20, wv_20, rfl, N20q, Kc20, po20_0, po20_1, po20_2, po20_3, po20_4, po20_5, po20_6⟩ := hQ20
 have N20 := Fr.app N19 N20q
 obtain ⟨Lf21, X20, N21⟩ := fixL X20 N20 15 252 rfl rfl
 have sfk20 := (sf0 : ∀ x ∈ [], Safe Z ELs T11.vm T18.heap x)
 replace CR : CHr Z ELs s.vm h0 T11.vm T20.heap := CR.trans (CHr.keep Kc20 sfk20 CR.1)
 replace hk := Nat.le_trans hk Kc20.1
 have K20 := K18.trans Kc20 all0
 have E_xs_20 := po20_2
 have Fv_xs_20 := po20_3
 have Fc_xs_20 := po20_4
 have V_ts_20 := po20_5
 have hkb_20 := po20_6
 subst hs0
 obtain ⟨fs_, hr, hrun, hended, hREW⟩ := X20.leaveW hS hk (v := some (.ref xs_20)) (fun h => by rw [Bd.returns] at h; cases h)
 have CRT := CR.trans (CHv.at X20 hZ hEL CR.1)
 refine ⟨_, _, P20 _ ?_, hrun, hended, _, _, rfl, ?_, ?_, hREW.1, hREW.2.1, hREW.2.2.1, hREW.2.2.2.mono (by decide) (by decide)⟩
 · show GG p e below T20 (mkF m 29 #[rv sq] [(.ref xs_20)]) _
   jvm_step X20.here [X20.here.top, hx, (hb hby d86_29), X20.method', Bd.returns, Value.isRef, FieldType.isReference]
   first | (intro acts; rw [hr _ acts rfl rfl rfl]) | rw [hr _ _ rfl rfl rfl]
   exact Steps.refl _
 · show Q_sqStr1 Z sq xt tt kt ct zt vt tcs ls em pa pta pka pca pza pva qa G1 Gf h0 n0 _ T20.heap _
   exact ⟨xs_20, ts_20, ks_20, ce_20, ze_20, wv_20, rfl, N21, K20, E_xs_20, Fv_xs_20, Fc_xs_20, V_ts_20, (by have q := hkb_20; simpa only [List.nil_append, List.append_assoc, List.cons_append] using q)⟩
 · show CHr Z ELs s.vm s.heap T20.vm T20.heap
   rw [hh]
   exact CRT
def Q_sqInit2 (Z : State) (sq xt al : Addr) (m1 ar : Int32) (u1 u2 u3 : Value) (ed : Addr) (ked : ClassId) (pa pb mr em : Addr) : QT := fun h0 n0 v h L => ∃ (ls : Addr), v = none ∧ Fr n0 L ∧ Keep h0 h [sq] ∧ (h0.size ≤ ls) ∧ (Exa Z h ls cL2) ∧ (Fld Z h ls cL2 "e0" dO (.ref pa)) ∧ (Fld Z h ls cL2 "e1" dO (.ref pb)) ∧ (Exa Z h sq cQ) ∧ (Fld Z h sq cQ "text" dS (.ref xt)) ∧ (Fld Z h sq cQ "parameters" dL (.ref ls))
theorem rm_sqInit2 (hw : HW a0 Z) (sq xt al : Addr) (m1 ar : Int32) (u1 u2 u3 : Value) (ed : Addr) (ked : ClassId) (pa pb mr em : Addr) (Z0 : n0 ≤ h0.size) (E_sq : Exa Z h0 sq cQ) (F_text_sq : Fld Z h0 sq cQ "text" dS u1) (Fp_sq : Fld Z h0 sq cQ "parameters" dL u2) (F_arity_sq : Fld Z h0 sq cQ "arity" "I" u3) (g_sq : n0 ≤ sq) (ne_al_sq : al ≠ sq) (E_al : Exa Z h0 al cAL) (Fe_al : Fld Z h0 al cAL "elementData" dOA (.ref ed)) (Fz_al : Fld Z h0 al cAL "size" "I" (.int 2)) (Fd_al : Fld Z h0 al cAb "modCount" "I" (.int m1)) (V_ed : Arv Z h0 ed ked tOb (10 : Int32) [(.ref pa), (.ref pb), .null, .null, .null, .null, .null, .null, .null, .null] .null) (E_ed : Exa Z h0 ed dOA) (MIR : MirW Z dOA mr) (Se : SU6 Z em) (OL : Old Z n0 h0) (E_pa : Exa Z h0 pa cS) (E_pb : Exa Z h0 pb cS) (ne_ed_sq : ed ≠ sq) (ne_pa_sq : pa ≠ sq) (ne_pb_sq : pb ≠ sq) :
  MetP l Z mn_93 k85_ 4 none (rr 8 2 4 102) ws #[(.ref sq), (.ref xt), (.ref al), (.int ar)] h0 (Q_sqInit2 Z sq xt al m1 ar u1 u2 u3 ed ked pa pb mr em h0 n0) := by
 refine begH n0 cQ rfl (plainFor_of_name pn_18) fun p e s m below meth c s₁ s0 hrt hlk hZ hx hby hml hown hnm X0 e0 N0 P0 => ?_
 replace P0 : PP p e below s₁ (mkF m 0 #[rv sq, rv xt, rv al, iv ar] []) s0 := castPP (ef_47 m sq xt al ar) P0
 have P1 := P0.bt X0 hx hby b293_ rfl
 obtain ⟨T2, X2, e2, st2⟩ := initO X0 hx hZ hown (ww hw 60 rfl) (ww hw 12 rfl) (ww hw 13 rfl) e0 (g := P1.g) rfl (by rw [hml]; rfl) rfl (hb hby d85_1) (by decide) (W := 0) (by show 2 * 0 + _ ≤ _; exact Nat.le_of_eq rfl) (by decide)
 have P3 := P1.st st2
 have P4 : PP p e below T2 (mkF m 6 #[rv sq, rv xt, rv al, iv ar] [(.ref xt), (.ref sq)]) s0 := fun q_ k_ => P3 q_ (by
  exact bt X2 hx hby b294_ rfl k_)
 obtain ⟨T5, h5, X5, e5, W5, st5⟩ := putF X2 hx hZ hown (host := "") (Or.inl (ww hw 61 rfl)) Via.refl e2 F_text_sq E_sq (Or.inr ⟨(ww hw 62 rfl), rfl, hnm⟩) (ww hw 55 rfl) (ty := (.object cS)) (by decide) rfl rfl (g := P4.g) rfl rfl (hb hby d85_6)
 have P6 := P4.st st5
 have N5 := Fr.snoc X5 N0 g_sq
 have K5 := (Keep.refl h0 [sq]).wr W5 (Or.inl (mi 0))
 replace E_sq := E_sq.wr W5
 replace F_text_sq : Fld Z h5 sq cQ "text" dS (.ref xt) := F_text_sq.same W5
 replace Fp_sq := Fp_sq.other W5 (Or.inr (slot_ne (Or.inr (ww hw 93 rfl)) (Or.inr (ww hw 62 rfl)) (by decide) (t := (.object "java/util/List")) (t' := (.object cS)) (by decide) (by decide)))
 replace F_arity_sq := F_arity_sq.other W5 (Or.inr (slot_ne (Or.inr (ww hw 95 rfl)) (Or.inr (ww hw 62 rfl)) (by decide) (t := .int) (t' := (.object cS)) (by decide) (by decide)))
 replace E_al := E_al.wr W5
 replace Fe_al := Fe_al.other W5 (Or.inl ne_al_sq)
 replace Fz_al := Fz_al.other W5 (Or.inl ne_al_sq)
 replace Fd_al := Fd_al.other W5 (Or.inl ne_al_sq)
 replace V_ed := V_ed.other W5 ne_ed_sq
 replace E_ed := E_ed.wr W5
 replace OL := OL.wr W5 g_sq
 replace E_pa := E_pa.wr W5
 replace E_pb := E_pb.wr W5
 have P7 := P6.bt X5 hx hby b295_ rfl
 obtain ⟨_, T8, L8, X8, hQ8, P8⟩ := cSt P7 X5 hx hZ hown hw e5 hml 63 64 65 66 (rm_cpOf2 hw al m1 mr em ed ked pa pb (zT Z0 K5.1) E_al Fe_al Fz_al Fd_al V_ed E_ed MIR Se OL E_pa E_pb) rfl rfl rfl rfl rfl rfl [(.ref al)] [(.ref sq)] 1 (lenOf pd_38 rfl) rfl (Nat.le_of_eq rfl) (hb hby d85_11) rfl (by decide)
 obtain ⟨ls_8, rfl, N8q, Kc8, po8_0, po8_1, po8_2, po8_3⟩ := hQ8
 have N8 := Fr.app N5 N8q
 obtain ⟨Lf9, X8, N9⟩ := fixL X8 N8 2 4 rfl rfl
 have ne_sq_ls_8 := neL E_sq.lt po8_0
 have sz_ls_8 : h0.size ≤ ls_8 := Nat.le_trans K5.1 po8_0
 replace E_sq := E_sq.keep Kc8
 replace F_text_sq := F_text_sq.keep Kc8 nin0
 replace Fp_sq := Fp_sq.keep Kc8 nin0
 replace F_arity_sq := F_arity_sq.keep Kc8 nin0
 have K8 := K5.trans Kc8 all0
 have E_ls_8 := po8_1
 have F_e0_ls_8 := po8_2
 have F_e1_ls_8 := po8_3
 obtain ⟨T10, h10, X10, e10, W10, st10⟩ := putF X8 hx hZ hown (host := "") (Or.inl (ww hw 92 rfl)) Via.refl rfl Fp_sq E_sq (Or.inr ⟨(ww hw 93 rfl), rfl, hnm⟩) (ww hw 55 rfl) (ty := (.object "java/util/List")) (by decide) rfl rfl (g := P8.g) rfl rfl (hb hby d85_14)
 have P11 := P8.st st10
 have N10 := Fr.snoc X10 N9 g_sq
 have K10 := K8.wr W10 (Or.inl (mi 0))
 replace E_sq := E_sq.wr W10
 replace F_text_sq := F_text_sq.other W10 (Or.inr (slot_ne (Or.inr (ww hw 62 rfl)) (Or.inr (ww hw 93 rfl)) (by decide) (t := (.object cS)) (t' := (.object "java/util/List")) (by decide) (by decide)))
 replace Fp_sq : Fld Z h10 sq cQ "parameters" dL (.ref ls_8) := Fp_sq.same W10
 replace F_arity_sq := F_arity_sq.other W10 (Or.inr (slot_ne (Or.inr (ww hw 95 rfl)) (Or.inr (ww hw 93 rfl)) (by decide) (t := .int) (t' := (.object "java/util/List")) (by decide) (by decide)))
 replace E_ls_8 := E_ls_8.wr W10
 replace F_e0_ls_8 := F_e0_ls_8.other W10 (Or.inl (Ne.symm ne_sq_ls_8))
 replace F_e1_ls_8 := F_e1_ls_8.other W10 (Or.inl (Ne.symm ne_sq_ls_8))
 have P12 : PP p e below T10 (mkF m 19 #[rv sq, rv xt, rv al, iv ar] [(.int ar), (.ref sq)]) s0 := fun q_ k_ => P11 q_ (by
  exact bt X10 hx hby b296_ rfl k_)
 obtain ⟨T13, h13, X13, e13, W13, st13⟩ := putF X10 hx hZ hown (host := "") (Or.inl (ww hw 94 rfl)) Via.refl e10 F_arity_sq E_sq (Or.inr ⟨(ww hw 95 rfl), rfl, hnm⟩) (ww hw 55 rfl) (ty := .int) (by decide) rfl rfl (g := P12.g) rfl rfl (hb hby d85_19)
 have P14 := P12.st st13
 have N13 := Fr.snoc X13 N10 g_sq
 have K13 := K10.wr W13 (Or.inl (mi 0))
 replace E_sq := E_sq.wr W13
 replace F_text_sq := F_text_sq.other W13 (Or.inr (slot_ne (Or.inr (ww hw 62 rfl)) (Or.inr (ww hw 95 rfl)) (by decide) (t := (.object cS)) (t' := .int) (by decide) (by decide)))
 replace Fp_sq := Fp_sq.other W13 (Or.inr (slot_ne (Or.inr (ww hw 93 rfl)) (Or.inr (ww hw 95 rfl)) (by decide) (t := (.object "java/util/List")) (t' := .int) (by decide) (by decide)))
 replace E_ls_8 := E_ls_8.wr W13
 replace F_e0_ls_8 := F_e0_ls_8.other W13 (Or.inl (Ne.symm ne_sq_ls_8))
 replace F_e1_ls_8 := F_e1_ls_8.other W13 (Or.inl (Ne.symm ne_sq_ls_8))
 exact endV 22 #[rv sq, rv xt, rv al, iv ar] X13 hx hrt hlk P14 (hb hby d85_22) e13 (by decide) (by decide) (show Q_sqInit2 Z sq xt al m1 ar u1 u2 u3 ed ked pa pb mr em h0 n0 _ _ _ from ⟨ls_8, rfl, N13, K13, sz_ls_8, E_ls_8, F_e0_ls_8, F_e1_ls_8, E_sq, F_text_sq, Fp_sq⟩)
def Q_sqStr2 (Z : State) (sq xt tt : Addr) (kt : ClassId) (ct zt : Int32) (vt : List Value) (tcs : List Int32) (ls em pa pta : Addr) (pka : ClassId) (pca pza : Int32) (pva : List Value) (qa : Int32) (pb ptb : Addr) (pkb : ClassId) (pcb pzb : Int32) (pvb : List Value) (qb G1 : Int32) (Gf : Value) : QT := fun h0 n0 v h L => ∃ (xs : Addr) (ts : Addr) (ks : ClassId) (ce : Int32) (ze : Int32) (wv : List Value), v = some (.ref xs) ∧ Fr n0 L ∧ Keep h0 h [] ∧ (Exa Z h xs cS) ∧ (Fld Z h xs cS "value" "[B" (.ref ts)) ∧ (Fld Z h xs cS "coder" "B" (.int ce)) ∧ (Arv Z h ts ks .byte ze wv i0) ∧ (KB ce ze wv (tcs ++ [(32 : Int32), 91, qa, 44, 32, qb, 93]))
theorem rm_sqStr2 (hw : HW a0 Z) (hEL : EW Z a0 ELs) (sq xt tt : Addr) (kt : ClassId) (ct zt : Int32) (vt : List Value) (tcs : List Int32) (ls em pa pta : Addr) (pka : ClassId) (pca pza : Int32) (pva : List Value) (qa : Int32) (pb ptb : Addr) (pkb : ClassId) (pcb pzb : Int32) (pvb : List Value) (qb G1 : Int32) (Gf : Value) (Z0 : n0 ≤ h0.size) (E_sq : Exa Z h0 sq cQ) (F_text_sq : Fld Z h0 sq cQ "text" dS (.ref xt)) (Fp_sq : Fld Z h0 sq cQ "parameters" dL (.ref ls)) (E_xt : Exa Z h0 xt cS) (Fv_xt : Fld Z h0 xt cS "value" "[B" (.ref tt)) (Fc_xt : Fld Z h0 xt cS "coder" "B" (.int ct)) (V_tt : Arv Z h0 tt kt .byte zt vt i0) (hkt : KB ct zt vt tcs) (htl2 : tcs.length ≤ 2) (Sc : SU4 Z G1) (hz : ¬ G1 = 0) (Sa : SU1 Z) (Sh : SU2 Z) (Sl : SU3 Z) (Sf : SU5 Z Gf) (rGf : Gf.isRef = true) (OL : Old Z n0 h0) (E_ls : Exa Z h0 ls cL2) (F_e0_ls : Fld Z h0 ls cL2 "e0" dO (.ref pa)) (F_e1_ls : Fld Z h0 ls cL2 "e1" dO (.ref pb)) (Se : SU6 Z em) (ne_pb_em : pb ≠ em) (E_pa : Exa Z h0 pa cS) (Fv_pa : Fld Z h0 pa cS "value" "[B" (.ref pta)) (Fc_pa : Fld Z h0 pa cS "coder" "B" (.int pca)) (V_pta : Arv Z h0 pta pka .byte pza pva i0) (hka : KB pca pza pva [qa]) (E_pb : Exa Z h0 pb cS) (Fv_pb : Fld Z h0 pb cS "value" "[B" (.ref ptb)) (Fc_pb : Fld Z h0 pb cS "coder" "B" (.int pcb)) (V_ptb : Arv Z h0 ptb pkb .byte pzb pvb i0) (hkb : KB pcb pzb pvb [qb]) (ne_pa_ls : pa ≠ ls) (ne_pb_ls : pb ≠ ls) :
  MetQ l Z mn_94 k86_ 1 (some (.object cS)) (rr 14 16 284 197) ws #[(.ref sq)] h0 ELs (Q_sqStr2 Z sq xt tt kt ct zt vt tcs ls em pa pta pka pca pza pva qa pb ptb pkb pcb pzb pvb qb G1 Gf h0 n0) := by
 refine MetFree.of_bodySF (plainFor_of_name pn_18) hisR ?_
 intro p e s m args below meth c s₁ Bd hml0 hP hK; obtain ⟨rfl, hZ, hh, hCH⟩ := hP; have hx := Bd.exec; have hby := Bd.bytes; have hml : c.maxLocals = 1 := hml0
 have hown : s.vm.findClass cQ = some m.cls := findClass_of_methodNamed Bd.named
 have X0 : Stand p l e (rr 14 16 284 197) (s.setVm s.vm) m #[(.ref sq)] below meth c s₁ [] 0 0 := Stand.of_body Bd
 replace hZ : Z.Warmed39 (s.setVm s.vm).vm := hZ
 replace hown : (s.setVm s.vm).vm.findClass cQ = some m.cls := hown
 have hS : s.Since s.vm 0 := (State.WarmedH.refl s).since 0
 have hk : 0 ≤ h0.size := Nat.zero_le _
 have CR : CHr Z ELs s.vm h0 s.vm h0 := CHr.refl hCH
 have e0 : s₁.heap = h0 := by rw [← hh, Bd.state]; rfl
 have N0 := Fr.nil n0
 obtain ⟨s0, hs0⟩ := exi (s₁.setTop (entryFrame m #[(.ref sq)] 1))
 have P0 : PP p e below s₁ (mkF m 0 #[rv sq] []) s0 := fun q_ k_ => by rw [hs0]; exact castTop (ef_4 m sq) k_
 obtain ⟨T1, h1, X1, e1, E1, A1, D1, -, st1⟩ := newO X0 hx hZ hown (ww hw 101 rfl) (ww hw 102 rfl) (ww hw 103 rfl) e0 (g := P0.g) rfl (hb hby d86_0) (by decide) (by decide)
 obtain ⟨b1, g1⟩ : ∃ z, z = h0.size := ⟨_, rfl⟩
 rw [← g1] at A1 D1 st1
 have P2 := P0.st st1
 have ne_sq_b1 := neL E_sq.lt (Nat.le_of_eq g1.symm)
 have ne_xt_b1 := neL E_xt.lt (Nat.le_of_eq g1.symm)
 have ne_tt_b1 := neL V_tt.lt (Nat.le_of_eq g1.symm)
 have ne_ls_b1 := neL E_ls.lt (Nat.le_of_eq g1.symm)
 have ne_pa_b1 := neL E_pa.lt (Nat.le_of_eq g1.symm)
 have ne_pta_b1 := neL V_pta.lt (Nat.le_of_eq g1.symm)
 have ne_pb_b1 := neL E_pb.lt (Nat.le_of_eq g1.symm)
 have ne_ptb_b1 := neL V_ptb.lt (Nat.le_of_eq g1.symm)
 have sz_b1 : h0.size ≤ b1 := Nat.le_trans (Nat.le_refl h0.size) (Nat.le_of_eq g1.symm)
 have sf_b1 : Safe Z ELs s.vm h0 b1 := Safe.new (Nat.le_of_eq g1.symm)
 replace sf_b1 := Safe.ext E1 CR.1 sf_b1
 replace E_sq := E_sq.ext E1
 replace F_text_sq := F_text_sq.ext E1
 replace Fp_sq := Fp_sq.ext E1
 replace E_xt := E_xt.ext E1
 replace Fv_xt := Fv_xt.ext E1
 replace Fc_xt := Fc_xt.ext E1
 replace V_tt := V_tt.ext E1
 replace OL := OL.ext E1
 replace E_ls := E_ls.ext E1
 replace F_e0_ls := F_e0_ls.ext E1
 replace F_e1_ls := F_e1_ls.ext E1
 replace E_pa := E_pa.ext E1
 replace Fv_pa := Fv_pa.ext E1
 replace Fc_pa := Fc_pa.ext E1
 replace V_pta := V_pta.ext E1
 replace E_pb := E_pb.ext E1
 replace Fv_pb := Fv_pb.ext E1
 replace Fc_pb := Fc_pb.ext E1
 replace V_ptb := V_ptb.ext E1
 replace CR : CHr Z ELs s.vm h0 s.vm h1 := CR.trans (CHr.ext E1 CR.1)
 replace hk := Nat.le_trans hk E1.1
 have K1 := (Keep.refl h0 []).ext E1
 obtain ⟨Lf3, X1, N3⟩ := fixL X1 N0 1 4 rfl rfl
 have E_b1 : Exa Z h1 b1 cB := A1
 have Fv_b1 : Fld Z h1 b1 cA "value" "[B" .null := D1 (Or.inl (ww hw 116 rfl)) (ty := (.array .byte)) (by decide)
 have Fc_b1 : Fld Z h1 b1 cA "coder" "B" i0 := D1 (Or.inl (ww hw 118 rfl)) (ty := .byte) (by decide)
 have Fn_b1 : Fld Z h1 b1 cA "count" "I" i0 := D1 (Or.inl (ww hw 140 rfl)) (ty := .int) (by decide)
 have Fm_b1 : Fld Z h1 b1 cA "maybeLatin1" "Z" i0 := D1 (Or.inl (ww hw 484 rfl)) (ty := .boolean) (by decide)
 have P4 := P2.bt X1 hx hby b297_ rfl
 obtain ⟨_, T5, L5, X5, hQ5, P5⟩ := cIn P4 X1 hx hZ hown hw e1 hml 104 105 106 103 (rm_sbInit hw b1 .null i0 G1 (zT Z0 K1.1) E_b1 Fv_b1 Fc_b1 Fn_b1 Fm_b1 (Nat.le_trans Z0 sz_b1) Sc OL hz) rfl rfl rfl rfl rfl rfl rfl [] [(.ref b1)] 1 (lenOf pd_24 rfl) rfl (Nat.le_of_eq rfl) (hb hby d86_4) rfl (by decide)
 obtain ⟨tn_5, kn_5, cd2_5, zb2_5, vs2_5, rfl, N5q, Kc5, po5_0, po5_1, po5_2, po5_3, po5_4, po5_5, po5_6, po5_7, po5_8⟩ := hQ5
 have N5 := Fr.app N3 N5q
 obtain ⟨Lf6, X5, N6⟩ := fixL X5 N5 2 20 rfl rfl
 have ne_sq_tn_5 := neL E_sq.lt po5_0
 have ne_xt_tn_5 := neL E_xt.lt po5_0
 have ne_tt_tn_5 := neL V_tt.lt po5_0
 have ne_ls_tn_5 := neL E_ls.lt po5_0
 have ne_pa_tn_5 := neL E_pa.lt po5_0
 have ne_pta_tn_5 := neL V_pta.lt po5_0
 have ne_pb_tn_5 := neL E_pb.lt po5_0
 have ne_ptb_tn_5 := neL V_ptb.lt po5_0
 have sz_tn_5 : h0.size ≤ tn_5 := Nat.le_trans K1.1 po5_0
 have sf_tn_5 : Safe Z ELs s.vm h1 tn_5 := Safe.new po5_0
 have sfk5 := ((sfS sf_b1 sf0) : ∀ x ∈ [b1], Safe Z ELs s.vm h1 x)
 replace sf_b1 := Safe.keep Kc5 sfk5 CR.1 sf_b1
 replace sf_tn_5 := Safe.keep Kc5 sfk5 CR.1 sf_tn_5
 replace E_sq := E_sq.keep Kc5
 replace F_text_sq := F_text_sq.keep Kc5 (ninS ne_sq_b1 nin0)
 replace Fp_sq := Fp_sq.keep Kc5 (ninS ne_sq_b1 nin0)
 replace E_xt := E_xt.keep Kc5
 replace Fv_xt := Fv_xt.keep Kc5 (ninS ne_xt_b1 nin0)
 replace Fc_xt := Fc_xt.keep Kc5 (ninS ne_xt_b1 nin0)
 replace V_tt := V_tt.keep Kc5 (ninS ne_tt_b1 nin0)
 replace OL := OL.keep Kc5 (allS (Nat.le_trans Z0 sz_b1) all0)
 replace E_ls := E_ls.keep Kc5
 replace F_e0_ls := F_e0_ls.keep Kc5 (ninS ne_ls_b1 nin0)
 replace F_e1_ls := F_e1_ls.keep Kc5 (ninS ne_ls_b1 nin0)
 replace E_pa := E_pa.keep Kc5
 replace Fv_pa := Fv_pa.keep Kc5 (ninS ne_pa_b1 nin0)
 replace Fc_pa := Fc_pa.keep Kc5 (ninS ne_pa_b1 nin0)
 replace V_pta := V_pta.keep Kc5 (ninS ne_pta_b1 nin0)
 replace E_pb := E_pb.keep Kc5
 replace Fv_pb := Fv_pb.keep Kc5 (ninS ne_pb_b1 nin0)
 replace Fc_pb := Fc_pb.keep Kc5 (ninS ne_pb_b1 nin0)
 replace V_ptb := V_ptb.keep Kc5 (ninS ne_ptb_b1 nin0)
 replace CR : CHr Z ELs s.vm h0 s.vm T5.heap := CR.trans (CHr.keep Kc5 sfk5 CR.1)
 replace hk := Nat.le_trans hk Kc5.1
 have K5 := Kt1 K1 Kc5 (Or.inr sz_b1)
 have E_b1 := po5_1
 have Fv_b1 := po5_2
 have Fc_b1 := po5_3
 have Fn_b1 := po5_4
 have Fm_b1 := po5_5
 have V_tn_5 := po5_6
 have hbb2_5 := po5_8
 have P7 : PP p e below T5 (mkF m 8 #[rv sq] [(.ref sq), (.ref b1)]) s0 := fun q_ k_ => P5 q_ (by
  exact bt X5 hx hby b298_ rfl k_)
 obtain ⟨T8, X8, e8, P8⟩ := gF P7 X5 hx hZ hown hw 61 rfl F_text_sq (hb hby d86_8)
 obtain ⟨_, T9, L9, X9, hQ9, P9⟩ := cVi P8 X8 hx hZ hown hw e8 E_b1 hml 119 122 121 123 103 (rm_sbApp hw b1 tn_5 kn_5 cd2_5 zb2_5 vs2_5 ([] : List Int32) xt tt kt ct zt vt tcs G1 Gf (zT Z0 K5.1) E_b1 Fv_b1 Fc_b1 Fn_b1 Fm_b1 V_tn_5 E_xt Fv_xt Fc_xt V_tt (Nat.le_trans Z0 sz_tn_5) (Nat.le_trans Z0 sz_b1) ne_xt_tn_5 ne_tt_tn_5 po5_7 ne_xt_b1 ne_tt_b1 Sc hz Sa Sh Sl Sf rGf OL hbb2_5 hkt (by simp only [List.length_append, List.length_cons, List.length_nil] <;> omega)) rfl rfl rfl rfl rfl rfl rfl [(.ref xt)] [] 0 (lenOf pd_49 rfl) rfl (Nat.le_of_eq rfl) (hb hby d86_11) rfl (by decide)
 obtain ⟨tn_9, kn_9, cd2_9, zb2_9, vs2_9, rfl, N9q, Kc9, po9_0, po9_1, po9_2, po9_3, po9_4, po9_5, po9_6, po9_7, po9_8⟩ := hQ9
 have N9 := Fr.app N6 N9q
 obtain ⟨Lf10, X9, N10⟩ := fixL X9 N9 3 52 rfl rfl
 have ne_sq_tn_9 := own_tof po9_0 ne_sq_tn_5 E_sq.lt
 have ne_ls_tn_9 := own_tof po9_0 ne_ls_tn_5 E_ls.lt
 have ne_pa_tn_9 := own_tof po9_0 ne_pa_tn_5 E_pa.lt
 have ne_pta_tn_9 := own_tof po9_0 ne_pta_tn_5 V_pta.lt
 have ne_pb_tn_9 := own_tof po9_0 ne_pb_tn_5 E_pb.lt
 have ne_ptb_tn_9 := own_tof po9_0 ne_ptb_tn_5 V_ptb.lt
 have sz_tn_9 : h0.size ≤ tn_9 := own_tof2 po9_0 sz_tn_5 K5.1
 have tf_tn_9 : tn_9 = tn_5 ∨ h0.size ≤ tn_9 := own_tof3 po9_0 K5.1
 have sf_tn_9 : Safe Z ELs s.vm T5.heap tn_9 := own_tof4 po9_0 sf_tn_5 Safe.new
 have sfk9 := ((sfS sf_b1 (sfS sf_tn_5 sf0)) : ∀ x ∈ [b1, tn_5], Safe Z ELs s.vm T5.heap x)
 replace sf_b1 := Safe.keep Kc9 sfk9 CR.1 sf_b1
 replace sf_tn_9 := Safe.keep Kc9 sfk9 CR.1 sf_tn_9
 replace Fp_sq := Fp_sq.keep Kc9 (ninS ne_sq_b1 (ninS ne_sq_tn_5 nin0))
 replace OL := OL.keep Kc9 (allS (Nat.le_trans Z0 sz_b1) (allS (Nat.le_trans Z0 sz_tn_5) all0))
 replace E_ls := E_ls.keep Kc9
 replace F_e0_ls := F_e0_ls.keep Kc9 (ninS ne_ls_b1 (ninS ne_ls_tn_5 nin0))
 replace F_e1_ls := F_e1_ls.keep Kc9 (ninS ne_ls_b1 (ninS ne_ls_tn_5 nin0))
 replace E_pa := E_pa.keep Kc9
 replace Fv_pa := Fv_pa.keep Kc9 (ninS ne_pa_b1 (ninS ne_pa_tn_5 nin0))
 replace Fc_pa := Fc_pa.keep Kc9 (ninS ne_pa_b1 (ninS ne_pa_tn_5 nin0))
 replace V_pta := V_pta.keep Kc9 (ninS ne_pta_b1 (ninS ne_pta_tn_5 nin0))
 replace E_pb := E_pb.keep Kc9
 replace Fv_pb := Fv_pb.keep Kc9 (ninS ne_pb_b1 (ninS ne_pb_tn_5 nin0))
 replace Fc_pb := Fc_pb.keep Kc9 (ninS ne_pb_b1 (ninS ne_pb_tn_5 nin0))
 replace V_ptb := V_ptb.keep Kc9 (ninS ne_ptb_b1 (ninS ne_ptb_tn_5 nin0))
 replace CR : CHr Z ELs s.vm h0 s.vm T9.heap := CR.trans (CHr.keep Kc9 sfk9 CR.1)
 replace hk := Nat.le_trans hk Kc9.1
 have K9 := Kt2 K5 Kc9 (Or.inr sz_b1) (Or.inr sz_tn_5)
 have E_b1 := po9_1
 have Fv_b1 := po9_2
 have Fc_b1 := po9_3
 have Fn_b1 := po9_4
 have Fm_b1 := po9_5
 have V_tn_9 := po9_6
 have hbb2_9 := po9_8
 obtain ⟨b11, T11, h11, ki11, bb11, kb11, X11, e11, E11, hS, hk, hZ, hown, lA11, lC11, lV11, lB11, la11, lb11, cC11, lL11, hsf11, st11⟩ := ldcCH X9 hx hZ hown (ww hw 166 rfl) (own_wS hw) rfl hS hk hEL (by decide) CR.1 (vs := [(.int 32)]) (z := (1 : Int32)) ⟨by decide, rfl⟩ (by decide) (by decide) (g := P9.g) rfl (hb hby d86_14) (n := 4) (by decide) (by decide) (by decide) (by decide)
 have P12 := P9.st st11
 replace sf_b1 := cC11.safe E_b1.lt sf_b1
 replace sf_tn_9 := cC11.safe V_tn_9.lt sf_tn_9
 replace Fp_sq := Fp_sq.ext E11
 replace OL := OL.ext E11
 replace E_ls := E_ls.ext E11
 replace F_e0_ls := F_e0_ls.ext E11
 replace F_e1_ls := F_e1_ls.ext E11
 replace E_pa := E_pa.ext E11
 replace Fv_pa := Fv_pa.ext E11
 replace Fc_pa := Fc_pa.ext E11
 replace V_pta := V_pta.ext E11
 replace E_pb := E_pb.ext E11
 replace Fv_pb := Fv_pb.ext E11
 replace Fc_pb := Fc_pb.ext E11
 replace V_ptb := V_ptb.ext E11
 replace E_b1 := E_b1.ext E11
 replace Fv_b1 := Fv_b1.ext E11
 replace Fc_b1 := Fc_b1.ext E11
 replace Fn_b1 := Fn_b1.ext E11
 replace Fm_b1 := Fm_b1.ext E11
 replace V_tn_9 := V_tn_9.ext E11
 replace CR : CHr Z ELs s.vm h0 T11.vm h11 := CR.trans cC11
 have K11 := K9.ext E11
 obtain ⟨Lf13, X11, N13⟩ := fixL X11 N10 5 60 rfl rfl
 have E_b11 : Exa Z h11 b11 cS := lA11
 have Fc_b11 : Fld Z h11 b11 cS "coder" "B" i0 := lC11
 have Fv_b11 : Fld Z h11 b11 cS "value" "[B" (.ref bb11) := lV11
 have V_bb11 : Arv Z h11 bb11 kb11 .byte 1 [(.int 32)] i0 := lB11
 have ne_b1_b11 : b1 ≠ b11 := (hsf11 _ sf_b1).1
 have ne_b1_bb11 : b1 ≠ bb11 := (hsf11 _ sf_b1).2
 have ne_tn_9_b11 : tn_9 ≠ b11 := (hsf11 _ sf_tn_9).1
 have ne_tn_9_bb11 : tn_9 ≠ bb11 := (hsf11 _ sf_tn_9).2
 obtain ⟨_, T14, L14, X14, hQ14, P14⟩ := cVi P12 X11 hx hZ hown hw e11 E_b1 hml 119 122 121 123 103 (rm_sbApp hw b1 tn_9 kn_9 cd2_9 zb2_9 vs2_9 (([] : List Int32) ++ tcs) b11 bb11 kb11 (0 : Int32) (1 : Int32) ([(.int 32)] : List Value) ([32] : List Int32) G1 Gf (zT Z0 K11.1) E_b1 Fv_b1 Fc_b1 Fn_b1 Fm_b1 V_tn_9 E_b11 Fv_b11 Fc_b11 V_bb11 (Nat.le_trans Z0 sz_tn_9) (Nat.le_trans Z0 sz_b1) (Ne.symm ne_tn_9_b11) (Ne.symm ne_tn_9_bb11) po9_7 (Ne.symm ne_b1_b11) (Ne.symm ne_b1_bb11) Sc hz Sa Sh Sl Sf rGf OL hbb2_9 own_kb32 (by simp only [List.length_append, List.length_cons, List.length_nil] <;> omega)) rfl rfl rfl rfl rfl rfl rfl [(.ref b11)] [] 0 (lenOf pd_49 rfl) rfl (Nat.le_of_eq rfl) (hb hby d86_16) rfl (by decide)
 obtain ⟨tn_14, kn_14, cd2_14, zb2_14, vs2_14, rfl, N14q, Kc14, po14_0, po14_1, po14_2, po14_3, po14_4, po14_5, po14_6, po14_7, po14_8⟩ := hQ14
 have N14 := Fr.app N13 N14q
 obtain ⟨Lf15, X14, N15⟩ := fixL X14 N14 6 92 rfl rfl
 have sz_tn_14 : h0.size ≤ tn_14 := own_tof2 po14_0 sz_tn_9 K11.1
 have tf_tn_14 : tn_14 = tn_9 ∨ h0.size ≤ tn_14 := own_tof3 po14_0 K11.1
 have sf_tn_14 : Safe Z ELs T11.vm h11 tn_14 := own_tof4 po14_0 sf_tn_9 Safe.new
 have sfk14 := ((sfS sf_b1 (sfS sf_tn_9 sf0)) : ∀ x ∈ [b1, tn_9], Safe Z ELs T11.vm h11 x)
 replace sf_b1 := Safe.keep Kc14 sfk14 CR.1 sf_b1
 replace sf_tn_14 := Safe.keep Kc14 sfk14 CR.1 sf_tn_14
 replace Fp_sq := Fp_sq.keep Kc14 (ninS ne_sq_b1 (ninS ne_sq_tn_9 nin0))
 replace OL := OL.keep Kc14 (allS (Nat.le_trans Z0 sz_b1) (allS (Nat.le_trans Z0 sz_tn_9) all0))
 replace E_ls := E_ls.keep Kc14
 replace F_e0_ls := F_e0_ls.keep Kc14 (ninS ne_ls_b1 (ninS ne_ls_tn_9 nin0))
 replace F_e1_ls := F_e1_ls.keep Kc14 (ninS ne_ls_b1 (ninS ne_ls_tn_9 nin0))
 replace E_pa := E_pa.keep Kc14
 replace Fv_pa := Fv_pa.keep Kc14 (ninS ne_pa_b1 (ninS ne_pa_tn_9 nin0))
 replace Fc_pa := Fc_pa.keep Kc14 (ninS ne_pa_b1 (ninS ne_pa_tn_9 nin0))
 replace V_pta := V_pta.keep Kc14 (ninS ne_pta_b1 (ninS ne_pta_tn_9 nin0))
 replace E_pb := E_pb.keep Kc14
 replace Fv_pb := Fv_pb.keep Kc14 (ninS ne_pb_b1 (ninS ne_pb_tn_9 nin0))
 replace Fc_pb := Fc_pb.keep Kc14 (ninS ne_pb_b1 (ninS ne_pb_tn_9 nin0))
 replace V_ptb := V_ptb.keep Kc14 (ninS ne_ptb_b1 (ninS ne_ptb_tn_9 nin0))
 replace CR : CHr Z ELs s.vm h0 T11.vm T14.heap := CR.trans (CHr.keep Kc14 sfk14 CR.1)
 replace hk := Nat.le_trans hk Kc14.1
 have K14 := Kt2 K11 Kc14 (Or.inr sz_b1) (Or.inr sz_tn_9)
 have E_b1 := po14_1
 have Fv_b1 := po14_2
 have Fc_b1 := po14_3
 have Fn_b1 := po14_4
 have Fm_b1 := po14_5
 have V_tn_14 := po14_6
 have hbb2_14 := po14_8
 have P16 := P14.bt X14 hx hby b299_ rfl
 obtain ⟨T17, X17, e17, P17⟩ := gF P16 X14 hx hZ hown hw 92 rfl Fp_sq (hb hby d86_20)
 obtain ⟨_, T18, L18, X18, hQ18, P18⟩ := cVi P17 X17 hx hZ hown hw e17 E_b1 hml 169 172 171 173 103 (rm_sbAppL2 hw b1 tn_14 kn_14 cd2_14 zb2_14 vs2_14 ((([] : List Int32) ++ tcs) ++ ([32] : List Int32)) G1 Gf ls em pa pta pka pca pza pva qa pb ptb pkb pcb pzb pvb qb (zT Z0 K14.1) E_b1 Fv_b1 Fc_b1 Fn_b1 Fm_b1 V_tn_14 (Nat.le_trans Z0 sz_tn_14) (Nat.le_trans Z0 sz_b1) po14_7 Sc hz Sa Sh Sl Sf rGf OL hbb2_14 (by simp only [List.length_append, List.length_cons, List.length_nil] <;> omega) E_ls F_e0_ls F_e1_ls Se ne_pb_em E_pa Fv_pa Fc_pa V_pta hka E_pb Fv_pb Fc_pb V_ptb hkb ne_pa_ls ne_pb_ls) rfl rfl rfl rfl rfl rfl rfl [(.ref ls)] [] 0 (lenOf pd_53 rfl) rfl (Nat.le_of_eq rfl) (hb hby d86_23) rfl (by decide)
 obtain ⟨tn_18, kn_18, cd2_18, zb2_18, vs2_18, rfl, N18q, Kc18, po18_0, po18_1, po18_2, po18_3, po18_4, po18_5, po18_6, po18_7, po18_8⟩ := hQ18
 have N18 := Fr.app N15 N18q
 obtain ⟨Lf19, X18, N19⟩ := fixL X18 N18 14 248 rfl rfl
 have tf_tn_18 : tn_18 = tn_14 ∨ h0.size ≤ tn_18 := own_tof3 po18_0 K14.1
 have sfk18 := ((sfS sf_b1 (sfS sf_tn_14 sf0)) : ∀ x ∈ [b1, tn_14], Safe Z ELs T11.vm T14.heap x)
 replace OL := OL.keep Kc18 (allS (Nat.le_trans Z0 sz_b1) (allS (Nat.le_trans Z0 sz_tn_14) all0))
 replace CR : CHr Z ELs s.vm h0 T11.vm T18.heap := CR.trans (CHr.keep Kc18 sfk18 CR.1)
 replace hk := Nat.le_trans hk Kc18.1
 have K18 := Kt2 K14 Kc18 (Or.inr sz_b1) (Or.inr sz_tn_14)
 have E_b1 := po18_1
 have Fv_b1 := po18_2
 have Fc_b1 := po18_3
 have Fn_b1 := po18_4
 have Fm_b1 := po18_5
 have V_tn_18 := po18_6
 have hbb2_18 := po18_8
 obtain ⟨_, T20, L20, X20, hQ20, P20⟩ := cVi P18 X18 hx hZ hown hw rfl E_b1 hml 225 228 227 229 103 (rm_sbStr hw b1 tn_18 kn_18 cd2_18 zb2_18 vs2_18 (((([] : List Int32) ++ tcs) ++ ([32] : List Int32)) ++ [(91 : Int32), qa, 44, 32, qb, 93]) G1 Gf (zT Z0 K18.1) E_b1 Fv_b1 Fc_b1 Fn_b1 Fm_b1 V_tn_18 Sc hz Sa Sh Sl Sf rGf OL hbb2_18 (by simp only [List.length_append, List.length_cons, List.length_nil] <;> omega)) rfl rfl rfl rfl rfl rfl rfl [] [] 0 (lenOf pd_47 rfl) rfl (Nat.le_of_eq rfl) (hb hby d86_26) rfl (by decide)
 obtain ⟨xs_20, ts_20, ks_20, ce_20, ze_20, wv_20, rfl, N20q, Kc20, po20_0, po20_1, po20_2, po20_3, po20_4, po20_5, po20_6⟩ := hQ20
 have N20 := Fr.app N19 N20q
 obtain ⟨Lf21, X20, N21⟩ := fixL X20 N20 16 284 rfl rfl
 have sfk20 := (sf0 : ∀ x ∈ [], Safe Z ELs T11.vm T18.heap x)
 replace CR : CHr Z ELs s.vm h0 T11.vm T20.heap := CR.trans (CHr.keep Kc20 sfk20 CR.1)
 replace hk := Nat.le_trans hk Kc20.1
 have K20 := K18.trans Kc20 all0
 have E_xs_20 := po20_2
 have Fv_xs_20 := po20_3
 have Fc_xs_20 := po20_4
 have V_ts_20 := po20_5
 have hkb_20 := po20_6
 subst hs0
 obtain ⟨fs_, hr, hrun, hended, hREW⟩ := X20.leaveW hS hk (v := some (.ref xs_20)) (fun h => by rw [Bd.returns] at h; cases h)
 have CRT := CR.trans (CHv.at X20 hZ hEL CR.1)
 refine ⟨_, _, P20 _ ?_, hrun, hended, _, _, rfl, ?_, ?_, hREW.1, hREW.2.1, hREW.2.2.1, hREW.2.2.2.mono (by decide) (by decide)⟩
 · show GG p e below T20 (mkF m 29 #[rv sq] [(.ref xs_20)]) _
   jvm_step X20.here [X20.here.top, hx, (hb hby d86_29), X20.method', Bd.returns, Value.isRef, FieldType.isReference]
   first | (intro acts; rw [hr _ acts rfl rfl rfl]) | rw [hr _ _ rfl rfl rfl]
   exact Steps.refl _
 · show Q_sqStr2 Z sq xt tt kt ct zt vt tcs ls em pa pta pka pca pza pva qa pb ptb pkb pcb pzb pvb qb G1 Gf h0 n0 _ T20.heap _
   exact ⟨xs_20, ts_20, ks_20, ce_20, ze_20, wv_20, rfl, N21, K20, E_xs_20, Fv_xs_20, Fc_xs_20, V_ts_20, (by have q := hkb_20; simpa only [List.nil_append, List.append_assoc, List.cons_append] using q)⟩
 · show CHr Z ELs s.vm s.heap T20.vm T20.heap
   rw [hh]
   exact CRT
theorem ef_48 (m : MethodId) (x0 : Addr) (x1 : Addr) (x2 : Int32) (x3 : Int32) : entryFrame m #[(.ref x0), (.ref x1), (.int x2), (.int x3)] 4 = mkF m 0 #[.val (.ref x0), .val (.ref x1), .val (.int x2), .val (.int x3)] [] := by first | (simp [entryFrame, mkF, argsToLocals, Value.category]; done) | rfl
theorem pn_19 : plainName "com/example/kvasir/kvasir/sql/SqlQueryToStringPinLaw" = true := by first | (simp [plainName, overriddenIn]; done) | decide +kernel
abbrev k87_ := method_2_code
theorem d87_2 : decode k87_ 2 = .ok (.if_icmp .ge 14, 3) := by decide +kernel
theorem b300_ : dl k87_ 0 [(.iload_n 2, 1), (.iload_n 3, 1)] = true := by decide +kernel
theorem b301_ : dl k87_ 5 [(.aload_n 0, 1), (.iload_n 2, 1)] = true := by decide +kernel
theorem pd_54 : parseMethodDescriptor "(I)C" = some ⟨[.int], some .char⟩ := by decide +kernel
theorem d87_7 : decode k87_ 7 = .ok (.invokevirtual 7, 3) := by decide +kernel
theorem b302_ : dl k87_ 10 [(.aload_n 1, 1), (.iload_n 2, 1)] = true := by decide +kernel
theorem d87_12 : decode k87_ 12 = .ok (.caload, 1) := by decide +kernel
theorem d87_13 : decode k87_ 13 = .ok (.if_icmp .ne 7, 3) := by decide +kernel
theorem b303_ : dl k87_ 16 [(.iconst 1, 1), (.goto 4, 3)] = true := by decide +kernel
theorem d87_21 : decode k87_ 21 = .ok (.ireturn, 1) := by decide +kernel
def Q_atF (Z : State) (xs ts : Addr) (ks : ClassId) (ce ze : Int32) (wv : List Value) (ds : List Int32) (ea : Addr) (kea : ClassId) (k : Nat) (G1 : Int32) (Gf : Value) : QT := fun h0 n0 v h L => v = some (.int 1) ∧ Fr n0 L ∧ h = h0
abbrev mn_95 : MethodName := ⟨"com/example/kvasir/kvasir/sql/SqlQueryToStringPinLaw", "at", "(Ljava/lang/String;[CII)Z"⟩
theorem rm_atF (hw : HW a0 Z) (xs ts : Addr) (ks : ClassId) (ce ze : Int32) (wv : List Value) (ds : List Int32) (ea : Addr) (kea : ClassId) (k : Nat) (G1 : Int32) (Gf : Value) (Z0 : n0 ≤ h0.size) (E_xs : Exa Z h0 xs cS) (Fv_xs : Fld Z h0 xs cS "value" "[B" (.ref ts)) (Fc_xs : Fld Z h0 xs cS "coder" "B" (.int ce)) (V_ts : Arv Z h0 ts ks .byte ze wv i0) (hkb : KB ce ze wv ds) (V_ea : Arv Z h0 ea kea .char 10 (ds.map cv) i0) (Sc : SU4 Z G1) (hz : ¬ G1 = 0) (Sa : SU1 Z) (Sh : SU2 Z) (Sl : SU3 Z) (Sf : SU5 Z Gf) (rGf : Gf.isRef = true) (OL : Old Z n0 h0) (hdl : ds.length ≤ 9) (hk10 : k < 10) :
  MetP l Z mn_95 k87_ 4 (some .boolean) (rr 5 0 0 66) ws #[(.ref xs), (.ref ea), (.int (Int32.ofNat k)), (.int (Int32.ofNat ds.length))] h0 (Q_atF Z xs ts ks ce ze wv ds ea kea k G1 Gf h0 n0) := by
 refine begH n0 cW rfl (plainFor_of_name pn_19) fun p e s m below meth c s₁ s0 hrt hlk hZ hx hby hml hown hnm X0 e0 N0 P0 => ?_
 replace P0 : PP p e below s₁ (mkF m 0 #[rv xs, rv ea, iv (Int32.ofNat k), iv (Int32.ofNat ds.length)] []) s0 := castPP (ef_48 m xs ea (Int32.ofNat k) (Int32.ofNat ds.length)) P0
 have P1 := P0.bt X0 hx hby b300_ rfl
 by_cases hc2_2 : (Int32.ofNat k) < (Int32.ofNat ds.length)
 ·
  have P3 : PP p e below s₁ (mkF m 5 #[rv xs, rv ea, iv (Int32.ofNat k), iv (Int32.ofNat ds.length)] []) s0 := fun q_ k_ => P1 q_ (by
   exact XS.icmpNo X0.here hx rfl (hb hby d87_2) rfl (tlt (hc2_2 : (Int32.ofNat k) < (Int32.ofNat ds.length))).2.1 k_)
  have hlt_ : k < ds.length := (own_ltn k ds.length (by omega) (by omega)).mp hc2_2
  obtain ⟨cc, hkx⟩ := own_kx ds k hlt_
  have P4 := P3.bt X0 hx hby b301_ rfl
  obtain ⟨_, T5, L5, X5, hQ5, P5⟩ := cVi P4 X0 hx hZ hown hw e0 E_xs hml 275 278 277 279 2 (rm_sCh hw xs ts ks ce ze wv ds G1 Gf k cc Z0 E_xs Fv_xs Fc_xs V_ts hkb Sc hz Sa Sh Sl Sf rGf OL hkx (by omega)) rfl rfl rfl rfl rfl rfl rfl [(.int (Int32.ofNat k))] [] 0 (lenOf pd_54 rfl) rfl (Nat.le_of_eq rfl) (hb hby d87_7) rfl (by decide)
  obtain ⟨rfl, N5q, e5⟩ := hQ5
  have N5 := Fr.app N0 N5q
  have P6 : PP p e below T5 (mkF m 12 #[rv xs, rv ea, iv (Int32.ofNat k), iv (Int32.ofNat ds.length)] [(.int (Int32.ofNat k)), (.ref ea), (.int cc)]) s0 := fun q_ k_ => P5 q_ (by
   exact bt X5 hx hby b302_ rfl k_)
  obtain ⟨cl7, Ar7, q7, S7, M7, Hs7, G7⟩ := id V_ea
  have hin7 := inb_of (j := (Int32.ofNat k)) S7 (own_inb k 10 hk10 (by decide))
  have hat7 : cl7.slots[((Int32.ofNat k)).toNatClampNeg]? = some (.int (nar .char cc)) := Has.at Hs7 hin7 (by rw [own_cl _ (by omega)]; exact own_cv0 ds k cc _ hkx)
  have P8 : PP p e below T5 (mkF m 13 #[rv xs, rv ea, iv (Int32.ofNat k), iv (Int32.ofNat ds.length)] [(.int (nar .char cc)), (.int cc)]) s0 := fun q_ k_ => P6 q_ (by
   exact X5.caload hx (j := (Int32.ofNat k)) (v := (.int (nar .char cc))) (by rw [e5]; exact Ar7.1) (State.isArrayOf_alike hZ.alike Ar7.2.1) Ar7.2.2 hin7 hat7 (g := P6.g) rfl rfl (hb hby d87_12) _ k_)
  have P9 : PP p e below T5 (mkF m 21 #[rv xs, rv ea, iv (Int32.ofNat k), iv (Int32.ofNat ds.length)] [(.int 1)]) s0 := fun q_ k_ => P8 q_ (by
   refine XS.icmpNo X5.here hx rfl (hb hby d87_13) rfl (teq ((own_narc (hkb.1 _ (own_mem hkx))).symm : cc = (nar .char cc))).2 ?_
   exact bt X5 hx hby b303_ rfl k_)
  exact endN 21 #[rv xs, rv ea, iv (Int32.ofNat k), iv (Int32.ofNat ds.length)] (rest := []) X5 hx hrt (by simp) hlk P9 (hb hby d87_21) e5 (by decide) (by decide) (show Q_atF Z xs ts ks ce ze wv ds ea kea k G1 Gf h0 n0 _ _ _ from ⟨rfl, N5, rfl⟩)
 ·
  have P10 : PP p e below s₁ (mkF m 21 #[rv xs, rv ea, iv (Int32.ofNat k), iv (Int32.ofNat ds.length)] [(.int 1)]) s0 := fun q_ k_ => P1 q_ (by
   refine XS.icmpYes X0.here hx rfl (pc0 := 2) (pc' := 16) rfl (hb hby d87_2) rfl (flt (hc2_2 : ¬ ((Int32.ofNat k) < (Int32.ofNat ds.length)))).2.1 (by decide) (by decide) ?_
   exact bt X0 hx hby b303_ rfl k_)
  exact endN 21 #[rv xs, rv ea, iv (Int32.ofNat k), iv (Int32.ofNat ds.length)] (rest := []) X0 hx hrt (by simp) hlk P10 (hb hby d87_21) e0 (by decide) (by decide) (show Q_atF Z xs ts ks ce ze wv ds ea kea k G1 Gf h0 n0 _ _ _ from ⟨rfl, N0, rfl⟩)
theorem ef_49 (m : MethodId) (x0 : Int32) (x1 : Int32) (x2 : Int32) (x3 : Int32) : entryFrame m #[(.int x0), (.int x1), (.int x2), (.int x3)] maxLocals = mkF m 0 #[.val (.int x0), .val (.int x1), .val (.int x2), .val (.int x3), .unset, .unset, .unset, .unset, .unset, .unset, .unset, .unset, .unset, .unset, .unset] [] := by first | (simp [entryFrame, mkF, argsToLocals, Value.category, maxLocals]; done) | rfl
theorem b304_ : dl code 0 [(.iload_n 0, 1), (.i2c, 1)] = true := by decide +kernel
theorem b305_ : dl code 2 [(.istore 4, 2), (.iload_n 0, 1), (.bipush 16, 2)] = true := by decide +kernel
theorem b306_ : dl code 8 [(.i2c, 1)] = true := by decide +kernel
theorem b307_ : dl code 9 [(.istore 5, 2), (.iload_n 1, 1), (.i2c, 1)] = true := by decide +kernel
theorem b308_ : dl code 13 [(.istore 6, 2), (.iload_n 1, 1), (.bipush 16, 2)] = true := by decide +kernel
theorem b309_ : dl code 19 [(.i2c, 1)] = true := by decide +kernel
theorem b310_ : dl code 20 [(.istore 7, 2), (.iload_n 2, 1), (.iconst 3, 1), (.iand, 1), (.iconst 3, 1)] = true := by decide +kernel
theorem b311_ : dl code 27 [(.istore 8, 2), (.iload_n 2, 1), (.iconst 2, 1)] = true := by decide +kernel
theorem b312_ : dl code 32 [(.iconst 3, 1), (.iand, 1), (.iconst 3, 1)] = true := by decide +kernel
theorem b313_ : dl code 36 [(.istore 9, 2)] = true := by decide +kernel
theorem b314_ : dl code 38 [(.iload 8, 2)] = true := by decide +kernel
theorem b315_ : dl code 46 [(.dup, 1), (.iconst 0, 1)] = true := by decide +kernel
theorem pd_55 : parseMethodDescriptor "([C)V" = some ⟨[(.array .char)], none⟩ := by decide +kernel
theorem b316_ : dl code 53 [(.astore 10, 2), (.goto 41, 3)] = true := by decide +kernel
theorem b317_ : dl code 58 [(.iload 8, 2), (.iconst 1, 1)] = true := by decide +kernel
theorem b318_ : dl code 64 [(.iload 4, 2)] = true := by decide +kernel
theorem pd_56 : parseMethodDescriptor "(C)Ljava/lang/String;" = some ⟨[.char], some (.object "java/lang/String")⟩ := by decide +kernel
theorem b319_ : dl code 69 [(.astore 10, 2), (.goto 25, 3)] = true := by decide +kernel
theorem b320_ : dl code 77 [(.dup, 1), (.iconst 2, 1)] = true := by decide +kernel
theorem b321_ : dl code 81 [(.dup, 1), (.iconst 0, 1), (.iload 4, 2)] = true := by decide +kernel
theorem b322_ : dl code 86 [(.dup, 1), (.iconst 1, 1), (.iload 5, 2)] = true := by decide +kernel
theorem b323_ : dl code 94 [(.astore 10, 2)] = true := by decide +kernel
theorem b324_ : dl code 99 [(.dup, 1)] = true := by decide +kernel
theorem b325_ : dl code 103 [(.astore 11, 2)] = true := by decide +kernel
theorem b326_ : dl code 105 [(.iload 9, 2), (.iconst 1, 1)] = true := by decide +kernel
theorem b327_ : dl code 122 [(.iload 9, 2), (.iconst 2, 1)] = true := by decide +kernel
theorem b328_ : dl code 139 [(.bipush 10, 2)] = true := by decide +kernel
theorem b329_ : dl code 143 [(.astore 12, 2), (.iconst 0, 1), (.istore 13, 2)] = true := by decide +kernel
theorem b330_ : dl code 148 [(.iload 8, 2), (.iconst 1, 1)] = true := by decide +kernel
theorem b331_ : dl code 167 [(.iload 8, 2), (.iconst 2, 1)] = true := by decide +kernel
theorem b332_ : dl code 154 [(.aload 12, 2), (.iload 13, 2), (.iload 4, 2)] = true := by decide +kernel
theorem b333_ : dl code 161 [(.iload 13, 2), (.iconst 1, 1), (.iadd, 1), (.istore 13, 2), (.iload 8, 2), (.iconst 2, 1)] = true := by decide +kernel
theorem b334_ : dl code 173 [(.aload 12, 2), (.iload 13, 2), (.iload 5, 2)] = true := by decide +kernel
theorem b335_ : dl code 180 [(.iload 13, 2), (.iconst 1, 1), (.iadd, 1), (.istore 13, 2)] = true := by decide +kernel
theorem b336_ : dl code 186 [(.aload 12, 2), (.iload 13, 2), (.bipush 32, 2)] = true := by decide +kernel
theorem b337_ : dl code 193 [(.iload 13, 2), (.iconst 1, 1), (.iadd, 1)] = true := by decide +kernel
theorem b338_ : dl code 197 [(.istore 13, 2), (.aload 12, 2), (.iload 13, 2), (.bipush 91, 2)] = true := by decide +kernel
theorem b339_ : dl code 206 [(.iload 13, 2), (.iconst 1, 1), (.iadd, 1)] = true := by decide +kernel
theorem b340_ : dl code 210 [(.istore 13, 2), (.iload 9, 2), (.iconst 1, 1)] = true := by decide +kernel
theorem b341_ : dl code 231 [(.iload 9, 2), (.iconst 2, 1)] = true := by decide +kernel
theorem b342_ : dl code 276 [(.aload 12, 2), (.iload 13, 2), (.bipush 93, 2)] = true := by decide +kernel
theorem b343_ : dl code 283 [(.iload 13, 2), (.iconst 1, 1), (.iadd, 1)] = true := by decide +kernel
theorem b344_ : dl code 287 [(.istore 13, 2)] = true := by decide +kernel
theorem b345_ : dl code 292 [(.dup, 1), (.aload 10, 2), (.aload 11, 2), (.iload_n 3, 1)] = true := by decide +kernel
theorem pd_57 : parseMethodDescriptor "(Ljava/lang/String;Ljava/util/List;I)V" = some ⟨[(.object "java/lang/String"), (.object "java/util/List"), .int], none⟩ := by decide +kernel
theorem b346_ : dl code 304 [(.astore 14, 2)] = true := by decide +kernel
theorem b347_ : dl code 111 [(.aload 11, 2), (.iload 6, 2)] = true := by decide +kernel
theorem pd_58 : parseMethodDescriptor "(Ljava/lang/Object;)Z" = some ⟨[(.object "java/lang/Object")], some .boolean⟩ := by decide +kernel
theorem b348_ : dl code 121 [(.pop, 1), (.iload 9, 2), (.iconst 2, 1)] = true := by decide +kernel
theorem b349_ : dl code 218 [(.aload 12, 2), (.iload 13, 2), (.iload 6, 2)] = true := by decide +kernel
theorem b350_ : dl code 225 [(.iload 13, 2), (.iconst 1, 1), (.iadd, 1)] = true := by decide +kernel
theorem b351_ : dl code 229 [(.istore 13, 2), (.iload 9, 2), (.iconst 2, 1)] = true := by decide +kernel
theorem b352_ : dl code 128 [(.aload 11, 2), (.iload 7, 2)] = true := by decide +kernel
theorem b353_ : dl code 138 [(.pop, 1), (.bipush 10, 2)] = true := by decide +kernel
theorem b354_ : dl code 237 [(.aload 12, 2), (.iload 13, 2), (.bipush 44, 2)] = true := by decide +kernel
theorem b355_ : dl code 244 [(.iload 13, 2), (.iconst 1, 1), (.iadd, 1)] = true := by decide +kernel
theorem b356_ : dl code 248 [(.istore 13, 2), (.aload 12, 2), (.iload 13, 2), (.bipush 32, 2)] = true := by decide +kernel
theorem b357_ : dl code 257 [(.iload 13, 2), (.iconst 1, 1), (.iadd, 1)] = true := by decide +kernel
theorem b358_ : dl code 261 [(.istore 13, 2), (.aload 12, 2), (.iload 13, 2), (.iload 7, 2)] = true := by decide +kernel
theorem b359_ : dl code 270 [(.iload 13, 2), (.iconst 1, 1), (.iadd, 1)] = true := by decide +kernel
theorem b360_ : dl code 274 [(.istore 13, 2), (.aload 12, 2), (.iload 13, 2), (.bipush 93, 2)] = true := by decide +kernel
theorem b361_ : dl code 306 [(.aload 14, 2)] = true := by decide +kernel
theorem b362_ : dl code 311 [(.iload 13, 2)] = true := by decide +kernel
theorem b363_ : dl code 318 [(.aload 14, 2), (.aload 12, 2), (.iconst 0, 1), (.iload 13, 2)] = true := by decide +kernel
theorem pd_59 : parseMethodDescriptor "(Ljava/lang/String;[CII)Z" = some ⟨[(.object "java/lang/String"), (.array .char), .int, .int], some .boolean⟩ := by decide +kernel
theorem b364_ : dl code 331 [(.aload 14, 2), (.aload 12, 2), (.iconst 1, 1), (.iload 13, 2)] = true := by decide +kernel
theorem b365_ : dl code 344 [(.aload 14, 2), (.aload 12, 2), (.iconst 2, 1), (.iload 13, 2)] = true := by decide +kernel
theorem b366_ : dl code 357 [(.aload 14, 2), (.aload 12, 2), (.iconst 3, 1), (.iload 13, 2)] = true := by decide +kernel
theorem b367_ : dl code 370 [(.aload 14, 2), (.aload 12, 2), (.iconst 4, 1), (.iload 13, 2)] = true := by decide +kernel
theorem b368_ : dl code 383 [(.aload 14, 2), (.aload 12, 2), (.iconst 5, 1), (.iload 13, 2)] = true := by decide +kernel
theorem b369_ : dl code 396 [(.aload 14, 2), (.aload 12, 2), (.bipush 6, 2), (.iload 13, 2)] = true := by decide +kernel
theorem b370_ : dl code 410 [(.aload 14, 2), (.aload 12, 2), (.bipush 7, 2), (.iload 13, 2)] = true := by decide +kernel
theorem b371_ : dl code 424 [(.aload 14, 2), (.aload 12, 2), (.bipush 8, 2), (.iload 13, 2)] = true := by decide +kernel
theorem b372_ : dl code 438 [(.aload 14, 2), (.aload 12, 2), (.bipush 9, 2), (.iload 13, 2)] = true := by decide +kernel
theorem b373_ : dl code 452 [(.iconst 1, 1), (.goto 4, 3)] = true := by decide +kernel
def Q_law (Z : State) (ja jb js jr G1 : Int32) (Gf : Value) (de : Addr) (kde : ClassId) (el ee : Addr) (kee : ClassId) (em mr : Addr) : QT := fun h0 n0 v h L => v = some (.int 1) ∧ Fr n0 L ∧ Keep h0 h []
theorem rm_law (hw : HW a0 Z) (hEL : EW Z a0 ELs) (ja jb js jr G1 : Int32) (Gf : Value) (de : Addr) (kde : ClassId) (el ee : Addr) (kee : ClassId) (em mr : Addr) (Z0 : n0 ≤ h0.size) (Sc : SU4 Z G1) (hz : ¬ G1 = 0) (Sa : SU1 Z) (Sh : SU2 Z) (Sl : SU3 Z) (Sf : SU5 Z Gf) (rGf : Gf.isRef = true) (OL : Old Z n0 h0) (Sd : SU7 Z de) (VDE : Arv Z Z.heap de kde tOb (0 : Int32) [] .null) (Sn : Sta Z Z.heap cIC "EMPTY_LIST" "Ljava/util/ImmutableCollections$ListN;" (.ref el)) (XEL : Exa Z Z.heap el cLN) (FEL : Fld Z Z.heap el cLN "elements" dOA (.ref ee)) (VEE : Arv Z Z.heap ee kee tOb (0 : Int32) [] .null) (Se : SU6 Z em) (XEM : Exa Z Z.heap em "java/lang/Object") (MIR : MirW Z dOA mr) :
  MetQ l Z x code maxLocals ret room_1 ws #[(.int ja), (.int jb), (.int js), (.int jr)] h0 ELs (Q_law Z ja jb js jr G1 Gf de kde el ee kee em mr h0 n0) := by
 refine MetFree.of_bodySF (plainFor_of_name pn_19) hisR ?_
 intro p e s m args below meth c s₁ Bd hml0 hP hK; obtain ⟨rfl, hZ, hh, hCH⟩ := hP; have hx := Bd.exec; have hby := Bd.bytes; have hml : c.maxLocals = 15 := hml0
 have hown : s.vm.findClass cW = some m.cls := findClass_of_methodNamed Bd.named
 have X0 : Stand p l e room_1 (s.setVm s.vm) m #[(.int ja), (.int jb), (.int js), (.int jr)] below meth c s₁ [] 0 0 := Stand.of_body Bd
 replace hZ : Z.Warmed39 (s.setVm s.vm).vm := hZ
 replace hown : (s.setVm s.vm).vm.findClass cW = some m.cls := hown
 have hS : s.Since s.vm 0 := (State.WarmedH.refl s).since 0
 have hk : 0 ≤ h0.size := Nat.zero_le _
 have CR : CHr Z ELs s.vm h0 s.vm h0 := CHr.refl hCH
 have e0 : s₁.heap = h0 := by rw [← hh, Bd.state]; rfl
 have N0 := Fr.nil n0
 obtain ⟨s0, hs0⟩ := exi (s₁.setTop (entryFrame m #[(.int ja), (.int jb), (.int js), (.int jr)] maxLocals))
 have P0 : PP p e below s₁ (mkF m 0 #[iv ja, iv jb, iv js, iv jr, .unset, .unset, .unset, .unset, .unset, .unset, .unset, .unset, .unset, .unset, .unset] []) s0 := fun q_ k_ => by rw [hs0]; exact castTop (ef_49 m ja jb js jr) k_
 have P1 := P0.bt X0 hx hby b304_ rfl
 obtain ⟨ca, eq_ca⟩ : ∃ z : Int32, z = (ja.toUInt32.toUInt16.toUInt32.toInt32) := ⟨_, rfl⟩
 have P2 : PP p e below s₁ (mkF m 2 #[iv ja, iv jb, iv js, iv jr, .unset, .unset, .unset, .unset, .unset, .unset, .unset, .unset, .unset, .unset, .unset] [(.int ca)]) s0 := fun q_ k_ => P1 q_ (by show GG p e below s₁ (mkF m 2 #[iv ja, iv jb, iv js, iv jr, .unset, .unset, .unset, .unset, .unset, .unset, .unset, .unset, .unset, .unset, .unset] [(.int (ja.toUInt32.toUInt16.toUInt32.toInt32))]) q_; rw [show (ja.toUInt32.toUInt16.toUInt32.toInt32) = ca from eq_ca.symm]; exact k_)
 have ic_ca : isC ca := by rw [eq_ca]; exact own_char _
 have P3 : PP p e below s₁ (mkF m 9 #[iv ja, iv jb, iv js, iv jr, iv ca, .unset, .unset, .unset, .unset, .unset, .unset, .unset, .unset, .unset, .unset] [(.int (((ja.toUInt32 >>> ((16 : Int32) &&& 31).toUInt32).toInt32).toUInt32.toUInt16.toUInt32.toInt32))]) s0 := fun q_ k_ => P2 q_ (by
  refine bt X0 hx hby b305_ rfl ?_
  refine XS.iushr X0.here hx rfl (hb hby at_7) rfl ?_
  exact bt X0 hx hby b306_ rfl k_)
 obtain ⟨cb, eq_cb⟩ : ∃ z : Int32, z = (((ja.toUInt32 >>> ((16 : Int32) &&& 31).toUInt32).toInt32).toUInt32.toUInt16.toUInt32.toInt32) := ⟨_, rfl⟩
 have P4 : PP p e below s₁ (mkF m 9 #[iv ja, iv jb, iv js, iv jr, iv ca, .unset, .unset, .unset, .unset, .unset, .unset, .unset, .unset, .unset, .unset] [(.int cb)]) s0 := fun q_ k_ => P3 q_ (by rw [show (((ja.toUInt32 >>> ((16 : Int32) &&& 31).toUInt32).toInt32).toUInt32.toUInt16.toUInt32.toInt32) = cb from eq_cb.symm]; exact k_)
 have ic_cb : isC cb := by rw [eq_cb]; exact own_char _
 have P5 := P4.bt X0 hx hby b307_ rfl
 obtain ⟨da, eq_da⟩ : ∃ z : Int32, z = (jb.toUInt32.toUInt16.toUInt32.toInt32) := ⟨_, rfl⟩
 have P6 : PP p e below s₁ (mkF m 13 #[iv ja, iv jb, iv js, iv jr, iv ca, iv cb, .unset, .unset, .unset, .unset, .unset, .unset, .unset, .unset, .unset] [(.int da)]) s0 := fun q_ k_ => P5 q_ (by show GG p e below s₁ (mkF m 13 #[iv ja, iv jb, iv js, iv jr, iv ca, iv cb, .unset, .unset, .unset, .unset, .unset, .unset, .unset, .unset, .unset] [(.int (jb.toUInt32.toUInt16.toUInt32.toInt32))]) q_; rw [show (jb.toUInt32.toUInt16.toUInt32.toInt32) = da from eq_da.symm]; exact k_)
 have ic_da : isC da := by rw [eq_da]; exact own_char _
 have P7 : PP p e below s₁ (mkF m 20 #[iv ja, iv jb, iv js, iv jr, iv ca, iv cb, iv da, .unset, .unset, .unset, .unset, .unset, .unset, .unset, .unset] [(.int (((jb.toUInt32 >>> ((16 : Int32) &&& 31).toUInt32).toInt32).toUInt32.toUInt16.toUInt32.toInt32))]) s0 := fun q_ k_ => P6 q_ (by
  refine bt X0 hx hby b308_ rfl ?_
  refine XS.iushr X0.here hx rfl (hb hby at_18) rfl ?_
  exact bt X0 hx hby b309_ rfl k_)
 obtain ⟨db, eq_db⟩ : ∃ z : Int32, z = (((jb.toUInt32 >>> ((16 : Int32) &&& 31).toUInt32).toInt32).toUInt32.toUInt16.toUInt32.toInt32) := ⟨_, rfl⟩
 have P8 : PP p e below s₁ (mkF m 20 #[iv ja, iv jb, iv js, iv jr, iv ca, iv cb, iv da, .unset, .unset, .unset, .unset, .unset, .unset, .unset, .unset] [(.int db)]) s0 := fun q_ k_ => P7 q_ (by rw [show (((jb.toUInt32 >>> ((16 : Int32) &&& 31).toUInt32).toInt32).toUInt32.toUInt16.toUInt32.toInt32) = db from eq_db.symm]; exact k_)
 have ic_db : isC db := by rw [eq_db]; exact own_char _
 have P9 : PP p e below s₁ (mkF m 27 #[iv ja, iv jb, iv js, iv jr, iv ca, iv cb, iv da, iv db, .unset, .unset, .unset, .unset, .unset, .unset, .unset] [(.int ((js &&& (3 : Int32)) - ((js &&& (3 : Int32)) / (3 : Int32)) * (3 : Int32)))]) s0 := fun q_ k_ => P8 q_ (by
  refine bt X0 hx hby b310_ rfl ?_
  exact XS.irem X0.here hx rfl (hb hby at_26) rfl (by decide) k_)
 obtain ⟨tl, eq_tl⟩ : ∃ z : Int32, z = ((js &&& (3 : Int32)) - ((js &&& (3 : Int32)) / (3 : Int32)) * (3 : Int32)) := ⟨_, rfl⟩
 have P10 : PP p e below s₁ (mkF m 27 #[iv ja, iv jb, iv js, iv jr, iv ca, iv cb, iv da, iv db, .unset, .unset, .unset, .unset, .unset, .unset, .unset] [(.int tl)]) s0 := fun q_ k_ => P9 q_ (by rw [show ((js &&& (3 : Int32)) - ((js &&& (3 : Int32)) / (3 : Int32)) * (3 : Int32)) = tl from eq_tl.symm]; exact k_)
 have h_tl : tl = 0 ∨ tl = 1 ∨ tl = 2 := by rw [eq_tl]; exact own_tl _
 have P11 : PP p e below s₁ (mkF m 36 #[iv ja, iv jb, iv js, iv jr, iv ca, iv cb, iv da, iv db, iv tl, .unset, .unset, .unset, .unset, .unset, .unset] [(.int ((((js.toUInt32 >>> ((2 : Int32) &&& 31).toUInt32).toInt32) &&& (3 : Int32)) - ((((js.toUInt32 >>> ((2 : Int32) &&& 31).toUInt32).toInt32) &&& (3 : Int32)) / (3 : Int32)) * (3 : Int32)))]) s0 := fun q_ k_ => P10 q_ (by
  refine bt X0 hx hby b311_ rfl ?_
  refine XS.iushr X0.here hx rfl (hb hby at_31) rfl ?_
  refine bt X0 hx hby b312_ rfl ?_
  exact XS.irem X0.here hx rfl (hb hby at_35) rfl (by decide) k_)
 obtain ⟨nn, eq_nn⟩ : ∃ z : Int32, z = ((((js.toUInt32 >>> ((2 : Int32) &&& 31).toUInt32).toInt32) &&& (3 : Int32)) - ((((js.toUInt32 >>> ((2 : Int32) &&& 31).toUInt32).toInt32) &&& (3 : Int32)) / (3 : Int32)) * (3 : Int32)) := ⟨_, rfl⟩
 have P12 : PP p e below s₁ (mkF m 36 #[iv ja, iv jb, iv js, iv jr, iv ca, iv cb, iv da, iv db, iv tl, .unset, .unset, .unset, .unset, .unset, .unset] [(.int nn)]) s0 := fun q_ k_ => P11 q_ (by rw [show ((((js.toUInt32 >>> ((2 : Int32) &&& 31).toUInt32).toInt32) &&& (3 : Int32)) - ((((js.toUInt32 >>> ((2 : Int32) &&& 31).toUInt32).toInt32) &&& (3 : Int32)) / (3 : Int32)) * (3 : Int32)) = nn from eq_nn.symm]; exact k_)
 have h_nn : nn = 0 ∨ nn = 1 ∨ nn = 2 := by rw [eq_nn]; exact own_tl _
 have P13 := P12.bt X0 hx hby b313_ rfl
 obtain ⟨T14, VM14, h14, kS14, Lf14, xt, tt, kt, ct, zt, vt, tcs, X14, e14, hS, hk, hZ, hown, CR, N14, K14, E_xt, Fv_xt, Fc_xt, V_tt, hkt, htc, OL, P14⟩ : ∃ (T14 : State) (VM14 : Vm) (h14 : Heap) (kS14 : Nat) (Lf14 : List Loc) (xt : Addr) (tt : Addr) (kt : ClassId) (ct : Int32) (zt : Int32) (vt : List Value) (tcs : List Int32), Stand p l e room_1 (s.setVm VM14) m #[(.int ja), (.int jb), (.int js), (.int jr)] below meth c T14 Lf14 8 64 ∧ T14.heap = h14 ∧ s.Since VM14 kS14 ∧ kS14 ≤ h14.size ∧ Z.Warmed39 (s.setVm VM14).vm ∧ (s.setVm VM14).vm.findClass cW = some m.cls ∧ CHr Z ELs s.vm h0 VM14 h14 ∧ Fr n0 Lf14 ∧ Keep h0 h14 [] ∧ (Exa Z h14 xt cS) ∧ (Fld Z h14 xt cS "value" "[B" (.ref tt)) ∧ (Fld Z h14 xt cS "coder" "B" (.int ct)) ∧ (Arv Z h14 tt kt .byte zt vt i0) ∧ (KB ct zt vt tcs) ∧ ((tl = 0 ∧ tcs = ([] : List Int32)) ∨ (tl = 1 ∧ tcs = ([ca] : List Int32)) ∨ (tl = 2 ∧ tcs = ([ca, cb] : List Int32))) ∧ (Old Z n0 h14) ∧ PP p e below T14 (mkF m 96 #[iv ja, iv jb, iv js, iv jr, iv ca, iv cb, iv da, iv db, iv tl, iv nn, rv xt, .unset, .unset, .unset, .unset] []) s0 := by
  rcases h_tl with rfl | rfl | rfl
  ·
   have P15 : PP p e below s₁ (mkF m 43 #[iv ja, iv jb, iv js, iv jr, iv ca, iv cb, iv da, iv db, iv 0, iv nn, .unset, .unset, .unset, .unset, .unset] []) s0 := fun q_ k_ => P13 q_ (by
    refine bt X0 hx hby b314_ rfl ?_
    exact XS.ifNo X0.here hx rfl (hb hby at_40) rfl ((if0 _ _).trans (teq ((by decide) : (0 : Int32) = (0 : Int32))).2) k_)
   obtain ⟨T16, h16, X16, e16, E16, A16, D16, -, st16⟩ := newO X0 hx hZ hown (ww hw 0 rfl) (ww hw 1 rfl) (ww hw 2 rfl) e0 (g := P15.g) rfl (hb hby at_43) (by decide) (by decide)
   obtain ⟨b16, g16⟩ : ∃ z, z = h0.size := ⟨_, rfl⟩
   rw [← g16] at A16 D16 st16
   have P17 := P15.st st16
   have sz_b16 : h0.size ≤ b16 := Nat.le_trans (Nat.le_refl h0.size) (Nat.le_of_eq g16.symm)
   have sf_b16 : Safe Z ELs s.vm h0 b16 := Safe.new (Nat.le_of_eq g16.symm)
   replace sf_b16 := Safe.ext E16 CR.1 sf_b16
   replace OL := OL.ext E16
   replace CR : CHr Z ELs s.vm h0 s.vm h16 := CR.trans (CHr.ext E16 CR.1)
   replace hk := Nat.le_trans hk E16.1
   have K16 := (Keep.refl h0 []).ext E16
   obtain ⟨Lf18, X16, N18⟩ := fixL X16 N0 1 4 rfl rfl
   have E_b16 : Exa Z h16 b16 cS := A16
   have Fc_b16 : Fld Z h16 b16 cS "coder" "B" i0 := D16 (Or.inr (ww hw 27 rfl)) (ty := .byte) (by decide)
   have Fv_b16 : Fld Z h16 b16 cS "value" "[B" .null := D16 (Or.inr (ww hw 29 rfl)) (ty := (.array .byte)) (by decide)
   have P19 := P17.bt X16 hx hby b315_ rfl
   obtain ⟨T20, h20, k20, X20, e20, E20, A20, st20⟩ := newP X16 hx hZ (ww hw 3 rfl) e16 (g := P19.g) rfl (hb hby at_48) rfl (by decide) (cap := 0) (by decide) (by decide) (by decide) (by decide)
   obtain ⟨b20, g20⟩ : ∃ z, z = h16.size := ⟨_, rfl⟩
   rw [← g20] at A20 st20
   have P21 := P19.st st20
   have ne_b16_b20 := neL E_b16.lt (Nat.le_of_eq g20.symm)
   replace sf_b16 := Safe.ext E20 CR.1 sf_b16
   replace OL := OL.ext E20
   replace E_b16 := E_b16.ext E20
   replace Fc_b16 := Fc_b16.ext E20
   replace Fv_b16 := Fv_b16.ext E20
   replace CR : CHr Z ELs s.vm h0 s.vm h20 := CR.trans (CHr.ext E20 CR.1)
   replace hk := Nat.le_trans hk E20.1
   have K20 := K16.ext E20
   obtain ⟨Lf22, X20, N22⟩ := fixL X20 N18 2 4 rfl rfl
   have V_b20 : Arv Z h20 b20 k20 .char 0 [] i0 := (Arv.new A20 (by decide))
   obtain ⟨_, _, ⟨T23, L23, k23, n23⟩, -, X23, hS23, hg23, ⟨Lc23, hQ23, l23, y23, z23, cC23⟩, st23⟩ := X20.specialBackS hx (y := mn_23) rfl hown (mw hZ hw 4 rfl) (mw hZ hw 5 rfl) (mw hZ hw 6 rfl) (by decide) (backOfSS (W := 1) (rm_init10 hw hEL b16 b20 k20 ([] : List Value) .null i0 (zT Z0 K20.1) E_b16 Fv_b16 Fc_b16 (Nat.le_trans Z0 sz_b16) V_b20 ne_b16_b20) hZ (ww hw 6 rfl) (ww hw 2 rfl) (by decide) (by decide) hEL CR.1 (sfS sf_b16 sf0) (allS (P := fun z => z < h20.size) E_b16.lt all0)) (g := P21.g) rfl (by rw [hml]; rfl) (Steps.refl _) (a := b16) (argsL := [(.ref b20)]) (rest := [(.ref b16)]) (lenOf pd_55 rfl) rfl (by show 2 * 0 + _ ≤ _; exact Nat.le_of_eq rfl) (hb hby at_50) (fun _ _ => ⟨rfl, e20, (by decide : 2 + 4 ≤ _), (by decide : 4 + 8 ≤ _)⟩)
   dsimp only [Pt.U, Pt.locs, Pt.cells, Pt.slots] at X23 l23 y23 z23 st23 hQ23 hS23 hg23 cC23
   subst l23 y23 z23
   obtain ⟨X23, hS, hZ, hown⟩ := rebS hS (by rw [e20]; exact hk) X23 hS23 hg23 hZ hown
   have hk : T23.heap.size ≤ T23.heap.size := Nat.le_refl _
   obtain ⟨ts_23, ks_23, ce_23, ze_23, wv_23, rfl, N23q, Kc23, po23_0, po23_1, po23_2, po23_3, po23_4⟩ := hQ23
   have N23 := Fr.app N22 N23q
   obtain ⟨Lf24, X23, N24⟩ := fixL X23 N23 6 12 rfl rfl
   have P25 := P21.tr st23
   replace OL := OL.keep Kc23 (allS (Nat.le_trans Z0 sz_b16) all0)
   replace CR : CHr Z ELs s.vm h0 T23.vm T23.heap := CR.trans cC23
   have K23 := Kt1 K20 Kc23 (Or.inr sz_b16)
   have E_b16 := po23_0
   have Fv_b16 := po23_1
   have Fc_b16 := po23_2
   have V_ts_23 := po23_3
   have hkb_23 := po23_4
   have P26 : PP p e below T23 (mkF m 96 #[iv ja, iv jb, iv js, iv jr, iv ca, iv cb, iv da, iv db, iv 0, iv nn, rv b16, .unset, .unset, .unset, .unset] []) s0 := fun q_ k_ => P25 q_ (by
    exact bt X23 hx hby b316_ rfl k_)
   exact ⟨T23, T23.vm, T23.heap, _, _, b16, ts_23, ks_23, ce_23, ze_23, wv_23, ([] : List Int32), X23.more (by decide) (by decide), rfl, hS, hk, hZ, hown, CR, N24, K23, E_b16, Fv_b16, Fc_b16, V_ts_23, hkb_23, Or.inl ⟨rfl, rfl⟩, OL, P26⟩
  ·
   have P27 : PP p e below s₁ (mkF m 66 #[iv ja, iv jb, iv js, iv jr, iv ca, iv cb, iv da, iv db, iv 1, iv nn, .unset, .unset, .unset, .unset, .unset] [(.int ca)]) s0 := fun q_ k_ => P13 q_ (by
    refine bt X0 hx hby b314_ rfl ?_
    refine XS.ifYes X0.here hx rfl (pc0 := 40) (pc' := 58) rfl (hb hby at_40) rfl ((if0 _ _).trans (feq ((by decide) : ¬ ((1 : Int32) = (0 : Int32)))).2) (by decide) (by decide) ?_
    refine bt X0 hx hby b317_ rfl ?_
    refine XS.icmpNo X0.here hx rfl (hb hby at_61) rfl (teq ((by decide) : (1 : Int32) = (1 : Int32))).2 ?_
    exact bt X0 hx hby b318_ rfl k_)
   obtain ⟨_, T28, L28, X28, hQ28, P28⟩ := cSt P27 X0 hx hZ hown hw e0 hml 298 299 2 300 (rm_valOf hw ca G1 Gf Z0 Sc hz Sa Sh Sl Sf rGf OL ic_ca) rfl rfl rfl rfl rfl rfl [(.int ca)] [] 0 (lenOf pd_56 rfl) rfl (Nat.le_of_eq rfl) (hb hby at_66) rfl (by decide)
   obtain ⟨xs_28, ts_28, ks_28, ce_28, ze_28, wv_28, rfl, N28q, Kc28, po28_0, po28_1, po28_2, po28_3, po28_4, po28_5, po28_6⟩ := hQ28
   have N28 := Fr.app N0 N28q
   obtain ⟨Lf29, X28, N29⟩ := fixL X28 N28 2 6 rfl rfl
   have sfk28 := (sf0 : ∀ x ∈ [], Safe Z ELs s.vm h0 x)
   replace OL := OL.keep Kc28 all0
   replace CR : CHr Z ELs s.vm h0 s.vm T28.heap := CR.trans (CHr.keep Kc28 sfk28 CR.1)
   replace hk := Nat.le_trans hk Kc28.1
   have K28 := (Keep.refl h0 []).trans Kc28 all0
   have E_xs_28 := po28_2
   have Fv_xs_28 := po28_3
   have Fc_xs_28 := po28_4
   have V_ts_28 := po28_5
   have hkb_28 := po28_6
   have P30 := P28.bt X28 hx hby b319_ rfl
   exact ⟨T28, s.vm, T28.heap, _, _, xs_28, ts_28, ks_28, ce_28, ze_28, wv_28, ([ca] : List Int32), X28.more (by decide) (by decide), rfl, hS, hk, hZ, hown, CR, N29, K28, E_xs_28, Fv_xs_28, Fc_xs_28, V_ts_28, hkb_28, Or.inr (Or.inl ⟨rfl, rfl⟩), OL, P30⟩
  ·
   have P31 : PP p e below s₁ (mkF m 74 #[iv ja, iv jb, iv js, iv jr, iv ca, iv cb, iv da, iv db, iv 2, iv nn, .unset, .unset, .unset, .unset, .unset] []) s0 := fun q_ k_ => P13 q_ (by
    refine bt X0 hx hby b314_ rfl ?_
    refine XS.ifYes X0.here hx rfl (pc0 := 40) (pc' := 58) rfl (hb hby at_40) rfl ((if0 _ _).trans (feq ((by decide) : ¬ ((2 : Int32) = (0 : Int32)))).2) (by decide) (by decide) ?_
    refine bt X0 hx hby b317_ rfl ?_
    exact XS.icmpYes X0.here hx rfl (pc0 := 61) (pc' := 74) rfl (hb hby at_61) rfl (feq ((by decide) : ¬ ((2 : Int32) = (1 : Int32)))).2 (by decide) (by decide) k_)
   obtain ⟨T32, h32, X32, e32, E32, A32, D32, -, st32⟩ := newO X0 hx hZ hown (ww hw 0 rfl) (ww hw 1 rfl) (ww hw 2 rfl) e0 (g := P31.g) rfl (hb hby at_74) (by decide) (by decide)
   obtain ⟨b32, g32⟩ : ∃ z, z = h0.size := ⟨_, rfl⟩
   rw [← g32] at A32 D32 st32
   have P33 := P31.st st32
   have sz_b32 : h0.size ≤ b32 := Nat.le_trans (Nat.le_refl h0.size) (Nat.le_of_eq g32.symm)
   have sf_b32 : Safe Z ELs s.vm h0 b32 := Safe.new (Nat.le_of_eq g32.symm)
   replace sf_b32 := Safe.ext E32 CR.1 sf_b32
   replace OL := OL.ext E32
   replace CR : CHr Z ELs s.vm h0 s.vm h32 := CR.trans (CHr.ext E32 CR.1)
   replace hk := Nat.le_trans hk E32.1
   have K32 := (Keep.refl h0 []).ext E32
   obtain ⟨Lf34, X32, N34⟩ := fixL X32 N0 1 4 rfl rfl
   have E_b32 : Exa Z h32 b32 cS := A32
   have Fc_b32 : Fld Z h32 b32 cS "coder" "B" i0 := D32 (Or.inr (ww hw 27 rfl)) (ty := .byte) (by decide)
   have Fv_b32 : Fld Z h32 b32 cS "value" "[B" .null := D32 (Or.inr (ww hw 29 rfl)) (ty := (.array .byte)) (by decide)
   have P35 := P33.bt X32 hx hby b320_ rfl
   obtain ⟨T36, h36, k36, X36, e36, E36, A36, st36⟩ := newP X32 hx hZ (ww hw 3 rfl) e32 (g := P35.g) rfl (hb hby at_79) rfl (by decide) (cap := 2) (by decide) (by decide) (by decide) (by decide)
   obtain ⟨b36, g36⟩ : ∃ z, z = h32.size := ⟨_, rfl⟩
   rw [← g36] at A36 st36
   have P37 := P35.st st36
   have ne_b32_b36 := neL E_b32.lt (Nat.le_of_eq g36.symm)
   have sz_b36 : h0.size ≤ b36 := Nat.le_trans K32.1 (Nat.le_of_eq g36.symm)
   have sf_b36 : Safe Z ELs s.vm h32 b36 := Safe.new (Nat.le_of_eq g36.symm)
   replace sf_b32 := Safe.ext E36 CR.1 sf_b32
   replace sf_b36 := Safe.ext E36 CR.1 sf_b36
   replace OL := OL.ext E36
   replace E_b32 := E_b32.ext E36
   replace Fc_b32 := Fc_b32.ext E36
   replace Fv_b32 := Fv_b32.ext E36
   replace CR : CHr Z ELs s.vm h0 s.vm h36 := CR.trans (CHr.ext E36 CR.1)
   replace hk := Nat.le_trans hk E36.1
   have K36 := K32.ext E36
   obtain ⟨Lf38, X36, N38⟩ := fixL X36 N34 2 6 rfl rfl
   have V_b36 : Arv Z h36 b36 k36 .char 2 [i0, i0] i0 := (Arv.new A36 (by decide)).pad (pad_rep [] i0 2)
   have P39 : PP p e below T36 (mkF m 85 #[iv ja, iv jb, iv js, iv jr, iv ca, iv cb, iv da, iv db, iv 2, iv nn, .unset, .unset, .unset, .unset, .unset] [(.int ca), i0, (.ref b36), (.ref b36), (.ref b32), (.ref b32)]) s0 := fun q_ k_ => P37 q_ (by
    exact bt X36 hx hby b321_ rfl k_)
   obtain ⟨cl40, Ar40, q40, S40, M40, Hs40, G40⟩ := id V_b36
   obtain ⟨T40, h40, X40, e40, W40, st40⟩ := stC X36 hx hZ e36 Ar40 (j := (0 : Int32)) (inb_of S40 ⟨by decide, by decide⟩) (g := P39.g) rfl rfl (hb hby at_85)
   have P41 := P39.st st40
   have N40 := Fr.snoc X40 N38 (Nat.le_trans Z0 sz_b36)
   have K40 := K36.wr W40 (Or.inr sz_b36)
   have sfw40 : Safe Z ELs s.vm h36 b36 := sf_b36
   replace sf_b32 := Safe.wr W40 sfw40 CR.1 sf_b32
   replace sf_b36 := Safe.wr W40 sfw40 CR.1 sf_b36
   replace OL := OL.wr W40 (Nat.le_trans Z0 sz_b36)
   replace E_b32 := E_b32.wr W40
   replace Fc_b32 := Fc_b32.other W40 (Or.inl ne_b32_b36)
   replace Fv_b32 := Fv_b32.other W40 (Or.inl ne_b32_b36)
   replace CR : CHr Z ELs s.vm h0 s.vm h40 := CR.trans (CHr.wr W40 sfw40 CR.1)
   replace hk := Nat.le_trans hk (Keep.of_wr W40).1
   have V_b36 : Arv Z h40 b36 k36 .char 2 [(.int (nar .char ca)), i0] i0 := Arv.set Ar40 q40 S40 M40 Hs40 G40 (fits_nar_char _) W40 0 rfl (Nat.le_of_ble_eq_true rfl)
   have P42 := P41.bt X40 hx hby b322_ rfl
   obtain ⟨cl43, Ar43, q43, S43, M43, Hs43, G43⟩ := id V_b36
   obtain ⟨T43, h43, X43, e43, W43, st43⟩ := stC X40 hx hZ e40 Ar43 (j := (1 : Int32)) (inb_of S43 ⟨by decide, by decide⟩) (g := P42.g) rfl rfl (hb hby at_90)
   have P44 := P42.st st43
   have N43 := Fr.snoc X43 N40 (Nat.le_trans Z0 sz_b36)
   have K43 := K40.wr W43 (Or.inr sz_b36)
   have sfw43 : Safe Z ELs s.vm h40 b36 := sf_b36
   replace sf_b32 := Safe.wr W43 sfw43 CR.1 sf_b32
   replace OL := OL.wr W43 (Nat.le_trans Z0 sz_b36)
   replace E_b32 := E_b32.wr W43
   replace Fc_b32 := Fc_b32.other W43 (Or.inl ne_b32_b36)
   replace Fv_b32 := Fv_b32.other W43 (Or.inl ne_b32_b36)
   replace CR : CHr Z ELs s.vm h0 s.vm h43 := CR.trans (CHr.wr W43 sfw43 CR.1)
   replace hk := Nat.le_trans hk (Keep.of_wr W43).1
   have V_b36 : Arv Z h43 b36 k36 .char 2 [(.int (nar .char ca)), (.int (nar .char cb))] i0 := Arv.set Ar43 q43 S43 M43 Hs43 G43 (fits_nar_char _) W43 1 rfl (Nat.le_of_ble_eq_true rfl)
   replace V_b36 : Arv Z h43 b36 k36 .char 2 [(.int ca), (.int cb)] i0 := by
       have q := V_b36
       rw [own_narc ic_ca, own_narc ic_cb] at q
       exact q
   obtain ⟨_, T45, L45, X45, hQ45, P45⟩ := cIn P44 X43 hx hZ hown hw e43 hml 4 5 6 2 (rm_init1 hw b32 b36 k36 .null i0 G1 Gf ca cb (zT Z0 K43.1) E_b32 Fv_b32 Fc_b32 (Nat.le_trans Z0 sz_b32) V_b36 ne_b32_b36 Sc hz Sa Sh Sl OL ic_ca ic_cb) rfl rfl rfl rfl rfl rfl rfl [(.ref b36)] [(.ref b32)] 1 (lenOf pd_55 rfl) rfl (Nat.le_of_eq rfl) (hb hby at_91) rfl (by decide)
   obtain ⟨ts_45, ks_45, ce_45, ze_45, wv_45, rfl, N45q, Kc45, po45_0, po45_1, po45_2, po45_3, po45_4, po45_5⟩ := hQ45
   have N45 := Fr.app N43 N45q
   obtain ⟨Lf46, X45, N46⟩ := fixL X45 N45 4 12 rfl rfl
   have sfk45 := ((sfS sf_b32 sf0) : ∀ x ∈ [b32], Safe Z ELs s.vm h43 x)
   replace OL := OL.keep Kc45 (allS (Nat.le_trans Z0 sz_b32) all0)
   replace CR : CHr Z ELs s.vm h0 s.vm T45.heap := CR.trans (CHr.keep Kc45 sfk45 CR.1)
   replace hk := Nat.le_trans hk Kc45.1
   have K45 := Kt1 K43 Kc45 (Or.inr sz_b32)
   have E_b32 := po45_1
   have Fv_b32 := po45_2
   have Fc_b32 := po45_3
   have V_ts_45 := po45_4
   have hkb_45 := po45_5
   have P47 : PP p e below T45 (mkF m 96 #[iv ja, iv jb, iv js, iv jr, iv ca, iv cb, iv da, iv db, iv 2, iv nn, rv b32, .unset, .unset, .unset, .unset] []) s0 := fun q_ k_ => P45 q_ (by
    exact bt X45 hx hby b323_ rfl k_)
   exact ⟨T45, s.vm, T45.heap, _, _, b32, ts_45, ks_45, ce_45, ze_45, wv_45, ([ca, cb] : List Int32), X45.more (by decide) (by decide), rfl, hS, hk, hZ, hown, CR, N46, K45, E_b32, Fv_b32, Fc_b32, V_ts_45, hkb_45, Or.inr (Or.inr ⟨rfl, rfl⟩), OL, P47⟩
 have htl2 : tcs.length ≤ 2 := by rcases htc with ⟨-, h⟩ | ⟨-, h⟩ | ⟨-, h⟩ <;> rw [h] <;> exact Nat.le_of_ble_eq_true rfl
 obtain ⟨T48, h48, X48, e48, E48, A48, D48, -, st48⟩ := newO X14 hx hZ hown (ww hw 30 rfl) (ww hw 31 rfl) (ww hw 32 rfl) e14 (g := P14.g) rfl (hb hby at_96) (by decide) (by decide)
 obtain ⟨b48, g48⟩ : ∃ z, z = h14.size := ⟨_, rfl⟩
 rw [← g48] at A48 D48 st48
 have P49 := P14.st st48
 have ne_xt_b48 := neL E_xt.lt (Nat.le_of_eq g48.symm)
 have ne_tt_b48 := neL V_tt.lt (Nat.le_of_eq g48.symm)
 have sz_b48 : h0.size ≤ b48 := Nat.le_trans K14.1 (Nat.le_of_eq g48.symm)
 have sf_b48 : Safe Z ELs VM14 h14 b48 := Safe.new (Nat.le_of_eq g48.symm)
 replace sf_b48 := Safe.ext E48 CR.1 sf_b48
 replace E_xt := E_xt.ext E48
 replace Fv_xt := Fv_xt.ext E48
 replace Fc_xt := Fc_xt.ext E48
 replace V_tt := V_tt.ext E48
 replace OL := OL.ext E48
 replace CR : CHr Z ELs s.vm h0 VM14 h48 := CR.trans (CHr.ext E48 CR.1)
 replace hk := Nat.le_trans hk E48.1
 have K48 := K14.ext E48
 obtain ⟨Lf50, X48, N50⟩ := fixL X48 N14 9 67 rfl rfl
 have E_b48 : Exa Z h48 b48 cAL := A48
 have Fd_b48 : Fld Z h48 b48 cAb "modCount" "I" i0 := D48 (Or.inl (ww hw 50 rfl)) (ty := .int) (by decide)
 have Fe_b48 : Fld Z h48 b48 cAL "elementData" dOA .null := D48 (Or.inl (ww hw 53 rfl)) (ty := (.array tOb)) (by decide)
 have Fz_b48 : Fld Z h48 b48 cAL "size" "I" i0 := D48 (Or.inl (ww hw 87 rfl)) (ty := .int) (by decide)
 have P51 : PP p e below T48 (mkF m 100 #[iv ja, iv jb, iv js, iv jr, iv ca, iv cb, iv da, iv db, iv tl, iv nn, rv xt, .unset, .unset, .unset, .unset] [(.ref b48), (.ref b48)]) s0 := fun q_ k_ => P49 q_ (by
  exact bt X48 hx hby b324_ rfl k_)
 obtain ⟨_, T52, L52, X52, hQ52, P52⟩ := cIn P51 X48 hx hZ hown hw e48 hml 33 34 35 32 (rm_alInit hw b48 de (0 : Int32) .null (zT Z0 K48.1) E_b48 Fe_b48 Fz_b48 Fd_b48 (Nat.le_trans Z0 sz_b48) Sd OL) rfl rfl rfl rfl rfl rfl rfl [] [(.ref b48)] 1 (lenOf pd_24 rfl) rfl (Nat.le_of_eq rfl) (hb hby at_100) rfl (by decide)
 obtain ⟨rfl, N52q, Kc52, po52_0, po52_1, po52_2, po52_3⟩ := hQ52
 have N52 := Fr.app N50 N52q
 obtain ⟨Lf53, X52, N53⟩ := fixL X52 N52 9 67 rfl rfl
 have sfk52 := ((sfS sf_b48 sf0) : ∀ x ∈ [b48], Safe Z ELs VM14 h48 x)
 replace sf_b48 := Safe.keep Kc52 sfk52 CR.1 sf_b48
 replace E_xt := E_xt.keep Kc52
 replace Fv_xt := Fv_xt.keep Kc52 (ninS ne_xt_b48 nin0)
 replace Fc_xt := Fc_xt.keep Kc52 (ninS ne_xt_b48 nin0)
 replace V_tt := V_tt.keep Kc52 (ninS ne_tt_b48 nin0)
 replace OL := OL.keep Kc52 (allS (Nat.le_trans Z0 sz_b48) all0)
 replace CR : CHr Z ELs s.vm h0 VM14 T52.heap := CR.trans (CHr.keep Kc52 sfk52 CR.1)
 replace hk := Nat.le_trans hk Kc52.1
 have K52 := Kt1 K48 Kc52 (Or.inr sz_b48)
 have E_b48 := po52_0
 have Fe_b48 := po52_1
 have Fz_b48 := po52_2
 have Fd_b48 := po52_3
 have P54 := P52.bt X52 hx hby b325_ rfl
 obtain ⟨T55, VM55, h55, kS55, Lf55, xs, ts, ks, ce, ze, wv, ds, ea, kea, X55, e55, hS, hk, hZ, hown, CR, N55, K55, E_xs, Fv_xs, Fc_xs, V_ts, V_ea, hkb, hdl9, OL, P55⟩ : ∃ (T55 : State) (VM55 : Vm) (h55 : Heap) (kS55 : Nat) (Lf55 : List Loc) (xs : Addr) (ts : Addr) (ks : ClassId) (ce : Int32) (ze : Int32) (wv : List Value) (ds : List Int32) (ea : Addr) (kea : ClassId), Stand p l e room_1 (s.setVm VM55) m #[(.int ja), (.int jb), (.int js), (.int jr)] below meth c T55 Lf55 54 767 ∧ T55.heap = h55 ∧ s.Since VM55 kS55 ∧ kS55 ≤ h55.size ∧ Z.Warmed39 (s.setVm VM55).vm ∧ (s.setVm VM55).vm.findClass cW = some m.cls ∧ CHr Z ELs s.vm h0 VM55 h55 ∧ Fr n0 Lf55 ∧ Keep h0 h55 [] ∧ (Exa Z h55 xs cS) ∧ (Fld Z h55 xs cS "value" "[B" (.ref ts)) ∧ (Fld Z h55 xs cS "coder" "B" (.int ce)) ∧ (Arv Z h55 ts ks .byte ze wv i0) ∧ (Arv Z h55 ea kea .char 10 (ds.map cv) i0) ∧ (KB ce ze wv ds) ∧ (ds.length ≤ 9) ∧ (Old Z n0 h55) ∧ PP p e below T55 (mkF m 306 #[iv ja, iv jb, iv js, iv jr, iv ca, iv cb, iv da, iv db, iv tl, iv nn, rv xt, rv b48, rv ea, iv (Int32.ofNat ds.length), rv xs] []) s0 := by
  rcases h_nn with rfl | rfl | rfl
  ·
   have P56 : PP p e below T52 (mkF m 141 #[iv ja, iv jb, iv js, iv jr, iv ca, iv cb, iv da, iv db, iv tl, iv 0, rv xt, rv b48, .unset, .unset, .unset] [(.int 10)]) s0 := fun q_ k_ => P54 q_ (by
    refine bt X52 hx hby b326_ rfl ?_
    refine XS.icmpYes X52.here hx rfl (pc0 := 108) (pc' := 122) rfl (hb hby at_108) rfl (tlt ((by decide) : (0 : Int32) < (1 : Int32))).1 (by decide) (by decide) ?_
    refine bt X52 hx hby b327_ rfl ?_
    refine XS.icmpYes X52.here hx rfl (pc0 := 125) (pc' := 139) rfl (hb hby at_125) rfl (tlt ((by decide) : (0 : Int32) < (2 : Int32))).1 (by decide) (by decide) ?_
    exact bt X52 hx hby b328_ rfl k_)
   obtain ⟨T57, h57, k57, X57, e57, E57, A57, st57⟩ := newP X52 hx hZ (ww hw 3 rfl) rfl (g := P56.g) rfl (hb hby at_141) rfl (by decide) (cap := 10) (by decide) (by decide) (by decide) (by decide)
   obtain ⟨b57, g57⟩ : ∃ z, z = T52.heap.size := ⟨_, rfl⟩
   rw [← g57] at A57 st57
   have P58 := P56.st st57
   have ne_xt_b57 := neL E_xt.lt (Nat.le_of_eq g57.symm)
   have ne_tt_b57 := neL V_tt.lt (Nat.le_of_eq g57.symm)
   have ne_b48_b57 := neL E_b48.lt (Nat.le_of_eq g57.symm)
   have sz_b57 : h0.size ≤ b57 := Nat.le_trans K52.1 (Nat.le_of_eq g57.symm)
   have sf_b57 : Safe Z ELs VM14 T52.heap b57 := Safe.new (Nat.le_of_eq g57.symm)
   replace sf_b57 := Safe.ext E57 CR.1 sf_b57
   replace E_xt := E_xt.ext E57
   replace Fv_xt := Fv_xt.ext E57
   replace Fc_xt := Fc_xt.ext E57
   replace V_tt := V_tt.ext E57
   replace OL := OL.ext E57
   replace E_b48 := E_b48.ext E57
   replace Fe_b48 := Fe_b48.ext E57
   replace Fz_b48 := Fz_b48.ext E57
   replace Fd_b48 := Fd_b48.ext E57
   replace CR : CHr Z ELs s.vm h0 VM14 h57 := CR.trans (CHr.ext E57 CR.1)
   replace hk := Nat.le_trans hk E57.1
   have K57 := K52.ext E57
   obtain ⟨Lf59, X57, N59⟩ := fixL X57 N53 10 77 rfl rfl
   have V_b57 : Arv Z h57 b57 k57 .char 10 [i0, i0, i0, i0, i0, i0, i0, i0, i0, i0] i0 := (Arv.new A57 (by decide)).pad (pad_rep [] i0 10)
   replace V_b57 : Arv Z h57 b57 k57 .char 10 (([] : List Int32).map cv) i0 := V_b57.pad (fun i => (pad_rep [] i0 10 i).symm)
   have P60 := P58.bt X57 hx hby b329_ rfl
   obtain ⟨T61, VM61, h61, kS61, Lf61, X61, e61, hS, hk, hZ, hown, CR, N61, K61, E_xt, Fv_xt, Fc_xt, V_tt, OL, E_b48, Fe_b48, Fz_b48, Fd_b48, V_b57, P61⟩ : ∃ (T61 : State) (VM61 : Vm) (h61 : Heap) (kS61 : Nat) (Lf61 : List Loc), Stand p l e room_1 (s.setVm VM61) m #[(.int ja), (.int jb), (.int js), (.int jr)] below meth c T61 Lf61 10 77 ∧ T61.heap = h61 ∧ s.Since VM61 kS61 ∧ kS61 ≤ h61.size ∧ Z.Warmed39 (s.setVm VM61).vm ∧ (s.setVm VM61).vm.findClass cW = some m.cls ∧ CHr Z ELs s.vm h0 VM61 h61 ∧ Fr n0 Lf61 ∧ Keep h0 h61 [] ∧ (Exa Z h61 xt cS) ∧ (Fld Z h61 xt cS "value" "[B" (.ref tt)) ∧ (Fld Z h61 xt cS "coder" "B" (.int ct)) ∧ (Arv Z h61 tt kt .byte zt vt i0) ∧ (Old Z n0 h61) ∧ (Exa Z h61 b48 cAL) ∧ (Fld Z h61 b48 cAL "elementData" dOA (.ref de)) ∧ (Fld Z h61 b48 cAL "size" "I" i0) ∧ (Fld Z h61 b48 cAb "modCount" "I" i0) ∧ (Arv Z h61 b57 k57 .char 10 (tcs.map cv) i0) ∧ PP p e below T61 (mkF m 186 #[iv ja, iv jb, iv js, iv jr, iv ca, iv cb, iv da, iv db, iv tl, iv 0, rv xt, rv b48, rv b57, iv (Int32.ofNat tcs.length), .unset] []) s0 := by
    rcases htc with ⟨rfl, rfl⟩ | ⟨rfl, rfl⟩ | ⟨rfl, rfl⟩
    ·
     have P62 : PP p e below T57 (mkF m 186 #[iv ja, iv jb, iv js, iv jr, iv ca, iv cb, iv da, iv db, iv 0, iv 0, rv xt, rv b48, rv b57, iv 0, .unset] []) s0 := fun q_ k_ => P60 q_ (by
      refine bt X57 hx hby b330_ rfl ?_
      refine XS.icmpYes X57.here hx rfl (pc0 := 151) (pc' := 167) rfl (hb hby at_151) rfl (tlt ((by decide) : (0 : Int32) < (1 : Int32))).1 (by decide) (by decide) ?_
      refine bt X57 hx hby b331_ rfl ?_
      exact XS.icmpYes X57.here hx rfl (pc0 := 170) (pc' := 186) rfl (hb hby at_170) rfl (tlt ((by decide) : (0 : Int32) < (2 : Int32))).1 (by decide) (by decide) k_)
     exact ⟨T57, VM14, h57, _, _, X57.more (by decide) (by decide), e57, hS, hk, hZ, hown, CR, N59, K57, E_xt, Fv_xt, Fc_xt, V_tt, OL, E_b48, Fe_b48, Fz_b48, Fd_b48, V_b57, P62⟩
    ·
     replace V_b57 : Arv Z h57 b57 k57 .char 10 [i0] i0 := V_b57.pad (pad_rep [] i0 1)
     have P63 : PP p e below T57 (mkF m 160 #[iv ja, iv jb, iv js, iv jr, iv ca, iv cb, iv da, iv db, iv 1, iv 0, rv xt, rv b48, rv b57, iv 0, .unset] [(.int ca), i0, (.ref b57)]) s0 := fun q_ k_ => P60 q_ (by
      refine bt X57 hx hby b330_ rfl ?_
      refine XS.icmpNo X57.here hx rfl (hb hby at_151) rfl (flt ((by decide) : ¬ ((1 : Int32) < (1 : Int32)))).1 ?_
      exact bt X57 hx hby b332_ rfl k_)
     obtain ⟨cl64, Ar64, q64, S64, M64, Hs64, G64⟩ := id V_b57
     obtain ⟨T64, h64, X64, e64, W64, st64⟩ := stC X57 hx hZ e57 Ar64 (j := (0 : Int32)) (inb_of S64 ⟨by decide, by decide⟩) (g := P63.g) rfl rfl (hb hby at_160)
     have P65 := P63.st st64
     have N64 := Fr.snoc X64 N59 (Nat.le_trans Z0 sz_b57)
     have K64 := K57.wr W64 (Or.inr sz_b57)
     have sfw64 : Safe Z ELs VM14 h57 b57 := sf_b57
     replace E_xt := E_xt.wr W64
     replace Fv_xt := Fv_xt.other W64 (Or.inl ne_xt_b57)
     replace Fc_xt := Fc_xt.other W64 (Or.inl ne_xt_b57)
     replace V_tt := V_tt.other W64 ne_tt_b57
     replace OL := OL.wr W64 (Nat.le_trans Z0 sz_b57)
     replace E_b48 := E_b48.wr W64
     replace Fe_b48 := Fe_b48.other W64 (Or.inl ne_b48_b57)
     replace Fz_b48 := Fz_b48.other W64 (Or.inl ne_b48_b57)
     replace Fd_b48 := Fd_b48.other W64 (Or.inl ne_b48_b57)
     replace CR : CHr Z ELs s.vm h0 VM14 h64 := CR.trans (CHr.wr W64 sfw64 CR.1)
     replace hk := Nat.le_trans hk (Keep.of_wr W64).1
     have V_b57 : Arv Z h64 b57 k57 .char 10 [(.int (nar .char ca))] i0 := Arv.set Ar64 q64 S64 M64 Hs64 G64 (fits_nar_char _) W64 0 rfl (Nat.le_of_ble_eq_true rfl)
     have P66 : PP p e below T64 (mkF m 186 #[iv ja, iv jb, iv js, iv jr, iv ca, iv cb, iv da, iv db, iv 1, iv 0, rv xt, rv b48, rv b57, iv 1, .unset] []) s0 := fun q_ k_ => P65 q_ (by
      refine bt X64 hx hby b333_ rfl ?_
      exact XS.icmpYes X64.here hx rfl (pc0 := 170) (pc' := 186) rfl (hb hby at_170) rfl (tlt ((by decide) : (1 : Int32) < (2 : Int32))).1 (by decide) (by decide) k_)
     exact ⟨T64, VM14, h64, _, _, X64.more (by decide) (by decide), e64, hS, hk, hZ, hown, CR, N64, K64, E_xt, Fv_xt, Fc_xt, V_tt, OL, E_b48, Fe_b48, Fz_b48, Fd_b48, V_b57, P66⟩
    ·
     replace V_b57 : Arv Z h57 b57 k57 .char 10 [i0, i0] i0 := V_b57.pad (pad_rep [] i0 2)
     have P67 : PP p e below T57 (mkF m 160 #[iv ja, iv jb, iv js, iv jr, iv ca, iv cb, iv da, iv db, iv 2, iv 0, rv xt, rv b48, rv b57, iv 0, .unset] [(.int ca), i0, (.ref b57)]) s0 := fun q_ k_ => P60 q_ (by
      refine bt X57 hx hby b330_ rfl ?_
      refine XS.icmpNo X57.here hx rfl (hb hby at_151) rfl (flt ((by decide) : ¬ ((2 : Int32) < (1 : Int32)))).1 ?_
      exact bt X57 hx hby b332_ rfl k_)
     obtain ⟨cl68, Ar68, q68, S68, M68, Hs68, G68⟩ := id V_b57
     obtain ⟨T68, h68, X68, e68, W68, st68⟩ := stC X57 hx hZ e57 Ar68 (j := (0 : Int32)) (inb_of S68 ⟨by decide, by decide⟩) (g := P67.g) rfl rfl (hb hby at_160)
     have P69 := P67.st st68
     have N68 := Fr.snoc X68 N59 (Nat.le_trans Z0 sz_b57)
     have K68 := K57.wr W68 (Or.inr sz_b57)
     have sfw68 : Safe Z ELs VM14 h57 b57 := sf_b57
     replace sf_b57 := Safe.wr W68 sfw68 CR.1 sf_b57
     replace E_xt := E_xt.wr W68
     replace Fv_xt := Fv_xt.other W68 (Or.inl ne_xt_b57)
     replace Fc_xt := Fc_xt.other W68 (Or.inl ne_xt_b57)
     replace V_tt := V_tt.other W68 ne_tt_b57
     replace OL := OL.wr W68 (Nat.le_trans Z0 sz_b57)
     replace E_b48 := E_b48.wr W68
     replace Fe_b48 := Fe_b48.other W68 (Or.inl ne_b48_b57)
     replace Fz_b48 := Fz_b48.other W68 (Or.inl ne_b48_b57)
     replace Fd_b48 := Fd_b48.other W68 (Or.inl ne_b48_b57)
     replace CR : CHr Z ELs s.vm h0 VM14 h68 := CR.trans (CHr.wr W68 sfw68 CR.1)
     replace hk := Nat.le_trans hk (Keep.of_wr W68).1
     have V_b57 : Arv Z h68 b57 k57 .char 10 [(.int (nar .char ca)), i0] i0 := Arv.set Ar68 q68 S68 M68 Hs68 G68 (fits_nar_char _) W68 0 rfl (Nat.le_of_ble_eq_true rfl)
     have P70 : PP p e below T68 (mkF m 179 #[iv ja, iv jb, iv js, iv jr, iv ca, iv cb, iv da, iv db, iv 2, iv 0, rv xt, rv b48, rv b57, iv 1, .unset] [(.int cb), (.int 1), (.ref b57)]) s0 := fun q_ k_ => P69 q_ (by
      refine bt X68 hx hby b333_ rfl ?_
      refine XS.icmpNo X68.here hx rfl (hb hby at_170) rfl (flt ((by decide) : ¬ ((2 : Int32) < (2 : Int32)))).1 ?_
      exact bt X68 hx hby b334_ rfl k_)
     obtain ⟨cl71, Ar71, q71, S71, M71, Hs71, G71⟩ := id V_b57
     obtain ⟨T71, h71, X71, e71, W71, st71⟩ := stC X68 hx hZ e68 Ar71 (j := (1 : Int32)) (inb_of S71 ⟨by decide, by decide⟩) (g := P70.g) rfl rfl (hb hby at_179)
     have P72 := P70.st st71
     have N71 := Fr.snoc X71 N68 (Nat.le_trans Z0 sz_b57)
     have K71 := K68.wr W71 (Or.inr sz_b57)
     have sfw71 : Safe Z ELs VM14 h68 b57 := sf_b57
     replace E_xt := E_xt.wr W71
     replace Fv_xt := Fv_xt.other W71 (Or.inl ne_xt_b57)
     replace Fc_xt := Fc_xt.other W71 (Or.inl ne_xt_b57)
     replace V_tt := V_tt.other W71 ne_tt_b57
     replace OL := OL.wr W71 (Nat.le_trans Z0 sz_b57)
     replace E_b48 := E_b48.wr W71
     replace Fe_b48 := Fe_b48.other W71 (Or.inl ne_b48_b57)
     replace Fz_b48 := Fz_b48.other W71 (Or.inl ne_b48_b57)
     replace Fd_b48 := Fd_b48.other W71 (Or.inl ne_b48_b57)
     replace CR : CHr Z ELs s.vm h0 VM14 h71 := CR.trans (CHr.wr W71 sfw71 CR.1)
     replace hk := Nat.le_trans hk (Keep.of_wr W71).1
     have V_b57 : Arv Z h71 b57 k57 .char 10 [(.int (nar .char ca)), (.int (nar .char cb))] i0 := Arv.set Ar71 q71 S71 M71 Hs71 G71 (fits_nar_char _) W71 1 rfl (Nat.le_of_ble_eq_true rfl)
     have P73 := P72.bt X71 hx hby b335_ rfl
     exact ⟨T71, VM14, h71, _, _, X71.more (by decide) (by decide), e71, hS, hk, hZ, hown, CR, N71, K71, E_xt, Fv_xt, Fc_xt, V_tt, OL, E_b48, Fe_b48, Fz_b48, Fd_b48, V_b57, P73⟩
   have P74 : PP p e below T61 (mkF m 192 #[iv ja, iv jb, iv js, iv jr, iv ca, iv cb, iv da, iv db, iv tl, iv 0, rv xt, rv b48, rv b57, iv (Int32.ofNat tcs.length), .unset] [(.int 32), (.int (Int32.ofNat tcs.length)), (.ref b57)]) s0 := fun q_ k_ => P61 q_ (by
    exact bt X61 hx hby b336_ rfl k_)
   replace V_b57 : Arv Z h61 b57 k57 .char 10 (tcs.map cv ++ [i0]) i0 := V_b57.pad (pad_rep _ i0 1)
   obtain ⟨cl75, Ar75, q75, S75, M75, Hs75, G75⟩ := id V_b57
   obtain ⟨T75, h75, X75, e75, W75, st75⟩ := stC X61 hx hZ e61 Ar75 (j := (Int32.ofNat tcs.length)) (inb_of S75 (own_inb tcs.length 10 (Nat.lt_of_le_of_lt htl2 (by decide)) (by decide))) (g := P74.g) rfl rfl (hb hby at_192)
   have P76 := P74.st st75
   have N75 := Fr.snoc X75 N61 (Nat.le_trans Z0 sz_b57)
   have K75 := K61.wr W75 (Or.inr sz_b57)
   have sfw75 : Safe Z ELs VM61 h61 b57 := (Safe.arv hZ.alike V_b57 (by decide))
   replace E_xt := E_xt.wr W75
   replace Fv_xt := Fv_xt.other W75 (Or.inl ne_xt_b57)
   replace Fc_xt := Fc_xt.other W75 (Or.inl ne_xt_b57)
   replace V_tt := V_tt.other W75 ne_tt_b57
   replace OL := OL.wr W75 (Nat.le_trans Z0 sz_b57)
   replace E_b48 := E_b48.wr W75
   replace Fe_b48 := Fe_b48.other W75 (Or.inl ne_b48_b57)
   replace Fz_b48 := Fz_b48.other W75 (Or.inl ne_b48_b57)
   replace Fd_b48 := Fd_b48.other W75 (Or.inl ne_b48_b57)
   replace CR : CHr Z ELs s.vm h0 VM61 h75 := CR.trans (CHr.wr W75 sfw75 CR.1)
   replace hk := Nat.le_trans hk (Keep.of_wr W75).1
   have V_b57 : Arv Z h75 b57 k57 .char 10 ((tcs.map cv ++ [i0]).set tcs.length (.int (nar .char (32 : Int32)))) i0 := Arv.set Ar75 q75 S75 M75 Hs75 G75 (fits_nar_char _) W75 tcs.length (own_cl _ (Nat.lt_of_le_of_lt htl2 (by decide))) (own_ltm _ _ _)
   replace V_b57 : Arv Z h75 b57 k57 .char 10 ((tcs ++ [(32 : Int32)]).map cv) i0 := by
       have q := V_b57
       rw [own_setE] at q
       exact q
   have P77 := P76.bt X75 hx hby b337_ rfl
   have P78 : PP p e below T75 (mkF m 197 #[iv ja, iv jb, iv js, iv jr, iv ca, iv cb, iv da, iv db, iv tl, iv 0, rv xt, rv b48, rv b57, iv (Int32.ofNat tcs.length), .unset] [(.int (Int32.ofNat (tcs ++ [(32 : Int32)]).length))]) s0 := fun q_ k_ => P77 q_ (by show GG p e below T75 (mkF m 197 #[iv ja, iv jb, iv js, iv jr, iv ca, iv cb, iv da, iv db, iv tl, iv 0, rv xt, rv b48, rv b57, iv (Int32.ofNat tcs.length), .unset] [(.int ((Int32.ofNat tcs.length) + (1 : Int32)))]) q_; rw [(own_ls tcs (32 : Int32))]; exact k_)
   have P79 : PP p e below T75 (mkF m 205 #[iv ja, iv jb, iv js, iv jr, iv ca, iv cb, iv da, iv db, iv tl, iv 0, rv xt, rv b48, rv b57, iv (Int32.ofNat (tcs ++ [(32 : Int32)]).length), .unset] [(.int 91), (.int (Int32.ofNat (tcs ++ [(32 : Int32)]).length)), (.ref b57)]) s0 := fun q_ k_ => P78 q_ (by
    exact bt X75 hx hby b338_ rfl k_)
   replace V_b57 : Arv Z h75 b57 k57 .char 10 ((tcs ++ [(32 : Int32)]).map cv ++ [i0]) i0 := V_b57.pad (pad_rep _ i0 1)
   obtain ⟨cl80, Ar80, q80, S80, M80, Hs80, G80⟩ := id V_b57
   obtain ⟨T80, h80, X80, e80, W80, st80⟩ := stC X75 hx hZ e75 Ar80 (j := (Int32.ofNat (tcs ++ [(32 : Int32)]).length)) (inb_of S80 (own_inb (tcs ++ [(32 : Int32)]).length 10 (Nat.lt_of_le_of_lt (own_l1 htl2) (by decide)) (by decide))) (g := P79.g) rfl rfl (hb hby at_205)
   have P81 := P79.st st80
   have N80 := Fr.snoc X80 N75 (Nat.le_trans Z0 sz_b57)
   have K80 := K75.wr W80 (Or.inr sz_b57)
   have sfw80 : Safe Z ELs VM61 h75 b57 := (Safe.arv hZ.alike V_b57 (by decide))
   replace E_xt := E_xt.wr W80
   replace Fv_xt := Fv_xt.other W80 (Or.inl ne_xt_b57)
   replace Fc_xt := Fc_xt.other W80 (Or.inl ne_xt_b57)
   replace V_tt := V_tt.other W80 ne_tt_b57
   replace OL := OL.wr W80 (Nat.le_trans Z0 sz_b57)
   replace E_b48 := E_b48.wr W80
   replace Fe_b48 := Fe_b48.other W80 (Or.inl ne_b48_b57)
   replace Fz_b48 := Fz_b48.other W80 (Or.inl ne_b48_b57)
   replace Fd_b48 := Fd_b48.other W80 (Or.inl ne_b48_b57)
   replace CR : CHr Z ELs s.vm h0 VM61 h80 := CR.trans (CHr.wr W80 sfw80 CR.1)
   replace hk := Nat.le_trans hk (Keep.of_wr W80).1
   have V_b57 : Arv Z h80 b57 k57 .char 10 (((tcs ++ [(32 : Int32)]).map cv ++ [i0]).set ((tcs ++ [(32 : Int32)]).length) (.int (nar .char (91 : Int32)))) i0 := Arv.set Ar80 q80 S80 M80 Hs80 G80 (fits_nar_char _) W80 (tcs ++ [(32 : Int32)]).length (own_cl _ (Nat.lt_of_le_of_lt (own_l1 htl2) (by decide))) (own_ltm _ _ _)
   replace V_b57 : Arv Z h80 b57 k57 .char 10 (((tcs ++ [(32 : Int32)]) ++ [(91 : Int32)]).map cv) i0 := by
       have q := V_b57
       rw [own_setE] at q
       exact q
   have P82 := P81.bt X80 hx hby b339_ rfl
   have P83 : PP p e below T80 (mkF m 210 #[iv ja, iv jb, iv js, iv jr, iv ca, iv cb, iv da, iv db, iv tl, iv 0, rv xt, rv b48, rv b57, iv (Int32.ofNat (tcs ++ [(32 : Int32)]).length), .unset] [(.int (Int32.ofNat ((tcs ++ [(32 : Int32)]) ++ [(91 : Int32)]).length))]) s0 := fun q_ k_ => P82 q_ (by show GG p e below T80 (mkF m 210 #[iv ja, iv jb, iv js, iv jr, iv ca, iv cb, iv da, iv db, iv tl, iv 0, rv xt, rv b48, rv b57, iv (Int32.ofNat (tcs ++ [(32 : Int32)]).length), .unset] [(.int ((Int32.ofNat (tcs ++ [(32 : Int32)]).length) + (1 : Int32)))]) q_; rw [(own_ls (tcs ++ [(32 : Int32)]) (91 : Int32))]; exact k_)
   have P84 : PP p e below T80 (mkF m 282 #[iv ja, iv jb, iv js, iv jr, iv ca, iv cb, iv da, iv db, iv tl, iv 0, rv xt, rv b48, rv b57, iv (Int32.ofNat ((tcs ++ [(32 : Int32)]) ++ [(91 : Int32)]).length), .unset] [(.int 93), (.int (Int32.ofNat ((tcs ++ [(32 : Int32)]) ++ [(91 : Int32)]).length)), (.ref b57)]) s0 := fun q_ k_ => P83 q_ (by
    refine bt X80 hx hby b340_ rfl ?_
    refine XS.icmpYes X80.here hx rfl (pc0 := 215) (pc' := 231) rfl (hb hby at_215) rfl (tlt ((by decide) : (0 : Int32) < (1 : Int32))).1 (by decide) (by decide) ?_
    refine bt X80 hx hby b341_ rfl ?_
    refine XS.icmpYes X80.here hx rfl (pc0 := 234) (pc' := 276) rfl (hb hby at_234) rfl (tlt ((by decide) : (0 : Int32) < (2 : Int32))).1 (by decide) (by decide) ?_
    exact bt X80 hx hby b342_ rfl k_)
   replace V_b57 : Arv Z h80 b57 k57 .char 10 (((tcs ++ [(32 : Int32)]) ++ [(91 : Int32)]).map cv ++ [i0]) i0 := V_b57.pad (pad_rep _ i0 1)
   obtain ⟨cl85, Ar85, q85, S85, M85, Hs85, G85⟩ := id V_b57
   obtain ⟨T85, h85, X85, e85, W85, st85⟩ := stC X80 hx hZ e80 Ar85 (j := (Int32.ofNat ((tcs ++ [(32 : Int32)]) ++ [(91 : Int32)]).length)) (inb_of S85 (own_inb ((tcs ++ [(32 : Int32)]) ++ [(91 : Int32)]).length 10 (Nat.lt_of_le_of_lt (own_l1 (own_l1 htl2)) (by decide)) (by decide))) (g := P84.g) rfl rfl (hb hby at_282)
   have P86 := P84.st st85
   have N85 := Fr.snoc X85 N80 (Nat.le_trans Z0 sz_b57)
   have K85 := K80.wr W85 (Or.inr sz_b57)
   have sfw85 : Safe Z ELs VM61 h80 b57 := (Safe.arv hZ.alike V_b57 (by decide))
   replace E_xt := E_xt.wr W85
   replace Fv_xt := Fv_xt.other W85 (Or.inl ne_xt_b57)
   replace Fc_xt := Fc_xt.other W85 (Or.inl ne_xt_b57)
   replace V_tt := V_tt.other W85 ne_tt_b57
   replace OL := OL.wr W85 (Nat.le_trans Z0 sz_b57)
   replace E_b48 := E_b48.wr W85
   replace Fe_b48 := Fe_b48.other W85 (Or.inl ne_b48_b57)
   replace Fz_b48 := Fz_b48.other W85 (Or.inl ne_b48_b57)
   replace Fd_b48 := Fd_b48.other W85 (Or.inl ne_b48_b57)
   replace CR : CHr Z ELs s.vm h0 VM61 h85 := CR.trans (CHr.wr W85 sfw85 CR.1)
   replace hk := Nat.le_trans hk (Keep.of_wr W85).1
   have V_b57 : Arv Z h85 b57 k57 .char 10 ((((tcs ++ [(32 : Int32)]) ++ [(91 : Int32)]).map cv ++ [i0]).set (((tcs ++ [(32 : Int32)]) ++ [(91 : Int32)]).length) (.int (nar .char (93 : Int32)))) i0 := Arv.set Ar85 q85 S85 M85 Hs85 G85 (fits_nar_char _) W85 ((tcs ++ [(32 : Int32)]) ++ [(91 : Int32)]).length (own_cl _ (Nat.lt_of_le_of_lt (own_l1 (own_l1 htl2)) (by decide))) (own_ltm _ _ _)
   replace V_b57 : Arv Z h85 b57 k57 .char 10 ((((tcs ++ [(32 : Int32)]) ++ [(91 : Int32)]) ++ [(93 : Int32)]).map cv) i0 := by
       have q := V_b57
       rw [own_setE] at q
       exact q
   have P87 := P86.bt X85 hx hby b343_ rfl
   have P88 : PP p e below T85 (mkF m 287 #[iv ja, iv jb, iv js, iv jr, iv ca, iv cb, iv da, iv db, iv tl, iv 0, rv xt, rv b48, rv b57, iv (Int32.ofNat ((tcs ++ [(32 : Int32)]) ++ [(91 : Int32)]).length), .unset] [(.int (Int32.ofNat (((tcs ++ [(32 : Int32)]) ++ [(91 : Int32)]) ++ [(93 : Int32)]).length))]) s0 := fun q_ k_ => P87 q_ (by show GG p e below T85 (mkF m 287 #[iv ja, iv jb, iv js, iv jr, iv ca, iv cb, iv da, iv db, iv tl, iv 0, rv xt, rv b48, rv b57, iv (Int32.ofNat ((tcs ++ [(32 : Int32)]) ++ [(91 : Int32)]).length), .unset] [(.int ((Int32.ofNat ((tcs ++ [(32 : Int32)]) ++ [(91 : Int32)]).length) + (1 : Int32)))]) q_; rw [(own_ls ((tcs ++ [(32 : Int32)]) ++ [(91 : Int32)]) (93 : Int32))]; exact k_)
   have P89 : PP p e below T85 (mkF m 289 #[iv ja, iv jb, iv js, iv jr, iv ca, iv cb, iv da, iv db, iv tl, iv 0, rv xt, rv b48, rv b57, iv (Int32.ofNat (((tcs ++ [(32 : Int32)]) ++ [(91 : Int32)]) ++ [(93 : Int32)]).length), .unset] []) s0 := fun q_ k_ => P88 q_ (by
    exact bt X85 hx hby b344_ rfl k_)
   have P90 : PP p e below T85 (mkF m 289 #[iv ja, iv jb, iv js, iv jr, iv ca, iv cb, iv da, iv db, iv tl, iv 0, rv xt, rv b48, rv b57, iv (Int32.ofNat (tcs ++ [(32 : Int32), 91, 93]).length), .unset] []) s0 := fun q_ k_ => P89 q_ (castTop (congrArg (fun z_ => mkF m 289 #[iv ja, iv jb, iv js, iv jr, iv ca, iv cb, iv da, iv db, iv tl, iv 0, rv xt, rv b48, rv b57, iv z_, .unset] []) (congrArg (fun z => Int32.ofNat (List.length z)) (show (((tcs ++ [(32 : Int32)]) ++ [(91 : Int32)]) ++ [(93 : Int32)]) = (tcs ++ [(32 : Int32), 91, 93]) by simp only [List.append_assoc, List.cons_append, List.nil_append]))) k_)
   replace V_b57 : Arv Z h85 b57 k57 .char 10 ((tcs ++ [(32 : Int32), 91, 93]).map cv) i0 := by
       have q := V_b57
       simpa only [List.append_assoc, List.cons_append, List.nil_append] using q
   obtain ⟨T91, h91, X91, e91, E91, A91, D91, -, st91⟩ := newO X85 hx hZ hown (ww hw 54 rfl) (ww hw 55 rfl) (ww hw 56 rfl) e85 (g := P90.g) rfl (hb hby at_289) (by decide) (by decide)
   obtain ⟨b91, g91⟩ : ∃ z, z = h85.size := ⟨_, rfl⟩
   rw [← g91] at A91 D91 st91
   have P92 := P90.st st91
   have ne_xt_b91 := neL E_xt.lt (Nat.le_of_eq g91.symm)
   have ne_tt_b91 := neL V_tt.lt (Nat.le_of_eq g91.symm)
   have ne_b48_b91 := neL E_b48.lt (Nat.le_of_eq g91.symm)
   have ne_b57_b91 := neL V_b57.lt (Nat.le_of_eq g91.symm)
   have sz_b91 : h0.size ≤ b91 := Nat.le_trans K85.1 (Nat.le_of_eq g91.symm)
   have sf_b91 : Safe Z ELs VM61 h85 b91 := Safe.new (Nat.le_of_eq g91.symm)
   replace sf_b91 := Safe.ext E91 CR.1 sf_b91
   replace E_xt := E_xt.ext E91
   replace Fv_xt := Fv_xt.ext E91
   replace Fc_xt := Fc_xt.ext E91
   replace V_tt := V_tt.ext E91
   replace OL := OL.ext E91
   replace E_b48 := E_b48.ext E91
   replace Fe_b48 := Fe_b48.ext E91
   replace Fz_b48 := Fz_b48.ext E91
   replace Fd_b48 := Fd_b48.ext E91
   replace V_b57 := V_b57.ext E91
   replace CR : CHr Z ELs s.vm h0 VM61 h91 := CR.trans (CHr.ext E91 CR.1)
   replace hk := Nat.le_trans hk E91.1
   have K91 := K85.ext E91
   obtain ⟨Lf93, X91, N93⟩ := fixL X91 N85 11 80 rfl rfl
   have E_b91 : Exa Z h91 b91 cQ := A91
   have F_text_b91 : Fld Z h91 b91 cQ "text" dS .null := D91 (Or.inr (ww hw 62 rfl)) (ty := (.object cS)) (by decide)
   have Fp_b91 : Fld Z h91 b91 cQ "parameters" dL .null := D91 (Or.inr (ww hw 93 rfl)) (ty := (.object "java/util/List")) (by decide)
   have F_arity_b91 : Fld Z h91 b91 cQ "arity" "I" i0 := D91 (Or.inr (ww hw 95 rfl)) (ty := .int) (by decide)
   have P94 := P92.bt X91 hx hby b345_ rfl
   obtain ⟨_, T95, L95, X95, hQ95, P95⟩ := cIn P94 X91 hx hZ hown hw e91 hml 57 58 59 56 (rm_sqInit0 hw b91 xt b48 (0 : Int32) jr .null .null i0 de el (zT Z0 K91.1) E_b91 F_text_b91 Fp_b91 F_arity_b91 (Nat.le_trans Z0 sz_b91) ne_b48_b91 E_b48 Fe_b48 Fz_b48 Fd_b48 Sn OL) rfl rfl rfl rfl rfl rfl rfl [(.ref xt), (.ref b48), (.int jr)] [(.ref b91)] 1 (lenOf pd_57 rfl) rfl (Nat.le_of_eq rfl) (hb hby at_298) rfl (by decide)
   obtain ⟨rfl, N95q, Kc95, po95_0, po95_1, po95_2⟩ := hQ95
   have N95 := Fr.app N93 N95q
   obtain ⟨Lf96, X95, N96⟩ := fixL X95 N95 11 80 rfl rfl
   have sfk95 := ((sfS sf_b91 sf0) : ∀ x ∈ [b91], Safe Z ELs VM61 h91 x)
   replace E_xt := E_xt.keep Kc95
   replace Fv_xt := Fv_xt.keep Kc95 (ninS ne_xt_b91 nin0)
   replace Fc_xt := Fc_xt.keep Kc95 (ninS ne_xt_b91 nin0)
   replace V_tt := V_tt.keep Kc95 (ninS ne_tt_b91 nin0)
   replace OL := OL.keep Kc95 (allS (Nat.le_trans Z0 sz_b91) all0)
   replace V_b57 := V_b57.keep Kc95 (ninS ne_b57_b91 nin0)
   replace CR : CHr Z ELs s.vm h0 VM61 T95.heap := CR.trans (CHr.keep Kc95 sfk95 CR.1)
   replace hk := Nat.le_trans hk Kc95.1
   have K95 := Kt1 K91 Kc95 (Or.inr sz_b91)
   have E_b91 := po95_0
   have F_text_b91 := po95_1
   have Fp_b91 := po95_2
   obtain ⟨cq97, kq97, q97a, q97b, q97c⟩ := isOf hZ rfl E_b91
   obtain ⟨_, _, ⟨T97, L97, k97, n97⟩, -, X97, hS97, hg97, ⟨Lc97, hQ97, l97, y97, z97, cC97⟩, st97⟩ := X95.virtualBackS hx (y := mn_94) (z := mn_94) hown (mw hZ hw 96 rfl) (mw hZ hw 97 rfl) (notFace_of_selects (args := #[]) (mw hZ hw 99 rfl)) (mw hZ hw 99 rfl) (mw hZ hw 98 rfl) (by decide) (backOfSH (W := 0) (rm_sqStr0 hw hEL b91 xt tt kt ct zt vt tcs el ee kee G1 Gf (zT Z0 K95.1) E_b91 F_text_b91 Fp_b91 E_xt Fv_xt Fc_xt V_tt hkt htl2 Sc hz Sa Sh Sl Sf rGf OL XEL FEL VEE) hZ (ww hw 100 rfl) (ww hw 56 rfl) (by decide) (by decide) hEL CR.1) q97a q97c (g := P95.g) rfl (by rw [hml]; rfl) (Steps.refl _) (argsL := []) (rest := []) (lenOf pd_47 rfl) rfl (by show 2 * 0 + _ ≤ _; exact Nat.le_of_eq rfl) (hb hby at_301) (fun _ _ => ⟨rfl, rfl, (by decide : 11 + 12 ≤ _), (by decide : 80 + 176 ≤ _)⟩)
   dsimp only [Pt.U, Pt.locs, Pt.cells, Pt.slots] at X97 l97 y97 z97 st97 hQ97 hS97 hg97 cC97
   subst l97 y97 z97
   obtain ⟨X97, hS, hZ, hown⟩ := rebS hS (hk) X97 hS97 hg97 hZ hown
   have hk : T97.heap.size ≤ T97.heap.size := Nat.le_refl _
   obtain ⟨xs_97, ts_97, ks_97, ce_97, ze_97, wv_97, rfl, N97q, Kc97, po97_0, po97_1, po97_2, po97_3, po97_4⟩ := hQ97
   have N97 := Fr.app N96 N97q
   obtain ⟨Lf98, X97, N98⟩ := fixL X97 N97 23 256 rfl rfl
   have P99 := P95.tr st97
   replace OL := OL.keep Kc97 all0
   replace V_b57 := V_b57.keep Kc97 nin0
   replace CR : CHr Z ELs s.vm h0 T97.vm T97.heap := CR.trans cC97
   have K97 := K95.trans Kc97 all0
   have E_xs_97 := po97_0
   have Fv_xs_97 := po97_1
   have Fc_xs_97 := po97_2
   have V_ts_97 := po97_3
   have hkb_97 := po97_4
   have P100 : PP p e below T97 (mkF m 306 #[iv ja, iv jb, iv js, iv jr, iv ca, iv cb, iv da, iv db, iv tl, iv 0, rv xt, rv b48, rv b57, iv (Int32.ofNat (tcs ++ [(32 : Int32), 91, 93]).length), rv xs_97] []) s0 := fun q_ k_ => P99 q_ (by
    exact bt X97 hx hby b346_ rfl k_)
   exact ⟨T97, T97.vm, T97.heap, _, _, xs_97, ts_97, ks_97, ce_97, ze_97, wv_97, (tcs ++ [(32 : Int32), 91, 93]), b57, k57, X97.more (by decide) (by decide), rfl, hS, hk, hZ, hown, CR, N98, K97, E_xs_97, Fv_xs_97, Fc_xs_97, V_ts_97, V_b57, hkb_97, (Nat.le_trans (own_lA 7 htl2 (Nat.le_of_ble_eq_true rfl)) (by decide)), OL, P100⟩
  ·
   have P101 : PP p e below T52 (mkF m 115 #[iv ja, iv jb, iv js, iv jr, iv ca, iv cb, iv da, iv db, iv tl, iv 1, rv xt, rv b48, .unset, .unset, .unset] [(.int da), (.ref b48)]) s0 := fun q_ k_ => P54 q_ (by
    refine bt X52 hx hby b326_ rfl ?_
    refine XS.icmpNo X52.here hx rfl (hb hby at_108) rfl (flt ((by decide) : ¬ ((1 : Int32) < (1 : Int32)))).1 ?_
    exact bt X52 hx hby b347_ rfl k_)
   obtain ⟨_, T102, L102, X102, hQ102, P102⟩ := cSt P101 X52 hx hZ hown hw rfl hml 298 299 2 300 (rm_valOf hw da G1 Gf (zT Z0 K52.1) Sc hz Sa Sh Sl Sf rGf OL ic_da) rfl rfl rfl rfl rfl rfl [(.int da)] [(.ref b48)] 1 (lenOf pd_56 rfl) rfl (Nat.le_of_eq rfl) (hb hby at_115) rfl (by decide)
   obtain ⟨xs_102, ts_102, ks_102, ce_102, ze_102, wv_102, rfl, N102q, Kc102, po102_0, po102_1, po102_2, po102_3, po102_4, po102_5, po102_6⟩ := hQ102
   have N102 := Fr.app N53 N102q
   obtain ⟨Lf103, X102, N103⟩ := fixL X102 N102 11 73 rfl rfl
   have ne_b48_xs_102 := neL E_b48.lt po102_0
   have ne_b48_ts_102 := neL E_b48.lt po102_1
   have sfk102 := (sf0 : ∀ x ∈ [], Safe Z ELs VM14 T52.heap x)
   replace sf_b48 := Safe.keep Kc102 sfk102 CR.1 sf_b48
   replace E_xt := E_xt.keep Kc102
   replace Fv_xt := Fv_xt.keep Kc102 nin0
   replace Fc_xt := Fc_xt.keep Kc102 nin0
   replace V_tt := V_tt.keep Kc102 nin0
   replace OL := OL.keep Kc102 all0
   replace E_b48 := E_b48.keep Kc102
   replace Fe_b48 := Fe_b48.keep Kc102 nin0
   replace Fz_b48 := Fz_b48.keep Kc102 nin0
   replace Fd_b48 := Fd_b48.keep Kc102 nin0
   replace CR : CHr Z ELs s.vm h0 VM14 T102.heap := CR.trans (CHr.keep Kc102 sfk102 CR.1)
   replace hk := Nat.le_trans hk Kc102.1
   have K102 := K52.trans Kc102 all0
   have E_xs_102 := po102_2
   have Fv_xs_102 := po102_3
   have Fc_xs_102 := po102_4
   have V_ts_102 := po102_5
   have hkb_102 := po102_6
   obtain ⟨_, T104, L104, X104, hQ104, P104⟩ := cVi P102 X102 hx hZ hown hw rfl E_b48 hml 311 314 313 315 32 (rm_add0 hw b48 (0 : Int32) xs_102 de kde (zT Z0 K102.1) E_b48 Fe_b48 Fz_b48 Fd_b48 E_xs_102 (Nat.le_trans Z0 sz_b48) Sd VDE OL) rfl rfl rfl rfl rfl rfl rfl [(.ref xs_102)] [] 0 (lenOf pd_58 rfl) rfl (Nat.le_of_eq rfl) (hb hby at_118) rfl (by decide)
   obtain ⟨ed_104, ked_104, rfl, N104q, Kc104, po104_0, po104_1, po104_2, po104_3, po104_4, po104_5, po104_6, po104_7, po104_8⟩ := hQ104
   have N104 := Fr.app N103 N104q
   obtain ⟨Lf105, X104, N105⟩ := fixL X104 N104 12 83 rfl rfl
   have sfk104 := ((sfS sf_b48 sf0) : ∀ x ∈ [b48], Safe Z ELs VM14 T102.heap x)
   replace E_xt := E_xt.keep Kc104
   replace Fv_xt := Fv_xt.keep Kc104 (ninS ne_xt_b48 nin0)
   replace Fc_xt := Fc_xt.keep Kc104 (ninS ne_xt_b48 nin0)
   replace V_tt := V_tt.keep Kc104 (ninS ne_tt_b48 nin0)
   replace OL := OL.keep Kc104 (allS (Nat.le_trans Z0 sz_b48) all0)
   replace E_xs_102 := E_xs_102.keep Kc104
   replace Fv_xs_102 := Fv_xs_102.keep Kc104 (ninS (Ne.symm ne_b48_xs_102) nin0)
   replace Fc_xs_102 := Fc_xs_102.keep Kc104 (ninS (Ne.symm ne_b48_xs_102) nin0)
   replace V_ts_102 := V_ts_102.keep Kc104 (ninS (Ne.symm ne_b48_ts_102) nin0)
   replace CR : CHr Z ELs s.vm h0 VM14 T104.heap := CR.trans (CHr.keep Kc104 sfk104 CR.1)
   replace hk := Nat.le_trans hk Kc104.1
   have K104 := Kt1 K102 Kc104 (Or.inr sz_b48)
   have V_ed_104 := po104_1
   have E_ed_104 := po104_2
   have ovd_104 := po104_3
   have E_b48 := po104_4
   have Fe_b48 := po104_5
   have Fz_b48 := po104_6
   have Fd_b48 := po104_7
   have P106 : PP p e below T104 (mkF m 141 #[iv ja, iv jb, iv js, iv jr, iv ca, iv cb, iv da, iv db, iv tl, iv 1, rv xt, rv b48, .unset, .unset, .unset] [(.int 10)]) s0 := fun q_ k_ => P104 q_ (by
    refine bt X104 hx hby b348_ rfl ?_
    refine XS.icmpYes X104.here hx rfl (pc0 := 125) (pc' := 139) rfl (hb hby at_125) rfl (tlt ((by decide) : (1 : Int32) < (2 : Int32))).1 (by decide) (by decide) ?_
    exact bt X104 hx hby b328_ rfl k_)
   obtain ⟨T107, h107, k107, X107, e107, E107, A107, st107⟩ := newP X104 hx hZ (ww hw 3 rfl) rfl (g := P106.g) rfl (hb hby at_141) rfl (by decide) (cap := 10) (by decide) (by decide) (by decide) (by decide)
   obtain ⟨b107, g107⟩ : ∃ z, z = T104.heap.size := ⟨_, rfl⟩
   rw [← g107] at A107 st107
   have P108 := P106.st st107
   have ne_xt_b107 := neL E_xt.lt (Nat.le_of_eq g107.symm)
   have ne_tt_b107 := neL V_tt.lt (Nat.le_of_eq g107.symm)
   have ne_b48_b107 := neL E_b48.lt (Nat.le_of_eq g107.symm)
   have ne_xs_102_b107 := neL E_xs_102.lt (Nat.le_of_eq g107.symm)
   have ne_ts_102_b107 := neL V_ts_102.lt (Nat.le_of_eq g107.symm)
   have ne_ed_104_b107 := neL V_ed_104.lt (Nat.le_of_eq g107.symm)
   have sz_b107 : h0.size ≤ b107 := Nat.le_trans K104.1 (Nat.le_of_eq g107.symm)
   have sf_b107 : Safe Z ELs VM14 T104.heap b107 := Safe.new (Nat.le_of_eq g107.symm)
   replace sf_b107 := Safe.ext E107 CR.1 sf_b107
   replace E_xt := E_xt.ext E107
   replace Fv_xt := Fv_xt.ext E107
   replace Fc_xt := Fc_xt.ext E107
   replace V_tt := V_tt.ext E107
   replace OL := OL.ext E107
   replace E_b48 := E_b48.ext E107
   replace E_xs_102 := E_xs_102.ext E107
   replace Fv_xs_102 := Fv_xs_102.ext E107
   replace Fc_xs_102 := Fc_xs_102.ext E107
   replace V_ts_102 := V_ts_102.ext E107
   replace V_ed_104 := V_ed_104.ext E107
   replace E_ed_104 := E_ed_104.ext E107
   replace Fe_b48 := Fe_b48.ext E107
   replace Fz_b48 := Fz_b48.ext E107
   replace Fd_b48 := Fd_b48.ext E107
   replace CR : CHr Z ELs s.vm h0 VM14 h107 := CR.trans (CHr.ext E107 CR.1)
   replace hk := Nat.le_trans hk E107.1
   have K107 := K104.ext E107
   obtain ⟨Lf109, X107, N109⟩ := fixL X107 N105 13 93 rfl rfl
   have V_b107 : Arv Z h107 b107 k107 .char 10 [i0, i0, i0, i0, i0, i0, i0, i0, i0, i0] i0 := (Arv.new A107 (by decide)).pad (pad_rep [] i0 10)
   replace V_b107 : Arv Z h107 b107 k107 .char 10 (([] : List Int32).map cv) i0 := V_b107.pad (fun i => (pad_rep [] i0 10 i).symm)
   have P110 := P108.bt X107 hx hby b329_ rfl
   obtain ⟨T111, VM111, h111, kS111, Lf111, X111, e111, hS, hk, hZ, hown, CR, N111, K111, E_xt, Fv_xt, Fc_xt, V_tt, OL, E_b48, E_xs_102, Fv_xs_102, Fc_xs_102, V_ts_102, V_ed_104, E_ed_104, Fe_b48, Fz_b48, Fd_b48, V_b107, P111⟩ : ∃ (T111 : State) (VM111 : Vm) (h111 : Heap) (kS111 : Nat) (Lf111 : List Loc), Stand p l e room_1 (s.setVm VM111) m #[(.int ja), (.int jb), (.int js), (.int jr)] below meth c T111 Lf111 13 93 ∧ T111.heap = h111 ∧ s.Since VM111 kS111 ∧ kS111 ≤ h111.size ∧ Z.Warmed39 (s.setVm VM111).vm ∧ (s.setVm VM111).vm.findClass cW = some m.cls ∧ CHr Z ELs s.vm h0 VM111 h111 ∧ Fr n0 Lf111 ∧ Keep h0 h111 [] ∧ (Exa Z h111 xt cS) ∧ (Fld Z h111 xt cS "value" "[B" (.ref tt)) ∧ (Fld Z h111 xt cS "coder" "B" (.int ct)) ∧ (Arv Z h111 tt kt .byte zt vt i0) ∧ (Old Z n0 h111) ∧ (Exa Z h111 b48 cAL) ∧ (Exa Z h111 xs_102 cS) ∧ (Fld Z h111 xs_102 cS "value" "[B" (.ref ts_102)) ∧ (Fld Z h111 xs_102 cS "coder" "B" (.int ce_102)) ∧ (Arv Z h111 ts_102 ks_102 .byte ze_102 wv_102 i0) ∧ (Arv Z h111 ed_104 ked_104 tOb (10 : Int32) [(.ref xs_102), .null, .null, .null, .null, .null, .null, .null, .null, .null] .null) ∧ (Exa Z h111 ed_104 dOA) ∧ (Fld Z h111 b48 cAL "elementData" dOA (.ref ed_104)) ∧ (Fld Z h111 b48 cAL "size" "I" (.int 1)) ∧ (Fld Z h111 b48 cAb "modCount" "I" (.int ((0 : Int32) + (1 : Int32)))) ∧ (Arv Z h111 b107 k107 .char 10 (tcs.map cv) i0) ∧ PP p e below T111 (mkF m 186 #[iv ja, iv jb, iv js, iv jr, iv ca, iv cb, iv da, iv db, iv tl, iv 1, rv xt, rv b48, rv b107, iv (Int32.ofNat tcs.length), .unset] []) s0 := by
    rcases htc with ⟨rfl, rfl⟩ | ⟨rfl, rfl⟩ | ⟨rfl, rfl⟩
    ·
     have P112 : PP p e below T107 (mkF m 186 #[iv ja, iv jb, iv js, iv jr, iv ca, iv cb, iv da, iv db, iv 0, iv 1, rv xt, rv b48, rv b107, iv 0, .unset] []) s0 := fun q_ k_ => P110 q_ (by
      refine bt X107 hx hby b330_ rfl ?_
      refine XS.icmpYes X107.here hx rfl (pc0 := 151) (pc' := 167) rfl (hb hby at_151) rfl (tlt ((by decide) : (0 : Int32) < (1 : Int32))).1 (by decide) (by decide) ?_
      refine bt X107 hx hby b331_ rfl ?_
      exact XS.icmpYes X107.here hx rfl (pc0 := 170) (pc' := 186) rfl (hb hby at_170) rfl (tlt ((by decide) : (0 : Int32) < (2 : Int32))).1 (by decide) (by decide) k_)
     exact ⟨T107, VM14, h107, _, _, X107.more (by decide) (by decide), e107, hS, hk, hZ, hown, CR, N109, K107, E_xt, Fv_xt, Fc_xt, V_tt, OL, E_b48, E_xs_102, Fv_xs_102, Fc_xs_102, V_ts_102, V_ed_104, E_ed_104, Fe_b48, Fz_b48, Fd_b48, V_b107, P112⟩
    ·
     replace V_b107 : Arv Z h107 b107 k107 .char 10 [i0] i0 := V_b107.pad (pad_rep [] i0 1)
     have P113 : PP p e below T107 (mkF m 160 #[iv ja, iv jb, iv js, iv jr, iv ca, iv cb, iv da, iv db, iv 1, iv 1, rv xt, rv b48, rv b107, iv 0, .unset] [(.int ca), i0, (.ref b107)]) s0 := fun q_ k_ => P110 q_ (by
      refine bt X107 hx hby b330_ rfl ?_
      refine XS.icmpNo X107.here hx rfl (hb hby at_151) rfl (flt ((by decide) : ¬ ((1 : Int32) < (1 : Int32)))).1 ?_
      exact bt X107 hx hby b332_ rfl k_)
     obtain ⟨cl114, Ar114, q114, S114, M114, Hs114, G114⟩ := id V_b107
     obtain ⟨T114, h114, X114, e114, W114, st114⟩ := stC X107 hx hZ e107 Ar114 (j := (0 : Int32)) (inb_of S114 ⟨by decide, by decide⟩) (g := P113.g) rfl rfl (hb hby at_160)
     have P115 := P113.st st114
     have N114 := Fr.snoc X114 N109 (Nat.le_trans Z0 sz_b107)
     have K114 := K107.wr W114 (Or.inr sz_b107)
     have sfw114 : Safe Z ELs VM14 h107 b107 := sf_b107
     replace E_xt := E_xt.wr W114
     replace Fv_xt := Fv_xt.other W114 (Or.inl ne_xt_b107)
     replace Fc_xt := Fc_xt.other W114 (Or.inl ne_xt_b107)
     replace V_tt := V_tt.other W114 ne_tt_b107
     replace OL := OL.wr W114 (Nat.le_trans Z0 sz_b107)
     replace E_b48 := E_b48.wr W114
     replace E_xs_102 := E_xs_102.wr W114
     replace Fv_xs_102 := Fv_xs_102.other W114 (Or.inl ne_xs_102_b107)
     replace Fc_xs_102 := Fc_xs_102.other W114 (Or.inl ne_xs_102_b107)
     replace V_ts_102 := V_ts_102.other W114 ne_ts_102_b107
     replace V_ed_104 := V_ed_104.other W114 ne_ed_104_b107
     replace E_ed_104 := E_ed_104.wr W114
     replace Fe_b48 := Fe_b48.other W114 (Or.inl ne_b48_b107)
     replace Fz_b48 := Fz_b48.other W114 (Or.inl ne_b48_b107)
     replace Fd_b48 := Fd_b48.other W114 (Or.inl ne_b48_b107)
     replace CR : CHr Z ELs s.vm h0 VM14 h114 := CR.trans (CHr.wr W114 sfw114 CR.1)
     replace hk := Nat.le_trans hk (Keep.of_wr W114).1
     have V_b107 : Arv Z h114 b107 k107 .char 10 [(.int (nar .char ca))] i0 := Arv.set Ar114 q114 S114 M114 Hs114 G114 (fits_nar_char _) W114 0 rfl (Nat.le_of_ble_eq_true rfl)
     have P116 : PP p e below T114 (mkF m 186 #[iv ja, iv jb, iv js, iv jr, iv ca, iv cb, iv da, iv db, iv 1, iv 1, rv xt, rv b48, rv b107, iv 1, .unset] []) s0 := fun q_ k_ => P115 q_ (by
      refine bt X114 hx hby b333_ rfl ?_
      exact XS.icmpYes X114.here hx rfl (pc0 := 170) (pc' := 186) rfl (hb hby at_170) rfl (tlt ((by decide) : (1 : Int32) < (2 : Int32))).1 (by decide) (by decide) k_)
     exact ⟨T114, VM14, h114, _, _, X114.more (by decide) (by decide), e114, hS, hk, hZ, hown, CR, N114, K114, E_xt, Fv_xt, Fc_xt, V_tt, OL, E_b48, E_xs_102, Fv_xs_102, Fc_xs_102, V_ts_102, V_ed_104, E_ed_104, Fe_b48, Fz_b48, Fd_b48, V_b107, P116⟩
    ·
     replace V_b107 : Arv Z h107 b107 k107 .char 10 [i0, i0] i0 := V_b107.pad (pad_rep [] i0 2)
     have P117 : PP p e below T107 (mkF m 160 #[iv ja, iv jb, iv js, iv jr, iv ca, iv cb, iv da, iv db, iv 2, iv 1, rv xt, rv b48, rv b107, iv 0, .unset] [(.int ca), i0, (.ref b107)]) s0 := fun q_ k_ => P110 q_ (by
      refine bt X107 hx hby b330_ rfl ?_
      refine XS.icmpNo X107.here hx rfl (hb hby at_151) rfl (flt ((by decide) : ¬ ((2 : Int32) < (1 : Int32)))).1 ?_
      exact bt X107 hx hby b332_ rfl k_)
     obtain ⟨cl118, Ar118, q118, S118, M118, Hs118, G118⟩ := id V_b107
     obtain ⟨T118, h118, X118, e118, W118, st118⟩ := stC X107 hx hZ e107 Ar118 (j := (0 : Int32)) (inb_of S118 ⟨by decide, by decide⟩) (g := P117.g) rfl rfl (hb hby at_160)
     have P119 := P117.st st118
     have N118 := Fr.snoc X118 N109 (Nat.le_trans Z0 sz_b107)
     have K118 := K107.wr W118 (Or.inr sz_b107)
     have sfw118 : Safe Z ELs VM14 h107 b107 := sf_b107
     replace sf_b107 := Safe.wr W118 sfw118 CR.1 sf_b107
     replace E_xt := E_xt.wr W118
     replace Fv_xt := Fv_xt.other W118 (Or.inl ne_xt_b107)
     replace Fc_xt := Fc_xt.other W118 (Or.inl ne_xt_b107)
     replace V_tt := V_tt.other W118 ne_tt_b107
     replace OL := OL.wr W118 (Nat.le_trans Z0 sz_b107)
     replace E_b48 := E_b48.wr W118
     replace E_xs_102 := E_xs_102.wr W118
     replace Fv_xs_102 := Fv_xs_102.other W118 (Or.inl ne_xs_102_b107)
     replace Fc_xs_102 := Fc_xs_102.other W118 (Or.inl ne_xs_102_b107)
     replace V_ts_102 := V_ts_102.other W118 ne_ts_102_b107
     replace V_ed_104 := V_ed_104.other W118 ne_ed_104_b107
     replace E_ed_104 := E_ed_104.wr W118
     replace Fe_b48 := Fe_b48.other W118 (Or.inl ne_b48_b107)
     replace Fz_b48 := Fz_b48.other W118 (Or.inl ne_b48_b107)
     replace Fd_b48 := Fd_b48.other W118 (Or.inl ne_b48_b107)
     replace CR : CHr Z ELs s.vm h0 VM14 h118 := CR.trans (CHr.wr W118 sfw118 CR.1)
     replace hk := Nat.le_trans hk (Keep.of_wr W118).1
     have V_b107 : Arv Z h118 b107 k107 .char 10 [(.int (nar .char ca)), i0] i0 := Arv.set Ar118 q118 S118 M118 Hs118 G118 (fits_nar_char _) W118 0 rfl (Nat.le_of_ble_eq_true rfl)
     have P120 : PP p e below T118 (mkF m 179 #[iv ja, iv jb, iv js, iv jr, iv ca, iv cb, iv da, iv db, iv 2, iv 1, rv xt, rv b48, rv b107, iv 1, .unset] [(.int cb), (.int 1), (.ref b107)]) s0 := fun q_ k_ => P119 q_ (by
      refine bt X118 hx hby b333_ rfl ?_
      refine XS.icmpNo X118.here hx rfl (hb hby at_170) rfl (flt ((by decide) : ¬ ((2 : Int32) < (2 : Int32)))).1 ?_
      exact bt X118 hx hby b334_ rfl k_)
     obtain ⟨cl121, Ar121, q121, S121, M121, Hs121, G121⟩ := id V_b107
     obtain ⟨T121, h121, X121, e121, W121, st121⟩ := stC X118 hx hZ e118 Ar121 (j := (1 : Int32)) (inb_of S121 ⟨by decide, by decide⟩) (g := P120.g) rfl rfl (hb hby at_179)
     have P122 := P120.st st121
     have N121 := Fr.snoc X121 N118 (Nat.le_trans Z0 sz_b107)
     have K121 := K118.wr W121 (Or.inr sz_b107)
     have sfw121 : Safe Z ELs VM14 h118 b107 := sf_b107
     replace E_xt := E_xt.wr W121
     replace Fv_xt := Fv_xt.other W121 (Or.inl ne_xt_b107)
     replace Fc_xt := Fc_xt.other W121 (Or.inl ne_xt_b107)
     replace V_tt := V_tt.other W121 ne_tt_b107
     replace OL := OL.wr W121 (Nat.le_trans Z0 sz_b107)
     replace E_b48 := E_b48.wr W121
     replace E_xs_102 := E_xs_102.wr W121
     replace Fv_xs_102 := Fv_xs_102.other W121 (Or.inl ne_xs_102_b107)
     replace Fc_xs_102 := Fc_xs_102.other W121 (Or.inl ne_xs_102_b107)
     replace V_ts_102 := V_ts_102.other W121 ne_ts_102_b107
     replace V_ed_104 := V_ed_104.other W121 ne_ed_104_b107
     replace E_ed_104 := E_ed_104.wr W121
     replace Fe_b48 := Fe_b48.other W121 (Or.inl ne_b48_b107)
     replace Fz_b48 := Fz_b48.other W121 (Or.inl ne_b48_b107)
     replace Fd_b48 := Fd_b48.other W121 (Or.inl ne_b48_b107)
     replace CR : CHr Z ELs s.vm h0 VM14 h121 := CR.trans (CHr.wr W121 sfw121 CR.1)
     replace hk := Nat.le_trans hk (Keep.of_wr W121).1
     have V_b107 : Arv Z h121 b107 k107 .char 10 [(.int (nar .char ca)), (.int (nar .char cb))] i0 := Arv.set Ar121 q121 S121 M121 Hs121 G121 (fits_nar_char _) W121 1 rfl (Nat.le_of_ble_eq_true rfl)
     have P123 := P122.bt X121 hx hby b335_ rfl
     exact ⟨T121, VM14, h121, _, _, X121.more (by decide) (by decide), e121, hS, hk, hZ, hown, CR, N121, K121, E_xt, Fv_xt, Fc_xt, V_tt, OL, E_b48, E_xs_102, Fv_xs_102, Fc_xs_102, V_ts_102, V_ed_104, E_ed_104, Fe_b48, Fz_b48, Fd_b48, V_b107, P123⟩
   have P124 : PP p e below T111 (mkF m 192 #[iv ja, iv jb, iv js, iv jr, iv ca, iv cb, iv da, iv db, iv tl, iv 1, rv xt, rv b48, rv b107, iv (Int32.ofNat tcs.length), .unset] [(.int 32), (.int (Int32.ofNat tcs.length)), (.ref b107)]) s0 := fun q_ k_ => P111 q_ (by
    exact bt X111 hx hby b336_ rfl k_)
   replace V_b107 : Arv Z h111 b107 k107 .char 10 (tcs.map cv ++ [i0]) i0 := V_b107.pad (pad_rep _ i0 1)
   obtain ⟨cl125, Ar125, q125, S125, M125, Hs125, G125⟩ := id V_b107
   obtain ⟨T125, h125, X125, e125, W125, st125⟩ := stC X111 hx hZ e111 Ar125 (j := (Int32.ofNat tcs.length)) (inb_of S125 (own_inb tcs.length 10 (Nat.lt_of_le_of_lt htl2 (by decide)) (by decide))) (g := P124.g) rfl rfl (hb hby at_192)
   have P126 := P124.st st125
   have N125 := Fr.snoc X125 N111 (Nat.le_trans Z0 sz_b107)
   have K125 := K111.wr W125 (Or.inr sz_b107)
   have sfw125 : Safe Z ELs VM111 h111 b107 := (Safe.arv hZ.alike V_b107 (by decide))
   replace E_xt := E_xt.wr W125
   replace Fv_xt := Fv_xt.other W125 (Or.inl ne_xt_b107)
   replace Fc_xt := Fc_xt.other W125 (Or.inl ne_xt_b107)
   replace V_tt := V_tt.other W125 ne_tt_b107
   replace OL := OL.wr W125 (Nat.le_trans Z0 sz_b107)
   replace E_b48 := E_b48.wr W125
   replace E_xs_102 := E_xs_102.wr W125
   replace Fv_xs_102 := Fv_xs_102.other W125 (Or.inl ne_xs_102_b107)
   replace Fc_xs_102 := Fc_xs_102.other W125 (Or.inl ne_xs_102_b107)
   replace V_ts_102 := V_ts_102.other W125 ne_ts_102_b107
   replace V_ed_104 := V_ed_104.other W125 ne_ed_104_b107
   replace E_ed_104 := E_ed_104.wr W125
   replace Fe_b48 := Fe_b48.other W125 (Or.inl ne_b48_b107)
   replace Fz_b48 := Fz_b48.other W125 (Or.inl ne_b48_b107)
   replace Fd_b48 := Fd_b48.other W125 (Or.inl ne_b48_b107)
   replace CR : CHr Z ELs s.vm h0 VM111 h125 := CR.trans (CHr.wr W125 sfw125 CR.1)
   replace hk := Nat.le_trans hk (Keep.of_wr W125).1
   have V_b107 : Arv Z h125 b107 k107 .char 10 ((tcs.map cv ++ [i0]).set tcs.length (.int (nar .char (32 : Int32)))) i0 := Arv.set Ar125 q125 S125 M125 Hs125 G125 (fits_nar_char _) W125 tcs.length (own_cl _ (Nat.lt_of_le_of_lt htl2 (by decide))) (own_ltm _ _ _)
   replace V_b107 : Arv Z h125 b107 k107 .char 10 ((tcs ++ [(32 : Int32)]).map cv) i0 := by
       have q := V_b107
       rw [own_setE] at q
       exact q
   have P127 := P126.bt X125 hx hby b337_ rfl
   have P128 : PP p e below T125 (mkF m 197 #[iv ja, iv jb, iv js, iv jr, iv ca, iv cb, iv da, iv db, iv tl, iv 1, rv xt, rv b48, rv b107, iv (Int32.ofNat tcs.length), .unset] [(.int (Int32.ofNat (tcs ++ [(32 : Int32)]).length))]) s0 := fun q_ k_ => P127 q_ (by show GG p e below T125 (mkF m 197 #[iv ja, iv jb, iv js, iv jr, iv ca, iv cb, iv da, iv db, iv tl, iv 1, rv xt, rv b48, rv b107, iv (Int32.ofNat tcs.length), .unset] [(.int ((Int32.ofNat tcs.length) + (1 : Int32)))]) q_; rw [(own_ls tcs (32 : Int32))]; exact k_)
   have P129 : PP p e below T125 (mkF m 205 #[iv ja, iv jb, iv js, iv jr, iv ca, iv cb, iv da, iv db, iv tl, iv 1, rv xt, rv b48, rv b107, iv (Int32.ofNat (tcs ++ [(32 : Int32)]).length), .unset] [(.int 91), (.int (Int32.ofNat (tcs ++ [(32 : Int32)]).length)), (.ref b107)]) s0 := fun q_ k_ => P128 q_ (by
    exact bt X125 hx hby b338_ rfl k_)
   replace V_b107 : Arv Z h125 b107 k107 .char 10 ((tcs ++ [(32 : Int32)]).map cv ++ [i0]) i0 := V_b107.pad (pad_rep _ i0 1)
   obtain ⟨cl130, Ar130, q130, S130, M130, Hs130, G130⟩ := id V_b107
   obtain ⟨T130, h130, X130, e130, W130, st130⟩ := stC X125 hx hZ e125 Ar130 (j := (Int32.ofNat (tcs ++ [(32 : Int32)]).length)) (inb_of S130 (own_inb (tcs ++ [(32 : Int32)]).length 10 (Nat.lt_of_le_of_lt (own_l1 htl2) (by decide)) (by decide))) (g := P129.g) rfl rfl (hb hby at_205)
   have P131 := P129.st st130
   have N130 := Fr.snoc X130 N125 (Nat.le_trans Z0 sz_b107)
   have K130 := K125.wr W130 (Or.inr sz_b107)
   have sfw130 : Safe Z ELs VM111 h125 b107 := (Safe.arv hZ.alike V_b107 (by decide))
   replace E_xt := E_xt.wr W130
   replace Fv_xt := Fv_xt.other W130 (Or.inl ne_xt_b107)
   replace Fc_xt := Fc_xt.other W130 (Or.inl ne_xt_b107)
   replace V_tt := V_tt.other W130 ne_tt_b107
   replace OL := OL.wr W130 (Nat.le_trans Z0 sz_b107)
   replace E_b48 := E_b48.wr W130
   replace E_xs_102 := E_xs_102.wr W130
   replace Fv_xs_102 := Fv_xs_102.other W130 (Or.inl ne_xs_102_b107)
   replace Fc_xs_102 := Fc_xs_102.other W130 (Or.inl ne_xs_102_b107)
   replace V_ts_102 := V_ts_102.other W130 ne_ts_102_b107
   replace V_ed_104 := V_ed_104.other W130 ne_ed_104_b107
   replace E_ed_104 := E_ed_104.wr W130
   replace Fe_b48 := Fe_b48.other W130 (Or.inl ne_b48_b107)
   replace Fz_b48 := Fz_b48.other W130 (Or.inl ne_b48_b107)
   replace Fd_b48 := Fd_b48.other W130 (Or.inl ne_b48_b107)
   replace CR : CHr Z ELs s.vm h0 VM111 h130 := CR.trans (CHr.wr W130 sfw130 CR.1)
   replace hk := Nat.le_trans hk (Keep.of_wr W130).1
   have V_b107 : Arv Z h130 b107 k107 .char 10 (((tcs ++ [(32 : Int32)]).map cv ++ [i0]).set ((tcs ++ [(32 : Int32)]).length) (.int (nar .char (91 : Int32)))) i0 := Arv.set Ar130 q130 S130 M130 Hs130 G130 (fits_nar_char _) W130 (tcs ++ [(32 : Int32)]).length (own_cl _ (Nat.lt_of_le_of_lt (own_l1 htl2) (by decide))) (own_ltm _ _ _)
   replace V_b107 : Arv Z h130 b107 k107 .char 10 (((tcs ++ [(32 : Int32)]) ++ [(91 : Int32)]).map cv) i0 := by
       have q := V_b107
       rw [own_setE] at q
       exact q
   have P132 := P131.bt X130 hx hby b339_ rfl
   have P133 : PP p e below T130 (mkF m 210 #[iv ja, iv jb, iv js, iv jr, iv ca, iv cb, iv da, iv db, iv tl, iv 1, rv xt, rv b48, rv b107, iv (Int32.ofNat (tcs ++ [(32 : Int32)]).length), .unset] [(.int (Int32.ofNat ((tcs ++ [(32 : Int32)]) ++ [(91 : Int32)]).length))]) s0 := fun q_ k_ => P132 q_ (by show GG p e below T130 (mkF m 210 #[iv ja, iv jb, iv js, iv jr, iv ca, iv cb, iv da, iv db, iv tl, iv 1, rv xt, rv b48, rv b107, iv (Int32.ofNat (tcs ++ [(32 : Int32)]).length), .unset] [(.int ((Int32.ofNat (tcs ++ [(32 : Int32)]).length) + (1 : Int32)))]) q_; rw [(own_ls (tcs ++ [(32 : Int32)]) (91 : Int32))]; exact k_)
   have P134 : PP p e below T130 (mkF m 224 #[iv ja, iv jb, iv js, iv jr, iv ca, iv cb, iv da, iv db, iv tl, iv 1, rv xt, rv b48, rv b107, iv (Int32.ofNat ((tcs ++ [(32 : Int32)]) ++ [(91 : Int32)]).length), .unset] [(.int da), (.int (Int32.ofNat ((tcs ++ [(32 : Int32)]) ++ [(91 : Int32)]).length)), (.ref b107)]) s0 := fun q_ k_ => P133 q_ (by
    refine bt X130 hx hby b340_ rfl ?_
    refine XS.icmpNo X130.here hx rfl (hb hby at_215) rfl (flt ((by decide) : ¬ ((1 : Int32) < (1 : Int32)))).1 ?_
    exact bt X130 hx hby b349_ rfl k_)
   replace V_b107 : Arv Z h130 b107 k107 .char 10 (((tcs ++ [(32 : Int32)]) ++ [(91 : Int32)]).map cv ++ [i0]) i0 := V_b107.pad (pad_rep _ i0 1)
   obtain ⟨cl135, Ar135, q135, S135, M135, Hs135, G135⟩ := id V_b107
   obtain ⟨T135, h135, X135, e135, W135, st135⟩ := stC X130 hx hZ e130 Ar135 (j := (Int32.ofNat ((tcs ++ [(32 : Int32)]) ++ [(91 : Int32)]).length)) (inb_of S135 (own_inb ((tcs ++ [(32 : Int32)]) ++ [(91 : Int32)]).length 10 (Nat.lt_of_le_of_lt (own_l1 (own_l1 htl2)) (by decide)) (by decide))) (g := P134.g) rfl rfl (hb hby at_224)
   have P136 := P134.st st135
   have N135 := Fr.snoc X135 N130 (Nat.le_trans Z0 sz_b107)
   have K135 := K130.wr W135 (Or.inr sz_b107)
   have sfw135 : Safe Z ELs VM111 h130 b107 := (Safe.arv hZ.alike V_b107 (by decide))
   replace E_xt := E_xt.wr W135
   replace Fv_xt := Fv_xt.other W135 (Or.inl ne_xt_b107)
   replace Fc_xt := Fc_xt.other W135 (Or.inl ne_xt_b107)
   replace V_tt := V_tt.other W135 ne_tt_b107
   replace OL := OL.wr W135 (Nat.le_trans Z0 sz_b107)
   replace E_b48 := E_b48.wr W135
   replace E_xs_102 := E_xs_102.wr W135
   replace Fv_xs_102 := Fv_xs_102.other W135 (Or.inl ne_xs_102_b107)
   replace Fc_xs_102 := Fc_xs_102.other W135 (Or.inl ne_xs_102_b107)
   replace V_ts_102 := V_ts_102.other W135 ne_ts_102_b107
   replace V_ed_104 := V_ed_104.other W135 ne_ed_104_b107
   replace E_ed_104 := E_ed_104.wr W135
   replace Fe_b48 := Fe_b48.other W135 (Or.inl ne_b48_b107)
   replace Fz_b48 := Fz_b48.other W135 (Or.inl ne_b48_b107)
   replace Fd_b48 := Fd_b48.other W135 (Or.inl ne_b48_b107)
   replace CR : CHr Z ELs s.vm h0 VM111 h135 := CR.trans (CHr.wr W135 sfw135 CR.1)
   replace hk := Nat.le_trans hk (Keep.of_wr W135).1
   have V_b107 : Arv Z h135 b107 k107 .char 10 ((((tcs ++ [(32 : Int32)]) ++ [(91 : Int32)]).map cv ++ [i0]).set (((tcs ++ [(32 : Int32)]) ++ [(91 : Int32)]).length) (.int (nar .char da))) i0 := Arv.set Ar135 q135 S135 M135 Hs135 G135 (fits_nar_char _) W135 ((tcs ++ [(32 : Int32)]) ++ [(91 : Int32)]).length (own_cl _ (Nat.lt_of_le_of_lt (own_l1 (own_l1 htl2)) (by decide))) (own_ltm _ _ _)
   replace V_b107 : Arv Z h135 b107 k107 .char 10 ((((tcs ++ [(32 : Int32)]) ++ [(91 : Int32)]) ++ [da]).map cv) i0 := by
       have q := V_b107
       rw [own_setE] at q
       exact q
   have P137 := P136.bt X135 hx hby b350_ rfl
   have P138 : PP p e below T135 (mkF m 229 #[iv ja, iv jb, iv js, iv jr, iv ca, iv cb, iv da, iv db, iv tl, iv 1, rv xt, rv b48, rv b107, iv (Int32.ofNat ((tcs ++ [(32 : Int32)]) ++ [(91 : Int32)]).length), .unset] [(.int (Int32.ofNat (((tcs ++ [(32 : Int32)]) ++ [(91 : Int32)]) ++ [da]).length))]) s0 := fun q_ k_ => P137 q_ (by show GG p e below T135 (mkF m 229 #[iv ja, iv jb, iv js, iv jr, iv ca, iv cb, iv da, iv db, iv tl, iv 1, rv xt, rv b48, rv b107, iv (Int32.ofNat ((tcs ++ [(32 : Int32)]) ++ [(91 : Int32)]).length), .unset] [(.int ((Int32.ofNat ((tcs ++ [(32 : Int32)]) ++ [(91 : Int32)]).length) + (1 : Int32)))]) q_; rw [(own_ls ((tcs ++ [(32 : Int32)]) ++ [(91 : Int32)]) da)]; exact k_)
   have P139 : PP p e below T135 (mkF m 282 #[iv ja, iv jb, iv js, iv jr, iv ca, iv cb, iv da, iv db, iv tl, iv 1, rv xt, rv b48, rv b107, iv (Int32.ofNat (((tcs ++ [(32 : Int32)]) ++ [(91 : Int32)]) ++ [da]).length), .unset] [(.int 93), (.int (Int32.ofNat (((tcs ++ [(32 : Int32)]) ++ [(91 : Int32)]) ++ [da]).length)), (.ref b107)]) s0 := fun q_ k_ => P138 q_ (by
    refine bt X135 hx hby b351_ rfl ?_
    refine XS.icmpYes X135.here hx rfl (pc0 := 234) (pc' := 276) rfl (hb hby at_234) rfl (tlt ((by decide) : (1 : Int32) < (2 : Int32))).1 (by decide) (by decide) ?_
    exact bt X135 hx hby b342_ rfl k_)
   replace V_b107 : Arv Z h135 b107 k107 .char 10 ((((tcs ++ [(32 : Int32)]) ++ [(91 : Int32)]) ++ [da]).map cv ++ [i0]) i0 := V_b107.pad (pad_rep _ i0 1)
   obtain ⟨cl140, Ar140, q140, S140, M140, Hs140, G140⟩ := id V_b107
   obtain ⟨T140, h140, X140, e140, W140, st140⟩ := stC X135 hx hZ e135 Ar140 (j := (Int32.ofNat (((tcs ++ [(32 : Int32)]) ++ [(91 : Int32)]) ++ [da]).length)) (inb_of S140 (own_inb (((tcs ++ [(32 : Int32)]) ++ [(91 : Int32)]) ++ [da]).length 10 (Nat.lt_of_le_of_lt (own_l1 (own_l1 (own_l1 htl2))) (by decide)) (by decide))) (g := P139.g) rfl rfl (hb hby at_282)
   have P141 := P139.st st140
   have N140 := Fr.snoc X140 N135 (Nat.le_trans Z0 sz_b107)
   have K140 := K135.wr W140 (Or.inr sz_b107)
   have sfw140 : Safe Z ELs VM111 h135 b107 := (Safe.arv hZ.alike V_b107 (by decide))
   replace E_xt := E_xt.wr W140
   replace Fv_xt := Fv_xt.other W140 (Or.inl ne_xt_b107)
   replace Fc_xt := Fc_xt.other W140 (Or.inl ne_xt_b107)
   replace V_tt := V_tt.other W140 ne_tt_b107
   replace OL := OL.wr W140 (Nat.le_trans Z0 sz_b107)
   replace E_b48 := E_b48.wr W140
   replace E_xs_102 := E_xs_102.wr W140
   replace Fv_xs_102 := Fv_xs_102.other W140 (Or.inl ne_xs_102_b107)
   replace Fc_xs_102 := Fc_xs_102.other W140 (Or.inl ne_xs_102_b107)
   replace V_ts_102 := V_ts_102.other W140 ne_ts_102_b107
   replace V_ed_104 := V_ed_104.other W140 ne_ed_104_b107
   replace E_ed_104 := E_ed_104.wr W140
   replace Fe_b48 := Fe_b48.other W140 (Or.inl ne_b48_b107)
   replace Fz_b48 := Fz_b48.other W140 (Or.inl ne_b48_b107)
   replace Fd_b48 := Fd_b48.other W140 (Or.inl ne_b48_b107)
   replace CR : CHr Z ELs s.vm h0 VM111 h140 := CR.trans (CHr.wr W140 sfw140 CR.1)
   replace hk := Nat.le_trans hk (Keep.of_wr W140).1
   have V_b107 : Arv Z h140 b107 k107 .char 10 (((((tcs ++ [(32 : Int32)]) ++ [(91 : Int32)]) ++ [da]).map cv ++ [i0]).set ((((tcs ++ [(32 : Int32)]) ++ [(91 : Int32)]) ++ [da]).length) (.int (nar .char (93 : Int32)))) i0 := Arv.set Ar140 q140 S140 M140 Hs140 G140 (fits_nar_char _) W140 (((tcs ++ [(32 : Int32)]) ++ [(91 : Int32)]) ++ [da]).length (own_cl _ (Nat.lt_of_le_of_lt (own_l1 (own_l1 (own_l1 htl2))) (by decide))) (own_ltm _ _ _)
   replace V_b107 : Arv Z h140 b107 k107 .char 10 (((((tcs ++ [(32 : Int32)]) ++ [(91 : Int32)]) ++ [da]) ++ [(93 : Int32)]).map cv) i0 := by
       have q := V_b107
       rw [own_setE] at q
       exact q
   have P142 := P141.bt X140 hx hby b343_ rfl
   have P143 : PP p e below T140 (mkF m 287 #[iv ja, iv jb, iv js, iv jr, iv ca, iv cb, iv da, iv db, iv tl, iv 1, rv xt, rv b48, rv b107, iv (Int32.ofNat (((tcs ++ [(32 : Int32)]) ++ [(91 : Int32)]) ++ [da]).length), .unset] [(.int (Int32.ofNat ((((tcs ++ [(32 : Int32)]) ++ [(91 : Int32)]) ++ [da]) ++ [(93 : Int32)]).length))]) s0 := fun q_ k_ => P142 q_ (by show GG p e below T140 (mkF m 287 #[iv ja, iv jb, iv js, iv jr, iv ca, iv cb, iv da, iv db, iv tl, iv 1, rv xt, rv b48, rv b107, iv (Int32.ofNat (((tcs ++ [(32 : Int32)]) ++ [(91 : Int32)]) ++ [da]).length), .unset] [(.int ((Int32.ofNat (((tcs ++ [(32 : Int32)]) ++ [(91 : Int32)]) ++ [da]).length) + (1 : Int32)))]) q_; rw [(own_ls (((tcs ++ [(32 : Int32)]) ++ [(91 : Int32)]) ++ [da]) (93 : Int32))]; exact k_)
   have P144 : PP p e below T140 (mkF m 289 #[iv ja, iv jb, iv js, iv jr, iv ca, iv cb, iv da, iv db, iv tl, iv 1, rv xt, rv b48, rv b107, iv (Int32.ofNat ((((tcs ++ [(32 : Int32)]) ++ [(91 : Int32)]) ++ [da]) ++ [(93 : Int32)]).length), .unset] []) s0 := fun q_ k_ => P143 q_ (by
    exact bt X140 hx hby b344_ rfl k_)
   have P145 : PP p e below T140 (mkF m 289 #[iv ja, iv jb, iv js, iv jr, iv ca, iv cb, iv da, iv db, iv tl, iv 1, rv xt, rv b48, rv b107, iv (Int32.ofNat (tcs ++ [(32 : Int32), 91, da, 93]).length), .unset] []) s0 := fun q_ k_ => P144 q_ (castTop (congrArg (fun z_ => mkF m 289 #[iv ja, iv jb, iv js, iv jr, iv ca, iv cb, iv da, iv db, iv tl, iv 1, rv xt, rv b48, rv b107, iv z_, .unset] []) (congrArg (fun z => Int32.ofNat (List.length z)) (show ((((tcs ++ [(32 : Int32)]) ++ [(91 : Int32)]) ++ [da]) ++ [(93 : Int32)]) = (tcs ++ [(32 : Int32), 91, da, 93]) by simp only [List.append_assoc, List.cons_append, List.nil_append]))) k_)
   replace V_b107 : Arv Z h140 b107 k107 .char 10 ((tcs ++ [(32 : Int32), 91, da, 93]).map cv) i0 := by
       have q := V_b107
       simpa only [List.append_assoc, List.cons_append, List.nil_append] using q
   obtain ⟨T146, h146, X146, e146, E146, A146, D146, -, st146⟩ := newO X140 hx hZ hown (ww hw 54 rfl) (ww hw 55 rfl) (ww hw 56 rfl) e140 (g := P145.g) rfl (hb hby at_289) (by decide) (by decide)
   obtain ⟨b146, g146⟩ : ∃ z, z = h140.size := ⟨_, rfl⟩
   rw [← g146] at A146 D146 st146
   have P147 := P145.st st146
   have ne_xt_b146 := neL E_xt.lt (Nat.le_of_eq g146.symm)
   have ne_tt_b146 := neL V_tt.lt (Nat.le_of_eq g146.symm)
   have ne_b48_b146 := neL E_b48.lt (Nat.le_of_eq g146.symm)
   have ne_xs_102_b146 := neL E_xs_102.lt (Nat.le_of_eq g146.symm)
   have ne_ts_102_b146 := neL V_ts_102.lt (Nat.le_of_eq g146.symm)
   have ne_ed_104_b146 := neL V_ed_104.lt (Nat.le_of_eq g146.symm)
   have ne_b107_b146 := neL V_b107.lt (Nat.le_of_eq g146.symm)
   have sz_b146 : h0.size ≤ b146 := Nat.le_trans K140.1 (Nat.le_of_eq g146.symm)
   have sf_b146 : Safe Z ELs VM111 h140 b146 := Safe.new (Nat.le_of_eq g146.symm)
   replace sf_b146 := Safe.ext E146 CR.1 sf_b146
   replace E_xt := E_xt.ext E146
   replace Fv_xt := Fv_xt.ext E146
   replace Fc_xt := Fc_xt.ext E146
   replace V_tt := V_tt.ext E146
   replace OL := OL.ext E146
   replace E_b48 := E_b48.ext E146
   replace E_xs_102 := E_xs_102.ext E146
   replace Fv_xs_102 := Fv_xs_102.ext E146
   replace Fc_xs_102 := Fc_xs_102.ext E146
   replace V_ts_102 := V_ts_102.ext E146
   replace V_ed_104 := V_ed_104.ext E146
   replace E_ed_104 := E_ed_104.ext E146
   replace Fe_b48 := Fe_b48.ext E146
   replace Fz_b48 := Fz_b48.ext E146
   replace Fd_b48 := Fd_b48.ext E146
   replace V_b107 := V_b107.ext E146
   replace CR : CHr Z ELs s.vm h0 VM111 h146 := CR.trans (CHr.ext E146 CR.1)
   replace hk := Nat.le_trans hk E146.1
   have K146 := K140.ext E146
   obtain ⟨Lf148, X146, N148⟩ := fixL X146 N140 14 96 rfl rfl
   have E_b146 : Exa Z h146 b146 cQ := A146
   have F_text_b146 : Fld Z h146 b146 cQ "text" dS .null := D146 (Or.inr (ww hw 62 rfl)) (ty := (.object cS)) (by decide)
   have Fp_b146 : Fld Z h146 b146 cQ "parameters" dL .null := D146 (Or.inr (ww hw 93 rfl)) (ty := (.object "java/util/List")) (by decide)
   have F_arity_b146 : Fld Z h146 b146 cQ "arity" "I" i0 := D146 (Or.inr (ww hw 95 rfl)) (ty := .int) (by decide)
   have P149 := P147.bt X146 hx hby b345_ rfl
   obtain ⟨_, T150, L150, X150, hQ150, P150⟩ := cIn P149 X146 hx hZ hown hw e146 hml 57 58 59 56 (rm_sqInit1 hw b146 xt b48 ((0 : Int32) + (1 : Int32)) jr .null .null i0 ed_104 ked_104 xs_102 mr em (zT Z0 K146.1) E_b146 F_text_b146 Fp_b146 F_arity_b146 (Nat.le_trans Z0 sz_b146) ne_b48_b146 E_b48 Fe_b48 Fz_b48 Fd_b48 V_ed_104 E_ed_104 MIR Se OL E_xs_102 ne_ed_104_b146 ne_xs_102_b146) rfl rfl rfl rfl rfl rfl rfl [(.ref xt), (.ref b48), (.int jr)] [(.ref b146)] 1 (lenOf pd_57 rfl) rfl (Nat.le_of_eq rfl) (hb hby at_298) rfl (by decide)
   obtain ⟨ls_150, rfl, N150q, Kc150, po150_0, po150_1, po150_2, po150_3, po150_4, po150_5, po150_6⟩ := hQ150
   have N150 := Fr.app N148 N150q
   obtain ⟨Lf151, X150, N151⟩ := fixL X150 N150 16 99 rfl rfl
   have ne_xs_102_ls_150 := neL E_xs_102.lt po150_0
   have sfk150 := ((sfS sf_b146 sf0) : ∀ x ∈ [b146], Safe Z ELs VM111 h146 x)
   replace E_xt := E_xt.keep Kc150
   replace Fv_xt := Fv_xt.keep Kc150 (ninS ne_xt_b146 nin0)
   replace Fc_xt := Fc_xt.keep Kc150 (ninS ne_xt_b146 nin0)
   replace V_tt := V_tt.keep Kc150 (ninS ne_tt_b146 nin0)
   replace OL := OL.keep Kc150 (allS (Nat.le_trans Z0 sz_b146) all0)
   replace E_xs_102 := E_xs_102.keep Kc150
   replace Fv_xs_102 := Fv_xs_102.keep Kc150 (ninS ne_xs_102_b146 nin0)
   replace Fc_xs_102 := Fc_xs_102.keep Kc150 (ninS ne_xs_102_b146 nin0)
   replace V_ts_102 := V_ts_102.keep Kc150 (ninS ne_ts_102_b146 nin0)
   replace V_b107 := V_b107.keep Kc150 (ninS ne_b107_b146 nin0)
   replace CR : CHr Z ELs s.vm h0 VM111 T150.heap := CR.trans (CHr.keep Kc150 sfk150 CR.1)
   replace hk := Nat.le_trans hk Kc150.1
   have K150 := Kt1 K146 Kc150 (Or.inr sz_b146)
   have E_ls_150 := po150_1
   have F_e0_ls_150 := po150_2
   have F_e1_ls_150 := po150_3
   have E_b146 := po150_4
   have F_text_b146 := po150_5
   have Fp_b146 := po150_6
   obtain ⟨cq152, kq152, q152a, q152b, q152c⟩ := isOf hZ rfl E_b146
   obtain ⟨_, _, ⟨T152, L152, k152, n152⟩, -, X152, hS152, hg152, ⟨Lc152, hQ152, l152, y152, z152, cC152⟩, st152⟩ := X150.virtualBackS hx (y := mn_94) (z := mn_94) hown (mw hZ hw 96 rfl) (mw hZ hw 97 rfl) (notFace_of_selects (args := #[]) (mw hZ hw 99 rfl)) (mw hZ hw 99 rfl) (mw hZ hw 98 rfl) (by decide) (backOfSH (W := 0) (rm_sqStr1 hw hEL b146 xt tt kt ct zt vt tcs ls_150 em xs_102 ts_102 ks_102 ce_102 ze_102 wv_102 da G1 Gf (zT Z0 K150.1) E_b146 F_text_b146 Fp_b146 E_xt Fv_xt Fc_xt V_tt hkt htl2 Sc hz Sa Sh Sl Sf rGf OL E_ls_150 F_e0_ls_150 F_e1_ls_150 Se E_xs_102 Fv_xs_102 Fc_xs_102 V_ts_102 hkb_102 ne_xs_102_ls_150) hZ (ww hw 100 rfl) (ww hw 56 rfl) (by decide) (by decide) hEL CR.1) q152a q152c (g := P150.g) rfl (by rw [hml]; rfl) (Steps.refl _) (argsL := []) (rest := []) (lenOf pd_47 rfl) rfl (by show 2 * 0 + _ ≤ _; exact Nat.le_of_eq rfl) (hb hby at_301) (fun _ _ => ⟨rfl, rfl, (by decide : 16 + 15 ≤ _), (by decide : 99 + 252 ≤ _)⟩)
   dsimp only [Pt.U, Pt.locs, Pt.cells, Pt.slots] at X152 l152 y152 z152 st152 hQ152 hS152 hg152 cC152
   subst l152 y152 z152
   obtain ⟨X152, hS, hZ, hown⟩ := rebS hS (hk) X152 hS152 hg152 hZ hown
   have hk : T152.heap.size ≤ T152.heap.size := Nat.le_refl _
   obtain ⟨xs_152, ts_152, ks_152, ce_152, ze_152, wv_152, rfl, N152q, Kc152, po152_0, po152_1, po152_2, po152_3, po152_4⟩ := hQ152
   have N152 := Fr.app N151 N152q
   obtain ⟨Lf153, X152, N153⟩ := fixL X152 N152 31 351 rfl rfl
   have P154 := P150.tr st152
   replace OL := OL.keep Kc152 all0
   replace V_b107 := V_b107.keep Kc152 nin0
   replace CR : CHr Z ELs s.vm h0 T152.vm T152.heap := CR.trans cC152
   have K152 := K150.trans Kc152 all0
   have E_xs_152 := po152_0
   have Fv_xs_152 := po152_1
   have Fc_xs_152 := po152_2
   have V_ts_152 := po152_3
   have hkb_152 := po152_4
   have P155 : PP p e below T152 (mkF m 306 #[iv ja, iv jb, iv js, iv jr, iv ca, iv cb, iv da, iv db, iv tl, iv 1, rv xt, rv b48, rv b107, iv (Int32.ofNat (tcs ++ [(32 : Int32), 91, da, 93]).length), rv xs_152] []) s0 := fun q_ k_ => P154 q_ (by
    exact bt X152 hx hby b346_ rfl k_)
   exact ⟨T152, T152.vm, T152.heap, _, _, xs_152, ts_152, ks_152, ce_152, ze_152, wv_152, (tcs ++ [(32 : Int32), 91, da, 93]), b107, k107, X152.more (by decide) (by decide), rfl, hS, hk, hZ, hown, CR, N153, K152, E_xs_152, Fv_xs_152, Fc_xs_152, V_ts_152, V_b107, hkb_152, (Nat.le_trans (own_lA 7 htl2 (Nat.le_of_ble_eq_true rfl)) (by decide)), OL, P155⟩
  ·
   have P156 : PP p e below T52 (mkF m 115 #[iv ja, iv jb, iv js, iv jr, iv ca, iv cb, iv da, iv db, iv tl, iv 2, rv xt, rv b48, .unset, .unset, .unset] [(.int da), (.ref b48)]) s0 := fun q_ k_ => P54 q_ (by
    refine bt X52 hx hby b326_ rfl ?_
    refine XS.icmpNo X52.here hx rfl (hb hby at_108) rfl (flt ((by decide) : ¬ ((2 : Int32) < (1 : Int32)))).1 ?_
    exact bt X52 hx hby b347_ rfl k_)
   obtain ⟨_, T157, L157, X157, hQ157, P157⟩ := cSt P156 X52 hx hZ hown hw rfl hml 298 299 2 300 (rm_valOf hw da G1 Gf (zT Z0 K52.1) Sc hz Sa Sh Sl Sf rGf OL ic_da) rfl rfl rfl rfl rfl rfl [(.int da)] [(.ref b48)] 1 (lenOf pd_56 rfl) rfl (Nat.le_of_eq rfl) (hb hby at_115) rfl (by decide)
   obtain ⟨xs_157, ts_157, ks_157, ce_157, ze_157, wv_157, rfl, N157q, Kc157, po157_0, po157_1, po157_2, po157_3, po157_4, po157_5, po157_6⟩ := hQ157
   have N157 := Fr.app N53 N157q
   obtain ⟨Lf158, X157, N158⟩ := fixL X157 N157 11 73 rfl rfl
   have ne_b48_xs_157 := neL E_b48.lt po157_0
   have ne_b48_ts_157 := neL E_b48.lt po157_1
   have sfk157 := (sf0 : ∀ x ∈ [], Safe Z ELs VM14 T52.heap x)
   replace sf_b48 := Safe.keep Kc157 sfk157 CR.1 sf_b48
   replace E_xt := E_xt.keep Kc157
   replace Fv_xt := Fv_xt.keep Kc157 nin0
   replace Fc_xt := Fc_xt.keep Kc157 nin0
   replace V_tt := V_tt.keep Kc157 nin0
   replace OL := OL.keep Kc157 all0
   replace E_b48 := E_b48.keep Kc157
   replace Fe_b48 := Fe_b48.keep Kc157 nin0
   replace Fz_b48 := Fz_b48.keep Kc157 nin0
   replace Fd_b48 := Fd_b48.keep Kc157 nin0
   replace CR : CHr Z ELs s.vm h0 VM14 T157.heap := CR.trans (CHr.keep Kc157 sfk157 CR.1)
   replace hk := Nat.le_trans hk Kc157.1
   have K157 := K52.trans Kc157 all0
   have E_xs_157 := po157_2
   have Fv_xs_157 := po157_3
   have Fc_xs_157 := po157_4
   have V_ts_157 := po157_5
   have hkb_157 := po157_6
   obtain ⟨_, T159, L159, X159, hQ159, P159⟩ := cVi P157 X157 hx hZ hown hw rfl E_b48 hml 311 314 313 315 32 (rm_add0 hw b48 (0 : Int32) xs_157 de kde (zT Z0 K157.1) E_b48 Fe_b48 Fz_b48 Fd_b48 E_xs_157 (Nat.le_trans Z0 sz_b48) Sd VDE OL) rfl rfl rfl rfl rfl rfl rfl [(.ref xs_157)] [] 0 (lenOf pd_58 rfl) rfl (Nat.le_of_eq rfl) (hb hby at_118) rfl (by decide)
   obtain ⟨ed_159, ked_159, rfl, N159q, Kc159, po159_0, po159_1, po159_2, po159_3, po159_4, po159_5, po159_6, po159_7, po159_8⟩ := hQ159
   have N159 := Fr.app N158 N159q
   obtain ⟨Lf160, X159, N160⟩ := fixL X159 N159 12 83 rfl rfl
   have ne_xt_ed_159 := neL E_xt.lt po159_0
   have ne_tt_ed_159 := neL V_tt.lt po159_0
   have ne_xs_157_ed_159 := neL E_xs_157.lt po159_0
   have ne_ts_157_ed_159 := neL V_ts_157.lt po159_0
   have sz_ed_159 : h0.size ≤ ed_159 := Nat.le_trans K157.1 po159_0
   have sf_ed_159 : Safe Z ELs VM14 T157.heap ed_159 := Safe.new po159_0
   have sfk159 := ((sfS sf_b48 sf0) : ∀ x ∈ [b48], Safe Z ELs VM14 T157.heap x)
   replace sf_b48 := Safe.keep Kc159 sfk159 CR.1 sf_b48
   replace sf_ed_159 := Safe.keep Kc159 sfk159 CR.1 sf_ed_159
   replace E_xt := E_xt.keep Kc159
   replace Fv_xt := Fv_xt.keep Kc159 (ninS ne_xt_b48 nin0)
   replace Fc_xt := Fc_xt.keep Kc159 (ninS ne_xt_b48 nin0)
   replace V_tt := V_tt.keep Kc159 (ninS ne_tt_b48 nin0)
   replace OL := OL.keep Kc159 (allS (Nat.le_trans Z0 sz_b48) all0)
   replace E_xs_157 := E_xs_157.keep Kc159
   replace Fv_xs_157 := Fv_xs_157.keep Kc159 (ninS (Ne.symm ne_b48_xs_157) nin0)
   replace Fc_xs_157 := Fc_xs_157.keep Kc159 (ninS (Ne.symm ne_b48_xs_157) nin0)
   replace V_ts_157 := V_ts_157.keep Kc159 (ninS (Ne.symm ne_b48_ts_157) nin0)
   replace CR : CHr Z ELs s.vm h0 VM14 T159.heap := CR.trans (CHr.keep Kc159 sfk159 CR.1)
   replace hk := Nat.le_trans hk Kc159.1
   have K159 := Kt1 K157 Kc159 (Or.inr sz_b48)
   have V_ed_159 := po159_1
   have E_ed_159 := po159_2
   have ovd_159 := po159_3
   have E_b48 := po159_4
   have Fe_b48 := po159_5
   have Fz_b48 := po159_6
   have Fd_b48 := po159_7
   have P161 : PP p e below T159 (mkF m 132 #[iv ja, iv jb, iv js, iv jr, iv ca, iv cb, iv da, iv db, iv tl, iv 2, rv xt, rv b48, .unset, .unset, .unset] [(.int db), (.ref b48)]) s0 := fun q_ k_ => P159 q_ (by
    refine bt X159 hx hby b348_ rfl ?_
    refine XS.icmpNo X159.here hx rfl (hb hby at_125) rfl (flt ((by decide) : ¬ ((2 : Int32) < (2 : Int32)))).1 ?_
    exact bt X159 hx hby b352_ rfl k_)
   obtain ⟨_, T162, L162, X162, hQ162, P162⟩ := cSt P161 X159 hx hZ hown hw rfl hml 298 299 2 300 (rm_valOf hw db G1 Gf (zT Z0 K159.1) Sc hz Sa Sh Sl Sf rGf OL ic_db) rfl rfl rfl rfl rfl rfl [(.int db)] [(.ref b48)] 1 (lenOf pd_56 rfl) rfl (Nat.le_of_eq rfl) (hb hby at_132) rfl (by decide)
   obtain ⟨xs_162, ts_162, ks_162, ce_162, ze_162, wv_162, rfl, N162q, Kc162, po162_0, po162_1, po162_2, po162_3, po162_4, po162_5, po162_6⟩ := hQ162
   have N162 := Fr.app N160 N162q
   obtain ⟨Lf163, X162, N163⟩ := fixL X162 N162 14 89 rfl rfl
   have ne_b48_xs_162 := neL E_b48.lt po162_0
   have ne_ed_159_xs_162 := neL V_ed_159.lt po162_0
   have ne_b48_ts_162 := neL E_b48.lt po162_1
   have ne_ed_159_ts_162 := neL V_ed_159.lt po162_1
   have sfk162 := (sf0 : ∀ x ∈ [], Safe Z ELs VM14 T159.heap x)
   replace sf_b48 := Safe.keep Kc162 sfk162 CR.1 sf_b48
   replace sf_ed_159 := Safe.keep Kc162 sfk162 CR.1 sf_ed_159
   replace E_xt := E_xt.keep Kc162
   replace Fv_xt := Fv_xt.keep Kc162 nin0
   replace Fc_xt := Fc_xt.keep Kc162 nin0
   replace V_tt := V_tt.keep Kc162 nin0
   replace OL := OL.keep Kc162 all0
   replace E_b48 := E_b48.keep Kc162
   replace E_xs_157 := E_xs_157.keep Kc162
   replace Fv_xs_157 := Fv_xs_157.keep Kc162 nin0
   replace Fc_xs_157 := Fc_xs_157.keep Kc162 nin0
   replace V_ts_157 := V_ts_157.keep Kc162 nin0
   replace V_ed_159 := V_ed_159.keep Kc162 nin0
   replace E_ed_159 := E_ed_159.keep Kc162
   replace Fe_b48 := Fe_b48.keep Kc162 nin0
   replace Fz_b48 := Fz_b48.keep Kc162 nin0
   replace Fd_b48 := Fd_b48.keep Kc162 nin0
   replace CR : CHr Z ELs s.vm h0 VM14 T162.heap := CR.trans (CHr.keep Kc162 sfk162 CR.1)
   replace hk := Nat.le_trans hk Kc162.1
   have K162 := K159.trans Kc162 all0
   have E_xs_162 := po162_2
   have Fv_xs_162 := po162_3
   have Fc_xs_162 := po162_4
   have V_ts_162 := po162_5
   have hkb_162 := po162_6
   obtain ⟨_, T164, L164, X164, hQ164, P164⟩ := cVi P162 X162 hx hZ hown hw rfl E_b48 hml 311 314 313 315 32 (rm_add1 hw b48 ((0 : Int32) + (1 : Int32)) xs_162 xs_157 ed_159 ked_159 (zT Z0 K162.1) E_b48 Fe_b48 Fz_b48 Fd_b48 E_xs_162 V_ed_159 E_ed_159 ovd_159 (Nat.le_trans Z0 sz_b48) (Nat.le_trans Z0 sz_ed_159) po159_8 OL) rfl rfl rfl rfl rfl rfl rfl [(.ref xs_162)] [] 0 (lenOf pd_58 rfl) rfl (Nat.le_of_eq rfl) (hb hby at_135) rfl (by decide)
   obtain ⟨rfl, N164q, Kc164, po164_0, po164_1, po164_2, po164_3, po164_4, po164_5⟩ := hQ164
   have N164 := Fr.app N163 N164q
   obtain ⟨Lf165, X164, N165⟩ := fixL X164 N164 14 89 rfl rfl
   have sfk164 := ((sfS sf_b48 (sfS sf_ed_159 sf0)) : ∀ x ∈ [b48, ed_159], Safe Z ELs VM14 T162.heap x)
   replace E_xt := E_xt.keep Kc164
   replace Fv_xt := Fv_xt.keep Kc164 (ninS ne_xt_b48 (ninS ne_xt_ed_159 nin0))
   replace Fc_xt := Fc_xt.keep Kc164 (ninS ne_xt_b48 (ninS ne_xt_ed_159 nin0))
   replace V_tt := V_tt.keep Kc164 (ninS ne_tt_b48 (ninS ne_tt_ed_159 nin0))
   replace OL := OL.keep Kc164 (allS (Nat.le_trans Z0 sz_b48) (allS (Nat.le_trans Z0 sz_ed_159) all0))
   replace E_xs_157 := E_xs_157.keep Kc164
   replace Fv_xs_157 := Fv_xs_157.keep Kc164 (ninS (Ne.symm ne_b48_xs_157) (ninS ne_xs_157_ed_159 nin0))
   replace Fc_xs_157 := Fc_xs_157.keep Kc164 (ninS (Ne.symm ne_b48_xs_157) (ninS ne_xs_157_ed_159 nin0))
   replace V_ts_157 := V_ts_157.keep Kc164 (ninS (Ne.symm ne_b48_ts_157) (ninS ne_ts_157_ed_159 nin0))
   replace E_xs_162 := E_xs_162.keep Kc164
   replace Fv_xs_162 := Fv_xs_162.keep Kc164 (ninS (Ne.symm ne_b48_xs_162) (ninS (Ne.symm ne_ed_159_xs_162) nin0))
   replace Fc_xs_162 := Fc_xs_162.keep Kc164 (ninS (Ne.symm ne_b48_xs_162) (ninS (Ne.symm ne_ed_159_xs_162) nin0))
   replace V_ts_162 := V_ts_162.keep Kc164 (ninS (Ne.symm ne_b48_ts_162) (ninS (Ne.symm ne_ed_159_ts_162) nin0))
   replace CR : CHr Z ELs s.vm h0 VM14 T164.heap := CR.trans (CHr.keep Kc164 sfk164 CR.1)
   replace hk := Nat.le_trans hk Kc164.1
   have K164 := Kt2 K162 Kc164 (Or.inr sz_b48) (Or.inr sz_ed_159)
   have V_ed_159 := po164_0
   have E_ed_159 := po164_1
   have E_b48 := po164_2
   have Fe_b48 := po164_3
   have Fz_b48 := po164_4
   have Fd_b48 := po164_5
   have P166 := P164.bt X164 hx hby b353_ rfl
   obtain ⟨T167, h167, k167, X167, e167, E167, A167, st167⟩ := newP X164 hx hZ (ww hw 3 rfl) rfl (g := P166.g) rfl (hb hby at_141) rfl (by decide) (cap := 10) (by decide) (by decide) (by decide) (by decide)
   obtain ⟨b167, g167⟩ : ∃ z, z = T164.heap.size := ⟨_, rfl⟩
   rw [← g167] at A167 st167
   have P168 := P166.st st167
   have ne_xt_b167 := neL E_xt.lt (Nat.le_of_eq g167.symm)
   have ne_tt_b167 := neL V_tt.lt (Nat.le_of_eq g167.symm)
   have ne_b48_b167 := neL E_b48.lt (Nat.le_of_eq g167.symm)
   have ne_xs_157_b167 := neL E_xs_157.lt (Nat.le_of_eq g167.symm)
   have ne_ts_157_b167 := neL V_ts_157.lt (Nat.le_of_eq g167.symm)
   have ne_ed_159_b167 := neL E_ed_159.lt (Nat.le_of_eq g167.symm)
   have ne_xs_162_b167 := neL E_xs_162.lt (Nat.le_of_eq g167.symm)
   have ne_ts_162_b167 := neL V_ts_162.lt (Nat.le_of_eq g167.symm)
   have sz_b167 : h0.size ≤ b167 := Nat.le_trans K164.1 (Nat.le_of_eq g167.symm)
   have sf_b167 : Safe Z ELs VM14 T164.heap b167 := Safe.new (Nat.le_of_eq g167.symm)
   replace sf_b167 := Safe.ext E167 CR.1 sf_b167
   replace E_xt := E_xt.ext E167
   replace Fv_xt := Fv_xt.ext E167
   replace Fc_xt := Fc_xt.ext E167
   replace V_tt := V_tt.ext E167
   replace OL := OL.ext E167
   replace E_b48 := E_b48.ext E167
   replace E_xs_157 := E_xs_157.ext E167
   replace Fv_xs_157 := Fv_xs_157.ext E167
   replace Fc_xs_157 := Fc_xs_157.ext E167
   replace V_ts_157 := V_ts_157.ext E167
   replace E_ed_159 := E_ed_159.ext E167
   replace E_xs_162 := E_xs_162.ext E167
   replace Fv_xs_162 := Fv_xs_162.ext E167
   replace Fc_xs_162 := Fc_xs_162.ext E167
   replace V_ts_162 := V_ts_162.ext E167
   replace V_ed_159 := V_ed_159.ext E167
   replace Fe_b48 := Fe_b48.ext E167
   replace Fz_b48 := Fz_b48.ext E167
   replace Fd_b48 := Fd_b48.ext E167
   replace CR : CHr Z ELs s.vm h0 VM14 h167 := CR.trans (CHr.ext E167 CR.1)
   replace hk := Nat.le_trans hk E167.1
   have K167 := K164.ext E167
   obtain ⟨Lf169, X167, N169⟩ := fixL X167 N165 15 99 rfl rfl
   have V_b167 : Arv Z h167 b167 k167 .char 10 [i0, i0, i0, i0, i0, i0, i0, i0, i0, i0] i0 := (Arv.new A167 (by decide)).pad (pad_rep [] i0 10)
   replace V_b167 : Arv Z h167 b167 k167 .char 10 (([] : List Int32).map cv) i0 := V_b167.pad (fun i => (pad_rep [] i0 10 i).symm)
   have P170 : PP p e below T167 (mkF m 148 #[iv ja, iv jb, iv js, iv jr, iv ca, iv cb, iv da, iv db, iv tl, iv 2, rv xt, rv b48, rv b167, iv 0, .unset] []) s0 := fun q_ k_ => P168 q_ (by
    exact bt X167 hx hby b329_ rfl k_)
   obtain ⟨T171, VM171, h171, kS171, Lf171, X171, e171, hS, hk, hZ, hown, CR, N171, K171, E_xt, Fv_xt, Fc_xt, V_tt, OL, E_b48, E_xs_157, Fv_xs_157, Fc_xs_157, V_ts_157, E_ed_159, E_xs_162, Fv_xs_162, Fc_xs_162, V_ts_162, V_ed_159, Fe_b48, Fz_b48, Fd_b48, V_b167, P171⟩ : ∃ (T171 : State) (VM171 : Vm) (h171 : Heap) (kS171 : Nat) (Lf171 : List Loc), Stand p l e room_1 (s.setVm VM171) m #[(.int ja), (.int jb), (.int js), (.int jr)] below meth c T171 Lf171 15 99 ∧ T171.heap = h171 ∧ s.Since VM171 kS171 ∧ kS171 ≤ h171.size ∧ Z.Warmed39 (s.setVm VM171).vm ∧ (s.setVm VM171).vm.findClass cW = some m.cls ∧ CHr Z ELs s.vm h0 VM171 h171 ∧ Fr n0 Lf171 ∧ Keep h0 h171 [] ∧ (Exa Z h171 xt cS) ∧ (Fld Z h171 xt cS "value" "[B" (.ref tt)) ∧ (Fld Z h171 xt cS "coder" "B" (.int ct)) ∧ (Arv Z h171 tt kt .byte zt vt i0) ∧ (Old Z n0 h171) ∧ (Exa Z h171 b48 cAL) ∧ (Exa Z h171 xs_157 cS) ∧ (Fld Z h171 xs_157 cS "value" "[B" (.ref ts_157)) ∧ (Fld Z h171 xs_157 cS "coder" "B" (.int ce_157)) ∧ (Arv Z h171 ts_157 ks_157 .byte ze_157 wv_157 i0) ∧ (Exa Z h171 ed_159 dOA) ∧ (Exa Z h171 xs_162 cS) ∧ (Fld Z h171 xs_162 cS "value" "[B" (.ref ts_162)) ∧ (Fld Z h171 xs_162 cS "coder" "B" (.int ce_162)) ∧ (Arv Z h171 ts_162 ks_162 .byte ze_162 wv_162 i0) ∧ (Arv Z h171 ed_159 ked_159 tOb (10 : Int32) [(.ref xs_157), (.ref xs_162), .null, .null, .null, .null, .null, .null, .null, .null] .null) ∧ (Fld Z h171 b48 cAL "elementData" dOA (.ref ed_159)) ∧ (Fld Z h171 b48 cAL "size" "I" (.int 2)) ∧ (Fld Z h171 b48 cAb "modCount" "I" (.int (((0 : Int32) + (1 : Int32)) + (1 : Int32)))) ∧ (Arv Z h171 b167 k167 .char 10 (tcs.map cv) i0) ∧ PP p e below T171 (mkF m 186 #[iv ja, iv jb, iv js, iv jr, iv ca, iv cb, iv da, iv db, iv tl, iv 2, rv xt, rv b48, rv b167, iv (Int32.ofNat tcs.length), .unset] []) s0 := by
    rcases htc with ⟨rfl, rfl⟩ | ⟨rfl, rfl⟩ | ⟨rfl, rfl⟩
    ·
     have P172 : PP p e below T167 (mkF m 186 #[iv ja, iv jb, iv js, iv jr, iv ca, iv cb, iv da, iv db, iv 0, iv 2, rv xt, rv b48, rv b167, iv 0, .unset] []) s0 := fun q_ k_ => P170 q_ (by
      refine bt X167 hx hby b330_ rfl ?_
      refine XS.icmpYes X167.here hx rfl (pc0 := 151) (pc' := 167) rfl (hb hby at_151) rfl (tlt ((by decide) : (0 : Int32) < (1 : Int32))).1 (by decide) (by decide) ?_
      refine bt X167 hx hby b331_ rfl ?_
      exact XS.icmpYes X167.here hx rfl (pc0 := 170) (pc' := 186) rfl (hb hby at_170) rfl (tlt ((by decide) : (0 : Int32) < (2 : Int32))).1 (by decide) (by decide) k_)
     exact ⟨T167, VM14, h167, _, _, X167.more (by decide) (by decide), e167, hS, hk, hZ, hown, CR, N169, K167, E_xt, Fv_xt, Fc_xt, V_tt, OL, E_b48, E_xs_157, Fv_xs_157, Fc_xs_157, V_ts_157, E_ed_159, E_xs_162, Fv_xs_162, Fc_xs_162, V_ts_162, V_ed_159, Fe_b48, Fz_b48, Fd_b48, V_b167, P172⟩
    ·
     replace V_b167 : Arv Z h167 b167 k167 .char 10 [i0] i0 := V_b167.pad (pad_rep [] i0 1)
     have P173 : PP p e below T167 (mkF m 160 #[iv ja, iv jb, iv js, iv jr, iv ca, iv cb, iv da, iv db, iv 1, iv 2, rv xt, rv b48, rv b167, iv 0, .unset] [(.int ca), i0, (.ref b167)]) s0 := fun q_ k_ => P170 q_ (by
      refine bt X167 hx hby b330_ rfl ?_
      refine XS.icmpNo X167.here hx rfl (hb hby at_151) rfl (flt ((by decide) : ¬ ((1 : Int32) < (1 : Int32)))).1 ?_
      exact bt X167 hx hby b332_ rfl k_)
     obtain ⟨cl174, Ar174, q174, S174, M174, Hs174, G174⟩ := id V_b167
     obtain ⟨T174, h174, X174, e174, W174, st174⟩ := stC X167 hx hZ e167 Ar174 (j := (0 : Int32)) (inb_of S174 ⟨by decide, by decide⟩) (g := P173.g) rfl rfl (hb hby at_160)
     have P175 := P173.st st174
     have N174 := Fr.snoc X174 N169 (Nat.le_trans Z0 sz_b167)
     have K174 := K167.wr W174 (Or.inr sz_b167)
     have sfw174 : Safe Z ELs VM14 h167 b167 := sf_b167
     replace E_xt := E_xt.wr W174
     replace Fv_xt := Fv_xt.other W174 (Or.inl ne_xt_b167)
     replace Fc_xt := Fc_xt.other W174 (Or.inl ne_xt_b167)
     replace V_tt := V_tt.other W174 ne_tt_b167
     replace OL := OL.wr W174 (Nat.le_trans Z0 sz_b167)
     replace E_b48 := E_b48.wr W174
     replace E_xs_157 := E_xs_157.wr W174
     replace Fv_xs_157 := Fv_xs_157.other W174 (Or.inl ne_xs_157_b167)
     replace Fc_xs_157 := Fc_xs_157.other W174 (Or.inl ne_xs_157_b167)
     replace V_ts_157 := V_ts_157.other W174 ne_ts_157_b167
     replace E_ed_159 := E_ed_159.wr W174
     replace E_xs_162 := E_xs_162.wr W174
     replace Fv_xs_162 := Fv_xs_162.other W174 (Or.inl ne_xs_162_b167)
     replace Fc_xs_162 := Fc_xs_162.other W174 (Or.inl ne_xs_162_b167)
     replace V_ts_162 := V_ts_162.other W174 ne_ts_162_b167
     replace V_ed_159 := V_ed_159.other W174 ne_ed_159_b167
     replace Fe_b48 := Fe_b48.other W174 (Or.inl ne_b48_b167)
     replace Fz_b48 := Fz_b48.other W174 (Or.inl ne_b48_b167)
     replace Fd_b48 := Fd_b48.other W174 (Or.inl ne_b48_b167)
     replace CR : CHr Z ELs s.vm h0 VM14 h174 := CR.trans (CHr.wr W174 sfw174 CR.1)
     replace hk := Nat.le_trans hk (Keep.of_wr W174).1
     have V_b167 : Arv Z h174 b167 k167 .char 10 [(.int (nar .char ca))] i0 := Arv.set Ar174 q174 S174 M174 Hs174 G174 (fits_nar_char _) W174 0 rfl (Nat.le_of_ble_eq_true rfl)
     have P176 : PP p e below T174 (mkF m 186 #[iv ja, iv jb, iv js, iv jr, iv ca, iv cb, iv da, iv db, iv 1, iv 2, rv xt, rv b48, rv b167, iv 1, .unset] []) s0 := fun q_ k_ => P175 q_ (by
      refine bt X174 hx hby b333_ rfl ?_
      exact XS.icmpYes X174.here hx rfl (pc0 := 170) (pc' := 186) rfl (hb hby at_170) rfl (tlt ((by decide) : (1 : Int32) < (2 : Int32))).1 (by decide) (by decide) k_)
     exact ⟨T174, VM14, h174, _, _, X174.more (by decide) (by decide), e174, hS, hk, hZ, hown, CR, N174, K174, E_xt, Fv_xt, Fc_xt, V_tt, OL, E_b48, E_xs_157, Fv_xs_157, Fc_xs_157, V_ts_157, E_ed_159, E_xs_162, Fv_xs_162, Fc_xs_162, V_ts_162, V_ed_159, Fe_b48, Fz_b48, Fd_b48, V_b167, P176⟩
    ·
     replace V_b167 : Arv Z h167 b167 k167 .char 10 [i0, i0] i0 := V_b167.pad (pad_rep [] i0 2)
     have P177 : PP p e below T167 (mkF m 160 #[iv ja, iv jb, iv js, iv jr, iv ca, iv cb, iv da, iv db, iv 2, iv 2, rv xt, rv b48, rv b167, iv 0, .unset] [(.int ca), i0, (.ref b167)]) s0 := fun q_ k_ => P170 q_ (by
      refine bt X167 hx hby b330_ rfl ?_
      refine XS.icmpNo X167.here hx rfl (hb hby at_151) rfl (flt ((by decide) : ¬ ((2 : Int32) < (1 : Int32)))).1 ?_
      exact bt X167 hx hby b332_ rfl k_)
     obtain ⟨cl178, Ar178, q178, S178, M178, Hs178, G178⟩ := id V_b167
     obtain ⟨T178, h178, X178, e178, W178, st178⟩ := stC X167 hx hZ e167 Ar178 (j := (0 : Int32)) (inb_of S178 ⟨by decide, by decide⟩) (g := P177.g) rfl rfl (hb hby at_160)
     have P179 := P177.st st178
     have N178 := Fr.snoc X178 N169 (Nat.le_trans Z0 sz_b167)
     have K178 := K167.wr W178 (Or.inr sz_b167)
     have sfw178 : Safe Z ELs VM14 h167 b167 := sf_b167
     replace sf_b167 := Safe.wr W178 sfw178 CR.1 sf_b167
     replace E_xt := E_xt.wr W178
     replace Fv_xt := Fv_xt.other W178 (Or.inl ne_xt_b167)
     replace Fc_xt := Fc_xt.other W178 (Or.inl ne_xt_b167)
     replace V_tt := V_tt.other W178 ne_tt_b167
     replace OL := OL.wr W178 (Nat.le_trans Z0 sz_b167)
     replace E_b48 := E_b48.wr W178
     replace E_xs_157 := E_xs_157.wr W178
     replace Fv_xs_157 := Fv_xs_157.other W178 (Or.inl ne_xs_157_b167)
     replace Fc_xs_157 := Fc_xs_157.other W178 (Or.inl ne_xs_157_b167)
     replace V_ts_157 := V_ts_157.other W178 ne_ts_157_b167
     replace E_ed_159 := E_ed_159.wr W178
     replace E_xs_162 := E_xs_162.wr W178
     replace Fv_xs_162 := Fv_xs_162.other W178 (Or.inl ne_xs_162_b167)
     replace Fc_xs_162 := Fc_xs_162.other W178 (Or.inl ne_xs_162_b167)
     replace V_ts_162 := V_ts_162.other W178 ne_ts_162_b167
     replace V_ed_159 := V_ed_159.other W178 ne_ed_159_b167
     replace Fe_b48 := Fe_b48.other W178 (Or.inl ne_b48_b167)
     replace Fz_b48 := Fz_b48.other W178 (Or.inl ne_b48_b167)
     replace Fd_b48 := Fd_b48.other W178 (Or.inl ne_b48_b167)
     replace CR : CHr Z ELs s.vm h0 VM14 h178 := CR.trans (CHr.wr W178 sfw178 CR.1)
     replace hk := Nat.le_trans hk (Keep.of_wr W178).1
     have V_b167 : Arv Z h178 b167 k167 .char 10 [(.int (nar .char ca)), i0] i0 := Arv.set Ar178 q178 S178 M178 Hs178 G178 (fits_nar_char _) W178 0 rfl (Nat.le_of_ble_eq_true rfl)
     have P180 : PP p e below T178 (mkF m 179 #[iv ja, iv jb, iv js, iv jr, iv ca, iv cb, iv da, iv db, iv 2, iv 2, rv xt, rv b48, rv b167, iv 1, .unset] [(.int cb), (.int 1), (.ref b167)]) s0 := fun q_ k_ => P179 q_ (by
      refine bt X178 hx hby b333_ rfl ?_
      refine XS.icmpNo X178.here hx rfl (hb hby at_170) rfl (flt ((by decide) : ¬ ((2 : Int32) < (2 : Int32)))).1 ?_
      exact bt X178 hx hby b334_ rfl k_)
     obtain ⟨cl181, Ar181, q181, S181, M181, Hs181, G181⟩ := id V_b167
     obtain ⟨T181, h181, X181, e181, W181, st181⟩ := stC X178 hx hZ e178 Ar181 (j := (1 : Int32)) (inb_of S181 ⟨by decide, by decide⟩) (g := P180.g) rfl rfl (hb hby at_179)
     have P182 := P180.st st181
     have N181 := Fr.snoc X181 N178 (Nat.le_trans Z0 sz_b167)
     have K181 := K178.wr W181 (Or.inr sz_b167)
     have sfw181 : Safe Z ELs VM14 h178 b167 := sf_b167
     replace E_xt := E_xt.wr W181
     replace Fv_xt := Fv_xt.other W181 (Or.inl ne_xt_b167)
     replace Fc_xt := Fc_xt.other W181 (Or.inl ne_xt_b167)
     replace V_tt := V_tt.other W181 ne_tt_b167
     replace OL := OL.wr W181 (Nat.le_trans Z0 sz_b167)
     replace E_b48 := E_b48.wr W181
     replace E_xs_157 := E_xs_157.wr W181
     replace Fv_xs_157 := Fv_xs_157.other W181 (Or.inl ne_xs_157_b167)
     replace Fc_xs_157 := Fc_xs_157.other W181 (Or.inl ne_xs_157_b167)
     replace V_ts_157 := V_ts_157.other W181 ne_ts_157_b167
     replace E_ed_159 := E_ed_159.wr W181
     replace E_xs_162 := E_xs_162.wr W181
     replace Fv_xs_162 := Fv_xs_162.other W181 (Or.inl ne_xs_162_b167)
     replace Fc_xs_162 := Fc_xs_162.other W181 (Or.inl ne_xs_162_b167)
     replace V_ts_162 := V_ts_162.other W181 ne_ts_162_b167
     replace V_ed_159 := V_ed_159.other W181 ne_ed_159_b167
     replace Fe_b48 := Fe_b48.other W181 (Or.inl ne_b48_b167)
     replace Fz_b48 := Fz_b48.other W181 (Or.inl ne_b48_b167)
     replace Fd_b48 := Fd_b48.other W181 (Or.inl ne_b48_b167)
     replace CR : CHr Z ELs s.vm h0 VM14 h181 := CR.trans (CHr.wr W181 sfw181 CR.1)
     replace hk := Nat.le_trans hk (Keep.of_wr W181).1
     have V_b167 : Arv Z h181 b167 k167 .char 10 [(.int (nar .char ca)), (.int (nar .char cb))] i0 := Arv.set Ar181 q181 S181 M181 Hs181 G181 (fits_nar_char _) W181 1 rfl (Nat.le_of_ble_eq_true rfl)
     have P183 := P182.bt X181 hx hby b335_ rfl
     exact ⟨T181, VM14, h181, _, _, X181.more (by decide) (by decide), e181, hS, hk, hZ, hown, CR, N181, K181, E_xt, Fv_xt, Fc_xt, V_tt, OL, E_b48, E_xs_157, Fv_xs_157, Fc_xs_157, V_ts_157, E_ed_159, E_xs_162, Fv_xs_162, Fc_xs_162, V_ts_162, V_ed_159, Fe_b48, Fz_b48, Fd_b48, V_b167, P183⟩
   have P184 := P171.bt X171 hx hby b336_ rfl
   replace V_b167 : Arv Z h171 b167 k167 .char 10 (tcs.map cv ++ [i0]) i0 := V_b167.pad (pad_rep _ i0 1)
   obtain ⟨cl185, Ar185, q185, S185, M185, Hs185, G185⟩ := id V_b167
   obtain ⟨T185, h185, X185, e185, W185, st185⟩ := stC X171 hx hZ e171 Ar185 (j := (Int32.ofNat tcs.length)) (inb_of S185 (own_inb tcs.length 10 (Nat.lt_of_le_of_lt htl2 (by decide)) (by decide))) (g := P184.g) rfl rfl (hb hby at_192)
   have P186 := P184.st st185
   have N185 := Fr.snoc X185 N171 (Nat.le_trans Z0 sz_b167)
   have K185 := K171.wr W185 (Or.inr sz_b167)
   have sfw185 : Safe Z ELs VM171 h171 b167 := (Safe.arv hZ.alike V_b167 (by decide))
   replace E_xt := E_xt.wr W185
   replace Fv_xt := Fv_xt.other W185 (Or.inl ne_xt_b167)
   replace Fc_xt := Fc_xt.other W185 (Or.inl ne_xt_b167)
   replace V_tt := V_tt.other W185 ne_tt_b167
   replace OL := OL.wr W185 (Nat.le_trans Z0 sz_b167)
   replace E_b48 := E_b48.wr W185
   replace E_xs_157 := E_xs_157.wr W185
   replace Fv_xs_157 := Fv_xs_157.other W185 (Or.inl ne_xs_157_b167)
   replace Fc_xs_157 := Fc_xs_157.other W185 (Or.inl ne_xs_157_b167)
   replace V_ts_157 := V_ts_157.other W185 ne_ts_157_b167
   replace E_ed_159 := E_ed_159.wr W185
   replace E_xs_162 := E_xs_162.wr W185
   replace Fv_xs_162 := Fv_xs_162.other W185 (Or.inl ne_xs_162_b167)
   replace Fc_xs_162 := Fc_xs_162.other W185 (Or.inl ne_xs_162_b167)
   replace V_ts_162 := V_ts_162.other W185 ne_ts_162_b167
   replace V_ed_159 := V_ed_159.other W185 ne_ed_159_b167
   replace Fe_b48 := Fe_b48.other W185 (Or.inl ne_b48_b167)
   replace Fz_b48 := Fz_b48.other W185 (Or.inl ne_b48_b167)
   replace Fd_b48 := Fd_b48.other W185 (Or.inl ne_b48_b167)
   replace CR : CHr Z ELs s.vm h0 VM171 h185 := CR.trans (CHr.wr W185 sfw185 CR.1)
   replace hk := Nat.le_trans hk (Keep.of_wr W185).1
   have V_b167 : Arv Z h185 b167 k167 .char 10 ((tcs.map cv ++ [i0]).set tcs.length (.int (nar .char (32 : Int32)))) i0 := Arv.set Ar185 q185 S185 M185 Hs185 G185 (fits_nar_char _) W185 tcs.length (own_cl _ (Nat.lt_of_le_of_lt htl2 (by decide))) (own_ltm _ _ _)
   replace V_b167 : Arv Z h185 b167 k167 .char 10 ((tcs ++ [(32 : Int32)]).map cv) i0 := by
       have q := V_b167
       rw [own_setE] at q
       exact q
   have P187 : PP p e below T185 (mkF m 197 #[iv ja, iv jb, iv js, iv jr, iv ca, iv cb, iv da, iv db, iv tl, iv 2, rv xt, rv b48, rv b167, iv (Int32.ofNat tcs.length), .unset] [(.int ((Int32.ofNat tcs.length) + (1 : Int32)))]) s0 := fun q_ k_ => P186 q_ (by
    exact bt X185 hx hby b337_ rfl k_)
   have P188 : PP p e below T185 (mkF m 197 #[iv ja, iv jb, iv js, iv jr, iv ca, iv cb, iv da, iv db, iv tl, iv 2, rv xt, rv b48, rv b167, iv (Int32.ofNat tcs.length), .unset] [(.int (Int32.ofNat (tcs ++ [(32 : Int32)]).length))]) s0 := fun q_ k_ => P187 q_ (by rw [(own_ls tcs (32 : Int32))]; exact k_)
   have P189 : PP p e below T185 (mkF m 205 #[iv ja, iv jb, iv js, iv jr, iv ca, iv cb, iv da, iv db, iv tl, iv 2, rv xt, rv b48, rv b167, iv (Int32.ofNat (tcs ++ [(32 : Int32)]).length), .unset] [(.int 91), (.int (Int32.ofNat (tcs ++ [(32 : Int32)]).length)), (.ref b167)]) s0 := fun q_ k_ => P188 q_ (by
    exact bt X185 hx hby b338_ rfl k_)
   replace V_b167 : Arv Z h185 b167 k167 .char 10 ((tcs ++ [(32 : Int32)]).map cv ++ [i0]) i0 := V_b167.pad (pad_rep _ i0 1)
   obtain ⟨cl190, Ar190, q190, S190, M190, Hs190, G190⟩ := id V_b167
   obtain ⟨T190, h190, X190, e190, W190, st190⟩ := stC X185 hx hZ e185 Ar190 (j := (Int32.ofNat (tcs ++ [(32 : Int32)]).length)) (inb_of S190 (own_inb (tcs ++ [(32 : Int32)]).length 10 (Nat.lt_of_le_of_lt (own_l1 htl2) (by decide)) (by decide))) (g := P189.g) rfl rfl (hb hby at_205)
   have P191 := P189.st st190
   have N190 := Fr.snoc X190 N185 (Nat.le_trans Z0 sz_b167)
   have K190 := K185.wr W190 (Or.inr sz_b167)
   have sfw190 : Safe Z ELs VM171 h185 b167 := (Safe.arv hZ.alike V_b167 (by decide))
   replace E_xt := E_xt.wr W190
   replace Fv_xt := Fv_xt.other W190 (Or.inl ne_xt_b167)
   replace Fc_xt := Fc_xt.other W190 (Or.inl ne_xt_b167)
   replace V_tt := V_tt.other W190 ne_tt_b167
   replace OL := OL.wr W190 (Nat.le_trans Z0 sz_b167)
   replace E_b48 := E_b48.wr W190
   replace E_xs_157 := E_xs_157.wr W190
   replace Fv_xs_157 := Fv_xs_157.other W190 (Or.inl ne_xs_157_b167)
   replace Fc_xs_157 := Fc_xs_157.other W190 (Or.inl ne_xs_157_b167)
   replace V_ts_157 := V_ts_157.other W190 ne_ts_157_b167
   replace E_ed_159 := E_ed_159.wr W190
   replace E_xs_162 := E_xs_162.wr W190
   replace Fv_xs_162 := Fv_xs_162.other W190 (Or.inl ne_xs_162_b167)
   replace Fc_xs_162 := Fc_xs_162.other W190 (Or.inl ne_xs_162_b167)
   replace V_ts_162 := V_ts_162.other W190 ne_ts_162_b167
   replace V_ed_159 := V_ed_159.other W190 ne_ed_159_b167
   replace Fe_b48 := Fe_b48.other W190 (Or.inl ne_b48_b167)
   replace Fz_b48 := Fz_b48.other W190 (Or.inl ne_b48_b167)
   replace Fd_b48 := Fd_b48.other W190 (Or.inl ne_b48_b167)
   replace CR : CHr Z ELs s.vm h0 VM171 h190 := CR.trans (CHr.wr W190 sfw190 CR.1)
   replace hk := Nat.le_trans hk (Keep.of_wr W190).1
   have V_b167 : Arv Z h190 b167 k167 .char 10 (((tcs ++ [(32 : Int32)]).map cv ++ [i0]).set ((tcs ++ [(32 : Int32)]).length) (.int (nar .char (91 : Int32)))) i0 := Arv.set Ar190 q190 S190 M190 Hs190 G190 (fits_nar_char _) W190 (tcs ++ [(32 : Int32)]).length (own_cl _ (Nat.lt_of_le_of_lt (own_l1 htl2) (by decide))) (own_ltm _ _ _)
   replace V_b167 : Arv Z h190 b167 k167 .char 10 (((tcs ++ [(32 : Int32)]) ++ [(91 : Int32)]).map cv) i0 := by
       have q := V_b167
       rw [own_setE] at q
       exact q
   have P192 := P191.bt X190 hx hby b339_ rfl
   have P193 : PP p e below T190 (mkF m 210 #[iv ja, iv jb, iv js, iv jr, iv ca, iv cb, iv da, iv db, iv tl, iv 2, rv xt, rv b48, rv b167, iv (Int32.ofNat (tcs ++ [(32 : Int32)]).length), .unset] [(.int (Int32.ofNat ((tcs ++ [(32 : Int32)]) ++ [(91 : Int32)]).length))]) s0 := fun q_ k_ => P192 q_ (by show GG p e below T190 (mkF m 210 #[iv ja, iv jb, iv js, iv jr, iv ca, iv cb, iv da, iv db, iv tl, iv 2, rv xt, rv b48, rv b167, iv (Int32.ofNat (tcs ++ [(32 : Int32)]).length), .unset] [(.int ((Int32.ofNat (tcs ++ [(32 : Int32)]).length) + (1 : Int32)))]) q_; rw [(own_ls (tcs ++ [(32 : Int32)]) (91 : Int32))]; exact k_)
   have P194 : PP p e below T190 (mkF m 224 #[iv ja, iv jb, iv js, iv jr, iv ca, iv cb, iv da, iv db, iv tl, iv 2, rv xt, rv b48, rv b167, iv (Int32.ofNat ((tcs ++ [(32 : Int32)]) ++ [(91 : Int32)]).length), .unset] [(.int da), (.int (Int32.ofNat ((tcs ++ [(32 : Int32)]) ++ [(91 : Int32)]).length)), (.ref b167)]) s0 := fun q_ k_ => P193 q_ (by
    refine bt X190 hx hby b340_ rfl ?_
    refine XS.icmpNo X190.here hx rfl (hb hby at_215) rfl (flt ((by decide) : ¬ ((2 : Int32) < (1 : Int32)))).1 ?_
    exact bt X190 hx hby b349_ rfl k_)
   replace V_b167 : Arv Z h190 b167 k167 .char 10 (((tcs ++ [(32 : Int32)]) ++ [(91 : Int32)]).map cv ++ [i0]) i0 := V_b167.pad (pad_rep _ i0 1)
   obtain ⟨cl195, Ar195, q195, S195, M195, Hs195, G195⟩ := id V_b167
   obtain ⟨T195, h195, X195, e195, W195, st195⟩ := stC X190 hx hZ e190 Ar195 (j := (Int32.ofNat ((tcs ++ [(32 : Int32)]) ++ [(91 : Int32)]).length)) (inb_of S195 (own_inb ((tcs ++ [(32 : Int32)]) ++ [(91 : Int32)]).length 10 (Nat.lt_of_le_of_lt (own_l1 (own_l1 htl2)) (by decide)) (by decide))) (g := P194.g) rfl rfl (hb hby at_224)
   have P196 := P194.st st195
   have N195 := Fr.snoc X195 N190 (Nat.le_trans Z0 sz_b167)
   have K195 := K190.wr W195 (Or.inr sz_b167)
   have sfw195 : Safe Z ELs VM171 h190 b167 := (Safe.arv hZ.alike V_b167 (by decide))
   replace E_xt := E_xt.wr W195
   replace Fv_xt := Fv_xt.other W195 (Or.inl ne_xt_b167)
   replace Fc_xt := Fc_xt.other W195 (Or.inl ne_xt_b167)
   replace V_tt := V_tt.other W195 ne_tt_b167
   replace OL := OL.wr W195 (Nat.le_trans Z0 sz_b167)
   replace E_b48 := E_b48.wr W195
   replace E_xs_157 := E_xs_157.wr W195
   replace Fv_xs_157 := Fv_xs_157.other W195 (Or.inl ne_xs_157_b167)
   replace Fc_xs_157 := Fc_xs_157.other W195 (Or.inl ne_xs_157_b167)
   replace V_ts_157 := V_ts_157.other W195 ne_ts_157_b167
   replace E_ed_159 := E_ed_159.wr W195
   replace E_xs_162 := E_xs_162.wr W195
   replace Fv_xs_162 := Fv_xs_162.other W195 (Or.inl ne_xs_162_b167)
   replace Fc_xs_162 := Fc_xs_162.other W195 (Or.inl ne_xs_162_b167)
   replace V_ts_162 := V_ts_162.other W195 ne_ts_162_b167
   replace V_ed_159 := V_ed_159.other W195 ne_ed_159_b167
   replace Fe_b48 := Fe_b48.other W195 (Or.inl ne_b48_b167)
   replace Fz_b48 := Fz_b48.other W195 (Or.inl ne_b48_b167)
   replace Fd_b48 := Fd_b48.other W195 (Or.inl ne_b48_b167)
   replace CR : CHr Z ELs s.vm h0 VM171 h195 := CR.trans (CHr.wr W195 sfw195 CR.1)
   replace hk := Nat.le_trans hk (Keep.of_wr W195).1
   have V_b167 : Arv Z h195 b167 k167 .char 10 ((((tcs ++ [(32 : Int32)]) ++ [(91 : Int32)]).map cv ++ [i0]).set (((tcs ++ [(32 : Int32)]) ++ [(91 : Int32)]).length) (.int (nar .char da))) i0 := Arv.set Ar195 q195 S195 M195 Hs195 G195 (fits_nar_char _) W195 ((tcs ++ [(32 : Int32)]) ++ [(91 : Int32)]).length (own_cl _ (Nat.lt_of_le_of_lt (own_l1 (own_l1 htl2)) (by decide))) (own_ltm _ _ _)
   replace V_b167 : Arv Z h195 b167 k167 .char 10 ((((tcs ++ [(32 : Int32)]) ++ [(91 : Int32)]) ++ [da]).map cv) i0 := by
       have q := V_b167
       rw [own_setE] at q
       exact q
   have P197 := P196.bt X195 hx hby b350_ rfl
   have P198 : PP p e below T195 (mkF m 229 #[iv ja, iv jb, iv js, iv jr, iv ca, iv cb, iv da, iv db, iv tl, iv 2, rv xt, rv b48, rv b167, iv (Int32.ofNat ((tcs ++ [(32 : Int32)]) ++ [(91 : Int32)]).length), .unset] [(.int (Int32.ofNat (((tcs ++ [(32 : Int32)]) ++ [(91 : Int32)]) ++ [da]).length))]) s0 := fun q_ k_ => P197 q_ (by show GG p e below T195 (mkF m 229 #[iv ja, iv jb, iv js, iv jr, iv ca, iv cb, iv da, iv db, iv tl, iv 2, rv xt, rv b48, rv b167, iv (Int32.ofNat ((tcs ++ [(32 : Int32)]) ++ [(91 : Int32)]).length), .unset] [(.int ((Int32.ofNat ((tcs ++ [(32 : Int32)]) ++ [(91 : Int32)]).length) + (1 : Int32)))]) q_; rw [(own_ls ((tcs ++ [(32 : Int32)]) ++ [(91 : Int32)]) da)]; exact k_)
   have P199 : PP p e below T195 (mkF m 243 #[iv ja, iv jb, iv js, iv jr, iv ca, iv cb, iv da, iv db, iv tl, iv 2, rv xt, rv b48, rv b167, iv (Int32.ofNat (((tcs ++ [(32 : Int32)]) ++ [(91 : Int32)]) ++ [da]).length), .unset] [(.int 44), (.int (Int32.ofNat (((tcs ++ [(32 : Int32)]) ++ [(91 : Int32)]) ++ [da]).length)), (.ref b167)]) s0 := fun q_ k_ => P198 q_ (by
    refine bt X195 hx hby b351_ rfl ?_
    refine XS.icmpNo X195.here hx rfl (hb hby at_234) rfl (flt ((by decide) : ¬ ((2 : Int32) < (2 : Int32)))).1 ?_
    exact bt X195 hx hby b354_ rfl k_)
   replace V_b167 : Arv Z h195 b167 k167 .char 10 ((((tcs ++ [(32 : Int32)]) ++ [(91 : Int32)]) ++ [da]).map cv ++ [i0]) i0 := V_b167.pad (pad_rep _ i0 1)
   obtain ⟨cl200, Ar200, q200, S200, M200, Hs200, G200⟩ := id V_b167
   obtain ⟨T200, h200, X200, e200, W200, st200⟩ := stC X195 hx hZ e195 Ar200 (j := (Int32.ofNat (((tcs ++ [(32 : Int32)]) ++ [(91 : Int32)]) ++ [da]).length)) (inb_of S200 (own_inb (((tcs ++ [(32 : Int32)]) ++ [(91 : Int32)]) ++ [da]).length 10 (Nat.lt_of_le_of_lt (own_l1 (own_l1 (own_l1 htl2))) (by decide)) (by decide))) (g := P199.g) rfl rfl (hb hby at_243)
   have P201 := P199.st st200
   have N200 := Fr.snoc X200 N195 (Nat.le_trans Z0 sz_b167)
   have K200 := K195.wr W200 (Or.inr sz_b167)
   have sfw200 : Safe Z ELs VM171 h195 b167 := (Safe.arv hZ.alike V_b167 (by decide))
   replace E_xt := E_xt.wr W200
   replace Fv_xt := Fv_xt.other W200 (Or.inl ne_xt_b167)
   replace Fc_xt := Fc_xt.other W200 (Or.inl ne_xt_b167)
   replace V_tt := V_tt.other W200 ne_tt_b167
   replace OL := OL.wr W200 (Nat.le_trans Z0 sz_b167)
   replace E_b48 := E_b48.wr W200
   replace E_xs_157 := E_xs_157.wr W200
   replace Fv_xs_157 := Fv_xs_157.other W200 (Or.inl ne_xs_157_b167)
   replace Fc_xs_157 := Fc_xs_157.other W200 (Or.inl ne_xs_157_b167)
   replace V_ts_157 := V_ts_157.other W200 ne_ts_157_b167
   replace E_ed_159 := E_ed_159.wr W200
   replace E_xs_162 := E_xs_162.wr W200
   replace Fv_xs_162 := Fv_xs_162.other W200 (Or.inl ne_xs_162_b167)
   replace Fc_xs_162 := Fc_xs_162.other W200 (Or.inl ne_xs_162_b167)
   replace V_ts_162 := V_ts_162.other W200 ne_ts_162_b167
   replace V_ed_159 := V_ed_159.other W200 ne_ed_159_b167
   replace Fe_b48 := Fe_b48.other W200 (Or.inl ne_b48_b167)
   replace Fz_b48 := Fz_b48.other W200 (Or.inl ne_b48_b167)
   replace Fd_b48 := Fd_b48.other W200 (Or.inl ne_b48_b167)
   replace CR : CHr Z ELs s.vm h0 VM171 h200 := CR.trans (CHr.wr W200 sfw200 CR.1)
   replace hk := Nat.le_trans hk (Keep.of_wr W200).1
   have V_b167 : Arv Z h200 b167 k167 .char 10 (((((tcs ++ [(32 : Int32)]) ++ [(91 : Int32)]) ++ [da]).map cv ++ [i0]).set ((((tcs ++ [(32 : Int32)]) ++ [(91 : Int32)]) ++ [da]).length) (.int (nar .char (44 : Int32)))) i0 := Arv.set Ar200 q200 S200 M200 Hs200 G200 (fits_nar_char _) W200 (((tcs ++ [(32 : Int32)]) ++ [(91 : Int32)]) ++ [da]).length (own_cl _ (Nat.lt_of_le_of_lt (own_l1 (own_l1 (own_l1 htl2))) (by decide))) (own_ltm _ _ _)
   replace V_b167 : Arv Z h200 b167 k167 .char 10 (((((tcs ++ [(32 : Int32)]) ++ [(91 : Int32)]) ++ [da]) ++ [(44 : Int32)]).map cv) i0 := by
       have q := V_b167
       rw [own_setE] at q
       exact q
   have P202 := P201.bt X200 hx hby b355_ rfl
   have P203 : PP p e below T200 (mkF m 248 #[iv ja, iv jb, iv js, iv jr, iv ca, iv cb, iv da, iv db, iv tl, iv 2, rv xt, rv b48, rv b167, iv (Int32.ofNat (((tcs ++ [(32 : Int32)]) ++ [(91 : Int32)]) ++ [da]).length), .unset] [(.int (Int32.ofNat ((((tcs ++ [(32 : Int32)]) ++ [(91 : Int32)]) ++ [da]) ++ [(44 : Int32)]).length))]) s0 := fun q_ k_ => P202 q_ (by show GG p e below T200 (mkF m 248 #[iv ja, iv jb, iv js, iv jr, iv ca, iv cb, iv da, iv db, iv tl, iv 2, rv xt, rv b48, rv b167, iv (Int32.ofNat (((tcs ++ [(32 : Int32)]) ++ [(91 : Int32)]) ++ [da]).length), .unset] [(.int ((Int32.ofNat (((tcs ++ [(32 : Int32)]) ++ [(91 : Int32)]) ++ [da]).length) + (1 : Int32)))]) q_; rw [(own_ls (((tcs ++ [(32 : Int32)]) ++ [(91 : Int32)]) ++ [da]) (44 : Int32))]; exact k_)
   have P204 : PP p e below T200 (mkF m 256 #[iv ja, iv jb, iv js, iv jr, iv ca, iv cb, iv da, iv db, iv tl, iv 2, rv xt, rv b48, rv b167, iv (Int32.ofNat ((((tcs ++ [(32 : Int32)]) ++ [(91 : Int32)]) ++ [da]) ++ [(44 : Int32)]).length), .unset] [(.int 32), (.int (Int32.ofNat ((((tcs ++ [(32 : Int32)]) ++ [(91 : Int32)]) ++ [da]) ++ [(44 : Int32)]).length)), (.ref b167)]) s0 := fun q_ k_ => P203 q_ (by
    exact bt X200 hx hby b356_ rfl k_)
   replace V_b167 : Arv Z h200 b167 k167 .char 10 (((((tcs ++ [(32 : Int32)]) ++ [(91 : Int32)]) ++ [da]) ++ [(44 : Int32)]).map cv ++ [i0]) i0 := V_b167.pad (pad_rep _ i0 1)
   obtain ⟨cl205, Ar205, q205, S205, M205, Hs205, G205⟩ := id V_b167
   obtain ⟨T205, h205, X205, e205, W205, st205⟩ := stC X200 hx hZ e200 Ar205 (j := (Int32.ofNat ((((tcs ++ [(32 : Int32)]) ++ [(91 : Int32)]) ++ [da]) ++ [(44 : Int32)]).length)) (inb_of S205 (own_inb ((((tcs ++ [(32 : Int32)]) ++ [(91 : Int32)]) ++ [da]) ++ [(44 : Int32)]).length 10 (Nat.lt_of_le_of_lt (own_l1 (own_l1 (own_l1 (own_l1 htl2)))) (by decide)) (by decide))) (g := P204.g) rfl rfl (hb hby at_256)
   have P206 := P204.st st205
   have N205 := Fr.snoc X205 N200 (Nat.le_trans Z0 sz_b167)
   have K205 := K200.wr W205 (Or.inr sz_b167)
   have sfw205 : Safe Z ELs VM171 h200 b167 := (Safe.arv hZ.alike V_b167 (by decide))
   replace E_xt := E_xt.wr W205
   replace Fv_xt := Fv_xt.other W205 (Or.inl ne_xt_b167)
   replace Fc_xt := Fc_xt.other W205 (Or.inl ne_xt_b167)
   replace V_tt := V_tt.other W205 ne_tt_b167
   replace OL := OL.wr W205 (Nat.le_trans Z0 sz_b167)
   replace E_b48 := E_b48.wr W205
   replace E_xs_157 := E_xs_157.wr W205
   replace Fv_xs_157 := Fv_xs_157.other W205 (Or.inl ne_xs_157_b167)
   replace Fc_xs_157 := Fc_xs_157.other W205 (Or.inl ne_xs_157_b167)
   replace V_ts_157 := V_ts_157.other W205 ne_ts_157_b167
   replace E_ed_159 := E_ed_159.wr W205
   replace E_xs_162 := E_xs_162.wr W205
   replace Fv_xs_162 := Fv_xs_162.other W205 (Or.inl ne_xs_162_b167)
   replace Fc_xs_162 := Fc_xs_162.other W205 (Or.inl ne_xs_162_b167)
   replace V_ts_162 := V_ts_162.other W205 ne_ts_162_b167
   replace V_ed_159 := V_ed_159.other W205 ne_ed_159_b167
   replace Fe_b48 := Fe_b48.other W205 (Or.inl ne_b48_b167)
   replace Fz_b48 := Fz_b48.other W205 (Or.inl ne_b48_b167)
   replace Fd_b48 := Fd_b48.other W205 (Or.inl ne_b48_b167)
   replace CR : CHr Z ELs s.vm h0 VM171 h205 := CR.trans (CHr.wr W205 sfw205 CR.1)
   replace hk := Nat.le_trans hk (Keep.of_wr W205).1
   have V_b167 : Arv Z h205 b167 k167 .char 10 ((((((tcs ++ [(32 : Int32)]) ++ [(91 : Int32)]) ++ [da]) ++ [(44 : Int32)]).map cv ++ [i0]).set (((((tcs ++ [(32 : Int32)]) ++ [(91 : Int32)]) ++ [da]) ++ [(44 : Int32)]).length) (.int (nar .char (32 : Int32)))) i0 := Arv.set Ar205 q205 S205 M205 Hs205 G205 (fits_nar_char _) W205 ((((tcs ++ [(32 : Int32)]) ++ [(91 : Int32)]) ++ [da]) ++ [(44 : Int32)]).length (own_cl _ (Nat.lt_of_le_of_lt (own_l1 (own_l1 (own_l1 (own_l1 htl2)))) (by decide))) (own_ltm _ _ _)
   replace V_b167 : Arv Z h205 b167 k167 .char 10 ((((((tcs ++ [(32 : Int32)]) ++ [(91 : Int32)]) ++ [da]) ++ [(44 : Int32)]) ++ [(32 : Int32)]).map cv) i0 := by
       have q := V_b167
       rw [own_setE] at q
       exact q
   have P207 := P206.bt X205 hx hby b357_ rfl
   have P208 : PP p e below T205 (mkF m 261 #[iv ja, iv jb, iv js, iv jr, iv ca, iv cb, iv da, iv db, iv tl, iv 2, rv xt, rv b48, rv b167, iv (Int32.ofNat ((((tcs ++ [(32 : Int32)]) ++ [(91 : Int32)]) ++ [da]) ++ [(44 : Int32)]).length), .unset] [(.int (Int32.ofNat (((((tcs ++ [(32 : Int32)]) ++ [(91 : Int32)]) ++ [da]) ++ [(44 : Int32)]) ++ [(32 : Int32)]).length))]) s0 := fun q_ k_ => P207 q_ (by show GG p e below T205 (mkF m 261 #[iv ja, iv jb, iv js, iv jr, iv ca, iv cb, iv da, iv db, iv tl, iv 2, rv xt, rv b48, rv b167, iv (Int32.ofNat ((((tcs ++ [(32 : Int32)]) ++ [(91 : Int32)]) ++ [da]) ++ [(44 : Int32)]).length), .unset] [(.int ((Int32.ofNat ((((tcs ++ [(32 : Int32)]) ++ [(91 : Int32)]) ++ [da]) ++ [(44 : Int32)]).length) + (1 : Int32)))]) q_; rw [(own_ls ((((tcs ++ [(32 : Int32)]) ++ [(91 : Int32)]) ++ [da]) ++ [(44 : Int32)]) (32 : Int32))]; exact k_)
   have P209 : PP p e below T205 (mkF m 269 #[iv ja, iv jb, iv js, iv jr, iv ca, iv cb, iv da, iv db, iv tl, iv 2, rv xt, rv b48, rv b167, iv (Int32.ofNat (((((tcs ++ [(32 : Int32)]) ++ [(91 : Int32)]) ++ [da]) ++ [(44 : Int32)]) ++ [(32 : Int32)]).length), .unset] [(.int db), (.int (Int32.ofNat (((((tcs ++ [(32 : Int32)]) ++ [(91 : Int32)]) ++ [da]) ++ [(44 : Int32)]) ++ [(32 : Int32)]).length)), (.ref b167)]) s0 := fun q_ k_ => P208 q_ (by
    exact bt X205 hx hby b358_ rfl k_)
   replace V_b167 : Arv Z h205 b167 k167 .char 10 ((((((tcs ++ [(32 : Int32)]) ++ [(91 : Int32)]) ++ [da]) ++ [(44 : Int32)]) ++ [(32 : Int32)]).map cv ++ [i0]) i0 := V_b167.pad (pad_rep _ i0 1)
   obtain ⟨cl210, Ar210, q210, S210, M210, Hs210, G210⟩ := id V_b167
   obtain ⟨T210, h210, X210, e210, W210, st210⟩ := stC X205 hx hZ e205 Ar210 (j := (Int32.ofNat (((((tcs ++ [(32 : Int32)]) ++ [(91 : Int32)]) ++ [da]) ++ [(44 : Int32)]) ++ [(32 : Int32)]).length)) (inb_of S210 (own_inb (((((tcs ++ [(32 : Int32)]) ++ [(91 : Int32)]) ++ [da]) ++ [(44 : Int32)]) ++ [(32 : Int32)]).length 10 (Nat.lt_of_le_of_lt (own_l1 (own_l1 (own_l1 (own_l1 (own_l1 htl2))))) (by decide)) (by decide))) (g := P209.g) rfl rfl (hb hby at_269)
   have P211 := P209.st st210
   have N210 := Fr.snoc X210 N205 (Nat.le_trans Z0 sz_b167)
   have K210 := K205.wr W210 (Or.inr sz_b167)
   have sfw210 : Safe Z ELs VM171 h205 b167 := (Safe.arv hZ.alike V_b167 (by decide))
   replace E_xt := E_xt.wr W210
   replace Fv_xt := Fv_xt.other W210 (Or.inl ne_xt_b167)
   replace Fc_xt := Fc_xt.other W210 (Or.inl ne_xt_b167)
   replace V_tt := V_tt.other W210 ne_tt_b167
   replace OL := OL.wr W210 (Nat.le_trans Z0 sz_b167)
   replace E_b48 := E_b48.wr W210
   replace E_xs_157 := E_xs_157.wr W210
   replace Fv_xs_157 := Fv_xs_157.other W210 (Or.inl ne_xs_157_b167)
   replace Fc_xs_157 := Fc_xs_157.other W210 (Or.inl ne_xs_157_b167)
   replace V_ts_157 := V_ts_157.other W210 ne_ts_157_b167
   replace E_ed_159 := E_ed_159.wr W210
   replace E_xs_162 := E_xs_162.wr W210
   replace Fv_xs_162 := Fv_xs_162.other W210 (Or.inl ne_xs_162_b167)
   replace Fc_xs_162 := Fc_xs_162.other W210 (Or.inl ne_xs_162_b167)
   replace V_ts_162 := V_ts_162.other W210 ne_ts_162_b167
   replace V_ed_159 := V_ed_159.other W210 ne_ed_159_b167
   replace Fe_b48 := Fe_b48.other W210 (Or.inl ne_b48_b167)
   replace Fz_b48 := Fz_b48.other W210 (Or.inl ne_b48_b167)
   replace Fd_b48 := Fd_b48.other W210 (Or.inl ne_b48_b167)
   replace CR : CHr Z ELs s.vm h0 VM171 h210 := CR.trans (CHr.wr W210 sfw210 CR.1)
   replace hk := Nat.le_trans hk (Keep.of_wr W210).1
   have V_b167 : Arv Z h210 b167 k167 .char 10 (((((((tcs ++ [(32 : Int32)]) ++ [(91 : Int32)]) ++ [da]) ++ [(44 : Int32)]) ++ [(32 : Int32)]).map cv ++ [i0]).set ((((((tcs ++ [(32 : Int32)]) ++ [(91 : Int32)]) ++ [da]) ++ [(44 : Int32)]) ++ [(32 : Int32)]).length) (.int (nar .char db))) i0 := Arv.set Ar210 q210 S210 M210 Hs210 G210 (fits_nar_char _) W210 (((((tcs ++ [(32 : Int32)]) ++ [(91 : Int32)]) ++ [da]) ++ [(44 : Int32)]) ++ [(32 : Int32)]).length (own_cl _ (Nat.lt_of_le_of_lt (own_l1 (own_l1 (own_l1 (own_l1 (own_l1 htl2))))) (by decide))) (own_ltm _ _ _)
   replace V_b167 : Arv Z h210 b167 k167 .char 10 (((((((tcs ++ [(32 : Int32)]) ++ [(91 : Int32)]) ++ [da]) ++ [(44 : Int32)]) ++ [(32 : Int32)]) ++ [db]).map cv) i0 := by
       have q := V_b167
       rw [own_setE] at q
       exact q
   have P212 := P211.bt X210 hx hby b359_ rfl
   have P213 : PP p e below T210 (mkF m 274 #[iv ja, iv jb, iv js, iv jr, iv ca, iv cb, iv da, iv db, iv tl, iv 2, rv xt, rv b48, rv b167, iv (Int32.ofNat (((((tcs ++ [(32 : Int32)]) ++ [(91 : Int32)]) ++ [da]) ++ [(44 : Int32)]) ++ [(32 : Int32)]).length), .unset] [(.int (Int32.ofNat ((((((tcs ++ [(32 : Int32)]) ++ [(91 : Int32)]) ++ [da]) ++ [(44 : Int32)]) ++ [(32 : Int32)]) ++ [db]).length))]) s0 := fun q_ k_ => P212 q_ (by show GG p e below T210 (mkF m 274 #[iv ja, iv jb, iv js, iv jr, iv ca, iv cb, iv da, iv db, iv tl, iv 2, rv xt, rv b48, rv b167, iv (Int32.ofNat (((((tcs ++ [(32 : Int32)]) ++ [(91 : Int32)]) ++ [da]) ++ [(44 : Int32)]) ++ [(32 : Int32)]).length), .unset] [(.int ((Int32.ofNat (((((tcs ++ [(32 : Int32)]) ++ [(91 : Int32)]) ++ [da]) ++ [(44 : Int32)]) ++ [(32 : Int32)]).length) + (1 : Int32)))]) q_; rw [(own_ls (((((tcs ++ [(32 : Int32)]) ++ [(91 : Int32)]) ++ [da]) ++ [(44 : Int32)]) ++ [(32 : Int32)]) db)]; exact k_)
   have P214 : PP p e below T210 (mkF m 282 #[iv ja, iv jb, iv js, iv jr, iv ca, iv cb, iv da, iv db, iv tl, iv 2, rv xt, rv b48, rv b167, iv (Int32.ofNat ((((((tcs ++ [(32 : Int32)]) ++ [(91 : Int32)]) ++ [da]) ++ [(44 : Int32)]) ++ [(32 : Int32)]) ++ [db]).length), .unset] [(.int 93), (.int (Int32.ofNat ((((((tcs ++ [(32 : Int32)]) ++ [(91 : Int32)]) ++ [da]) ++ [(44 : Int32)]) ++ [(32 : Int32)]) ++ [db]).length)), (.ref b167)]) s0 := fun q_ k_ => P213 q_ (by
    exact bt X210 hx hby b360_ rfl k_)
   replace V_b167 : Arv Z h210 b167 k167 .char 10 (((((((tcs ++ [(32 : Int32)]) ++ [(91 : Int32)]) ++ [da]) ++ [(44 : Int32)]) ++ [(32 : Int32)]) ++ [db]).map cv ++ [i0]) i0 := V_b167.pad (pad_rep _ i0 1)
   obtain ⟨cl215, Ar215, q215, S215, M215, Hs215, G215⟩ := id V_b167
   obtain ⟨T215, h215, X215, e215, W215, st215⟩ := stC X210 hx hZ e210 Ar215 (j := (Int32.ofNat ((((((tcs ++ [(32 : Int32)]) ++ [(91 : Int32)]) ++ [da]) ++ [(44 : Int32)]) ++ [(32 : Int32)]) ++ [db]).length)) (inb_of S215 (own_inb ((((((tcs ++ [(32 : Int32)]) ++ [(91 : Int32)]) ++ [da]) ++ [(44 : Int32)]) ++ [(32 : Int32)]) ++ [db]).length 10 (Nat.lt_of_le_of_lt (own_l1 (own_l1 (own_l1 (own_l1 (own_l1 (own_l1 htl2)))))) (by decide)) (by decide))) (g := P214.g) rfl rfl (hb hby at_282)
   have P216 := P214.st st215
   have N215 := Fr.snoc X215 N210 (Nat.le_trans Z0 sz_b167)
   have K215 := K210.wr W215 (Or.inr sz_b167)
   have sfw215 : Safe Z ELs VM171 h210 b167 := (Safe.arv hZ.alike V_b167 (by decide))
   replace E_xt := E_xt.wr W215
   replace Fv_xt := Fv_xt.other W215 (Or.inl ne_xt_b167)
   replace Fc_xt := Fc_xt.other W215 (Or.inl ne_xt_b167)
   replace V_tt := V_tt.other W215 ne_tt_b167
   replace OL := OL.wr W215 (Nat.le_trans Z0 sz_b167)
   replace E_b48 := E_b48.wr W215
   replace E_xs_157 := E_xs_157.wr W215
   replace Fv_xs_157 := Fv_xs_157.other W215 (Or.inl ne_xs_157_b167)
   replace Fc_xs_157 := Fc_xs_157.other W215 (Or.inl ne_xs_157_b167)
   replace V_ts_157 := V_ts_157.other W215 ne_ts_157_b167
   replace E_ed_159 := E_ed_159.wr W215
   replace E_xs_162 := E_xs_162.wr W215
   replace Fv_xs_162 := Fv_xs_162.other W215 (Or.inl ne_xs_162_b167)
   replace Fc_xs_162 := Fc_xs_162.other W215 (Or.inl ne_xs_162_b167)
   replace V_ts_162 := V_ts_162.other W215 ne_ts_162_b167
   replace V_ed_159 := V_ed_159.other W215 ne_ed_159_b167
   replace Fe_b48 := Fe_b48.other W215 (Or.inl ne_b48_b167)
   replace Fz_b48 := Fz_b48.other W215 (Or.inl ne_b48_b167)
   replace Fd_b48 := Fd_b48.other W215 (Or.inl ne_b48_b167)
   replace CR : CHr Z ELs s.vm h0 VM171 h215 := CR.trans (CHr.wr W215 sfw215 CR.1)
   replace hk := Nat.le_trans hk (Keep.of_wr W215).1
   have V_b167 : Arv Z h215 b167 k167 .char 10 ((((((((tcs ++ [(32 : Int32)]) ++ [(91 : Int32)]) ++ [da]) ++ [(44 : Int32)]) ++ [(32 : Int32)]) ++ [db]).map cv ++ [i0]).set (((((((tcs ++ [(32 : Int32)]) ++ [(91 : Int32)]) ++ [da]) ++ [(44 : Int32)]) ++ [(32 : Int32)]) ++ [db]).length) (.int (nar .char (93 : Int32)))) i0 := Arv.set Ar215 q215 S215 M215 Hs215 G215 (fits_nar_char _) W215 ((((((tcs ++ [(32 : Int32)]) ++ [(91 : Int32)]) ++ [da]) ++ [(44 : Int32)]) ++ [(32 : Int32)]) ++ [db]).length (own_cl _ (Nat.lt_of_le_of_lt (own_l1 (own_l1 (own_l1 (own_l1 (own_l1 (own_l1 htl2)))))) (by decide))) (own_ltm _ _ _)
   replace V_b167 : Arv Z h215 b167 k167 .char 10 ((((((((tcs ++ [(32 : Int32)]) ++ [(91 : Int32)]) ++ [da]) ++ [(44 : Int32)]) ++ [(32 : Int32)]) ++ [db]) ++ [(93 : Int32)]).map cv) i0 := by
       have q := V_b167
       rw [own_setE] at q
       exact q
   have P217 := P216.bt X215 hx hby b343_ rfl
   have P218 : PP p e below T215 (mkF m 287 #[iv ja, iv jb, iv js, iv jr, iv ca, iv cb, iv da, iv db, iv tl, iv 2, rv xt, rv b48, rv b167, iv (Int32.ofNat ((((((tcs ++ [(32 : Int32)]) ++ [(91 : Int32)]) ++ [da]) ++ [(44 : Int32)]) ++ [(32 : Int32)]) ++ [db]).length), .unset] [(.int (Int32.ofNat (((((((tcs ++ [(32 : Int32)]) ++ [(91 : Int32)]) ++ [da]) ++ [(44 : Int32)]) ++ [(32 : Int32)]) ++ [db]) ++ [(93 : Int32)]).length))]) s0 := fun q_ k_ => P217 q_ (by show GG p e below T215 (mkF m 287 #[iv ja, iv jb, iv js, iv jr, iv ca, iv cb, iv da, iv db, iv tl, iv 2, rv xt, rv b48, rv b167, iv (Int32.ofNat ((((((tcs ++ [(32 : Int32)]) ++ [(91 : Int32)]) ++ [da]) ++ [(44 : Int32)]) ++ [(32 : Int32)]) ++ [db]).length), .unset] [(.int ((Int32.ofNat ((((((tcs ++ [(32 : Int32)]) ++ [(91 : Int32)]) ++ [da]) ++ [(44 : Int32)]) ++ [(32 : Int32)]) ++ [db]).length) + (1 : Int32)))]) q_; rw [(own_ls ((((((tcs ++ [(32 : Int32)]) ++ [(91 : Int32)]) ++ [da]) ++ [(44 : Int32)]) ++ [(32 : Int32)]) ++ [db]) (93 : Int32))]; exact k_)
   have P219 : PP p e below T215 (mkF m 289 #[iv ja, iv jb, iv js, iv jr, iv ca, iv cb, iv da, iv db, iv tl, iv 2, rv xt, rv b48, rv b167, iv (Int32.ofNat (((((((tcs ++ [(32 : Int32)]) ++ [(91 : Int32)]) ++ [da]) ++ [(44 : Int32)]) ++ [(32 : Int32)]) ++ [db]) ++ [(93 : Int32)]).length), .unset] []) s0 := fun q_ k_ => P218 q_ (by
    exact bt X215 hx hby b344_ rfl k_)
   have P220 : PP p e below T215 (mkF m 289 #[iv ja, iv jb, iv js, iv jr, iv ca, iv cb, iv da, iv db, iv tl, iv 2, rv xt, rv b48, rv b167, iv (Int32.ofNat (tcs ++ [(32 : Int32), 91, da, 44, 32, db, 93]).length), .unset] []) s0 := fun q_ k_ => P219 q_ (castTop (congrArg (fun z_ => mkF m 289 #[iv ja, iv jb, iv js, iv jr, iv ca, iv cb, iv da, iv db, iv tl, iv 2, rv xt, rv b48, rv b167, iv z_, .unset] []) (congrArg (fun z => Int32.ofNat (List.length z)) (show (((((((tcs ++ [(32 : Int32)]) ++ [(91 : Int32)]) ++ [da]) ++ [(44 : Int32)]) ++ [(32 : Int32)]) ++ [db]) ++ [(93 : Int32)]) = (tcs ++ [(32 : Int32), 91, da, 44, 32, db, 93]) by simp only [List.append_assoc, List.cons_append, List.nil_append]))) k_)
   replace V_b167 : Arv Z h215 b167 k167 .char 10 ((tcs ++ [(32 : Int32), 91, da, 44, 32, db, 93]).map cv) i0 := by
       have q := V_b167
       simpa only [List.append_assoc, List.cons_append, List.nil_append] using q
   have ne_xs_162_em : xs_162 ≠ em := E_xs_162.ne (XEM.ext OL.2) (by decide)
   obtain ⟨T221, h221, X221, e221, E221, A221, D221, -, st221⟩ := newO X215 hx hZ hown (ww hw 54 rfl) (ww hw 55 rfl) (ww hw 56 rfl) e215 (g := P220.g) rfl (hb hby at_289) (by decide) (by decide)
   obtain ⟨b221, g221⟩ : ∃ z, z = h215.size := ⟨_, rfl⟩
   rw [← g221] at A221 D221 st221
   have P222 := P220.st st221
   have ne_xt_b221 := neL E_xt.lt (Nat.le_of_eq g221.symm)
   have ne_tt_b221 := neL V_tt.lt (Nat.le_of_eq g221.symm)
   have ne_b48_b221 := neL E_b48.lt (Nat.le_of_eq g221.symm)
   have ne_xs_157_b221 := neL E_xs_157.lt (Nat.le_of_eq g221.symm)
   have ne_ts_157_b221 := neL V_ts_157.lt (Nat.le_of_eq g221.symm)
   have ne_ed_159_b221 := neL E_ed_159.lt (Nat.le_of_eq g221.symm)
   have ne_xs_162_b221 := neL E_xs_162.lt (Nat.le_of_eq g221.symm)
   have ne_ts_162_b221 := neL V_ts_162.lt (Nat.le_of_eq g221.symm)
   have ne_b167_b221 := neL V_b167.lt (Nat.le_of_eq g221.symm)
   have sz_b221 : h0.size ≤ b221 := Nat.le_trans K215.1 (Nat.le_of_eq g221.symm)
   have sf_b221 : Safe Z ELs VM171 h215 b221 := Safe.new (Nat.le_of_eq g221.symm)
   replace sf_b221 := Safe.ext E221 CR.1 sf_b221
   replace E_xt := E_xt.ext E221
   replace Fv_xt := Fv_xt.ext E221
   replace Fc_xt := Fc_xt.ext E221
   replace V_tt := V_tt.ext E221
   replace OL := OL.ext E221
   replace E_b48 := E_b48.ext E221
   replace E_xs_157 := E_xs_157.ext E221
   replace Fv_xs_157 := Fv_xs_157.ext E221
   replace Fc_xs_157 := Fc_xs_157.ext E221
   replace V_ts_157 := V_ts_157.ext E221
   replace E_ed_159 := E_ed_159.ext E221
   replace E_xs_162 := E_xs_162.ext E221
   replace Fv_xs_162 := Fv_xs_162.ext E221
   replace Fc_xs_162 := Fc_xs_162.ext E221
   replace V_ts_162 := V_ts_162.ext E221
   replace V_ed_159 := V_ed_159.ext E221
   replace Fe_b48 := Fe_b48.ext E221
   replace Fz_b48 := Fz_b48.ext E221
   replace Fd_b48 := Fd_b48.ext E221
   replace V_b167 := V_b167.ext E221
   replace CR : CHr Z ELs s.vm h0 VM171 h221 := CR.trans (CHr.ext E221 CR.1)
   replace hk := Nat.le_trans hk E221.1
   have K221 := K215.ext E221
   obtain ⟨Lf223, X221, N223⟩ := fixL X221 N215 16 102 rfl rfl
   have E_b221 : Exa Z h221 b221 cQ := A221
   have F_text_b221 : Fld Z h221 b221 cQ "text" dS .null := D221 (Or.inr (ww hw 62 rfl)) (ty := (.object cS)) (by decide)
   have Fp_b221 : Fld Z h221 b221 cQ "parameters" dL .null := D221 (Or.inr (ww hw 93 rfl)) (ty := (.object "java/util/List")) (by decide)
   have F_arity_b221 : Fld Z h221 b221 cQ "arity" "I" i0 := D221 (Or.inr (ww hw 95 rfl)) (ty := .int) (by decide)
   have P224 := P222.bt X221 hx hby b345_ rfl
   obtain ⟨_, T225, L225, X225, hQ225, P225⟩ := cIn P224 X221 hx hZ hown hw e221 hml 57 58 59 56 (rm_sqInit2 hw b221 xt b48 (((0 : Int32) + (1 : Int32)) + (1 : Int32)) jr .null .null i0 ed_159 ked_159 xs_157 xs_162 mr em (zT Z0 K221.1) E_b221 F_text_b221 Fp_b221 F_arity_b221 (Nat.le_trans Z0 sz_b221) ne_b48_b221 E_b48 Fe_b48 Fz_b48 Fd_b48 V_ed_159 E_ed_159 MIR Se OL E_xs_157 E_xs_162 ne_ed_159_b221 ne_xs_157_b221 ne_xs_162_b221) rfl rfl rfl rfl rfl rfl rfl [(.ref xt), (.ref b48), (.int jr)] [(.ref b221)] 1 (lenOf pd_57 rfl) rfl (Nat.le_of_eq rfl) (hb hby at_298) rfl (by decide)
   obtain ⟨ls_225, rfl, N225q, Kc225, po225_0, po225_1, po225_2, po225_3, po225_4, po225_5, po225_6⟩ := hQ225
   have N225 := Fr.app N223 N225q
   obtain ⟨Lf226, X225, N226⟩ := fixL X225 N225 18 106 rfl rfl
   have ne_xs_157_ls_225 := neL E_xs_157.lt po225_0
   have ne_xs_162_ls_225 := neL E_xs_162.lt po225_0
   have sfk225 := ((sfS sf_b221 sf0) : ∀ x ∈ [b221], Safe Z ELs VM171 h221 x)
   replace E_xt := E_xt.keep Kc225
   replace Fv_xt := Fv_xt.keep Kc225 (ninS ne_xt_b221 nin0)
   replace Fc_xt := Fc_xt.keep Kc225 (ninS ne_xt_b221 nin0)
   replace V_tt := V_tt.keep Kc225 (ninS ne_tt_b221 nin0)
   replace OL := OL.keep Kc225 (allS (Nat.le_trans Z0 sz_b221) all0)
   replace E_xs_157 := E_xs_157.keep Kc225
   replace Fv_xs_157 := Fv_xs_157.keep Kc225 (ninS ne_xs_157_b221 nin0)
   replace Fc_xs_157 := Fc_xs_157.keep Kc225 (ninS ne_xs_157_b221 nin0)
   replace V_ts_157 := V_ts_157.keep Kc225 (ninS ne_ts_157_b221 nin0)
   replace E_xs_162 := E_xs_162.keep Kc225
   replace Fv_xs_162 := Fv_xs_162.keep Kc225 (ninS ne_xs_162_b221 nin0)
   replace Fc_xs_162 := Fc_xs_162.keep Kc225 (ninS ne_xs_162_b221 nin0)
   replace V_ts_162 := V_ts_162.keep Kc225 (ninS ne_ts_162_b221 nin0)
   replace V_b167 := V_b167.keep Kc225 (ninS ne_b167_b221 nin0)
   replace CR : CHr Z ELs s.vm h0 VM171 T225.heap := CR.trans (CHr.keep Kc225 sfk225 CR.1)
   replace hk := Nat.le_trans hk Kc225.1
   have K225 := Kt1 K221 Kc225 (Or.inr sz_b221)
   have E_ls_225 := po225_1
   have F_e0_ls_225 := po225_2
   have F_e1_ls_225 := po225_3
   have E_b221 := po225_4
   have F_text_b221 := po225_5
   have Fp_b221 := po225_6
   obtain ⟨cq227, kq227, q227a, q227b, q227c⟩ := isOf hZ rfl E_b221
   obtain ⟨_, _, ⟨T227, L227, k227, n227⟩, -, X227, hS227, hg227, ⟨Lc227, hQ227, l227, y227, z227, cC227⟩, st227⟩ := X225.virtualBackS hx (y := mn_94) (z := mn_94) hown (mw hZ hw 96 rfl) (mw hZ hw 97 rfl) (notFace_of_selects (args := #[]) (mw hZ hw 99 rfl)) (mw hZ hw 99 rfl) (mw hZ hw 98 rfl) (by decide) (backOfSH (W := 0) (rm_sqStr2 hw hEL b221 xt tt kt ct zt vt tcs ls_225 em xs_157 ts_157 ks_157 ce_157 ze_157 wv_157 da xs_162 ts_162 ks_162 ce_162 ze_162 wv_162 db G1 Gf (zT Z0 K225.1) E_b221 F_text_b221 Fp_b221 E_xt Fv_xt Fc_xt V_tt hkt htl2 Sc hz Sa Sh Sl Sf rGf OL E_ls_225 F_e0_ls_225 F_e1_ls_225 Se ne_xs_162_em E_xs_157 Fv_xs_157 Fc_xs_157 V_ts_157 hkb_157 E_xs_162 Fv_xs_162 Fc_xs_162 V_ts_162 hkb_162 ne_xs_157_ls_225 ne_xs_162_ls_225) hZ (ww hw 100 rfl) (ww hw 56 rfl) (by decide) (by decide) hEL CR.1) q227a q227c (g := P225.g) rfl (by rw [hml]; rfl) (Steps.refl _) (argsL := []) (rest := []) (lenOf pd_47 rfl) rfl (by show 2 * 0 + _ ≤ _; exact Nat.le_of_eq rfl) (hb hby at_301) (fun _ _ => ⟨rfl, rfl, (by decide : 18 + 16 ≤ _), (by decide : 106 + 284 ≤ _)⟩)
   dsimp only [Pt.U, Pt.locs, Pt.cells, Pt.slots] at X227 l227 y227 z227 st227 hQ227 hS227 hg227 cC227
   subst l227 y227 z227
   obtain ⟨X227, hS, hZ, hown⟩ := rebS hS (hk) X227 hS227 hg227 hZ hown
   have hk : T227.heap.size ≤ T227.heap.size := Nat.le_refl _
   obtain ⟨xs_227, ts_227, ks_227, ce_227, ze_227, wv_227, rfl, N227q, Kc227, po227_0, po227_1, po227_2, po227_3, po227_4⟩ := hQ227
   have N227 := Fr.app N226 N227q
   obtain ⟨Lf228, X227, N228⟩ := fixL X227 N227 34 390 rfl rfl
   have P229 := P225.tr st227
   replace OL := OL.keep Kc227 all0
   replace V_b167 := V_b167.keep Kc227 nin0
   replace CR : CHr Z ELs s.vm h0 T227.vm T227.heap := CR.trans cC227
   have K227 := K225.trans Kc227 all0
   have E_xs_227 := po227_0
   have Fv_xs_227 := po227_1
   have Fc_xs_227 := po227_2
   have V_ts_227 := po227_3
   have hkb_227 := po227_4
   have P230 : PP p e below T227 (mkF m 306 #[iv ja, iv jb, iv js, iv jr, iv ca, iv cb, iv da, iv db, iv tl, iv 2, rv xt, rv b48, rv b167, iv (Int32.ofNat (tcs ++ [(32 : Int32), 91, da, 44, 32, db, 93]).length), rv xs_227] []) s0 := fun q_ k_ => P229 q_ (by
    exact bt X227 hx hby b346_ rfl k_)
   exact ⟨T227, T227.vm, T227.heap, _, _, xs_227, ts_227, ks_227, ce_227, ze_227, wv_227, (tcs ++ [(32 : Int32), 91, da, 44, 32, db, 93]), b167, k167, X227.more (by decide) (by decide), rfl, hS, hk, hZ, hown, CR, N228, K227, E_xs_227, Fv_xs_227, Fc_xs_227, V_ts_227, V_b167, hkb_227, (Nat.le_trans (own_lA 7 htl2 (Nat.le_of_ble_eq_true rfl)) (by decide)), OL, P230⟩
 have P231 : PP p e below T55 (mkF m 308 #[iv ja, iv jb, iv js, iv jr, iv ca, iv cb, iv da, iv db, iv tl, iv nn, rv xt, rv b48, rv ea, iv (Int32.ofNat ds.length), rv xs] [(.ref xs)]) s0 := fun q_ k_ => P55 q_ (by
  exact bt X55 hx hby b361_ rfl k_)
 obtain ⟨_, T232, L232, X232, hQ232, P232⟩ := cVi P231 X55 hx hZ hown hw e55 E_xs hml 270 132 131 133 2 (rm_sLen hw xs ts ks ce ze wv ds G1 Gf (zT Z0 K55.1) E_xs Fv_xs Fc_xs V_ts hkb Sc hz Sa Sh Sl Sf rGf OL (by omega)) rfl rfl rfl rfl rfl rfl rfl [] [] 0 (lenOf pd_27 rfl) rfl (Nat.le_of_eq rfl) (hb hby at_308) rfl (by decide)
 obtain ⟨rfl, N232q, e232⟩ := hQ232
 have N232 := Fr.app N55 N232q
 have P233 : PP p e below T232 (mkF m 325 #[iv ja, iv jb, iv js, iv jr, iv ca, iv cb, iv da, iv db, iv tl, iv nn, rv xt, rv b48, rv ea, iv (Int32.ofNat ds.length), rv xs] [(.int (Int32.ofNat ds.length)), i0, (.ref ea), (.ref xs)]) s0 := fun q_ k_ => P232 q_ (by
  refine bt X232 hx hby b362_ rfl ?_
  refine XS.icmpYes X232.here hx rfl (pc0 := 313) (pc' := 318) rfl (hb hby at_313) rfl (teq (rfl : (Int32.ofNat ds.length) = (Int32.ofNat ds.length))).1 (by decide) (by decide) ?_
  exact bt X232 hx hby b363_ rfl k_)
 obtain ⟨_, T234, L234, X234, hQ234, P234⟩ := cSt P233 X232 hx hZ hown hw e232 hml 271 272 273 274 (rm_atF hw xs ts ks ce ze wv ds ea kea 0 G1 Gf (zT Z0 K55.1) E_xs Fv_xs Fc_xs V_ts hkb V_ea Sc hz Sa Sh Sl Sf rGf OL hdl9 (by decide)) rfl rfl rfl rfl rfl rfl [(.ref xs), (.ref ea), i0, (.int (Int32.ofNat ds.length))] [] 0 (lenOf pd_59 rfl) rfl (Nat.le_of_eq rfl) (hb hby at_325) rfl (by decide)
 obtain ⟨rfl, N234q, e234⟩ := hQ234
 have N234 := Fr.app N232 N234q
 have P235 : PP p e below T234 (mkF m 338 #[iv ja, iv jb, iv js, iv jr, iv ca, iv cb, iv da, iv db, iv tl, iv nn, rv xt, rv b48, rv ea, iv (Int32.ofNat ds.length), rv xs] [(.int (Int32.ofNat ds.length)), (.int 1), (.ref ea), (.ref xs)]) s0 := fun q_ k_ => P234 q_ (by
  refine XS.ifNo X234.here hx rfl (hb hby at_328) rfl ((if0 _ _).trans (feq ((by decide) : ¬ ((1 : Int32) = (0 : Int32)))).1) ?_
  exact bt X234 hx hby b364_ rfl k_)
 obtain ⟨_, T236, L236, X236, hQ236, P236⟩ := cSt P235 X234 hx hZ hown hw e234 hml 271 272 273 274 (rm_atF hw xs ts ks ce ze wv ds ea kea 1 G1 Gf (zT Z0 K55.1) E_xs Fv_xs Fc_xs V_ts hkb V_ea Sc hz Sa Sh Sl Sf rGf OL hdl9 (by decide)) rfl rfl rfl rfl rfl rfl [(.ref xs), (.ref ea), (.int 1), (.int (Int32.ofNat ds.length))] [] 0 (lenOf pd_59 rfl) rfl (Nat.le_of_eq rfl) (hb hby at_338) rfl (by decide)
 obtain ⟨rfl, N236q, e236⟩ := hQ236
 have N236 := Fr.app N234 N236q
 have P237 : PP p e below T236 (mkF m 351 #[iv ja, iv jb, iv js, iv jr, iv ca, iv cb, iv da, iv db, iv tl, iv nn, rv xt, rv b48, rv ea, iv (Int32.ofNat ds.length), rv xs] [(.int (Int32.ofNat ds.length)), (.int 2), (.ref ea), (.ref xs)]) s0 := fun q_ k_ => P236 q_ (by
  refine XS.ifNo X236.here hx rfl (hb hby at_341) rfl ((if0 _ _).trans (feq ((by decide) : ¬ ((1 : Int32) = (0 : Int32)))).1) ?_
  exact bt X236 hx hby b365_ rfl k_)
 obtain ⟨_, T238, L238, X238, hQ238, P238⟩ := cSt P237 X236 hx hZ hown hw e236 hml 271 272 273 274 (rm_atF hw xs ts ks ce ze wv ds ea kea 2 G1 Gf (zT Z0 K55.1) E_xs Fv_xs Fc_xs V_ts hkb V_ea Sc hz Sa Sh Sl Sf rGf OL hdl9 (by decide)) rfl rfl rfl rfl rfl rfl [(.ref xs), (.ref ea), (.int 2), (.int (Int32.ofNat ds.length))] [] 0 (lenOf pd_59 rfl) rfl (Nat.le_of_eq rfl) (hb hby at_351) rfl (by decide)
 obtain ⟨rfl, N238q, e238⟩ := hQ238
 have N238 := Fr.app N236 N238q
 have P239 : PP p e below T238 (mkF m 364 #[iv ja, iv jb, iv js, iv jr, iv ca, iv cb, iv da, iv db, iv tl, iv nn, rv xt, rv b48, rv ea, iv (Int32.ofNat ds.length), rv xs] [(.int (Int32.ofNat ds.length)), (.int 3), (.ref ea), (.ref xs)]) s0 := fun q_ k_ => P238 q_ (by
  refine XS.ifNo X238.here hx rfl (hb hby at_354) rfl ((if0 _ _).trans (feq ((by decide) : ¬ ((1 : Int32) = (0 : Int32)))).1) ?_
  exact bt X238 hx hby b366_ rfl k_)
 obtain ⟨_, T240, L240, X240, hQ240, P240⟩ := cSt P239 X238 hx hZ hown hw e238 hml 271 272 273 274 (rm_atF hw xs ts ks ce ze wv ds ea kea 3 G1 Gf (zT Z0 K55.1) E_xs Fv_xs Fc_xs V_ts hkb V_ea Sc hz Sa Sh Sl Sf rGf OL hdl9 (by decide)) rfl rfl rfl rfl rfl rfl [(.ref xs), (.ref ea), (.int 3), (.int (Int32.ofNat ds.length))] [] 0 (lenOf pd_59 rfl) rfl (Nat.le_of_eq rfl) (hb hby at_364) rfl (by decide)
 obtain ⟨rfl, N240q, e240⟩ := hQ240
 have N240 := Fr.app N238 N240q
 have P241 : PP p e below T240 (mkF m 377 #[iv ja, iv jb, iv js, iv jr, iv ca, iv cb, iv da, iv db, iv tl, iv nn, rv xt, rv b48, rv ea, iv (Int32.ofNat ds.length), rv xs] [(.int (Int32.ofNat ds.length)), (.int 4), (.ref ea), (.ref xs)]) s0 := fun q_ k_ => P240 q_ (by
  refine XS.ifNo X240.here hx rfl (hb hby at_367) rfl ((if0 _ _).trans (feq ((by decide) : ¬ ((1 : Int32) = (0 : Int32)))).1) ?_
  exact bt X240 hx hby b367_ rfl k_)
 obtain ⟨_, T242, L242, X242, hQ242, P242⟩ := cSt P241 X240 hx hZ hown hw e240 hml 271 272 273 274 (rm_atF hw xs ts ks ce ze wv ds ea kea 4 G1 Gf (zT Z0 K55.1) E_xs Fv_xs Fc_xs V_ts hkb V_ea Sc hz Sa Sh Sl Sf rGf OL hdl9 (by decide)) rfl rfl rfl rfl rfl rfl [(.ref xs), (.ref ea), (.int 4), (.int (Int32.ofNat ds.length))] [] 0 (lenOf pd_59 rfl) rfl (Nat.le_of_eq rfl) (hb hby at_377) rfl (by decide)
 obtain ⟨rfl, N242q, e242⟩ := hQ242
 have N242 := Fr.app N240 N242q
 have P243 : PP p e below T242 (mkF m 390 #[iv ja, iv jb, iv js, iv jr, iv ca, iv cb, iv da, iv db, iv tl, iv nn, rv xt, rv b48, rv ea, iv (Int32.ofNat ds.length), rv xs] [(.int (Int32.ofNat ds.length)), (.int 5), (.ref ea), (.ref xs)]) s0 := fun q_ k_ => P242 q_ (by
  refine XS.ifNo X242.here hx rfl (hb hby at_380) rfl ((if0 _ _).trans (feq ((by decide) : ¬ ((1 : Int32) = (0 : Int32)))).1) ?_
  exact bt X242 hx hby b368_ rfl k_)
 obtain ⟨_, T244, L244, X244, hQ244, P244⟩ := cSt P243 X242 hx hZ hown hw e242 hml 271 272 273 274 (rm_atF hw xs ts ks ce ze wv ds ea kea 5 G1 Gf (zT Z0 K55.1) E_xs Fv_xs Fc_xs V_ts hkb V_ea Sc hz Sa Sh Sl Sf rGf OL hdl9 (by decide)) rfl rfl rfl rfl rfl rfl [(.ref xs), (.ref ea), (.int 5), (.int (Int32.ofNat ds.length))] [] 0 (lenOf pd_59 rfl) rfl (Nat.le_of_eq rfl) (hb hby at_390) rfl (by decide)
 obtain ⟨rfl, N244q, e244⟩ := hQ244
 have N244 := Fr.app N242 N244q
 have P245 : PP p e below T244 (mkF m 404 #[iv ja, iv jb, iv js, iv jr, iv ca, iv cb, iv da, iv db, iv tl, iv nn, rv xt, rv b48, rv ea, iv (Int32.ofNat ds.length), rv xs] [(.int (Int32.ofNat ds.length)), (.int 6), (.ref ea), (.ref xs)]) s0 := fun q_ k_ => P244 q_ (by
  refine XS.ifNo X244.here hx rfl (hb hby at_393) rfl ((if0 _ _).trans (feq ((by decide) : ¬ ((1 : Int32) = (0 : Int32)))).1) ?_
  exact bt X244 hx hby b369_ rfl k_)
 obtain ⟨_, T246, L246, X246, hQ246, P246⟩ := cSt P245 X244 hx hZ hown hw e244 hml 271 272 273 274 (rm_atF hw xs ts ks ce ze wv ds ea kea 6 G1 Gf (zT Z0 K55.1) E_xs Fv_xs Fc_xs V_ts hkb V_ea Sc hz Sa Sh Sl Sf rGf OL hdl9 (by decide)) rfl rfl rfl rfl rfl rfl [(.ref xs), (.ref ea), (.int 6), (.int (Int32.ofNat ds.length))] [] 0 (lenOf pd_59 rfl) rfl (Nat.le_of_eq rfl) (hb hby at_404) rfl (by decide)
 obtain ⟨rfl, N246q, e246⟩ := hQ246
 have N246 := Fr.app N244 N246q
 have P247 : PP p e below T246 (mkF m 418 #[iv ja, iv jb, iv js, iv jr, iv ca, iv cb, iv da, iv db, iv tl, iv nn, rv xt, rv b48, rv ea, iv (Int32.ofNat ds.length), rv xs] [(.int (Int32.ofNat ds.length)), (.int 7), (.ref ea), (.ref xs)]) s0 := fun q_ k_ => P246 q_ (by
  refine XS.ifNo X246.here hx rfl (hb hby at_407) rfl ((if0 _ _).trans (feq ((by decide) : ¬ ((1 : Int32) = (0 : Int32)))).1) ?_
  exact bt X246 hx hby b370_ rfl k_)
 obtain ⟨_, T248, L248, X248, hQ248, P248⟩ := cSt P247 X246 hx hZ hown hw e246 hml 271 272 273 274 (rm_atF hw xs ts ks ce ze wv ds ea kea 7 G1 Gf (zT Z0 K55.1) E_xs Fv_xs Fc_xs V_ts hkb V_ea Sc hz Sa Sh Sl Sf rGf OL hdl9 (by decide)) rfl rfl rfl rfl rfl rfl [(.ref xs), (.ref ea), (.int 7), (.int (Int32.ofNat ds.length))] [] 0 (lenOf pd_59 rfl) rfl (Nat.le_of_eq rfl) (hb hby at_418) rfl (by decide)
 obtain ⟨rfl, N248q, e248⟩ := hQ248
 have N248 := Fr.app N246 N248q
 have P249 : PP p e below T248 (mkF m 432 #[iv ja, iv jb, iv js, iv jr, iv ca, iv cb, iv da, iv db, iv tl, iv nn, rv xt, rv b48, rv ea, iv (Int32.ofNat ds.length), rv xs] [(.int (Int32.ofNat ds.length)), (.int 8), (.ref ea), (.ref xs)]) s0 := fun q_ k_ => P248 q_ (by
  refine XS.ifNo X248.here hx rfl (hb hby at_421) rfl ((if0 _ _).trans (feq ((by decide) : ¬ ((1 : Int32) = (0 : Int32)))).1) ?_
  exact bt X248 hx hby b371_ rfl k_)
 obtain ⟨_, T250, L250, X250, hQ250, P250⟩ := cSt P249 X248 hx hZ hown hw e248 hml 271 272 273 274 (rm_atF hw xs ts ks ce ze wv ds ea kea 8 G1 Gf (zT Z0 K55.1) E_xs Fv_xs Fc_xs V_ts hkb V_ea Sc hz Sa Sh Sl Sf rGf OL hdl9 (by decide)) rfl rfl rfl rfl rfl rfl [(.ref xs), (.ref ea), (.int 8), (.int (Int32.ofNat ds.length))] [] 0 (lenOf pd_59 rfl) rfl (Nat.le_of_eq rfl) (hb hby at_432) rfl (by decide)
 obtain ⟨rfl, N250q, e250⟩ := hQ250
 have N250 := Fr.app N248 N250q
 have P251 : PP p e below T250 (mkF m 446 #[iv ja, iv jb, iv js, iv jr, iv ca, iv cb, iv da, iv db, iv tl, iv nn, rv xt, rv b48, rv ea, iv (Int32.ofNat ds.length), rv xs] [(.int (Int32.ofNat ds.length)), (.int 9), (.ref ea), (.ref xs)]) s0 := fun q_ k_ => P250 q_ (by
  refine XS.ifNo X250.here hx rfl (hb hby at_435) rfl ((if0 _ _).trans (feq ((by decide) : ¬ ((1 : Int32) = (0 : Int32)))).1) ?_
  exact bt X250 hx hby b372_ rfl k_)
 obtain ⟨_, T252, L252, X252, hQ252, P252⟩ := cSt P251 X250 hx hZ hown hw e250 hml 271 272 273 274 (rm_atF hw xs ts ks ce ze wv ds ea kea 9 G1 Gf (zT Z0 K55.1) E_xs Fv_xs Fc_xs V_ts hkb V_ea Sc hz Sa Sh Sl Sf rGf OL hdl9 (by decide)) rfl rfl rfl rfl rfl rfl [(.ref xs), (.ref ea), (.int 9), (.int (Int32.ofNat ds.length))] [] 0 (lenOf pd_59 rfl) rfl (Nat.le_of_eq rfl) (hb hby at_446) rfl (by decide)
 obtain ⟨rfl, N252q, e252⟩ := hQ252
 have N252 := Fr.app N250 N252q
 have P253 : PP p e below T252 (mkF m 457 #[iv ja, iv jb, iv js, iv jr, iv ca, iv cb, iv da, iv db, iv tl, iv nn, rv xt, rv b48, rv ea, iv (Int32.ofNat ds.length), rv xs] [(.int 1)]) s0 := fun q_ k_ => P252 q_ (by
  refine XS.ifNo X252.here hx rfl (hb hby at_449) rfl ((if0 _ _).trans (feq ((by decide) : ¬ ((1 : Int32) = (0 : Int32)))).1) ?_
  exact bt X252 hx hby b373_ rfl k_)
 subst hs0
 obtain ⟨fs_, hr, hrun, hended, hREW⟩ := X252.leaveW hS (by rw [e252]; exact hk) (v := some (.int (nar .boolean (1 : Int32)))) (fun h => by rw [Bd.returns] at h; cases h)
 have CRT := CR.trans (CHv.at X252 hZ hEL CR.1)
 refine ⟨_, _, P253 _ ?_, hrun, hended, _, _, rfl, ?_, ?_, hREW.1, hREW.2.1, hREW.2.2.1, hREW.2.2.2.mono (by decide) (by decide)⟩
 ·
   exact retN X252 hx (t := .boolean) Bd.returns (by simp) (hb hby at_457) hr
 · show Q_law Z ja jb js jr G1 Gf de kde el ee kee em mr h0 n0 _ T252.heap _
   rw [e252]
   exact ⟨rfl, N252, K55⟩
 · show CHr Z ELs s.vm s.heap T252.vm T252.heap
   rw [hh, e252]
   exact CRT
theorem own_arr0 {s : State} {args : Array Value} {t : Term} {x : Addr} {ty : FieldType} (et : t.eval args s none [] s = some (.ref x)) (hA : (Cond.arrayOf t ty).before args s = true) (hL : (Cond.eq (Term.length t) (Term.int (0 : Int32))).before args s = true) : ∃ k, Arv s s.heap x k ty (0 : Int32) [] .null := by
  obtain ⟨c, A⟩ := Arr.start et (Cond.before_iff.mp hA)
  have eL : (Term.length t).eval args s none [] s = some i0 := Cond.eq_int hL rfl
  obtain ⟨y, cl, q1, q2, q3⟩ := Term.length_spec eL
  cases et.symm.trans q1
  obtain ⟨u1, u2, u3, -⟩ := State.arrayAt?_spec q2
  cases A.1.symm.trans u1
  have hsz : c.slots.size < 2 ^ 31 := by
    by_cases y : c.slots.size < 2 ^ 31
    · exact y
    · simp [Term.eval, et, q2, y] at eL
  have e0 : c.slots.size.toInt32 = (0 : Int32) := (Value.int.inj q3).symm
  have S : c.slots.size = 0 := by
    have := len_toInt hsz
    rw [e0] at this
    have e : (0 : Int32).toInt = 0 := rfl
    omega
  exact ⟨c.cls, c, A, rfl, by rw [S]; rfl, by decide, fun j hj => absurd hj (by omega), fun j hj => absurd hj (by omega)⟩
set_option maxRecDepth 65536 in
set_option maxHeartbeats 40000000 in
theorem comes_1 {Post : Tables → Env → Array Value → State → Outcome → State → Prop} (hpost : ∀ tb e args s v u, (limb_1_1.after args s (.returned v) u = true ∧ limb_1_2.after args s (.returned v) u = true ∧ True) → FramedW s (.returned v) u (Jvm.fieldLocs frame_1_writes args s ++ Jvm.arrayLocs frame_1_arrays args s ++ Jvm.staticLocs frame_1_statics s) 64 3584 → Post tb e args s (.returned v) u) :
    ArmFor flags0 classFile x code maxLocals ret World_1 tables_1 room_1 Calls_1 rest_1 Pre_1 Post := by
  intro l hfl _ _ p e ha hc hk s m args below hf hA hF happ hP
  obtain ⟨hcalls, hrest, hpre⟩ := hP
  obtain ⟨-, -, -, hnamed, -, -, -, hat⟩ := (Spec.applies_iff hf).mp happ
  obtain ⟨hg, hn⟩ := and_e (Cond.before_iff.mp (show (Jvm.Cond.and given_1 narrow_1).before args s = true from hpre))
  obtain ⟨h1, h2⟩ := and_e hg
  obtain ⟨ga, h2⟩ := and_e h2
  obtain ⟨gb, h2⟩ := and_e h2
  obtain ⟨gc, gd⟩ := and_e h2
  obtain ⟨w0, w1, w2, w3, rfl⟩ : ∃ w0 w1 w2 w3 : Value, args = #[w0, w1, w2, w3] := by
    have hs : args.size = 4 := by simpa [Cond.value, given_1] using h1
    obtain ⟨L⟩ := args
    match L, hs with
    | [w0, w1, w2, w3], _ => exact ⟨w0, w1, w2, w3, rfl⟩
  have hw := fun d (hd : d ∈ tables_1) => atoms_spec (ws := Jvm.Cond.code x code maxLocals ret :: tables_1) hat d (List.mem_cons_of_mem _ hd)
  obtain ⟨hsets, hown0⟩ := atoms_of _ (rest_1_c_eq ▸ (show rest_1_c.before _ s = true from hrest))
  have gs := fun i {d} (q : jdkStatics_1[i]? = some d) => hsets d (List.mem_of_getElem? q)
  obtain ⟨j0_, e0⟩ := is_v ga
  obtain rfl : w0 = (.int j0_) := Option.some.inj e0
  obtain ⟨j1_, e1⟩ := is_v gb
  obtain rfl : w1 = (.int j1_) := Option.some.inj e1
  obtain ⟨j2_, e2⟩ := is_v gc
  obtain rfl : w2 = (.int j2_) := Option.some.inj e2
  obtain ⟨j3_, e3⟩ := is_v gd
  obtain rfl : w3 = (.int j3_) := Option.some.inj e3
  have n5 := not_v (Cond.before_iff.mp (gs 2 rfl))
  obtain ⟨iG, eG⟩ := is_v (Cond.before_iff.mp (gs 1 rfl))
  have SG : Sta s s.heap cS "COMPACT_STRINGS" "Z" (.int iG) := Sta.start eG (Or.inl (gs 0 rfl))
  have cG : ¬ (iG = (0 : Int32)) := gotF (Cond.eq_ints eG (Term.int_eval (0))) n5
  obtain ⟨vF, eF, rF⟩ := isR_v (Cond.before_iff.mp (gs 8 rfl))
  have SF : Sta s s.heap "jdk/internal/util/Preconditions" "SIOOBE_FORMATTER" "Ljava/util/function/BiFunction;" vF := Sta.start eF (Or.inl (gs 7 rfl))
  have SA : Sta s s.heap "java/lang/StringUTF16" "$assertionsDisabled" "Z" (.int 1) := Sta.start (Cond.eq_int (gs 37 rfl) rfl) (Or.inl (gs 36 rfl))
  have SH : Sta s s.heap "java/lang/StringUTF16" "HI_BYTE_SHIFT" "I" i0 := Sta.start (Cond.eq_int (gs 40 rfl) rfl) (Or.inl (gs 39 rfl))
  have SL : Sta s s.heap "java/lang/StringUTF16" "LO_BYTE_SHIFT" "I" (.int 8) := Sta.start (Cond.eq_int (gs 43 rfl) rfl) (Or.inl (gs 42 rfl))
  obtain ⟨de, eDE⟩ := arr_v (Cond.before_iff.mp (gs 15 rfl))
  have SD : Sta s s.heap cAL "DEFAULTCAPACITY_EMPTY_ELEMENTDATA" dOA (.ref de) := Sta.start eDE (Or.inr ⟨ww hw 32 rfl, gs 11 rfl⟩)
  obtain ⟨kde, VDE⟩ := own_arr0 eDE (gs 15 rfl) (gs 17 rfl)
  have hEL0 := Cond.before_iff.mp (gs 20 rfl)
  obtain ⟨el, eEL⟩ := exa_v hEL0
  have XEL := Exa.start eEL hEL0
  have SEL : Sta s s.heap cIC "EMPTY_LIST" "Ljava/util/ImmutableCollections$ListN;" (.ref el) := Sta.start eEL (Or.inl (gs 19 rfl))
  obtain ⟨ee, eEE⟩ := arr_v (Cond.before_iff.mp (gs 21 rfl))
  have FEL : Fld s s.heap el cLN "elements" dOA (.ref ee) := Fld.start ((fld_at eEL).symm.trans eEE)
  obtain ⟨kee, VEE⟩ := own_arr0 eEE (gs 21 rfl) (gs 23 rfl)
  have hEM := Cond.before_iff.mp (gs 27 rfl)
  obtain ⟨em, eEM⟩ := exa_v hEM
  have XEM := Exa.start eEM hEM
  have SEM : Sta s s.heap cIC "EMPTY" dO (.ref em) := Sta.start eEM (Or.inl (gs 26 rfl))
  obtain ⟨cm, km, mr, m1, m2, m3, -⟩ := hcalls.1
  have MIR : MirW s dOA mr := ⟨cm, km, m1, m2, m3⟩
  have hEL : EW s #[.int j0_, .int j1_, .int j2_, .int j3_] ELs := EW.cons (ww hw 166 rfl) (by decide) (EW.cons (ww hw 297 rfl) (by decide) (EW.cons (ww hw 223 rfl) (by decide) EW.nil))
  have hch : ∀ p ∈ ELs, Jvm.Lit.constHeld s p.1 p.2 := by
    intro p hp
    simp only [ELs, List.mem_cons, List.not_mem_nil, or_false] at hp
    rcases hp with rfl | rfl | rfl
    · exact hcalls.2.1 _ (List.mem_of_getElem? (i := 0) rfl)
    · exact hcalls.2.1 _ (List.mem_of_getElem? (i := 1) rfl)
    · exact hcalls.2.1 _ (List.mem_of_getElem? (i := 2) rfl)
  have H0 : CHv s ELs s.vm s.heap := CHv.start hEL hch (gs 2 rfl) (ww hw 19 rfl) (ww hw 1 rfl)
  obtain ⟨n, o, h1, h2, h3, _, L, rfl, ⟨rfl, N, -⟩, -, hq⟩ := rm_law (l := l) (ws := tables_1) (h0 := s.heap) (n0 := s.heap.size) hw hEL j0_ j1_ j2_ j3_ iG vF de kde el ee kee em mr (Nat.le_refl _) SG cG SA SH SL SF rF (Old.start s) SD VDE SEL XEL FEL VEE SEM XEM MIR p e ha hc hk s m _ below hf ((Spec.applies_iff_loose hf).mp happ).1 ⟨rfl, State.Warmed39.refl s, rfl, H0⟩ trivial
  exact ⟨n, _, h1, h2, h3, hpost _ _ _ _ _ _ ⟨Cond.after_iff.mpr rfl, Cond.after_iff.mpr (eq_i res_at (Term.int_eval (1)) rfl), trivial⟩ ⟨hq.1, hq.2.1, hq.2.2.1, (hq.2.2.2.sift fun y hy => Or.inr (N y hy)).mono (by decide) (by decide)⟩⟩
theorem main_1_1 : Claimed_1_1 := comes_1 fun _ _ _ _ _ _ h hF => ⟨h.1, hF⟩
theorem main_1_2 : Claimed_1_2 := comes_1 fun _ _ _ _ _ _ h hF => ⟨h.2.1, hF⟩
end Jvm.Pilot.@@N@@
namespace Jvm.Pilot.@@N@@
open Jvm Jvm.ClassFile Sem Op Lib Jvm.Free Jvm.Stand Jvm.Pilot.@@N@@.Jvm.D
/-! MADE BY PROGRAM (witnessworld.py) out of the Statement's table words and the real class files: 45 classes; the members and pool entries that the words name. The judged class is class 1, her method 2. -/
namespace start1
open Jvm.ClassFile
abbrev mI (a n d : Nat) : MethodInfo := { accessFlags := a, nameIndex := n, descriptorIndex := d, attributes := #[] }
abbrev fI (a n d : Nat) : FieldInfo := { accessFlags := a, nameIndex := n, descriptorIndex := d, attributes := #[] }
abbrev cC (n : Nat) (b : ByteArray) : Code := { maxStack := 0, maxLocals := n, code := b, exceptionTable := #[], attributes := #[] }
abbrev mM (n d : String) (ps : List FieldType) (r : Option FieldType) (a : Nat) (c : Option Code) : Method := { name := n, desc := d, sig := { parameters := ps, returnType := r }, accessFlags := a, code := c }
abbrev fD (n : String) (t : FieldType) (a s : Nat) : Field := { name := n, type := t, accessFlags := a, slot := s, constantValue := 0 }
def u (s : String) : CpInfo := .utf8 (stringToUtf16 s)
/-- a pool by its gaps: so many unusable entries, then the entry; so many at the end -/
def gap : Nat → List CpInfo → List CpInfo
  | 0, r => r
  | n + 1, r => .unusable :: gap n r
def poolList (es : List (Nat × CpInfo)) (last : Nat) : List CpInfo := es.foldr (fun e r => gap e.1 (e.2 :: r)) (gap last [])
def pool (es : List (Nat × CpInfo)) (last : Nat) : Array CpInfo := ⟨poolList es last⟩
def fileOf (pool : Array CpInfo) (this : Nat) (attrs : Array Attribute := #[]) (ms : Array MethodInfo := #[]) (fl : Nat := 33) (sup : Nat := 0) (ifs : Array Nat := #[]) (fds : Array FieldInfo := #[]) : ClassFile where
  minorVersion := 0
  majorVersion := 65
  constantPool := pool
  accessFlags := fl
  thisClass := this
  superClass := sup
  interfaces := ifs
  fields := fds
  methods := ms
  attributes := attrs
def plain (name : String) (sup : Option ClassId) : Class where
  name := name
  kind := .ordinary
  loader := none
  accessFlags := 33
  super := sup
  interfaces := #[]
  cf := none
  fields := #[]
  methods := #[]
  instanceTypes := #[]
  staticTypes := #[]
  resolved := #[]
  callSites := []
  init := .initialized
  statics := none
  mirror := none

abbrev q (s : String) : Nat × CpInfo := (0, u s)
abbrev c_ (a : Nat) : Nat × CpInfo := (0, .class_ a)
abbrev n_ (a b : Nat) : Nat × CpInfo := (0, .nameAndType a b)
abbrev m_ (a b : Nat) : Nat × CpInfo := (0, .methodref a b)
abbrev f_ (a b : Nat) : Nat × CpInfo := (0, .fieldref a b)
abbrev cK (s n : Nat) (b : ByteArray) : Code := { maxStack := s, maxLocals := n, code := b, exceptionTable := #[], attributes := #[] }
def pool0 : Array CpInfo := pool [(5, u "<init>"), q "()V", (1, .class_ 10), (1, u "java/lang/Object"), q "getClass", q "()Ljava/lang/Class;", (5, u "()Ljava/lang/String;"), (18, u "toString")] 86

def k0c0 : Code := cC 1 object_method_1_code
def k0m0 : Method := mM "<init>" "()V" [] none 1 (some k0c0)
def k0m1 : Method := mM "getClass" "()Ljava/lang/Class;" [] (some (.object "java/lang/Class")) 273 none
def k0c2 : Code := { maxStack := 2, maxLocals := 1, code := ⟨#[0xbb, 0x00, 0x01, 0x59, 0xb7, 0x00, 0x03, 0x2a, 0xb6, 0x00, 0x07, 0xb6, 0x00, 0x0d, 0xb6, 0x00, 0x13, 0x12, 0x17, 0xb6, 0x00, 0x13, 0x2a, 0xb6, 0x00, 0x19, 0xb8, 0x00, 0x1d, 0xb6, 0x00, 0x13, 0xb6, 0x00, 0x23, 0xb0]⟩, exceptionTable := #[], attributes := #[] }
def k0m2 : Method := mM "toString" "()Ljava/lang/String;" [] (some (.object "java/lang/String")) 1 (some k0c2)
/-- java/lang/Object -/
def k0 : Class := { plain "java/lang/Object" none with
  accessFlags := 33
  interfaces := #[]
  cf := some (fileOf pool0 8 #[] #[(mI 1 5 6), (mI 273 11 12), (mI 1 37 18)] 33 0 #[] #[])
  fields := #[]
  methods := #[k0m0, k0m1, k0m2]
  instanceTypes := #[]
  staticTypes := #[]
  resolved := Array.replicate 124 none
  statics := none }

def pool1 : Array CpInfo := pool [(2, .class_ 4), n_ 5 6, q "java/lang/Object", q "<init>", q "()V", m_ 8 9, c_ 10, n_ 11 12, q "java/lang/String", q "charAt", q "(I)C", m_ 8 14, n_ 5 15, q "([C)V", m_ 8 17, n_ 18 19, q "valueOf", q "(C)Ljava/lang/String;", c_ 21, q "java/util/ArrayList", m_ 20 3, m_ 20 24, n_ 25 26, q "add", q "(Ljava/lang/Object;)Z", c_ 28, q "com/example/kvasir/kvasir/sql/SqlQuery", m_ 27 30, n_ 5 31, q "(Ljava/lang/String;Ljava/util/List;I)V", m_ 27 33, n_ 34 35, q "toString", q "()Ljava/lang/String;", m_ 8 37, n_ 38 39, q "length", q "()I", m_ 41 42, c_ 43, n_ 44 45, q "com/example/kvasir/kvasir/sql/SqlQueryToStringPinLaw", q "at", q "(Ljava/lang/String;[CII)Z", (3, u "law"), q "(IIII)Z"] 4

def k1m0 : Method := mM "<init>" "()V" [] none 1 none
def k1c1 : Code := cK 3 4 method_2_code
def k1m1 : Method := mM "at" "(Ljava/lang/String;[CII)Z" [(.object "java/lang/String"), (.array .char), .int, .int] (some .boolean) 10 (some k1c1)
def k1c2 : Code := cK 6 15 code
def k1m2 : Method := mM "law" "(IIII)Z" [.int, .int, .int, .int] (some .boolean) 9 (some k1c2)
/-- com/example/kvasir/kvasir/sql/SqlQueryToStringPinLaw -/
def k1 : Class := { plain "com/example/kvasir/kvasir/sql/SqlQueryToStringPinLaw" (some 0) with
  accessFlags := 49
  interfaces := #[]
  cf := some (fileOf pool1 41 #[] #[(mI 1 5 6), (mI 10 44 45), (mI 9 49 50)] 49 2 #[] #[])
  fields := #[]
  methods := #[k1m0, k1m1, k1m2]
  instanceTypes := #[]
  staticTypes := #[]
  resolved := Array.replicate 55 none
  statics := none }

def pool2 : Array CpInfo := pool [(1, .class_ 2), q "java/io/Serializable", c_ 4, q "java/lang/Object"] 2

/-- java/io/Serializable -/
def k2 : Class := { plain "java/io/Serializable" (some 0) with
  accessFlags := 1537
  interfaces := #[]
  cf := some (fileOf pool2 1 #[] #[] 1537 3 #[] #[])
  fields := #[]
  methods := #[]
  instanceTypes := #[]
  staticTypes := #[]
  resolved := Array.replicate 7 none
  statics := none }

def pool3 : Array CpInfo := pool [(1, .class_ 2), q "java/lang/Comparable", c_ 4, q "java/lang/Object"] 7

/-- java/lang/Comparable -/
def k3 : Class := { plain "java/lang/Comparable" (some 0) with
  accessFlags := 1537
  interfaces := #[]
  cf := some (fileOf pool3 1 #[] #[] 1537 3 #[] #[])
  fields := #[]
  methods := #[]
  instanceTypes := #[]
  staticTypes := #[]
  resolved := Array.replicate 12 none
  statics := none }

def pool4 : Array CpInfo := pool [(2, .class_ 4), (1, u "java/lang/CharSequence"), (42, .class_ 48), q "java/lang/CharSequence$1CodePointIterator", (10, .class_ 60), q "java/lang/CharSequence$1CharIterator", (5, .class_ 67), q "java/lang/Object"] 63

/-- java/lang/CharSequence -/
def k4 : Class := { plain "java/lang/CharSequence" (some 0) with
  accessFlags := 1537
  interfaces := #[]
  cf := some (fileOf pool4 2 #[.nestMembers #[47, 59]] #[] 1537 66 #[] #[])
  fields := #[]
  methods := #[]
  instanceTypes := #[]
  staticTypes := #[]
  resolved := Array.replicate 131 none
  statics := none }

def pool5 : Array CpInfo := pool [(1, .class_ 2), q "java/lang/constant/Constable", c_ 4, q "java/lang/Object"] 6

/-- java/lang/constant/Constable -/
def k5 : Class := { plain "java/lang/constant/Constable" (some 0) with
  accessFlags := 1537
  interfaces := #[]
  cf := some (fileOf pool5 1 #[] #[] 1537 3 #[] #[])
  fields := #[]
  methods := #[]
  instanceTypes := #[]
  staticTypes := #[]
  resolved := Array.replicate 11 none
  statics := none }

def pool6 : Array CpInfo := pool [(1, .class_ 2), q "java/lang/constant/ConstantDesc", c_ 4, q "java/lang/Object"] 32

/-- java/lang/constant/ConstantDesc -/
def k6 : Class := { plain "java/lang/constant/ConstantDesc" (some 0) with
  accessFlags := 1537
  interfaces := #[]
  cf := some (fileOf pool6 1 #[] #[] 1537 3 #[] #[])
  fields := #[]
  methods := #[]
  instanceTypes := #[]
  staticTypes := #[]
  resolved := Array.replicate 37 none
  statics := none }

def pool7 : Array CpInfo := pool [(1, .methodref 2 3), c_ 4, n_ 5 6, q "java/lang/Object", q "<init>", q "()V", (0, .string 8), q "", f_ 10 11, c_ 12, n_ 13 14, q "java/lang/String", q "value", q "[B", f_ 10 16, n_ 17 18, q "coder", q "B", (2, u "hash"), q "I", (2, u "hashIsZero"), q "Z", m_ 10 28, n_ 5 29, q "([CIILjava/lang/Void;)V", (6, u "checkBoundsOffCount"), q "(III)I", f_ 10 39, n_ 40 26, q "COMPACT_STRINGS", (1, .class_ 44), (1, u "java/lang/StringUTF16"), q "compress", (1, .methodref 42 48), n_ 49 50, q "coderFromArrayLen", q "([BI)B", (2, u "toBytes"), m_ 55 56, c_ 57, n_ 58 59, q "java/util/Arrays", q "copyOfRange", q "([BII)[B", (46, .methodref 107 108), c_ 109, n_ 110 111, q "java/lang/StringLatin1", q "inflate", q "([BI[BII)V", (30, u "()Z"), (34, .methodref 42 178), n_ 45 179, q "([CII)[B", (13, .class_ 195), (1, u "java/lang/System"), (13, .methodref 10 210), n_ 5 211, q "([BB)V", m_ 193 213, n_ 214 215, q "arraycopy", q "(Ljava/lang/Object;ILjava/lang/Object;II)V", (118, u "()I"), m_ 10 336, n_ 17 337, q "()B", (2, u "()[B"), (22, u "([BI)C"), (5, u "(C)Z"), (21, u "(II)V"), (35, u "(I)C"), (34, .nameAndType 463 464), q "toString", q "()Ljava/lang/String;", (24, .methodref 10 490), n_ 5 491, q "(Ljava/lang/AbstractStringBuilder;Ljava/lang/Void;)V", m_ 10 493, n_ 494 142, q "isLatin1", m_ 107 496, n_ 497 363, q "charAt", m_ 42 496, (2, u "checkIndex"), (4, .nameAndType 507 334), q "length", (24, u "getBytes"), (16, .methodref 550 506), c_ 551, q "java/lang/AbstractStringBuilder", m_ 550 553, n_ 554 340, q "getValue", (20, .class_ 576), q "java/lang/CharSequence", (22, u "CASE_INSENSITIVE_ORDER"), q "Ljava/util/Comparator;", (181, u "valueOf"), q "(C)Ljava/lang/String;", (24, u "(Ljava/lang/Object;)Ljava/lang/String;"), (12, u "([BIB)V"), (185, .methodref 2 462), (2, u "([C)V"), (4, .methodref 107 1016), n_ 1017 369, q "canEncode", m_ 107 1019, n_ 53 1020, q "(C)[B", m_ 42 1019, (25, .methodref 550 493), f_ 550 1049, n_ 1050 26, q "maybeLatin1", (2, .fieldref 1054 1055), c_ 1056, n_ 1057 1058, q "jdk/internal/util/Preconditions", q "SIOOBE_FORMATTER", q "Ljava/util/function/BiFunction;", m_ 1054 1060, n_ 501 1061, q "(IILjava/util/function/BiFunction;)I", (2, u "(IIILjava/util/function/BiFunction;)I"), m_ 1054 1066, n_ 1067 1064, q "checkFromIndexSize", (33, u "serialPersistentFields"), q "[Ljava/io/ObjectStreamField;", c_ 1104, q "java/lang/String$CaseInsensitiveComparator", (1, .class_ 1107), q "java/io/Serializable", c_ 1109, q "java/lang/Comparable", c_ 1111, q "java/lang/constant/Constable", c_ 1113, q "java/lang/constant/ConstantDesc", (2, u "serialVersionUID"), q "J", (3, u "REPL"), q "C", (2, u "LATIN1"), (1, u "UTF16"), (105, u "(Ljava/lang/StringBuilder;)V")] 217

def k7m0 : Method := mM "<init>" "()V" [] none 1 none
def k7c1 : Code := cK 5 2 jdk_42_method_3_code
def k7m1 : Method := mM "<init>" "([C)V" [(.array .char)] none 1 (some k7c1)
def k7c2 : Code := cK 3 2 jdk_42_method_53_code
def k7m2 : Method := mM "<init>" "(Ljava/lang/StringBuilder;)V" [(.object "java/lang/StringBuilder")] none 1 (some k7c2)
def k7c3 : Code := cK 2 1 jdk_42_method_54_code
def k7m3 : Method := mM "length" "()I" [] (some .int) 1 (some k7c3)
def k7c4 : Code := cK 2 2 jdk_42_method_56_code
def k7m4 : Method := mM "charAt" "(I)C" [.int] (some .char) 1 (some k7c4)
def k7c5 : Code := cK 1 1 jdk_42_method_126_code
def k7m5 : Method := mM "toString" "()Ljava/lang/String;" [] (some (.object "java/lang/String")) 1 (some k7c5)
def k7c6 : Code := cK 1 1 jdk_42_method_133_code
def k7m6 : Method := mM "valueOf" "(Ljava/lang/Object;)Ljava/lang/String;" [(.object "java/lang/Object")] (some (.object "java/lang/String")) 9 (some k7c6)
def k7c7 : Code := cK 4 1 jdk_42_method_139_code
def k7m7 : Method := mM "valueOf" "(C)Ljava/lang/String;" [.char] (some (.object "java/lang/String")) 9 (some k7c7)
def k7c8 : Code := cK 5 4 jdk_42_method_147_code
def k7m8 : Method := mM "getBytes" "([BIB)V" [(.array .byte), .int, .byte] none 0 (some k7c8)
def k7c9 : Code := cK 4 6 jdk_42_method_149_code
def k7m9 : Method := mM "<init>" "([CIILjava/lang/Void;)V" [(.array .char), .int, .int, (.object "java/lang/Void")] none 2 (some k7c9)
def k7c10 : Code := cK 5 5 jdk_42_method_150_code
def k7m10 : Method := mM "<init>" "(Ljava/lang/AbstractStringBuilder;Ljava/lang/Void;)V" [(.object "java/lang/AbstractStringBuilder"), (.object "java/lang/Void")] none 0 (some k7c10)
def k7c11 : Code := cK 2 3 jdk_42_method_151_code
def k7m11 : Method := mM "<init>" "([BB)V" [(.array .byte), .byte] none 0 (some k7c11)
def k7c12 : Code := cK 1 1 jdk_42_method_152_code
def k7m12 : Method := mM "coder" "()B" [] (some .byte) 0 (some k7c12)
def k7c13 : Code := cK 1 1 jdk_42_method_154_code
def k7m13 : Method := mM "isLatin1" "()Z" [] (some .boolean) 0 (some k7c13)
def k7c14 : Code := cK 3 2 jdk_42_method_155_code
def k7m14 : Method := mM "checkIndex" "(II)V" [.int, .int] none 8 (some k7c14)
def k7c15 : Code := cK 4 3 jdk_42_method_157_code
def k7m15 : Method := mM "checkBoundsOffCount" "(III)I" [.int, .int, .int] (some .int) 8 (some k7c15)
/-- java/lang/String -/
def k7 : Class := { plain "java/lang/String" (some 0) with
  accessFlags := 49
  interfaces := #[2, 3, 4, 5, 6]
  cf := some (fileOf pool7 10 #[.nestMembers #[1103]] #[(mI 1 5 6), (mI 1 5 1010), (mI 1 5 1233), (mI 1 507 334), (mI 1 497 427), (mI 1 463 464), (mI 9 782 808), (mI 9 782 783), (mI 0 532 821), (mI 2 5 29), (mI 0 5 491), (mI 0 5 211), (mI 0 17 337), (mI 0 494 142), (mI 8 501 391), (mI 8 36 37)] 49 2 #[1106, 1108, 575, 1110, 1112] #[(fI 18 13 14), (fI 18 17 18), (fI 2 21 22), (fI 2 25 26), (fI 26 1116 1117), (fI 24 40 26), (fI 26 1101 1102), (fI 26 1121 1122), (fI 25 599 600), (fI 24 1125 18), (fI 24 1127 18)])
  fields := #[(fD "value" (.array .byte) 18 0), (fD "coder" .byte 18 1), (fD "hash" .int 2 2), (fD "hashIsZero" .boolean 2 3), (fD "serialVersionUID" .long 26 0), (fD "COMPACT_STRINGS" .boolean 24 1), (fD "serialPersistentFields" (.array (.object "java/io/ObjectStreamField")) 26 2), (fD "REPL" .char 26 3), (fD "CASE_INSENSITIVE_ORDER" (.object "java/util/Comparator") 25 4), (fD "LATIN1" .byte 24 5), (fD "UTF16" .byte 24 6)]
  methods := #[k7m0, k7m1, k7m2, k7m3, k7m4, k7m5, k7m6, k7m7, k7m8, k7m9, k7m10, k7m11, k7m12, k7m13, k7m14, k7m15]
  instanceTypes := #[(.array .byte), .byte, .int, .boolean]
  staticTypes := #[.long, .boolean, (.array (.object "java/io/ObjectStreamField")), .char, (.object "java/util/Comparator"), .byte, .byte]
  resolved := Array.replicate 1451 none
  statics := some 0 }

def pool8 : Array CpInfo := pool [(3, .class_ 4), q "java/lang/String", (1, .class_ 8), (1, u "java/lang/Object"), q "<init>", q "()V", m_ 12 13, c_ 14, n_ 15 16, q "java/lang/StringUTF16", q "newBytesLength", q "(I)I", (3, .integer 1073741823), (23, .fieldref 12 45), n_ 46 47, q "$assertionsDisabled", q "Z", m_ 12 49, n_ 50 51, q "length", q "([B)I", (7, .fieldref 12 60), n_ 61 62, q "HI_BYTE_SHIFT", q "I", f_ 12 64, n_ 65 62, q "LO_BYTE_SHIFT", (1, .methodref 12 68), n_ 69 70, q "checkIndex", q "(I[B)V", m_ 12 72, n_ 73 74, q "getChar", q "([BI)C", (24, u "(II[B)V"), (7, .methodref 12 108), n_ 109 110, q "newBytesFor", q "(I)[B", m_ 12 112, n_ 113 114, q "putChar", q "([BII)V", m_ 12 116, n_ 117 118, q "compress", q "([CI[BII)I", m_ 12 120, n_ 121 122, q "toBytes", q "([CII)[B", (17, u "inflate"), q "([BI[BII)V", (31, .methodref 12 174), n_ 175 99, q "checkBoundsOffCount", (85, u "coderFromArrayLen"), q "([BI)B", (18, u "(III)I"), (87, .class_ 371), (1, u "java/lang/StringUTF16$LinesSpliterator"), (20, u "charAt"), (21, .methodref 3 415), n_ 69 416, q "(II)V", (2, .methodref 3 420), n_ 175 281, (9, u "MAX_LENGTH"), (44, u "(C)[B"), (110, u "putCharSB"), (40, .class_ 628), q "java/lang/StringUTF16$CodePointsSpliterator", c_ 630, q "java/lang/StringUTF16$CharsSpliterator"] 4

def k8m0 : Method := mM "<init>" "()V" [] none 0 none
def k8c1 : Code := cK 1 1 jdk_52_method_2_code
def k8m1 : Method := mM "newBytesFor" "(I)[B" [.int] (some (.array .byte)) 9 (some k8c1)
def k8c2 : Code := cK 4 1 jdk_52_method_3_code
def k8m2 : Method := mM "newBytesLength" "(I)I" [.int] (some .int) 9 (some k8c2)
def k8c3 : Code := cK 4 3 jdk_52_method_4_code
def k8m3 : Method := mM "putChar" "([BII)V" [(.array .byte), .int, .int] none 8 (some k8c3)
def k8c4 : Code := cK 3 2 jdk_52_method_5_code
def k8m4 : Method := mM "getChar" "([BI)C" [(.array .byte), .int] (some .char) 8 (some k8c4)
def k8c5 : Code := cK 2 1 jdk_52_method_6_code
def k8m5 : Method := mM "length" "([B)I" [(.array .byte)] (some .int) 9 (some k8c5)
def k8c6 : Code := cK 4 5 jdk_52_method_14_code
def k8m6 : Method := mM "toBytes" "([CII)[B" [(.array .char), .int, .int] (some (.array .byte)) 9 (some k8c6)
def k8c7 : Code := cK 2 2 jdk_52_method_15_code
def k8m7 : Method := mM "coderFromArrayLen" "([BI)B" [(.array .byte), .int] (some .byte) 8 (some k8c7)
def k8c8 : Code := cK 5 6 jdk_52_method_16_code
def k8m8 : Method := mM "compress" "([CII)[B" [(.array .char), .int, .int] (some (.array .byte)) 9 (some k8c8)
def k8c9 : Code := cK 3 7 jdk_52_method_21_code
def k8m9 : Method := mM "compress" "([CI[BII)I" [(.array .char), .int, (.array .byte), .int, .int] (some .int) 9 (some k8c9)
def k8c10 : Code := cK 3 2 jdk_52_method_24_code
def k8m10 : Method := mM "toBytes" "(C)[B" [.char] (some (.array .byte)) 9 (some k8c10)
def k8c11 : Code := cK 3 3 jdk_52_method_71_code
def k8m11 : Method := mM "putCharSB" "([BII)V" [(.array .byte), .int, .int] none 9 (some k8c11)
def k8c12 : Code := cK 2 2 jdk_52_method_83_code
def k8m12 : Method := mM "charAt" "([BI)C" [(.array .byte), .int] (some .char) 9 (some k8c12)
def k8c13 : Code := cK 4 6 jdk_52_method_86_code
def k8m13 : Method := mM "inflate" "([BI[BII)V" [(.array .byte), .int, (.array .byte), .int, .int] none 9 (some k8c13)
def k8c14 : Code := cK 2 2 jdk_52_method_91_code
def k8m14 : Method := mM "checkIndex" "(I[B)V" [.int, (.array .byte)] none 9 (some k8c14)
def k8c15 : Code := cK 3 3 jdk_52_method_94_code
def k8m15 : Method := mM "checkBoundsOffCount" "(II[B)V" [.int, .int, (.array .byte)] none 9 (some k8c15)
/-- java/lang/StringUTF16 -/
def k8 : Class := { plain "java/lang/StringUTF16" (some 0) with
  accessFlags := 48
  interfaces := #[]
  cf := some (fileOf pool8 12 #[.nestMembers #[627, 629, 369]] #[(mI 0 9 10), (mI 9 109 110), (mI 9 15 16), (mI 8 113 114), (mI 8 73 74), (mI 9 50 51), (mI 9 121 122), (mI 8 261 262), (mI 9 117 122), (mI 9 117 118), (mI 9 121 475), (mI 9 586 114), (mI 9 392 74), (mI 9 140 141), (mI 9 69 70), (mI 9 175 99)] 48 6 #[] #[(fI 26 61 62), (fI 26 65 62), (fI 24 430 62), (fI 4120 46 47)])
  fields := #[(fD "HI_BYTE_SHIFT" .int 26 0), (fD "LO_BYTE_SHIFT" .int 26 1), (fD "MAX_LENGTH" .int 24 2), (fD "$assertionsDisabled" .boolean 4120 3)]
  methods := #[k8m0, k8m1, k8m2, k8m3, k8m4, k8m5, k8m6, k8m7, k8m8, k8m9, k8m10, k8m11, k8m12, k8m13, k8m14, k8m15]
  instanceTypes := #[]
  staticTypes := #[.int, .int, .int, .boolean]
  resolved := Array.replicate 635 none
  statics := some 1 }

def pool9 : Array CpInfo := pool [(8, .class_ 10), (1, u "java/lang/Iterable"), (24, .class_ 36), q "java/lang/Object"] 25

/-- java/lang/Iterable -/
def k9 : Class := { plain "java/lang/Iterable" (some 0) with
  accessFlags := 1537
  interfaces := #[]
  cf := some (fileOf pool9 8 #[] #[] 1537 35 #[] #[])
  fields := #[]
  methods := #[]
  instanceTypes := #[]
  staticTypes := #[]
  resolved := Array.replicate 62 none
  statics := none }

def pool10 : Array CpInfo := pool [(10, .class_ 12), (1, u "java/util/Collection"), q "toArray", (16, u "()Z"), (29, .class_ 61), q "java/lang/Object", c_ 63, q "java/lang/Iterable", (2, u "isEmpty"), (3, u "()[Ljava/lang/Object;")] 44

def k10m0 : Method := mM "isEmpty" "()Z" [] (some .boolean) 1025 none
def k10m1 : Method := mM "toArray" "()[Ljava/lang/Object;" [] (some (.array (.object "java/lang/Object"))) 1025 none
/-- java/util/Collection -/
def k10 : Class := { plain "java/util/Collection" (some 0) with
  accessFlags := 1537
  interfaces := #[9]
  cf := some (fileOf pool10 10 #[] #[(mI 1025 66 30), (mI 1025 13 70)] 1537 60 #[62] #[])
  fields := #[]
  methods := #[k10m0, k10m1]
  instanceTypes := #[]
  staticTypes := #[]
  resolved := Array.replicate 115 none
  statics := none }

def pool11 : Array CpInfo := pool [(1, .methodref 2 3), c_ 4, n_ 5 6, q "java/lang/Object", q "<init>", q "()V", (1, .class_ 10), (1, u "java/util/AbstractCollection"), q "size", q "()I", m_ 8 14, n_ 15 16, q "iterator", q "()Ljava/util/Iterator;", (0, .interfaceMethodref 18 19), c_ 20, n_ 21 22, q "java/util/Iterator", q "hasNext", q "()Z", (0, .interfaceMethodref 18 24), n_ 25 26, q "next", q "()Ljava/lang/Object;", (50, .class_ 78), q "java/util/Collection", (13, .string 93), q "[]", c_ 95, q "java/lang/StringBuilder", m_ 94 3, m_ 94 98, n_ 99 100, q "append", q "(C)Ljava/lang/StringBuilder;", (2, .methodref 94 104), n_ 99 105, q "(Ljava/lang/Object;)Ljava/lang/StringBuilder;", m_ 94 107, n_ 108 109, q "toString", q "()Ljava/lang/String;"] 50

def k11c0 : Code := cK 1 1 jdk_22_method_1_code
def k11m0 : Method := mM "<init>" "()V" [] none 4 (some k11c0)
def k11m1 : Method := mM "iterator" "()Ljava/util/Iterator;" [] (some (.object "java/util/Iterator")) 1025 none
def k11m2 : Method := mM "size" "()I" [] (some .int) 1025 none
def k11c3 : Code := cK 3 4 jdk_22_method_16_code
def k11m3 : Method := mM "toString" "()Ljava/lang/String;" [] (some (.object "java/lang/String")) 1 (some k11c3)
/-- java/util/AbstractCollection -/
def k11 : Class := { plain "java/util/AbstractCollection" (some 0) with
  accessFlags := 1057
  interfaces := #[10]
  cf := some (fileOf pool11 8 #[] #[(mI 4 5 6), (mI 1025 15 16), (mI 1025 11 12), (mI 1 108 109)] 1057 2 #[77] #[])
  fields := #[]
  methods := #[k11m0, k11m1, k11m2, k11m3]
  instanceTypes := #[]
  staticTypes := #[]
  resolved := Array.replicate 160 none
  statics := none }

def pool12 : Array CpInfo := pool [(8, .class_ 10), (1, u "java/util/SequencedCollection"), (15, .class_ 27), q "java/lang/Object", c_ 29, q "java/util/Collection"] 27

/-- java/util/SequencedCollection -/
def k12 : Class := { plain "java/util/SequencedCollection" (some 0) with
  accessFlags := 1537
  interfaces := #[10]
  cf := some (fileOf pool12 8 #[] #[] 1537 26 #[28] #[])
  fields := #[]
  methods := #[]
  instanceTypes := #[]
  staticTypes := #[]
  resolved := Array.replicate 57 none
  statics := none }

def pool13 : Array CpInfo := pool [(8, .class_ 10), (1, u "java/util/List"), (20, u "(Ljava/lang/Object;)V"), (16, u "<init>"), (26, u "get"), q "(I)Ljava/lang/Object;", (11, u "of"), (1, .fieldref 91 92), c_ 93, n_ 94 95, q "java/util/ImmutableCollections", q "EMPTY_LIST", q "Ljava/util/ImmutableCollections$ListN;", c_ 97, q "java/util/ImmutableCollections$List12", m_ 96 99, n_ 48 31, m_ 96 101, n_ 48 102, q "(Ljava/lang/Object;Ljava/lang/Object;)V", c_ 104, q "java/lang/Object", (3, u "([Ljava/lang/Object;)Ljava/util/List;"), (3, .methodref 91 113), n_ 114 115, q "listCopy", q "(Ljava/util/Collection;)Ljava/util/List;", (3, u "()Ljava/util/List;"), c_ 121, q "java/util/SequencedCollection", (112, u "copyOf")] 16

def k13m0 : Method := mM "get" "(I)Ljava/lang/Object;" [.int] (some (.object "java/lang/Object")) 1025 none
def k13c1 : Code := cK 1 0 jdk_40_method_36_code
def k13m1 : Method := mM "of" "()Ljava/util/List;" [] (some (.object "java/util/List")) 9 (some k13c1)
def k13c2 : Code := cK 5 2 jdk_40_method_47_code
def k13m2 : Method := mM "of" "([Ljava/lang/Object;)Ljava/util/List;" [(.array (.object "java/lang/Object"))] (some (.object "java/util/List")) 137 (some k13c2)
def k13c3 : Code := cK 1 1 jdk_40_method_48_code
def k13m3 : Method := mM "copyOf" "(Ljava/util/Collection;)Ljava/util/List;" [(.object "java/util/Collection")] (some (.object "java/util/List")) 9 (some k13c3)
/-- java/util/List -/
def k13 : Class := { plain "java/util/List" (some 0) with
  accessFlags := 1537
  interfaces := #[12]
  cf := some (fileOf pool13 8 #[] #[(mI 1025 75 76), (mI 9 88 119), (mI 137 88 108), (mI 9 234 115)] 1537 103 #[120] #[])
  fields := #[]
  methods := #[k13m0, k13m1, k13m2, k13m3]
  instanceTypes := #[]
  staticTypes := #[]
  resolved := Array.replicate 251 none
  statics := none }

def pool14 : Array CpInfo := pool [(1, .methodref 2 3), c_ 4, n_ 5 6, q "java/util/AbstractCollection", q "<init>", q "()V", f_ 8 9, c_ 10, n_ 11 12, q "java/util/AbstractList", q "modCount", q "I", (64, .class_ 78), q "java/util/AbstractList$Itr", (3, .class_ 83), q "java/util/AbstractList$ListItr", (9, .class_ 94), q "java/util/AbstractList$RandomAccessSubList", (3, .class_ 99), q "java/util/AbstractList$SubList", (33, .class_ 134), q "java/util/List", (73, .class_ 209), q "java/util/AbstractList$SubList$1", c_ 211, q "java/util/AbstractList$RandomAccessSpliterator"] 6

def k14c0 : Code := cK 2 1 jdk_39_method_1_code
def k14m0 : Method := mM "<init>" "()V" [] none 4 (some k14c0)
/-- java/util/AbstractList -/
def k14 : Class := { plain "java/util/AbstractList" (some 11) with
  accessFlags := 1057
  interfaces := #[13]
  cf := some (fileOf pool14 8 #[.nestMembers #[93, 98, 208, 210, 82, 77]] #[(mI 4 5 6)] 1057 2 #[133] #[(fI 132 11 12)])
  fields := #[(fD "modCount" .int 132 0)]
  methods := #[k14m0]
  instanceTypes := #[.int]
  staticTypes := #[]
  resolved := Array.replicate 218 none
  statics := none }

def pool15 : Array CpInfo := pool [(1, .class_ 2), q "java/util/RandomAccess", c_ 4, q "java/lang/Object"] 2

/-- java/util/RandomAccess -/
def k15 : Class := { plain "java/util/RandomAccess" (some 0) with
  accessFlags := 1537
  interfaces := #[]
  cf := some (fileOf pool15 1 #[] #[] 1537 3 #[] #[])
  fields := #[]
  methods := #[]
  instanceTypes := #[]
  staticTypes := #[]
  resolved := Array.replicate 7 none
  statics := none }

def pool16 : Array CpInfo := pool [(1, .class_ 2), q "java/lang/Cloneable", c_ 4, q "java/lang/Object"] 2

/-- java/lang/Cloneable -/
def k16 : Class := { plain "java/lang/Cloneable" (some 0) with
  accessFlags := 1537
  interfaces := #[]
  cf := some (fileOf pool16 1 #[] #[] 1537 3 #[] #[])
  fields := #[]
  methods := #[]
  instanceTypes := #[]
  staticTypes := #[]
  resolved := Array.replicate 7 none
  statics := none }

def pool17 : Array CpInfo := pool [(1, .methodref 2 3), c_ 4, n_ 5 6, q "java/util/AbstractList", q "<init>", q "()V", c_ 8, q "java/lang/Object", f_ 10 11, c_ 12, n_ 13 14, q "java/util/ArrayList", q "elementData", q "[Ljava/lang/Object;", (2, u "EMPTY_ELEMENTDATA"), (21, .fieldref 10 40), n_ 41 14, q "DEFAULTCAPACITY_EMPTY_ELEMENTDATA", (4, u "toArray"), q "()[Ljava/lang/Object;", f_ 10 49, n_ 50 51, q "size", q "I", (6, .class_ 60), (1, u "java/util/Arrays"), q "copyOf", (1, .fieldref 10 64), n_ 65 51, q "modCount", m_ 58 67, n_ 61 68, q "([Ljava/lang/Object;I)[Ljava/lang/Object;", m_ 10 70, n_ 71 72, q "grow", q "(I)[Ljava/lang/Object;", (6, .methodref 80 81), c_ 82, n_ 83 84, q "java/lang/Math", q "max", q "(II)I", (11, u "(Ljava/lang/Object;)Z"), (32, .methodref 10 130), n_ 71 47, m_ 10 132, n_ 133 134, q "add", q "(Ljava/lang/Object;[Ljava/lang/Object;I)V", (13, .class_ 149), q "java/util/List", (23, u "()Z"), (88, .class_ 263), q "java/util/ArrayList$ListItr", (3, .class_ 268), q "java/util/ArrayList$Itr", (7, .class_ 277), q "java/util/ArrayList$SubList", (12, .class_ 291), q "java/util/ArrayList$ArrayListSpliterator", (37, .class_ 330), q "java/util/RandomAccess", c_ 332, q "java/lang/Cloneable", c_ 334, q "java/io/Serializable", q "serialVersionUID", q "J", (3, u "DEFAULT_CAPACITY"), (22, u "isEmpty"), (136, .class_ 501), q "java/util/ArrayList$SubList$2", c_ 503, q "java/util/ArrayList$SubList$1"] 5

def k17c0 : Code := cK 2 1 jdk_38_method_2_code
def k17m0 : Method := mM "<init>" "()V" [] none 1 (some k17c0)
def k17c1 : Code := cK 4 4 jdk_38_method_6_code
def k17m1 : Method := mM "grow" "(I)[Ljava/lang/Object;" [.int] (some (.array (.object "java/lang/Object"))) 2 (some k17c1)
def k17c2 : Code := cK 3 1 jdk_38_method_7_code
def k17m2 : Method := mM "grow" "()[Ljava/lang/Object;" [] (some (.array (.object "java/lang/Object"))) 2 (some k17c2)
def k17c3 : Code := cK 1 1 jdk_38_method_9_code
def k17m3 : Method := mM "isEmpty" "()Z" [] (some .boolean) 1 (some k17c3)
def k17c4 : Code := cK 2 1 jdk_38_method_16_code
def k17m4 : Method := mM "toArray" "()[Ljava/lang/Object;" [] (some (.array (.object "java/lang/Object"))) 1 (some k17c4)
def k17c5 : Code := cK 3 4 jdk_38_method_24_code
def k17m5 : Method := mM "add" "(Ljava/lang/Object;[Ljava/lang/Object;I)V" [(.object "java/lang/Object"), (.array (.object "java/lang/Object")), .int] none 2 (some k17c5)
def k17c6 : Code := cK 4 2 jdk_38_method_25_code
def k17m6 : Method := mM "add" "(Ljava/lang/Object;)Z" [(.object "java/lang/Object")] (some .boolean) 1 (some k17c6)
/-- java/util/ArrayList -/
def k17 : Class := { plain "java/util/ArrayList" (some 14) with
  accessFlags := 33
  interfaces := #[13, 15, 16, 2]
  cf := some (fileOf pool17 10 #[.nestMembers #[290, 276, 500, 502, 262, 267]] #[(mI 1 5 6), (mI 2 71 72), (mI 2 71 47), (mI 1 363 173), (mI 1 46 47), (mI 2 133 134), (mI 1 133 96)] 33 2 #[148, 329, 331, 333] #[(fI 26 335 336), (fI 26 340 51), (fI 26 17 14), (fI 26 41 14), (fI 128 13 14), (fI 2 50 51)])
  fields := #[(fD "serialVersionUID" .long 26 0), (fD "DEFAULT_CAPACITY" .int 26 1), (fD "EMPTY_ELEMENTDATA" (.array (.object "java/lang/Object")) 26 2), (fD "DEFAULTCAPACITY_EMPTY_ELEMENTDATA" (.array (.object "java/lang/Object")) 26 3), (fD "elementData" (.array (.object "java/lang/Object")) 128 1), (fD "size" .int 2 2)]
  methods := #[k17m0, k17m1, k17m2, k17m3, k17m4, k17m5, k17m6]
  instanceTypes := #[.int, (.array (.object "java/lang/Object")), .int]
  staticTypes := #[.long, .int, (.array (.object "java/lang/Object")), (.array (.object "java/lang/Object"))]
  resolved := Array.replicate 509 none
  statics := some 2 }

def pool18 : Array CpInfo := pool [(1, .methodref 2 3), c_ 4, n_ 5 6, q "java/lang/Object", q "<init>", q "()V", f_ 8 9, c_ 10, n_ 11 12, q "com/example/kvasir/kvasir/sql/SqlQuery", q "text", q "Ljava/lang/String;", (0, .interfaceMethodref 14 15), c_ 16, n_ 17 18, q "java/util/List", q "copyOf", q "(Ljava/util/Collection;)Ljava/util/List;", f_ 8 20, n_ 21 22, q "parameters", q "Ljava/util/List;", f_ 8 24, n_ 25 26, q "arity", q "I", c_ 28, q "java/lang/StringBuilder", m_ 27 3, m_ 27 31, n_ 32 33, q "append", q "(Ljava/lang/String;)Ljava/lang/StringBuilder;", (0, .string 35), q " ", m_ 27 37, n_ 32 38, q "(Ljava/lang/Object;)Ljava/lang/StringBuilder;", m_ 27 40, n_ 41 42, q "toString", q "()Ljava/lang/String;", (2, u "(Ljava/lang/String;Ljava/util/List;I)V")] 11

def k18c0 : Code := cK 2 4 prog_6_method_1_code
def k18m0 : Method := mM "<init>" "(Ljava/lang/String;Ljava/util/List;I)V" [(.object "java/lang/String"), (.object "java/util/List"), .int] none 0 (some k18c0)
def k18c1 : Code := cK 2 1 prog_6_method_5_code
def k18m1 : Method := mM "toString" "()Ljava/lang/String;" [] (some (.object "java/lang/String")) 1 (some k18c1)
/-- com/example/kvasir/kvasir/sql/SqlQuery -/
def k18 : Class := { plain "com/example/kvasir/kvasir/sql/SqlQuery" (some 0) with
  accessFlags := 33
  interfaces := #[]
  cf := some (fileOf pool18 8 #[] #[(mI 0 5 45), (mI 1 41 42)] 33 2 #[] #[(fI 18 11 12), (fI 18 21 22), (fI 18 25 26)])
  fields := #[(fD "text" (.object "java/lang/String") 18 0), (fD "parameters" (.object "java/util/List") 18 1), (fD "arity" .int 18 2)]
  methods := #[k18m0, k18m1]
  instanceTypes := #[(.object "java/lang/String"), (.object "java/util/List"), .int]
  staticTypes := #[]
  resolved := Array.replicate 57 none
  statics := none }

def pool19 : Array CpInfo := pool [(2, .class_ 4), (1, u "java/lang/Object"), q "<init>", q "()V", (3, .class_ 11), q "java/util/ImmutableCollections$List12", c_ 13, q "java/util/ImmutableCollections$ListN", (3, u "Z"), c_ 19, q "java/util/List", (0, .interfaceMethodref 21 22), c_ 23, n_ 24 25, q "java/util/Collection", q "isEmpty", q "()Z", (0, .interfaceMethodref 18 27), n_ 28 29, q "of", q "()Ljava/util/List;", (0, .interfaceMethodref 21 31), n_ 32 33, q "toArray", q "()[Ljava/lang/Object;", (0, .interfaceMethodref 18 35), n_ 28 36, q "([Ljava/lang/Object;)Ljava/util/List;", (10, .class_ 49), (1, u "java/util/ImmutableCollections"), q "$assertionsDisabled", (5, u "[Ljava/lang/Object;"), (5, u "EMPTY_LIST"), q "Ljava/util/ImmutableCollections$ListN;", (8, u "EMPTY_LIST_NULLS"), (22, u "SALT32L"), q "J", (2, u "REVERSE"), (6, u "archivedObjects"), (2, u "EMPTY"), q "Ljava/lang/Object;", c_ 112, q "java/util/ImmutableCollections$SetN", (5, u "EMPTY_SET"), q "Ljava/util/ImmutableCollections$SetN;", c_ 121, q "java/util/ImmutableCollections$MapN", (3, u "EMPTY_MAP"), q "Ljava/util/ImmutableCollections$MapN;", (4, u "EXPAND_FACTOR"), q "I", (9, u "listCopy"), q "(Ljava/util/Collection;)Ljava/util/List;", (25, .class_ 170), q "java/util/ImmutableCollections$MapN$MapNIterator", c_ 172, q "java/util/ImmutableCollections$MapN$1", c_ 174, q "java/util/ImmutableCollections$Map1", c_ 176, q "java/util/ImmutableCollections$AbstractImmutableMap", c_ 178, q "java/util/ImmutableCollections$SetN$SetNIterator", c_ 180, q "java/util/ImmutableCollections$Set12", c_ 182, q "java/util/ImmutableCollections$Set12$1", c_ 184, q "java/util/ImmutableCollections$AbstractImmutableSet", c_ 186, q "java/util/ImmutableCollections$SubList", c_ 188, q "java/util/ImmutableCollections$ListItr", c_ 190, q "java/util/ImmutableCollections$AbstractImmutableList", c_ 192, q "java/util/ImmutableCollections$AbstractImmutableCollection", c_ 194, q "java/util/ImmutableCollections$Access", c_ 196, q "java/util/ImmutableCollections$Access$1"] 16

def k19m0 : Method := mM "<init>" "()V" [] none 2 none
def k19c1 : Code := cK 1 2 jdk_56_method_3_code
def k19m1 : Method := mM "listCopy" "(Ljava/util/Collection;)Ljava/util/List;" [(.object "java/util/Collection")] (some (.object "java/util/List")) 8 (some k19c1)
/-- java/util/ImmutableCollections -/
def k19 : Class := { plain "java/util/ImmutableCollections" (some 0) with
  accessFlags := 32
  interfaces := #[]
  cf := some (fileOf pool19 47 #[.nestMembers #[120, 169, 171, 173, 175, 111, 177, 179, 181, 183, 12, 10, 185, 187, 189, 191, 193, 195]] #[(mI 2 5 6), (mI 8 142 143)] 32 2 #[] #[(fI 26 95 96), (fI 26 99 17), (fI 10 106 56), (fI 26 109 110), (fI 24 62 63), (fI 24 72 63), (fI 24 118 119), (fI 24 125 126), (fI 24 131 132), (fI 4120 50 17)])
  fields := #[(fD "SALT32L" .long 26 0), (fD "REVERSE" .boolean 26 1), (fD "archivedObjects" (.array (.object "java/lang/Object")) 10 2), (fD "EMPTY" (.object "java/lang/Object") 26 3), (fD "EMPTY_LIST" (.object "java/util/ImmutableCollections$ListN") 24 4), (fD "EMPTY_LIST_NULLS" (.object "java/util/ImmutableCollections$ListN") 24 5), (fD "EMPTY_SET" (.object "java/util/ImmutableCollections$SetN") 24 6), (fD "EMPTY_MAP" (.object "java/util/ImmutableCollections$MapN") 24 7), (fD "EXPAND_FACTOR" .int 24 8), (fD "$assertionsDisabled" .boolean 4120 9)]
  methods := #[k19m0, k19m1]
  instanceTypes := #[]
  staticTypes := #[.long, .boolean, (.array (.object "java/lang/Object")), (.object "java/lang/Object"), (.object "java/util/ImmutableCollections$ListN"), (.object "java/util/ImmutableCollections$ListN"), (.object "java/util/ImmutableCollections$SetN"), (.object "java/util/ImmutableCollections$MapN"), .int, .boolean]
  resolved := Array.replicate 213 none
  statics := some 3 }

def pool20 : Array CpInfo := pool [(1, .methodref 2 3), c_ 4, n_ 5 6, q "java/util/AbstractCollection", q "<init>", q "()V", (1, .class_ 10), (1, u "java/util/ImmutableCollections"), (2, .class_ 14), q "java/util/ImmutableCollections$AbstractImmutableCollection"] 41

def k20c0 : Code := cK 1 1 jdk_47_method_1_code
def k20m0 : Method := mM "<init>" "()V" [] none 0 (some k20c0)
/-- java/util/ImmutableCollections$AbstractImmutableCollection -/
def k20 : Class := { plain "java/util/ImmutableCollections$AbstractImmutableCollection" (some 11) with
  accessFlags := 1056
  interfaces := #[]
  cf := some (fileOf pool20 13 #[.nestHost 8] #[(mI 0 5 6)] 1056 2 #[] #[])
  fields := #[]
  methods := #[k20m0]
  instanceTypes := #[]
  staticTypes := #[]
  resolved := Array.replicate 56 none
  statics := none }

def pool21 : Array CpInfo := pool [(1, .methodref 2 3), c_ 4, n_ 5 6, q "java/util/ImmutableCollections$AbstractImmutableCollection", q "<init>", q "()V", (1, .class_ 10), (1, u "java/util/ImmutableCollections"), (2, .methodref 14 15), c_ 16, n_ 17 18, q "java/util/ImmutableCollections$AbstractImmutableList", q "size", q "()I", (42, .class_ 62), q "java/util/ImmutableCollections$ListItr", m_ 61 64, n_ 5 65, q "(Ljava/util/List;I)V", (11, .class_ 78), q "java/util/List", (2, u "iterator"), q "()Ljava/util/Iterator;", (41, .class_ 125), q "java/util/RandomAccess"] 70

def k21c0 : Code := cK 1 1 jdk_46_method_1_code
def k21m0 : Method := mM "<init>" "()V" [] none 0 (some k21c0)
def k21c1 : Code := cK 4 1 jdk_46_method_10_code
def k21m1 : Method := mM "iterator" "()Ljava/util/Iterator;" [] (some (.object "java/util/Iterator")) 1 (some k21c1)
/-- java/util/ImmutableCollections$AbstractImmutableList -/
def k21 : Class := { plain "java/util/ImmutableCollections$AbstractImmutableList" (some 20) with
  accessFlags := 1056
  interfaces := #[13, 15]
  cf := some (fileOf pool21 14 #[.nestHost 8] #[(mI 0 5 6), (mI 1 81 82)] 1056 2 #[77, 124] #[])
  fields := #[]
  methods := #[k21m0, k21m1]
  instanceTypes := #[]
  staticTypes := #[]
  resolved := Array.replicate 196 none
  statics := none }

def pool22 : Array CpInfo := pool [(1, .methodref 2 3), c_ 4, n_ 5 6, q "java/util/ImmutableCollections$AbstractImmutableList", q "<init>", q "()V", m_ 8 9, c_ 10, n_ 11 12, q "java/util/Objects", q "requireNonNull", q "(Ljava/lang/Object;)Ljava/lang/Object;", f_ 14 15, c_ 16, n_ 17 18, q "java/util/ImmutableCollections$List12", q "e0", q "Ljava/lang/Object;", f_ 20 21, c_ 22, n_ 23 18, q "java/util/ImmutableCollections", q "EMPTY", f_ 14 25, n_ 26 18, q "e1", (24, u "size"), q "()I", (17, .class_ 71), q "java/io/Serializable", (4, u "(Ljava/lang/Object;)V"), (8, u "(Ljava/lang/Object;Ljava/lang/Object;)V"), (4, u "get"), q "(I)Ljava/lang/Object;"] 33

def k22c0 : Code := cK 2 2 jdk_44_method_1_code
def k22m0 : Method := mM "<init>" "(Ljava/lang/Object;)V" [(.object "java/lang/Object")] none 0 (some k22c0)
def k22c1 : Code := cK 2 3 jdk_44_method_2_code
def k22m1 : Method := mM "<init>" "(Ljava/lang/Object;Ljava/lang/Object;)V" [(.object "java/lang/Object"), (.object "java/lang/Object")] none 0 (some k22c1)
def k22c2 : Code := cK 2 1 jdk_44_method_3_code
def k22m2 : Method := mM "size" "()I" [] (some .int) 1 (some k22c2)
def k22c3 : Code := cK 2 2 jdk_44_method_5_code
def k22m3 : Method := mM "get" "(I)Ljava/lang/Object;" [.int] (some (.object "java/lang/Object")) 1 (some k22c3)
/-- java/util/ImmutableCollections$List12 -/
def k22 : Class := { plain "java/util/ImmutableCollections$List12" (some 21) with
  accessFlags := 48
  interfaces := #[2]
  cf := some (fileOf pool22 14 #[.nestHost 20] #[(mI 0 5 76), (mI 0 5 85), (mI 1 51 52), (mI 1 90 91)] 48 2 #[70] #[(fI 18 17 18), (fI 18 26 18)])
  fields := #[(fD "e0" (.object "java/lang/Object") 18 0), (fD "e1" (.object "java/lang/Object") 18 1)]
  methods := #[k22m0, k22m1, k22m2, k22m3]
  instanceTypes := #[(.object "java/lang/Object"), (.object "java/lang/Object")]
  staticTypes := #[]
  resolved := Array.replicate 125 none
  statics := none }

def pool23 : Array CpInfo := pool [(2, .class_ 4), (1, u "java/util/ImmutableCollections$AbstractImmutableList"), (2, .fieldref 8 9), c_ 10, n_ 11 12, q "java/util/ImmutableCollections$ListN", q "elements", q "[Ljava/lang/Object;", (2, u "allowNulls"), q "Z", (42, .class_ 60), q "java/io/Serializable", (16, u "size"), q "()I", (35, .class_ 115), q "java/util/ImmutableCollections"] 3

def k23c0 : Code := cK 1 1 jdk_45_method_3_code
def k23m0 : Method := mM "size" "()I" [] (some .int) 1 (some k23c0)
/-- java/util/ImmutableCollections$ListN -/
def k23 : Class := { plain "java/util/ImmutableCollections$ListN" (some 21) with
  accessFlags := 48
  interfaces := #[2]
  cf := some (fileOf pool23 8 #[.nestHost 114] #[(mI 1 77 78)] 48 2 #[59] #[(fI 18 11 12), (fI 18 15 16)])
  fields := #[(fD "elements" (.array (.object "java/lang/Object")) 18 0), (fD "allowNulls" .boolean 18 1)]
  methods := #[k23m0]
  instanceTypes := #[(.array (.object "java/lang/Object")), .boolean]
  staticTypes := #[]
  resolved := Array.replicate 119 none
  statics := none }

def pool24 : Array CpInfo := pool [(1, .class_ 2), q "java/lang/Appendable", c_ 4, q "java/lang/Object"] 9

/-- java/lang/Appendable -/
def k24 : Class := { plain "java/lang/Appendable" (some 0) with
  accessFlags := 1537
  interfaces := #[]
  cf := some (fileOf pool24 1 #[] #[] 1537 3 #[] #[])
  fields := #[]
  methods := #[]
  instanceTypes := #[]
  staticTypes := #[]
  resolved := Array.replicate 14 none
  statics := none }

def pool25 : Array CpInfo := pool [(1, .class_ 2), q "java/lang/String", m_ 4 5, c_ 6, n_ 7 8, q "java/lang/Object", q "<init>", q "()V", (1, .class_ 12), (1, u "java/lang/AbstractStringBuilder"), q "EMPTYVALUE", q "[B", f_ 10 16, n_ 17 14, q "value", f_ 1 19, n_ 20 21, q "COMPACT_STRINGS", q "Z", f_ 10 23, n_ 24 25, q "coder", q "B", m_ 27 28, c_ 29, n_ 30 31, q "java/lang/StringUTF16", q "newBytesFor", q "(I)[B", m_ 1 33, n_ 34 35, q "length", q "()I", (4, .methodref 1 41), n_ 24 42, q "()B", (2, u "append"), q "(Ljava/lang/String;)Ljava/lang/AbstractStringBuilder;", (1, .class_ 49), q "java/lang/CharSequence", (19, u "(Ljava/lang/String;)V"), (5, u "maybeLatin1"), (3, .fieldref 10 80), n_ 81 82, q "count", q "I", m_ 10 84, n_ 85 86, q "isLatin1", q "()Z", (1, .class_ 90), (1, u "java/lang/StringLatin1"), (9, .methodref 10 101), n_ 102 103, q "ensureCapacityInternal", q "(I)V", (21, .methodref 88 126), n_ 127 128, q "inflate", q "([BI[BII)V", (7, u "([BII)V"), (54, .methodref 88 192), n_ 193 194, q "canEncode", q "(C)Z", m_ 10 196, n_ 127 8, m_ 27 198, n_ 199 136, q "putCharSB", (8, .methodref 10 209), n_ 210 211, q "putStringAt", q "(ILjava/lang/String;)V", (5, u "inflateIfNeededFor"), (2, .nameAndType 221 222), q "getBytes", q "([BIB)V", (69, u "(C)Ljava/lang/AbstractStringBuilder;"), (104, .methodref 10 398), n_ 217 69, m_ 1 220, (3, u "()[B"), (40, .class_ 445), q "java/lang/Appendable", (106, u "getValue")] 56

def k25m0 : Method := mM "<init>" "()V" [] none 0 none
def k25c1 : Code := cK 2 2 jdk_68_method_2_code
def k25m1 : Method := mM "<init>" "(I)V" [.int] none 0 (some k25c1)
def k25c2 : Code := cK 1 1 jdk_68_method_6_code
def k25m2 : Method := mM "length" "()I" [] (some .int) 1 (some k25c2)
def k25c3 : Code := cK 4 3 jdk_68_method_9_code
def k25m3 : Method := mM "ensureCapacityInternal" "(I)V" [.int] none 2 (some k25c3)
def k25c4 : Code := cK 5 2 jdk_68_method_11_code
def k25m4 : Method := mM "inflate" "()V" [] none 2 (some k25c4)
def k25c5 : Code := cK 3 3 jdk_68_method_22_code
def k25m5 : Method := mM "append" "(Ljava/lang/String;)Ljava/lang/AbstractStringBuilder;" [(.object "java/lang/String")] (some (.object "java/lang/AbstractStringBuilder")) 1 (some k25c5)
def k25c6 : Code := cK 5 2 jdk_68_method_31_code
def k25m6 : Method := mM "append" "(C)Ljava/lang/AbstractStringBuilder;" [.char] (some (.object "java/lang/AbstractStringBuilder")) 1 (some k25c6)
def k25c7 : Code := cK 1 1 jdk_68_method_64_code
def k25m7 : Method := mM "getValue" "()[B" [] (some (.array .byte)) 16 (some k25c7)
def k25c8 : Code := cK 1 1 jdk_68_method_68_code
def k25m8 : Method := mM "isLatin1" "()Z" [] (some .boolean) 16 (some k25c8)
def k25c9 : Code := cK 2 2 jdk_68_method_71_code
def k25m9 : Method := mM "inflateIfNeededFor" "(Ljava/lang/String;)V" [(.object "java/lang/String")] none 2 (some k25c9)
def k25c10 : Code := cK 4 3 jdk_68_method_73_code
def k25m10 : Method := mM "putStringAt" "(ILjava/lang/String;)V" [.int, (.object "java/lang/String")] none 2 (some k25c10)
/-- java/lang/AbstractStringBuilder -/
def k25 : Class := { plain "java/lang/AbstractStringBuilder" (some 0) with
  accessFlags := 1056
  interfaces := #[24, 4]
  cf := some (fileOf pool25 10 #[] #[(mI 0 7 8), (mI 0 7 103), (mI 1 34 35), (mI 2 102 103), (mI 2 127 8), (mI 1 45 46), (mI 1 45 292), (mI 16 552 403), (mI 16 85 86), (mI 2 217 69), (mI 2 210 211)] 1056 4 #[444, 48] #[(fI 0 17 14), (fI 0 24 25), (fI 0 75 21), (fI 0 81 82), (fI 26 13 14)])
  fields := #[(fD "value" (.array .byte) 0 0), (fD "coder" .byte 0 1), (fD "maybeLatin1" .boolean 0 2), (fD "count" .int 0 3), (fD "EMPTYVALUE" (.array .byte) 26 0)]
  methods := #[k25m0, k25m1, k25m2, k25m3, k25m4, k25m5, k25m6, k25m7, k25m8, k25m9, k25m10]
  instanceTypes := #[(.array .byte), .byte, .boolean, .int]
  staticTypes := #[(.array .byte)]
  resolved := Array.replicate 609 none
  statics := none }

def pool26 : Array CpInfo := pool [(1, .methodref 2 3), c_ 4, n_ 5 6, q "java/lang/AbstractStringBuilder", q "<init>", q "(I)V", (10, .methodref 18 19), c_ 20, n_ 21 22, q "java/lang/String", q "valueOf", q "(Ljava/lang/Object;)Ljava/lang/String;", m_ 24 25, c_ 26, n_ 27 28, q "java/lang/StringBuilder", q "append", q "(Ljava/lang/String;)Ljava/lang/StringBuilder;", m_ 2 30, n_ 27 31, q "(Ljava/lang/String;)Ljava/lang/AbstractStringBuilder;", (18, .methodref 2 51), n_ 27 52, q "(C)Ljava/lang/AbstractStringBuilder;", (84, .methodref 18 138), n_ 5 139, q "(Ljava/lang/StringBuilder;)V", (5, u "()V"), (10, u "()I"), (129, u "(C)Ljava/lang/StringBuilder;"), (20, u "(Ljava/lang/Object;)Ljava/lang/StringBuilder;"), (35, .methodref 2 344), n_ 345 156, q "length", (3, .class_ 350), q "java/lang/Appendable", c_ 352, q "java/io/Serializable", c_ 354, q "java/lang/Comparable", c_ 356, q "java/lang/CharSequence", q "serialVersionUID", q "J", (40, u "toString"), q "()Ljava/lang/String;"] 21

def k26c0 : Code := cK 2 1 jdk_67_method_1_code
def k26m0 : Method := mM "<init>" "()V" [] none 1 (some k26c0)
def k26c1 : Code := cK 2 2 jdk_67_method_6_code
def k26m1 : Method := mM "append" "(Ljava/lang/Object;)Ljava/lang/StringBuilder;" [(.object "java/lang/Object")] (some (.object "java/lang/StringBuilder")) 1 (some k26c1)
def k26c2 : Code := cK 2 2 jdk_67_method_7_code
def k26m2 : Method := mM "append" "(Ljava/lang/String;)Ljava/lang/StringBuilder;" [(.object "java/lang/String")] (some (.object "java/lang/StringBuilder")) 1 (some k26c2)
def k26c3 : Code := cK 2 2 jdk_67_method_14_code
def k26m3 : Method := mM "append" "(C)Ljava/lang/StringBuilder;" [.char] (some (.object "java/lang/StringBuilder")) 1 (some k26c3)
def k26c4 : Code := cK 3 1 jdk_67_method_42_code
def k26m4 : Method := mM "toString" "()Ljava/lang/String;" [] (some (.object "java/lang/String")) 1 (some k26c4)
def k26c5 : Code := cK 1 1 jdk_67_method_93_code
def k26m5 : Method := mM "length" "()I" [] (some .int) 4161 (some k26c5)
/-- java/lang/StringBuilder -/
def k26 : Class := { plain "java/lang/StringBuilder" (some 25) with
  accessFlags := 49
  interfaces := #[24, 2, 3, 4]
  cf := some (fileOf pool26 24 #[] #[(mI 1 5 145), (mI 1 27 307), (mI 1 27 28), (mI 1 27 286), (mI 1 399 400), (mI 4161 345 156)] 49 2 #[349, 351, 353, 355] #[(fI 24 357 358)])
  fields := #[(fD "serialVersionUID" .long 24 0)]
  methods := #[k26m0, k26m1, k26m2, k26m3, k26m4, k26m5]
  instanceTypes := #[(.array .byte), .byte, .boolean, .int]
  staticTypes := #[.long]
  resolved := Array.replicate 422 none
  statics := none }

def pool27 : Array CpInfo := pool [(2, .class_ 4), (1, u "java/lang/Object"), q "<init>", q "()V", (1, .class_ 10), (1, u "java/lang/System"), q "allowSecurityManager", q "I", (16, u "cons"), q "Ljava/io/Console;", (77, .class_ 110), (1, u "java/lang/System$CallersHolder"), (43, u "initialErrStream"), q "Ljava/io/PrintStream;", (19, u "security"), q "Ljava/lang/SecurityManager;", (31, .class_ 209), q "java/lang/System$1", (7, u "props"), q "Ljava/util/Properties;", (2, u "lineSeparator"), q "Ljava/lang/String;", (96, .class_ 321), (1, u "java/lang/System$LoggerFinder"), (5, .class_ 328), q "java/lang/System$Logger", (67, u "err"), (2, u "out"), (91, u "notSupportedJnuEncoding"), (15, u "in"), (17, u "initialIn"), q "Ljava/io/InputStream;", (35, u "bootLayer"), q "Ljava/lang/ModuleLayer;", (99, .class_ 664), q "java/lang/System$2", (9, u "NEVER"), (2, u "MAYBE"), (49, u "arraycopy"), q "(Ljava/lang/Object;ILjava/lang/Object;II)V", (72, .class_ 802), q "java/lang/System$Logger$Level"] 31

def k27m0 : Method := mM "<init>" "()V" [] none 2 none
def k27m1 : Method := mM "arraycopy" "(Ljava/lang/Object;ILjava/lang/Object;II)V" [(.object "java/lang/Object"), .int, (.object "java/lang/Object"), .int, .int] none 265 none
/-- java/lang/System -/
def k27 : Class := { plain "java/lang/System" (some 0) with
  accessFlags := 49
  interfaces := #[]
  cf := some (fileOf pool27 8 #[.nestMembers #[319, 327, 801, 108, 663, 208]] #[(mI 2 5 6), (mI 265 727 728)] 49 2 #[] #[(fI 25 507 526), (fI 25 399 155), (fI 25 396 155), (fI 10 525 526), (fI 26 674 12), (fI 26 677 12), (fI 10 11 12), (fI 74 175 176), (fI 10 491 222), (fI 74 29 30), (fI 74 154 155), (fI 10 217 218), (fI 10 221 222), (fI 8 562 563)])
  fields := #[(fD "in" (.object "java/io/InputStream") 25 0), (fD "out" (.object "java/io/PrintStream") 25 1), (fD "err" (.object "java/io/PrintStream") 25 2), (fD "initialIn" (.object "java/io/InputStream") 10 3), (fD "NEVER" .int 26 4), (fD "MAYBE" .int 26 5), (fD "allowSecurityManager" .int 10 6), (fD "security" (.object "java/lang/SecurityManager") 74 7), (fD "notSupportedJnuEncoding" (.object "java/lang/String") 10 8), (fD "cons" (.object "java/io/Console") 74 9), (fD "initialErrStream" (.object "java/io/PrintStream") 74 10), (fD "props" (.object "java/util/Properties") 10 11), (fD "lineSeparator" (.object "java/lang/String") 10 12), (fD "bootLayer" (.object "java/lang/ModuleLayer") 8 13)]
  methods := #[k27m0, k27m1]
  instanceTypes := #[]
  staticTypes := #[(.object "java/io/InputStream"), (.object "java/io/PrintStream"), (.object "java/io/PrintStream"), (.object "java/io/InputStream"), .int, .int, .int, (.object "java/lang/SecurityManager"), (.object "java/lang/String"), (.object "java/io/Console"), (.object "java/io/PrintStream"), (.object "java/util/Properties"), (.object "java/lang/String"), (.object "java/lang/ModuleLayer")]
  resolved := Array.replicate 834 none
  statics := none }

def pool28 : Array CpInfo := pool [(16, .class_ 18), (1, u "java/util/Iterator"), q "hasNext", q "()Z", (2, u "next"), q "()Ljava/lang/Object;", (6, .class_ 32), q "java/lang/Object"] 20

def k28m0 : Method := mM "hasNext" "()Z" [] (some .boolean) 1025 none
def k28m1 : Method := mM "next" "()Ljava/lang/Object;" [] (some (.object "java/lang/Object")) 1025 none
/-- java/util/Iterator -/
def k28 : Class := { plain "java/util/Iterator" (some 0) with
  accessFlags := 1537
  interfaces := #[]
  cf := some (fileOf pool28 16 #[] #[(mI 1025 19 20), (mI 1025 23 24)] 1537 31 #[] #[])
  fields := #[]
  methods := #[k28m0, k28m1]
  instanceTypes := #[]
  staticTypes := #[]
  resolved := Array.replicate 53 none
  statics := none }

def pool29 : Array CpInfo := pool [(1, .class_ 2), q "java/util/ListIterator", c_ 4, q "java/lang/Object", c_ 6, q "java/util/Iterator"] 20

/-- java/util/ListIterator -/
def k29 : Class := { plain "java/util/ListIterator" (some 0) with
  accessFlags := 1537
  interfaces := #[28]
  cf := some (fileOf pool29 1 #[] #[] 1537 3 #[5] #[])
  fields := #[]
  methods := #[]
  instanceTypes := #[]
  staticTypes := #[]
  resolved := Array.replicate 27 none
  statics := none }

def pool30 : Array CpInfo := pool [(1, .methodref 2 3), c_ 4, n_ 5 6, q "java/lang/Object", q "<init>", q "()V", f_ 8 9, c_ 10, n_ 11 12, q "java/util/ImmutableCollections$ListItr", q "list", q "Ljava/util/List;", f_ 8 14, n_ 15 16, q "size", q "I", f_ 8 18, n_ 19 16, q "cursor", f_ 8 21, n_ 22 23, q "isListIterator", q "Z", (0, .interfaceMethodref 25 26), c_ 27, n_ 28 29, q "java/util/List", q "get", q "(I)Ljava/lang/Object;", (6, .class_ 38), (1, u "java/util/ImmutableCollections"), (2, .class_ 42), q "java/util/ListIterator", (4, u "(Ljava/util/List;I)V"), (11, u "hasNext"), q "()Z", (1, u "next"), q "()Ljava/lang/Object;"] 22

def k30c0 : Code := cK 2 3 jdk_53_method_1_code
def k30m0 : Method := mM "<init>" "(Ljava/util/List;I)V" [(.object "java/util/List"), .int] none 0 (some k30c0)
def k30c1 : Code := cK 2 1 jdk_53_method_3_code
def k30m1 : Method := mM "hasNext" "()Z" [] (some .boolean) 1 (some k30c1)
def k30c2 : Code := { maxStack := 3, maxLocals := 3, code := jdk_53_method_4_code, exceptionTable := #[{ startPc := 0, endPc := 24, handlerPc := 25, catchType := 30 }], attributes := #[] }
def k30m2 : Method := mM "next" "()Ljava/lang/Object;" [] (some (.object "java/lang/Object")) 1 (some k30c2)
/-- java/util/ImmutableCollections$ListItr -/
def k30 : Class := { plain "java/util/ImmutableCollections$ListItr" (some 0) with
  accessFlags := 48
  interfaces := #[29]
  cf := some (fileOf pool30 8 #[.nestHost 36] #[(mI 0 5 47), (mI 1 59 60), (mI 1 62 63)] 48 2 #[41] #[(fI 18 11 12), (fI 18 15 16), (fI 18 22 23), (fI 2 19 16)])
  fields := #[(fD "list" (.object "java/util/List") 18 0), (fD "size" .int 18 1), (fD "isListIterator" .boolean 18 2), (fD "cursor" .int 2 3)]
  methods := #[k30m0, k30m1, k30m2]
  instanceTypes := #[(.object "java/util/List"), .int, .boolean, .int]
  staticTypes := #[]
  resolved := Array.replicate 86 none
  statics := none }

def pool31 : Array CpInfo := pool [(2, .class_ 4), (1, u "java/lang/Object"), q "<init>", q "()V", (7, .class_ 16), (1, u "java/util/Arrays"), (57, .class_ 76), (1, u "java/util/Arrays$NaturalOrder"), (9, .methodref 2 87), n_ 88 89, q "getClass", q "()Ljava/lang/Class;", (20, .class_ 111), q "[Ljava/lang/Object;", (1, .class_ 115), (1, u "java/util/Arrays$LegacyMergeSort"), (1, u "Z"), (21, u "copyOfRange"), (10, .methodref 151 152), c_ 153, n_ 154 155, q "java/lang/System", q "arraycopy", q "(Ljava/lang/Object;ILjava/lang/Object;II)V", (144, .methodref 14 301), n_ 302 303, q "copyOf", q "([Ljava/lang/Object;ILjava/lang/Class;)[Ljava/lang/Object;", m_ 305 306, c_ 307, n_ 308 309, q "java/lang/Math", q "min", q "(II)I", (29, .methodref 14 340), n_ 341 342, q "copyOfRangeByte", q "([BII)[B", m_ 14 344, n_ 345 346, q "checkLength", q "(II)V", (28, .class_ 376), q "java/util/Arrays$ArrayList", (68, u "$assertionsDisabled"), (269, u "MIN_ARRAY_SORT_GRAN"), q "I", (2, u "INSERTIONSORT_THRESHOLD"), (140, u "([Ljava/lang/Object;I)[Ljava/lang/Object;"), (114, .class_ 976), q "java/util/Arrays$ArrayItr"] 52

def k31m0 : Method := mM "<init>" "()V" [] none 2 none
def k31c1 : Code := cK 3 2 jdk_65_method_119_code
def k31m1 : Method := mM "copyOf" "([Ljava/lang/Object;I)[Ljava/lang/Object;" [(.array (.object "java/lang/Object")), .int] (some (.array (.object "java/lang/Object"))) 9 (some k31c1)
def k31c2 : Code := cK 6 4 jdk_65_method_120_code
def k31m2 : Method := mM "copyOf" "([Ljava/lang/Object;ILjava/lang/Class;)[Ljava/lang/Object;" [(.array (.object "java/lang/Object")), .int, (.object "java/lang/Class")] (some (.array (.object "java/lang/Object"))) 9 (some k31c2)
def k31c3 : Code := cK 4 2 jdk_65_method_131_code
def k31m3 : Method := mM "checkLength" "(II)V" [.int, .int] none 10 (some k31c3)
def k31c4 : Code := cK 3 3 jdk_65_method_132_code
def k31m4 : Method := mM "copyOfRange" "([BII)[B" [(.array .byte), .int, .int] (some (.array .byte)) 9 (some k31c4)
def k31c5 : Code := cK 6 5 jdk_65_method_133_code
def k31m5 : Method := mM "copyOfRangeByte" "([BII)[B" [(.array .byte), .int, .int] (some (.array .byte)) 10 (some k31c5)
/-- java/util/Arrays -/
def k31 : Class := { plain "java/util/Arrays" (some 0) with
  accessFlags := 49
  interfaces := #[]
  cf := some (fileOf pool31 14 #[.nestMembers #[975, 375, 113, 74]] #[(mI 2 5 6), (mI 9 302 860), (mI 9 302 303), (mI 10 345 346), (mI 9 139 342), (mI 10 341 342)] 49 2 #[] #[(fI 26 715 716), (fI 26 719 716), (fI 4120 445 117)])
  fields := #[(fD "MIN_ARRAY_SORT_GRAN" .int 26 0), (fD "INSERTIONSORT_THRESHOLD" .int 26 1), (fD "$assertionsDisabled" .boolean 4120 2)]
  methods := #[k31m0, k31m1, k31m2, k31m3, k31m4, k31m5]
  instanceTypes := #[]
  staticTypes := #[.int, .int, .boolean]
  resolved := Array.replicate 1029 none
  statics := none }

def pool32 : Array CpInfo := pool [(1, .class_ 2), q "java/lang/Math", (1, .class_ 6), (1, u "java/lang/Object"), q "<init>", q "()V", (89, .class_ 100), (1, u "java/lang/Math$RandomNumberGeneratorHolder"), (71, u "negativeZeroFloatBits"), q "J", (2, u "negativeZeroDoubleBits"), (21, u "max"), (2, u "min"), (43, u "$assertionsDisabled"), q "Z", (88, u "(II)I"), (2, u "twoToTheDoubleScaleDown"), q "D", (4, u "twoToTheDoubleScaleUp"), (9, u "E"), (3, u "PI"), (2, u "TAU"), (2, u "DEGREES_TO_RADIANS"), q "RADIANS_TO_DEGREES"] 94

def k32m0 : Method := mM "<init>" "()V" [] none 2 none
def k32c1 : Code := cK 2 2 jdk_29_method_65_code
def k32m1 : Method := mM "max" "(II)I" [.int, .int] (some .int) 9 (some k32c1)
def k32c2 : Code := cK 2 2 jdk_29_method_69_code
def k32m2 : Method := mM "min" "(II)I" [.int, .int] (some .int) 9 (some k32c2)
/-- java/lang/Math -/
def k32 : Class := { plain "java/lang/Math" (some 0) with
  accessFlags := 49
  interfaces := #[]
  cf := some (fileOf pool32 1 #[.nestMembers #[98]] #[(mI 2 7 8), (mI 9 198 335), (mI 9 201 335)] 49 4 #[] #[(fI 25 354 339), (fI 25 358 339), (fI 25 361 339), (fI 26 364 339), (fI 26 365 339), (fI 26 172 173), (fI 26 176 173), (fI 8 344 339), (fI 8 338 339), (fI 4120 245 246)])
  fields := #[(fD "E" .double 25 0), (fD "PI" .double 25 1), (fD "TAU" .double 25 2), (fD "DEGREES_TO_RADIANS" .double 26 3), (fD "RADIANS_TO_DEGREES" .double 26 4), (fD "negativeZeroFloatBits" .long 26 5), (fD "negativeZeroDoubleBits" .long 26 6), (fD "twoToTheDoubleScaleUp" .double 8 7), (fD "twoToTheDoubleScaleDown" .double 8 8), (fD "$assertionsDisabled" .boolean 4120 9)]
  methods := #[k32m0, k32m1, k32m2]
  instanceTypes := #[]
  staticTypes := #[.double, .double, .double, .double, .double, .long, .long, .double, .double, .boolean]
  resolved := Array.replicate 460 none
  statics := none }

def pool33 : Array CpInfo := pool [(1, .class_ 2), q "java/lang/String", (1, .class_ 6), (1, u "java/lang/Object"), q "<init>", q "()V", m_ 1 10, n_ 11 12, q "checkIndex", q "(II)V", (1, .class_ 16), (1, u "java/lang/StringLatin1"), q "inflate", (2, .class_ 22), (1, u "java/lang/StringUTF16"), (3, .nameAndType 17 27), q "([BI[BII)V", (25, u "([BI)C"), (36, u "canEncode"), (14, u "(C)Z"), (15, u "$assertionsDisabled"), q "Z", (98, .class_ 223), (1, u "java/lang/StringLatin1$LinesSpliterator"), (16, .methodref 20 26), (11, u "charAt"), (127, u "toBytes"), (1, u "(C)[B"), (7, .class_ 391), q "java/lang/StringLatin1$CharsSpliterator"] 3

def k33m0 : Method := mM "<init>" "()V" [] none 0 none
def k33c1 : Code := cK 2 2 jdk_43_method_2_code
def k33m1 : Method := mM "charAt" "([BI)C" [(.array .byte), .int] (some .char) 9 (some k33c1)
def k33c2 : Code := cK 2 1 jdk_43_method_3_code
def k33m2 : Method := mM "canEncode" "(C)Z" [.char] (some .boolean) 9 (some k33c2)
def k33c3 : Code := cK 4 1 jdk_43_method_46_code
def k33m3 : Method := mM "toBytes" "(C)[B" [.char] (some (.array .byte)) 9 (some k33c3)
def k33c4 : Code := cK 5 5 jdk_43_method_50_code
def k33m4 : Method := mM "inflate" "([BI[BII)V" [(.array .byte), .int, (.array .byte), .int, .int] none 9 (some k33c4)
/-- java/lang/StringLatin1 -/
def k33 : Class := { plain "java/lang/StringLatin1" (some 0) with
  accessFlags := 48
  interfaces := #[]
  cf := some (fileOf pool33 14 #[.nestMembers #[390, 221]] #[(mI 0 7 8), (mI 9 252 53), (mI 9 90 105), (mI 9 380 382), (mI 9 17 27)] 48 4 #[] #[(fI 4120 121 122)])
  fields := #[(fD "$assertionsDisabled" .boolean 4120 0)]
  methods := #[k33m0, k33m1, k33m2, k33m3, k33m4]
  instanceTypes := #[]
  staticTypes := #[.boolean]
  resolved := Array.replicate 395 none
  statics := none }

def pool34 : Array CpInfo := pool [(2, .class_ 4), (1, u "java/lang/Object"), q "<init>", q "()V", (17, .class_ 26), (1, u "jdk/internal/util/Preconditions"), (6, u "checkIndex"), (15, u "checkFromIndexSize"), (5, .class_ 56), q "jdk/internal/util/Preconditions$4", (57, .class_ 115), q "jdk/internal/util/Preconditions$1", (7, u "SIOOBE_FORMATTER"), q "Ljava/util/function/BiFunction;", c_ 126, q "jdk/internal/util/Preconditions$2", (3, u "AIOOBE_FORMATTER"), c_ 132, q "jdk/internal/util/Preconditions$3", (3, u "IOOBE_FORMATTER"), (41, u "(IILjava/util/function/BiFunction;)I"), (4, u "(IIILjava/util/function/BiFunction;)I")] 10

def k34m0 : Method := mM "<init>" "()V" [] none 1 none
def k34c1 : Code := cK 3 3 jdk_41_method_11_code
def k34m1 : Method := mM "checkIndex" "(IILjava/util/function/BiFunction;)I" [.int, .int, (.object "java/util/function/BiFunction")] (some .int) 9 (some k34c1)
def k34c2 : Code := cK 4 4 jdk_41_method_13_code
def k34m2 : Method := mM "checkFromIndexSize" "(IIILjava/util/function/BiFunction;)I" [.int, .int, .int, (.object "java/util/function/BiFunction")] (some .int) 9 (some k34c2)
/-- jdk/internal/util/Preconditions -/
def k34 : Class := { plain "jdk/internal/util/Preconditions" (some 0) with
  accessFlags := 33
  interfaces := #[]
  cf := some (fileOf pool34 24 #[.nestMembers #[55, 131, 125, 114]] #[(mI 1 5 6), (mI 9 33 178), (mI 9 49 183)] 33 2 #[] #[(fI 25 123 124), (fI 25 130 124), (fI 25 136 124)])
  fields := #[(fD "SIOOBE_FORMATTER" (.object "java/util/function/BiFunction") 25 0), (fD "AIOOBE_FORMATTER" (.object "java/util/function/BiFunction") 25 1), (fD "IOOBE_FORMATTER" (.object "java/util/function/BiFunction") 25 2)]
  methods := #[k34m0, k34m1, k34m2]
  instanceTypes := #[]
  staticTypes := #[(.object "java/util/function/BiFunction"), (.object "java/util/function/BiFunction"), (.object "java/util/function/BiFunction")]
  resolved := Array.replicate 194 none
  statics := some 4 }

def pool35 : Array CpInfo := pool [(2, .class_ 4), (1, u "java/lang/Object"), q "<init>", q "()V", (35, .class_ 44), (1, u "java/util/Objects"), q "requireNonNull", q "(Ljava/lang/Object;)Ljava/lang/Object;"] 137

def k35m0 : Method := mM "<init>" "()V" [] none 2 none
def k35c1 : Code := cK 2 1 jdk_31_method_10_code
def k35m1 : Method := mM "requireNonNull" "(Ljava/lang/Object;)Ljava/lang/Object;" [(.object "java/lang/Object")] (some (.object "java/lang/Object")) 9 (some k35c1)
/-- java/util/Objects -/
def k35 : Class := { plain "java/util/Objects" (some 0) with
  accessFlags := 49
  interfaces := #[]
  cf := some (fileOf pool35 42 #[] #[(mI 2 5 6), (mI 9 45 46)] 49 2 #[] #[])
  fields := #[]
  methods := #[k35m0, k35m1]
  instanceTypes := #[]
  staticTypes := #[]
  resolved := Array.replicate 184 none
  statics := none }

def pool36 : Array CpInfo := pool [(9, u "<init>"), (6, .class_ 18), (1, u "java/lang/Object"), q "()V", (1, .class_ 23), (1, u "jdk/internal/util/ArraysSupport"), q "LOG2_ARRAY_LONG_INDEX_SCALE", q "I", (2, u "U"), q "Ljdk/internal/misc/Unsafe;", (8, u "BIG_ENDIAN"), q "Z", (8, u "LOG2_BYTE_BIT_SIZE"), (4, u "LOG2_ARRAY_INT_INDEX_SCALE"), (54, u "JLA"), q "Ljdk/internal/access/JavaLangAccess;", (11, u "LOG2_ARRAY_BOOLEAN_INDEX_SCALE"), (9, u "LOG2_ARRAY_BYTE_INDEX_SCALE"), (5, u "LOG2_ARRAY_CHAR_INDEX_SCALE"), (5, u "LOG2_ARRAY_SHORT_INDEX_SCALE"), (18, u "LOG2_ARRAY_FLOAT_INDEX_SCALE"), (24, u "LOG2_ARRAY_DOUBLE_INDEX_SCALE"), (89, u "T_BOOLEAN"), (2, u "T_CHAR"), (1, u "T_FLOAT"), (1, u "T_DOUBLE"), (1, u "T_BYTE"), (1, u "T_SHORT"), (1, u "T_INT"), (1, u "T_LONG"), (1, u "SOFT_MAX_ARRAY_LENGTH")] 83

def k36m0 : Method := mM "<init>" "()V" [] none 2 none
/-- jdk/internal/util/ArraysSupport -/
def k36 : Class := { plain "jdk/internal/util/ArraysSupport" (some 0) with
  accessFlags := 33
  interfaces := #[]
  cf := some (fileOf pool36 21 #[] #[(mI 2 9 19)] 33 16 #[] #[(fI 24 28 29), (fI 26 38 39), (fI 25 121 25), (fI 25 131 25), (fI 25 137 25), (fI 25 143 25), (fI 25 53 25), (fI 25 24 25), (fI 25 162 25), (fI 25 187 25), (fI 26 48 25), (fI 25 277 25), (fI 25 280 25), (fI 25 282 25), (fI 25 284 25), (fI 25 286 25), (fI 25 288 25), (fI 25 290 25), (fI 25 292 25), (fI 26 108 109), (fI 25 294 25)])
  fields := #[(fD "U" (.object "jdk/internal/misc/Unsafe") 24 0), (fD "BIG_ENDIAN" .boolean 26 1), (fD "LOG2_ARRAY_BOOLEAN_INDEX_SCALE" .int 25 2), (fD "LOG2_ARRAY_BYTE_INDEX_SCALE" .int 25 3), (fD "LOG2_ARRAY_CHAR_INDEX_SCALE" .int 25 4), (fD "LOG2_ARRAY_SHORT_INDEX_SCALE" .int 25 5), (fD "LOG2_ARRAY_INT_INDEX_SCALE" .int 25 6), (fD "LOG2_ARRAY_LONG_INDEX_SCALE" .int 25 7), (fD "LOG2_ARRAY_FLOAT_INDEX_SCALE" .int 25 8), (fD "LOG2_ARRAY_DOUBLE_INDEX_SCALE" .int 25 9), (fD "LOG2_BYTE_BIT_SIZE" .int 26 10), (fD "T_BOOLEAN" .int 25 11), (fD "T_CHAR" .int 25 12), (fD "T_FLOAT" .int 25 13), (fD "T_DOUBLE" .int 25 14), (fD "T_BYTE" .int 25 15), (fD "T_SHORT" .int 25 16), (fD "T_INT" .int 25 17), (fD "T_LONG" .int 25 18), (fD "JLA" (.object "jdk/internal/access/JavaLangAccess") 26 19), (fD "SOFT_MAX_ARRAY_LENGTH" .int 25 20)]
  methods := #[k36m0]
  instanceTypes := #[]
  staticTypes := #[(.object "jdk/internal/misc/Unsafe"), .boolean, .int, .int, .int, .int, .int, .int, .int, .int, .int, .int, .int, .int, .int, .int, .int, .int, .int, (.object "jdk/internal/access/JavaLangAccess"), .int]
  resolved := Array.replicate 378 none
  statics := none }

def pool37 : Array CpInfo := pool [(1, u "java/lang/Class"), c_ 1, q "java/lang/Object", c_ 3] 0

/-- java/lang/Class -/
def k37 : Class := { plain "java/lang/Class" (some 0) with
  accessFlags := 49
  interfaces := #[]
  cf := some (fileOf pool37 2 #[] #[] 49 4 #[] #[])
  fields := #[]
  methods := #[]
  instanceTypes := #[]
  staticTypes := #[]
  resolved := Array.replicate 5 none
  statics := none }

/-- the primitive byte -/
def k38 : Class := { plain "byte" none with kind := .primitive 'B', accessFlags := 0x411 }
/-- [B -/
def k39 : Class := { plain "[B" (some 0) with kind := .array 38 .byte, interfaces := #[16, 2], accessFlags := 1041 }

/-- the primitive char -/
def k40 : Class := { plain "char" none with kind := .primitive 'C', accessFlags := 0x411 }
/-- [C -/
def k41 : Class := { plain "[C" (some 0) with kind := .array 40 .char, interfaces := #[16, 2], accessFlags := 1041 }

/-- the primitive int -/
def k42 : Class := { plain "int" none with kind := .primitive 'I', accessFlags := 0x411 }
/-- [I -/
def k43 : Class := { plain "[I" (some 0) with kind := .array 42 .int, interfaces := #[16, 2], accessFlags := 1041 }

/-- [Ljava/lang/Object; -/
def k44 : Class := { plain "[Ljava/lang/Object;" (some 0) with kind := .array 0 (.object "java/lang/Object"), mirror := some 5, interfaces := #[16, 2], accessFlags := 1041 }

def heap : Heap := #[{ cls := 7, slots := #[.long 0, .int 1, .null, .int 0, .null, .int 0, .int 0], vm := .statics 7 },
  { cls := 8, slots := #[.int 0, .int 8, .int 0, .int 1], vm := .statics 8 },
  { cls := 17, slots := #[.long 0, .int 0, .ref 6, .ref 7], vm := .statics 17 },
  { cls := 19, slots := #[.long 0, .int 0, .null, .ref 9, .ref 8, .null, .null, .null, .int 0, .int 1], vm := .statics 19 },
  { cls := 34, slots := #[.null, .null, .null], vm := .statics 34 },
  { cls := 37, slots := #[], vm := .mirror 44 },
  { cls := 44, slots := #[], vm := .none },
  { cls := 44, slots := #[], vm := .none },
  { cls := 23, slots := #[.ref 6, .int 0], vm := .none },
  { cls := 0, slots := #[], vm := .none }]
def classes : Array Class := #[k0, k1, k2, k3, k4, k5, k6, k7, k8, k9, k10, k11, k12, k13, k14, k15, k16, k17, k18, k19, k20, k21, k22, k23, k24, k25, k26, k27, k28, k29, k30, k31, k32, k33, k34, k35, k36, k37, k38, k39, k40, k41, k42, k43, k44]
def interned : List (Array UInt16 × Addr) := []
def slotsUsed : Nat := 30
def theMethod : MethodId := ⟨1, 2⟩
def args0 : Array Value := #[.int 65, .int 66, .int 67, .int 68]
def aboutOver (below : List Frame) : State where
  vm := { classes := classes, interned := interned.toArray }
  heap := heap
  slotsUsed := slotsUsed
  threads := #[{ frames := .invoking theMethod args0 :: below }]
def below0 : List Frame := [.native { method := ⟨0, 0⟩, args := #[] }]
def about1 : State := aboutOver below0
def p0 : Program := .bare "" "" ""
def e0 : Env := launch0.env 0 0 0
theorem w_frames : about1.frames = Frame.invoking theMethod args0 :: below0 := rfl
theorem w_args : argsFit about1.vm theMethod args0 = true := by decide +kernel
theorem w_heap : heapFits about1 = true := by decide +kernel
theorem w_runnable : about1.curStatus? = some .runnable := by decide +kernel
theorem w_alone : about1.alone = true := by decide +kernel
theorem w_named : about1.methodNamed? x = some theMethod := by decide +kernel
theorem w_hears : about1.hears theMethod below0 = true := by decide +kernel
theorem w_ripe : about1.ripe theMethod args0 below0 = true := by decide +kernel
theorem w_running : about1.status = .running := rfl
theorem w_room : about1.hasRoom e0.platform room_1 = true :=
  launch0.hasRoom_least _ room_1 (by decide +kernel) (by decide +kernel) (by decide +kernel) (by decide +kernel) (by decide +kernel) (by decide +kernel)
theorem allAtoms_all (ts : List Jvm.Cond) (a : Array Jvm.Value) (st : Jvm.State) : (allAtoms ts).before a st = ts.all (fun c => c.before a st) := by
  induction ts with
  | nil => rfl
  | cons c t ih =>
    show (Jvm.Cond.and c (allAtoms t)).before a st = _
    rw [Jvm.Cond.before_and, ih, List.all_cons]
def words1 : List Jvm.Cond := Jvm.Cond.code x code maxLocals ret :: tables_1
/-- a 'code' word, met by the world's own term for the bytes: nothing is compared byte by byte -/
theorem code_word {y : MethodName} {bytes : ByteArray} {mx : Nat} {rt : Option FieldType} {a : Array Value} {s : State} {m : MethodId} {meth : Method} {c : Code} (h1 : s.methodNamed? y = some m) (h2 : s.vm.method? m = some meth) (h3 : meth.code = some c) (h4 : c.code = bytes)
    (h5 : (c.maxLocals == mx && c.exceptionTable.isEmpty && decide (c.maxStack ≤ mostOperands) && decide (meth.sig.returnType = rt) && !meth.locks && decide (parseMethodDescriptor y.desc = some meth.sig)) = true) : (Jvm.Cond.code y bytes mx rt).before a s = true := by
  simp only [Bool.and_eq_true, beq_iff_eq, Bool.not_eq_true', decide_eq_true_eq] at h5
  obtain ⟨⟨⟨⟨⟨g1, g2⟩, g3⟩, g4⟩, g5⟩, g6⟩ := h5
  simp [Cond.before, Cond.holds, Cond.value, h1, h2, h3, h4, g1, g2, g3, g4, g5, g6]
def isCode : Jvm.Cond → Bool
  | .code _ _ _ _ => true
  | _ => false
theorem all_split {L : List Jvm.Cond} {P : Jvm.Cond → Bool} (h1 : L.all (fun c => isCode c || P c) = true) (h2 : ∀ c ∈ L.filter isCode, P c = true) : L.all P = true := by
  refine List.all_eq_true.mpr fun c hc => ?_
  have h := List.all_eq_true.mp h1 c hc
  rcases Bool.eq_false_or_eq_true (isCode c) with hi | hi
  · exact h2 c (List.mem_filter.mpr ⟨hc, hi⟩)
  · simpa [hi] using h
theorem cw {y : MethodName} {bytes : ByteArray} {mx : Nat} {rt : Option FieldType} {a : Array Value} {s : State} (m : MethodId) (meth : Method) (c : Code) (h1 : s.methodNamed? y = some m := by decide +kernel) (h2 : s.vm.method? m = some meth := by rfl) (h3 : meth.code = some c := by rfl) (h4 : c.code = bytes := by rfl)
    (h5 : (c.maxLocals == mx && c.exceptionTable.isEmpty && decide (c.maxStack ≤ mostOperands) && decide (meth.sig.returnType = rt) && !meth.locks && decide (parseMethodDescriptor y.desc = some meth.sig)) = true := by decide +kernel) : (Jvm.Cond.code y bytes mx rt).before a s = true := code_word h1 h2 h3 h4 h5
abbrev v0 : Jvm.Cond := .code x code maxLocals ret
abbrev v1 : Jvm.Cond := .code ⟨"java/lang/String", "<init>", "([C)V"⟩ jdk_42_method_3_code 2 none
abbrev v2 : Jvm.Cond := .code ⟨"java/lang/String", "<init>", "([CIILjava/lang/Void;)V"⟩ jdk_42_method_149_code 6 none
abbrev v3 : Jvm.Cond := .code ⟨"java/lang/Object", "<init>", "()V"⟩ object_method_1_code 1 none
abbrev v4 : Jvm.Cond := .code ⟨"java/lang/StringUTF16", "compress", "([CII)[B"⟩ jdk_52_method_16_code 6 (some (.array .byte))
abbrev v5 : Jvm.Cond := .code ⟨"java/lang/StringUTF16", "compress", "([CI[BII)I"⟩ jdk_52_method_21_code 7 (some .int)
abbrev v6 : Jvm.Cond := .code ⟨"java/lang/StringUTF16", "coderFromArrayLen", "([BI)B"⟩ jdk_52_method_15_code 2 (some .byte)
abbrev v7 : Jvm.Cond := .code ⟨"java/util/ArrayList", "<init>", "()V"⟩ jdk_38_method_2_code 1 none
abbrev v8 : Jvm.Cond := .code ⟨"java/util/AbstractList", "<init>", "()V"⟩ jdk_39_method_1_code 1 none
abbrev v9 : Jvm.Cond := .code ⟨"java/util/AbstractCollection", "<init>", "()V"⟩ jdk_22_method_1_code 1 none
abbrev v10 : Jvm.Cond := .code ⟨"com/example/kvasir/kvasir/sql/SqlQuery", "<init>", "(Ljava/lang/String;Ljava/util/List;I)V"⟩ prog_6_method_1_code 4 none
abbrev v11 : Jvm.Cond := .code ⟨"java/util/List", "copyOf", "(Ljava/util/Collection;)Ljava/util/List;"⟩ jdk_40_method_48_code 1 (some (.object "java/util/List"))
abbrev v12 : Jvm.Cond := .code ⟨"java/util/ImmutableCollections", "listCopy", "(Ljava/util/Collection;)Ljava/util/List;"⟩ jdk_56_method_3_code 2 (some (.object "java/util/List"))
abbrev v13 : Jvm.Cond := .code ⟨"java/util/ArrayList", "isEmpty", "()Z"⟩ jdk_38_method_9_code 1 (some .boolean)
abbrev v14 : Jvm.Cond := .code ⟨"java/util/List", "of", "()Ljava/util/List;"⟩ jdk_40_method_36_code 0 (some (.object "java/util/List"))
abbrev v15 : Jvm.Cond := .code ⟨"com/example/kvasir/kvasir/sql/SqlQuery", "toString", "()Ljava/lang/String;"⟩ prog_6_method_5_code 1 (some (.object "java/lang/String"))
abbrev v16 : Jvm.Cond := .code ⟨"java/lang/StringBuilder", "<init>", "()V"⟩ jdk_67_method_1_code 1 none
abbrev v17 : Jvm.Cond := .code ⟨"java/lang/AbstractStringBuilder", "<init>", "(I)V"⟩ jdk_68_method_2_code 2 none
abbrev v18 : Jvm.Cond := .code ⟨"java/lang/StringBuilder", "append", "(Ljava/lang/String;)Ljava/lang/StringBuilder;"⟩ jdk_67_method_7_code 2 (some (.object "java/lang/StringBuilder"))
abbrev v19 : Jvm.Cond := .code ⟨"java/lang/AbstractStringBuilder", "append", "(Ljava/lang/String;)Ljava/lang/AbstractStringBuilder;"⟩ jdk_68_method_22_code 3 (some (.object "java/lang/AbstractStringBuilder"))
abbrev v20 : Jvm.Cond := .code ⟨"java/lang/String", "length", "()I"⟩ jdk_42_method_54_code 1 (some .int)
abbrev v21 : Jvm.Cond := .code ⟨"java/lang/String", "coder", "()B"⟩ jdk_42_method_152_code 1 (some .byte)
abbrev v22 : Jvm.Cond := .code ⟨"java/lang/AbstractStringBuilder", "ensureCapacityInternal", "(I)V"⟩ jdk_68_method_9_code 3 none
abbrev v23 : Jvm.Cond := .code ⟨"java/lang/AbstractStringBuilder", "putStringAt", "(ILjava/lang/String;)V"⟩ jdk_68_method_73_code 3 none
abbrev v24 : Jvm.Cond := .code ⟨"java/lang/AbstractStringBuilder", "inflateIfNeededFor", "(Ljava/lang/String;)V"⟩ jdk_68_method_71_code 2 none
abbrev v25 : Jvm.Cond := .code ⟨"java/lang/String", "getBytes", "([BIB)V"⟩ jdk_42_method_147_code 4 none
abbrev v26 : Jvm.Cond := .code ⟨"java/lang/StringBuilder", "append", "(Ljava/lang/Object;)Ljava/lang/StringBuilder;"⟩ jdk_67_method_6_code 2 (some (.object "java/lang/StringBuilder"))
abbrev v27 : Jvm.Cond := .code ⟨"java/lang/String", "valueOf", "(Ljava/lang/Object;)Ljava/lang/String;"⟩ jdk_42_method_133_code 1 (some (.object "java/lang/String"))
abbrev v28 : Jvm.Cond := .code ⟨"java/util/AbstractCollection", "toString", "()Ljava/lang/String;"⟩ jdk_22_method_16_code 4 (some (.object "java/lang/String"))
abbrev v29 : Jvm.Cond := .code ⟨"java/util/ImmutableCollections$AbstractImmutableList", "iterator", "()Ljava/util/Iterator;"⟩ jdk_46_method_10_code 1 (some (.object "java/util/Iterator"))
abbrev v30 : Jvm.Cond := .code ⟨"java/util/ImmutableCollections$ListN", "size", "()I"⟩ jdk_45_method_3_code 1 (some .int)
abbrev v31 : Jvm.Cond := .code ⟨"java/util/ImmutableCollections$ListItr", "<init>", "(Ljava/util/List;I)V"⟩ jdk_53_method_1_code 3 none
abbrev v32 : Jvm.Cond := .code ⟨"java/util/ImmutableCollections$ListItr", "hasNext", "()Z"⟩ jdk_53_method_3_code 1 (some .boolean)
abbrev v33 : Jvm.Cond := .code ⟨"java/lang/StringBuilder", "toString", "()Ljava/lang/String;"⟩ jdk_67_method_42_code 1 (some (.object "java/lang/String"))
abbrev v34 : Jvm.Cond := .code ⟨"java/lang/String", "<init>", "(Ljava/lang/StringBuilder;)V"⟩ jdk_42_method_53_code 2 none
abbrev v35 : Jvm.Cond := .code ⟨"java/lang/String", "<init>", "(Ljava/lang/AbstractStringBuilder;Ljava/lang/Void;)V"⟩ jdk_42_method_150_code 5 none
abbrev v36 : Jvm.Cond := .code ⟨"java/lang/AbstractStringBuilder", "getValue", "()[B"⟩ jdk_68_method_64_code 1 (some (.array .byte))
abbrev v37 : Jvm.Cond := .code ⟨"java/lang/StringBuilder", "length", "()I"⟩ jdk_67_method_93_code 1 (some .int)
abbrev v38 : Jvm.Cond := .code ⟨"java/lang/AbstractStringBuilder", "length", "()I"⟩ jdk_68_method_6_code 1 (some .int)
abbrev v39 : Jvm.Cond := .code ⟨"java/lang/AbstractStringBuilder", "isLatin1", "()Z"⟩ jdk_68_method_68_code 1 (some .boolean)
abbrev v40 : Jvm.Cond := .code ⟨"java/util/Arrays", "copyOfRange", "([BII)[B"⟩ jdk_65_method_132_code 3 (some (.array .byte))
abbrev v41 : Jvm.Cond := .code ⟨"java/util/Arrays", "copyOfRangeByte", "([BII)[B"⟩ jdk_65_method_133_code 5 (some (.array .byte))
abbrev v42 : Jvm.Cond := .code ⟨"java/util/Arrays", "checkLength", "(II)V"⟩ jdk_65_method_131_code 2 none
abbrev v43 : Jvm.Cond := .code ⟨"java/lang/Math", "min", "(II)I"⟩ jdk_29_method_69_code 2 (some .int)
abbrev v44 : Jvm.Cond := .code ⟨"com/example/kvasir/kvasir/sql/SqlQueryToStringPinLaw", "at", "(Ljava/lang/String;[CII)Z"⟩ method_2_code 4 (some .boolean)
abbrev v45 : Jvm.Cond := .code ⟨"java/lang/String", "charAt", "(I)C"⟩ jdk_42_method_56_code 2 (some .char)
abbrev v46 : Jvm.Cond := .code ⟨"java/lang/String", "isLatin1", "()Z"⟩ jdk_42_method_154_code 1 (some .boolean)
abbrev v47 : Jvm.Cond := .code ⟨"java/lang/StringLatin1", "charAt", "([BI)C"⟩ jdk_43_method_2_code 2 (some .char)
abbrev v48 : Jvm.Cond := .code ⟨"java/lang/String", "checkIndex", "(II)V"⟩ jdk_42_method_155_code 2 none
abbrev v49 : Jvm.Cond := .code ⟨"jdk/internal/util/Preconditions", "checkIndex", "(IILjava/util/function/BiFunction;)I"⟩ jdk_41_method_11_code 3 (some .int)
abbrev v50 : Jvm.Cond := .code ⟨"java/lang/String", "valueOf", "(C)Ljava/lang/String;"⟩ jdk_42_method_139_code 1 (some (.object "java/lang/String"))
abbrev v51 : Jvm.Cond := .code ⟨"java/lang/StringLatin1", "canEncode", "(C)Z"⟩ jdk_43_method_3_code 1 (some .boolean)
abbrev v52 : Jvm.Cond := .code ⟨"java/lang/StringLatin1", "toBytes", "(C)[B"⟩ jdk_43_method_46_code 1 (some (.array .byte))
abbrev v53 : Jvm.Cond := .code ⟨"java/lang/String", "<init>", "([BB)V"⟩ jdk_42_method_151_code 3 none
abbrev v54 : Jvm.Cond := .code ⟨"java/util/ArrayList", "add", "(Ljava/lang/Object;)Z"⟩ jdk_38_method_25_code 2 (some .boolean)
abbrev v55 : Jvm.Cond := .code ⟨"java/util/ArrayList", "add", "(Ljava/lang/Object;[Ljava/lang/Object;I)V"⟩ jdk_38_method_24_code 4 none
abbrev v56 : Jvm.Cond := .code ⟨"java/util/ArrayList", "grow", "()[Ljava/lang/Object;"⟩ jdk_38_method_7_code 1 (some (.array (.object "java/lang/Object")))
abbrev v57 : Jvm.Cond := .code ⟨"java/util/ArrayList", "grow", "(I)[Ljava/lang/Object;"⟩ jdk_38_method_6_code 4 (some (.array (.object "java/lang/Object")))
abbrev v58 : Jvm.Cond := .code ⟨"java/lang/Math", "max", "(II)I"⟩ jdk_29_method_65_code 2 (some .int)
abbrev v59 : Jvm.Cond := .code ⟨"java/util/ArrayList", "toArray", "()[Ljava/lang/Object;"⟩ jdk_38_method_16_code 1 (some (.array (.object "java/lang/Object")))
abbrev v60 : Jvm.Cond := .code ⟨"java/util/Arrays", "copyOf", "([Ljava/lang/Object;I)[Ljava/lang/Object;"⟩ jdk_65_method_119_code 2 (some (.array (.object "java/lang/Object")))
abbrev v61 : Jvm.Cond := .code ⟨"java/util/Arrays", "copyOf", "([Ljava/lang/Object;ILjava/lang/Class;)[Ljava/lang/Object;"⟩ jdk_65_method_120_code 4 (some (.array (.object "java/lang/Object")))
abbrev v62 : Jvm.Cond := .code ⟨"java/util/List", "of", "([Ljava/lang/Object;)Ljava/util/List;"⟩ jdk_40_method_47_code 2 (some (.object "java/util/List"))
abbrev v63 : Jvm.Cond := .code ⟨"java/util/ImmutableCollections$List12", "<init>", "(Ljava/lang/Object;)V"⟩ jdk_44_method_1_code 2 none
abbrev v64 : Jvm.Cond := .code ⟨"java/util/ImmutableCollections$AbstractImmutableList", "<init>", "()V"⟩ jdk_46_method_1_code 1 none
abbrev v65 : Jvm.Cond := .code ⟨"java/util/ImmutableCollections$AbstractImmutableCollection", "<init>", "()V"⟩ jdk_47_method_1_code 1 none
abbrev v66 : Jvm.Cond := .code ⟨"java/util/Objects", "requireNonNull", "(Ljava/lang/Object;)Ljava/lang/Object;"⟩ jdk_31_method_10_code 1 (some (.object "java/lang/Object"))
abbrev v67 : Jvm.Cond := .code ⟨"java/util/ImmutableCollections$List12", "size", "()I"⟩ jdk_44_method_3_code 1 (some .int)
abbrev v68 : Jvm.Cond := .code ⟨"java/lang/StringBuilder", "append", "(C)Ljava/lang/StringBuilder;"⟩ jdk_67_method_14_code 2 (some (.object "java/lang/StringBuilder"))
abbrev v69 : Jvm.Cond := .code ⟨"java/lang/AbstractStringBuilder", "append", "(C)Ljava/lang/AbstractStringBuilder;"⟩ jdk_68_method_31_code 2 (some (.object "java/lang/AbstractStringBuilder"))
abbrev v70 : Jvm.Cond := .code ⟨"java/util/ImmutableCollections$List12", "get", "(I)Ljava/lang/Object;"⟩ jdk_44_method_5_code 2 (some (.object "java/lang/Object"))
abbrev v71 : Jvm.Cond := .code ⟨"java/lang/String", "toString", "()Ljava/lang/String;"⟩ jdk_42_method_126_code 1 (some (.object "java/lang/String"))
abbrev v72 : Jvm.Cond := .code ⟨"java/util/ImmutableCollections$List12", "<init>", "(Ljava/lang/Object;Ljava/lang/Object;)V"⟩ jdk_44_method_2_code 3 none
abbrev v73 : Jvm.Cond := .code ⟨"java/lang/StringUTF16", "toBytes", "(C)[B"⟩ jdk_52_method_24_code 2 (some (.array .byte))
abbrev v74 : Jvm.Cond := .code ⟨"java/lang/StringUTF16", "putChar", "([BII)V"⟩ jdk_52_method_4_code 3 none
abbrev v75 : Jvm.Cond := .code ⟨"java/lang/AbstractStringBuilder", "inflate", "()V"⟩ jdk_68_method_11_code 2 none
abbrev v76 : Jvm.Cond := .code ⟨"java/lang/StringUTF16", "newBytesFor", "(I)[B"⟩ jdk_52_method_2_code 1 (some (.array .byte))
abbrev v77 : Jvm.Cond := .code ⟨"java/lang/StringUTF16", "newBytesLength", "(I)I"⟩ jdk_52_method_3_code 1 (some .int)
abbrev v78 : Jvm.Cond := .code ⟨"java/lang/StringLatin1", "inflate", "([BI[BII)V"⟩ jdk_43_method_50_code 5 none
abbrev v79 : Jvm.Cond := .code ⟨"java/lang/StringUTF16", "inflate", "([BI[BII)V"⟩ jdk_52_method_86_code 6 none
abbrev v80 : Jvm.Cond := .code ⟨"java/lang/StringUTF16", "checkBoundsOffCount", "(II[B)V"⟩ jdk_52_method_94_code 3 none
abbrev v81 : Jvm.Cond := .code ⟨"java/lang/StringUTF16", "length", "([B)I"⟩ jdk_52_method_6_code 1 (some .int)
abbrev v82 : Jvm.Cond := .code ⟨"java/lang/String", "checkBoundsOffCount", "(III)I"⟩ jdk_42_method_157_code 3 (some .int)
abbrev v83 : Jvm.Cond := .code ⟨"jdk/internal/util/Preconditions", "checkFromIndexSize", "(IIILjava/util/function/BiFunction;)I"⟩ jdk_41_method_13_code 4 (some .int)
abbrev v84 : Jvm.Cond := .code ⟨"java/lang/StringUTF16", "putCharSB", "([BII)V"⟩ jdk_52_method_71_code 3 none
abbrev v85 : Jvm.Cond := .code ⟨"java/lang/StringUTF16", "checkIndex", "(I[B)V"⟩ jdk_52_method_91_code 2 none
abbrev v86 : Jvm.Cond := .code ⟨"java/lang/StringUTF16", "charAt", "([BI)C"⟩ jdk_52_method_83_code 2 (some .char)
abbrev v87 : Jvm.Cond := .code ⟨"java/lang/StringUTF16", "getChar", "([BI)C"⟩ jdk_52_method_5_code 2 (some .char)
abbrev v88 : Jvm.Cond := .code ⟨"java/lang/StringUTF16", "toBytes", "([CII)[B"⟩ jdk_52_method_14_code 5 (some (.array .byte))
theorem w_c0 : v0.before args0 about1 = true := cw ⟨1, 2⟩ k1m2 k1c2
theorem w_c1 : v1.before args0 about1 = true := cw ⟨7, 1⟩ k7m1 k7c1
theorem w_c2 : v2.before args0 about1 = true := cw ⟨7, 9⟩ k7m9 k7c9
theorem w_c3 : v3.before args0 about1 = true := cw ⟨0, 0⟩ k0m0 k0c0
theorem w_c4 : v4.before args0 about1 = true := cw ⟨8, 8⟩ k8m8 k8c8
theorem w_c5 : v5.before args0 about1 = true := cw ⟨8, 9⟩ k8m9 k8c9
theorem w_c6 : v6.before args0 about1 = true := cw ⟨8, 7⟩ k8m7 k8c7
theorem w_c7 : v7.before args0 about1 = true := cw ⟨17, 0⟩ k17m0 k17c0
theorem w_c8 : v8.before args0 about1 = true := cw ⟨14, 0⟩ k14m0 k14c0
theorem w_c9 : v9.before args0 about1 = true := cw ⟨11, 0⟩ k11m0 k11c0
theorem w_c10 : v10.before args0 about1 = true := cw ⟨18, 0⟩ k18m0 k18c0
theorem w_c11 : v11.before args0 about1 = true := cw ⟨13, 3⟩ k13m3 k13c3
theorem w_c12 : v12.before args0 about1 = true := cw ⟨19, 1⟩ k19m1 k19c1
theorem w_c13 : v13.before args0 about1 = true := cw ⟨17, 3⟩ k17m3 k17c3
theorem w_c14 : v14.before args0 about1 = true := cw ⟨13, 1⟩ k13m1 k13c1
theorem w_c15 : v15.before args0 about1 = true := cw ⟨18, 1⟩ k18m1 k18c1
theorem w_c16 : v16.before args0 about1 = true := cw ⟨26, 0⟩ k26m0 k26c0
theorem w_c17 : v17.before args0 about1 = true := cw ⟨25, 1⟩ k25m1 k25c1
theorem w_c18 : v18.before args0 about1 = true := cw ⟨26, 2⟩ k26m2 k26c2
theorem w_c19 : v19.before args0 about1 = true := cw ⟨25, 5⟩ k25m5 k25c5
theorem w_c20 : v20.before args0 about1 = true := cw ⟨7, 3⟩ k7m3 k7c3
theorem w_c21 : v21.before args0 about1 = true := cw ⟨7, 12⟩ k7m12 k7c12
theorem w_c22 : v22.before args0 about1 = true := cw ⟨25, 3⟩ k25m3 k25c3
theorem w_c23 : v23.before args0 about1 = true := cw ⟨25, 10⟩ k25m10 k25c10
theorem w_c24 : v24.before args0 about1 = true := cw ⟨25, 9⟩ k25m9 k25c9
theorem w_c25 : v25.before args0 about1 = true := cw ⟨7, 8⟩ k7m8 k7c8
theorem w_c26 : v26.before args0 about1 = true := cw ⟨26, 1⟩ k26m1 k26c1
theorem w_c27 : v27.before args0 about1 = true := cw ⟨7, 6⟩ k7m6 k7c6
theorem w_c28 : v28.before args0 about1 = true := cw ⟨11, 3⟩ k11m3 k11c3
theorem w_c29 : v29.before args0 about1 = true := cw ⟨21, 1⟩ k21m1 k21c1
theorem w_c30 : v30.before args0 about1 = true := cw ⟨23, 0⟩ k23m0 k23c0
theorem w_c31 : v31.before args0 about1 = true := cw ⟨30, 0⟩ k30m0 k30c0
theorem w_c32 : v32.before args0 about1 = true := cw ⟨30, 1⟩ k30m1 k30c1
theorem w_c33 : v33.before args0 about1 = true := cw ⟨26, 4⟩ k26m4 k26c4
theorem w_c34 : v34.before args0 about1 = true := cw ⟨7, 2⟩ k7m2 k7c2
theorem w_c35 : v35.before args0 about1 = true := cw ⟨7, 10⟩ k7m10 k7c10
theorem w_c36 : v36.before args0 about1 = true := cw ⟨25, 7⟩ k25m7 k25c7
theorem w_c37 : v37.before args0 about1 = true := cw ⟨26, 5⟩ k26m5 k26c5
theorem w_c38 : v38.before args0 about1 = true := cw ⟨25, 2⟩ k25m2 k25c2
theorem w_c39 : v39.before args0 about1 = true := cw ⟨25, 8⟩ k25m8 k25c8
theorem w_c40 : v40.before args0 about1 = true := cw ⟨31, 4⟩ k31m4 k31c4
theorem w_c41 : v41.before args0 about1 = true := cw ⟨31, 5⟩ k31m5 k31c5
theorem w_c42 : v42.before args0 about1 = true := cw ⟨31, 3⟩ k31m3 k31c3
theorem w_c43 : v43.before args0 about1 = true := cw ⟨32, 2⟩ k32m2 k32c2
theorem w_c44 : v44.before args0 about1 = true := cw ⟨1, 1⟩ k1m1 k1c1
theorem w_c45 : v45.before args0 about1 = true := cw ⟨7, 4⟩ k7m4 k7c4
theorem w_c46 : v46.before args0 about1 = true := cw ⟨7, 13⟩ k7m13 k7c13
theorem w_c47 : v47.before args0 about1 = true := cw ⟨33, 1⟩ k33m1 k33c1
theorem w_c48 : v48.before args0 about1 = true := cw ⟨7, 14⟩ k7m14 k7c14
theorem w_c49 : v49.before args0 about1 = true := cw ⟨34, 1⟩ k34m1 k34c1
theorem w_c50 : v50.before args0 about1 = true := cw ⟨7, 7⟩ k7m7 k7c7
theorem w_c51 : v51.before args0 about1 = true := cw ⟨33, 2⟩ k33m2 k33c2
theorem w_c52 : v52.before args0 about1 = true := cw ⟨33, 3⟩ k33m3 k33c3
theorem w_c53 : v53.before args0 about1 = true := cw ⟨7, 11⟩ k7m11 k7c11
theorem w_c54 : v54.before args0 about1 = true := cw ⟨17, 6⟩ k17m6 k17c6
theorem w_c55 : v55.before args0 about1 = true := cw ⟨17, 5⟩ k17m5 k17c5
theorem w_c56 : v56.before args0 about1 = true := cw ⟨17, 2⟩ k17m2 k17c2
theorem w_c57 : v57.before args0 about1 = true := cw ⟨17, 1⟩ k17m1 k17c1
theorem w_c58 : v58.before args0 about1 = true := cw ⟨32, 1⟩ k32m1 k32c1
theorem w_c59 : v59.before args0 about1 = true := cw ⟨17, 4⟩ k17m4 k17c4
theorem w_c60 : v60.before args0 about1 = true := cw ⟨31, 1⟩ k31m1 k31c1
theorem w_c61 : v61.before args0 about1 = true := cw ⟨31, 2⟩ k31m2 k31c2
theorem w_c62 : v62.before args0 about1 = true := cw ⟨13, 2⟩ k13m2 k13c2
theorem w_c63 : v63.before args0 about1 = true := cw ⟨22, 0⟩ k22m0 k22c0
theorem w_c64 : v64.before args0 about1 = true := cw ⟨21, 0⟩ k21m0 k21c0
theorem w_c65 : v65.before args0 about1 = true := cw ⟨20, 0⟩ k20m0 k20c0
theorem w_c66 : v66.before args0 about1 = true := cw ⟨35, 1⟩ k35m1 k35c1
theorem w_c67 : v67.before args0 about1 = true := cw ⟨22, 2⟩ k22m2 k22c2
theorem w_c68 : v68.before args0 about1 = true := cw ⟨26, 3⟩ k26m3 k26c3
theorem w_c69 : v69.before args0 about1 = true := cw ⟨25, 6⟩ k25m6 k25c6
theorem w_c70 : v70.before args0 about1 = true := cw ⟨22, 3⟩ k22m3 k22c3
theorem w_c71 : v71.before args0 about1 = true := cw ⟨7, 5⟩ k7m5 k7c5
theorem w_c72 : v72.before args0 about1 = true := cw ⟨22, 1⟩ k22m1 k22c1
theorem w_c73 : v73.before args0 about1 = true := cw ⟨8, 10⟩ k8m10 k8c10
theorem w_c74 : v74.before args0 about1 = true := cw ⟨8, 3⟩ k8m3 k8c3
theorem w_c75 : v75.before args0 about1 = true := cw ⟨25, 4⟩ k25m4 k25c4
theorem w_c76 : v76.before args0 about1 = true := cw ⟨8, 1⟩ k8m1 k8c1
theorem w_c77 : v77.before args0 about1 = true := cw ⟨8, 2⟩ k8m2 k8c2
theorem w_c78 : v78.before args0 about1 = true := cw ⟨33, 4⟩ k33m4 k33c4
theorem w_c79 : v79.before args0 about1 = true := cw ⟨8, 13⟩ k8m13 k8c13
theorem w_c80 : v80.before args0 about1 = true := cw ⟨8, 15⟩ k8m15 k8c15
theorem w_c81 : v81.before args0 about1 = true := cw ⟨8, 5⟩ k8m5 k8c5
theorem w_c82 : v82.before args0 about1 = true := cw ⟨7, 15⟩ k7m15 k7c15
theorem w_c83 : v83.before args0 about1 = true := cw ⟨34, 2⟩ k34m2 k34c2
theorem w_c84 : v84.before args0 about1 = true := cw ⟨8, 11⟩ k8m11 k8c11
theorem w_c85 : v85.before args0 about1 = true := cw ⟨8, 14⟩ k8m14 k8c14
theorem w_c86 : v86.before args0 about1 = true := cw ⟨8, 12⟩ k8m12 k8c12
theorem w_c87 : v87.before args0 about1 = true := cw ⟨8, 4⟩ k8m4 k8c4
theorem w_c88 : v88.before args0 about1 = true := cw ⟨8, 6⟩ k8m6 k8c6

def codes1 : List Jvm.Cond := [v0, v1, v2, v3, v4, v5, v6, v7, v8, v9, v10, v11, v12, v13, v14, v15, v16, v17, v18, v19, v20, v21, v22, v23, v24, v25, v26, v27, v28, v29, v30, v31, v32, v33, v34, v35, v36, v37, v38, v39, v40, v41, v42, v43, v44, v45, v46, v47, v48, v49, v50, v51, v52, v53, v54, v55, v56, v57, v58, v59, v60, v61, v62, v63, v64, v65, v66, v67, v68, v69, v70, v71, v72, v73, v74, v75, v76, v77, v78, v79, v80, v81, v82, v83, v84, v85, v86, v87, v88]
theorem codes_eq : words1.filter isCode = codes1 := rfl
theorem w_codes : ∀ c ∈ words1.filter isCode, c.before args0 about1 = true := by
  rw [codes_eq]
  intro c hc
  simp only [codes1, List.mem_cons, List.not_mem_nil, or_false] at hc
  rcases hc with rfl | rfl | rfl | rfl | rfl | rfl | rfl | rfl | rfl | rfl | rfl | rfl | rfl | rfl | rfl | rfl | rfl | rfl | rfl | rfl | rfl | rfl | rfl | rfl | rfl | rfl | rfl | rfl | rfl | rfl | rfl | rfl | rfl | rfl | rfl | rfl | rfl | rfl | rfl | rfl | rfl | rfl | rfl | rfl | rfl | rfl | rfl | rfl | rfl | rfl | rfl | rfl | rfl | rfl | rfl | rfl | rfl | rfl | rfl | rfl | rfl | rfl | rfl | rfl | rfl | rfl | rfl | rfl | rfl | rfl | rfl | rfl | rfl | rfl | rfl | rfl | rfl | rfl | rfl | rfl | rfl | rfl | rfl | rfl | rfl | rfl | rfl | rfl | rfl
  · exact w_c0
  · exact w_c1
  · exact w_c2
  · exact w_c3
  · exact w_c4
  · exact w_c5
  · exact w_c6
  · exact w_c7
  · exact w_c8
  · exact w_c9
  · exact w_c10
  · exact w_c11
  · exact w_c12
  · exact w_c13
  · exact w_c14
  · exact w_c15
  · exact w_c16
  · exact w_c17
  · exact w_c18
  · exact w_c19
  · exact w_c20
  · exact w_c21
  · exact w_c22
  · exact w_c23
  · exact w_c24
  · exact w_c25
  · exact w_c26
  · exact w_c27
  · exact w_c28
  · exact w_c29
  · exact w_c30
  · exact w_c31
  · exact w_c32
  · exact w_c33
  · exact w_c34
  · exact w_c35
  · exact w_c36
  · exact w_c37
  · exact w_c38
  · exact w_c39
  · exact w_c40
  · exact w_c41
  · exact w_c42
  · exact w_c43
  · exact w_c44
  · exact w_c45
  · exact w_c46
  · exact w_c47
  · exact w_c48
  · exact w_c49
  · exact w_c50
  · exact w_c51
  · exact w_c52
  · exact w_c53
  · exact w_c54
  · exact w_c55
  · exact w_c56
  · exact w_c57
  · exact w_c58
  · exact w_c59
  · exact w_c60
  · exact w_c61
  · exact w_c62
  · exact w_c63
  · exact w_c64
  · exact w_c65
  · exact w_c66
  · exact w_c67
  · exact w_c68
  · exact w_c69
  · exact w_c70
  · exact w_c71
  · exact w_c72
  · exact w_c73
  · exact w_c74
  · exact w_c75
  · exact w_c76
  · exact w_c77
  · exact w_c78
  · exact w_c79
  · exact w_c80
  · exact w_c81
  · exact w_c82
  · exact w_c83
  · exact w_c84
  · exact w_c85
  · exact w_c86
  · exact w_c87
  · exact w_c88
theorem w_t1 : (words1.take 24).all (fun c => isCode c || c.before args0 about1) = true := by decide +kernel
theorem w_t2 : ((words1.drop 24).take 24).all (fun c => isCode c || c.before args0 about1) = true := by decide +kernel
theorem w_t3 : (((words1.drop 24).drop 24).take 24).all (fun c => isCode c || c.before args0 about1) = true := by decide +kernel
theorem w_t4 : ((((words1.drop 24).drop 24).drop 24).take 24).all (fun c => isCode c || c.before args0 about1) = true := by decide +kernel
theorem w_t5 : (((((words1.drop 24).drop 24).drop 24).drop 24).take 24).all (fun c => isCode c || c.before args0 about1) = true := by decide +kernel
theorem w_t6 : ((((((words1.drop 24).drop 24).drop 24).drop 24).drop 24).take 24).all (fun c => isCode c || c.before args0 about1) = true := by decide +kernel
theorem w_t7 : (((((((words1.drop 24).drop 24).drop 24).drop 24).drop 24).drop 24).take 24).all (fun c => isCode c || c.before args0 about1) = true := by decide +kernel
theorem w_t8 : ((((((((words1.drop 24).drop 24).drop 24).drop 24).drop 24).drop 24).drop 24).take 24).all (fun c => isCode c || c.before args0 about1) = true := by decide +kernel
theorem w_t9 : (((((((((words1.drop 24).drop 24).drop 24).drop 24).drop 24).drop 24).drop 24).drop 24).take 24).all (fun c => isCode c || c.before args0 about1) = true := by decide +kernel
theorem w_t10 : ((((((((((words1.drop 24).drop 24).drop 24).drop 24).drop 24).drop 24).drop 24).drop 24).drop 24).take 24).all (fun c => isCode c || c.before args0 about1) = true := by decide +kernel
theorem w_t11 : (((((((((((words1.drop 24).drop 24).drop 24).drop 24).drop 24).drop 24).drop 24).drop 24).drop 24).drop 24).take 24).all (fun c => isCode c || c.before args0 about1) = true := by decide +kernel
theorem w_t12 : ((((((((((((words1.drop 24).drop 24).drop 24).drop 24).drop 24).drop 24).drop 24).drop 24).drop 24).drop 24).drop 24).take 24).all (fun c => isCode c || c.before args0 about1) = true := by decide +kernel
theorem w_t13 : (((((((((((((words1.drop 24).drop 24).drop 24).drop 24).drop 24).drop 24).drop 24).drop 24).drop 24).drop 24).drop 24).drop 24).take 24).all (fun c => isCode c || c.before args0 about1) = true := by decide +kernel
theorem w_t14 : ((((((((((((((words1.drop 24).drop 24).drop 24).drop 24).drop 24).drop 24).drop 24).drop 24).drop 24).drop 24).drop 24).drop 24).drop 24).take 24).all (fun c => isCode c || c.before args0 about1) = true := by decide +kernel
theorem w_t15 : (((((((((((((((words1.drop 24).drop 24).drop 24).drop 24).drop 24).drop 24).drop 24).drop 24).drop 24).drop 24).drop 24).drop 24).drop 24).drop 24).take 24).all (fun c => isCode c || c.before args0 about1) = true := by decide +kernel
theorem w_t16 : ((((((((((((((((words1.drop 24).drop 24).drop 24).drop 24).drop 24).drop 24).drop 24).drop 24).drop 24).drop 24).drop 24).drop 24).drop 24).drop 24).drop 24).take 24).all (fun c => isCode c || c.before args0 about1) = true := by decide +kernel
theorem w_t17 : (((((((((((((((((words1.drop 24).drop 24).drop 24).drop 24).drop 24).drop 24).drop 24).drop 24).drop 24).drop 24).drop 24).drop 24).drop 24).drop 24).drop 24).drop 24).take 24).all (fun c => isCode c || c.before args0 about1) = true := by decide +kernel
theorem w_t18 : ((((((((((((((((((words1.drop 24).drop 24).drop 24).drop 24).drop 24).drop 24).drop 24).drop 24).drop 24).drop 24).drop 24).drop 24).drop 24).drop 24).drop 24).drop 24).drop 24).take 24).all (fun c => isCode c || c.before args0 about1) = true := by decide +kernel
theorem w_t19 : (((((((((((((((((((words1.drop 24).drop 24).drop 24).drop 24).drop 24).drop 24).drop 24).drop 24).drop 24).drop 24).drop 24).drop 24).drop 24).drop 24).drop 24).drop 24).drop 24).drop 24).take 24).all (fun c => isCode c || c.before args0 about1) = true := by decide +kernel
theorem w_t20 : ((((((((((((((((((((words1.drop 24).drop 24).drop 24).drop 24).drop 24).drop 24).drop 24).drop 24).drop 24).drop 24).drop 24).drop 24).drop 24).drop 24).drop 24).drop 24).drop 24).drop 24).drop 24).take 24).all (fun c => isCode c || c.before args0 about1) = true := by decide +kernel
theorem w_t21 : ((((((((((((((((((((words1.drop 24).drop 24).drop 24).drop 24).drop 24).drop 24).drop 24).drop 24).drop 24).drop 24).drop 24).drop 24).drop 24).drop 24).drop 24).drop 24).drop 24).drop 24).drop 24).drop 24).all (fun c => isCode c || c.before args0 about1) = true := by decide +kernel
theorem w_tables : (allAtoms (Jvm.Cond.code x code maxLocals ret :: tables_1)).before args0 about1 = true := by
  rw [allAtoms_all]
  show words1.all (fun c => c.before args0 about1) = true
  refine all_split ?_ w_codes
  rw [← List.take_append_drop 24 words1, List.all_append, w_t1, ← List.take_append_drop 24 (words1.drop 24), List.all_append, w_t2, ← List.take_append_drop 24 ((words1.drop 24).drop 24), List.all_append, w_t3, ← List.take_append_drop 24 (((words1.drop 24).drop 24).drop 24), List.all_append, w_t4, ← List.take_append_drop 24 ((((words1.drop 24).drop 24).drop 24).drop 24), List.all_append, w_t5, ← List.take_append_drop 24 (((((words1.drop 24).drop 24).drop 24).drop 24).drop 24), List.all_append, w_t6, ← List.take_append_drop 24 ((((((words1.drop 24).drop 24).drop 24).drop 24).drop 24).drop 24), List.all_append, w_t7, ← List.take_append_drop 24 (((((((words1.drop 24).drop 24).drop 24).drop 24).drop 24).drop 24).drop 24), List.all_append, w_t8, ← List.take_append_drop 24 ((((((((words1.drop 24).drop 24).drop 24).drop 24).drop 24).drop 24).drop 24).drop 24), List.all_append, w_t9, ← List.take_append_drop 24 (((((((((words1.drop 24).drop 24).drop 24).drop 24).drop 24).drop 24).drop 24).drop 24).drop 24), List.all_append, w_t10, ← List.take_append_drop 24 ((((((((((words1.drop 24).drop 24).drop 24).drop 24).drop 24).drop 24).drop 24).drop 24).drop 24).drop 24), List.all_append, w_t11, ← List.take_append_drop 24 (((((((((((words1.drop 24).drop 24).drop 24).drop 24).drop 24).drop 24).drop 24).drop 24).drop 24).drop 24).drop 24), List.all_append, w_t12, ← List.take_append_drop 24 ((((((((((((words1.drop 24).drop 24).drop 24).drop 24).drop 24).drop 24).drop 24).drop 24).drop 24).drop 24).drop 24).drop 24), List.all_append, w_t13, ← List.take_append_drop 24 (((((((((((((words1.drop 24).drop 24).drop 24).drop 24).drop 24).drop 24).drop 24).drop 24).drop 24).drop 24).drop 24).drop 24).drop 24), List.all_append, w_t14, ← List.take_append_drop 24 ((((((((((((((words1.drop 24).drop 24).drop 24).drop 24).drop 24).drop 24).drop 24).drop 24).drop 24).drop 24).drop 24).drop 24).drop 24).drop 24), List.all_append, w_t15, ← List.take_append_drop 24 (((((((((((((((words1.drop 24).drop 24).drop 24).drop 24).drop 24).drop 24).drop 24).drop 24).drop 24).drop 24).drop 24).drop 24).drop 24).drop 24).drop 24), List.all_append, w_t16, ← List.take_append_drop 24 ((((((((((((((((words1.drop 24).drop 24).drop 24).drop 24).drop 24).drop 24).drop 24).drop 24).drop 24).drop 24).drop 24).drop 24).drop 24).drop 24).drop 24).drop 24), List.all_append, w_t17, ← List.take_append_drop 24 (((((((((((((((((words1.drop 24).drop 24).drop 24).drop 24).drop 24).drop 24).drop 24).drop 24).drop 24).drop 24).drop 24).drop 24).drop 24).drop 24).drop 24).drop 24).drop 24), List.all_append, w_t18, ← List.take_append_drop 24 ((((((((((((((((((words1.drop 24).drop 24).drop 24).drop 24).drop 24).drop 24).drop 24).drop 24).drop 24).drop 24).drop 24).drop 24).drop 24).drop 24).drop 24).drop 24).drop 24).drop 24), List.all_append, w_t19, ← List.take_append_drop 24 (((((((((((((((((((words1.drop 24).drop 24).drop 24).drop 24).drop 24).drop 24).drop 24).drop 24).drop 24).drop 24).drop 24).drop 24).drop 24).drop 24).drop 24).drop 24).drop 24).drop 24).drop 24), List.all_append, w_t20, w_t21]
  rfl
theorem w_rest : rest_1_c.before args0 about1 = true := by decide +kernel
theorem w_case : (Jvm.Cond.and given_1 narrow_1).before args0 about1 = true := by decide +kernel
theorem w_consts : constsHeld consts_1 about1 := Jvm.Lit.constsHeldB_iff.mp (by decide +kernel)
theorem w_applies : (headSpec (Jvm.Cond.code x code maxLocals ret :: tables_1) room_1).applies x e0.platform about1 = true :=
  (Spec.applies_iff w_frames).mpr ⟨w_running, w_runnable, w_alone, w_named, w_hears, w_ripe, w_room, w_tables⟩
theorem atStart : AtStart classFile x code maxLocals ret World_1 tables_1 room_1 Calls_1 rest_1 Pre_1 launch0 p0 e0 about1 theMethod args0 below0 :=
  ⟨lists_1, trivial, launch0.admits_env _ _ _, launch0.least_env, fairChoices_fair.cas, fairChoices_fair.clock, w_frames, w_args, w_heap, w_applies, ⟨⟨44, k44, 5, by decide +kernel, rfl, rfl, _, rfl, rfl⟩, ⟨w_consts, trivial⟩⟩, w_rest, w_case⟩
end start1
theorem witness_1 : WitnessClaimed_1 := ⟨start1.p0, start1.e0, start1.about1, start1.theMethod, start1.args0, start1.below0, start1.atStart⟩
end Jvm.Pilot.@@N@@
